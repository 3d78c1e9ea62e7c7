import JvmDerived
import JvmDerived.Pilot.@@N@@Statement
import JvmDerived.Pilot.@@N@@Code
set_option linter.unusedVariables false
set_option linter.unusedSimpArgs false
namespace Jvm.RoadKit
open Sem ClassFile Op Lib Jvm.Stand Jvm.Free Jvm.LawKit
section New
variable {p : Program} {l : Launch} {e : Env} {R : Room} {s : State} {m : MethodId} {args : Array Value} {below : List Frame} {meth : Method} {c : Code} {T : State} {locs : List Loc} {cells slots : Nat}
theorem retI (X : Stand p l e R s m args below meth c T locs cells slots) (hx : p.tables.exec = Jvm.exec) {pc : Nat} {Ls : Array Slot} {z : Int32} {rest : List Value} (hret : meth.sig.returnType = some .int) (hd : decode c.code pc = .ok (.ireturn, 1)) {fs : List Frame}
    (hl : ∀ (f : JFrame) (acts : List Action), f.method = m → f.locked = none → f.entered = [] → (doReturn e (T.setTop f) acts (some (.int z))).1 = T.setFrames fs) : Steps p.tables e below (T.setTop (mkF m pc Ls (.int z :: rest))) (T.setFrames fs) := by
  have hm' : T.vm.method? m = some meth := X.method'
  have hn : narrow .int (.int z) = .int z := rfl
  show Steps p.tables e below (T.setTop { method := m, pc := pc, locals := Ls, stack := _ :: rest, locked := none }) _
  jvm_step X.here [X.here.top, hx, hd, hm', hret, hn]
  first | (intro acts; rw [hl _ acts rfl rfl rfl]) | rw [hl _ _ rfl rfl rfl]
  exact Steps.refl _
theorem retZ (X : Stand p l e R s m args below meth c T locs cells slots) (hx : p.tables.exec = Jvm.exec) {pc : Nat} {Ls : Array Slot} {z : Int32} {rest : List Value} (hret : meth.sig.returnType = some .boolean) (hz : z &&& 1 = z) (hd : decode c.code pc = .ok (.ireturn, 1)) {fs : List Frame}
    (hl : ∀ (f : JFrame) (acts : List Action), f.method = m → f.locked = none → f.entered = [] → (doReturn e (T.setTop f) acts (some (.int z))).1 = T.setFrames fs) : Steps p.tables e below (T.setTop (mkF m pc Ls (.int z :: rest))) (T.setFrames fs) := by
  have hn : narrow .boolean (.int z) = .int z := by show Value.int (z &&& 1) = _; rw [hz]
  exact retOut X hx hret hn (Or.inl ⟨rfl, Or.inr (Or.inl rfl), z, rfl⟩) hd hl
theorem retJ (X : Stand p l e R s m args below meth c T locs cells slots) (hx : p.tables.exec = Jvm.exec) {pc : Nat} {Ls : Array Slot} {z : Int64} {rest : List Value} (hret : meth.sig.returnType = some .long) (hd : decode c.code pc = .ok (.lreturn, 1)) {fs : List Frame}
    (hl : ∀ (f : JFrame) (acts : List Action), f.method = m → f.locked = none → f.entered = [] → (doReturn e (T.setTop f) acts (some (.long z))).1 = T.setFrames fs) : Steps p.tables e below (T.setTop (mkF m pc Ls (.long z :: rest))) (T.setFrames fs) :=
  retOut X hx hret rfl (Or.inr (Or.inl ⟨rfl, rfl, z, rfl⟩)) hd hl
theorem retA (X : Stand p l e R s m args below meth c T locs cells slots) (hx : p.tables.exec = Jvm.exec) {pc : Nat} {Ls : Array Slot} {a : Addr} {rest : List Value} {t : FieldType} (ht : t.isReference = true) (hn : narrow t (.ref a) = .ref a) (hret : meth.sig.returnType = some t) (hd : decode c.code pc = .ok (.areturn, 1)) {fs : List Frame}
    (hl : ∀ (f : JFrame) (acts : List Action), f.method = m → f.locked = none → f.entered = [] → (doReturn e (T.setTop f) acts (some (.ref a))).1 = T.setFrames fs) : Steps p.tables e below (T.setTop (mkF m pc Ls (.ref a :: rest))) (T.setFrames fs) :=
  retOut X hx hret hn (Or.inr (Or.inr (Or.inr (Or.inr ⟨rfl, ht, rfl⟩)))) hd hl
theorem newPk {Z : State} {a0 : Array Value} {h : Heap} (X : Stand p l e R s m args below meth c T locs cells slots) (hx : p.tables.exec = Jvm.exec) (hZ : Z.Warmed39 s.vm) {aty : ArrayType} (w : (Cond.arrayClass (newarray.typeOf aty)).before a0 Z = true) (eT : T.heap = h) {g : JFrame} (hg : g.method = m)
    (hd : decode c.code g.pc = .ok (.newarray aty, 2)) {n : Int32} {rest : List Value} (hs : g.stack = .int n :: rest) (hn : ¬ n < 0) {cap : Nat} (hcap : n.toNatClampNeg ≤ cap) (hb : cap * 8 ≤ 536870912) (hc : cells + 1 ≤ R.cells) (hl : slots + cap ≤ R.slots) :
    ∃ T' h' cA, Stand p l e R s m args below meth c T' locs (cells + 1) (slots + cap) ∧ T'.heap = h' ∧ Ext h h' ∧ Arr Z h' h.size (newA cA (newarray.typeOf aty) n) (newarray.typeOf aty) ∧ Z.vm.findClass ("[" ++ (newarray.typeOf aty).toString) = some cA ∧
      ∀ target, Steps p.tables e below (T'.setTop { g with pc := g.pc + 2, stack := .ref h.size :: rest }) target → Steps p.tables e below (T.setTop g) target := by
  have hw8 : componentBytes (newarray.typeOf aty) ≤ 8 := by cases aty <;> decide
  obtain ⟨cA, kA, comp, f1, f2, f3, X', st⟩ := X.newarrayPrim hx (mvA hZ w) hg hd hs hn (Nat.le_trans (Nat.mul_le_mul hcap hw8) hb) hc (by omega)
  subst eT
  have f0 : Z.vm.findClass ("[" ++ (newarray.typeOf aty).toString) = some cA := by rw [← hZ.alike.findClass]; exact f1
  obtain ⟨kZ, z1, -⟩ := Vm.findClass_spec f0
  obtain ⟨k', z2, z3⟩ := hZ.alike.2.2 _ _ z1
  have ek : kA = k' := Option.some.inj (f2.symm.trans z2)
  have hq : kZ.kind = .array comp (newarray.typeOf aty) := by rw [← f3, ek, z3]
  refine ⟨_, _, cA, X'.more (Nat.le_refl _) (by omega), rfl, ext_of fun a ha => ?_, ⟨?_, ⟨fun q => by simp [newA], kZ, z1, comp, hq⟩, by simp [newA]⟩, f0, st⟩
  · show (T.heap.push _)[a]? = _
    rw [Array.getElem?_push_lt ha, Array.getElem?_eq_getElem ha]
  · show (T.heap.push _)[T.heap.size]? = _
    simp [newA]
theorem selPriv {s : State} {args : Array Value} {C : String} {y y0 : MethodName} (hsel : (Cond.selects C y0 y0).before args s = true) (hcls : y0.cls = y.cls) (hpriv : s.PrivateAt y) (hinst : (Cond.instanceMethod y).before args s = true) (hy : y.cls ≠ "java/lang/invoke/MethodHandle" ∧ y.cls ≠ "java/lang/invoke/VarHandle") : (Cond.selects y.cls y y).before args s = true := by
  obtain ⟨mk, meth, hnamed, hm, -, -⟩ := Cond.instanceMethod_spec hinst
  have hc := findClass_of_methodNamed hnamed
  obtain ⟨_, _, m2, -, -, q3, -, kP, hkP, hkPi⟩ := Cond.selects_spec hsel
  have h0 := findClass_of_methodNamed q3
  rw [hcls] at h0
  have e : mk.cls = m2.cls := Option.some.inj (hc.symm.trans h0)
  exact selects_self_of_private hc (by rw [e]; exact hkP) hkPi hpriv hinst hy
theorem insA {Z : State} {h : Heap} {a : Addr} {k : ClassId} {ty : FieldType} {z : Int32} {vs : List Value} {d : Value} {K : String} (F : Arv Z h a k ty z vs d) (hk : Z.vm.findClass K = some k) : Ins Z h a K true := by
  obtain ⟨c, A, q, -⟩ := F
  exact ⟨c, k, A.1, hk, by simp [A.plain, q, Vm.assignable_self]⟩
theorem lswHit {g : JFrame} {target : State} (X : Stand p l e R s m args below meth c T locs cells slots) (hx : p.tables.exec = Jvm.exec) (hg : g.method = m) {pc0 pc' : Nat} (hpc : g.pc = pc0) {k : Int32} {rest : List Value} {dflt : Int} {pairs : Array (Int × Int)} {len : Nat}
    (hd : decode c.code g.pc = .ok (.lookupswitch dflt pairs, len)) (hs : g.stack = .int k :: rest) (hsort : (pairs.toList.zip (pairs.toList.drop 1)).all (fun (a, next) => a.1 < next.1) = true) {a off : Int} (hf : pairs.find? (·.1 == k.toInt) = some (a, off)) (ho : 0 ≤ (pc0 : Int) + off) (hp : ((pc0 : Int) + off).toNat = pc')
    (hr : Steps p.tables e below (T.setTop { g with pc := pc', stack := rest }) target) : Steps p.tables e below (T.setTop g) target := by
  subst hpc hp
  exact X.lookupswitchHit hx hg hs hd hsort hf ho _ hr
theorem lswMiss {g : JFrame} {target : State} (X : Stand p l e R s m args below meth c T locs cells slots) (hx : p.tables.exec = Jvm.exec) (hg : g.method = m) {pc0 pc' : Nat} (hpc : g.pc = pc0) {k : Int32} {rest : List Value} {dflt : Int} {pairs : Array (Int × Int)} {len : Nat}
    (hd : decode c.code g.pc = .ok (.lookupswitch dflt pairs, len)) (hs : g.stack = .int k :: rest) (hsort : (pairs.toList.zip (pairs.toList.drop 1)).all (fun (a, next) => a.1 < next.1) = true) (hf : pairs.find? (·.1 == k.toInt) = none) (ho : 0 ≤ (pc0 : Int) + dflt) (hp : ((pc0 : Int) + dflt).toNat = pc')
    (hr : Steps p.tables e below (T.setTop { g with pc := pc', stack := rest }) target) : Steps p.tables e below (T.setTop g) target := by
  subst hpc hp
  exact X.lookupswitchMiss hx hg hs hd hsort hf ho _ hr
end New
end Jvm.RoadKit
namespace Jvm.Pilot.@@N@@
open Jvm Jvm.ClassFile Sem Op Lib Jvm.Free Jvm.Stand Jvm.LawKit Jvm.RoadKit Bundle Jvm.Pilot.@@N@@.Jvm.D
theorem d1_0 : decode jdk_29_method_66_code 0 = .ok (.lload_n 0, 1) := by decide +kernel
theorem d1_1 : decode jdk_29_method_66_code 1 = .ok (.lload_n 2, 1) := by decide +kernel
theorem d1_2 : decode jdk_29_method_66_code 2 = .ok (.lcmp, 1) := by decide +kernel
theorem d1_3 : decode jdk_29_method_66_code 3 = .ok (.ifCond .lt 7, 3) := by decide +kernel
theorem d1_10 : decode jdk_29_method_66_code 10 = .ok (.lload_n 2, 1) := by decide +kernel
theorem d1_11 : decode jdk_29_method_66_code 11 = .ok (.lreturn, 1) := by decide +kernel
theorem d1_6 : decode jdk_29_method_66_code 6 = .ok (.lload_n 0, 1) := by decide +kernel
theorem d1_7 : decode jdk_29_method_66_code 7 = .ok (.goto 4, 3) := by decide +kernel
theorem ef_rm1 (m : MethodId) (q0 : Int64) (q1 : Int64) : entryFrame m #[(.long q0), (.long q1)] 4 = mkF m 0 #[.val (.long q0), .second, .val (.long q1), .second] [] := by first | (simp [entryFrame, mkF, argsToLocals, Value.category]; done) | rfl
def f_max (q0 : Int64) (q1 : Int64) : Int64 := (if q0 < q1 then q1 else q0)
def Q_rm1 (Z : State) (q0 : Int64) (q1 : Int64) (h0 : Heap) (n0 : Nat) (v : Option Value) (h : Heap) (L : List Loc) : Prop := v = some (.long (f_max q0 q1)) ∧ Fr n0 L ∧ h = h0
set_option maxRecDepth 65536 in
set_option maxHeartbeats 40000000 in
theorem rm1 (l : Launch) (Z : State) (aw : Array Value) (hw : ∀ d ∈ tables_1, d.before aw Z = true) (ws : List Jvm.Cond) (q0 : Int64) (q1 : Int64) (h0 : Heap) (n0 : Nat) (Z0 : n0 ≤ h0.size) :
    MetFree l (⟨"java/lang/Math", "max", "(JJ)J"⟩ : MethodName) (head1 (Jvm.Cond.code (⟨"java/lang/Math", "max", "(JJ)J"⟩ : MethodName) jdk_29_method_66_code 4 (some .long) :: ws) ({ frames := 0, cells := 0, slots := 0, locals := 0 } : Room)) (fun a U => a = #[(.long q0), (.long q1)] ∧ Z.Warmed39 U.vm ∧ U.heap = h0) (fun _ _ _ _ _ => True) (fun _ U o U' => ∃ v L, o = .returned v ∧ Q_rm1 Z q0 q1 h0 n0 v U'.heap L ∧ FrameEnd U o U' L ({ frames := 0, cells := 0, slots := 0, locals := 0 } : Room).cells ({ frames := 0, cells := 0, slots := 0, locals := 0 } : Room).slots) := by
  refine MetFree.of_bodySF (Jvm.Free.JP.mathPlain rfl (by decide +kernel)) hisR ?_
  intro p e s m args below meth c s₁ Bd hml0 hP hK
  obtain ⟨rfl, hZ, hh⟩ := hP
  have hx := Bd.exec
  have hby := Bd.bytes
  have hml : c.maxLocals = 4 := hml0
  have hown : s.vm.findClass "java/lang/Math" = some m.cls := findClass_of_methodNamed Bd.named
  have hnm := (name_of_methodNamed Bd.named Bd.method).1
  have X0 : Stand p l e ({ frames := 0, cells := 0, slots := 0, locals := 0 } : Room) s m #[(.long q0), (.long q1)] below meth c s₁ [] 0 0 := Stand.of_body Bd
  have e0 : s₁.heap = h0 := by rw [← hh, Bd.state]; rfl
  have N0 := Fr.nil n0
  have pre0 : ∀ t, Steps p.tables e below (s₁.setTop (mkF m 0 #[.val (.long q0), .second, .val (.long q1), .second] [])) t → Steps p.tables e below (s₁.setTop (entryFrame m #[(.long q0), (.long q1)] 4)) t := fun t k => castTop (ef_rm1 m q0 q1) k
  have pre101 : ∀ t, Steps p.tables e below (s₁.setTop (mkF m 3 #[.val (.long q0), .second, .val (.long q1), .second] [(.int (lcmpW q0 q1))])) t → Steps p.tables e below (s₁.setTop (entryFrame m #[(.long q0), (.long q1)] 4)) t := fun t k => by
    refine pre0 t ?_
    show Steps p.tables e below (s₁.setTop (mkF m 0 #[.val (.long q0), .second, .val (.long q1), .second] [])) _
    refine XS.lloadN X0.here hx rfl (hb hby d1_0) rfl ?_
    show Steps p.tables e below (s₁.setTop (mkF m 1 #[.val (.long q0), .second, .val (.long q1), .second] [(.long q0)])) _
    refine XS.lloadN X0.here hx rfl (hb hby d1_1) rfl ?_
    show Steps p.tables e below (s₁.setTop (mkF m 2 #[.val (.long q0), .second, .val (.long q1), .second] [(.long q1), (.long q0)])) _
    refine XS.lcmp X0.here hx rfl (hb hby d1_2) rfl ?_
    exact k
  by_cases c102 : q0 < q1
  ·
    obtain ⟨fs, hr, hrun, hended, hW, hsame⟩ := X0.leave (v := some (.long q1)) (fun h => by rw [Bd.returns] at h; cases h)
    refine ⟨_, _, pre101 _ ?_, hrun, hended, _, _, rfl, ?_, ⟨_, rfl⟩, hW, hsame.mono (by decide) (by decide)⟩
    ·
      show Steps p.tables e below (s₁.setTop (mkF m 3 #[.val (.long q0), .second, .val (.long q1), .second] [(.int (lcmpW q0 q1))])) _
      refine XS.ifYes X0.here hx rfl (pc0 := 3) (pc' := 10) rfl (hb hby d1_3) rfl ((if0 _ _).trans (tlt ((lw_lt _ _).mpr c102)).1) (by decide) (by decide) ?_
      show Steps p.tables e below (s₁.setTop (mkF m 10 #[.val (.long q0), .second, .val (.long q1), .second] [])) _
      refine XS.lloadN X0.here hx rfl (hb hby d1_10) rfl ?_
      show Steps p.tables e below (s₁.setTop (mkF m 11 #[.val (.long q0), .second, .val (.long q1), .second] [(.long q1)])) _
      exact retJ X0 hx Bd.returns (hb hby d1_11) hr
    ·
      show Q_rm1 Z q0 q1 h0 n0 _ s₁.heap _
      rw [e0]
      exact ⟨by simp only [f_max, if_pos c102], N0, rfl⟩
  ·
    obtain ⟨fs, hr, hrun, hended, hW, hsame⟩ := X0.leave (v := some (.long q0)) (fun h => by rw [Bd.returns] at h; cases h)
    refine ⟨_, _, pre101 _ ?_, hrun, hended, _, _, rfl, ?_, ⟨_, rfl⟩, hW, hsame.mono (by decide) (by decide)⟩
    ·
      show Steps p.tables e below (s₁.setTop (mkF m 3 #[.val (.long q0), .second, .val (.long q1), .second] [(.int (lcmpW q0 q1))])) _
      refine XS.ifNo X0.here hx rfl (hb hby d1_3) rfl ((if0 _ _).trans (flt (fun q => c102 ((lw_lt _ _).mp q))).1) ?_
      show Steps p.tables e below (s₁.setTop (mkF m 6 #[.val (.long q0), .second, .val (.long q1), .second] [])) _
      refine XS.lloadN X0.here hx rfl (hb hby d1_6) rfl ?_
      show Steps p.tables e below (s₁.setTop (mkF m 7 #[.val (.long q0), .second, .val (.long q1), .second] [(.long q0)])) _
      refine XS.goto X0.here hx rfl (pc0 := 7) (pc' := 11) rfl (hb hby d1_7) (by decide) (by decide) ?_
      show Steps p.tables e below (s₁.setTop (mkF m 11 #[.val (.long q0), .second, .val (.long q1), .second] [(.long q0)])) _
      exact retJ X0 hx Bd.returns (hb hby d1_11) hr
    ·
      show Q_rm1 Z q0 q1 h0 n0 _ s₁.heap _
      rw [e0]
      exact ⟨by simp only [f_max, if_neg c102], N0, rfl⟩
theorem d3_0 : decode jdk_30_method_1_code 0 = .ok (.aload_n 0, 1) := by decide +kernel
theorem d3_1 : decode jdk_30_method_1_code 1 = .ok (.invokespecial 1, 3) := by decide +kernel
theorem d3_4 : decode jdk_30_method_1_code 4 = .ok (.return_, 1) := by decide +kernel
theorem pn_0 : plainName "java/lang/Record" = true := by first | (simp [plainName, overriddenIn]; done) | decide +kernel
theorem ef_rm3 (m : MethodId) (a0 : Addr) : entryFrame m #[(.ref a0)] 1 = mkF m 0 #[.val (.ref a0)] [] := by first | (simp [entryFrame, mkF, argsToLocals, Value.category]; done) | rfl
def Q_rm3 (Z : State) (a0 : Addr) (h0 : Heap) (n0 : Nat) (v : Option Value) (h : Heap) (L : List Loc) : Prop := v = none ∧ Fr n0 L ∧ h = h0
set_option maxRecDepth 65536 in
set_option maxHeartbeats 40000000 in
theorem rm3 (l : Launch) (Z : State) (aw : Array Value) (hw : ∀ d ∈ tables_1, d.before aw Z = true) (ws : List Jvm.Cond) (a0 : Addr) (h0 : Heap) (n0 : Nat) (Z0 : n0 ≤ h0.size) :
    MetFree l (⟨"java/lang/Record", "<init>", "()V"⟩ : MethodName) (head1 (Jvm.Cond.code (⟨"java/lang/Record", "<init>", "()V"⟩ : MethodName) jdk_30_method_1_code 1 none :: ws) ({ frames := 1, cells := 0, slots := 0, locals := 12 } : Room)) (fun a U => a = #[(.ref a0)] ∧ Z.Warmed39 U.vm ∧ U.heap = h0) (fun _ _ _ _ _ => True) (fun _ U o U' => ∃ v L, o = .returned v ∧ Q_rm3 Z a0 h0 n0 v U'.heap L ∧ FrameEnd U o U' L ({ frames := 1, cells := 0, slots := 0, locals := 12 } : Room).cells ({ frames := 1, cells := 0, slots := 0, locals := 12 } : Room).slots) := by
  refine MetFree.of_bodySF (plainFor_of_name pn_0) hisR ?_
  intro p e s m args below meth c s₁ Bd hml0 hP hK
  obtain ⟨rfl, hZ, hh⟩ := hP
  have hx := Bd.exec
  have hby := Bd.bytes
  have hml : c.maxLocals = 1 := hml0
  have hown : s.vm.findClass "java/lang/Record" = some m.cls := findClass_of_methodNamed Bd.named
  have hnm := (name_of_methodNamed Bd.named Bd.method).1
  have X0 : Stand p l e ({ frames := 1, cells := 0, slots := 0, locals := 12 } : Room) s m #[(.ref a0)] below meth c s₁ [] 0 0 := Stand.of_body Bd
  have e0 : s₁.heap = h0 := by rw [← hh, Bd.state]; rfl
  have N0 := Fr.nil n0
  have pre0 : ∀ t, Steps p.tables e below (s₁.setTop (mkF m 0 #[.val (.ref a0)] [])) t → Steps p.tables e below (s₁.setTop (entryFrame m #[(.ref a0)] 1)) t := fun t k => castTop (ef_rm3 m a0) k
  obtain ⟨T103, X103, e103, st103⟩ := initO X0 hx hZ hown (hw _ (List.mem_of_getElem? (i := 25) rfl)) (hw _ (List.mem_of_getElem? (i := 26) rfl)) (hw _ (List.mem_of_getElem? (i := 27) rfl)) e0 (g := (mkF m 1 #[.val (.ref a0)] [(.ref a0)])) rfl (by rw [hml]; rfl) rfl (hb hby d3_1) (by decide) (W := 0) (by show 2 * 0 + _ ≤ _; exact Nat.le_of_eq rfl) (by decide)
  obtain ⟨fs, hr, hrun, hended, hW, hsame⟩ := X103.leave (v := none) (fun _ => rfl)
  refine ⟨_, _, pre0 _ ?_, hrun, hended, _, _, rfl, ?_, ⟨_, rfl⟩, hW, hsame.mono (by decide) (by decide)⟩
  ·
    show Steps p.tables e below (s₁.setTop (mkF m 0 #[.val (.ref a0)] [])) _
    refine XS.aloadN X0.here hx rfl (hb hby d3_0) rfl rfl ?_
    show Steps p.tables e below (s₁.setTop (mkF m 1 #[.val (.ref a0)] [(.ref a0)])) _
    refine st103 _ ?_
    show Steps p.tables e below (T103.setTop (mkF m 4 #[.val (.ref a0)] [])) _
    exact X103.returnOut hx Bd.returns (hb hby d3_4) hr
  ·
    show Q_rm3 Z a0 h0 n0 _ T103.heap _
    rw [e103]
    exact ⟨rfl, N0, rfl⟩
theorem d2_0 : decode prog_10_method_1_code 0 = .ok (.aload_n 0, 1) := by decide +kernel
theorem pd_0 : parseMethodDescriptor "()V" = some ⟨[], none⟩ := by decide +kernel
theorem d2_1 : decode prog_10_method_1_code 1 = .ok (.invokespecial 1, 3) := by decide +kernel
theorem d2_4 : decode prog_10_method_1_code 4 = .ok (.lload 4, 2) := by decide +kernel
theorem d2_6 : decode prog_10_method_1_code 6 = .ok (.lconst 1, 1) := by decide +kernel
theorem d2_7 : decode prog_10_method_1_code 7 = .ok (.lcmp, 1) := by decide +kernel
theorem d2_8 : decode prog_10_method_1_code 8 = .ok (.ifCond .ge 18, 3) := by decide +kernel
theorem d2_26 : decode prog_10_method_1_code 26 = .ok (.aload_n 0, 1) := by decide +kernel
theorem d2_27 : decode prog_10_method_1_code 27 = .ok (.aload_n 1, 1) := by decide +kernel
theorem d2_28 : decode prog_10_method_1_code 28 = .ok (.putfield 16, 3) := by decide +kernel
theorem d2_31 : decode prog_10_method_1_code 31 = .ok (.aload_n 0, 1) := by decide +kernel
theorem d2_32 : decode prog_10_method_1_code 32 = .ok (.lload_n 2, 1) := by decide +kernel
theorem d2_33 : decode prog_10_method_1_code 33 = .ok (.putfield 22, 3) := by decide +kernel
theorem d2_36 : decode prog_10_method_1_code 36 = .ok (.aload_n 0, 1) := by decide +kernel
theorem d2_37 : decode prog_10_method_1_code 37 = .ok (.lload 4, 2) := by decide +kernel
theorem d2_39 : decode prog_10_method_1_code 39 = .ok (.putfield 26, 3) := by decide +kernel
theorem d2_42 : decode prog_10_method_1_code 42 = .ok (.return_, 1) := by decide +kernel
theorem pn_1 : plainName "com/example/sheafworks/sheafworks/bench/Bench$Result" = true := by first | (simp [plainName, overriddenIn]; done) | decide +kernel
theorem ef_rm2 (m : MethodId) (a0 : Addr) (a1 : Addr) (q2 : Int64) (q3 : Int64) : entryFrame m #[(.ref a0), (.ref a1), (.long q2), (.long q3)] 6 = mkF m 0 #[.val (.ref a0), .val (.ref a1), .val (.long q2), .second, .val (.long q3), .second] [] := by first | (simp [entryFrame, mkF, argsToLocals, Value.category]; done) | rfl
def Q_rm2 (Z : State) (a0 : Addr) (a1 : Addr) (q2 : Int64) (q3 : Int64) (h0 : Heap) (n0 : Nat) (v : Option Value) (h : Heap) (L : List Loc) : Prop := v = none ∧ Fr n0 L ∧ Keep h0 h [a0] ∧ Exa Z h a0 "com/example/sheafworks/sheafworks/bench/Bench$Result" ∧ Fld Z h a0 "com/example/sheafworks/sheafworks/bench/Bench$Result" "operations" "J" (.long q2) ∧ Fld Z h a0 "com/example/sheafworks/sheafworks/bench/Bench$Result" "micros" "J" (.long q3)
set_option maxRecDepth 65536 in
set_option maxHeartbeats 40000000 in
theorem rm2 (l : Launch) (Z : State) (aw : Array Value) (hw : ∀ d ∈ tables_1, d.before aw Z = true) (ws : List Jvm.Cond) (a0 : Addr) (a1 : Addr) (q2 : Int64) (q3 : Int64) (h0 : Heap) (n0 : Nat) (Z0 : n0 ≤ h0.size) (E_a0 : Exa Z h0 a0 "com/example/sheafworks/sheafworks/bench/Bench$Result") (F_a0_name : Fld Z h0 a0 "com/example/sheafworks/sheafworks/bench/Bench$Result" "name" "Ljava/lang/String;" .null) (F_a0_operations : Fld Z h0 a0 "com/example/sheafworks/sheafworks/bench/Bench$Result" "operations" "J" (.long (0 : Int64))) (F_a0_micros : Fld Z h0 a0 "com/example/sheafworks/sheafworks/bench/Bench$Result" "micros" "J" (.long (0 : Int64))) (g_a0 : n0 ≤ a0) (hm : ¬ (q3 < (1 : Int64))) :
    MetFree l (⟨"com/example/sheafworks/sheafworks/bench/Bench$Result", "<init>", "(Ljava/lang/String;JJ)V"⟩ : MethodName) (head1 (Jvm.Cond.code (⟨"com/example/sheafworks/sheafworks/bench/Bench$Result", "<init>", "(Ljava/lang/String;JJ)V"⟩ : MethodName) prog_10_method_1_code 6 none :: ws) ({ frames := 2, cells := 0, slots := 0, locals := 24 } : Room)) (fun a U => a = #[(.ref a0), (.ref a1), (.long q2), (.long q3)] ∧ Z.Warmed39 U.vm ∧ U.heap = h0) (fun _ _ _ _ _ => True) (fun _ U o U' => ∃ v L, o = .returned v ∧ Q_rm2 Z a0 a1 q2 q3 h0 n0 v U'.heap L ∧ FrameEnd U o U' L ({ frames := 2, cells := 0, slots := 0, locals := 24 } : Room).cells ({ frames := 2, cells := 0, slots := 0, locals := 24 } : Room).slots) := by
  refine MetFree.of_bodySF (plainFor_of_name pn_1) hisR ?_
  intro p e s m args below meth c s₁ Bd hml0 hP hK
  obtain ⟨rfl, hZ, hh⟩ := hP
  have hx := Bd.exec
  have hby := Bd.bytes
  have hml : c.maxLocals = 6 := hml0
  have hown : s.vm.findClass "com/example/sheafworks/sheafworks/bench/Bench$Result" = some m.cls := findClass_of_methodNamed Bd.named
  have hnm := (name_of_methodNamed Bd.named Bd.method).1
  have X0 : Stand p l e ({ frames := 2, cells := 0, slots := 0, locals := 24 } : Room) s m #[(.ref a0), (.ref a1), (.long q2), (.long q3)] below meth c s₁ [] 0 0 := Stand.of_body Bd
  have e0 : s₁.heap = h0 := by rw [← hh, Bd.state]; rfl
  have N0 := Fr.nil n0
  have pre0 : ∀ t, Steps p.tables e below (s₁.setTop (mkF m 0 #[.val (.ref a0), .val (.ref a1), .val (.long q2), .second, .val (.long q3), .second] [])) t → Steps p.tables e below (s₁.setTop (entryFrame m #[(.ref a0), (.ref a1), (.long q2), (.long q3)] 6)) t := fun t k => castTop (ef_rm2 m a0 a1 q2 q3) k
  have KC0 : Keep h0 h0 [a0] := Keep.refl h0 [a0]
  obtain ⟨_, _, ⟨T104, L104, k104, n104⟩, -, X104, ⟨Lc104, hQ104, l104, y104, z104⟩, st104⟩ := X0.specialBack hx (y := (⟨"java/lang/Record", "<init>", "()V"⟩ : MethodName)) rfl hown (mvT hZ (hw _ (List.mem_of_getElem? (i := 20) rfl))) (mvT hZ (hw _ (List.mem_of_getElem? (i := 21) rfl))) (mvT hZ (hw _ (List.mem_of_getElem? (i := 24) rfl))) (by decide) (backOf (W := 0) (rm3 l Z aw hw [] a0 h0 n0 Z0) hZ (hw _ (List.mem_of_getElem? (i := 24) rfl)) (hw _ (List.mem_of_getElem? (i := 23) rfl)) (by decide) (by decide)) (g := (mkF m 1 #[.val (.ref a0), .val (.ref a1), .val (.long q2), .second, .val (.long q3), .second] [(.ref a0)])) rfl (by rw [hml]; rfl) (Steps.refl _) (a := a0) (argsL := []) (rest := []) (lenOf pd_0 rfl) rfl (by show 2 * 0 + _ ≤ _; exact Nat.le_of_eq rfl) (hb hby d2_1) (fun _ _ => ⟨rfl, e0, (by decide : 0 + 0 ≤ _), (by decide : 0 + 0 ≤ _)⟩)
  dsimp only [Pt.U, Pt.locs, Pt.cells, Pt.slots] at X104 l104 y104 z104 st104 hQ104
  subst l104 y104 z104
  obtain ⟨rfl, N104q, e104⟩ := hQ104
  have N104 := Fr.app N0 N104q
  have c105 : ¬ (q3 < (1 : Int64)) := by
    exact hm
  obtain ⟨T106, h106, X106, e106, W106, st106⟩ := putF X104 hx hZ hown (host := "") (Or.inl (hw _ (List.mem_of_getElem? (i := 28) rfl))) Via.refl e104 F_a0_name E_a0 (Or.inr ⟨(hw _ (List.mem_of_getElem? (i := 29) rfl)), rfl, hnm⟩) (hw _ (List.mem_of_getElem? (i := 7) rfl)) (ty := (.object "java/lang/String")) (by decide) rfl rfl (g := (mkF m 28 #[.val (.ref a0), .val (.ref a1), .val (.long q2), .second, .val (.long q3), .second] [(.ref a1), (.ref a0)])) rfl rfl (hb hby d2_28)
  have f107 := E_a0.wr W106
  have f108 := F_a0_operations.other W106 (Or.inr (slot_ne (Or.inr (hw _ (List.mem_of_getElem? (i := 31) rfl))) (Or.inr (hw _ (List.mem_of_getElem? (i := 29) rfl))) (by decide) (t := .long) (t' := (.object "java/lang/String")) (by decide) (by decide)))
  have f109 := F_a0_micros.other W106 (Or.inr (slot_ne (Or.inr (hw _ (List.mem_of_getElem? (i := 33) rfl))) (Or.inr (hw _ (List.mem_of_getElem? (i := 29) rfl))) (by decide) (t := .long) (t' := (.object "java/lang/String")) (by decide) (by decide)))
  have Z110 : n0 ≤ h106.size := Nat.le_trans Z0 (Keep.of_wr W106).1
  have K111 : Keep h0 h106 [a0] := Keep.wr KC0 W106 (Or.inl (List.mem_of_getElem? (i := 0) rfl))
  have N112 := Fr.snoc X106 N104 g_a0
  have f113 : Fld Z h106 a0 "com/example/sheafworks/sheafworks/bench/Bench$Result" "name" "Ljava/lang/String;" (.ref a1) := F_a0_name.same W106
  obtain ⟨T114, h114, X114, e114, W114, st114⟩ := putF X106 hx hZ hown (host := "") (Or.inl (hw _ (List.mem_of_getElem? (i := 30) rfl))) Via.refl e106 f108 f107 (Or.inr ⟨(hw _ (List.mem_of_getElem? (i := 31) rfl)), rfl, hnm⟩) (hw _ (List.mem_of_getElem? (i := 7) rfl)) (ty := .long) (by decide) rfl rfl (g := (mkF m 33 #[.val (.ref a0), .val (.ref a1), .val (.long q2), .second, .val (.long q3), .second] [(.long q2), (.ref a0)])) rfl rfl (hb hby d2_33)
  have f115 := f107.wr W114
  have f116 := f109.other W114 (Or.inr (slot_ne (Or.inr (hw _ (List.mem_of_getElem? (i := 33) rfl))) (Or.inr (hw _ (List.mem_of_getElem? (i := 31) rfl))) (by decide) (t := .long) (t' := .long) (by decide) (by decide)))
  have f117 := f113.other W114 (Or.inr (slot_ne (Or.inr (hw _ (List.mem_of_getElem? (i := 29) rfl))) (Or.inr (hw _ (List.mem_of_getElem? (i := 31) rfl))) (by decide) (t := (.object "java/lang/String")) (t' := .long) (by decide) (by decide)))
  have Z118 : n0 ≤ h114.size := Nat.le_trans Z110 (Keep.of_wr W114).1
  have K119 : Keep h0 h114 [a0] := Keep.wr K111 W114 (Or.inl (List.mem_of_getElem? (i := 0) rfl))
  have N120 := Fr.snoc X114 N112 g_a0
  have f121 : Fld Z h114 a0 "com/example/sheafworks/sheafworks/bench/Bench$Result" "operations" "J" (.long q2) := f108.same W114
  obtain ⟨T122, h122, X122, e122, W122, st122⟩ := putF X114 hx hZ hown (host := "") (Or.inl (hw _ (List.mem_of_getElem? (i := 32) rfl))) Via.refl e114 f116 f115 (Or.inr ⟨(hw _ (List.mem_of_getElem? (i := 33) rfl)), rfl, hnm⟩) (hw _ (List.mem_of_getElem? (i := 7) rfl)) (ty := .long) (by decide) rfl rfl (g := (mkF m 39 #[.val (.ref a0), .val (.ref a1), .val (.long q2), .second, .val (.long q3), .second] [(.long q3), (.ref a0)])) rfl rfl (hb hby d2_39)
  have f123 := f115.wr W122
  have f124 := f117.other W122 (Or.inr (slot_ne (Or.inr (hw _ (List.mem_of_getElem? (i := 29) rfl))) (Or.inr (hw _ (List.mem_of_getElem? (i := 33) rfl))) (by decide) (t := (.object "java/lang/String")) (t' := .long) (by decide) (by decide)))
  have f125 := f121.other W122 (Or.inr (slot_ne (Or.inr (hw _ (List.mem_of_getElem? (i := 31) rfl))) (Or.inr (hw _ (List.mem_of_getElem? (i := 33) rfl))) (by decide) (t := .long) (t' := .long) (by decide) (by decide)))
  have Z126 : n0 ≤ h122.size := Nat.le_trans Z118 (Keep.of_wr W122).1
  have K127 : Keep h0 h122 [a0] := Keep.wr K119 W122 (Or.inl (List.mem_of_getElem? (i := 0) rfl))
  have N128 := Fr.snoc X122 N120 g_a0
  have f129 : Fld Z h122 a0 "com/example/sheafworks/sheafworks/bench/Bench$Result" "micros" "J" (.long q3) := f116.same W122
  obtain ⟨fs, hr, hrun, hended, hW, hsame⟩ := X122.leave (v := none) (fun _ => rfl)
  refine ⟨_, _, pre0 _ ?_, hrun, hended, _, _, rfl, ?_, ⟨_, rfl⟩, hW, hsame.mono (by decide) (by decide)⟩
  ·
    show Steps p.tables e below (s₁.setTop (mkF m 0 #[.val (.ref a0), .val (.ref a1), .val (.long q2), .second, .val (.long q3), .second] [])) _
    refine XS.aloadN X0.here hx rfl (hb hby d2_0) rfl rfl ?_
    show Steps p.tables e below (s₁.setTop (mkF m 1 #[.val (.ref a0), .val (.ref a1), .val (.long q2), .second, .val (.long q3), .second] [(.ref a0)])) _
    refine st104.trans ?_
    show Steps p.tables e below (T104.setTop (mkF m 4 #[.val (.ref a0), .val (.ref a1), .val (.long q2), .second, .val (.long q3), .second] [])) _
    refine XS.lload X104.here hx rfl (hb hby d2_4) rfl ?_
    show Steps p.tables e below (T104.setTop (mkF m 6 #[.val (.ref a0), .val (.ref a1), .val (.long q2), .second, .val (.long q3), .second] [(.long q3)])) _
    refine XS.lconst X104.here hx rfl (hb hby d2_6) ?_
    show Steps p.tables e below (T104.setTop (mkF m 7 #[.val (.ref a0), .val (.ref a1), .val (.long q2), .second, .val (.long q3), .second] [(.long (1 : Int64)), (.long q3)])) _
    refine XS.lcmp X104.here hx rfl (hb hby d2_7) rfl ?_
    show Steps p.tables e below (T104.setTop (mkF m 8 #[.val (.ref a0), .val (.ref a1), .val (.long q2), .second, .val (.long q3), .second] [(.int (lcmpW q3 (1 : Int64)))])) _
    refine XS.ifYes X104.here hx rfl (pc0 := 8) (pc' := 26) rfl (hb hby d2_8) rfl ((if0 _ _).trans (flt (fun q => c105 ((lw_lt _ _).mp q))).2.1) (by decide) (by decide) ?_
    show Steps p.tables e below (T104.setTop (mkF m 26 #[.val (.ref a0), .val (.ref a1), .val (.long q2), .second, .val (.long q3), .second] [])) _
    refine XS.aloadN X104.here hx rfl (hb hby d2_26) rfl rfl ?_
    show Steps p.tables e below (T104.setTop (mkF m 27 #[.val (.ref a0), .val (.ref a1), .val (.long q2), .second, .val (.long q3), .second] [(.ref a0)])) _
    refine XS.aloadN X104.here hx rfl (hb hby d2_27) rfl rfl ?_
    show Steps p.tables e below (T104.setTop (mkF m 28 #[.val (.ref a0), .val (.ref a1), .val (.long q2), .second, .val (.long q3), .second] [(.ref a1), (.ref a0)])) _
    refine st106 _ ?_
    show Steps p.tables e below (T106.setTop (mkF m 31 #[.val (.ref a0), .val (.ref a1), .val (.long q2), .second, .val (.long q3), .second] [])) _
    refine XS.aloadN X106.here hx rfl (hb hby d2_31) rfl rfl ?_
    show Steps p.tables e below (T106.setTop (mkF m 32 #[.val (.ref a0), .val (.ref a1), .val (.long q2), .second, .val (.long q3), .second] [(.ref a0)])) _
    refine XS.lloadN X106.here hx rfl (hb hby d2_32) rfl ?_
    show Steps p.tables e below (T106.setTop (mkF m 33 #[.val (.ref a0), .val (.ref a1), .val (.long q2), .second, .val (.long q3), .second] [(.long q2), (.ref a0)])) _
    refine st114 _ ?_
    show Steps p.tables e below (T114.setTop (mkF m 36 #[.val (.ref a0), .val (.ref a1), .val (.long q2), .second, .val (.long q3), .second] [])) _
    refine XS.aloadN X114.here hx rfl (hb hby d2_36) rfl rfl ?_
    show Steps p.tables e below (T114.setTop (mkF m 37 #[.val (.ref a0), .val (.ref a1), .val (.long q2), .second, .val (.long q3), .second] [(.ref a0)])) _
    refine XS.lload X114.here hx rfl (hb hby d2_37) rfl ?_
    show Steps p.tables e below (T114.setTop (mkF m 39 #[.val (.ref a0), .val (.ref a1), .val (.long q2), .second, .val (.long q3), .second] [(.long q3), (.ref a0)])) _
    refine st122 _ ?_
    show Steps p.tables e below (T122.setTop (mkF m 42 #[.val (.ref a0), .val (.ref a1), .val (.long q2), .second, .val (.long q3), .second] [])) _
    exact X122.returnOut hx Bd.returns (hb hby d2_42) hr
  ·
    show Q_rm2 Z a0 a1 q2 q3 h0 n0 _ T122.heap _
    rw [e122]
    exact ⟨rfl, N128, K127, f123, f125, f129⟩
theorem d5_0 : decode prog_10_method_2_code 0 = .ok (.aload_n 0, 1) := by decide +kernel
theorem d5_1 : decode prog_10_method_2_code 1 = .ok (.getfield 22, 3) := by decide +kernel
theorem d5_4 : decode prog_10_method_2_code 4 = .ok (.ldc2_w 29, 3) := by decide +kernel
theorem d5_7 : decode prog_10_method_2_code 7 = .ok (.lmul, 1) := by decide +kernel
theorem d5_8 : decode prog_10_method_2_code 8 = .ok (.aload_n 0, 1) := by decide +kernel
theorem d5_9 : decode prog_10_method_2_code 9 = .ok (.getfield 26, 3) := by decide +kernel
theorem d5_12 : decode prog_10_method_2_code 12 = .ok (.ldiv, 1) := by decide +kernel
theorem d5_13 : decode prog_10_method_2_code 13 = .ok (.lreturn, 1) := by decide +kernel
theorem ef_rm5 (m : MethodId) (a0 : Addr) : entryFrame m #[(.ref a0)] 1 = mkF m 0 #[.val (.ref a0)] [] := by first | (simp [entryFrame, mkF, argsToLocals, Value.category]; done) | rfl
def Q_rm5 (Z : State) (a0 : Addr) (w1 : Int64) (w2 : Int64) (h0 : Heap) (n0 : Nat) (v : Option Value) (h : Heap) (L : List Loc) : Prop := v = some (.long ((w1 * (1000000 : Int64)) / w2)) ∧ Fr n0 L ∧ h = h0
set_option maxRecDepth 65536 in
set_option maxHeartbeats 40000000 in
theorem rm5 (l : Launch) (Z : State) (aw : Array Value) (hw : ∀ d ∈ tables_1, d.before aw Z = true) (ws : List Jvm.Cond) (a0 : Addr) (w1 : Int64) (w2 : Int64) (h0 : Heap) (n0 : Nat) (Z0 : n0 ≤ h0.size) (F_a0_operations : Fld Z h0 a0 "com/example/sheafworks/sheafworks/bench/Bench$Result" "operations" "J" (.long w1)) (F_a0_micros : Fld Z h0 a0 "com/example/sheafworks/sheafworks/bench/Bench$Result" "micros" "J" (.long w2)) (hz : w2 ≠ 0) :
    MetFree l (⟨"com/example/sheafworks/sheafworks/bench/Bench$Result", "operationsPerSecond", "()J"⟩ : MethodName) (head1 (Jvm.Cond.code (⟨"com/example/sheafworks/sheafworks/bench/Bench$Result", "operationsPerSecond", "()J"⟩ : MethodName) prog_10_method_2_code 1 (some .long) :: ws) ({ frames := 0, cells := 0, slots := 0, locals := 0 } : Room)) (fun a U => a = #[(.ref a0)] ∧ Z.Warmed39 U.vm ∧ U.heap = h0) (fun _ _ _ _ _ => True) (fun _ U o U' => ∃ v L, o = .returned v ∧ Q_rm5 Z a0 w1 w2 h0 n0 v U'.heap L ∧ FrameEnd U o U' L ({ frames := 0, cells := 0, slots := 0, locals := 0 } : Room).cells ({ frames := 0, cells := 0, slots := 0, locals := 0 } : Room).slots) := by
  refine MetFree.of_bodySF (plainFor_of_name pn_1) hisR ?_
  intro p e s m args below meth c s₁ Bd hml0 hP hK
  obtain ⟨rfl, hZ, hh⟩ := hP
  have hx := Bd.exec
  have hby := Bd.bytes
  have hml : c.maxLocals = 1 := hml0
  have hown : s.vm.findClass "com/example/sheafworks/sheafworks/bench/Bench$Result" = some m.cls := findClass_of_methodNamed Bd.named
  have hnm := (name_of_methodNamed Bd.named Bd.method).1
  have X0 : Stand p l e ({ frames := 0, cells := 0, slots := 0, locals := 0 } : Room) s m #[(.ref a0)] below meth c s₁ [] 0 0 := Stand.of_body Bd
  have e0 : s₁.heap = h0 := by rw [← hh, Bd.state]; rfl
  have N0 := Fr.nil n0
  have pre0 : ∀ t, Steps p.tables e below (s₁.setTop (mkF m 0 #[.val (.ref a0)] [])) t → Steps p.tables e below (s₁.setTop (entryFrame m #[(.ref a0)] 1)) t := fun t k => castTop (ef_rm5 m a0) k
  obtain ⟨T130, X130, e130, st130⟩ := getF X0 hx hZ hown (host := "") (Or.inl (hw _ (List.mem_of_getElem? (i := 30) rfl))) Via.refl e0 F_a0_operations (g := (mkF m 1 #[.val (.ref a0)] [(.ref a0)])) rfl rfl (hb hby d5_1)
  obtain ⟨T131, X131, e131, st131⟩ := getF X130 hx hZ hown (host := "") (Or.inl (hw _ (List.mem_of_getElem? (i := 32) rfl))) Via.refl e130 F_a0_micros (g := (mkF m 9 #[.val (.ref a0)] [(.ref a0), (.long (w1 * (1000000 : Int64)))])) rfl rfl (hb hby d5_9)
  obtain ⟨fs, hr, hrun, hended, hW, hsame⟩ := X131.leave (v := some (.long ((w1 * (1000000 : Int64)) / w2))) (fun h => by rw [Bd.returns] at h; cases h)
  refine ⟨_, _, pre0 _ ?_, hrun, hended, _, _, rfl, ?_, ⟨_, rfl⟩, hW, hsame.mono (by decide) (by decide)⟩
  ·
    show Steps p.tables e below (s₁.setTop (mkF m 0 #[.val (.ref a0)] [])) _
    refine XS.aloadN X0.here hx rfl (hb hby d5_0) rfl rfl ?_
    show Steps p.tables e below (s₁.setTop (mkF m 1 #[.val (.ref a0)] [(.ref a0)])) _
    refine st130 _ ?_
    show Steps p.tables e below (T130.setTop (mkF m 4 #[.val (.ref a0)] [(.long w1)])) _
    refine X130.ldc2Long hx hown (mvT hZ (hw _ (List.mem_of_getElem? (i := 39) rfl))) (g := (mkF m 4 #[.val (.ref a0)] [(.long w1)])) rfl (hb hby d5_4) _ ?_
    show Steps p.tables e below (T130.setTop (mkF m 7 #[.val (.ref a0)] [(.long (1000000 : Int64)), (.long w1)])) _
    refine XS.lmul X130.here hx rfl (hb hby d5_7) rfl ?_
    show Steps p.tables e below (T130.setTop (mkF m 8 #[.val (.ref a0)] [(.long (w1 * (1000000 : Int64)))])) _
    refine XS.aloadN X130.here hx rfl (hb hby d5_8) rfl rfl ?_
    show Steps p.tables e below (T130.setTop (mkF m 9 #[.val (.ref a0)] [(.ref a0), (.long (w1 * (1000000 : Int64)))])) _
    refine st131 _ ?_
    show Steps p.tables e below (T131.setTop (mkF m 12 #[.val (.ref a0)] [(.long w2), (.long (w1 * (1000000 : Int64)))])) _
    refine XS.ldiv X131.here hx rfl (hb hby d5_12) rfl hz ?_
    show Steps p.tables e below (T131.setTop (mkF m 13 #[.val (.ref a0)] [(.long ((w1 * (1000000 : Int64)) / w2))])) _
    exact retJ X131 hx Bd.returns (hb hby d5_13) hr
  ·
    show Q_rm5 Z a0 w1 w2 h0 n0 _ T131.heap _
    rw [e131]
    exact ⟨rfl, N0, rfl⟩
theorem own_m {x y : Int64} (h : x = f_max (1 : Int64) y) : ¬ (x < (1 : Int64)) := by
  subst h
  unfold f_max
  split
  · rename_i q
    rw [Int64.lt_iff_toInt_lt] at *
    omega
  · decide
theorem own_nz {x : Int64} (h : ¬ (x < (1 : Int64))) : x ≠ 0 := fun e => h (by rw [e]; decide)
theorem own_o (p : Int64) : 0 ≤ ((p &&& (9223372036854775807 : Int64)) - ((p &&& (9223372036854775807 : Int64)) / (9223372036855 : Int64)) * (9223372036855 : Int64)).toInt ∧ ((p &&& (9223372036854775807 : Int64)) - ((p &&& (9223372036854775807 : Int64)) / (9223372036855 : Int64)) * (9223372036855 : Int64)).toInt < 9223372036855 := by
  have a := c_maskL p 9223372036854775807 63 (by decide) (by decide)
  have r := (c_lrem (p &&& 9223372036854775807) 9223372036855 9223372036855 (by decide)).1 (by rw [a]; omega)
  rw [r]
  omega
theorem own_r {p o m q n : Int64} (ho : o = ((p &&& (9223372036854775807 : Int64)) - ((p &&& (9223372036854775807 : Int64)) / (9223372036855 : Int64)) * (9223372036855 : Int64))) (hm : ¬ (m < (1 : Int64))) (hq : q = (o * (1000000 : Int64)) / m) (hn : n = o * (1000000 : Int64)) :
    ¬ (q < (0 : Int64)) ∧ ¬ (n < q) ∧ (q * m) / m = q ∧ ¬ ((n - (q * m)) < (0 : Int64)) ∧ (n - (q * m)) < m := by
  have o1 := own_o p
  rw [← ho] at o1
  have m1 : 1 ≤ m.toInt := by rw [Int64.lt_iff_toInt_lt, show (1 : Int64).toInt = 1 by decide] at hm; omega
  have rm := rng64 m
  have a := c_lmul o 1000000
  rw [show (1000000 : Int64).toInt = 1000000 by decide] at a
  have rn := rng64 n
  have en : n.toInt = o.toInt * 1000000 := by rw [← hn] at a; omega
  have mn : m ≠ -1 := fun e => by rw [e] at m1; exact absurd m1 (by decide)
  have d := (c_ldiv n m m.toInt rfl mn).1 (by omega)
  rw [← hn] at hq
  rw [← hq] at d
  have e1 := Int.mul_ediv_add_emod n.toInt m.toInt
  have e2 := Int.emod_nonneg n.toInt (show m.toInt ≠ 0 by omega)
  have e3 := Int.emod_lt_of_pos n.toInt (show 0 < m.toInt by omega)
  have q0 : 0 ≤ q.toInt := by rw [d]; exact Int.ediv_nonneg (by omega) (by omega)
  have qn : q.toInt ≤ n.toInt := by rw [d]; exact Int.ediv_le_self _ (by omega)
  have b := c_lmul q m
  have rb := rng64 (q * m)
  have eb : q.toInt * m.toInt = m.toInt * (n.toInt / m.toInt) := by rw [d, Int.mul_comm]
  have eb2 : (q * m).toInt = q.toInt * m.toInt := by
    have h0 : 0 ≤ q.toInt * m.toInt := Int.mul_nonneg q0 (by omega)
    generalize q.toInt * m.toInt = w at *
    omega
  have c := (c_ldiv (q * m) m m.toInt rfl mn).1 (by rw [eb2]; exact Int.mul_nonneg q0 (by omega))
  have s := c_lsub n (q * m)
  have rs := rng64 (n - q * m)
  have es : (n - q * m).toInt = n.toInt % m.toInt := by
    rw [eb2, eb] at s
    generalize m.toInt * (n.toInt / m.toInt) = w at *
    omega
  refine ⟨fun h => ?_, fun h => ?_, Int64.toInt_inj.mp ?_, fun h => ?_, ?_⟩
  · rw [Int64.lt_iff_toInt_lt, Int64.toInt_zero] at h; omega
  · rw [Int64.lt_iff_toInt_lt] at h; omega
  · rw [c, eb2, Int.mul_ediv_cancel _ (by omega)]
  · rw [Int64.lt_iff_toInt_lt, Int64.toInt_zero, es] at h; omega
  · rw [Int64.lt_iff_toInt_lt, es]; exact e3
theorem pd_1 : parseMethodDescriptor "(JJ)J" = some ⟨[.long, .long], some .long⟩ := by decide +kernel
theorem own_wS {Z : State} {a0 : Array Value} (hw : ∀ d ∈ tables_1, d.before a0 Z = true) : ∀ a ∈ Bundle.stringAtoms, a.before a0 Z = true := fun d hd => by
  simp only [Bundle.stringAtoms, List.mem_cons, List.not_mem_nil, or_false] at hd
  rcases hd with rfl | rfl | rfl | rfl | rfl | rfl | rfl
  · exact (hw _ (List.mem_of_getElem? (i := 10) rfl))
  · exact (hw _ (List.mem_of_getElem? (i := 11) rfl))
  · exact (hw _ (List.mem_of_getElem? (i := 12) rfl))
  · exact (hw _ (List.mem_of_getElem? (i := 13) rfl))
  · exact (hw _ (List.mem_of_getElem? (i := 14) rfl))
  · exact (hw _ (List.mem_of_getElem? (i := 15) rfl))
  · exact (hw _ (List.mem_of_getElem? (i := 16) rfl))
theorem pd_2 : parseMethodDescriptor "(Ljava/lang/String;JJ)V" = some ⟨[(.object "java/lang/String"), .long, .long], none⟩ := by decide +kernel
theorem pd_3 : parseMethodDescriptor "()J" = some ⟨[], some .long⟩ := by decide +kernel
theorem pn_2 : plainName "com/example/sheafworks/sheafworks/bench/ResultOperationsPerSecondPinLaw" = true := by first | (simp [plainName, overriddenIn]; done) | decide +kernel
theorem ef_rm0 (m : MethodId) (q0 : Int64) (q1 : Int64) : entryFrame m #[(.long q0), (.long q1)] maxLocals = mkF m 0 #[.val (.long q0), .second, .val (.long q1), .second, .unset, .unset, .unset, .unset, .unset, .unset, .unset, .unset, .unset, .unset, .unset] [] := by first | (simp [entryFrame, mkF, argsToLocals, Value.category, maxLocals]; done) | rfl
def Q_rm0 (Z : State) (q0 : Int64) (q1 : Int64) (h0 : Heap) (n0 : Nat) (v : Option Value) (h : Heap) (L : List Loc) : Prop := v = some (.int (1 : Int32)) ∧ Fr n0 L
set_option maxRecDepth 65536 in
set_option maxHeartbeats 40000000 in
theorem rm0 (l : Launch) (Z : State) (aw : Array Value) (hw : ∀ d ∈ tables_1, d.before aw Z = true) (ws : List Jvm.Cond) (q0 : Int64) (q1 : Int64) (h0 : Heap) (n0 : Nat) (Z0 : n0 ≤ h0.size) :
    MetFree l x (head1 (Jvm.Cond.code x code maxLocals ret :: ws) room_1) (fun a U => a = #[(.long q0), (.long q1)] ∧ Z.Warmed39 U.vm ∧ U.heap = h0) (fun _ _ _ _ _ => True) (fun _ U o U' => ∃ v L, o = .returned v ∧ Q_rm0 Z q0 q1 h0 n0 v U'.heap L ∧ ReturnedEndW U o U' L room_1.cells room_1.slots) := by
  refine MetFree.of_bodySF (plainFor_of_name pn_2) hisR ?_
  intro p e s m args below meth c s₁ Bd hml0 hP hK
  obtain ⟨rfl, hZ, hh⟩ := hP
  have hx := Bd.exec
  have hby := Bd.bytes
  have hml : c.maxLocals = 15 := hml0
  have hown : s.vm.findClass "com/example/sheafworks/sheafworks/bench/ResultOperationsPerSecondPinLaw" = some m.cls := findClass_of_methodNamed Bd.named
  have hnm := (name_of_methodNamed Bd.named Bd.method).1
  have X0 : Stand p l e room_1 s m #[(.long q0), (.long q1)] below meth c s₁ [] 0 0 := Stand.of_body Bd
  have e0 : s₁.heap = h0 := by rw [← hh, Bd.state]; rfl
  have N0 := Fr.nil n0
  have pre0 : ∀ t, Steps p.tables e below (s₁.setTop (mkF m 0 #[.val (.long q0), .second, .val (.long q1), .second, .unset, .unset, .unset, .unset, .unset, .unset, .unset, .unset, .unset, .unset, .unset] [])) t → Steps p.tables e below (s₁.setTop (entryFrame m #[(.long q0), (.long q1)] maxLocals)) t := fun t k => castTop (ef_rm0 m q0 q1) k
  have hS0 : s.Since s.vm h0.size := (State.WarmedH.refl s).since _
  have hk0 : h0.size ≤ h0.size := Nat.le_refl _
  obtain ⟨x132, hx132⟩ : ∃ z : Int64, z = ((q0 &&& (9223372036854775807 : Int64)) - ((q0 &&& (9223372036854775807 : Int64)) / (9223372036855 : Int64)) * (9223372036855 : Int64)) := ⟨_, rfl⟩
  have pre133 : ∀ t, Steps p.tables e below (s₁.setTop (mkF m 11 #[.val (.long q0), .second, .val (.long q1), .second, .val (.long x132), .second, .unset, .unset, .unset, .unset, .unset, .unset, .unset, .unset, .unset] [])) t → Steps p.tables e below (s₁.setTop (entryFrame m #[(.long q0), (.long q1)] maxLocals)) t := fun t k => by
    refine pre0 t ?_
    show Steps p.tables e below (s₁.setTop (mkF m 0 #[.val (.long q0), .second, .val (.long q1), .second, .unset, .unset, .unset, .unset, .unset, .unset, .unset, .unset, .unset, .unset, .unset] [])) _
    refine XS.lloadN X0.here hx rfl (hb hby at_0) rfl ?_
    show Steps p.tables e below (s₁.setTop (mkF m 1 #[.val (.long q0), .second, .val (.long q1), .second, .unset, .unset, .unset, .unset, .unset, .unset, .unset, .unset, .unset, .unset, .unset] [(.long q0)])) _
    refine X0.ldc2Long hx hown (mvT hZ (hw _ (List.mem_of_getElem? (i := 0) rfl))) (g := (mkF m 1 #[.val (.long q0), .second, .val (.long q1), .second, .unset, .unset, .unset, .unset, .unset, .unset, .unset, .unset, .unset, .unset, .unset] [(.long q0)])) rfl (hb hby at_1) _ ?_
    show Steps p.tables e below (s₁.setTop (mkF m 4 #[.val (.long q0), .second, .val (.long q1), .second, .unset, .unset, .unset, .unset, .unset, .unset, .unset, .unset, .unset, .unset, .unset] [(.long (9223372036854775807 : Int64)), (.long q0)])) _
    refine XS.land X0.here hx rfl (hb hby at_4) rfl ?_
    show Steps p.tables e below (s₁.setTop (mkF m 5 #[.val (.long q0), .second, .val (.long q1), .second, .unset, .unset, .unset, .unset, .unset, .unset, .unset, .unset, .unset, .unset, .unset] [(.long (q0 &&& (9223372036854775807 : Int64)))])) _
    refine X0.ldc2Long hx hown (mvT hZ (hw _ (List.mem_of_getElem? (i := 1) rfl))) (g := (mkF m 5 #[.val (.long q0), .second, .val (.long q1), .second, .unset, .unset, .unset, .unset, .unset, .unset, .unset, .unset, .unset, .unset, .unset] [(.long (q0 &&& (9223372036854775807 : Int64)))])) rfl (hb hby at_5) _ ?_
    show Steps p.tables e below (s₁.setTop (mkF m 8 #[.val (.long q0), .second, .val (.long q1), .second, .unset, .unset, .unset, .unset, .unset, .unset, .unset, .unset, .unset, .unset, .unset] [(.long (9223372036855 : Int64)), (.long (q0 &&& (9223372036854775807 : Int64)))])) _
    refine XS.lrem X0.here hx rfl (hb hby at_8) rfl (by decide) ?_
    show Steps p.tables e below (s₁.setTop (mkF m 9 #[.val (.long q0), .second, .val (.long q1), .second, .unset, .unset, .unset, .unset, .unset, .unset, .unset, .unset, .unset, .unset, .unset] [(.long ((q0 &&& (9223372036854775807 : Int64)) - ((q0 &&& (9223372036854775807 : Int64)) / (9223372036855 : Int64)) * (9223372036855 : Int64)))])) _
    refine XS.lstore X0.here hx rfl (hb hby at_9) rfl (l' := #[.val (.long q0), .second, .val (.long q1), .second, .val (.long ((q0 &&& (9223372036854775807 : Int64)) - ((q0 &&& (9223372036854775807 : Int64)) / (9223372036855 : Int64)) * (9223372036855 : Int64))), .second, .unset, .unset, .unset, .unset, .unset, .unset, .unset, .unset, .unset]) rfl ?_
    subst hx132
    exact k
  obtain ⟨_, _, ⟨T134, L134, k134, n134⟩, -, X134, ⟨Lc134, hQ134, l134, y134, z134⟩, st134⟩ := Jvm.LawKit.callS X0 hx (y := (⟨"java/lang/Math", "max", "(JJ)J"⟩ : MethodName)) hown (mvT hZ (hw _ (List.mem_of_getElem? (i := 2) rfl))) (mvT hZ (hw _ (List.mem_of_getElem? (i := 3) rfl))) (mvT hZ (hw _ (List.mem_of_getElem? (i := 4) rfl))) (mvT hZ (hw _ (List.mem_of_getElem? (i := 5) rfl))) (by decide) (backOf (W := 0) (rm1 l Z aw hw [] (1 : Int64) (q1 &&& (9223372036854775807 : Int64)) h0 n0 Z0) hZ (hw _ (List.mem_of_getElem? (i := 5) rfl)) (hw _ (List.mem_of_getElem? (i := 4) rfl)) (by decide) (by decide)) (g := (mkF m 17 #[.val (.long q0), .second, .val (.long q1), .second, .val (.long x132), .second, .unset, .unset, .unset, .unset, .unset, .unset, .unset, .unset, .unset] [(.long (q1 &&& (9223372036854775807 : Int64))), (.long (1 : Int64))])) rfl (by rw [hml]; rfl) (argsL := [(.long (1 : Int64)), (.long (q1 &&& (9223372036854775807 : Int64)))]) (rest := []) (lenOf pd_1 rfl) rfl (by show 2 * 0 + _ ≤ _; exact Nat.le_of_eq rfl) (hb hby at_17) (fun _ _ => ⟨rfl, e0, (by decide : 0 + 0 ≤ _), (by decide : 0 + 0 ≤ _)⟩)
  dsimp only [Pt.U, Pt.locs, Pt.cells, Pt.slots] at X134 l134 y134 z134 st134 hQ134
  subst l134 y134 z134
  obtain ⟨rfl, N134q, e134⟩ := hQ134
  have N134 := Fr.app N0 N134q
  obtain ⟨x135, hx135⟩ : ∃ z : Int64, z = (f_max (1 : Int64) (q1 &&& (9223372036854775807 : Int64))) := ⟨_, rfl⟩
  have pre136 : ∀ t, Steps p.tables e below (T134.setTop (mkF m 22 #[.val (.long q0), .second, .val (.long q1), .second, .val (.long x132), .second, .val (.long x135), .second, .unset, .unset, .unset, .unset, .unset, .unset, .unset] [])) t → Steps p.tables e below (s₁.setTop (entryFrame m #[(.long q0), (.long q1)] maxLocals)) t := fun t k => by
    refine pre133 t ?_
    show Steps p.tables e below (s₁.setTop (mkF m 11 #[.val (.long q0), .second, .val (.long q1), .second, .val (.long x132), .second, .unset, .unset, .unset, .unset, .unset, .unset, .unset, .unset, .unset] [])) _
    refine XS.lconst X0.here hx rfl (hb hby at_11) ?_
    show Steps p.tables e below (s₁.setTop (mkF m 12 #[.val (.long q0), .second, .val (.long q1), .second, .val (.long x132), .second, .unset, .unset, .unset, .unset, .unset, .unset, .unset, .unset, .unset] [(.long (1 : Int64))])) _
    refine XS.lloadN X0.here hx rfl (hb hby at_12) rfl ?_
    show Steps p.tables e below (s₁.setTop (mkF m 13 #[.val (.long q0), .second, .val (.long q1), .second, .val (.long x132), .second, .unset, .unset, .unset, .unset, .unset, .unset, .unset, .unset, .unset] [(.long q1), (.long (1 : Int64))])) _
    refine X0.ldc2Long hx hown (mvT hZ (hw _ (List.mem_of_getElem? (i := 0) rfl))) (g := (mkF m 13 #[.val (.long q0), .second, .val (.long q1), .second, .val (.long x132), .second, .unset, .unset, .unset, .unset, .unset, .unset, .unset, .unset, .unset] [(.long q1), (.long (1 : Int64))])) rfl (hb hby at_13) _ ?_
    show Steps p.tables e below (s₁.setTop (mkF m 16 #[.val (.long q0), .second, .val (.long q1), .second, .val (.long x132), .second, .unset, .unset, .unset, .unset, .unset, .unset, .unset, .unset, .unset] [(.long (9223372036854775807 : Int64)), (.long q1), (.long (1 : Int64))])) _
    refine XS.land X0.here hx rfl (hb hby at_16) rfl ?_
    show Steps p.tables e below (s₁.setTop (mkF m 17 #[.val (.long q0), .second, .val (.long q1), .second, .val (.long x132), .second, .unset, .unset, .unset, .unset, .unset, .unset, .unset, .unset, .unset] [(.long (q1 &&& (9223372036854775807 : Int64))), (.long (1 : Int64))])) _
    refine st134 _ ?_
    show Steps p.tables e below (T134.setTop (mkF m 20 #[.val (.long q0), .second, .val (.long q1), .second, .val (.long x132), .second, .unset, .unset, .unset, .unset, .unset, .unset, .unset, .unset, .unset] [(.long (f_max (1 : Int64) (q1 &&& (9223372036854775807 : Int64))))])) _
    refine XS.lstore X134.here hx rfl (hb hby at_20) rfl (l' := #[.val (.long q0), .second, .val (.long q1), .second, .val (.long x132), .second, .val (.long (f_max (1 : Int64) (q1 &&& (9223372036854775807 : Int64)))), .second, .unset, .unset, .unset, .unset, .unset, .unset, .unset]) rfl ?_
    subst hx135
    exact k
  obtain ⟨T137, h137, X137, e137, E137, A137, D137, -, st137⟩ := newO X134 hx hZ hown (hw _ (List.mem_of_getElem? (i := 6) rfl)) (hw _ (List.mem_of_getElem? (i := 7) rfl)) (hw _ (List.mem_of_getElem? (i := 8) rfl)) e134 (g := (mkF m 22 #[.val (.long q0), .second, .val (.long q1), .second, .val (.long x132), .second, .val (.long x135), .second, .unset, .unset, .unset, .unset, .unset, .unset, .unset] [])) rfl (hb hby at_22) (by decide) (by decide)
  obtain ⟨b137, g137⟩ : ∃ z, z = h0.size := ⟨_, rfl⟩
  rw [← g137] at A137 D137 st137
  have gn138 : n0 ≤ b137 := Nat.le_trans Z0 (Nat.le_of_eq g137.symm)
  have Z139 : n0 ≤ h137.size := Nat.le_trans Z0 E137.1
  have hk140 := Nat.le_trans hk0 E137.1
  have f141 : Fld Z h137 b137 "com/example/sheafworks/sheafworks/bench/Bench$Result" "name" "Ljava/lang/String;" .null := D137 (Or.inr (hw _ (List.mem_of_getElem? (i := 29) rfl))) (ty := (.object "java/lang/String")) (by decide)
  have f142 : Fld Z h137 b137 "com/example/sheafworks/sheafworks/bench/Bench$Result" "operations" "J" (.long (0 : Int64)) := D137 (Or.inr (hw _ (List.mem_of_getElem? (i := 31) rfl))) (ty := .long) (by decide)
  have f143 : Fld Z h137 b137 "com/example/sheafworks/sheafworks/bench/Bench$Result" "micros" "J" (.long (0 : Int64)) := D137 (Or.inr (hw _ (List.mem_of_getElem? (i := 33) rfl))) (ty := .long) (by decide)
  obtain ⟨a144, T144, h144, k144, X144, e144, E144, hS144, hk144, hZ144, hown144, st144⟩ := ldcS (vm0 := s.vm) X137 hx hZ hown (hw _ (List.mem_of_getElem? (i := 9) rfl)) (own_wS hw) e137 hS0 hk140 (g := (mkF m 26 #[.val (.long q0), .second, .val (.long q1), .second, .val (.long x132), .second, .val (.long x135), .second, .unset, .unset, .unset, .unset, .unset, .unset, .unset] [(.ref b137), (.ref b137)])) rfl (hb hby at_26) (n := 4) (by decide) (by decide) (by decide) (by decide)
  have f145 := A137.ext E144
  have f146 := f141.ext E144
  have f147 := f142.ext E144
  have f148 := f143.ext E144
  have Z149 : n0 ≤ h144.size := Nat.le_trans Z139 E144.1
  obtain ⟨_, _, ⟨T150, L150, k150, n150⟩, -, X150, ⟨Lc150, hQ150, l150, y150, z150⟩, st150⟩ := X144.specialBack hx (y := (⟨"com/example/sheafworks/sheafworks/bench/Bench$Result", "<init>", "(Ljava/lang/String;JJ)V"⟩ : MethodName)) rfl hown144 (mvT hZ144 (hw _ (List.mem_of_getElem? (i := 17) rfl))) (mvT hZ144 (hw _ (List.mem_of_getElem? (i := 18) rfl))) (mvT hZ144 (hw _ (List.mem_of_getElem? (i := 19) rfl))) (by decide) (backOf (W := 1) (rm2 l Z aw hw [] b137 a144 x132 x135 h144 n0 Z149 f145 f146 f147 f148 gn138 (own_m hx135)) hZ144 (hw _ (List.mem_of_getElem? (i := 19) rfl)) (hw _ (List.mem_of_getElem? (i := 8) rfl)) (by decide) (by decide)) (g := (mkF m 32 #[.val (.long q0), .second, .val (.long q1), .second, .val (.long x132), .second, .val (.long x135), .second, .unset, .unset, .unset, .unset, .unset, .unset, .unset] [(.long x135), (.long x132), (.ref a144), (.ref b137), (.ref b137)])) rfl (by rw [hml]; rfl) (Steps.refl _) (a := b137) (argsL := [(.ref a144), (.long x132), (.long x135)]) (rest := [(.ref b137)]) (lenOf pd_2 rfl) rfl (by show 2 * 0 + _ ≤ _; exact Nat.le_of_eq rfl) (hb hby at_32) (fun _ _ => ⟨rfl, e144, (by decide : 3 + 0 ≤ _), (by decide : 11 + 0 ≤ _)⟩)
  dsimp only [Pt.U, Pt.locs, Pt.cells, Pt.slots] at X150 l150 y150 z150 st150 hQ150
  subst l150 y150 z150
  obtain ⟨rfl, N150q, K150, f151, f152, f153⟩ := hQ150
  have N150 := Fr.app N134 N150q
  have Z154 : n0 ≤ T150.heap.size := Nat.le_trans Z149 K150.1
  have hk155 := Nat.le_trans hk144 K150.1
  obtain ⟨cq156, kq156, q156a, q156b, q156c⟩ := isOf hZ144 rfl f151
  obtain ⟨_, _, ⟨T156, L156, k156, n156⟩, -, X156, ⟨Lc156, hQ156, l156, y156, z156⟩, st156⟩ := X150.virtualBack hx (y := (⟨"com/example/sheafworks/sheafworks/bench/Bench$Result", "operationsPerSecond", "()J"⟩ : MethodName)) (z := (⟨"com/example/sheafworks/sheafworks/bench/Bench$Result", "operationsPerSecond", "()J"⟩ : MethodName)) hown144 (mvT hZ144 (hw _ (List.mem_of_getElem? (i := 34) rfl))) (mvT hZ144 (hw _ (List.mem_of_getElem? (i := 35) rfl))) (notFace_of_selects (args := #[]) (mvT hZ144 (hw _ (List.mem_of_getElem? (i := 37) rfl)))) (mvT hZ144 (hw _ (List.mem_of_getElem? (i := 37) rfl))) (mvT hZ144 (hw _ (List.mem_of_getElem? (i := 36) rfl))) (by decide) (backOf (W := 0) (rm5 l Z aw hw [] b137 x132 x135 T150.heap n0 Z154 f152 f153 (own_nz (own_m hx135))) hZ144 (hw _ (List.mem_of_getElem? (i := 38) rfl)) (hw _ (List.mem_of_getElem? (i := 8) rfl)) (by decide) (by decide)) q156a q156c (g := (mkF m 39 #[.val (.long q0), .second, .val (.long q1), .second, .val (.long x132), .second, .val (.long x135), .second, .val (.ref b137), .unset, .unset, .unset, .unset, .unset, .unset] [(.ref b137)])) rfl (by rw [hml]; rfl) (Steps.refl _) (argsL := []) (rest := []) (lenOf pd_3 rfl) rfl (by show 2 * 0 + _ ≤ _; exact Nat.le_of_eq rfl) (hb hby at_39) (fun _ _ => ⟨rfl, rfl, (by decide : 3 + 0 ≤ _), (by decide : 11 + 0 ≤ _)⟩)
  dsimp only [Pt.U, Pt.locs, Pt.cells, Pt.slots] at X156 l156 y156 z156 st156 hQ156
  subst l156 y156 z156
  obtain ⟨rfl, N156q, e156⟩ := hQ156
  have N156 := Fr.app N150 N156q
  obtain ⟨x157, hx157⟩ : ∃ z : Int64, z = ((x132 * (1000000 : Int64)) / x135) := ⟨_, rfl⟩
  have pre158 : ∀ t, Steps p.tables e below (T156.setTop (mkF m 44 #[.val (.long q0), .second, .val (.long q1), .second, .val (.long x132), .second, .val (.long x135), .second, .val (.ref b137), .val (.long x157), .second, .unset, .unset, .unset, .unset] [])) t → Steps p.tables e below (s₁.setTop (entryFrame m #[(.long q0), (.long q1)] maxLocals)) t := fun t k => by
    refine pre136 t ?_
    show Steps p.tables e below (T134.setTop (mkF m 22 #[.val (.long q0), .second, .val (.long q1), .second, .val (.long x132), .second, .val (.long x135), .second, .unset, .unset, .unset, .unset, .unset, .unset, .unset] [])) _
    refine st137 _ ?_
    show Steps p.tables e below (T137.setTop (mkF m 25 #[.val (.long q0), .second, .val (.long q1), .second, .val (.long x132), .second, .val (.long x135), .second, .unset, .unset, .unset, .unset, .unset, .unset, .unset] [(.ref b137)])) _
    refine XS.dup X137.here hx rfl (hb hby at_25) rfl rfl ?_
    show Steps p.tables e below (T137.setTop (mkF m 26 #[.val (.long q0), .second, .val (.long q1), .second, .val (.long x132), .second, .val (.long x135), .second, .unset, .unset, .unset, .unset, .unset, .unset, .unset] [(.ref b137), (.ref b137)])) _
    refine st144 _ ?_
    show Steps p.tables e below (T144.setTop (mkF m 28 #[.val (.long q0), .second, .val (.long q1), .second, .val (.long x132), .second, .val (.long x135), .second, .unset, .unset, .unset, .unset, .unset, .unset, .unset] [(.ref a144), (.ref b137), (.ref b137)])) _
    refine XS.lload X144.here hx rfl (hb hby at_28) rfl ?_
    show Steps p.tables e below (T144.setTop (mkF m 30 #[.val (.long q0), .second, .val (.long q1), .second, .val (.long x132), .second, .val (.long x135), .second, .unset, .unset, .unset, .unset, .unset, .unset, .unset] [(.long x132), (.ref a144), (.ref b137), (.ref b137)])) _
    refine XS.lload X144.here hx rfl (hb hby at_30) rfl ?_
    show Steps p.tables e below (T144.setTop (mkF m 32 #[.val (.long q0), .second, .val (.long q1), .second, .val (.long x132), .second, .val (.long x135), .second, .unset, .unset, .unset, .unset, .unset, .unset, .unset] [(.long x135), (.long x132), (.ref a144), (.ref b137), (.ref b137)])) _
    refine st150.trans ?_
    show Steps p.tables e below (T150.setTop (mkF m 35 #[.val (.long q0), .second, .val (.long q1), .second, .val (.long x132), .second, .val (.long x135), .second, .unset, .unset, .unset, .unset, .unset, .unset, .unset] [(.ref b137)])) _
    refine XS.astore X150.here hx rfl (hb hby at_35) rfl rfl (l' := #[.val (.long q0), .second, .val (.long q1), .second, .val (.long x132), .second, .val (.long x135), .second, .val (.ref b137), .unset, .unset, .unset, .unset, .unset, .unset]) rfl ?_
    show Steps p.tables e below (T150.setTop (mkF m 37 #[.val (.long q0), .second, .val (.long q1), .second, .val (.long x132), .second, .val (.long x135), .second, .val (.ref b137), .unset, .unset, .unset, .unset, .unset, .unset] [])) _
    refine XS.aload X150.here hx rfl (hb hby at_37) rfl rfl ?_
    show Steps p.tables e below (T150.setTop (mkF m 39 #[.val (.long q0), .second, .val (.long q1), .second, .val (.long x132), .second, .val (.long x135), .second, .val (.ref b137), .unset, .unset, .unset, .unset, .unset, .unset] [(.ref b137)])) _
    refine st156.trans ?_
    show Steps p.tables e below (T156.setTop (mkF m 42 #[.val (.long q0), .second, .val (.long q1), .second, .val (.long x132), .second, .val (.long x135), .second, .val (.ref b137), .unset, .unset, .unset, .unset, .unset, .unset] [(.long ((x132 * (1000000 : Int64)) / x135))])) _
    refine XS.lstore X156.here hx rfl (hb hby at_42) rfl (l' := #[.val (.long q0), .second, .val (.long q1), .second, .val (.long x132), .second, .val (.long x135), .second, .val (.ref b137), .val (.long ((x132 * (1000000 : Int64)) / x135)), .second, .unset, .unset, .unset, .unset]) rfl ?_
    subst hx157
    exact k
  obtain ⟨x159, hx159⟩ : ∃ z : Int64, z = (x132 * (1000000 : Int64)) := ⟨_, rfl⟩
  have pre160 : ∀ t, Steps p.tables e below (T156.setTop (mkF m 52 #[.val (.long q0), .second, .val (.long q1), .second, .val (.long x132), .second, .val (.long x135), .second, .val (.ref b137), .val (.long x157), .second, .val (.long x159), .second, .unset, .unset] [])) t → Steps p.tables e below (s₁.setTop (entryFrame m #[(.long q0), (.long q1)] maxLocals)) t := fun t k => by
    refine pre158 t ?_
    show Steps p.tables e below (T156.setTop (mkF m 44 #[.val (.long q0), .second, .val (.long q1), .second, .val (.long x132), .second, .val (.long x135), .second, .val (.ref b137), .val (.long x157), .second, .unset, .unset, .unset, .unset] [])) _
    refine XS.lload X156.here hx rfl (hb hby at_44) rfl ?_
    show Steps p.tables e below (T156.setTop (mkF m 46 #[.val (.long q0), .second, .val (.long q1), .second, .val (.long x132), .second, .val (.long x135), .second, .val (.ref b137), .val (.long x157), .second, .unset, .unset, .unset, .unset] [(.long x132)])) _
    refine X156.ldc2Long hx hown144 (mvT hZ144 (hw _ (List.mem_of_getElem? (i := 40) rfl))) (g := (mkF m 46 #[.val (.long q0), .second, .val (.long q1), .second, .val (.long x132), .second, .val (.long x135), .second, .val (.ref b137), .val (.long x157), .second, .unset, .unset, .unset, .unset] [(.long x132)])) rfl (hb hby at_46) _ ?_
    show Steps p.tables e below (T156.setTop (mkF m 49 #[.val (.long q0), .second, .val (.long q1), .second, .val (.long x132), .second, .val (.long x135), .second, .val (.ref b137), .val (.long x157), .second, .unset, .unset, .unset, .unset] [(.long (1000000 : Int64)), (.long x132)])) _
    refine XS.lmul X156.here hx rfl (hb hby at_49) rfl ?_
    show Steps p.tables e below (T156.setTop (mkF m 50 #[.val (.long q0), .second, .val (.long q1), .second, .val (.long x132), .second, .val (.long x135), .second, .val (.ref b137), .val (.long x157), .second, .unset, .unset, .unset, .unset] [(.long (x132 * (1000000 : Int64)))])) _
    refine XS.lstore X156.here hx rfl (hb hby at_50) rfl (l' := #[.val (.long q0), .second, .val (.long q1), .second, .val (.long x132), .second, .val (.long x135), .second, .val (.ref b137), .val (.long x157), .second, .val (.long (x132 * (1000000 : Int64))), .second, .unset, .unset]) rfl ?_
    subst hx159
    exact k
  have NZ := own_nz (own_m hx135)
  have c161 : ¬ (x157 < (0 : Int64)) := by
    exact (own_r hx132 (own_m hx135) hx157 hx159).1
  have c162 : ¬ (x159 < x157) := by
    exact (own_r hx132 (own_m hx135) hx157 hx159).2.1
  have pre163 : ∀ t, Steps p.tables e below (T156.setTop (mkF m 73 #[.val (.long q0), .second, .val (.long q1), .second, .val (.long x132), .second, .val (.long x135), .second, .val (.ref b137), .val (.long x157), .second, .val (.long x159), .second, .unset, .unset] [(.int (lcmpW x157 (0 : Int64)))])) t → Steps p.tables e below (s₁.setTop (entryFrame m #[(.long q0), (.long q1)] maxLocals)) t := fun t k => by
    refine pre160 t ?_
    show Steps p.tables e below (T156.setTop (mkF m 52 #[.val (.long q0), .second, .val (.long q1), .second, .val (.long x132), .second, .val (.long x135), .second, .val (.ref b137), .val (.long x157), .second, .val (.long x159), .second, .unset, .unset] [])) _
    refine XS.lload X156.here hx rfl (hb hby at_52) rfl ?_
    show Steps p.tables e below (T156.setTop (mkF m 54 #[.val (.long q0), .second, .val (.long q1), .second, .val (.long x132), .second, .val (.long x135), .second, .val (.ref b137), .val (.long x157), .second, .val (.long x159), .second, .unset, .unset] [(.long x157)])) _
    refine XS.lconst X156.here hx rfl (hb hby at_54) ?_
    show Steps p.tables e below (T156.setTop (mkF m 55 #[.val (.long q0), .second, .val (.long q1), .second, .val (.long x132), .second, .val (.long x135), .second, .val (.ref b137), .val (.long x157), .second, .val (.long x159), .second, .unset, .unset] [(.long (0 : Int64)), (.long x157)])) _
    refine XS.lcmp X156.here hx rfl (hb hby at_55) rfl ?_
    show Steps p.tables e below (T156.setTop (mkF m 56 #[.val (.long q0), .second, .val (.long q1), .second, .val (.long x132), .second, .val (.long x135), .second, .val (.ref b137), .val (.long x157), .second, .val (.long x159), .second, .unset, .unset] [(.int (lcmpW x157 (0 : Int64)))])) _
    refine XS.ifNo X156.here hx rfl (hb hby at_56) rfl ((if0 _ _).trans (flt (fun q => c161 ((lw_lt _ _).mp q))).1) ?_
    show Steps p.tables e below (T156.setTop (mkF m 59 #[.val (.long q0), .second, .val (.long q1), .second, .val (.long x132), .second, .val (.long x135), .second, .val (.ref b137), .val (.long x157), .second, .val (.long x159), .second, .unset, .unset] [])) _
    refine XS.lload X156.here hx rfl (hb hby at_59) rfl ?_
    show Steps p.tables e below (T156.setTop (mkF m 61 #[.val (.long q0), .second, .val (.long q1), .second, .val (.long x132), .second, .val (.long x135), .second, .val (.ref b137), .val (.long x157), .second, .val (.long x159), .second, .unset, .unset] [(.long x157)])) _
    refine XS.lload X156.here hx rfl (hb hby at_61) rfl ?_
    show Steps p.tables e below (T156.setTop (mkF m 63 #[.val (.long q0), .second, .val (.long q1), .second, .val (.long x132), .second, .val (.long x135), .second, .val (.ref b137), .val (.long x157), .second, .val (.long x159), .second, .unset, .unset] [(.long x159), (.long x157)])) _
    refine XS.lcmp X156.here hx rfl (hb hby at_63) rfl ?_
    show Steps p.tables e below (T156.setTop (mkF m 64 #[.val (.long q0), .second, .val (.long q1), .second, .val (.long x132), .second, .val (.long x135), .second, .val (.ref b137), .val (.long x157), .second, .val (.long x159), .second, .unset, .unset] [(.int (lcmpW x157 x159))])) _
    refine XS.ifYes X156.here hx rfl (pc0 := 64) (pc' := 69) rfl (hb hby at_64) rfl ((if0 _ _).trans (flt (fun q => c162 ((lw_gt _ _).mp q))).2.2.2) (by decide) (by decide) ?_
    show Steps p.tables e below (T156.setTop (mkF m 69 #[.val (.long q0), .second, .val (.long q1), .second, .val (.long x132), .second, .val (.long x135), .second, .val (.ref b137), .val (.long x157), .second, .val (.long x159), .second, .unset, .unset] [])) _
    refine XS.lload X156.here hx rfl (hb hby at_69) rfl ?_
    show Steps p.tables e below (T156.setTop (mkF m 71 #[.val (.long q0), .second, .val (.long q1), .second, .val (.long x132), .second, .val (.long x135), .second, .val (.ref b137), .val (.long x157), .second, .val (.long x159), .second, .unset, .unset] [(.long x157)])) _
    refine XS.lconst X156.here hx rfl (hb hby at_71) ?_
    show Steps p.tables e below (T156.setTop (mkF m 72 #[.val (.long q0), .second, .val (.long q1), .second, .val (.long x132), .second, .val (.long x135), .second, .val (.ref b137), .val (.long x157), .second, .val (.long x159), .second, .unset, .unset] [(.long (0 : Int64)), (.long x157)])) _
    refine XS.lcmp X156.here hx rfl (hb hby at_72) rfl ?_
    exact k
  by_cases c164 : x157 = (0 : Int64)
  ·
    obtain ⟨x165, hx165⟩ : ∃ z : Int64, z = (x159 - (x157 * x135)) := ⟨_, rfl⟩
    have pre166 : ∀ t, Steps p.tables e below (T156.setTop (mkF m 102 #[.val (.long q0), .second, .val (.long q1), .second, .val (.long x132), .second, .val (.long x135), .second, .val (.ref b137), .val (.long x157), .second, .val (.long x159), .second, .val (.long x165), .second] [])) t → Steps p.tables e below (s₁.setTop (entryFrame m #[(.long q0), (.long q1)] maxLocals)) t := fun t k => by
      refine pre163 t ?_
      show Steps p.tables e below (T156.setTop (mkF m 73 #[.val (.long q0), .second, .val (.long q1), .second, .val (.long x132), .second, .val (.long x135), .second, .val (.ref b137), .val (.long x157), .second, .val (.long x159), .second, .unset, .unset] [(.int (lcmpW x157 (0 : Int64)))])) _
      refine XS.ifYes X156.here hx rfl (pc0 := 73) (pc' := 92) rfl (hb hby at_73) rfl ((if0 _ _).trans (teq ((lw_eq _ _).mpr c164)).1) (by decide) (by decide) ?_
      show Steps p.tables e below (T156.setTop (mkF m 92 #[.val (.long q0), .second, .val (.long q1), .second, .val (.long x132), .second, .val (.long x135), .second, .val (.ref b137), .val (.long x157), .second, .val (.long x159), .second, .unset, .unset] [])) _
      refine XS.lload X156.here hx rfl (hb hby at_92) rfl ?_
      show Steps p.tables e below (T156.setTop (mkF m 94 #[.val (.long q0), .second, .val (.long q1), .second, .val (.long x132), .second, .val (.long x135), .second, .val (.ref b137), .val (.long x157), .second, .val (.long x159), .second, .unset, .unset] [(.long x159)])) _
      refine XS.lload X156.here hx rfl (hb hby at_94) rfl ?_
      show Steps p.tables e below (T156.setTop (mkF m 96 #[.val (.long q0), .second, .val (.long q1), .second, .val (.long x132), .second, .val (.long x135), .second, .val (.ref b137), .val (.long x157), .second, .val (.long x159), .second, .unset, .unset] [(.long x157), (.long x159)])) _
      refine XS.lload X156.here hx rfl (hb hby at_96) rfl ?_
      show Steps p.tables e below (T156.setTop (mkF m 98 #[.val (.long q0), .second, .val (.long q1), .second, .val (.long x132), .second, .val (.long x135), .second, .val (.ref b137), .val (.long x157), .second, .val (.long x159), .second, .unset, .unset] [(.long x135), (.long x157), (.long x159)])) _
      refine XS.lmul X156.here hx rfl (hb hby at_98) rfl ?_
      show Steps p.tables e below (T156.setTop (mkF m 99 #[.val (.long q0), .second, .val (.long q1), .second, .val (.long x132), .second, .val (.long x135), .second, .val (.ref b137), .val (.long x157), .second, .val (.long x159), .second, .unset, .unset] [(.long (x157 * x135)), (.long x159)])) _
      refine XS.lsub X156.here hx rfl (hb hby at_99) rfl ?_
      show Steps p.tables e below (T156.setTop (mkF m 100 #[.val (.long q0), .second, .val (.long q1), .second, .val (.long x132), .second, .val (.long x135), .second, .val (.ref b137), .val (.long x157), .second, .val (.long x159), .second, .unset, .unset] [(.long (x159 - (x157 * x135)))])) _
      refine XS.lstore X156.here hx rfl (hb hby at_100) rfl (l' := #[.val (.long q0), .second, .val (.long q1), .second, .val (.long x132), .second, .val (.long x135), .second, .val (.ref b137), .val (.long x157), .second, .val (.long x159), .second, .val (.long (x159 - (x157 * x135))), .second]) rfl ?_
      subst hx165
      exact k
    have c167 : ¬ (x165 < (0 : Int64)) := by
      rw [hx165]; exact (own_r hx132 (own_m hx135) hx157 hx159).2.2.2.1
    have c168 : x165 < x135 := by
      rw [hx165]; exact (own_r hx132 (own_m hx135) hx157 hx159).2.2.2.2
    obtain ⟨fs, hr, hrun, hended, hEW⟩ := Stand.leaveW X156 hS144 (by rw [e156]; exact hk155) (v := some (.int (1 : Int32))) (fun h => by rw [Bd.returns] at h; cases h)
    refine ⟨_, _, pre166 _ ?_, hrun, hended, _, _, rfl, ?_, hEW.1, hEW.2.1, hEW.2.2.1, hEW.2.2.2.mono (by decide) (by decide)⟩
    ·
      show Steps p.tables e below (T156.setTop (mkF m 102 #[.val (.long q0), .second, .val (.long q1), .second, .val (.long x132), .second, .val (.long x135), .second, .val (.ref b137), .val (.long x157), .second, .val (.long x159), .second, .val (.long x165), .second] [])) _
      refine XS.lload X156.here hx rfl (hb hby at_102) rfl ?_
      show Steps p.tables e below (T156.setTop (mkF m 104 #[.val (.long q0), .second, .val (.long q1), .second, .val (.long x132), .second, .val (.long x135), .second, .val (.ref b137), .val (.long x157), .second, .val (.long x159), .second, .val (.long x165), .second] [(.long x165)])) _
      refine XS.lconst X156.here hx rfl (hb hby at_104) ?_
      show Steps p.tables e below (T156.setTop (mkF m 105 #[.val (.long q0), .second, .val (.long q1), .second, .val (.long x132), .second, .val (.long x135), .second, .val (.ref b137), .val (.long x157), .second, .val (.long x159), .second, .val (.long x165), .second] [(.long (0 : Int64)), (.long x165)])) _
      refine XS.lcmp X156.here hx rfl (hb hby at_105) rfl ?_
      show Steps p.tables e below (T156.setTop (mkF m 106 #[.val (.long q0), .second, .val (.long q1), .second, .val (.long x132), .second, .val (.long x135), .second, .val (.ref b137), .val (.long x157), .second, .val (.long x159), .second, .val (.long x165), .second] [(.int (lcmpW x165 (0 : Int64)))])) _
      refine XS.ifNo X156.here hx rfl (hb hby at_106) rfl ((if0 _ _).trans (flt (fun q => c167 ((lw_lt _ _).mp q))).1) ?_
      show Steps p.tables e below (T156.setTop (mkF m 109 #[.val (.long q0), .second, .val (.long q1), .second, .val (.long x132), .second, .val (.long x135), .second, .val (.ref b137), .val (.long x157), .second, .val (.long x159), .second, .val (.long x165), .second] [])) _
      refine XS.lload X156.here hx rfl (hb hby at_109) rfl ?_
      show Steps p.tables e below (T156.setTop (mkF m 111 #[.val (.long q0), .second, .val (.long q1), .second, .val (.long x132), .second, .val (.long x135), .second, .val (.ref b137), .val (.long x157), .second, .val (.long x159), .second, .val (.long x165), .second] [(.long x165)])) _
      refine XS.lload X156.here hx rfl (hb hby at_111) rfl ?_
      show Steps p.tables e below (T156.setTop (mkF m 113 #[.val (.long q0), .second, .val (.long q1), .second, .val (.long x132), .second, .val (.long x135), .second, .val (.ref b137), .val (.long x157), .second, .val (.long x159), .second, .val (.long x165), .second] [(.long x135), (.long x165)])) _
      refine XS.lcmp X156.here hx rfl (hb hby at_113) rfl ?_
      show Steps p.tables e below (T156.setTop (mkF m 114 #[.val (.long q0), .second, .val (.long q1), .second, .val (.long x132), .second, .val (.long x135), .second, .val (.ref b137), .val (.long x157), .second, .val (.long x159), .second, .val (.long x165), .second] [(.int (lcmpW x165 x135))])) _
      refine XS.ifNo X156.here hx rfl (hb hby at_114) rfl ((if0 _ _).trans (tlt ((lw_lt _ _).mpr c168)).2.1) ?_
      show Steps p.tables e below (T156.setTop (mkF m 117 #[.val (.long q0), .second, .val (.long q1), .second, .val (.long x132), .second, .val (.long x135), .second, .val (.ref b137), .val (.long x157), .second, .val (.long x159), .second, .val (.long x165), .second] [])) _
      refine XS.iconst X156.here hx rfl (hb hby at_117) ?_
      show Steps p.tables e below (T156.setTop (mkF m 118 #[.val (.long q0), .second, .val (.long q1), .second, .val (.long x132), .second, .val (.long x135), .second, .val (.ref b137), .val (.long x157), .second, .val (.long x159), .second, .val (.long x165), .second] [(.int (1 : Int32))])) _
      refine XS.goto X156.here hx rfl (pc0 := 118) (pc' := 122) rfl (hb hby at_118) (by decide) (by decide) ?_
      show Steps p.tables e below (T156.setTop (mkF m 122 #[.val (.long q0), .second, .val (.long q1), .second, .val (.long x132), .second, .val (.long x135), .second, .val (.ref b137), .val (.long x157), .second, .val (.long x159), .second, .val (.long x165), .second] [(.int (1 : Int32))])) _
      exact retZ X156 hx Bd.returns (by decide) (hb hby at_122) hr
    ·
      show Q_rm0 Z q0 q1 h0 n0 _ T156.heap _
      rw [e156]
      exact ⟨rfl, N156⟩
  ·
    have c169 : ((x157 * x135) / x135) = x157 := by
      exact (own_r hx132 (own_m hx135) hx157 hx159).2.2.1
    obtain ⟨x170, hx170⟩ : ∃ z : Int64, z = (x159 - (x157 * x135)) := ⟨_, rfl⟩
    have pre171 : ∀ t, Steps p.tables e below (T156.setTop (mkF m 102 #[.val (.long q0), .second, .val (.long q1), .second, .val (.long x132), .second, .val (.long x135), .second, .val (.ref b137), .val (.long x157), .second, .val (.long x159), .second, .val (.long x170), .second] [])) t → Steps p.tables e below (s₁.setTop (entryFrame m #[(.long q0), (.long q1)] maxLocals)) t := fun t k => by
      refine pre163 t ?_
      show Steps p.tables e below (T156.setTop (mkF m 73 #[.val (.long q0), .second, .val (.long q1), .second, .val (.long x132), .second, .val (.long x135), .second, .val (.ref b137), .val (.long x157), .second, .val (.long x159), .second, .unset, .unset] [(.int (lcmpW x157 (0 : Int64)))])) _
      refine XS.ifNo X156.here hx rfl (hb hby at_73) rfl ((if0 _ _).trans (feq (fun q => c164 ((lw_eq _ _).mp q))).1) ?_
      show Steps p.tables e below (T156.setTop (mkF m 76 #[.val (.long q0), .second, .val (.long q1), .second, .val (.long x132), .second, .val (.long x135), .second, .val (.ref b137), .val (.long x157), .second, .val (.long x159), .second, .unset, .unset] [])) _
      refine XS.lload X156.here hx rfl (hb hby at_76) rfl ?_
      show Steps p.tables e below (T156.setTop (mkF m 78 #[.val (.long q0), .second, .val (.long q1), .second, .val (.long x132), .second, .val (.long x135), .second, .val (.ref b137), .val (.long x157), .second, .val (.long x159), .second, .unset, .unset] [(.long x157)])) _
      refine XS.lload X156.here hx rfl (hb hby at_78) rfl ?_
      show Steps p.tables e below (T156.setTop (mkF m 80 #[.val (.long q0), .second, .val (.long q1), .second, .val (.long x132), .second, .val (.long x135), .second, .val (.ref b137), .val (.long x157), .second, .val (.long x159), .second, .unset, .unset] [(.long x135), (.long x157)])) _
      refine XS.lmul X156.here hx rfl (hb hby at_80) rfl ?_
      show Steps p.tables e below (T156.setTop (mkF m 81 #[.val (.long q0), .second, .val (.long q1), .second, .val (.long x132), .second, .val (.long x135), .second, .val (.ref b137), .val (.long x157), .second, .val (.long x159), .second, .unset, .unset] [(.long (x157 * x135))])) _
      refine XS.lload X156.here hx rfl (hb hby at_81) rfl ?_
      show Steps p.tables e below (T156.setTop (mkF m 83 #[.val (.long q0), .second, .val (.long q1), .second, .val (.long x132), .second, .val (.long x135), .second, .val (.ref b137), .val (.long x157), .second, .val (.long x159), .second, .unset, .unset] [(.long x135), (.long (x157 * x135))])) _
      refine XS.ldiv X156.here hx rfl (hb hby at_83) rfl NZ ?_
      show Steps p.tables e below (T156.setTop (mkF m 84 #[.val (.long q0), .second, .val (.long q1), .second, .val (.long x132), .second, .val (.long x135), .second, .val (.ref b137), .val (.long x157), .second, .val (.long x159), .second, .unset, .unset] [(.long ((x157 * x135) / x135))])) _
      refine XS.lload X156.here hx rfl (hb hby at_84) rfl ?_
      show Steps p.tables e below (T156.setTop (mkF m 86 #[.val (.long q0), .second, .val (.long q1), .second, .val (.long x132), .second, .val (.long x135), .second, .val (.ref b137), .val (.long x157), .second, .val (.long x159), .second, .unset, .unset] [(.long x157), (.long ((x157 * x135) / x135))])) _
      refine XS.lcmp X156.here hx rfl (hb hby at_86) rfl ?_
      show Steps p.tables e below (T156.setTop (mkF m 87 #[.val (.long q0), .second, .val (.long q1), .second, .val (.long x132), .second, .val (.long x135), .second, .val (.ref b137), .val (.long x157), .second, .val (.long x159), .second, .unset, .unset] [(.int (lcmpW ((x157 * x135) / x135) x157))])) _
      refine XS.ifYes X156.here hx rfl (pc0 := 87) (pc' := 92) rfl (hb hby at_87) rfl ((if0 _ _).trans (teq ((lw_eq _ _).mpr c169)).1) (by decide) (by decide) ?_
      show Steps p.tables e below (T156.setTop (mkF m 92 #[.val (.long q0), .second, .val (.long q1), .second, .val (.long x132), .second, .val (.long x135), .second, .val (.ref b137), .val (.long x157), .second, .val (.long x159), .second, .unset, .unset] [])) _
      refine XS.lload X156.here hx rfl (hb hby at_92) rfl ?_
      show Steps p.tables e below (T156.setTop (mkF m 94 #[.val (.long q0), .second, .val (.long q1), .second, .val (.long x132), .second, .val (.long x135), .second, .val (.ref b137), .val (.long x157), .second, .val (.long x159), .second, .unset, .unset] [(.long x159)])) _
      refine XS.lload X156.here hx rfl (hb hby at_94) rfl ?_
      show Steps p.tables e below (T156.setTop (mkF m 96 #[.val (.long q0), .second, .val (.long q1), .second, .val (.long x132), .second, .val (.long x135), .second, .val (.ref b137), .val (.long x157), .second, .val (.long x159), .second, .unset, .unset] [(.long x157), (.long x159)])) _
      refine XS.lload X156.here hx rfl (hb hby at_96) rfl ?_
      show Steps p.tables e below (T156.setTop (mkF m 98 #[.val (.long q0), .second, .val (.long q1), .second, .val (.long x132), .second, .val (.long x135), .second, .val (.ref b137), .val (.long x157), .second, .val (.long x159), .second, .unset, .unset] [(.long x135), (.long x157), (.long x159)])) _
      refine XS.lmul X156.here hx rfl (hb hby at_98) rfl ?_
      show Steps p.tables e below (T156.setTop (mkF m 99 #[.val (.long q0), .second, .val (.long q1), .second, .val (.long x132), .second, .val (.long x135), .second, .val (.ref b137), .val (.long x157), .second, .val (.long x159), .second, .unset, .unset] [(.long (x157 * x135)), (.long x159)])) _
      refine XS.lsub X156.here hx rfl (hb hby at_99) rfl ?_
      show Steps p.tables e below (T156.setTop (mkF m 100 #[.val (.long q0), .second, .val (.long q1), .second, .val (.long x132), .second, .val (.long x135), .second, .val (.ref b137), .val (.long x157), .second, .val (.long x159), .second, .unset, .unset] [(.long (x159 - (x157 * x135)))])) _
      refine XS.lstore X156.here hx rfl (hb hby at_100) rfl (l' := #[.val (.long q0), .second, .val (.long q1), .second, .val (.long x132), .second, .val (.long x135), .second, .val (.ref b137), .val (.long x157), .second, .val (.long x159), .second, .val (.long (x159 - (x157 * x135))), .second]) rfl ?_
      subst hx170
      exact k
    have c172 : ¬ (x170 < (0 : Int64)) := by
      rw [hx170]; exact (own_r hx132 (own_m hx135) hx157 hx159).2.2.2.1
    have c173 : x170 < x135 := by
      rw [hx170]; exact (own_r hx132 (own_m hx135) hx157 hx159).2.2.2.2
    obtain ⟨fs, hr, hrun, hended, hEW⟩ := Stand.leaveW X156 hS144 (by rw [e156]; exact hk155) (v := some (.int (1 : Int32))) (fun h => by rw [Bd.returns] at h; cases h)
    refine ⟨_, _, pre171 _ ?_, hrun, hended, _, _, rfl, ?_, hEW.1, hEW.2.1, hEW.2.2.1, hEW.2.2.2.mono (by decide) (by decide)⟩
    ·
      show Steps p.tables e below (T156.setTop (mkF m 102 #[.val (.long q0), .second, .val (.long q1), .second, .val (.long x132), .second, .val (.long x135), .second, .val (.ref b137), .val (.long x157), .second, .val (.long x159), .second, .val (.long x170), .second] [])) _
      refine XS.lload X156.here hx rfl (hb hby at_102) rfl ?_
      show Steps p.tables e below (T156.setTop (mkF m 104 #[.val (.long q0), .second, .val (.long q1), .second, .val (.long x132), .second, .val (.long x135), .second, .val (.ref b137), .val (.long x157), .second, .val (.long x159), .second, .val (.long x170), .second] [(.long x170)])) _
      refine XS.lconst X156.here hx rfl (hb hby at_104) ?_
      show Steps p.tables e below (T156.setTop (mkF m 105 #[.val (.long q0), .second, .val (.long q1), .second, .val (.long x132), .second, .val (.long x135), .second, .val (.ref b137), .val (.long x157), .second, .val (.long x159), .second, .val (.long x170), .second] [(.long (0 : Int64)), (.long x170)])) _
      refine XS.lcmp X156.here hx rfl (hb hby at_105) rfl ?_
      show Steps p.tables e below (T156.setTop (mkF m 106 #[.val (.long q0), .second, .val (.long q1), .second, .val (.long x132), .second, .val (.long x135), .second, .val (.ref b137), .val (.long x157), .second, .val (.long x159), .second, .val (.long x170), .second] [(.int (lcmpW x170 (0 : Int64)))])) _
      refine XS.ifNo X156.here hx rfl (hb hby at_106) rfl ((if0 _ _).trans (flt (fun q => c172 ((lw_lt _ _).mp q))).1) ?_
      show Steps p.tables e below (T156.setTop (mkF m 109 #[.val (.long q0), .second, .val (.long q1), .second, .val (.long x132), .second, .val (.long x135), .second, .val (.ref b137), .val (.long x157), .second, .val (.long x159), .second, .val (.long x170), .second] [])) _
      refine XS.lload X156.here hx rfl (hb hby at_109) rfl ?_
      show Steps p.tables e below (T156.setTop (mkF m 111 #[.val (.long q0), .second, .val (.long q1), .second, .val (.long x132), .second, .val (.long x135), .second, .val (.ref b137), .val (.long x157), .second, .val (.long x159), .second, .val (.long x170), .second] [(.long x170)])) _
      refine XS.lload X156.here hx rfl (hb hby at_111) rfl ?_
      show Steps p.tables e below (T156.setTop (mkF m 113 #[.val (.long q0), .second, .val (.long q1), .second, .val (.long x132), .second, .val (.long x135), .second, .val (.ref b137), .val (.long x157), .second, .val (.long x159), .second, .val (.long x170), .second] [(.long x135), (.long x170)])) _
      refine XS.lcmp X156.here hx rfl (hb hby at_113) rfl ?_
      show Steps p.tables e below (T156.setTop (mkF m 114 #[.val (.long q0), .second, .val (.long q1), .second, .val (.long x132), .second, .val (.long x135), .second, .val (.ref b137), .val (.long x157), .second, .val (.long x159), .second, .val (.long x170), .second] [(.int (lcmpW x170 x135))])) _
      refine XS.ifNo X156.here hx rfl (hb hby at_114) rfl ((if0 _ _).trans (tlt ((lw_lt _ _).mpr c173)).2.1) ?_
      show Steps p.tables e below (T156.setTop (mkF m 117 #[.val (.long q0), .second, .val (.long q1), .second, .val (.long x132), .second, .val (.long x135), .second, .val (.ref b137), .val (.long x157), .second, .val (.long x159), .second, .val (.long x170), .second] [])) _
      refine XS.iconst X156.here hx rfl (hb hby at_117) ?_
      show Steps p.tables e below (T156.setTop (mkF m 118 #[.val (.long q0), .second, .val (.long q1), .second, .val (.long x132), .second, .val (.long x135), .second, .val (.ref b137), .val (.long x157), .second, .val (.long x159), .second, .val (.long x170), .second] [(.int (1 : Int32))])) _
      refine XS.goto X156.here hx rfl (pc0 := 118) (pc' := 122) rfl (hb hby at_118) (by decide) (by decide) ?_
      show Steps p.tables e below (T156.setTop (mkF m 122 #[.val (.long q0), .second, .val (.long q1), .second, .val (.long x132), .second, .val (.long x135), .second, .val (.ref b137), .val (.long x157), .second, .val (.long x159), .second, .val (.long x170), .second] [(.int (1 : Int32))])) _
      exact retZ X156 hx Bd.returns (by decide) (hb hby at_122) hr
    ·
      show Q_rm0 Z q0 q1 h0 n0 _ T156.heap _
      rw [e156]
      exact ⟨rfl, N156⟩
set_option maxRecDepth 65536 in
set_option maxHeartbeats 40000000 in
theorem comes_1 {Post : Tables → Env → Array Value → State → Outcome → State → Prop} (hpost : ∀ tb e args s v u, (limb_1_1.after args s (.returned v) u = true ∧ limb_1_2.after args s (.returned v) u = true ∧ True) → ReturnedEndW s (.returned v) u (Jvm.fieldLocs frame_1_writes args s ++ Jvm.arrayLocs frame_1_arrays args s ++ Jvm.staticLocs frame_1_statics s) 16 1152 → Post tb e args s (.returned v) u) :
    ArmFor flags0 classFile x code maxLocals ret World_1 tables_1 room_1 Calls_1 rest_1 Pre_1 Post := by
  intro l hfl _ _ p e ha hc hk s m args below hf hA hF happ hP
  obtain ⟨hcalls, hrest, hpre⟩ := hP
  obtain ⟨-, -, -, hnamed, -, -, -, hat⟩ := (Spec.applies_iff hf).mp happ
  obtain ⟨hg, hn⟩ := and_e (Cond.before_iff.mp (show (Jvm.Cond.and given_1 narrow_1).before args s = true from hpre))
  obtain ⟨g174, g175⟩ := and_e hg
  obtain ⟨g176, g177⟩ := and_e g175
  obtain ⟨w0, w1, rfl⟩ : ∃ w0 w1 : Value, args = #[w0, w1] := by
    have hs : args.size = 2 := by simpa [Cond.value, given_1] using g174
    obtain ⟨L⟩ := args
    match L, hs with
    | [w0, w1], _ => exact ⟨w0, w1, rfl⟩
  have hw := fun d (hd : d ∈ tables_1) => atoms_spec (ws := Jvm.Cond.code x code maxLocals ret :: tables_1) hat d (List.mem_cons_of_mem _ hd)
  have hfit : Fit s := fun {y c} hc i hi => by
    obtain ⟨ha, rfl⟩ := Array.getElem?_eq_some_iff.mp hc
    have q := List.all_eq_true.mp ((Array.all_eq_true_iff_forall_mem.mp hF) _ (Array.getElem_mem ha)) i (List.mem_range.mpr hi)
    simpa [Array.getElem?_eq_getElem hi] using q
  obtain ⟨i0, ei0⟩ := isL_v g176
  obtain rfl : w0 = (.long i0) := Option.some.inj ei0
  obtain ⟨i1, ei1⟩ := isL_v g177
  obtain rfl : w1 = (.long i1) := Option.some.inj ei1
  obtain ⟨n, o, h1, h2, h3, _, L, rfl, ⟨rfl, N⟩, hq⟩ := rm0 l s _ hw tables_1 i0 i1 s.heap s.heap.size (Nat.le_refl _) p e ha hc hk s m _ below hf ((Spec.applies_iff_loose hf).mp happ).1 ⟨rfl, State.Warmed39.refl s, rfl⟩ trivial
  refine ⟨n, _, h1, h2, h3, hpost _ _ _ _ _ _ ⟨Cond.after_iff.mpr rfl, Cond.after_iff.mpr (eq_i res_at (Term.int_eval (1)) rfl), trivial⟩ ⟨hq.1, hq.2.1, hq.2.2.1, (hq.2.2.2.sift fun y hy => Or.inr (N y hy)).mono (by decide) (by decide)⟩⟩
theorem main_1_1 : Claimed_1_1 := comes_1 fun _ _ _ _ _ _ h hF => ⟨h.1, hF⟩
theorem main_1_2 : Claimed_1_2 := comes_1 fun _ _ _ _ _ _ h hF => ⟨h.2.1, hF⟩
end Jvm.Pilot.@@N@@
namespace Jvm.Pilot.@@N@@
open Jvm Jvm.ClassFile Sem Op Lib Jvm.Free Jvm.Stand Jvm.Pilot.@@N@@.Jvm.D
/-! MADE BY PROGRAM (witnessworld.py) out of the Statement's table words and the real class files: 16 classes; the members and pool entries that the words name. The judged class is class 1, her method 1. -/
namespace start1
open Jvm.ClassFile
def u (s : String) : CpInfo := .utf8 (stringToUtf16 s)
/-- a pool by its gaps: so many unusable entries, then the entry; so many at the end -/
def gap : Nat → List CpInfo → List CpInfo
  | 0, r => r
  | n + 1, r => .unusable :: gap n r
def poolList (es : List (Nat × CpInfo)) (last : Nat) : List CpInfo := es.foldr (fun e r => gap e.1 (e.2 :: r)) (gap last [])
def pool (es : List (Nat × CpInfo)) (last : Nat) : Array CpInfo := ⟨poolList es last⟩
def fileOf (pool : Array CpInfo) (this : Nat) (attrs : Array Attribute := #[]) (ms : Array MethodInfo := #[]) (fl : Nat := 33) (sup : Nat := 0) (ifs : Array Nat := #[]) (fds : Array FieldInfo := #[]) : ClassFile where
  minorVersion := 0
  majorVersion := 65
  constantPool := pool
  accessFlags := fl
  thisClass := this
  superClass := sup
  interfaces := ifs
  fields := fds
  methods := ms
  attributes := attrs
def plain (name : String) (sup : Option ClassId) : Class where
  name := name
  kind := .ordinary
  loader := none
  accessFlags := 33
  super := sup
  interfaces := #[]
  cf := none
  fields := #[]
  methods := #[]
  instanceTypes := #[]
  staticTypes := #[]
  resolved := #[]
  callSites := []
  init := .initialized
  statics := none
  mirror := none

def pool0 : Array CpInfo := pool [(5, u "<init>"), (0, u "()V"), (1, .class_ 10), (1, u "java/lang/Object")] 113

def k0c0 : Code := { maxStack := 0, maxLocals := 1, code := object_method_1_code, exceptionTable := #[], attributes := #[] }
def k0m0 : Method := { name := "<init>", desc := "()V", sig := { parameters := [], returnType := none }, accessFlags := 1, code := some k0c0 }
/-- java/lang/Object -/
def k0 : Class := { plain "java/lang/Object" none with
  accessFlags := 33
  interfaces := #[]
  cf := some (fileOf pool0 8 #[] #[{ accessFlags := 1, nameIndex := 5, descriptorIndex := 6, attributes := #[] }] 33 0 #[] #[])
  fields := #[]
  methods := #[k0m0]
  instanceTypes := #[]
  staticTypes := #[]
  resolved := Array.replicate 124 none
  statics := none }

def pool1 : Array CpInfo := pool [(2, .class_ 4), (1, u "java/lang/Object"), (0, u "<init>"), (0, u "()V"), (2, .long 9223372036854775807), (1, .long 9223372036855), (1, .methodref 14 15), (0, .class_ 16), (0, .nameAndType 17 18), (0, u "java/lang/Math"), (0, u "max"), (0, u "(JJ)J"), (0, .class_ 20), (0, u "com/example/sheafworks/sheafworks/bench/Bench$Result"), (0, .string 22), (0, u "x"), (0, .methodref 19 24), (0, .nameAndType 5 25), (0, u "(Ljava/lang/String;JJ)V"), (0, .methodref 19 27), (0, .nameAndType 28 29), (0, u "operationsPerSecond"), (0, u "()J"), (0, .long 1000000), (1, .class_ 33), (0, u "com/example/sheafworks/sheafworks/bench/ResultOperationsPerSecondPinLaw"), (2, u "law"), (0, u "(JJ)Z")] 7

def k1m0 : Method := { name := "<init>", desc := "()V", sig := { parameters := [], returnType := none }, accessFlags := 2, code := none }
def k1c1 : Code := { maxStack := 7, maxLocals := 15, code := code, exceptionTable := #[], attributes := #[] }
def k1m1 : Method := { name := "law", desc := "(JJ)Z", sig := { parameters := [.long, .long], returnType := some .boolean }, accessFlags := 9, code := some k1c1 }
/-- com/example/sheafworks/sheafworks/bench/ResultOperationsPerSecondPinLaw -/
def k1 : Class := { plain "com/example/sheafworks/sheafworks/bench/ResultOperationsPerSecondPinLaw" (some 0) with
  accessFlags := 49
  interfaces := #[]
  cf := some (fileOf pool1 32 #[] #[{ accessFlags := 2, nameIndex := 5, descriptorIndex := 6, attributes := #[] }, { accessFlags := 9, nameIndex := 36, descriptorIndex := 37, attributes := #[] }] 49 2 #[] #[])
  fields := #[]
  methods := #[k1m0, k1m1]
  instanceTypes := #[]
  staticTypes := #[]
  resolved := Array.replicate 45 none
  statics := none }

def pool2 : Array CpInfo := pool [(1, .class_ 2), (0, u "java/lang/Math"), (1, .class_ 6), (1, u "java/lang/Object"), (0, u "<init>"), (0, u "()V"), (89, .class_ 100), (1, u "java/lang/Math$RandomNumberGeneratorHolder"), (20, u "(JJ)J"), (50, u "negativeZeroFloatBits"), (0, u "J"), (2, u "negativeZeroDoubleBits"), (21, u "max"), (46, u "$assertionsDisabled"), (0, u "Z"), (91, u "twoToTheDoubleScaleDown"), (0, u "D"), (4, u "twoToTheDoubleScaleUp"), (9, u "E"), (3, u "PI"), (2, u "TAU"), (2, u "DEGREES_TO_RADIANS"), (0, u "RADIANS_TO_DEGREES")] 94

def k2m0 : Method := { name := "<init>", desc := "()V", sig := { parameters := [], returnType := none }, accessFlags := 2, code := none }
def k2c1 : Code := { maxStack := 4, maxLocals := 4, code := jdk_29_method_66_code, exceptionTable := #[], attributes := #[] }
def k2m1 : Method := { name := "max", desc := "(JJ)J", sig := { parameters := [.long, .long], returnType := some .long }, accessFlags := 9, code := some k2c1 }
/-- java/lang/Math -/
def k2 : Class := { plain "java/lang/Math" (some 0) with
  accessFlags := 49
  interfaces := #[]
  cf := some (fileOf pool2 1 #[.nestMembers #[98]] #[{ accessFlags := 2, nameIndex := 7, descriptorIndex := 8, attributes := #[] }, { accessFlags := 9, nameIndex := 198, descriptorIndex := 121, attributes := #[] }] 49 4 #[] #[{ accessFlags := 25, nameIndex := 354, descriptorIndex := 339, attributes := #[] }, { accessFlags := 25, nameIndex := 358, descriptorIndex := 339, attributes := #[] }, { accessFlags := 25, nameIndex := 361, descriptorIndex := 339, attributes := #[] }, { accessFlags := 26, nameIndex := 364, descriptorIndex := 339, attributes := #[] }, { accessFlags := 26, nameIndex := 365, descriptorIndex := 339, attributes := #[] }, { accessFlags := 26, nameIndex := 172, descriptorIndex := 173, attributes := #[] }, { accessFlags := 26, nameIndex := 176, descriptorIndex := 173, attributes := #[] }, { accessFlags := 8, nameIndex := 344, descriptorIndex := 339, attributes := #[] }, { accessFlags := 8, nameIndex := 338, descriptorIndex := 339, attributes := #[] }, { accessFlags := 4120, nameIndex := 245, descriptorIndex := 246, attributes := #[] }])
  fields := #[{ name := "E", type := .double, accessFlags := 25, slot := 0, constantValue := 0 }, { name := "PI", type := .double, accessFlags := 25, slot := 1, constantValue := 0 }, { name := "TAU", type := .double, accessFlags := 25, slot := 2, constantValue := 0 }, { name := "DEGREES_TO_RADIANS", type := .double, accessFlags := 26, slot := 3, constantValue := 0 }, { name := "RADIANS_TO_DEGREES", type := .double, accessFlags := 26, slot := 4, constantValue := 0 }, { name := "negativeZeroFloatBits", type := .long, accessFlags := 26, slot := 5, constantValue := 0 }, { name := "negativeZeroDoubleBits", type := .long, accessFlags := 26, slot := 6, constantValue := 0 }, { name := "twoToTheDoubleScaleUp", type := .double, accessFlags := 8, slot := 7, constantValue := 0 }, { name := "twoToTheDoubleScaleDown", type := .double, accessFlags := 8, slot := 8, constantValue := 0 }, { name := "$assertionsDisabled", type := .boolean, accessFlags := 4120, slot := 9, constantValue := 0 }]
  methods := #[k2m0, k2m1]
  instanceTypes := #[]
  staticTypes := #[.double, .double, .double, .double, .double, .long, .long, .double, .double, .boolean]
  resolved := Array.replicate 460 none
  statics := none }

def pool3 : Array CpInfo := pool [(1, .methodref 2 3), (0, .class_ 4), (0, .nameAndType 5 6), (0, u "java/lang/Object"), (0, u "<init>"), (0, u "()V"), (0, .class_ 8), (0, u "java/lang/Record")] 13

def k3c0 : Code := { maxStack := 1, maxLocals := 1, code := jdk_30_method_1_code, exceptionTable := #[], attributes := #[] }
def k3m0 : Method := { name := "<init>", desc := "()V", sig := { parameters := [], returnType := none }, accessFlags := 4, code := some k3c0 }
/-- java/lang/Record -/
def k3 : Class := { plain "java/lang/Record" (some 0) with
  accessFlags := 1057
  interfaces := #[]
  cf := some (fileOf pool3 7 #[] #[{ accessFlags := 4, nameIndex := 5, descriptorIndex := 6, attributes := #[] }] 1057 2 #[] #[])
  fields := #[]
  methods := #[k3m0]
  instanceTypes := #[]
  staticTypes := #[]
  resolved := Array.replicate 22 none
  statics := none }

def pool4 : Array CpInfo := pool [(1, .methodref 2 3), (0, .class_ 4), (0, .nameAndType 5 6), (0, u "java/lang/Record"), (0, u "<init>"), (0, u "()V"), (9, .fieldref 17 18), (0, .class_ 19), (0, .nameAndType 20 21), (0, u "com/example/sheafworks/sheafworks/bench/Bench$Result"), (0, u "name"), (0, u "Ljava/lang/String;"), (0, .fieldref 17 23), (0, .nameAndType 24 25), (0, u "operations"), (0, u "J"), (0, .fieldref 17 27), (0, .nameAndType 28 25), (0, u "micros"), (0, .long 1000000), (13, u "operationsPerSecond"), (0, u "()J"), (24, u "(Ljava/lang/String;JJ)V"), (11, .class_ 82), (0, u "com/example/sheafworks/sheafworks/bench/Bench")] 29

def k4c0 : Code := { maxStack := 4, maxLocals := 6, code := prog_10_method_1_code, exceptionTable := #[], attributes := #[] }
def k4m0 : Method := { name := "<init>", desc := "(Ljava/lang/String;JJ)V", sig := { parameters := [(.object "java/lang/String"), .long, .long], returnType := none }, accessFlags := 1, code := some k4c0 }
def k4c1 : Code := { maxStack := 4, maxLocals := 1, code := prog_10_method_2_code, exceptionTable := #[], attributes := #[] }
def k4m1 : Method := { name := "operationsPerSecond", desc := "()J", sig := { parameters := [], returnType := some .long }, accessFlags := 1, code := some k4c1 }
/-- com/example/sheafworks/sheafworks/bench/Bench$Result -/
def k4 : Class := { plain "com/example/sheafworks/sheafworks/bench/Bench$Result" (some 3) with
  accessFlags := 49
  interfaces := #[]
  cf := some (fileOf pool4 17 #[.nestHost 81] #[{ accessFlags := 1, nameIndex := 5, descriptorIndex := 69, attributes := #[] }, { accessFlags := 1, nameIndex := 43, descriptorIndex := 44, attributes := #[] }] 49 2 #[] #[{ accessFlags := 18, nameIndex := 20, descriptorIndex := 21, attributes := #[] }, { accessFlags := 18, nameIndex := 24, descriptorIndex := 25, attributes := #[] }, { accessFlags := 18, nameIndex := 28, descriptorIndex := 25, attributes := #[] }])
  fields := #[{ name := "name", type := (.object "java/lang/String"), accessFlags := 18, slot := 0, constantValue := 0 }, { name := "operations", type := .long, accessFlags := 18, slot := 1, constantValue := 0 }, { name := "micros", type := .long, accessFlags := 18, slot := 2, constantValue := 0 }]
  methods := #[k4m0, k4m1]
  instanceTypes := #[(.object "java/lang/String"), .long, .long]
  staticTypes := #[]
  resolved := Array.replicate 112 none
  statics := none }

def pool5 : Array CpInfo := pool [(1, .class_ 2), (0, u "java/io/Serializable"), (0, .class_ 4), (0, u "java/lang/Object")] 2

/-- java/io/Serializable -/
def k5 : Class := { plain "java/io/Serializable" (some 0) with
  accessFlags := 1537
  interfaces := #[]
  cf := some (fileOf pool5 1 #[] #[] 1537 3 #[] #[])
  fields := #[]
  methods := #[]
  instanceTypes := #[]
  staticTypes := #[]
  resolved := Array.replicate 7 none
  statics := none }

def pool6 : Array CpInfo := pool [(1, .class_ 2), (0, u "java/lang/Comparable"), (0, .class_ 4), (0, u "java/lang/Object")] 7

/-- java/lang/Comparable -/
def k6 : Class := { plain "java/lang/Comparable" (some 0) with
  accessFlags := 1537
  interfaces := #[]
  cf := some (fileOf pool6 1 #[] #[] 1537 3 #[] #[])
  fields := #[]
  methods := #[]
  instanceTypes := #[]
  staticTypes := #[]
  resolved := Array.replicate 12 none
  statics := none }

def pool7 : Array CpInfo := pool [(2, .class_ 4), (1, u "java/lang/CharSequence"), (42, .class_ 48), (0, u "java/lang/CharSequence$1CodePointIterator"), (10, .class_ 60), (0, u "java/lang/CharSequence$1CharIterator"), (5, .class_ 67), (0, u "java/lang/Object")] 63

/-- java/lang/CharSequence -/
def k7 : Class := { plain "java/lang/CharSequence" (some 0) with
  accessFlags := 1537
  interfaces := #[]
  cf := some (fileOf pool7 2 #[.nestMembers #[47, 59]] #[] 1537 66 #[] #[])
  fields := #[]
  methods := #[]
  instanceTypes := #[]
  staticTypes := #[]
  resolved := Array.replicate 131 none
  statics := none }

def pool8 : Array CpInfo := pool [(1, .class_ 2), (0, u "java/lang/constant/Constable"), (0, .class_ 4), (0, u "java/lang/Object")] 6

/-- java/lang/constant/Constable -/
def k8 : Class := { plain "java/lang/constant/Constable" (some 0) with
  accessFlags := 1537
  interfaces := #[]
  cf := some (fileOf pool8 1 #[] #[] 1537 3 #[] #[])
  fields := #[]
  methods := #[]
  instanceTypes := #[]
  staticTypes := #[]
  resolved := Array.replicate 11 none
  statics := none }

def pool9 : Array CpInfo := pool [(1, .class_ 2), (0, u "java/lang/constant/ConstantDesc"), (0, .class_ 4), (0, u "java/lang/Object")] 32

/-- java/lang/constant/ConstantDesc -/
def k9 : Class := { plain "java/lang/constant/ConstantDesc" (some 0) with
  accessFlags := 1537
  interfaces := #[]
  cf := some (fileOf pool9 1 #[] #[] 1537 3 #[] #[])
  fields := #[]
  methods := #[]
  instanceTypes := #[]
  staticTypes := #[]
  resolved := Array.replicate 37 none
  statics := none }

def pool10 : Array CpInfo := pool [(2, .class_ 4), (1, u "java/lang/Object"), (0, u "<init>"), (0, u "()V"), (3, .class_ 12), (1, u "java/lang/String"), (0, u "value"), (0, u "[B"), (2, u "coder"), (0, u "B"), (2, u "hash"), (0, u "I"), (2, u "hashIsZero"), (0, u "Z"), (13, u "COMPACT_STRINGS"), (534, .class_ 576), (0, u "java/lang/CharSequence"), (22, u "CASE_INSENSITIVE_ORDER"), (0, u "Ljava/util/Comparator;"), (500, u "serialPersistentFields"), (0, u "[Ljava/io/ObjectStreamField;"), (0, .class_ 1104), (0, u "java/lang/String$CaseInsensitiveComparator"), (1, .class_ 1107), (0, u "java/io/Serializable"), (0, .class_ 1109), (0, u "java/lang/Comparable"), (0, .class_ 1111), (0, u "java/lang/constant/Constable"), (0, .class_ 1113), (0, u "java/lang/constant/ConstantDesc"), (2, u "serialVersionUID"), (0, u "J"), (3, u "REPL"), (0, u "C"), (2, u "LATIN1"), (1, u "UTF16")] 323

def k10m0 : Method := { name := "<init>", desc := "()V", sig := { parameters := [], returnType := none }, accessFlags := 1, code := none }
/-- java/lang/String -/
def k10 : Class := { plain "java/lang/String" (some 0) with
  accessFlags := 49
  interfaces := #[5, 6, 7, 8, 9]
  cf := some (fileOf pool10 10 #[.nestMembers #[1103]] #[{ accessFlags := 1, nameIndex := 5, descriptorIndex := 6, attributes := #[] }] 49 2 #[1106, 1108, 575, 1110, 1112] #[{ accessFlags := 18, nameIndex := 13, descriptorIndex := 14, attributes := #[] }, { accessFlags := 18, nameIndex := 17, descriptorIndex := 18, attributes := #[] }, { accessFlags := 2, nameIndex := 21, descriptorIndex := 22, attributes := #[] }, { accessFlags := 2, nameIndex := 25, descriptorIndex := 26, attributes := #[] }, { accessFlags := 26, nameIndex := 1116, descriptorIndex := 1117, attributes := #[] }, { accessFlags := 24, nameIndex := 40, descriptorIndex := 26, attributes := #[] }, { accessFlags := 26, nameIndex := 1101, descriptorIndex := 1102, attributes := #[] }, { accessFlags := 26, nameIndex := 1121, descriptorIndex := 1122, attributes := #[] }, { accessFlags := 25, nameIndex := 599, descriptorIndex := 600, attributes := #[] }, { accessFlags := 24, nameIndex := 1125, descriptorIndex := 18, attributes := #[] }, { accessFlags := 24, nameIndex := 1127, descriptorIndex := 18, attributes := #[] }])
  fields := #[{ name := "value", type := (.array .byte), accessFlags := 18, slot := 0, constantValue := 0 }, { name := "coder", type := .byte, accessFlags := 18, slot := 1, constantValue := 0 }, { name := "hash", type := .int, accessFlags := 2, slot := 2, constantValue := 0 }, { name := "hashIsZero", type := .boolean, accessFlags := 2, slot := 3, constantValue := 0 }, { name := "serialVersionUID", type := .long, accessFlags := 26, slot := 0, constantValue := 0 }, { name := "COMPACT_STRINGS", type := .boolean, accessFlags := 24, slot := 1, constantValue := 0 }, { name := "serialPersistentFields", type := (.array (.object "java/io/ObjectStreamField")), accessFlags := 26, slot := 2, constantValue := 0 }, { name := "REPL", type := .char, accessFlags := 26, slot := 3, constantValue := 0 }, { name := "CASE_INSENSITIVE_ORDER", type := (.object "java/util/Comparator"), accessFlags := 25, slot := 4, constantValue := 0 }, { name := "LATIN1", type := .byte, accessFlags := 24, slot := 5, constantValue := 0 }, { name := "UTF16", type := .byte, accessFlags := 24, slot := 6, constantValue := 0 }]
  methods := #[k10m0]
  instanceTypes := #[(.array .byte), .byte, .int, .boolean]
  staticTypes := #[.long, .boolean, (.array (.object "java/io/ObjectStreamField")), .char, (.object "java/util/Comparator"), .byte, .byte]
  resolved := Array.replicate 1451 none
  statics := none }

def pool11 : Array CpInfo := pool [(1, u "java/lang/Cloneable"), (0, .class_ 1), (0, u "java/lang/Object"), (0, .class_ 3)] 3

/-- java/lang/Cloneable -/
def k11 : Class := { plain "java/lang/Cloneable" (some 0) with
  accessFlags := 1537
  interfaces := #[]
  cf := some (fileOf pool11 2 #[] #[] 1537 4 #[] #[])
  fields := #[]
  methods := #[]
  instanceTypes := #[]
  staticTypes := #[]
  resolved := Array.replicate 8 none
  statics := none }

/-- the primitive byte -/
def k12 : Class := { plain "byte" none with kind := .primitive 'B', accessFlags := 0x411 }
/-- [B -/
def k13 : Class := { plain "[B" (some 0) with kind := .array 12 .byte, interfaces := #[11, 5], accessFlags := 1041 }

/-- the primitive int -/
def k14 : Class := { plain "int" none with kind := .primitive 'I', accessFlags := 0x411 }
/-- [I -/
def k15 : Class := { plain "[I" (some 0) with kind := .array 14 .int, interfaces := #[11, 5], accessFlags := 1041 }

def heap : Heap := #[]
def classes : Array Class := #[k0, k1, k2, k3, k4, k5, k6, k7, k8, k9, k10, k11, k12, k13, k14, k15]
def interned : List (Array UInt16 × Addr) := []
def slotsUsed : Nat := 0
def theMethod : MethodId := ⟨1, 1⟩
def args0 : Array Value := #[.long 5, .long 6]
def aboutOver (below : List Frame) : State where
  vm := { classes := classes, interned := interned.toArray }
  heap := heap
  slotsUsed := slotsUsed
  threads := #[{ frames := .invoking theMethod args0 :: below }]
def below0 : List Frame := [.native { method := ⟨0, 0⟩, args := #[] }]
def about1 : State := aboutOver below0
def p0 : Program := .bare "" "" ""
def e0 : Env := launch0.env 0 0 0
theorem w_frames : about1.frames = Frame.invoking theMethod args0 :: below0 := rfl
set_option maxRecDepth 65536 in
theorem w_args : argsFit about1.vm theMethod args0 = true := by decide +kernel
set_option maxRecDepth 65536 in
theorem w_heap : heapFits about1 = true := by decide +kernel
set_option maxRecDepth 65536 in
theorem w_runnable : about1.curStatus? = some .runnable := by decide +kernel
set_option maxRecDepth 65536 in
theorem w_alone : about1.alone = true := by decide +kernel
set_option maxRecDepth 65536 in
theorem w_named : about1.methodNamed? x = some theMethod := by decide +kernel
set_option maxRecDepth 65536 in
theorem w_hears : about1.hears theMethod below0 = true := by decide +kernel
set_option maxRecDepth 65536 in
theorem w_ripe : about1.ripe theMethod args0 below0 = true := by decide +kernel
theorem w_running : about1.status = .running := rfl
set_option maxRecDepth 65536 in
theorem w_room : about1.hasRoom e0.platform room_1 = true :=
  launch0.hasRoom_least _ room_1 (by decide +kernel) (by decide +kernel) (by decide +kernel) (by decide +kernel) (by decide +kernel) (by decide +kernel)
theorem allAtoms_all (ts : List Jvm.Cond) (a : Array Jvm.Value) (st : Jvm.State) : (allAtoms ts).before a st = ts.all (fun c => c.before a st) := by
  induction ts with
  | nil => rfl
  | cons c t ih =>
    show (Jvm.Cond.and c (allAtoms t)).before a st = _
    rw [Jvm.Cond.before_and, ih, List.all_cons]
def words1 : List Jvm.Cond := Jvm.Cond.code x code maxLocals ret :: tables_1
/-- a 'code' word, met by the world's own term for the bytes: nothing is compared byte by byte -/
theorem code_word {y : MethodName} {bytes : ByteArray} {mx : Nat} {rt : Option FieldType} {a : Array Value} {s : State} {m : MethodId} {meth : Method} {c : Code} (h1 : s.methodNamed? y = some m) (h2 : s.vm.method? m = some meth) (h3 : meth.code = some c) (h4 : c.code = bytes)
    (h5 : (c.maxLocals == mx && c.exceptionTable.isEmpty && decide (c.maxStack ≤ mostOperands) && decide (meth.sig.returnType = rt) && !meth.locks && decide (parseMethodDescriptor y.desc = some meth.sig)) = true) : (Jvm.Cond.code y bytes mx rt).before a s = true := by
  simp only [Bool.and_eq_true, beq_iff_eq, Bool.not_eq_true', decide_eq_true_eq] at h5
  obtain ⟨⟨⟨⟨⟨g1, g2⟩, g3⟩, g4⟩, g5⟩, g6⟩ := h5
  simp [Cond.before, Cond.holds, Cond.value, h1, h2, h3, h4, g1, g2, g3, g4, g5, g6]
def isCode : Jvm.Cond → Bool
  | .code _ _ _ _ => true
  | _ => false
theorem all_split {L : List Jvm.Cond} {P : Jvm.Cond → Bool} (h1 : L.all (fun c => isCode c || P c) = true) (h2 : ∀ c ∈ L.filter isCode, P c = true) : L.all P = true := by
  refine List.all_eq_true.mpr fun c hc => ?_
  have h := List.all_eq_true.mp h1 c hc
  rcases Bool.eq_false_or_eq_true (isCode c) with hi | hi
  · exact h2 c (List.mem_filter.mpr ⟨hc, hi⟩)
  · simpa [hi] using h
set_option maxRecDepth 65536 in
theorem w_c0 : (Jvm.Cond.code x code maxLocals ret).before args0 about1 = true := code_word (m := ⟨1, 1⟩) (meth := k1m1) (c := k1c1) (by decide +kernel) rfl rfl rfl (by decide +kernel)
set_option maxRecDepth 65536 in
theorem w_c1 : (Jvm.Cond.code ({ cls := "java/lang/Math", name := "max", desc := "(JJ)J" } : Jvm.MethodName) jdk_29_method_66_code (4 : Nat) (Option.some Jvm.ClassFile.FieldType.long)).before args0 about1 = true := code_word (m := ⟨2, 1⟩) (meth := k2m1) (c := k2c1) (by decide +kernel) rfl rfl rfl (by decide +kernel)
set_option maxRecDepth 65536 in
theorem w_c2 : (Jvm.Cond.code ({ cls := "com/example/sheafworks/sheafworks/bench/Bench$Result", name := "<init>", desc := "(Ljava/lang/String;JJ)V" } : Jvm.MethodName) prog_10_method_1_code (6 : Nat) (Option.none : Option Jvm.ClassFile.FieldType)).before args0 about1 = true := code_word (m := ⟨4, 0⟩) (meth := k4m0) (c := k4c0) (by decide +kernel) rfl rfl rfl (by decide +kernel)
set_option maxRecDepth 65536 in
theorem w_c3 : (Jvm.Cond.code ({ cls := "java/lang/Record", name := "<init>", desc := "()V" } : Jvm.MethodName) jdk_30_method_1_code (1 : Nat) (Option.none : Option Jvm.ClassFile.FieldType)).before args0 about1 = true := code_word (m := ⟨3, 0⟩) (meth := k3m0) (c := k3c0) (by decide +kernel) rfl rfl rfl (by decide +kernel)
set_option maxRecDepth 65536 in
theorem w_c4 : (Jvm.Cond.code ({ cls := "java/lang/Object", name := "<init>", desc := "()V" } : Jvm.MethodName) object_method_1_code (1 : Nat) (Option.none : Option Jvm.ClassFile.FieldType)).before args0 about1 = true := code_word (m := ⟨0, 0⟩) (meth := k0m0) (c := k0c0) (by decide +kernel) rfl rfl rfl (by decide +kernel)
set_option maxRecDepth 65536 in
theorem w_c5 : (Jvm.Cond.code ({ cls := "com/example/sheafworks/sheafworks/bench/Bench$Result", name := "operationsPerSecond", desc := "()J" } : Jvm.MethodName) prog_10_method_2_code (1 : Nat) (Option.some Jvm.ClassFile.FieldType.long)).before args0 about1 = true := code_word (m := ⟨4, 1⟩) (meth := k4m1) (c := k4c1) (by decide +kernel) rfl rfl rfl (by decide +kernel)
def codes1 : List Jvm.Cond := [Jvm.Cond.code x code maxLocals ret, Jvm.Cond.code ({ cls := "java/lang/Math", name := "max", desc := "(JJ)J" } : Jvm.MethodName) jdk_29_method_66_code (4 : Nat) (Option.some Jvm.ClassFile.FieldType.long), Jvm.Cond.code ({ cls := "com/example/sheafworks/sheafworks/bench/Bench$Result", name := "<init>", desc := "(Ljava/lang/String;JJ)V" } : Jvm.MethodName) prog_10_method_1_code (6 : Nat) (Option.none : Option Jvm.ClassFile.FieldType), Jvm.Cond.code ({ cls := "java/lang/Record", name := "<init>", desc := "()V" } : Jvm.MethodName) jdk_30_method_1_code (1 : Nat) (Option.none : Option Jvm.ClassFile.FieldType), Jvm.Cond.code ({ cls := "java/lang/Object", name := "<init>", desc := "()V" } : Jvm.MethodName) object_method_1_code (1 : Nat) (Option.none : Option Jvm.ClassFile.FieldType), Jvm.Cond.code ({ cls := "com/example/sheafworks/sheafworks/bench/Bench$Result", name := "operationsPerSecond", desc := "()J" } : Jvm.MethodName) prog_10_method_2_code (1 : Nat) (Option.some Jvm.ClassFile.FieldType.long)]
set_option maxRecDepth 65536 in
theorem codes_eq : words1.filter isCode = codes1 := rfl
theorem w_codes : ∀ c ∈ words1.filter isCode, c.before args0 about1 = true := by
  rw [codes_eq]
  intro c hc
  simp only [codes1, List.mem_cons, List.not_mem_nil, or_false] at hc
  rcases hc with rfl | rfl | rfl | rfl | rfl | rfl
  · exact w_c0
  · exact w_c1
  · exact w_c2
  · exact w_c3
  · exact w_c4
  · exact w_c5
set_option maxRecDepth 65536 in
theorem w_t1 : (words1.take 24).all (fun c => isCode c || c.before args0 about1) = true := by decide +kernel
set_option maxRecDepth 65536 in
theorem w_t2 : (words1.drop 24).all (fun c => isCode c || c.before args0 about1) = true := by decide +kernel
theorem w_tables : (allAtoms (Jvm.Cond.code x code maxLocals ret :: tables_1)).before args0 about1 = true := by
  rw [allAtoms_all]
  show words1.all (fun c => c.before args0 about1) = true
  refine all_split ?_ w_codes
  rw [← List.take_append_drop 24 words1, List.all_append, w_t1, w_t2]
  rfl
set_option maxRecDepth 65536 in
theorem w_case : (Jvm.Cond.and given_1 narrow_1).before args0 about1 = true := by decide +kernel
theorem w_applies : (headSpec (Jvm.Cond.code x code maxLocals ret :: tables_1) room_1).applies x e0.platform about1 = true :=
  (Spec.applies_iff w_frames).mpr ⟨w_running, w_runnable, w_alone, w_named, w_hears, w_ripe, w_room, w_tables⟩
theorem atStart : AtStart classFile x code maxLocals ret World_1 tables_1 room_1 Calls_1 rest_1 Pre_1 launch0 p0 e0 about1 theMethod args0 below0 :=
  ⟨lists_1, trivial, launch0.admits_env _ _ _, launch0.least_env, fairChoices_fair.cas, fairChoices_fair.clock, w_frames, w_args, w_heap, w_applies, trivial, trivial, w_case⟩
end start1
theorem witness_1 : WitnessClaimed_1 := ⟨start1.p0, start1.e0, start1.about1, start1.theMethod, start1.args0, start1.below0, start1.atStart⟩
end Jvm.Pilot.@@N@@
