import JvmDerived
import JvmDerived.Pilot.@@N@@Statement
import JvmDerived.Pilot.@@N@@Code
set_option linter.unusedVariables false
set_option linter.unusedSimpArgs false
namespace Jvm.RoadKit
open Sem ClassFile Op Lib Jvm.Stand Jvm.Free Jvm.LawKit
section New
variable {p : Program} {l : Launch} {e : Env} {R : Room} {s : State} {m : MethodId} {args : Array Value} {below : List Frame} {meth : Method} {c : Code} {T : State} {locs : List Loc} {cells slots : Nat}
theorem retI (X : Stand p l e R s m args below meth c T locs cells slots) (hx : p.tables.exec = Jvm.exec) {pc : Nat} {Ls : Array Slot} {z : Int32} {rest : List Value} (hret : meth.sig.returnType = some .int) (hd : decode c.code pc = .ok (.ireturn, 1)) {fs : List Frame}
    (hl : ∀ (f : JFrame) (acts : List Action), f.method = m → f.locked = none → f.entered = [] → (doReturn e (T.setTop f) acts (some (.int z))).1 = T.setFrames fs) : Steps p.tables e below (T.setTop (mkF m pc Ls (.int z :: rest))) (T.setFrames fs) := by
  have hm' : T.vm.method? m = some meth := X.method'
  have hn : narrow .int (.int z) = .int z := rfl
  show Steps p.tables e below (T.setTop { method := m, pc := pc, locals := Ls, stack := _ :: rest, locked := none }) _
  jvm_step X.here [X.here.top, hx, hd, hm', hret, hn]
  first | (intro acts; rw [hl _ acts rfl rfl rfl]) | rw [hl _ _ rfl rfl rfl]
  exact Steps.refl _
theorem retZ (X : Stand p l e R s m args below meth c T locs cells slots) (hx : p.tables.exec = Jvm.exec) {pc : Nat} {Ls : Array Slot} {z : Int32} {rest : List Value} (hret : meth.sig.returnType = some .boolean) (hz : z &&& 1 = z) (hd : decode c.code pc = .ok (.ireturn, 1)) {fs : List Frame}
    (hl : ∀ (f : JFrame) (acts : List Action), f.method = m → f.locked = none → f.entered = [] → (doReturn e (T.setTop f) acts (some (.int z))).1 = T.setFrames fs) : Steps p.tables e below (T.setTop (mkF m pc Ls (.int z :: rest))) (T.setFrames fs) := by
  have hn : narrow .boolean (.int z) = .int z := by show Value.int (z &&& 1) = _; rw [hz]
  exact retOut X hx hret hn (Or.inl ⟨rfl, Or.inr (Or.inl rfl), z, rfl⟩) hd hl
theorem retJ (X : Stand p l e R s m args below meth c T locs cells slots) (hx : p.tables.exec = Jvm.exec) {pc : Nat} {Ls : Array Slot} {z : Int64} {rest : List Value} (hret : meth.sig.returnType = some .long) (hd : decode c.code pc = .ok (.lreturn, 1)) {fs : List Frame}
    (hl : ∀ (f : JFrame) (acts : List Action), f.method = m → f.locked = none → f.entered = [] → (doReturn e (T.setTop f) acts (some (.long z))).1 = T.setFrames fs) : Steps p.tables e below (T.setTop (mkF m pc Ls (.long z :: rest))) (T.setFrames fs) :=
  retOut X hx hret rfl (Or.inr (Or.inl ⟨rfl, rfl, z, rfl⟩)) hd hl
theorem retA (X : Stand p l e R s m args below meth c T locs cells slots) (hx : p.tables.exec = Jvm.exec) {pc : Nat} {Ls : Array Slot} {a : Addr} {rest : List Value} {t : FieldType} (ht : t.isReference = true) (hn : narrow t (.ref a) = .ref a) (hret : meth.sig.returnType = some t) (hd : decode c.code pc = .ok (.areturn, 1)) {fs : List Frame}
    (hl : ∀ (f : JFrame) (acts : List Action), f.method = m → f.locked = none → f.entered = [] → (doReturn e (T.setTop f) acts (some (.ref a))).1 = T.setFrames fs) : Steps p.tables e below (T.setTop (mkF m pc Ls (.ref a :: rest))) (T.setFrames fs) :=
  retOut X hx hret hn (Or.inr (Or.inr (Or.inr (Or.inr ⟨rfl, ht, rfl⟩)))) hd hl
theorem newPk {Z : State} {a0 : Array Value} {h : Heap} (X : Stand p l e R s m args below meth c T locs cells slots) (hx : p.tables.exec = Jvm.exec) (hZ : Z.Warmed39 s.vm) {aty : ArrayType} (w : (Cond.arrayClass (newarray.typeOf aty)).before a0 Z = true) (eT : T.heap = h) {g : JFrame} (hg : g.method = m)
    (hd : decode c.code g.pc = .ok (.newarray aty, 2)) {n : Int32} {rest : List Value} (hs : g.stack = .int n :: rest) (hn : ¬ n < 0) {cap : Nat} (hcap : n.toNatClampNeg ≤ cap) (hb : cap * 8 ≤ 536870912) (hc : cells + 1 ≤ R.cells) (hl : slots + cap ≤ R.slots) :
    ∃ T' h' cA, Stand p l e R s m args below meth c T' locs (cells + 1) (slots + cap) ∧ T'.heap = h' ∧ Ext h h' ∧ Arr Z h' h.size (newA cA (newarray.typeOf aty) n) (newarray.typeOf aty) ∧ Z.vm.findClass ("[" ++ (newarray.typeOf aty).toString) = some cA ∧
      ∀ target, Steps p.tables e below (T'.setTop { g with pc := g.pc + 2, stack := .ref h.size :: rest }) target → Steps p.tables e below (T.setTop g) target := by
  have hw8 : componentBytes (newarray.typeOf aty) ≤ 8 := by cases aty <;> decide
  obtain ⟨cA, kA, comp, f1, f2, f3, X', st⟩ := X.newarrayPrim hx (mvA hZ w) hg hd hs hn (Nat.le_trans (Nat.mul_le_mul hcap hw8) hb) hc (by omega)
  subst eT
  have f0 : Z.vm.findClass ("[" ++ (newarray.typeOf aty).toString) = some cA := by rw [← hZ.alike.findClass]; exact f1
  obtain ⟨kZ, z1, -⟩ := Vm.findClass_spec f0
  obtain ⟨k', z2, z3⟩ := hZ.alike.2.2 _ _ z1
  have ek : kA = k' := Option.some.inj (f2.symm.trans z2)
  have hq : kZ.kind = .array comp (newarray.typeOf aty) := by rw [← f3, ek, z3]
  refine ⟨_, _, cA, X'.more (Nat.le_refl _) (by omega), rfl, ext_of fun a ha => ?_, ⟨?_, ⟨fun q => by simp [newA], kZ, z1, comp, hq⟩, by simp [newA]⟩, f0, st⟩
  · show (T.heap.push _)[a]? = _
    rw [Array.getElem?_push_lt ha, Array.getElem?_eq_getElem ha]
  · show (T.heap.push _)[T.heap.size]? = _
    simp [newA]
theorem selPriv {s : State} {args : Array Value} {C : String} {y y0 : MethodName} (hsel : (Cond.selects C y0 y0).before args s = true) (hcls : y0.cls = y.cls) (hpriv : s.PrivateAt y) (hinst : (Cond.instanceMethod y).before args s = true) (hy : y.cls ≠ "java/lang/invoke/MethodHandle" ∧ y.cls ≠ "java/lang/invoke/VarHandle") : (Cond.selects y.cls y y).before args s = true := by
  obtain ⟨mk, meth, hnamed, hm, -, -⟩ := Cond.instanceMethod_spec hinst
  have hc := findClass_of_methodNamed hnamed
  obtain ⟨_, _, m2, -, -, q3, -, kP, hkP, hkPi⟩ := Cond.selects_spec hsel
  have h0 := findClass_of_methodNamed q3
  rw [hcls] at h0
  have e : mk.cls = m2.cls := Option.some.inj (hc.symm.trans h0)
  exact selects_self_of_private hc (by rw [e]; exact hkP) hkPi hpriv hinst hy
theorem insA {Z : State} {h : Heap} {a : Addr} {k : ClassId} {ty : FieldType} {z : Int32} {vs : List Value} {d : Value} {K : String} (F : Arv Z h a k ty z vs d) (hk : Z.vm.findClass K = some k) : Ins Z h a K true := by
  obtain ⟨c, A, q, -⟩ := F
  exact ⟨c, k, A.1, hk, by simp [A.plain, q, Vm.assignable_self]⟩
theorem lswHit {g : JFrame} {target : State} (X : Stand p l e R s m args below meth c T locs cells slots) (hx : p.tables.exec = Jvm.exec) (hg : g.method = m) {pc0 pc' : Nat} (hpc : g.pc = pc0) {k : Int32} {rest : List Value} {dflt : Int} {pairs : Array (Int × Int)} {len : Nat}
    (hd : decode c.code g.pc = .ok (.lookupswitch dflt pairs, len)) (hs : g.stack = .int k :: rest) (hsort : (pairs.toList.zip (pairs.toList.drop 1)).all (fun (a, next) => a.1 < next.1) = true) {a off : Int} (hf : pairs.find? (·.1 == k.toInt) = some (a, off)) (ho : 0 ≤ (pc0 : Int) + off) (hp : ((pc0 : Int) + off).toNat = pc')
    (hr : Steps p.tables e below (T.setTop { g with pc := pc', stack := rest }) target) : Steps p.tables e below (T.setTop g) target := by
  subst hpc hp
  exact X.lookupswitchHit hx hg hs hd hsort hf ho _ hr
theorem lswMiss {g : JFrame} {target : State} (X : Stand p l e R s m args below meth c T locs cells slots) (hx : p.tables.exec = Jvm.exec) (hg : g.method = m) {pc0 pc' : Nat} (hpc : g.pc = pc0) {k : Int32} {rest : List Value} {dflt : Int} {pairs : Array (Int × Int)} {len : Nat}
    (hd : decode c.code g.pc = .ok (.lookupswitch dflt pairs, len)) (hs : g.stack = .int k :: rest) (hsort : (pairs.toList.zip (pairs.toList.drop 1)).all (fun (a, next) => a.1 < next.1) = true) (hf : pairs.find? (·.1 == k.toInt) = none) (ho : 0 ≤ (pc0 : Int) + dflt) (hp : ((pc0 : Int) + dflt).toNat = pc')
    (hr : Steps p.tables e below (T.setTop { g with pc := pc', stack := rest }) target) : Steps p.tables e below (T.setTop g) target := by
  subst hpc hp
  exact X.lookupswitchMiss hx hg hs hd hsort hf ho _ hr
end New
end Jvm.RoadKit
namespace Jvm.Pilot.@@N@@
open Jvm Jvm.ClassFile Sem Op Lib Jvm.Free Jvm.Stand Jvm.LawKit Jvm.RoadKit Bundle Jvm.Pilot.@@N@@.Jvm.D
theorem d7_0 : decode jdk_29_method_49_code 0 = .ok (.lload_n 0, 1) := by decide +kernel
theorem d7_1 : decode jdk_29_method_49_code 1 = .ok (.lload_n 2, 1) := by decide +kernel
theorem d7_2 : decode jdk_29_method_49_code 2 = .ok (.ldiv, 1) := by decide +kernel
theorem d7_3 : decode jdk_29_method_49_code 3 = .ok (.lstore 4, 2) := by decide +kernel
theorem d7_5 : decode jdk_29_method_49_code 5 = .ok (.lload_n 0, 1) := by decide +kernel
theorem d7_6 : decode jdk_29_method_49_code 6 = .ok (.lload_n 2, 1) := by decide +kernel
theorem d7_7 : decode jdk_29_method_49_code 7 = .ok (.lxor, 1) := by decide +kernel
theorem d7_8 : decode jdk_29_method_49_code 8 = .ok (.lconst 0, 1) := by decide +kernel
theorem d7_9 : decode jdk_29_method_49_code 9 = .ok (.lcmp, 1) := by decide +kernel
theorem d7_10 : decode jdk_29_method_49_code 10 = .ok (.ifCond .ge 17, 3) := by decide +kernel
theorem d7_13 : decode jdk_29_method_49_code 13 = .ok (.lload 4, 2) := by decide +kernel
theorem d7_15 : decode jdk_29_method_49_code 15 = .ok (.lload_n 2, 1) := by decide +kernel
theorem d7_16 : decode jdk_29_method_49_code 16 = .ok (.lmul, 1) := by decide +kernel
theorem d7_17 : decode jdk_29_method_49_code 17 = .ok (.lload_n 0, 1) := by decide +kernel
theorem d7_18 : decode jdk_29_method_49_code 18 = .ok (.lcmp, 1) := by decide +kernel
theorem d7_19 : decode jdk_29_method_49_code 19 = .ok (.ifCond .eq 8, 3) := by decide +kernel
theorem d7_27 : decode jdk_29_method_49_code 27 = .ok (.lload 4, 2) := by decide +kernel
theorem d7_29 : decode jdk_29_method_49_code 29 = .ok (.lreturn, 1) := by decide +kernel
theorem d7_22 : decode jdk_29_method_49_code 22 = .ok (.lload 4, 2) := by decide +kernel
theorem d7_24 : decode jdk_29_method_49_code 24 = .ok (.lconst 1, 1) := by decide +kernel
theorem d7_25 : decode jdk_29_method_49_code 25 = .ok (.lsub, 1) := by decide +kernel
theorem d7_26 : decode jdk_29_method_49_code 26 = .ok (.lreturn, 1) := by decide +kernel
theorem ef_rm7 (m : MethodId) (q0 : Int64) : entryFrame m #[(.long q0), (.long (1000 : Int64))] 6 = mkF m 0 #[.val (.long q0), .second, .val (.long (1000 : Int64)), .second, .unset, .unset] [] := by first | (simp [entryFrame, mkF, argsToLocals, Value.category]; done) | rfl
def f_fd (q0 : Int64) : Int64 := (if (q0 ^^^ (1000 : Int64)) < (0 : Int64) then (if ((q0 / (1000 : Int64)) * (1000 : Int64)) = q0 then (q0 / (1000 : Int64)) else ((q0 / (1000 : Int64)) - (1 : Int64))) else (q0 / (1000 : Int64)))
def Q_rm7 (Z : State) (q0 : Int64) (h0 : Heap) (n0 : Nat) (v : Option Value) (h : Heap) (L : List Loc) : Prop := v = some (.long (f_fd q0)) ∧ Fr n0 L ∧ h = h0
set_option maxRecDepth 65536 in
set_option maxHeartbeats 40000000 in
theorem rm7 (l : Launch) (Z : State) (aw : Array Value) (hw : ∀ d ∈ tables_1, d.before aw Z = true) (ws : List Jvm.Cond) (q0 : Int64) (h0 : Heap) (n0 : Nat) (Z0 : n0 ≤ h0.size) :
    MetFree l (⟨"java/lang/Math", "floorDiv", "(JJ)J"⟩ : MethodName) (head1 (Jvm.Cond.code (⟨"java/lang/Math", "floorDiv", "(JJ)J"⟩ : MethodName) jdk_29_method_49_code 6 (some .long) :: ws) ({ frames := 0, cells := 0, slots := 0, locals := 0 } : Room)) (fun a U => a = #[(.long q0), (.long (1000 : Int64))] ∧ Z.Warmed39 U.vm ∧ U.heap = h0) (fun _ _ _ _ _ => True) (fun _ U o U' => ∃ v L, o = .returned v ∧ Q_rm7 Z q0 h0 n0 v U'.heap L ∧ FrameEnd U o U' L ({ frames := 0, cells := 0, slots := 0, locals := 0 } : Room).cells ({ frames := 0, cells := 0, slots := 0, locals := 0 } : Room).slots) := by
  refine MetFree.of_bodySF (Jvm.Free.JP.mathPlain rfl (by decide +kernel)) hisR ?_
  intro p e s m args below meth c s₁ Bd hml0 hP hK
  obtain ⟨rfl, hZ, hh⟩ := hP
  have hx := Bd.exec
  have hby := Bd.bytes
  have hml : c.maxLocals = 6 := hml0
  have hown : s.vm.findClass "java/lang/Math" = some m.cls := findClass_of_methodNamed Bd.named
  have hnm := (name_of_methodNamed Bd.named Bd.method).1
  have X0 : Stand p l e ({ frames := 0, cells := 0, slots := 0, locals := 0 } : Room) s m #[(.long q0), (.long (1000 : Int64))] below meth c s₁ [] 0 0 := Stand.of_body Bd
  have e0 : s₁.heap = h0 := by rw [← hh, Bd.state]; rfl
  have N0 := Fr.nil n0
  have pre0 : ∀ t, Steps p.tables e below (s₁.setTop (mkF m 0 #[.val (.long q0), .second, .val (.long (1000 : Int64)), .second, .unset, .unset] [])) t → Steps p.tables e below (s₁.setTop (entryFrame m #[(.long q0), (.long (1000 : Int64))] 6)) t := fun t k => castTop (ef_rm7 m q0) k
  have pre101 : ∀ t, Steps p.tables e below (s₁.setTop (mkF m 10 #[.val (.long q0), .second, .val (.long (1000 : Int64)), .second, .val (.long (q0 / (1000 : Int64))), .second] [(.int (lcmpW (q0 ^^^ (1000 : Int64)) (0 : Int64)))])) t → Steps p.tables e below (s₁.setTop (entryFrame m #[(.long q0), (.long (1000 : Int64))] 6)) t := fun t k => by
    refine pre0 t ?_
    show Steps p.tables e below (s₁.setTop (mkF m 0 #[.val (.long q0), .second, .val (.long (1000 : Int64)), .second, .unset, .unset] [])) _
    refine XS.lloadN X0.here hx rfl (hb hby d7_0) rfl ?_
    show Steps p.tables e below (s₁.setTop (mkF m 1 #[.val (.long q0), .second, .val (.long (1000 : Int64)), .second, .unset, .unset] [(.long q0)])) _
    refine XS.lloadN X0.here hx rfl (hb hby d7_1) rfl ?_
    show Steps p.tables e below (s₁.setTop (mkF m 2 #[.val (.long q0), .second, .val (.long (1000 : Int64)), .second, .unset, .unset] [(.long (1000 : Int64)), (.long q0)])) _
    refine XS.ldiv X0.here hx rfl (hb hby d7_2) rfl (by decide) ?_
    show Steps p.tables e below (s₁.setTop (mkF m 3 #[.val (.long q0), .second, .val (.long (1000 : Int64)), .second, .unset, .unset] [(.long (q0 / (1000 : Int64)))])) _
    refine XS.lstore X0.here hx rfl (hb hby d7_3) rfl (l' := #[.val (.long q0), .second, .val (.long (1000 : Int64)), .second, .val (.long (q0 / (1000 : Int64))), .second]) rfl ?_
    show Steps p.tables e below (s₁.setTop (mkF m 5 #[.val (.long q0), .second, .val (.long (1000 : Int64)), .second, .val (.long (q0 / (1000 : Int64))), .second] [])) _
    refine XS.lloadN X0.here hx rfl (hb hby d7_5) rfl ?_
    show Steps p.tables e below (s₁.setTop (mkF m 6 #[.val (.long q0), .second, .val (.long (1000 : Int64)), .second, .val (.long (q0 / (1000 : Int64))), .second] [(.long q0)])) _
    refine XS.lloadN X0.here hx rfl (hb hby d7_6) rfl ?_
    show Steps p.tables e below (s₁.setTop (mkF m 7 #[.val (.long q0), .second, .val (.long (1000 : Int64)), .second, .val (.long (q0 / (1000 : Int64))), .second] [(.long (1000 : Int64)), (.long q0)])) _
    refine XS.lxor X0.here hx rfl (hb hby d7_7) rfl ?_
    show Steps p.tables e below (s₁.setTop (mkF m 8 #[.val (.long q0), .second, .val (.long (1000 : Int64)), .second, .val (.long (q0 / (1000 : Int64))), .second] [(.long (q0 ^^^ (1000 : Int64)))])) _
    refine XS.lconst X0.here hx rfl (hb hby d7_8) ?_
    show Steps p.tables e below (s₁.setTop (mkF m 9 #[.val (.long q0), .second, .val (.long (1000 : Int64)), .second, .val (.long (q0 / (1000 : Int64))), .second] [(.long (0 : Int64)), (.long (q0 ^^^ (1000 : Int64)))])) _
    refine XS.lcmp X0.here hx rfl (hb hby d7_9) rfl ?_
    exact k
  by_cases c102 : (q0 ^^^ (1000 : Int64)) < (0 : Int64)
  ·
    have pre103 : ∀ t, Steps p.tables e below (s₁.setTop (mkF m 19 #[.val (.long q0), .second, .val (.long (1000 : Int64)), .second, .val (.long (q0 / (1000 : Int64))), .second] [(.int (lcmpW ((q0 / (1000 : Int64)) * (1000 : Int64)) q0))])) t → Steps p.tables e below (s₁.setTop (entryFrame m #[(.long q0), (.long (1000 : Int64))] 6)) t := fun t k => by
      refine pre101 t ?_
      show Steps p.tables e below (s₁.setTop (mkF m 10 #[.val (.long q0), .second, .val (.long (1000 : Int64)), .second, .val (.long (q0 / (1000 : Int64))), .second] [(.int (lcmpW (q0 ^^^ (1000 : Int64)) (0 : Int64)))])) _
      refine XS.ifNo X0.here hx rfl (hb hby d7_10) rfl ((if0 _ _).trans (tlt ((lw_lt _ _).mpr c102)).2.1) ?_
      show Steps p.tables e below (s₁.setTop (mkF m 13 #[.val (.long q0), .second, .val (.long (1000 : Int64)), .second, .val (.long (q0 / (1000 : Int64))), .second] [])) _
      refine XS.lload X0.here hx rfl (hb hby d7_13) rfl ?_
      show Steps p.tables e below (s₁.setTop (mkF m 15 #[.val (.long q0), .second, .val (.long (1000 : Int64)), .second, .val (.long (q0 / (1000 : Int64))), .second] [(.long (q0 / (1000 : Int64)))])) _
      refine XS.lloadN X0.here hx rfl (hb hby d7_15) rfl ?_
      show Steps p.tables e below (s₁.setTop (mkF m 16 #[.val (.long q0), .second, .val (.long (1000 : Int64)), .second, .val (.long (q0 / (1000 : Int64))), .second] [(.long (1000 : Int64)), (.long (q0 / (1000 : Int64)))])) _
      refine XS.lmul X0.here hx rfl (hb hby d7_16) rfl ?_
      show Steps p.tables e below (s₁.setTop (mkF m 17 #[.val (.long q0), .second, .val (.long (1000 : Int64)), .second, .val (.long (q0 / (1000 : Int64))), .second] [(.long ((q0 / (1000 : Int64)) * (1000 : Int64)))])) _
      refine XS.lloadN X0.here hx rfl (hb hby d7_17) rfl ?_
      show Steps p.tables e below (s₁.setTop (mkF m 18 #[.val (.long q0), .second, .val (.long (1000 : Int64)), .second, .val (.long (q0 / (1000 : Int64))), .second] [(.long q0), (.long ((q0 / (1000 : Int64)) * (1000 : Int64)))])) _
      refine XS.lcmp X0.here hx rfl (hb hby d7_18) rfl ?_
      exact k
    by_cases c104 : ((q0 / (1000 : Int64)) * (1000 : Int64)) = q0
    ·
      obtain ⟨fs, hr, hrun, hended, hW, hsame⟩ := X0.leave (v := some (.long (q0 / (1000 : Int64)))) (fun h => by rw [Bd.returns] at h; cases h)
      refine ⟨_, _, pre103 _ ?_, hrun, hended, _, _, rfl, ?_, ⟨_, rfl⟩, hW, hsame.mono (by decide) (by decide)⟩
      ·
        show Steps p.tables e below (s₁.setTop (mkF m 19 #[.val (.long q0), .second, .val (.long (1000 : Int64)), .second, .val (.long (q0 / (1000 : Int64))), .second] [(.int (lcmpW ((q0 / (1000 : Int64)) * (1000 : Int64)) q0))])) _
        refine XS.ifYes X0.here hx rfl (pc0 := 19) (pc' := 27) rfl (hb hby d7_19) rfl ((if0 _ _).trans (teq ((lw_eq _ _).mpr c104)).1) (by decide) (by decide) ?_
        show Steps p.tables e below (s₁.setTop (mkF m 27 #[.val (.long q0), .second, .val (.long (1000 : Int64)), .second, .val (.long (q0 / (1000 : Int64))), .second] [])) _
        refine XS.lload X0.here hx rfl (hb hby d7_27) rfl ?_
        show Steps p.tables e below (s₁.setTop (mkF m 29 #[.val (.long q0), .second, .val (.long (1000 : Int64)), .second, .val (.long (q0 / (1000 : Int64))), .second] [(.long (q0 / (1000 : Int64)))])) _
        exact retJ X0 hx Bd.returns (hb hby d7_29) hr
      ·
        show Q_rm7 Z q0 h0 n0 _ s₁.heap _
        rw [e0]
        exact ⟨by simp only [f_fd, if_pos c102, if_pos c104], N0, rfl⟩
    ·
      obtain ⟨fs, hr, hrun, hended, hW, hsame⟩ := X0.leave (v := some (.long ((q0 / (1000 : Int64)) - (1 : Int64)))) (fun h => by rw [Bd.returns] at h; cases h)
      refine ⟨_, _, pre103 _ ?_, hrun, hended, _, _, rfl, ?_, ⟨_, rfl⟩, hW, hsame.mono (by decide) (by decide)⟩
      ·
        show Steps p.tables e below (s₁.setTop (mkF m 19 #[.val (.long q0), .second, .val (.long (1000 : Int64)), .second, .val (.long (q0 / (1000 : Int64))), .second] [(.int (lcmpW ((q0 / (1000 : Int64)) * (1000 : Int64)) q0))])) _
        refine XS.ifNo X0.here hx rfl (hb hby d7_19) rfl ((if0 _ _).trans (feq (fun q => c104 ((lw_eq _ _).mp q))).1) ?_
        show Steps p.tables e below (s₁.setTop (mkF m 22 #[.val (.long q0), .second, .val (.long (1000 : Int64)), .second, .val (.long (q0 / (1000 : Int64))), .second] [])) _
        refine XS.lload X0.here hx rfl (hb hby d7_22) rfl ?_
        show Steps p.tables e below (s₁.setTop (mkF m 24 #[.val (.long q0), .second, .val (.long (1000 : Int64)), .second, .val (.long (q0 / (1000 : Int64))), .second] [(.long (q0 / (1000 : Int64)))])) _
        refine XS.lconst X0.here hx rfl (hb hby d7_24) ?_
        show Steps p.tables e below (s₁.setTop (mkF m 25 #[.val (.long q0), .second, .val (.long (1000 : Int64)), .second, .val (.long (q0 / (1000 : Int64))), .second] [(.long (1 : Int64)), (.long (q0 / (1000 : Int64)))])) _
        refine XS.lsub X0.here hx rfl (hb hby d7_25) rfl ?_
        show Steps p.tables e below (s₁.setTop (mkF m 26 #[.val (.long q0), .second, .val (.long (1000 : Int64)), .second, .val (.long (q0 / (1000 : Int64))), .second] [(.long ((q0 / (1000 : Int64)) - (1 : Int64)))])) _
        exact retJ X0 hx Bd.returns (hb hby d7_26) hr
      ·
        show Q_rm7 Z q0 h0 n0 _ s₁.heap _
        rw [e0]
        exact ⟨by simp only [f_fd, if_pos c102, if_neg c104], N0, rfl⟩
  ·
    obtain ⟨fs, hr, hrun, hended, hW, hsame⟩ := X0.leave (v := some (.long (q0 / (1000 : Int64)))) (fun h => by rw [Bd.returns] at h; cases h)
    refine ⟨_, _, pre101 _ ?_, hrun, hended, _, _, rfl, ?_, ⟨_, rfl⟩, hW, hsame.mono (by decide) (by decide)⟩
    ·
      show Steps p.tables e below (s₁.setTop (mkF m 10 #[.val (.long q0), .second, .val (.long (1000 : Int64)), .second, .val (.long (q0 / (1000 : Int64))), .second] [(.int (lcmpW (q0 ^^^ (1000 : Int64)) (0 : Int64)))])) _
      refine XS.ifYes X0.here hx rfl (pc0 := 10) (pc' := 27) rfl (hb hby d7_10) rfl ((if0 _ _).trans (flt (fun q => c102 ((lw_lt _ _).mp q))).2.1) (by decide) (by decide) ?_
      show Steps p.tables e below (s₁.setTop (mkF m 27 #[.val (.long q0), .second, .val (.long (1000 : Int64)), .second, .val (.long (q0 / (1000 : Int64))), .second] [])) _
      refine XS.lload X0.here hx rfl (hb hby d7_27) rfl ?_
      show Steps p.tables e below (s₁.setTop (mkF m 29 #[.val (.long q0), .second, .val (.long (1000 : Int64)), .second, .val (.long (q0 / (1000 : Int64))), .second] [(.long (q0 / (1000 : Int64)))])) _
      exact retJ X0 hx Bd.returns (hb hby d7_29) hr
    ·
      show Q_rm7 Z q0 h0 n0 _ s₁.heap _
      rw [e0]
      exact ⟨by simp only [f_fd, if_neg c102], N0, rfl⟩
theorem d6_0 : decode jdk_29_method_48_code 0 = .ok (.lload_n 0, 1) := by decide +kernel
theorem d6_1 : decode jdk_29_method_48_code 1 = .ok (.iload_n 2, 1) := by decide +kernel
theorem d6_2 : decode jdk_29_method_48_code 2 = .ok (.i2l, 1) := by decide +kernel
theorem pd_0 : parseMethodDescriptor "(JJ)J" = some ⟨[.long, .long], some .long⟩ := by decide +kernel
theorem d6_3 : decode jdk_29_method_48_code 3 = .ok (.invokestatic 143, 3) := by decide +kernel
theorem d6_6 : decode jdk_29_method_48_code 6 = .ok (.lreturn, 1) := by decide +kernel
theorem ef_rm6 (m : MethodId) (q0 : Int64) : entryFrame m #[(.long q0), (.int (1000 : Int32))] 3 = mkF m 0 #[.val (.long q0), .second, .val (.int (1000 : Int32))] [] := by first | (simp [entryFrame, mkF, argsToLocals, Value.category]; done) | rfl
def f_fdi (q0 : Int64) : Int64 := (f_fd q0)
def Q_rm6 (Z : State) (q0 : Int64) (h0 : Heap) (n0 : Nat) (v : Option Value) (h : Heap) (L : List Loc) : Prop := v = some (.long (f_fdi q0)) ∧ Fr n0 L ∧ h = h0
set_option maxRecDepth 65536 in
set_option maxHeartbeats 40000000 in
theorem rm6 (l : Launch) (Z : State) (aw : Array Value) (hw : ∀ d ∈ tables_1, d.before aw Z = true) (ws : List Jvm.Cond) (q0 : Int64) (h0 : Heap) (n0 : Nat) (Z0 : n0 ≤ h0.size) :
    MetFree l (⟨"java/lang/Math", "floorDiv", "(JI)J"⟩ : MethodName) (head1 (Jvm.Cond.code (⟨"java/lang/Math", "floorDiv", "(JI)J"⟩ : MethodName) jdk_29_method_48_code 3 (some .long) :: ws) ({ frames := 1, cells := 0, slots := 0, locals := 17 } : Room)) (fun a U => a = #[(.long q0), (.int (1000 : Int32))] ∧ Z.Warmed39 U.vm ∧ U.heap = h0) (fun _ _ _ _ _ => True) (fun _ U o U' => ∃ v L, o = .returned v ∧ Q_rm6 Z q0 h0 n0 v U'.heap L ∧ FrameEnd U o U' L ({ frames := 1, cells := 0, slots := 0, locals := 17 } : Room).cells ({ frames := 1, cells := 0, slots := 0, locals := 17 } : Room).slots) := by
  refine MetFree.of_bodySF (Jvm.Free.JP.mathPlain rfl (by decide +kernel)) hisR ?_
  intro p e s m args below meth c s₁ Bd hml0 hP hK
  obtain ⟨rfl, hZ, hh⟩ := hP
  have hx := Bd.exec
  have hby := Bd.bytes
  have hml : c.maxLocals = 3 := hml0
  have hown : s.vm.findClass "java/lang/Math" = some m.cls := findClass_of_methodNamed Bd.named
  have hnm := (name_of_methodNamed Bd.named Bd.method).1
  have X0 : Stand p l e ({ frames := 1, cells := 0, slots := 0, locals := 17 } : Room) s m #[(.long q0), (.int (1000 : Int32))] below meth c s₁ [] 0 0 := Stand.of_body Bd
  have e0 : s₁.heap = h0 := by rw [← hh, Bd.state]; rfl
  have N0 := Fr.nil n0
  have pre0 : ∀ t, Steps p.tables e below (s₁.setTop (mkF m 0 #[.val (.long q0), .second, .val (.int (1000 : Int32))] [])) t → Steps p.tables e below (s₁.setTop (entryFrame m #[(.long q0), (.int (1000 : Int32))] 3)) t := fun t k => castTop (ef_rm6 m q0) k
  obtain ⟨_, _, ⟨T105, L105, k105, n105⟩, -, X105, ⟨Lc105, hQ105, l105, y105, z105⟩, st105⟩ := Jvm.LawKit.callS X0 hx (y := (⟨"java/lang/Math", "floorDiv", "(JJ)J"⟩ : MethodName)) hown (mvT hZ (hw _ (List.mem_of_getElem? (i := 34) rfl))) (mvT hZ (hw _ (List.mem_of_getElem? (i := 35) rfl))) (mvT hZ (hw _ (List.mem_of_getElem? (i := 32) rfl))) (mvT hZ (hw _ (List.mem_of_getElem? (i := 36) rfl))) (by decide) (backOf (W := 0) (rm7 l Z aw hw [] q0 h0 n0 Z0) hZ (hw _ (List.mem_of_getElem? (i := 36) rfl)) (hw _ (List.mem_of_getElem? (i := 32) rfl)) (by decide) (by decide)) (g := (mkF m 3 #[.val (.long q0), .second, .val (.int (1000 : Int32))] [(.long (1000 : Int64)), (.long q0)])) rfl (by rw [hml]; rfl) (argsL := [(.long q0), (.long (1000 : Int64))]) (rest := []) (lenOf pd_0 rfl) rfl (by show 2 * 0 + _ ≤ _; exact Nat.le_of_eq rfl) (hb hby d6_3) (fun _ _ => ⟨rfl, e0, (by decide : 0 + 0 ≤ _), (by decide : 0 + 0 ≤ _)⟩)
  dsimp only [Pt.U, Pt.locs, Pt.cells, Pt.slots] at X105 l105 y105 z105 st105 hQ105
  subst l105 y105 z105
  obtain ⟨rfl, N105q, e105⟩ := hQ105
  have N105 := Fr.app N0 N105q
  obtain ⟨fs, hr, hrun, hended, hW, hsame⟩ := X105.leave (v := some (.long (f_fd q0))) (fun h => by rw [Bd.returns] at h; cases h)
  refine ⟨_, _, pre0 _ ?_, hrun, hended, _, _, rfl, ?_, ⟨_, rfl⟩, hW, hsame.mono (by decide) (by decide)⟩
  ·
    show Steps p.tables e below (s₁.setTop (mkF m 0 #[.val (.long q0), .second, .val (.int (1000 : Int32))] [])) _
    refine XS.lloadN X0.here hx rfl (hb hby d6_0) rfl ?_
    show Steps p.tables e below (s₁.setTop (mkF m 1 #[.val (.long q0), .second, .val (.int (1000 : Int32))] [(.long q0)])) _
    refine XS.iloadN X0.here hx rfl (hb hby d6_1) rfl ?_
    show Steps p.tables e below (s₁.setTop (mkF m 2 #[.val (.long q0), .second, .val (.int (1000 : Int32))] [(.int (1000 : Int32)), (.long q0)])) _
    refine XS.i2l X0.here hx rfl (hb hby d6_2) rfl ?_
    show Steps p.tables e below (s₁.setTop (mkF m 3 #[.val (.long q0), .second, .val (.int (1000 : Int32))] [(.long (1000 : Int64)), (.long q0)])) _
    refine st105 _ ?_
    show Steps p.tables e below (T105.setTop (mkF m 6 #[.val (.long q0), .second, .val (.int (1000 : Int32))] [(.long (f_fd q0))])) _
    exact retJ X105 hx Bd.returns (hb hby d6_6) hr
  ·
    show Q_rm6 Z q0 h0 n0 _ T105.heap _
    rw [e105]
    exact ⟨by simp only [f_fdi], N105, rfl⟩
theorem d5_0 : decode method_3_code 0 = .ok (.iload_n 0, 1) := by decide +kernel
theorem d5_1 : decode method_3_code 1 = .ok (.sipush 1000, 3) := by decide +kernel
theorem d5_4 : decode method_3_code 4 = .ok (.idiv, 1) := by decide +kernel
theorem d5_5 : decode method_3_code 5 = .ok (.i2l, 1) := by decide +kernel
theorem d5_6 : decode method_3_code 6 = .ok (.lstore_n 1, 1) := by decide +kernel
theorem d5_7 : decode method_3_code 7 = .ok (.iload_n 0, 1) := by decide +kernel
theorem d5_8 : decode method_3_code 8 = .ok (.sipush 1000, 3) := by decide +kernel
theorem d5_11 : decode method_3_code 11 = .ok (.irem, 1) := by decide +kernel
theorem d5_12 : decode method_3_code 12 = .ok (.ifCond .eq 11, 3) := by decide +kernel
theorem d5_23 : decode method_3_code 23 = .ok (.lload_n 1, 1) := by decide +kernel
theorem d5_24 : decode method_3_code 24 = .ok (.lreturn, 1) := by decide +kernel
theorem d5_15 : decode method_3_code 15 = .ok (.iload_n 0, 1) := by decide +kernel
theorem d5_16 : decode method_3_code 16 = .ok (.ifCond .ge 7, 3) := by decide +kernel
theorem d5_19 : decode method_3_code 19 = .ok (.lload_n 1, 1) := by decide +kernel
theorem d5_20 : decode method_3_code 20 = .ok (.lconst 1, 1) := by decide +kernel
theorem d5_21 : decode method_3_code 21 = .ok (.lsub, 1) := by decide +kernel
theorem d5_22 : decode method_3_code 22 = .ok (.lstore_n 1, 1) := by decide +kernel
theorem pn_0 : plainName "com/example/windo/windo/store/ServerClockObservePinLaw" = true := by first | (simp [plainName, overriddenIn]; done) | decide +kernel
theorem ef_rm5 (m : MethodId) (p0 : Int32) : entryFrame m #[(.int p0)] 3 = mkF m 0 #[.val (.int p0), .unset, .unset] [] := by first | (simp [entryFrame, mkF, argsToLocals, Value.category]; done) | rfl
def f_k (p0 : Int32) : Int64 := (if (p0 - (p0 / (1000 : Int32)) * (1000 : Int32)) = (0 : Int32) then ((p0 / (1000 : Int32)).toInt64) else (if p0 < (0 : Int32) then (((p0 / (1000 : Int32)).toInt64) - (1 : Int64)) else ((p0 / (1000 : Int32)).toInt64)))
def Q_rm5 (Z : State) (p0 : Int32) (h0 : Heap) (n0 : Nat) (v : Option Value) (h : Heap) (L : List Loc) : Prop := v = some (.long (f_k p0)) ∧ Fr n0 L ∧ h = h0
set_option maxRecDepth 65536 in
set_option maxHeartbeats 40000000 in
theorem rm5 (l : Launch) (Z : State) (aw : Array Value) (hw : ∀ d ∈ tables_1, d.before aw Z = true) (ws : List Jvm.Cond) (p0 : Int32) (h0 : Heap) (n0 : Nat) (Z0 : n0 ≤ h0.size) :
    MetFree l (⟨"com/example/windo/windo/store/ServerClockObservePinLaw", "floorDiv1000", "(I)J"⟩ : MethodName) (head1 (Jvm.Cond.code (⟨"com/example/windo/windo/store/ServerClockObservePinLaw", "floorDiv1000", "(I)J"⟩ : MethodName) method_3_code 3 (some .long) :: ws) ({ frames := 0, cells := 0, slots := 0, locals := 0 } : Room)) (fun a U => a = #[(.int p0)] ∧ Z.Warmed39 U.vm ∧ U.heap = h0) (fun _ _ _ _ _ => True) (fun _ U o U' => ∃ v L, o = .returned v ∧ Q_rm5 Z p0 h0 n0 v U'.heap L ∧ FrameEnd U o U' L ({ frames := 0, cells := 0, slots := 0, locals := 0 } : Room).cells ({ frames := 0, cells := 0, slots := 0, locals := 0 } : Room).slots) := by
  refine MetFree.of_bodySF (plainFor_of_name pn_0) hisR ?_
  intro p e s m args below meth c s₁ Bd hml0 hP hK
  obtain ⟨rfl, hZ, hh⟩ := hP
  have hx := Bd.exec
  have hby := Bd.bytes
  have hml : c.maxLocals = 3 := hml0
  have hown : s.vm.findClass "com/example/windo/windo/store/ServerClockObservePinLaw" = some m.cls := findClass_of_methodNamed Bd.named
  have hnm := (name_of_methodNamed Bd.named Bd.method).1
  have X0 : Stand p l e ({ frames := 0, cells := 0, slots := 0, locals := 0 } : Room) s m #[(.int p0)] below meth c s₁ [] 0 0 := Stand.of_body Bd
  have e0 : s₁.heap = h0 := by rw [← hh, Bd.state]; rfl
  have N0 := Fr.nil n0
  have pre0 : ∀ t, Steps p.tables e below (s₁.setTop (mkF m 0 #[.val (.int p0), .unset, .unset] [])) t → Steps p.tables e below (s₁.setTop (entryFrame m #[(.int p0)] 3)) t := fun t k => castTop (ef_rm5 m p0) k
  have pre106 : ∀ t, Steps p.tables e below (s₁.setTop (mkF m 12 #[.val (.int p0), .val (.long ((p0 / (1000 : Int32)).toInt64)), .second] [(.int (p0 - (p0 / (1000 : Int32)) * (1000 : Int32)))])) t → Steps p.tables e below (s₁.setTop (entryFrame m #[(.int p0)] 3)) t := fun t k => by
    refine pre0 t ?_
    show Steps p.tables e below (s₁.setTop (mkF m 0 #[.val (.int p0), .unset, .unset] [])) _
    refine XS.iloadN X0.here hx rfl (hb hby d5_0) rfl ?_
    show Steps p.tables e below (s₁.setTop (mkF m 1 #[.val (.int p0), .unset, .unset] [(.int p0)])) _
    refine XS.sipush X0.here hx rfl (hb hby d5_1) ?_
    show Steps p.tables e below (s₁.setTop (mkF m 4 #[.val (.int p0), .unset, .unset] [(.int (1000 : Int32)), (.int p0)])) _
    refine XS.idiv X0.here hx rfl (hb hby d5_4) rfl (by decide) ?_
    show Steps p.tables e below (s₁.setTop (mkF m 5 #[.val (.int p0), .unset, .unset] [(.int (p0 / (1000 : Int32)))])) _
    refine XS.i2l X0.here hx rfl (hb hby d5_5) rfl ?_
    show Steps p.tables e below (s₁.setTop (mkF m 6 #[.val (.int p0), .unset, .unset] [(.long ((p0 / (1000 : Int32)).toInt64))])) _
    refine XS.lstoreN X0.here hx rfl (hb hby d5_6) rfl (l' := #[.val (.int p0), .val (.long ((p0 / (1000 : Int32)).toInt64)), .second]) rfl ?_
    show Steps p.tables e below (s₁.setTop (mkF m 7 #[.val (.int p0), .val (.long ((p0 / (1000 : Int32)).toInt64)), .second] [])) _
    refine XS.iloadN X0.here hx rfl (hb hby d5_7) rfl ?_
    show Steps p.tables e below (s₁.setTop (mkF m 8 #[.val (.int p0), .val (.long ((p0 / (1000 : Int32)).toInt64)), .second] [(.int p0)])) _
    refine XS.sipush X0.here hx rfl (hb hby d5_8) ?_
    show Steps p.tables e below (s₁.setTop (mkF m 11 #[.val (.int p0), .val (.long ((p0 / (1000 : Int32)).toInt64)), .second] [(.int (1000 : Int32)), (.int p0)])) _
    refine XS.irem X0.here hx rfl (hb hby d5_11) rfl (by decide) ?_
    exact k
  by_cases c107 : (p0 - (p0 / (1000 : Int32)) * (1000 : Int32)) = (0 : Int32)
  ·
    obtain ⟨fs, hr, hrun, hended, hW, hsame⟩ := X0.leave (v := some (.long ((p0 / (1000 : Int32)).toInt64))) (fun h => by rw [Bd.returns] at h; cases h)
    refine ⟨_, _, pre106 _ ?_, hrun, hended, _, _, rfl, ?_, ⟨_, rfl⟩, hW, hsame.mono (by decide) (by decide)⟩
    ·
      show Steps p.tables e below (s₁.setTop (mkF m 12 #[.val (.int p0), .val (.long ((p0 / (1000 : Int32)).toInt64)), .second] [(.int (p0 - (p0 / (1000 : Int32)) * (1000 : Int32)))])) _
      refine XS.ifYes X0.here hx rfl (pc0 := 12) (pc' := 23) rfl (hb hby d5_12) rfl ((if0 _ _).trans (teq c107).1) (by decide) (by decide) ?_
      show Steps p.tables e below (s₁.setTop (mkF m 23 #[.val (.int p0), .val (.long ((p0 / (1000 : Int32)).toInt64)), .second] [])) _
      refine XS.lloadN X0.here hx rfl (hb hby d5_23) rfl ?_
      show Steps p.tables e below (s₁.setTop (mkF m 24 #[.val (.int p0), .val (.long ((p0 / (1000 : Int32)).toInt64)), .second] [(.long ((p0 / (1000 : Int32)).toInt64))])) _
      exact retJ X0 hx Bd.returns (hb hby d5_24) hr
    ·
      show Q_rm5 Z p0 h0 n0 _ s₁.heap _
      rw [e0]
      exact ⟨by simp only [f_k, if_pos c107], N0, rfl⟩
  ·
    have pre108 : ∀ t, Steps p.tables e below (s₁.setTop (mkF m 16 #[.val (.int p0), .val (.long ((p0 / (1000 : Int32)).toInt64)), .second] [(.int p0)])) t → Steps p.tables e below (s₁.setTop (entryFrame m #[(.int p0)] 3)) t := fun t k => by
      refine pre106 t ?_
      show Steps p.tables e below (s₁.setTop (mkF m 12 #[.val (.int p0), .val (.long ((p0 / (1000 : Int32)).toInt64)), .second] [(.int (p0 - (p0 / (1000 : Int32)) * (1000 : Int32)))])) _
      refine XS.ifNo X0.here hx rfl (hb hby d5_12) rfl ((if0 _ _).trans (feq c107).1) ?_
      show Steps p.tables e below (s₁.setTop (mkF m 15 #[.val (.int p0), .val (.long ((p0 / (1000 : Int32)).toInt64)), .second] [])) _
      refine XS.iloadN X0.here hx rfl (hb hby d5_15) rfl ?_
      exact k
    by_cases c109 : p0 < (0 : Int32)
    ·
      obtain ⟨fs, hr, hrun, hended, hW, hsame⟩ := X0.leave (v := some (.long (((p0 / (1000 : Int32)).toInt64) - (1 : Int64)))) (fun h => by rw [Bd.returns] at h; cases h)
      refine ⟨_, _, pre108 _ ?_, hrun, hended, _, _, rfl, ?_, ⟨_, rfl⟩, hW, hsame.mono (by decide) (by decide)⟩
      ·
        show Steps p.tables e below (s₁.setTop (mkF m 16 #[.val (.int p0), .val (.long ((p0 / (1000 : Int32)).toInt64)), .second] [(.int p0)])) _
        refine XS.ifNo X0.here hx rfl (hb hby d5_16) rfl ((if0 _ _).trans (tlt c109).2.1) ?_
        show Steps p.tables e below (s₁.setTop (mkF m 19 #[.val (.int p0), .val (.long ((p0 / (1000 : Int32)).toInt64)), .second] [])) _
        refine XS.lloadN X0.here hx rfl (hb hby d5_19) rfl ?_
        show Steps p.tables e below (s₁.setTop (mkF m 20 #[.val (.int p0), .val (.long ((p0 / (1000 : Int32)).toInt64)), .second] [(.long ((p0 / (1000 : Int32)).toInt64))])) _
        refine XS.lconst X0.here hx rfl (hb hby d5_20) ?_
        show Steps p.tables e below (s₁.setTop (mkF m 21 #[.val (.int p0), .val (.long ((p0 / (1000 : Int32)).toInt64)), .second] [(.long (1 : Int64)), (.long ((p0 / (1000 : Int32)).toInt64))])) _
        refine XS.lsub X0.here hx rfl (hb hby d5_21) rfl ?_
        show Steps p.tables e below (s₁.setTop (mkF m 22 #[.val (.int p0), .val (.long ((p0 / (1000 : Int32)).toInt64)), .second] [(.long (((p0 / (1000 : Int32)).toInt64) - (1 : Int64)))])) _
        refine XS.lstoreN X0.here hx rfl (hb hby d5_22) rfl (l' := #[.val (.int p0), .val (.long (((p0 / (1000 : Int32)).toInt64) - (1 : Int64))), .second]) rfl ?_
        show Steps p.tables e below (s₁.setTop (mkF m 23 #[.val (.int p0), .val (.long (((p0 / (1000 : Int32)).toInt64) - (1 : Int64))), .second] [])) _
        refine XS.lloadN X0.here hx rfl (hb hby d5_23) rfl ?_
        show Steps p.tables e below (s₁.setTop (mkF m 24 #[.val (.int p0), .val (.long (((p0 / (1000 : Int32)).toInt64) - (1 : Int64))), .second] [(.long (((p0 / (1000 : Int32)).toInt64) - (1 : Int64)))])) _
        exact retJ X0 hx Bd.returns (hb hby d5_24) hr
      ·
        show Q_rm5 Z p0 h0 n0 _ s₁.heap _
        rw [e0]
        exact ⟨by simp only [f_k, if_neg c107, if_pos c109], N0, rfl⟩
    ·
      obtain ⟨fs, hr, hrun, hended, hW, hsame⟩ := X0.leave (v := some (.long ((p0 / (1000 : Int32)).toInt64))) (fun h => by rw [Bd.returns] at h; cases h)
      refine ⟨_, _, pre108 _ ?_, hrun, hended, _, _, rfl, ?_, ⟨_, rfl⟩, hW, hsame.mono (by decide) (by decide)⟩
      ·
        show Steps p.tables e below (s₁.setTop (mkF m 16 #[.val (.int p0), .val (.long ((p0 / (1000 : Int32)).toInt64)), .second] [(.int p0)])) _
        refine XS.ifYes X0.here hx rfl (pc0 := 16) (pc' := 23) rfl (hb hby d5_16) rfl ((if0 _ _).trans (flt c109).2.1) (by decide) (by decide) ?_
        show Steps p.tables e below (s₁.setTop (mkF m 23 #[.val (.int p0), .val (.long ((p0 / (1000 : Int32)).toInt64)), .second] [])) _
        refine XS.lloadN X0.here hx rfl (hb hby d5_23) rfl ?_
        show Steps p.tables e below (s₁.setTop (mkF m 24 #[.val (.int p0), .val (.long ((p0 / (1000 : Int32)).toInt64)), .second] [(.long ((p0 / (1000 : Int32)).toInt64))])) _
        exact retJ X0 hx Bd.returns (hb hby d5_24) hr
      ·
        show Q_rm5 Z p0 h0 n0 _ s₁.heap _
        rw [e0]
        exact ⟨by simp only [f_k, if_neg c107, if_neg c109], N0, rfl⟩
theorem d1_0 : decode prog_46_method_1_code 0 = .ok (.aload_n 0, 1) := by decide +kernel
theorem d1_1 : decode prog_46_method_1_code 1 = .ok (.invokespecial 3, 3) := by decide +kernel
theorem d1_4 : decode prog_46_method_1_code 4 = .ok (.aload_n 0, 1) := by decide +kernel
theorem d1_5 : decode prog_46_method_1_code 5 = .ok (.ldc2_w 11, 3) := by decide +kernel
theorem d1_8 : decode prog_46_method_1_code 8 = .ok (.putfield 13, 3) := by decide +kernel
theorem d1_11 : decode prog_46_method_1_code 11 = .ok (.return_, 1) := by decide +kernel
theorem pn_1 : plainName "com/example/windo/windo/store/ServerClock" = true := by first | (simp [plainName, overriddenIn]; done) | decide +kernel
theorem ef_rm1 (m : MethodId) (a0 : Addr) : entryFrame m #[(.ref a0)] 1 = mkF m 0 #[.val (.ref a0)] [] := by first | (simp [entryFrame, mkF, argsToLocals, Value.category]; done) | rfl
def Q_rm1 (Z : State) (a0 : Addr) (h0 : Heap) (n0 : Nat) (v : Option Value) (h : Heap) (L : List Loc) : Prop := v = none ∧ Fr n0 L ∧ Keep h0 h [a0] ∧ Exa Z h a0 "com/example/windo/windo/store/ServerClock" ∧ Fld Z h a0 "com/example/windo/windo/store/ServerClock" "offsetNanos" "J" (.long (-9223372036854775808 : Int64))
set_option maxRecDepth 65536 in
set_option maxHeartbeats 40000000 in
theorem rm1 (l : Launch) (Z : State) (aw : Array Value) (hw : ∀ d ∈ tables_1, d.before aw Z = true) (ws : List Jvm.Cond) (a0 : Addr) (h0 : Heap) (n0 : Nat) (Z0 : n0 ≤ h0.size) (E_a0 : Exa Z h0 a0 "com/example/windo/windo/store/ServerClock") (F_a0_offsetNanos : Fld Z h0 a0 "com/example/windo/windo/store/ServerClock" "offsetNanos" "J" (.long (0 : Int64))) (g_a0 : n0 ≤ a0) :
    MetFree l (⟨"com/example/windo/windo/store/ServerClock", "<init>", "()V"⟩ : MethodName) (head1 (Jvm.Cond.code (⟨"com/example/windo/windo/store/ServerClock", "<init>", "()V"⟩ : MethodName) prog_46_method_1_code 1 none :: ws) ({ frames := 1, cells := 0, slots := 0, locals := 12 } : Room)) (fun a U => a = #[(.ref a0)] ∧ Z.Warmed39 U.vm ∧ U.heap = h0) (fun _ _ _ _ _ => True) (fun _ U o U' => ∃ v L, o = .returned v ∧ Q_rm1 Z a0 h0 n0 v U'.heap L ∧ FrameEnd U o U' L ({ frames := 1, cells := 0, slots := 0, locals := 12 } : Room).cells ({ frames := 1, cells := 0, slots := 0, locals := 12 } : Room).slots) := by
  refine MetFree.of_bodySF (plainFor_of_name pn_1) hisR ?_
  intro p e s m args below meth c s₁ Bd hml0 hP hK
  obtain ⟨rfl, hZ, hh⟩ := hP
  have hx := Bd.exec
  have hby := Bd.bytes
  have hml : c.maxLocals = 1 := hml0
  have hown : s.vm.findClass "com/example/windo/windo/store/ServerClock" = some m.cls := findClass_of_methodNamed Bd.named
  have hnm := (name_of_methodNamed Bd.named Bd.method).1
  have X0 : Stand p l e ({ frames := 1, cells := 0, slots := 0, locals := 12 } : Room) s m #[(.ref a0)] below meth c s₁ [] 0 0 := Stand.of_body Bd
  have e0 : s₁.heap = h0 := by rw [← hh, Bd.state]; rfl
  have N0 := Fr.nil n0
  have pre0 : ∀ t, Steps p.tables e below (s₁.setTop (mkF m 0 #[.val (.ref a0)] [])) t → Steps p.tables e below (s₁.setTop (entryFrame m #[(.ref a0)] 1)) t := fun t k => castTop (ef_rm1 m a0) k
  have KC0 : Keep h0 h0 [a0] := Keep.refl h0 [a0]
  obtain ⟨T110, X110, e110, st110⟩ := initO X0 hx hZ hown (hw _ (List.mem_of_getElem? (i := 9) rfl)) (hw _ (List.mem_of_getElem? (i := 10) rfl)) (hw _ (List.mem_of_getElem? (i := 11) rfl)) e0 (g := (mkF m 1 #[.val (.ref a0)] [(.ref a0)])) rfl (by rw [hml]; rfl) rfl (hb hby d1_1) (by decide) (W := 0) (by show 2 * 0 + _ ≤ _; exact Nat.le_of_eq rfl) (by decide)
  obtain ⟨T111, h111, X111, e111, W111, st111⟩ := putF X110 hx hZ hown (host := "") (Or.inl (hw _ (List.mem_of_getElem? (i := 13) rfl))) Via.refl e110 F_a0_offsetNanos E_a0 (Or.inl (hw _ (List.mem_of_getElem? (i := 14) rfl))) (hw _ (List.mem_of_getElem? (i := 4) rfl)) (ty := .long) (by decide) rfl rfl (g := (mkF m 8 #[.val (.ref a0)] [(.long (-9223372036854775808 : Int64)), (.ref a0)])) rfl rfl (hb hby d1_8)
  have f112 := E_a0.wr W111
  have Z113 : n0 ≤ h111.size := Nat.le_trans Z0 (Keep.of_wr W111).1
  have K114 : Keep h0 h111 [a0] := Keep.wr KC0 W111 (Or.inl (List.mem_of_getElem? (i := 0) rfl))
  have N115 := Fr.snoc X111 N0 g_a0
  have f116 : Fld Z h111 a0 "com/example/windo/windo/store/ServerClock" "offsetNanos" "J" (.long (-9223372036854775808 : Int64)) := F_a0_offsetNanos.same W111
  obtain ⟨fs, hr, hrun, hended, hW, hsame⟩ := X111.leave (v := none) (fun _ => rfl)
  refine ⟨_, _, pre0 _ ?_, hrun, hended, _, _, rfl, ?_, ⟨_, rfl⟩, hW, hsame.mono (by decide) (by decide)⟩
  ·
    show Steps p.tables e below (s₁.setTop (mkF m 0 #[.val (.ref a0)] [])) _
    refine XS.aloadN X0.here hx rfl (hb hby d1_0) rfl rfl ?_
    show Steps p.tables e below (s₁.setTop (mkF m 1 #[.val (.ref a0)] [(.ref a0)])) _
    refine st110 _ ?_
    show Steps p.tables e below (T110.setTop (mkF m 4 #[.val (.ref a0)] [])) _
    refine XS.aloadN X110.here hx rfl (hb hby d1_4) rfl rfl ?_
    show Steps p.tables e below (T110.setTop (mkF m 5 #[.val (.ref a0)] [(.ref a0)])) _
    refine X110.ldc2Long hx hown (mvT hZ (hw _ (List.mem_of_getElem? (i := 12) rfl))) (g := (mkF m 5 #[.val (.ref a0)] [(.ref a0)])) rfl (hb hby d1_5) _ ?_
    show Steps p.tables e below (T110.setTop (mkF m 8 #[.val (.ref a0)] [(.long (-9223372036854775808 : Int64)), (.ref a0)])) _
    refine st111 _ ?_
    show Steps p.tables e below (T111.setTop (mkF m 11 #[.val (.ref a0)] [])) _
    exact X111.returnOut hx Bd.returns (hb hby d1_11) hr
  ·
    show Q_rm1 Z a0 h0 n0 _ T111.heap _
    rw [e111]
    exact ⟨rfl, N115, K114, f112, f116⟩
theorem d3_0 : decode prog_46_method_3_code 0 = .ok (.aload_n 0, 1) := by decide +kernel
theorem d3_1 : decode prog_46_method_3_code 1 = .ok (.getfield 13, 3) := by decide +kernel
theorem d3_4 : decode prog_46_method_3_code 4 = .ok (.lstore_n 3, 1) := by decide +kernel
theorem d3_5 : decode prog_46_method_3_code 5 = .ok (.lload_n 3, 1) := by decide +kernel
theorem d3_6 : decode prog_46_method_3_code 6 = .ok (.ldc2_w 11, 3) := by decide +kernel
theorem d3_9 : decode prog_46_method_3_code 9 = .ok (.lcmp, 1) := by decide +kernel
theorem d3_10 : decode prog_46_method_3_code 10 = .ok (.ifCond .ne 7, 3) := by decide +kernel
theorem d3_13 : decode prog_46_method_3_code 13 = .ok (.lconst 0, 1) := by decide +kernel
theorem d3_14 : decode prog_46_method_3_code 14 = .ok (.goto 12, 3) := by decide +kernel
theorem d3_26 : decode prog_46_method_3_code 26 = .ok (.lreturn, 1) := by decide +kernel
theorem d3_17 : decode prog_46_method_3_code 17 = .ok (.lload_n 1, 1) := by decide +kernel
theorem d3_18 : decode prog_46_method_3_code 18 = .ok (.lload_n 3, 1) := by decide +kernel
theorem d3_19 : decode prog_46_method_3_code 19 = .ok (.ladd, 1) := by decide +kernel
theorem d3_20 : decode prog_46_method_3_code 20 = .ok (.sipush 1000, 3) := by decide +kernel
theorem pd_1 : parseMethodDescriptor "(JI)J" = some ⟨[.long, .int], some .long⟩ := by decide +kernel
theorem d3_23 : decode prog_46_method_3_code 23 = .ok (.invokestatic 19, 3) := by decide +kernel
theorem ef_rm3 (m : MethodId) (a0 : Addr) (q1 : Int64) : entryFrame m #[(.ref a0), (.long q1)] 5 = mkF m 0 #[.val (.ref a0), .val (.long q1), .second, .unset, .unset] [] := by first | (simp [entryFrame, mkF, argsToLocals, Value.category]; done) | rfl
def Q_rm3 (Z : State) (a0 : Addr) (q1 : Int64) (w : Int64) (h0 : Heap) (n0 : Nat) (v : Option Value) (h : Heap) (L : List Loc) : Prop := v = some (.long (if w = (-9223372036854775808 : Int64) then (0 : Int64) else (f_fdi (q1 + w)))) ∧ Fr n0 L ∧ h = h0
set_option maxRecDepth 65536 in
set_option maxHeartbeats 40000000 in
theorem rm3 (l : Launch) (Z : State) (aw : Array Value) (hw : ∀ d ∈ tables_1, d.before aw Z = true) (ws : List Jvm.Cond) (a0 : Addr) (q1 : Int64) (w : Int64) (h0 : Heap) (n0 : Nat) (Z0 : n0 ≤ h0.size) (F_a0_offsetNanos : Fld Z h0 a0 "com/example/windo/windo/store/ServerClock" "offsetNanos" "J" (.long w)) :
    MetFree l (⟨"com/example/windo/windo/store/ServerClock", "serverMicros", "(J)J"⟩ : MethodName) (head1 (Jvm.Cond.code (⟨"com/example/windo/windo/store/ServerClock", "serverMicros", "(J)J"⟩ : MethodName) prog_46_method_3_code 5 (some .long) :: ws) ({ frames := 2, cells := 0, slots := 0, locals := 31 } : Room)) (fun a U => a = #[(.ref a0), (.long q1)] ∧ Z.Warmed39 U.vm ∧ U.heap = h0) (fun _ _ _ _ _ => True) (fun _ U o U' => ∃ v L, o = .returned v ∧ Q_rm3 Z a0 q1 w h0 n0 v U'.heap L ∧ FrameEnd U o U' L ({ frames := 2, cells := 0, slots := 0, locals := 31 } : Room).cells ({ frames := 2, cells := 0, slots := 0, locals := 31 } : Room).slots) := by
  refine MetFree.of_bodySF (plainFor_of_name pn_1) hisR ?_
  intro p e s m args below meth c s₁ Bd hml0 hP hK
  obtain ⟨rfl, hZ, hh⟩ := hP
  have hx := Bd.exec
  have hby := Bd.bytes
  have hml : c.maxLocals = 5 := hml0
  have hown : s.vm.findClass "com/example/windo/windo/store/ServerClock" = some m.cls := findClass_of_methodNamed Bd.named
  have hnm := (name_of_methodNamed Bd.named Bd.method).1
  have X0 : Stand p l e ({ frames := 2, cells := 0, slots := 0, locals := 31 } : Room) s m #[(.ref a0), (.long q1)] below meth c s₁ [] 0 0 := Stand.of_body Bd
  have e0 : s₁.heap = h0 := by rw [← hh, Bd.state]; rfl
  have N0 := Fr.nil n0
  have pre0 : ∀ t, Steps p.tables e below (s₁.setTop (mkF m 0 #[.val (.ref a0), .val (.long q1), .second, .unset, .unset] [])) t → Steps p.tables e below (s₁.setTop (entryFrame m #[(.ref a0), (.long q1)] 5)) t := fun t k => castTop (ef_rm3 m a0 q1) k
  obtain ⟨T117, X117, e117, st117⟩ := getF X0 hx hZ hown (host := "") (Or.inl (hw _ (List.mem_of_getElem? (i := 13) rfl))) Via.refl e0 F_a0_offsetNanos (g := (mkF m 1 #[.val (.ref a0), .val (.long q1), .second, .unset, .unset] [(.ref a0)])) rfl rfl (hb hby d3_1)
  have pre118 : ∀ t, Steps p.tables e below (T117.setTop (mkF m 10 #[.val (.ref a0), .val (.long q1), .second, .val (.long w), .second] [(.int (lcmpW w (-9223372036854775808 : Int64)))])) t → Steps p.tables e below (s₁.setTop (entryFrame m #[(.ref a0), (.long q1)] 5)) t := fun t k => by
    refine pre0 t ?_
    show Steps p.tables e below (s₁.setTop (mkF m 0 #[.val (.ref a0), .val (.long q1), .second, .unset, .unset] [])) _
    refine XS.aloadN X0.here hx rfl (hb hby d3_0) rfl rfl ?_
    show Steps p.tables e below (s₁.setTop (mkF m 1 #[.val (.ref a0), .val (.long q1), .second, .unset, .unset] [(.ref a0)])) _
    refine st117 _ ?_
    show Steps p.tables e below (T117.setTop (mkF m 4 #[.val (.ref a0), .val (.long q1), .second, .unset, .unset] [(.long w)])) _
    refine XS.lstoreN X117.here hx rfl (hb hby d3_4) rfl (l' := #[.val (.ref a0), .val (.long q1), .second, .val (.long w), .second]) rfl ?_
    show Steps p.tables e below (T117.setTop (mkF m 5 #[.val (.ref a0), .val (.long q1), .second, .val (.long w), .second] [])) _
    refine XS.lloadN X117.here hx rfl (hb hby d3_5) rfl ?_
    show Steps p.tables e below (T117.setTop (mkF m 6 #[.val (.ref a0), .val (.long q1), .second, .val (.long w), .second] [(.long w)])) _
    refine X117.ldc2Long hx hown (mvT hZ (hw _ (List.mem_of_getElem? (i := 12) rfl))) (g := (mkF m 6 #[.val (.ref a0), .val (.long q1), .second, .val (.long w), .second] [(.long w)])) rfl (hb hby d3_6) _ ?_
    show Steps p.tables e below (T117.setTop (mkF m 9 #[.val (.ref a0), .val (.long q1), .second, .val (.long w), .second] [(.long (-9223372036854775808 : Int64)), (.long w)])) _
    refine XS.lcmp X117.here hx rfl (hb hby d3_9) rfl ?_
    exact k
  by_cases c119 : w = (-9223372036854775808 : Int64)
  ·
    obtain ⟨fs, hr, hrun, hended, hW, hsame⟩ := X117.leave (v := some (.long (0 : Int64))) (fun h => by rw [Bd.returns] at h; cases h)
    refine ⟨_, _, pre118 _ ?_, hrun, hended, _, _, rfl, ?_, ⟨_, rfl⟩, hW, hsame.mono (by decide) (by decide)⟩
    ·
      show Steps p.tables e below (T117.setTop (mkF m 10 #[.val (.ref a0), .val (.long q1), .second, .val (.long w), .second] [(.int (lcmpW w (-9223372036854775808 : Int64)))])) _
      refine XS.ifNo X117.here hx rfl (hb hby d3_10) rfl ((if0 _ _).trans (teq ((lw_eq _ _).mpr c119)).2) ?_
      show Steps p.tables e below (T117.setTop (mkF m 13 #[.val (.ref a0), .val (.long q1), .second, .val (.long w), .second] [])) _
      refine XS.lconst X117.here hx rfl (hb hby d3_13) ?_
      show Steps p.tables e below (T117.setTop (mkF m 14 #[.val (.ref a0), .val (.long q1), .second, .val (.long w), .second] [(.long (0 : Int64))])) _
      refine XS.goto X117.here hx rfl (pc0 := 14) (pc' := 26) rfl (hb hby d3_14) (by decide) (by decide) ?_
      show Steps p.tables e below (T117.setTop (mkF m 26 #[.val (.ref a0), .val (.long q1), .second, .val (.long w), .second] [(.long (0 : Int64))])) _
      exact retJ X117 hx Bd.returns (hb hby d3_26) hr
    ·
      show Q_rm3 Z a0 q1 w h0 n0 _ T117.heap _
      rw [e117]
      exact ⟨(by simp only [if_pos c119]), N0, rfl⟩
  ·
    obtain ⟨_, _, ⟨T120, L120, k120, n120⟩, -, X120, ⟨Lc120, hQ120, l120, y120, z120⟩, st120⟩ := Jvm.LawKit.callS X117 hx (y := (⟨"java/lang/Math", "floorDiv", "(JI)J"⟩ : MethodName)) hown (mvT hZ (hw _ (List.mem_of_getElem? (i := 30) rfl))) (mvT hZ (hw _ (List.mem_of_getElem? (i := 31) rfl))) (mvT hZ (hw _ (List.mem_of_getElem? (i := 32) rfl))) (mvT hZ (hw _ (List.mem_of_getElem? (i := 33) rfl))) (by decide) (backOf (W := 0) (rm6 l Z aw hw [] (q1 + w) h0 n0 Z0) hZ (hw _ (List.mem_of_getElem? (i := 33) rfl)) (hw _ (List.mem_of_getElem? (i := 32) rfl)) (by decide) (by decide)) (g := (mkF m 23 #[.val (.ref a0), .val (.long q1), .second, .val (.long w), .second] [(.int (1000 : Int32)), (.long (q1 + w))])) rfl (by rw [hml]; rfl) (argsL := [(.long (q1 + w)), (.int (1000 : Int32))]) (rest := []) (lenOf pd_1 rfl) rfl (by show 2 * 0 + _ ≤ _; exact Nat.le_of_eq rfl) (hb hby d3_23) (fun _ _ => ⟨rfl, e117, (by decide : 0 + 0 ≤ _), (by decide : 0 + 0 ≤ _)⟩)
    dsimp only [Pt.U, Pt.locs, Pt.cells, Pt.slots] at X120 l120 y120 z120 st120 hQ120
    subst l120 y120 z120
    obtain ⟨rfl, N120q, e120⟩ := hQ120
    have N120 := Fr.app N0 N120q
    obtain ⟨fs, hr, hrun, hended, hW, hsame⟩ := X120.leave (v := some (.long (f_fdi (q1 + w)))) (fun h => by rw [Bd.returns] at h; cases h)
    refine ⟨_, _, pre118 _ ?_, hrun, hended, _, _, rfl, ?_, ⟨_, rfl⟩, hW, hsame.mono (by decide) (by decide)⟩
    ·
      show Steps p.tables e below (T117.setTop (mkF m 10 #[.val (.ref a0), .val (.long q1), .second, .val (.long w), .second] [(.int (lcmpW w (-9223372036854775808 : Int64)))])) _
      refine XS.ifYes X117.here hx rfl (pc0 := 10) (pc' := 17) rfl (hb hby d3_10) rfl ((if0 _ _).trans (feq (fun q => c119 ((lw_eq _ _).mp q))).2) (by decide) (by decide) ?_
      show Steps p.tables e below (T117.setTop (mkF m 17 #[.val (.ref a0), .val (.long q1), .second, .val (.long w), .second] [])) _
      refine XS.lloadN X117.here hx rfl (hb hby d3_17) rfl ?_
      show Steps p.tables e below (T117.setTop (mkF m 18 #[.val (.ref a0), .val (.long q1), .second, .val (.long w), .second] [(.long q1)])) _
      refine XS.lloadN X117.here hx rfl (hb hby d3_18) rfl ?_
      show Steps p.tables e below (T117.setTop (mkF m 19 #[.val (.ref a0), .val (.long q1), .second, .val (.long w), .second] [(.long w), (.long q1)])) _
      refine XS.ladd X117.here hx rfl (hb hby d3_19) rfl ?_
      show Steps p.tables e below (T117.setTop (mkF m 20 #[.val (.ref a0), .val (.long q1), .second, .val (.long w), .second] [(.long (q1 + w))])) _
      refine XS.sipush X117.here hx rfl (hb hby d3_20) ?_
      show Steps p.tables e below (T117.setTop (mkF m 23 #[.val (.ref a0), .val (.long q1), .second, .val (.long w), .second] [(.int (1000 : Int32)), (.long (q1 + w))])) _
      refine st120 _ ?_
      show Steps p.tables e below (T120.setTop (mkF m 26 #[.val (.ref a0), .val (.long q1), .second, .val (.long w), .second] [(.long (f_fdi (q1 + w)))])) _
      exact retJ X120 hx Bd.returns (hb hby d3_26) hr
    ·
      show Q_rm3 Z a0 q1 w h0 n0 _ T120.heap _
      rw [e120]
      exact ⟨(by simp only [if_neg c119]), N120, rfl⟩
theorem d4_0 : decode prog_46_method_2_code 0 = .ok (.aload_n 0, 1) := by decide +kernel
theorem d4_1 : decode prog_46_method_2_code 1 = .ok (.lload_n 1, 1) := by decide +kernel
theorem d4_2 : decode prog_46_method_2_code 2 = .ok (.ldc2_w 17, 3) := by decide +kernel
theorem d4_5 : decode prog_46_method_2_code 5 = .ok (.lmul, 1) := by decide +kernel
theorem d4_6 : decode prog_46_method_2_code 6 = .ok (.lload_n 3, 1) := by decide +kernel
theorem d4_7 : decode prog_46_method_2_code 7 = .ok (.lsub, 1) := by decide +kernel
theorem d4_8 : decode prog_46_method_2_code 8 = .ok (.putfield 13, 3) := by decide +kernel
theorem d4_11 : decode prog_46_method_2_code 11 = .ok (.return_, 1) := by decide +kernel
theorem ef_rm4 (m : MethodId) (a0 : Addr) (q1 : Int64) (q2 : Int64) : entryFrame m #[(.ref a0), (.long q1), (.long q2)] 5 = mkF m 0 #[.val (.ref a0), .val (.long q1), .second, .val (.long q2), .second] [] := by first | (simp [entryFrame, mkF, argsToLocals, Value.category]; done) | rfl
def Q_rm4 (Z : State) (a0 : Addr) (q1 : Int64) (q2 : Int64) (w : Int64) (h0 : Heap) (n0 : Nat) (v : Option Value) (h : Heap) (L : List Loc) : Prop := v = none ∧ Fr n0 L ∧ Keep h0 h [a0] ∧ Exa Z h a0 "com/example/windo/windo/store/ServerClock" ∧ Fld Z h a0 "com/example/windo/windo/store/ServerClock" "offsetNanos" "J" (.long ((q1 * (1000 : Int64)) - q2))
set_option maxRecDepth 65536 in
set_option maxHeartbeats 40000000 in
theorem rm4 (l : Launch) (Z : State) (aw : Array Value) (hw : ∀ d ∈ tables_1, d.before aw Z = true) (ws : List Jvm.Cond) (a0 : Addr) (q1 : Int64) (q2 : Int64) (w : Int64) (h0 : Heap) (n0 : Nat) (Z0 : n0 ≤ h0.size) (E_a0 : Exa Z h0 a0 "com/example/windo/windo/store/ServerClock") (F_a0_offsetNanos : Fld Z h0 a0 "com/example/windo/windo/store/ServerClock" "offsetNanos" "J" (.long w)) (g_a0 : n0 ≤ a0) :
    MetFree l (⟨"com/example/windo/windo/store/ServerClock", "observe", "(JJ)V"⟩ : MethodName) (head1 (Jvm.Cond.code (⟨"com/example/windo/windo/store/ServerClock", "observe", "(JJ)V"⟩ : MethodName) prog_46_method_2_code 5 none :: ws) ({ frames := 0, cells := 0, slots := 0, locals := 0 } : Room)) (fun a U => a = #[(.ref a0), (.long q1), (.long q2)] ∧ Z.Warmed39 U.vm ∧ U.heap = h0) (fun _ _ _ _ _ => True) (fun _ U o U' => ∃ v L, o = .returned v ∧ Q_rm4 Z a0 q1 q2 w h0 n0 v U'.heap L ∧ FrameEnd U o U' L ({ frames := 0, cells := 0, slots := 0, locals := 0 } : Room).cells ({ frames := 0, cells := 0, slots := 0, locals := 0 } : Room).slots) := by
  refine MetFree.of_bodySF (plainFor_of_name pn_1) hisR ?_
  intro p e s m args below meth c s₁ Bd hml0 hP hK
  obtain ⟨rfl, hZ, hh⟩ := hP
  have hx := Bd.exec
  have hby := Bd.bytes
  have hml : c.maxLocals = 5 := hml0
  have hown : s.vm.findClass "com/example/windo/windo/store/ServerClock" = some m.cls := findClass_of_methodNamed Bd.named
  have hnm := (name_of_methodNamed Bd.named Bd.method).1
  have X0 : Stand p l e ({ frames := 0, cells := 0, slots := 0, locals := 0 } : Room) s m #[(.ref a0), (.long q1), (.long q2)] below meth c s₁ [] 0 0 := Stand.of_body Bd
  have e0 : s₁.heap = h0 := by rw [← hh, Bd.state]; rfl
  have N0 := Fr.nil n0
  have pre0 : ∀ t, Steps p.tables e below (s₁.setTop (mkF m 0 #[.val (.ref a0), .val (.long q1), .second, .val (.long q2), .second] [])) t → Steps p.tables e below (s₁.setTop (entryFrame m #[(.ref a0), (.long q1), (.long q2)] 5)) t := fun t k => castTop (ef_rm4 m a0 q1 q2) k
  have KC0 : Keep h0 h0 [a0] := Keep.refl h0 [a0]
  obtain ⟨T121, h121, X121, e121, W121, st121⟩ := putF X0 hx hZ hown (host := "") (Or.inl (hw _ (List.mem_of_getElem? (i := 13) rfl))) Via.refl e0 F_a0_offsetNanos E_a0 (Or.inl (hw _ (List.mem_of_getElem? (i := 14) rfl))) (hw _ (List.mem_of_getElem? (i := 4) rfl)) (ty := .long) (by decide) rfl rfl (g := (mkF m 8 #[.val (.ref a0), .val (.long q1), .second, .val (.long q2), .second] [(.long ((q1 * (1000 : Int64)) - q2)), (.ref a0)])) rfl rfl (hb hby d4_8)
  have f122 := E_a0.wr W121
  have Z123 : n0 ≤ h121.size := Nat.le_trans Z0 (Keep.of_wr W121).1
  have K124 : Keep h0 h121 [a0] := Keep.wr KC0 W121 (Or.inl (List.mem_of_getElem? (i := 0) rfl))
  have N125 := Fr.snoc X121 N0 g_a0
  have f126 : Fld Z h121 a0 "com/example/windo/windo/store/ServerClock" "offsetNanos" "J" (.long ((q1 * (1000 : Int64)) - q2)) := F_a0_offsetNanos.same W121
  obtain ⟨fs, hr, hrun, hended, hW, hsame⟩ := X121.leave (v := none) (fun _ => rfl)
  refine ⟨_, _, pre0 _ ?_, hrun, hended, _, _, rfl, ?_, ⟨_, rfl⟩, hW, hsame.mono (by decide) (by decide)⟩
  ·
    show Steps p.tables e below (s₁.setTop (mkF m 0 #[.val (.ref a0), .val (.long q1), .second, .val (.long q2), .second] [])) _
    refine XS.aloadN X0.here hx rfl (hb hby d4_0) rfl rfl ?_
    show Steps p.tables e below (s₁.setTop (mkF m 1 #[.val (.ref a0), .val (.long q1), .second, .val (.long q2), .second] [(.ref a0)])) _
    refine XS.lloadN X0.here hx rfl (hb hby d4_1) rfl ?_
    show Steps p.tables e below (s₁.setTop (mkF m 2 #[.val (.ref a0), .val (.long q1), .second, .val (.long q2), .second] [(.long q1), (.ref a0)])) _
    refine X0.ldc2Long hx hown (mvT hZ (hw _ (List.mem_of_getElem? (i := 25) rfl))) (g := (mkF m 2 #[.val (.ref a0), .val (.long q1), .second, .val (.long q2), .second] [(.long q1), (.ref a0)])) rfl (hb hby d4_2) _ ?_
    show Steps p.tables e below (s₁.setTop (mkF m 5 #[.val (.ref a0), .val (.long q1), .second, .val (.long q2), .second] [(.long (1000 : Int64)), (.long q1), (.ref a0)])) _
    refine XS.lmul X0.here hx rfl (hb hby d4_5) rfl ?_
    show Steps p.tables e below (s₁.setTop (mkF m 6 #[.val (.ref a0), .val (.long q1), .second, .val (.long q2), .second] [(.long (q1 * (1000 : Int64))), (.ref a0)])) _
    refine XS.lloadN X0.here hx rfl (hb hby d4_6) rfl ?_
    show Steps p.tables e below (s₁.setTop (mkF m 7 #[.val (.ref a0), .val (.long q1), .second, .val (.long q2), .second] [(.long q2), (.long (q1 * (1000 : Int64))), (.ref a0)])) _
    refine XS.lsub X0.here hx rfl (hb hby d4_7) rfl ?_
    show Steps p.tables e below (s₁.setTop (mkF m 8 #[.val (.ref a0), .val (.long q1), .second, .val (.long q2), .second] [(.long ((q1 * (1000 : Int64)) - q2)), (.ref a0)])) _
    refine st121 _ ?_
    show Steps p.tables e below (T121.setTop (mkF m 11 #[.val (.ref a0), .val (.long q1), .second, .val (.long q2), .second] [])) _
    exact X121.returnOut hx Bd.returns (hb hby d4_11) hr
  ·
    show Q_rm4 Z a0 q1 q2 w h0 n0 _ T121.heap _
    rw [e121]
    exact ⟨rfl, N125, K124, f122, f126⟩
theorem own_fd (q : Int64) : (f_fd q).toInt = q.toInt / 1000 := by
  have r := rng64 q
  have x := c_xorSL q 1000
  have d := c_ldiv q 1000 1000 (by decide) (by decide)
  have m := c_lmul (q / 1000) 1000
  have rd := rng64 (q / 1000)
  have rm := rng64 (q / 1000 * 1000)
  have s := c_lsub (q / 1000) 1
  have rs := rng64 (q / 1000 - 1)
  simp only [f_fd, Int64.lt_iff_toInt_lt, ← Int64.toInt_inj, Int64.reduceToInt] at *
  repeat' split
  all_goals omega
theorem own_k (d : Int32) : (f_k d).toInt = d.toInt / 1000 := by
  have r := rng32 d
  have q := c_idiv d 1000 1000 (by decide) (by decide)
  have m := c_imul (d / 1000) 1000
  have rd := rng32 (d / 1000)
  have rm := rng32 (d / 1000 * 1000)
  have s := c_isub d (d / 1000 * 1000)
  have rs := rng32 (d - d / 1000 * 1000)
  have i := c_i2l (d / 1000)
  have t := c_lsub (d / 1000).toInt64 1
  have rt := rng64 ((d / 1000).toInt64 - 1)
  simp only [f_k, Int32.lt_iff_toInt_lt, ← Int32.toInt_inj, Int32.reduceToInt, Int64.reduceToInt] at *
  repeat' split
  all_goals omega
theorem own_a {a r s x : Int64} {d : Int32} (hs : s = a / (1001 : Int64)) (hm : ¬ (((s * (1000 : Int64)) - r) = (-9223372036854775808 : Int64))) (hx : x = s + f_k d) : (if ((s * (1000 : Int64)) - r) = (-9223372036854775808 : Int64) then (0 : Int64) else (f_fdi ((r + (d.toInt64)) + ((s * (1000 : Int64)) - r)))) = x := by
  rw [if_neg hm]
  show f_fd _ = x
  subst hx
  apply Int64.toInt_inj.mp
  rw [own_fd]
  have k := own_k d
  have ra := rng64 a
  have rr := rng64 r
  have rs := rng64 s
  have rd := rng32 d
  have q := c_ldiv a 1001 1001 (by decide) (by decide)
  rw [← hs] at q
  have i := c_i2l d
  have a1 := c_ladd r d.toInt64
  have m := c_lmul s 1000
  have s1 := c_lsub (s * 1000) r
  have a2 := c_ladd (r + d.toInt64) (s * 1000 - r)
  have r2 := rng64 (r + d.toInt64 + (s * 1000 - r))
  have a3 := c_ladd s (f_k d)
  have r3 := rng64 (s + f_k d)
  rw [show (1000 : Int64).toInt = 1000 by decide] at m
  have m1 : ((r + d.toInt64 + (s * 1000 - r)).toInt - (s.toInt * 1000 + d.toInt)) % 18446744073709551616 = 0 := by omega
  have sb : -9214158878976798 * 1000 ≤ s.toInt * 1000 ∧ s.toInt * 1000 ≤ 9214158878976798 * 1000 := by omega
  have m2 : (r + d.toInt64 + (s * 1000 - r)).toInt = s.toInt * 1000 + d.toInt := by omega
  have m3 : (s + f_k d).toInt = s.toInt + d.toInt / 1000 := by omega
  rw [m2, m3]
  omega
theorem own_b {a r s : Int64} (hs : s = a / (1001 : Int64)) (hm : ¬ (((s * (1000 : Int64)) - r) = (-9223372036854775808 : Int64))) : (if ((s * (1000 : Int64)) - r) = (-9223372036854775808 : Int64) then (0 : Int64) else (f_fdi (r + ((s * (1000 : Int64)) - r)))) = s := by
  rw [if_neg hm]
  show f_fd _ = s
  apply Int64.toInt_inj.mp
  rw [own_fd]
  have ra := rng64 a
  have rr := rng64 r
  have rs := rng64 s
  have q := c_ldiv a 1001 1001 (by decide) (by decide)
  rw [← hs] at q
  have m := c_lmul s 1000
  have s1 := c_lsub (s * 1000) r
  have a2 := c_ladd r (s * 1000 - r)
  have r2 := rng64 (r + (s * 1000 - r))
  rw [show (1000 : Int64).toInt = 1000 by decide] at m
  have m1 : ((r + (s * 1000 - r)).toInt - s.toInt * 1000) % 18446744073709551616 = 0 := by omega
  have sb : -9214158878976798 * 1000 ≤ s.toInt * 1000 ∧ s.toInt * 1000 ≤ 9214158878976798 * 1000 := by omega
  have m2 : (r + (s * 1000 - r)).toInt = s.toInt * 1000 := by omega
  rw [m2]
  omega
theorem pd_2 : parseMethodDescriptor "()V" = some ⟨[], none⟩ := by decide +kernel
theorem pd_3 : parseMethodDescriptor "(J)J" = some ⟨[.long], some .long⟩ := by decide +kernel
theorem pd_4 : parseMethodDescriptor "(JJ)V" = some ⟨[.long, .long], none⟩ := by decide +kernel
theorem pd_5 : parseMethodDescriptor "(I)J" = some ⟨[.int], some .long⟩ := by decide +kernel
theorem ef_rm0 (m : MethodId) (q0 : Int64) (q1 : Int64) (p2 : Int32) (q3 : Int64) (q4 : Int64) : entryFrame m #[(.long q0), (.long q1), (.int p2), (.long q3), (.long q4)] maxLocals = mkF m 0 #[.val (.long q0), .second, .val (.long q1), .second, .val (.int p2), .val (.long q3), .second, .val (.long q4), .second, .unset, .unset, .unset, .unset, .unset, .unset] [] := by first | (simp [entryFrame, mkF, argsToLocals, Value.category, maxLocals]; done) | rfl
def Q_rm0 (Z : State) (q0 : Int64) (q1 : Int64) (p2 : Int32) (q3 : Int64) (q4 : Int64) (h0 : Heap) (n0 : Nat) (v : Option Value) (h : Heap) (L : List Loc) : Prop := v = some (.int (1 : Int32)) ∧ Fr n0 L
set_option maxRecDepth 65536 in
set_option maxHeartbeats 40000000 in
theorem rm0 (l : Launch) (Z : State) (aw : Array Value) (hw : ∀ d ∈ tables_1, d.before aw Z = true) (ws : List Jvm.Cond) (q0 : Int64) (q1 : Int64) (p2 : Int32) (q3 : Int64) (q4 : Int64) (h0 : Heap) (n0 : Nat) (Z0 : n0 ≤ h0.size) :
    MetFree l x (head1 (Jvm.Cond.code x code maxLocals ret :: ws) room_1) (fun a U => a = #[(.long q0), (.long q1), (.int p2), (.long q3), (.long q4)] ∧ Z.Warmed39 U.vm ∧ U.heap = h0) (fun _ _ _ _ _ => True) (fun _ U o U' => ∃ v L, o = .returned v ∧ Q_rm0 Z q0 q1 p2 q3 q4 h0 n0 v U'.heap L ∧ FrameEnd U o U' L room_1.cells room_1.slots) := by
  refine MetFree.of_bodySF (plainFor_of_name pn_0) hisR ?_
  intro p e s m args below meth c s₁ Bd hml0 hP hK
  obtain ⟨rfl, hZ, hh⟩ := hP
  have hx := Bd.exec
  have hby := Bd.bytes
  have hml : c.maxLocals = 15 := hml0
  have hown : s.vm.findClass "com/example/windo/windo/store/ServerClockObservePinLaw" = some m.cls := findClass_of_methodNamed Bd.named
  have hnm := (name_of_methodNamed Bd.named Bd.method).1
  have X0 : Stand p l e room_1 s m #[(.long q0), (.long q1), (.int p2), (.long q3), (.long q4)] below meth c s₁ [] 0 0 := Stand.of_body Bd
  have e0 : s₁.heap = h0 := by rw [← hh, Bd.state]; rfl
  have N0 := Fr.nil n0
  have pre0 : ∀ t, Steps p.tables e below (s₁.setTop (mkF m 0 #[.val (.long q0), .second, .val (.long q1), .second, .val (.int p2), .val (.long q3), .second, .val (.long q4), .second, .unset, .unset, .unset, .unset, .unset, .unset] [])) t → Steps p.tables e below (s₁.setTop (entryFrame m #[(.long q0), (.long q1), (.int p2), (.long q3), (.long q4)] maxLocals)) t := fun t k => castTop (ef_rm0 m q0 q1 p2 q3 q4) k
  obtain ⟨x127, hx127⟩ : ∃ z : Int64, z = (q0 / (1001 : Int64)) := ⟨_, rfl⟩
  have pre128 : ∀ t, Steps p.tables e below (s₁.setTop (mkF m 7 #[.val (.long q0), .second, .val (.long q1), .second, .val (.int p2), .val (.long q3), .second, .val (.long q4), .second, .val (.long x127), .second, .unset, .unset, .unset, .unset] [])) t → Steps p.tables e below (s₁.setTop (entryFrame m #[(.long q0), (.long q1), (.int p2), (.long q3), (.long q4)] maxLocals)) t := fun t k => by
    refine pre0 t ?_
    show Steps p.tables e below (s₁.setTop (mkF m 0 #[.val (.long q0), .second, .val (.long q1), .second, .val (.int p2), .val (.long q3), .second, .val (.long q4), .second, .unset, .unset, .unset, .unset, .unset, .unset] [])) _
    refine XS.lloadN X0.here hx rfl (hb hby at_0) rfl ?_
    show Steps p.tables e below (s₁.setTop (mkF m 1 #[.val (.long q0), .second, .val (.long q1), .second, .val (.int p2), .val (.long q3), .second, .val (.long q4), .second, .unset, .unset, .unset, .unset, .unset, .unset] [(.long q0)])) _
    refine X0.ldc2Long hx hown (mvT hZ (hw _ (List.mem_of_getElem? (i := 0) rfl))) (g := (mkF m 1 #[.val (.long q0), .second, .val (.long q1), .second, .val (.int p2), .val (.long q3), .second, .val (.long q4), .second, .unset, .unset, .unset, .unset, .unset, .unset] [(.long q0)])) rfl (hb hby at_1) _ ?_
    show Steps p.tables e below (s₁.setTop (mkF m 4 #[.val (.long q0), .second, .val (.long q1), .second, .val (.int p2), .val (.long q3), .second, .val (.long q4), .second, .unset, .unset, .unset, .unset, .unset, .unset] [(.long (1001 : Int64)), (.long q0)])) _
    refine XS.ldiv X0.here hx rfl (hb hby at_4) rfl (by decide) ?_
    show Steps p.tables e below (s₁.setTop (mkF m 5 #[.val (.long q0), .second, .val (.long q1), .second, .val (.int p2), .val (.long q3), .second, .val (.long q4), .second, .unset, .unset, .unset, .unset, .unset, .unset] [(.long (q0 / (1001 : Int64)))])) _
    refine XS.lstore X0.here hx rfl (hb hby at_5) rfl (l' := #[.val (.long q0), .second, .val (.long q1), .second, .val (.int p2), .val (.long q3), .second, .val (.long q4), .second, .val (.long (q0 / (1001 : Int64))), .second, .unset, .unset, .unset, .unset]) rfl ?_
    subst hx127
    exact k
  have pre129 : ∀ t, Steps p.tables e below (s₁.setTop (mkF m 19 #[.val (.long q0), .second, .val (.long q1), .second, .val (.int p2), .val (.long q3), .second, .val (.long q4), .second, .val (.long x127), .second, .unset, .unset, .unset, .unset] [(.int (lcmpW ((x127 * (1000 : Int64)) - q1) (-9223372036854775808 : Int64)))])) t → Steps p.tables e below (s₁.setTop (entryFrame m #[(.long q0), (.long q1), (.int p2), (.long q3), (.long q4)] maxLocals)) t := fun t k => by
    refine pre128 t ?_
    show Steps p.tables e below (s₁.setTop (mkF m 7 #[.val (.long q0), .second, .val (.long q1), .second, .val (.int p2), .val (.long q3), .second, .val (.long q4), .second, .val (.long x127), .second, .unset, .unset, .unset, .unset] [])) _
    refine XS.lload X0.here hx rfl (hb hby at_7) rfl ?_
    show Steps p.tables e below (s₁.setTop (mkF m 9 #[.val (.long q0), .second, .val (.long q1), .second, .val (.int p2), .val (.long q3), .second, .val (.long q4), .second, .val (.long x127), .second, .unset, .unset, .unset, .unset] [(.long x127)])) _
    refine X0.ldc2Long hx hown (mvT hZ (hw _ (List.mem_of_getElem? (i := 1) rfl))) (g := (mkF m 9 #[.val (.long q0), .second, .val (.long q1), .second, .val (.int p2), .val (.long q3), .second, .val (.long q4), .second, .val (.long x127), .second, .unset, .unset, .unset, .unset] [(.long x127)])) rfl (hb hby at_9) _ ?_
    show Steps p.tables e below (s₁.setTop (mkF m 12 #[.val (.long q0), .second, .val (.long q1), .second, .val (.int p2), .val (.long q3), .second, .val (.long q4), .second, .val (.long x127), .second, .unset, .unset, .unset, .unset] [(.long (1000 : Int64)), (.long x127)])) _
    refine XS.lmul X0.here hx rfl (hb hby at_12) rfl ?_
    show Steps p.tables e below (s₁.setTop (mkF m 13 #[.val (.long q0), .second, .val (.long q1), .second, .val (.int p2), .val (.long q3), .second, .val (.long q4), .second, .val (.long x127), .second, .unset, .unset, .unset, .unset] [(.long (x127 * (1000 : Int64)))])) _
    refine XS.lloadN X0.here hx rfl (hb hby at_13) rfl ?_
    show Steps p.tables e below (s₁.setTop (mkF m 14 #[.val (.long q0), .second, .val (.long q1), .second, .val (.int p2), .val (.long q3), .second, .val (.long q4), .second, .val (.long x127), .second, .unset, .unset, .unset, .unset] [(.long q1), (.long (x127 * (1000 : Int64)))])) _
    refine XS.lsub X0.here hx rfl (hb hby at_14) rfl ?_
    show Steps p.tables e below (s₁.setTop (mkF m 15 #[.val (.long q0), .second, .val (.long q1), .second, .val (.int p2), .val (.long q3), .second, .val (.long q4), .second, .val (.long x127), .second, .unset, .unset, .unset, .unset] [(.long ((x127 * (1000 : Int64)) - q1))])) _
    refine X0.ldc2Long hx hown (mvT hZ (hw _ (List.mem_of_getElem? (i := 2) rfl))) (g := (mkF m 15 #[.val (.long q0), .second, .val (.long q1), .second, .val (.int p2), .val (.long q3), .second, .val (.long q4), .second, .val (.long x127), .second, .unset, .unset, .unset, .unset] [(.long ((x127 * (1000 : Int64)) - q1))])) rfl (hb hby at_15) _ ?_
    show Steps p.tables e below (s₁.setTop (mkF m 18 #[.val (.long q0), .second, .val (.long q1), .second, .val (.int p2), .val (.long q3), .second, .val (.long q4), .second, .val (.long x127), .second, .unset, .unset, .unset, .unset] [(.long (-9223372036854775808 : Int64)), (.long ((x127 * (1000 : Int64)) - q1))])) _
    refine XS.lcmp X0.here hx rfl (hb hby at_18) rfl ?_
    exact k
  by_cases c130 : ((x127 * (1000 : Int64)) - q1) = (-9223372036854775808 : Int64)
  ·
    obtain ⟨fs, hr, hrun, hended, hW, hsame⟩ := X0.leave (v := some (.int (1 : Int32))) (fun h => by rw [Bd.returns] at h; cases h)
    refine ⟨_, _, pre129 _ ?_, hrun, hended, _, _, rfl, ?_, ⟨_, rfl⟩, hW, hsame.mono (by decide) (by decide)⟩
    ·
      show Steps p.tables e below (s₁.setTop (mkF m 19 #[.val (.long q0), .second, .val (.long q1), .second, .val (.int p2), .val (.long q3), .second, .val (.long q4), .second, .val (.long x127), .second, .unset, .unset, .unset, .unset] [(.int (lcmpW ((x127 * (1000 : Int64)) - q1) (-9223372036854775808 : Int64)))])) _
      refine XS.ifNo X0.here hx rfl (hb hby at_19) rfl ((if0 _ _).trans (teq ((lw_eq _ _).mpr c130)).2) ?_
      show Steps p.tables e below (s₁.setTop (mkF m 22 #[.val (.long q0), .second, .val (.long q1), .second, .val (.int p2), .val (.long q3), .second, .val (.long q4), .second, .val (.long x127), .second, .unset, .unset, .unset, .unset] [])) _
      refine XS.iconst X0.here hx rfl (hb hby at_22) ?_
      show Steps p.tables e below (s₁.setTop (mkF m 23 #[.val (.long q0), .second, .val (.long q1), .second, .val (.int p2), .val (.long q3), .second, .val (.long q4), .second, .val (.long x127), .second, .unset, .unset, .unset, .unset] [(.int (1 : Int32))])) _
      exact retZ X0 hx Bd.returns (by decide) (hb hby at_23) hr
    ·
      show Q_rm0 Z q0 q1 p2 q3 q4 h0 n0 _ s₁.heap _
      rw [e0]
      exact ⟨rfl, N0⟩
  ·
    obtain ⟨T131, h131, X131, e131, E131, A131, D131, -, st131⟩ := newO X0 hx hZ hown (hw _ (List.mem_of_getElem? (i := 3) rfl)) (hw _ (List.mem_of_getElem? (i := 4) rfl)) (hw _ (List.mem_of_getElem? (i := 5) rfl)) e0 (g := (mkF m 24 #[.val (.long q0), .second, .val (.long q1), .second, .val (.int p2), .val (.long q3), .second, .val (.long q4), .second, .val (.long x127), .second, .unset, .unset, .unset, .unset] [])) rfl (hb hby at_24) (by decide) (by decide)
    obtain ⟨b131, g131⟩ : ∃ z, z = h0.size := ⟨_, rfl⟩
    rw [← g131] at A131 D131 st131
    have gn132 : n0 ≤ b131 := Nat.le_trans Z0 (Nat.le_of_eq g131.symm)
    have Z133 : n0 ≤ h131.size := Nat.le_trans Z0 E131.1
    have f134 : Fld Z h131 b131 "com/example/windo/windo/store/ServerClock" "offsetNanos" "J" (.long (0 : Int64)) := D131 (Or.inl (hw _ (List.mem_of_getElem? (i := 14) rfl))) (ty := .long) (by decide)
    obtain ⟨_, _, ⟨T135, L135, k135, n135⟩, -, X135, ⟨Lc135, hQ135, l135, y135, z135⟩, st135⟩ := X131.specialBack hx (y := (⟨"com/example/windo/windo/store/ServerClock", "<init>", "()V"⟩ : MethodName)) rfl hown (mvT hZ (hw _ (List.mem_of_getElem? (i := 6) rfl))) (mvT hZ (hw _ (List.mem_of_getElem? (i := 7) rfl))) (mvT hZ (hw _ (List.mem_of_getElem? (i := 8) rfl))) (by decide) (backOf (W := 1) (rm1 l Z aw hw [] b131 h131 n0 Z133 A131 f134 gn132) hZ (hw _ (List.mem_of_getElem? (i := 8) rfl)) (hw _ (List.mem_of_getElem? (i := 5) rfl)) (by decide) (by decide)) (g := (mkF m 28 #[.val (.long q0), .second, .val (.long q1), .second, .val (.int p2), .val (.long q3), .second, .val (.long q4), .second, .val (.long x127), .second, .unset, .unset, .unset, .unset] [(.ref b131), (.ref b131)])) rfl (by rw [hml]; rfl) (Steps.refl _) (a := b131) (argsL := []) (rest := [(.ref b131)]) (lenOf pd_2 rfl) rfl (by show 2 * 0 + _ ≤ _; exact Nat.le_of_eq rfl) (hb hby at_28) (fun _ _ => ⟨rfl, e131, (by decide : 1 + 0 ≤ _), (by decide : 1 + 0 ≤ _)⟩)
    dsimp only [Pt.U, Pt.locs, Pt.cells, Pt.slots] at X135 l135 y135 z135 st135 hQ135
    subst l135 y135 z135
    obtain ⟨rfl, N135q, K135, f136, f137⟩ := hQ135
    have N135 := Fr.app N0 N135q
    have Z138 : n0 ≤ T135.heap.size := Nat.le_trans Z133 K135.1
    obtain ⟨cq139, kq139, q139a, q139b, q139c⟩ := isOf hZ rfl f136
    obtain ⟨_, _, ⟨T139, L139, k139, n139⟩, -, X139, ⟨Lc139, hQ139, l139, y139, z139⟩, st139⟩ := X135.virtualBack hx (y := (⟨"com/example/windo/windo/store/ServerClock", "serverMicros", "(J)J"⟩ : MethodName)) (z := (⟨"com/example/windo/windo/store/ServerClock", "serverMicros", "(J)J"⟩ : MethodName)) hown (mvT hZ (hw _ (List.mem_of_getElem? (i := 15) rfl))) (mvT hZ (hw _ (List.mem_of_getElem? (i := 16) rfl))) (notFace_of_selects (args := #[]) (mvT hZ (hw _ (List.mem_of_getElem? (i := 18) rfl)))) (mvT hZ (hw _ (List.mem_of_getElem? (i := 18) rfl))) (mvT hZ (hw _ (List.mem_of_getElem? (i := 17) rfl))) (by decide) (backOf (W := 0) (rm3 l Z aw hw [] b131 (q1 + (p2.toInt64)) (-9223372036854775808 : Int64) T135.heap n0 Z138 f137) hZ (hw _ (List.mem_of_getElem? (i := 19) rfl)) (hw _ (List.mem_of_getElem? (i := 5) rfl)) (by decide) (by decide)) q139a q139c (g := (mkF m 40 #[.val (.long q0), .second, .val (.long q1), .second, .val (.int p2), .val (.long q3), .second, .val (.long q4), .second, .val (.long x127), .second, .val (.ref b131), .unset, .unset, .unset] [(.long (q1 + (p2.toInt64))), (.ref b131)])) rfl (by rw [hml]; rfl) (Steps.refl _) (argsL := [(.long (q1 + (p2.toInt64)))]) (rest := []) (lenOf pd_3 rfl) rfl (by show 2 * 0 + _ ≤ _; exact Nat.le_of_eq rfl) (hb hby at_40) (fun _ _ => ⟨rfl, rfl, (by decide : 1 + 0 ≤ _), (by decide : 1 + 0 ≤ _)⟩)
    dsimp only [Pt.U, Pt.locs, Pt.cells, Pt.slots] at X139 l139 y139 z139 st139 hQ139
    subst l139 y139 z139
    obtain ⟨rfl, N139q, e139⟩ := hQ139
    have N139 := Fr.app N135 N139q
    obtain ⟨x140, hx140⟩ : ∃ z : Int64, z = (if (-9223372036854775808 : Int64) = (-9223372036854775808 : Int64) then (0 : Int64) else (f_fdi ((q1 + (p2.toInt64)) + (-9223372036854775808 : Int64)))) := ⟨_, rfl⟩
    have pre141 : ∀ t, Steps p.tables e below (T139.setTop (mkF m 43 #[.val (.long q0), .second, .val (.long q1), .second, .val (.int p2), .val (.long q3), .second, .val (.long q4), .second, .val (.long x127), .second, .val (.ref b131), .unset, .unset, .unset] [(.long x140)])) t → Steps p.tables e below (s₁.setTop (entryFrame m #[(.long q0), (.long q1), (.int p2), (.long q3), (.long q4)] maxLocals)) t := fun t k => by
      refine pre129 t ?_
      show Steps p.tables e below (s₁.setTop (mkF m 19 #[.val (.long q0), .second, .val (.long q1), .second, .val (.int p2), .val (.long q3), .second, .val (.long q4), .second, .val (.long x127), .second, .unset, .unset, .unset, .unset] [(.int (lcmpW ((x127 * (1000 : Int64)) - q1) (-9223372036854775808 : Int64)))])) _
      refine XS.ifYes X0.here hx rfl (pc0 := 19) (pc' := 24) rfl (hb hby at_19) rfl ((if0 _ _).trans (feq (fun q => c130 ((lw_eq _ _).mp q))).2) (by decide) (by decide) ?_
      show Steps p.tables e below (s₁.setTop (mkF m 24 #[.val (.long q0), .second, .val (.long q1), .second, .val (.int p2), .val (.long q3), .second, .val (.long q4), .second, .val (.long x127), .second, .unset, .unset, .unset, .unset] [])) _
      refine st131 _ ?_
      show Steps p.tables e below (T131.setTop (mkF m 27 #[.val (.long q0), .second, .val (.long q1), .second, .val (.int p2), .val (.long q3), .second, .val (.long q4), .second, .val (.long x127), .second, .unset, .unset, .unset, .unset] [(.ref b131)])) _
      refine XS.dup X131.here hx rfl (hb hby at_27) rfl rfl ?_
      show Steps p.tables e below (T131.setTop (mkF m 28 #[.val (.long q0), .second, .val (.long q1), .second, .val (.int p2), .val (.long q3), .second, .val (.long q4), .second, .val (.long x127), .second, .unset, .unset, .unset, .unset] [(.ref b131), (.ref b131)])) _
      refine st135.trans ?_
      show Steps p.tables e below (T135.setTop (mkF m 31 #[.val (.long q0), .second, .val (.long q1), .second, .val (.int p2), .val (.long q3), .second, .val (.long q4), .second, .val (.long x127), .second, .unset, .unset, .unset, .unset] [(.ref b131)])) _
      refine XS.astore X135.here hx rfl (hb hby at_31) rfl rfl (l' := #[.val (.long q0), .second, .val (.long q1), .second, .val (.int p2), .val (.long q3), .second, .val (.long q4), .second, .val (.long x127), .second, .val (.ref b131), .unset, .unset, .unset]) rfl ?_
      show Steps p.tables e below (T135.setTop (mkF m 33 #[.val (.long q0), .second, .val (.long q1), .second, .val (.int p2), .val (.long q3), .second, .val (.long q4), .second, .val (.long x127), .second, .val (.ref b131), .unset, .unset, .unset] [])) _
      refine XS.aload X135.here hx rfl (hb hby at_33) rfl rfl ?_
      show Steps p.tables e below (T135.setTop (mkF m 35 #[.val (.long q0), .second, .val (.long q1), .second, .val (.int p2), .val (.long q3), .second, .val (.long q4), .second, .val (.long x127), .second, .val (.ref b131), .unset, .unset, .unset] [(.ref b131)])) _
      refine XS.lloadN X135.here hx rfl (hb hby at_35) rfl ?_
      show Steps p.tables e below (T135.setTop (mkF m 36 #[.val (.long q0), .second, .val (.long q1), .second, .val (.int p2), .val (.long q3), .second, .val (.long q4), .second, .val (.long x127), .second, .val (.ref b131), .unset, .unset, .unset] [(.long q1), (.ref b131)])) _
      refine XS.iload X135.here hx rfl (hb hby at_36) rfl ?_
      show Steps p.tables e below (T135.setTop (mkF m 38 #[.val (.long q0), .second, .val (.long q1), .second, .val (.int p2), .val (.long q3), .second, .val (.long q4), .second, .val (.long x127), .second, .val (.ref b131), .unset, .unset, .unset] [(.int p2), (.long q1), (.ref b131)])) _
      refine XS.i2l X135.here hx rfl (hb hby at_38) rfl ?_
      show Steps p.tables e below (T135.setTop (mkF m 39 #[.val (.long q0), .second, .val (.long q1), .second, .val (.int p2), .val (.long q3), .second, .val (.long q4), .second, .val (.long x127), .second, .val (.ref b131), .unset, .unset, .unset] [(.long (p2.toInt64)), (.long q1), (.ref b131)])) _
      refine XS.ladd X135.here hx rfl (hb hby at_39) rfl ?_
      show Steps p.tables e below (T135.setTop (mkF m 40 #[.val (.long q0), .second, .val (.long q1), .second, .val (.int p2), .val (.long q3), .second, .val (.long q4), .second, .val (.long x127), .second, .val (.ref b131), .unset, .unset, .unset] [(.long (q1 + (p2.toInt64))), (.ref b131)])) _
      refine st139.trans ?_
      subst hx140
      exact k
    obtain rfl : x140 = (0 : Int64) := by
      rw [hx140]; exact if_pos rfl
    obtain ⟨cq142, kq142, q142a, q142b, q142c⟩ := isOf hZ e139 f136
    obtain ⟨_, _, ⟨T142, L142, k142, n142⟩, -, X142, ⟨Lc142, hQ142, l142, y142, z142⟩, st142⟩ := X139.virtualBack hx (y := (⟨"com/example/windo/windo/store/ServerClock", "observe", "(JJ)V"⟩ : MethodName)) (z := (⟨"com/example/windo/windo/store/ServerClock", "observe", "(JJ)V"⟩ : MethodName)) hown (mvT hZ (hw _ (List.mem_of_getElem? (i := 20) rfl))) (mvT hZ (hw _ (List.mem_of_getElem? (i := 21) rfl))) (notFace_of_selects (args := #[]) (mvT hZ (hw _ (List.mem_of_getElem? (i := 23) rfl)))) (mvT hZ (hw _ (List.mem_of_getElem? (i := 23) rfl))) (mvT hZ (hw _ (List.mem_of_getElem? (i := 22) rfl))) (by decide) (backOf (W := 0) (rm4 l Z aw hw [] b131 q3 q4 (-9223372036854775808 : Int64) T135.heap n0 Z138 f136 f137 gn132) hZ (hw _ (List.mem_of_getElem? (i := 24) rfl)) (hw _ (List.mem_of_getElem? (i := 5) rfl)) (by decide) (by decide)) q142a q142c (g := (mkF m 61 #[.val (.long q0), .second, .val (.long q1), .second, .val (.int p2), .val (.long q3), .second, .val (.long q4), .second, .val (.long x127), .second, .val (.ref b131), .val (.int (1 : Int32)), .unset, .unset] [(.long q4), (.long q3), (.ref b131)])) rfl (by rw [hml]; rfl) (Steps.refl _) (argsL := [(.long q3), (.long q4)]) (rest := []) (lenOf pd_4 rfl) rfl (by show 2 * 0 + _ ≤ _; exact Nat.le_of_eq rfl) (hb hby at_61) (fun _ _ => ⟨rfl, e139, (by decide : 1 + 0 ≤ _), (by decide : 1 + 0 ≤ _)⟩)
    dsimp only [Pt.U, Pt.locs, Pt.cells, Pt.slots] at X142 l142 y142 z142 st142 hQ142
    subst l142 y142 z142
    obtain ⟨rfl, N142q, K142, f143, f144⟩ := hQ142
    have N142 := Fr.app N139 N142q
    have Z145 : n0 ≤ T142.heap.size := Nat.le_trans Z138 K142.1
    obtain ⟨cq146, kq146, q146a, q146b, q146c⟩ := isOf hZ rfl f143
    obtain ⟨_, _, ⟨T146, L146, k146, n146⟩, -, X146, ⟨Lc146, hQ146, l146, y146, z146⟩, st146⟩ := X142.virtualBack hx (y := (⟨"com/example/windo/windo/store/ServerClock", "observe", "(JJ)V"⟩ : MethodName)) (z := (⟨"com/example/windo/windo/store/ServerClock", "observe", "(JJ)V"⟩ : MethodName)) hown (mvT hZ (hw _ (List.mem_of_getElem? (i := 20) rfl))) (mvT hZ (hw _ (List.mem_of_getElem? (i := 21) rfl))) (notFace_of_selects (args := #[]) (mvT hZ (hw _ (List.mem_of_getElem? (i := 23) rfl)))) (mvT hZ (hw _ (List.mem_of_getElem? (i := 23) rfl))) (mvT hZ (hw _ (List.mem_of_getElem? (i := 22) rfl))) (by decide) (backOf (W := 0) (rm4 l Z aw hw [] b131 x127 q1 (((q3 * (1000 : Int64)) - q4)) T142.heap n0 Z145 f143 f144 gn132) hZ (hw _ (List.mem_of_getElem? (i := 24) rfl)) (hw _ (List.mem_of_getElem? (i := 5) rfl)) (by decide) (by decide)) q146a q146c (g := (mkF m 69 #[.val (.long q0), .second, .val (.long q1), .second, .val (.int p2), .val (.long q3), .second, .val (.long q4), .second, .val (.long x127), .second, .val (.ref b131), .val (.int (1 : Int32)), .unset, .unset] [(.long q1), (.long x127), (.ref b131)])) rfl (by rw [hml]; rfl) (Steps.refl _) (argsL := [(.long x127), (.long q1)]) (rest := []) (lenOf pd_4 rfl) rfl (by show 2 * 0 + _ ≤ _; exact Nat.le_of_eq rfl) (hb hby at_69) (fun _ _ => ⟨rfl, rfl, (by decide : 1 + 0 ≤ _), (by decide : 1 + 0 ≤ _)⟩)
    dsimp only [Pt.U, Pt.locs, Pt.cells, Pt.slots] at X146 l146 y146 z146 st146 hQ146
    subst l146 y146 z146
    obtain ⟨rfl, N146q, K146, f147, f148⟩ := hQ146
    have N146 := Fr.app N142 N146q
    have Z149 : n0 ≤ T146.heap.size := Nat.le_trans Z145 K146.1
    obtain ⟨_, _, ⟨T150, L150, k150, n150⟩, -, X150, ⟨Lc150, hQ150, l150, y150, z150⟩, st150⟩ := Jvm.LawKit.callS X146 hx (y := (⟨"com/example/windo/windo/store/ServerClockObservePinLaw", "floorDiv1000", "(I)J"⟩ : MethodName)) hown (mvT hZ (hw _ (List.mem_of_getElem? (i := 26) rfl))) (mvT hZ (hw _ (List.mem_of_getElem? (i := 27) rfl))) (mvT hZ (hw _ (List.mem_of_getElem? (i := 28) rfl))) (mvT hZ (hw _ (List.mem_of_getElem? (i := 29) rfl))) (by decide) (backOf (W := 2) (rm5 l Z aw hw [] p2 T146.heap n0 Z149) hZ (hw _ (List.mem_of_getElem? (i := 29) rfl)) (hw _ (List.mem_of_getElem? (i := 28) rfl)) (by decide) (by decide)) (g := (mkF m 76 #[.val (.long q0), .second, .val (.long q1), .second, .val (.int p2), .val (.long q3), .second, .val (.long q4), .second, .val (.long x127), .second, .val (.ref b131), .val (.int (1 : Int32)), .unset, .unset] [(.int p2), (.long x127)])) rfl (by rw [hml]; rfl) (argsL := [(.int p2)]) (rest := [(.long x127)]) (lenOf pd_5 rfl) rfl (by show 2 * 0 + _ ≤ _; exact Nat.le_of_eq rfl) (hb hby at_76) (fun _ _ => ⟨rfl, rfl, (by decide : 1 + 0 ≤ _), (by decide : 1 + 0 ≤ _)⟩)
    dsimp only [Pt.U, Pt.locs, Pt.cells, Pt.slots] at X150 l150 y150 z150 st150 hQ150
    subst l150 y150 z150
    obtain ⟨rfl, N150q, e150⟩ := hQ150
    have N150 := Fr.app N146 N150q
    obtain ⟨x151, hx151⟩ : ∃ z : Int64, z = (x127 + (f_k p2)) := ⟨_, rfl⟩
    have pre152 : ∀ t, Steps p.tables e below (T150.setTop (mkF m 82 #[.val (.long q0), .second, .val (.long q1), .second, .val (.int p2), .val (.long q3), .second, .val (.long q4), .second, .val (.long x127), .second, .val (.ref b131), .val (.int (1 : Int32)), .val (.long x151), .second] [])) t → Steps p.tables e below (s₁.setTop (entryFrame m #[(.long q0), (.long q1), (.int p2), (.long q3), (.long q4)] maxLocals)) t := fun t k => by
      refine pre141 t ?_
      show Steps p.tables e below (T139.setTop (mkF m 43 #[.val (.long q0), .second, .val (.long q1), .second, .val (.int p2), .val (.long q3), .second, .val (.long q4), .second, .val (.long x127), .second, .val (.ref b131), .unset, .unset, .unset] [(.long (0 : Int64))])) _
      refine XS.lconst X139.here hx rfl (hb hby at_43) ?_
      show Steps p.tables e below (T139.setTop (mkF m 44 #[.val (.long q0), .second, .val (.long q1), .second, .val (.int p2), .val (.long q3), .second, .val (.long q4), .second, .val (.long x127), .second, .val (.ref b131), .unset, .unset, .unset] [(.long (0 : Int64)), (.long (0 : Int64))])) _
      refine XS.lcmp X139.here hx rfl (hb hby at_44) rfl ?_
      show Steps p.tables e below (T139.setTop (mkF m 45 #[.val (.long q0), .second, .val (.long q1), .second, .val (.int p2), .val (.long q3), .second, .val (.long q4), .second, .val (.long x127), .second, .val (.ref b131), .unset, .unset, .unset] [(.int (lcmpW (0 : Int64) (0 : Int64)))])) _
      refine XS.ifNo X139.here hx rfl (hb hby at_45) rfl ((if0 _ _).trans (teq ((lw_eq _ _).mpr rfl)).2) ?_
      show Steps p.tables e below (T139.setTop (mkF m 48 #[.val (.long q0), .second, .val (.long q1), .second, .val (.int p2), .val (.long q3), .second, .val (.long q4), .second, .val (.long x127), .second, .val (.ref b131), .unset, .unset, .unset] [])) _
      refine XS.iconst X139.here hx rfl (hb hby at_48) ?_
      show Steps p.tables e below (T139.setTop (mkF m 49 #[.val (.long q0), .second, .val (.long q1), .second, .val (.int p2), .val (.long q3), .second, .val (.long q4), .second, .val (.long x127), .second, .val (.ref b131), .unset, .unset, .unset] [(.int (1 : Int32))])) _
      refine XS.goto X139.here hx rfl (pc0 := 49) (pc' := 53) rfl (hb hby at_49) (by decide) (by decide) ?_
      show Steps p.tables e below (T139.setTop (mkF m 53 #[.val (.long q0), .second, .val (.long q1), .second, .val (.int p2), .val (.long q3), .second, .val (.long q4), .second, .val (.long x127), .second, .val (.ref b131), .unset, .unset, .unset] [(.int (1 : Int32))])) _
      refine XS.istore X139.here hx rfl (hb hby at_53) rfl (l' := #[.val (.long q0), .second, .val (.long q1), .second, .val (.int p2), .val (.long q3), .second, .val (.long q4), .second, .val (.long x127), .second, .val (.ref b131), .val (.int (1 : Int32)), .unset, .unset]) rfl ?_
      show Steps p.tables e below (T139.setTop (mkF m 55 #[.val (.long q0), .second, .val (.long q1), .second, .val (.int p2), .val (.long q3), .second, .val (.long q4), .second, .val (.long x127), .second, .val (.ref b131), .val (.int (1 : Int32)), .unset, .unset] [])) _
      refine XS.aload X139.here hx rfl (hb hby at_55) rfl rfl ?_
      show Steps p.tables e below (T139.setTop (mkF m 57 #[.val (.long q0), .second, .val (.long q1), .second, .val (.int p2), .val (.long q3), .second, .val (.long q4), .second, .val (.long x127), .second, .val (.ref b131), .val (.int (1 : Int32)), .unset, .unset] [(.ref b131)])) _
      refine XS.lload X139.here hx rfl (hb hby at_57) rfl ?_
      show Steps p.tables e below (T139.setTop (mkF m 59 #[.val (.long q0), .second, .val (.long q1), .second, .val (.int p2), .val (.long q3), .second, .val (.long q4), .second, .val (.long x127), .second, .val (.ref b131), .val (.int (1 : Int32)), .unset, .unset] [(.long q3), (.ref b131)])) _
      refine XS.lload X139.here hx rfl (hb hby at_59) rfl ?_
      show Steps p.tables e below (T139.setTop (mkF m 61 #[.val (.long q0), .second, .val (.long q1), .second, .val (.int p2), .val (.long q3), .second, .val (.long q4), .second, .val (.long x127), .second, .val (.ref b131), .val (.int (1 : Int32)), .unset, .unset] [(.long q4), (.long q3), (.ref b131)])) _
      refine st142.trans ?_
      show Steps p.tables e below (T142.setTop (mkF m 64 #[.val (.long q0), .second, .val (.long q1), .second, .val (.int p2), .val (.long q3), .second, .val (.long q4), .second, .val (.long x127), .second, .val (.ref b131), .val (.int (1 : Int32)), .unset, .unset] [])) _
      refine XS.aload X142.here hx rfl (hb hby at_64) rfl rfl ?_
      show Steps p.tables e below (T142.setTop (mkF m 66 #[.val (.long q0), .second, .val (.long q1), .second, .val (.int p2), .val (.long q3), .second, .val (.long q4), .second, .val (.long x127), .second, .val (.ref b131), .val (.int (1 : Int32)), .unset, .unset] [(.ref b131)])) _
      refine XS.lload X142.here hx rfl (hb hby at_66) rfl ?_
      show Steps p.tables e below (T142.setTop (mkF m 68 #[.val (.long q0), .second, .val (.long q1), .second, .val (.int p2), .val (.long q3), .second, .val (.long q4), .second, .val (.long x127), .second, .val (.ref b131), .val (.int (1 : Int32)), .unset, .unset] [(.long x127), (.ref b131)])) _
      refine XS.lloadN X142.here hx rfl (hb hby at_68) rfl ?_
      show Steps p.tables e below (T142.setTop (mkF m 69 #[.val (.long q0), .second, .val (.long q1), .second, .val (.int p2), .val (.long q3), .second, .val (.long q4), .second, .val (.long x127), .second, .val (.ref b131), .val (.int (1 : Int32)), .unset, .unset] [(.long q1), (.long x127), (.ref b131)])) _
      refine st146.trans ?_
      show Steps p.tables e below (T146.setTop (mkF m 72 #[.val (.long q0), .second, .val (.long q1), .second, .val (.int p2), .val (.long q3), .second, .val (.long q4), .second, .val (.long x127), .second, .val (.ref b131), .val (.int (1 : Int32)), .unset, .unset] [])) _
      refine XS.lload X146.here hx rfl (hb hby at_72) rfl ?_
      show Steps p.tables e below (T146.setTop (mkF m 74 #[.val (.long q0), .second, .val (.long q1), .second, .val (.int p2), .val (.long q3), .second, .val (.long q4), .second, .val (.long x127), .second, .val (.ref b131), .val (.int (1 : Int32)), .unset, .unset] [(.long x127)])) _
      refine XS.iload X146.here hx rfl (hb hby at_74) rfl ?_
      show Steps p.tables e below (T146.setTop (mkF m 76 #[.val (.long q0), .second, .val (.long q1), .second, .val (.int p2), .val (.long q3), .second, .val (.long q4), .second, .val (.long x127), .second, .val (.ref b131), .val (.int (1 : Int32)), .unset, .unset] [(.int p2), (.long x127)])) _
      refine st150 _ ?_
      show Steps p.tables e below (T150.setTop (mkF m 79 #[.val (.long q0), .second, .val (.long q1), .second, .val (.int p2), .val (.long q3), .second, .val (.long q4), .second, .val (.long x127), .second, .val (.ref b131), .val (.int (1 : Int32)), .unset, .unset] [(.long (f_k p2)), (.long x127)])) _
      refine XS.ladd X150.here hx rfl (hb hby at_79) rfl ?_
      show Steps p.tables e below (T150.setTop (mkF m 80 #[.val (.long q0), .second, .val (.long q1), .second, .val (.int p2), .val (.long q3), .second, .val (.long q4), .second, .val (.long x127), .second, .val (.ref b131), .val (.int (1 : Int32)), .unset, .unset] [(.long (x127 + (f_k p2)))])) _
      refine XS.lstore X150.here hx rfl (hb hby at_80) rfl (l' := #[.val (.long q0), .second, .val (.long q1), .second, .val (.int p2), .val (.long q3), .second, .val (.long q4), .second, .val (.long x127), .second, .val (.ref b131), .val (.int (1 : Int32)), .val (.long (x127 + (f_k p2))), .second]) rfl ?_
      subst hx151
      exact k
    obtain ⟨cq153, kq153, q153a, q153b, q153c⟩ := isOf hZ e150 f147
    obtain ⟨_, _, ⟨T153, L153, k153, n153⟩, -, X153, ⟨Lc153, hQ153, l153, y153, z153⟩, st153⟩ := X150.virtualBack hx (y := (⟨"com/example/windo/windo/store/ServerClock", "serverMicros", "(J)J"⟩ : MethodName)) (z := (⟨"com/example/windo/windo/store/ServerClock", "serverMicros", "(J)J"⟩ : MethodName)) hown (mvT hZ (hw _ (List.mem_of_getElem? (i := 15) rfl))) (mvT hZ (hw _ (List.mem_of_getElem? (i := 16) rfl))) (notFace_of_selects (args := #[]) (mvT hZ (hw _ (List.mem_of_getElem? (i := 18) rfl)))) (mvT hZ (hw _ (List.mem_of_getElem? (i := 18) rfl))) (mvT hZ (hw _ (List.mem_of_getElem? (i := 17) rfl))) (by decide) (backOf (W := 0) (rm3 l Z aw hw [] b131 (q1 + (p2.toInt64)) (((x127 * (1000 : Int64)) - q1)) T146.heap n0 Z149 f148) hZ (hw _ (List.mem_of_getElem? (i := 19) rfl)) (hw _ (List.mem_of_getElem? (i := 5) rfl)) (by decide) (by decide)) q153a q153c (g := (mkF m 94 #[.val (.long q0), .second, .val (.long q1), .second, .val (.int p2), .val (.long q3), .second, .val (.long q4), .second, .val (.long x127), .second, .val (.ref b131), .val (.int (1 : Int32)), .val (.long x151), .second] [(.long (q1 + (p2.toInt64))), (.ref b131)])) rfl (by rw [hml]; rfl) (Steps.refl _) (argsL := [(.long (q1 + (p2.toInt64)))]) (rest := []) (lenOf pd_3 rfl) rfl (by show 2 * 0 + _ ≤ _; exact Nat.le_of_eq rfl) (hb hby at_94) (fun _ _ => ⟨rfl, e150, (by decide : 1 + 0 ≤ _), (by decide : 1 + 0 ≤ _)⟩)
    dsimp only [Pt.U, Pt.locs, Pt.cells, Pt.slots] at X153 l153 y153 z153 st153 hQ153
    subst l153 y153 z153
    obtain ⟨rfl, N153q, e153⟩ := hQ153
    have N153 := Fr.app N150 N153q
    have c154 : (if ((x127 * (1000 : Int64)) - q1) = (-9223372036854775808 : Int64) then (0 : Int64) else (f_fdi ((q1 + (p2.toInt64)) + ((x127 * (1000 : Int64)) - q1)))) = x151 := by
      exact own_a hx127 c130 hx151
    obtain ⟨cq155, kq155, q155a, q155b, q155c⟩ := isOf hZ e153 f147
    obtain ⟨_, _, ⟨T155, L155, k155, n155⟩, -, X155, ⟨Lc155, hQ155, l155, y155, z155⟩, st155⟩ := X153.virtualBack hx (y := (⟨"com/example/windo/windo/store/ServerClock", "serverMicros", "(J)J"⟩ : MethodName)) (z := (⟨"com/example/windo/windo/store/ServerClock", "serverMicros", "(J)J"⟩ : MethodName)) hown (mvT hZ (hw _ (List.mem_of_getElem? (i := 15) rfl))) (mvT hZ (hw _ (List.mem_of_getElem? (i := 16) rfl))) (notFace_of_selects (args := #[]) (mvT hZ (hw _ (List.mem_of_getElem? (i := 18) rfl)))) (mvT hZ (hw _ (List.mem_of_getElem? (i := 18) rfl))) (mvT hZ (hw _ (List.mem_of_getElem? (i := 17) rfl))) (by decide) (backOf (W := 0) (rm3 l Z aw hw [] b131 q1 (((x127 * (1000 : Int64)) - q1)) T146.heap n0 Z149 f148) hZ (hw _ (List.mem_of_getElem? (i := 19) rfl)) (hw _ (List.mem_of_getElem? (i := 5) rfl)) (by decide) (by decide)) q155a q155c (g := (mkF m 106 #[.val (.long q0), .second, .val (.long q1), .second, .val (.int p2), .val (.long q3), .second, .val (.long q4), .second, .val (.long x127), .second, .val (.ref b131), .val (.int (1 : Int32)), .val (.long x151), .second] [(.long q1), (.ref b131)])) rfl (by rw [hml]; rfl) (Steps.refl _) (argsL := [(.long q1)]) (rest := []) (lenOf pd_3 rfl) rfl (by show 2 * 0 + _ ≤ _; exact Nat.le_of_eq rfl) (hb hby at_106) (fun _ _ => ⟨rfl, e153, (by decide : 1 + 0 ≤ _), (by decide : 1 + 0 ≤ _)⟩)
    dsimp only [Pt.U, Pt.locs, Pt.cells, Pt.slots] at X155 l155 y155 z155 st155 hQ155
    subst l155 y155 z155
    obtain ⟨rfl, N155q, e155⟩ := hQ155
    have N155 := Fr.app N153 N155q
    have c156 : (if ((x127 * (1000 : Int64)) - q1) = (-9223372036854775808 : Int64) then (0 : Int64) else (f_fdi (q1 + ((x127 * (1000 : Int64)) - q1)))) = x127 := by
      exact own_b hx127 c130
    obtain ⟨fs, hr, hrun, hended, hW, hsame⟩ := X155.leave (v := some (.int (1 : Int32))) (fun h => by rw [Bd.returns] at h; cases h)
    refine ⟨_, _, pre152 _ ?_, hrun, hended, _, _, rfl, ?_, ⟨_, rfl⟩, hW, hsame.mono (by decide) (by decide)⟩
    ·
      show Steps p.tables e below (T150.setTop (mkF m 82 #[.val (.long q0), .second, .val (.long q1), .second, .val (.int p2), .val (.long q3), .second, .val (.long q4), .second, .val (.long x127), .second, .val (.ref b131), .val (.int (1 : Int32)), .val (.long x151), .second] [])) _
      refine XS.iload X150.here hx rfl (hb hby at_82) rfl ?_
      show Steps p.tables e below (T150.setTop (mkF m 84 #[.val (.long q0), .second, .val (.long q1), .second, .val (.int p2), .val (.long q3), .second, .val (.long q4), .second, .val (.long x127), .second, .val (.ref b131), .val (.int (1 : Int32)), .val (.long x151), .second] [(.int (1 : Int32))])) _
      refine XS.ifNo X150.here hx rfl (hb hby at_84) rfl ((if0 _ _).trans (feq (by decide)).1) ?_
      show Steps p.tables e below (T150.setTop (mkF m 87 #[.val (.long q0), .second, .val (.long q1), .second, .val (.int p2), .val (.long q3), .second, .val (.long q4), .second, .val (.long x127), .second, .val (.ref b131), .val (.int (1 : Int32)), .val (.long x151), .second] [])) _
      refine XS.aload X150.here hx rfl (hb hby at_87) rfl rfl ?_
      show Steps p.tables e below (T150.setTop (mkF m 89 #[.val (.long q0), .second, .val (.long q1), .second, .val (.int p2), .val (.long q3), .second, .val (.long q4), .second, .val (.long x127), .second, .val (.ref b131), .val (.int (1 : Int32)), .val (.long x151), .second] [(.ref b131)])) _
      refine XS.lloadN X150.here hx rfl (hb hby at_89) rfl ?_
      show Steps p.tables e below (T150.setTop (mkF m 90 #[.val (.long q0), .second, .val (.long q1), .second, .val (.int p2), .val (.long q3), .second, .val (.long q4), .second, .val (.long x127), .second, .val (.ref b131), .val (.int (1 : Int32)), .val (.long x151), .second] [(.long q1), (.ref b131)])) _
      refine XS.iload X150.here hx rfl (hb hby at_90) rfl ?_
      show Steps p.tables e below (T150.setTop (mkF m 92 #[.val (.long q0), .second, .val (.long q1), .second, .val (.int p2), .val (.long q3), .second, .val (.long q4), .second, .val (.long x127), .second, .val (.ref b131), .val (.int (1 : Int32)), .val (.long x151), .second] [(.int p2), (.long q1), (.ref b131)])) _
      refine XS.i2l X150.here hx rfl (hb hby at_92) rfl ?_
      show Steps p.tables e below (T150.setTop (mkF m 93 #[.val (.long q0), .second, .val (.long q1), .second, .val (.int p2), .val (.long q3), .second, .val (.long q4), .second, .val (.long x127), .second, .val (.ref b131), .val (.int (1 : Int32)), .val (.long x151), .second] [(.long (p2.toInt64)), (.long q1), (.ref b131)])) _
      refine XS.ladd X150.here hx rfl (hb hby at_93) rfl ?_
      show Steps p.tables e below (T150.setTop (mkF m 94 #[.val (.long q0), .second, .val (.long q1), .second, .val (.int p2), .val (.long q3), .second, .val (.long q4), .second, .val (.long x127), .second, .val (.ref b131), .val (.int (1 : Int32)), .val (.long x151), .second] [(.long (q1 + (p2.toInt64))), (.ref b131)])) _
      refine st153.trans ?_
      show Steps p.tables e below (T153.setTop (mkF m 97 #[.val (.long q0), .second, .val (.long q1), .second, .val (.int p2), .val (.long q3), .second, .val (.long q4), .second, .val (.long x127), .second, .val (.ref b131), .val (.int (1 : Int32)), .val (.long x151), .second] [(.long (if ((x127 * (1000 : Int64)) - q1) = (-9223372036854775808 : Int64) then (0 : Int64) else (f_fdi ((q1 + (p2.toInt64)) + ((x127 * (1000 : Int64)) - q1)))))])) _
      refine XS.lload X153.here hx rfl (hb hby at_97) rfl ?_
      show Steps p.tables e below (T153.setTop (mkF m 99 #[.val (.long q0), .second, .val (.long q1), .second, .val (.int p2), .val (.long q3), .second, .val (.long q4), .second, .val (.long x127), .second, .val (.ref b131), .val (.int (1 : Int32)), .val (.long x151), .second] [(.long x151), (.long (if ((x127 * (1000 : Int64)) - q1) = (-9223372036854775808 : Int64) then (0 : Int64) else (f_fdi ((q1 + (p2.toInt64)) + ((x127 * (1000 : Int64)) - q1)))))])) _
      refine XS.lcmp X153.here hx rfl (hb hby at_99) rfl ?_
      show Steps p.tables e below (T153.setTop (mkF m 100 #[.val (.long q0), .second, .val (.long q1), .second, .val (.int p2), .val (.long q3), .second, .val (.long q4), .second, .val (.long x127), .second, .val (.ref b131), .val (.int (1 : Int32)), .val (.long x151), .second] [(.int (lcmpW (if ((x127 * (1000 : Int64)) - q1) = (-9223372036854775808 : Int64) then (0 : Int64) else (f_fdi ((q1 + (p2.toInt64)) + ((x127 * (1000 : Int64)) - q1)))) x151))])) _
      refine XS.ifNo X153.here hx rfl (hb hby at_100) rfl ((if0 _ _).trans (teq ((lw_eq _ _).mpr c154)).2) ?_
      show Steps p.tables e below (T153.setTop (mkF m 103 #[.val (.long q0), .second, .val (.long q1), .second, .val (.int p2), .val (.long q3), .second, .val (.long q4), .second, .val (.long x127), .second, .val (.ref b131), .val (.int (1 : Int32)), .val (.long x151), .second] [])) _
      refine XS.aload X153.here hx rfl (hb hby at_103) rfl rfl ?_
      show Steps p.tables e below (T153.setTop (mkF m 105 #[.val (.long q0), .second, .val (.long q1), .second, .val (.int p2), .val (.long q3), .second, .val (.long q4), .second, .val (.long x127), .second, .val (.ref b131), .val (.int (1 : Int32)), .val (.long x151), .second] [(.ref b131)])) _
      refine XS.lloadN X153.here hx rfl (hb hby at_105) rfl ?_
      show Steps p.tables e below (T153.setTop (mkF m 106 #[.val (.long q0), .second, .val (.long q1), .second, .val (.int p2), .val (.long q3), .second, .val (.long q4), .second, .val (.long x127), .second, .val (.ref b131), .val (.int (1 : Int32)), .val (.long x151), .second] [(.long q1), (.ref b131)])) _
      refine st155.trans ?_
      show Steps p.tables e below (T155.setTop (mkF m 109 #[.val (.long q0), .second, .val (.long q1), .second, .val (.int p2), .val (.long q3), .second, .val (.long q4), .second, .val (.long x127), .second, .val (.ref b131), .val (.int (1 : Int32)), .val (.long x151), .second] [(.long (if ((x127 * (1000 : Int64)) - q1) = (-9223372036854775808 : Int64) then (0 : Int64) else (f_fdi (q1 + ((x127 * (1000 : Int64)) - q1)))))])) _
      refine XS.lload X155.here hx rfl (hb hby at_109) rfl ?_
      show Steps p.tables e below (T155.setTop (mkF m 111 #[.val (.long q0), .second, .val (.long q1), .second, .val (.int p2), .val (.long q3), .second, .val (.long q4), .second, .val (.long x127), .second, .val (.ref b131), .val (.int (1 : Int32)), .val (.long x151), .second] [(.long x127), (.long (if ((x127 * (1000 : Int64)) - q1) = (-9223372036854775808 : Int64) then (0 : Int64) else (f_fdi (q1 + ((x127 * (1000 : Int64)) - q1)))))])) _
      refine XS.lcmp X155.here hx rfl (hb hby at_111) rfl ?_
      show Steps p.tables e below (T155.setTop (mkF m 112 #[.val (.long q0), .second, .val (.long q1), .second, .val (.int p2), .val (.long q3), .second, .val (.long q4), .second, .val (.long x127), .second, .val (.ref b131), .val (.int (1 : Int32)), .val (.long x151), .second] [(.int (lcmpW (if ((x127 * (1000 : Int64)) - q1) = (-9223372036854775808 : Int64) then (0 : Int64) else (f_fdi (q1 + ((x127 * (1000 : Int64)) - q1)))) x127))])) _
      refine XS.ifNo X155.here hx rfl (hb hby at_112) rfl ((if0 _ _).trans (teq ((lw_eq _ _).mpr c156)).2) ?_
      show Steps p.tables e below (T155.setTop (mkF m 115 #[.val (.long q0), .second, .val (.long q1), .second, .val (.int p2), .val (.long q3), .second, .val (.long q4), .second, .val (.long x127), .second, .val (.ref b131), .val (.int (1 : Int32)), .val (.long x151), .second] [])) _
      refine XS.iconst X155.here hx rfl (hb hby at_115) ?_
      show Steps p.tables e below (T155.setTop (mkF m 116 #[.val (.long q0), .second, .val (.long q1), .second, .val (.int p2), .val (.long q3), .second, .val (.long q4), .second, .val (.long x127), .second, .val (.ref b131), .val (.int (1 : Int32)), .val (.long x151), .second] [(.int (1 : Int32))])) _
      refine XS.goto X155.here hx rfl (pc0 := 116) (pc' := 120) rfl (hb hby at_116) (by decide) (by decide) ?_
      show Steps p.tables e below (T155.setTop (mkF m 120 #[.val (.long q0), .second, .val (.long q1), .second, .val (.int p2), .val (.long q3), .second, .val (.long q4), .second, .val (.long x127), .second, .val (.ref b131), .val (.int (1 : Int32)), .val (.long x151), .second] [(.int (1 : Int32))])) _
      exact retZ X155 hx Bd.returns (by decide) (hb hby at_120) hr
    ·
      show Q_rm0 Z q0 q1 p2 q3 q4 h0 n0 _ T155.heap _
      rw [e155]
      exact ⟨rfl, N155⟩
set_option maxRecDepth 65536 in
set_option maxHeartbeats 40000000 in
theorem comes_1 {Post : Tables → Env → Array Value → State → Outcome → State → Prop} (hpost : ∀ tb e args s v u, (limb_1_1.after args s (.returned v) u = true ∧ limb_1_2.after args s (.returned v) u = true ∧ True) → FrameEnd s (.returned v) u (Jvm.fieldLocs frame_1_writes args s ++ Jvm.arrayLocs frame_1_arrays args s ++ Jvm.staticLocs frame_1_statics s) 16 128 → Post tb e args s (.returned v) u) :
    ArmFor flags0 classFile x code maxLocals ret World_1 tables_1 room_1 Calls_1 rest_1 Pre_1 Post := by
  intro l hfl _ _ p e ha hc hk s m args below hf hA hF happ hP
  obtain ⟨hcalls, hrest, hpre⟩ := hP
  obtain ⟨-, -, -, hnamed, -, -, -, hat⟩ := (Spec.applies_iff hf).mp happ
  obtain ⟨hg, hn⟩ := and_e (Cond.before_iff.mp (show (Jvm.Cond.and given_1 narrow_1).before args s = true from hpre))
  obtain ⟨g157, g158⟩ := and_e hg
  obtain ⟨g159, g160⟩ := and_e g158
  obtain ⟨g161, g162⟩ := and_e g160
  obtain ⟨g163, g164⟩ := and_e g162
  obtain ⟨g165, g166⟩ := and_e g164
  obtain ⟨w0, w1, w2, w3, w4, rfl⟩ : ∃ w0 w1 w2 w3 w4 : Value, args = #[w0, w1, w2, w3, w4] := by
    have hs : args.size = 5 := by simpa [Cond.value, given_1] using g157
    obtain ⟨L⟩ := args
    match L, hs with
    | [w0, w1, w2, w3, w4], _ => exact ⟨w0, w1, w2, w3, w4, rfl⟩
  have hw := fun d (hd : d ∈ tables_1) => atoms_spec (ws := Jvm.Cond.code x code maxLocals ret :: tables_1) hat d (List.mem_cons_of_mem _ hd)
  have hfit : Fit s := fun {y c} hc i hi => by
    obtain ⟨ha, rfl⟩ := Array.getElem?_eq_some_iff.mp hc
    have q := List.all_eq_true.mp ((Array.all_eq_true_iff_forall_mem.mp hF) _ (Array.getElem_mem ha)) i (List.mem_range.mpr hi)
    simpa [Array.getElem?_eq_getElem hi] using q
  obtain ⟨i0, ei0⟩ := isL_v g159
  obtain rfl : w0 = (.long i0) := Option.some.inj ei0
  obtain ⟨i1, ei1⟩ := isL_v g161
  obtain rfl : w1 = (.long i1) := Option.some.inj ei1
  obtain ⟨i2, ei2⟩ := is_v g163
  obtain rfl : w2 = (.int i2) := Option.some.inj ei2
  obtain ⟨i3, ei3⟩ := isL_v g165
  obtain rfl : w3 = (.long i3) := Option.some.inj ei3
  obtain ⟨i4, ei4⟩ := isL_v g166
  obtain rfl : w4 = (.long i4) := Option.some.inj ei4
  obtain ⟨n, o, h1, h2, h3, _, L, rfl, ⟨rfl, N⟩, hq⟩ := rm0 l s _ hw tables_1 i0 i1 i2 i3 i4 s.heap s.heap.size (Nat.le_refl _) p e ha hc hk s m _ below hf ((Spec.applies_iff_loose hf).mp happ).1 ⟨rfl, State.Warmed39.refl s, rfl⟩ trivial
  refine ⟨n, _, h1, h2, h3, hpost _ _ _ _ _ _ ⟨Cond.after_iff.mpr rfl, Cond.after_iff.mpr (eq_i res_at (Term.int_eval (1)) rfl), trivial⟩ ⟨hq.1, hq.2.1, (hq.2.2.sift fun y hy => Or.inr (N y hy)).mono (by decide) (by decide)⟩⟩
theorem main_1_1 : Claimed_1_1 := comes_1 fun _ _ _ _ _ _ h hF => ⟨h.1, hF⟩
theorem main_1_2 : Claimed_1_2 := comes_1 fun _ _ _ _ _ _ h hF => ⟨h.2.1, hF⟩
end Jvm.Pilot.@@N@@
namespace Jvm.Pilot.@@N@@
open Jvm Jvm.ClassFile Sem Op Lib Jvm.Free Jvm.Stand Jvm.Pilot.@@N@@.Jvm.D
/-! MADE BY PROGRAM (witnessworld.py) out of the Statement's table words and the real class files: 10 classes; the members and pool entries that the words name. The judged class is class 1, her method 1. -/
namespace start1
open Jvm.ClassFile
def u (s : String) : CpInfo := .utf8 (stringToUtf16 s)
/-- a pool by its gaps: so many unusable entries, then the entry; so many at the end -/
def gap : Nat → List CpInfo → List CpInfo
  | 0, r => r
  | n + 1, r => .unusable :: gap n r
def poolList (es : List (Nat × CpInfo)) (last : Nat) : List CpInfo := es.foldr (fun e r => gap e.1 (e.2 :: r)) (gap last [])
def pool (es : List (Nat × CpInfo)) (last : Nat) : Array CpInfo := ⟨poolList es last⟩
def fileOf (pool : Array CpInfo) (this : Nat) (attrs : Array Attribute := #[]) (ms : Array MethodInfo := #[]) (fl : Nat := 33) (sup : Nat := 0) (ifs : Array Nat := #[]) (fds : Array FieldInfo := #[]) : ClassFile where
  minorVersion := 0
  majorVersion := 65
  constantPool := pool
  accessFlags := fl
  thisClass := this
  superClass := sup
  interfaces := ifs
  fields := fds
  methods := ms
  attributes := attrs
def plain (name : String) (sup : Option ClassId) : Class where
  name := name
  kind := .ordinary
  loader := none
  accessFlags := 33
  super := sup
  interfaces := #[]
  cf := none
  fields := #[]
  methods := #[]
  instanceTypes := #[]
  staticTypes := #[]
  resolved := #[]
  callSites := []
  init := .initialized
  statics := none
  mirror := none

def pool0 : Array CpInfo := pool [(5, u "<init>"), (0, u "()V"), (1, .class_ 10), (1, u "java/lang/Object")] 113

def k0c0 : Code := { maxStack := 0, maxLocals := 1, code := object_method_1_code, exceptionTable := #[], attributes := #[] }
def k0m0 : Method := { name := "<init>", desc := "()V", sig := { parameters := [], returnType := none }, accessFlags := 1, code := some k0c0 }
/-- java/lang/Object -/
def k0 : Class := { plain "java/lang/Object" none with
  accessFlags := 33
  interfaces := #[]
  cf := some (fileOf pool0 8 #[] #[{ accessFlags := 1, nameIndex := 5, descriptorIndex := 6, attributes := #[] }] 33 0 #[] #[])
  fields := #[]
  methods := #[k0m0]
  instanceTypes := #[]
  staticTypes := #[]
  resolved := Array.replicate 124 none
  statics := none }

def pool1 : Array CpInfo := pool [(2, .class_ 4), (0, .nameAndType 5 6), (0, u "java/lang/Object"), (0, u "<init>"), (0, u "()V"), (0, .long 1001), (1, .long 1000), (3, .long 9223372036854775808), (1, .class_ 16), (0, u "com/example/windo/windo/store/ServerClock"), (0, .methodref 15 3), (0, .methodref 15 19), (0, .nameAndType 20 21), (0, u "serverMicros"), (0, u "(J)J"), (0, .methodref 15 23), (0, .nameAndType 24 25), (0, u "observe"), (0, u "(JJ)V"), (0, .methodref 27 28), (0, .class_ 29), (0, .nameAndType 30 31), (0, u "com/example/windo/windo/store/ServerClockObservePinLaw"), (0, u "floorDiv1000"), (0, u "(I)J"), (2, u "law"), (0, u "(JJIJJ)Z")] 3

def k1m0 : Method := { name := "<init>", desc := "()V", sig := { parameters := [], returnType := none }, accessFlags := 1, code := none }
def k1c1 : Code := { maxStack := 5, maxLocals := 15, code := code, exceptionTable := #[], attributes := #[] }
def k1m1 : Method := { name := "law", desc := "(JJIJJ)Z", sig := { parameters := [.long, .long, .int, .long, .long], returnType := some .boolean }, accessFlags := 9, code := some k1c1 }
def k1c2 : Code := { maxStack := 4, maxLocals := 3, code := method_3_code, exceptionTable := #[], attributes := #[] }
def k1m2 : Method := { name := "floorDiv1000", desc := "(I)J", sig := { parameters := [.int], returnType := some .long }, accessFlags := 10, code := some k1c2 }
/-- com/example/windo/windo/store/ServerClockObservePinLaw -/
def k1 : Class := { plain "com/example/windo/windo/store/ServerClockObservePinLaw" (some 0) with
  accessFlags := 49
  interfaces := #[]
  cf := some (fileOf pool1 27 #[] #[{ accessFlags := 1, nameIndex := 5, descriptorIndex := 6, attributes := #[] }, { accessFlags := 9, nameIndex := 34, descriptorIndex := 35, attributes := #[] }, { accessFlags := 10, nameIndex := 30, descriptorIndex := 31, attributes := #[] }] 49 2 #[] #[])
  fields := #[]
  methods := #[k1m0, k1m1, k1m2]
  instanceTypes := #[]
  staticTypes := #[]
  resolved := Array.replicate 39 none
  statics := none }

def pool2 : Array CpInfo := pool [(3, .methodref 4 5), (0, .class_ 6), (0, .nameAndType 7 8), (0, u "java/lang/Object"), (0, u "<init>"), (0, u "()V"), (0, .class_ 10), (0, u "com/example/windo/windo/store/ServerClock"), (0, .long 9223372036854775808), (1, .fieldref 9 14), (0, .nameAndType 15 16), (0, u "offsetNanos"), (0, u "J"), (0, .long 1000), (1, .methodref 20 21), (0, .class_ 22), (0, .nameAndType 23 24), (0, u "java/lang/Math"), (0, u "floorDiv"), (0, u "(JI)J"), (0, u "UNKNOWN"), (3, u "observe"), (0, u "(JJ)V"), (0, u "serverMicros"), (0, u "(J)J")] 3

def k2c0 : Code := { maxStack := 3, maxLocals := 1, code := prog_46_method_1_code, exceptionTable := #[], attributes := #[] }
def k2m0 : Method := { name := "<init>", desc := "()V", sig := { parameters := [], returnType := none }, accessFlags := 0, code := some k2c0 }
def k2c1 : Code := { maxStack := 5, maxLocals := 5, code := prog_46_method_2_code, exceptionTable := #[], attributes := #[] }
def k2m1 : Method := { name := "observe", desc := "(JJ)V", sig := { parameters := [.long, .long], returnType := none }, accessFlags := 0, code := some k2c1 }
def k2c2 : Code := { maxStack := 4, maxLocals := 5, code := prog_46_method_3_code, exceptionTable := #[], attributes := #[] }
def k2m2 : Method := { name := "serverMicros", desc := "(J)J", sig := { parameters := [.long], returnType := some .long }, accessFlags := 0, code := some k2c2 }
/-- com/example/windo/windo/store/ServerClock -/
def k2 : Class := { plain "com/example/windo/windo/store/ServerClock" (some 0) with
  accessFlags := 32
  interfaces := #[]
  cf := some (fileOf pool2 9 #[] #[{ accessFlags := 0, nameIndex := 7, descriptorIndex := 8, attributes := #[] }, { accessFlags := 0, nameIndex := 29, descriptorIndex := 30, attributes := #[] }, { accessFlags := 0, nameIndex := 31, descriptorIndex := 32, attributes := #[] }] 32 4 #[] #[{ accessFlags := 26, nameIndex := 25, descriptorIndex := 16, attributes := #[] }, { accessFlags := 66, nameIndex := 15, descriptorIndex := 16, attributes := #[] }])
  fields := #[{ name := "UNKNOWN", type := .long, accessFlags := 26, slot := 0, constantValue := 0 }, { name := "offsetNanos", type := .long, accessFlags := 66, slot := 0, constantValue := 0 }]
  methods := #[k2m0, k2m1, k2m2]
  instanceTypes := #[.long]
  staticTypes := #[.long]
  resolved := Array.replicate 36 none
  statics := none }

def pool3 : Array CpInfo := pool [(1, .class_ 2), (0, u "java/lang/Math"), (1, .class_ 6), (1, u "java/lang/Object"), (0, u "<init>"), (0, u "()V"), (89, .class_ 100), (1, u "java/lang/Math$RandomNumberGeneratorHolder"), (20, u "(JJ)J"), (21, .methodref 1 144), (0, .nameAndType 145 121), (0, u "floorDiv"), (26, u "negativeZeroFloatBits"), (0, u "J"), (2, u "negativeZeroDoubleBits"), (68, u "$assertionsDisabled"), (0, u "Z"), (91, u "twoToTheDoubleScaleDown"), (0, u "D"), (4, u "twoToTheDoubleScaleUp"), (9, u "E"), (3, u "PI"), (2, u "TAU"), (2, u "DEGREES_TO_RADIANS"), (0, u "RADIANS_TO_DEGREES"), (29, u "(JI)J")] 64

def k3m0 : Method := { name := "<init>", desc := "()V", sig := { parameters := [], returnType := none }, accessFlags := 2, code := none }
def k3c1 : Code := { maxStack := 4, maxLocals := 3, code := jdk_29_method_48_code, exceptionTable := #[], attributes := #[] }
def k3m1 : Method := { name := "floorDiv", desc := "(JI)J", sig := { parameters := [.long, .int], returnType := some .long }, accessFlags := 9, code := some k3c1 }
def k3c2 : Code := { maxStack := 4, maxLocals := 6, code := jdk_29_method_49_code, exceptionTable := #[], attributes := #[] }
def k3m2 : Method := { name := "floorDiv", desc := "(JJ)J", sig := { parameters := [.long, .long], returnType := some .long }, accessFlags := 9, code := some k3c2 }
/-- java/lang/Math -/
def k3 : Class := { plain "java/lang/Math" (some 0) with
  accessFlags := 49
  interfaces := #[]
  cf := some (fileOf pool3 1 #[.nestMembers #[98]] #[{ accessFlags := 2, nameIndex := 7, descriptorIndex := 8, attributes := #[] }, { accessFlags := 9, nameIndex := 145, descriptorIndex := 395, attributes := #[] }, { accessFlags := 9, nameIndex := 145, descriptorIndex := 121, attributes := #[] }] 49 4 #[] #[{ accessFlags := 25, nameIndex := 354, descriptorIndex := 339, attributes := #[] }, { accessFlags := 25, nameIndex := 358, descriptorIndex := 339, attributes := #[] }, { accessFlags := 25, nameIndex := 361, descriptorIndex := 339, attributes := #[] }, { accessFlags := 26, nameIndex := 364, descriptorIndex := 339, attributes := #[] }, { accessFlags := 26, nameIndex := 365, descriptorIndex := 339, attributes := #[] }, { accessFlags := 26, nameIndex := 172, descriptorIndex := 173, attributes := #[] }, { accessFlags := 26, nameIndex := 176, descriptorIndex := 173, attributes := #[] }, { accessFlags := 8, nameIndex := 344, descriptorIndex := 339, attributes := #[] }, { accessFlags := 8, nameIndex := 338, descriptorIndex := 339, attributes := #[] }, { accessFlags := 4120, nameIndex := 245, descriptorIndex := 246, attributes := #[] }])
  fields := #[{ name := "E", type := .double, accessFlags := 25, slot := 0, constantValue := 0 }, { name := "PI", type := .double, accessFlags := 25, slot := 1, constantValue := 0 }, { name := "TAU", type := .double, accessFlags := 25, slot := 2, constantValue := 0 }, { name := "DEGREES_TO_RADIANS", type := .double, accessFlags := 26, slot := 3, constantValue := 0 }, { name := "RADIANS_TO_DEGREES", type := .double, accessFlags := 26, slot := 4, constantValue := 0 }, { name := "negativeZeroFloatBits", type := .long, accessFlags := 26, slot := 5, constantValue := 0 }, { name := "negativeZeroDoubleBits", type := .long, accessFlags := 26, slot := 6, constantValue := 0 }, { name := "twoToTheDoubleScaleUp", type := .double, accessFlags := 8, slot := 7, constantValue := 0 }, { name := "twoToTheDoubleScaleDown", type := .double, accessFlags := 8, slot := 8, constantValue := 0 }, { name := "$assertionsDisabled", type := .boolean, accessFlags := 4120, slot := 9, constantValue := 0 }]
  methods := #[k3m0, k3m1, k3m2]
  instanceTypes := #[]
  staticTypes := #[.double, .double, .double, .double, .double, .long, .long, .double, .double, .boolean]
  resolved := Array.replicate 460 none
  statics := none }

def pool4 : Array CpInfo := pool [(1, u "java/lang/Cloneable"), (0, .class_ 1), (0, u "java/lang/Object"), (0, .class_ 3)] 3

/-- java/lang/Cloneable -/
def k4 : Class := { plain "java/lang/Cloneable" (some 0) with
  accessFlags := 1537
  interfaces := #[]
  cf := some (fileOf pool4 2 #[] #[] 1537 4 #[] #[])
  fields := #[]
  methods := #[]
  instanceTypes := #[]
  staticTypes := #[]
  resolved := Array.replicate 8 none
  statics := none }

def pool5 : Array CpInfo := pool [(1, u "java/io/Serializable"), (0, .class_ 1), (0, u "java/lang/Object"), (0, .class_ 3)] 3

/-- java/io/Serializable -/
def k5 : Class := { plain "java/io/Serializable" (some 0) with
  accessFlags := 1537
  interfaces := #[]
  cf := some (fileOf pool5 2 #[] #[] 1537 4 #[] #[])
  fields := #[]
  methods := #[]
  instanceTypes := #[]
  staticTypes := #[]
  resolved := Array.replicate 8 none
  statics := none }

/-- the primitive byte -/
def k6 : Class := { plain "byte" none with kind := .primitive 'B', accessFlags := 0x411 }
/-- [B -/
def k7 : Class := { plain "[B" (some 0) with kind := .array 6 .byte, interfaces := #[4, 5], accessFlags := 1041 }

/-- the primitive int -/
def k8 : Class := { plain "int" none with kind := .primitive 'I', accessFlags := 0x411 }
/-- [I -/
def k9 : Class := { plain "[I" (some 0) with kind := .array 8 .int, interfaces := #[4, 5], accessFlags := 1041 }

def heap : Heap := #[]
def classes : Array Class := #[k0, k1, k2, k3, k4, k5, k6, k7, k8, k9]
def interned : List (Array UInt16 × Addr) := []
def slotsUsed : Nat := 0
def theMethod : MethodId := ⟨1, 1⟩
def args0 : Array Value := #[.long 5, .long 6, .int 7, .long 8, .long 9]
def aboutOver (below : List Frame) : State where
  vm := { classes := classes, interned := interned.toArray }
  heap := heap
  slotsUsed := slotsUsed
  threads := #[{ frames := .invoking theMethod args0 :: below }]
def below0 : List Frame := [.native { method := ⟨0, 0⟩, args := #[] }]
def about1 : State := aboutOver below0
def p0 : Program := .bare "" "" ""
def e0 : Env := launch0.env 0 0 0
theorem w_frames : about1.frames = Frame.invoking theMethod args0 :: below0 := rfl
set_option maxRecDepth 65536 in
theorem w_args : argsFit about1.vm theMethod args0 = true := by decide +kernel
set_option maxRecDepth 65536 in
theorem w_heap : heapFits about1 = true := by decide +kernel
set_option maxRecDepth 65536 in
theorem w_runnable : about1.curStatus? = some .runnable := by decide +kernel
set_option maxRecDepth 65536 in
theorem w_alone : about1.alone = true := by decide +kernel
set_option maxRecDepth 65536 in
theorem w_named : about1.methodNamed? x = some theMethod := by decide +kernel
set_option maxRecDepth 65536 in
theorem w_hears : about1.hears theMethod below0 = true := by decide +kernel
set_option maxRecDepth 65536 in
theorem w_ripe : about1.ripe theMethod args0 below0 = true := by decide +kernel
theorem w_running : about1.status = .running := rfl
set_option maxRecDepth 65536 in
theorem w_room : about1.hasRoom e0.platform room_1 = true :=
  launch0.hasRoom_least _ room_1 (by decide +kernel) (by decide +kernel) (by decide +kernel) (by decide +kernel) (by decide +kernel) (by decide +kernel)
theorem allAtoms_all (ts : List Jvm.Cond) (a : Array Jvm.Value) (st : Jvm.State) : (allAtoms ts).before a st = ts.all (fun c => c.before a st) := by
  induction ts with
  | nil => rfl
  | cons c t ih =>
    show (Jvm.Cond.and c (allAtoms t)).before a st = _
    rw [Jvm.Cond.before_and, ih, List.all_cons]
def words1 : List Jvm.Cond := Jvm.Cond.code x code maxLocals ret :: tables_1
/-- a 'code' word, met by the world's own term for the bytes: nothing is compared byte by byte -/
theorem code_word {y : MethodName} {bytes : ByteArray} {mx : Nat} {rt : Option FieldType} {a : Array Value} {s : State} {m : MethodId} {meth : Method} {c : Code} (h1 : s.methodNamed? y = some m) (h2 : s.vm.method? m = some meth) (h3 : meth.code = some c) (h4 : c.code = bytes)
    (h5 : (c.maxLocals == mx && c.exceptionTable.isEmpty && decide (c.maxStack ≤ mostOperands) && decide (meth.sig.returnType = rt) && !meth.locks && decide (parseMethodDescriptor y.desc = some meth.sig)) = true) : (Jvm.Cond.code y bytes mx rt).before a s = true := by
  simp only [Bool.and_eq_true, beq_iff_eq, Bool.not_eq_true', decide_eq_true_eq] at h5
  obtain ⟨⟨⟨⟨⟨g1, g2⟩, g3⟩, g4⟩, g5⟩, g6⟩ := h5
  simp [Cond.before, Cond.holds, Cond.value, h1, h2, h3, h4, g1, g2, g3, g4, g5, g6]
def isCode : Jvm.Cond → Bool
  | .code _ _ _ _ => true
  | _ => false
theorem all_split {L : List Jvm.Cond} {P : Jvm.Cond → Bool} (h1 : L.all (fun c => isCode c || P c) = true) (h2 : ∀ c ∈ L.filter isCode, P c = true) : L.all P = true := by
  refine List.all_eq_true.mpr fun c hc => ?_
  have h := List.all_eq_true.mp h1 c hc
  rcases Bool.eq_false_or_eq_true (isCode c) with hi | hi
  · exact h2 c (List.mem_filter.mpr ⟨hc, hi⟩)
  · simpa [hi] using h
set_option maxRecDepth 65536 in
theorem w_c0 : (Jvm.Cond.code x code maxLocals ret).before args0 about1 = true := code_word (m := ⟨1, 1⟩) (meth := k1m1) (c := k1c1) (by decide +kernel) rfl rfl rfl (by decide +kernel)
set_option maxRecDepth 65536 in
theorem w_c1 : (Jvm.Cond.code ({ cls := "com/example/windo/windo/store/ServerClock", name := "<init>", desc := "()V" } : Jvm.MethodName) prog_46_method_1_code (1 : Nat) (Option.none : Option Jvm.ClassFile.FieldType)).before args0 about1 = true := code_word (m := ⟨2, 0⟩) (meth := k2m0) (c := k2c0) (by decide +kernel) rfl rfl rfl (by decide +kernel)
set_option maxRecDepth 65536 in
theorem w_c2 : (Jvm.Cond.code ({ cls := "java/lang/Object", name := "<init>", desc := "()V" } : Jvm.MethodName) object_method_1_code (1 : Nat) (Option.none : Option Jvm.ClassFile.FieldType)).before args0 about1 = true := code_word (m := ⟨0, 0⟩) (meth := k0m0) (c := k0c0) (by decide +kernel) rfl rfl rfl (by decide +kernel)
set_option maxRecDepth 65536 in
theorem w_c3 : (Jvm.Cond.code ({ cls := "com/example/windo/windo/store/ServerClock", name := "serverMicros", desc := "(J)J" } : Jvm.MethodName) prog_46_method_3_code (5 : Nat) (Option.some Jvm.ClassFile.FieldType.long)).before args0 about1 = true := code_word (m := ⟨2, 2⟩) (meth := k2m2) (c := k2c2) (by decide +kernel) rfl rfl rfl (by decide +kernel)
set_option maxRecDepth 65536 in
theorem w_c4 : (Jvm.Cond.code ({ cls := "com/example/windo/windo/store/ServerClock", name := "observe", desc := "(JJ)V" } : Jvm.MethodName) prog_46_method_2_code (5 : Nat) (Option.none : Option Jvm.ClassFile.FieldType)).before args0 about1 = true := code_word (m := ⟨2, 1⟩) (meth := k2m1) (c := k2c1) (by decide +kernel) rfl rfl rfl (by decide +kernel)
set_option maxRecDepth 65536 in
theorem w_c5 : (Jvm.Cond.code ({ cls := "com/example/windo/windo/store/ServerClockObservePinLaw", name := "floorDiv1000", desc := "(I)J" } : Jvm.MethodName) method_3_code (3 : Nat) (Option.some Jvm.ClassFile.FieldType.long)).before args0 about1 = true := code_word (m := ⟨1, 2⟩) (meth := k1m2) (c := k1c2) (by decide +kernel) rfl rfl rfl (by decide +kernel)
set_option maxRecDepth 65536 in
theorem w_c6 : (Jvm.Cond.code ({ cls := "java/lang/Math", name := "floorDiv", desc := "(JI)J" } : Jvm.MethodName) jdk_29_method_48_code (3 : Nat) (Option.some Jvm.ClassFile.FieldType.long)).before args0 about1 = true := code_word (m := ⟨3, 1⟩) (meth := k3m1) (c := k3c1) (by decide +kernel) rfl rfl rfl (by decide +kernel)
set_option maxRecDepth 65536 in
theorem w_c7 : (Jvm.Cond.code ({ cls := "java/lang/Math", name := "floorDiv", desc := "(JJ)J" } : Jvm.MethodName) jdk_29_method_49_code (6 : Nat) (Option.some Jvm.ClassFile.FieldType.long)).before args0 about1 = true := code_word (m := ⟨3, 2⟩) (meth := k3m2) (c := k3c2) (by decide +kernel) rfl rfl rfl (by decide +kernel)
def codes1 : List Jvm.Cond := [Jvm.Cond.code x code maxLocals ret, Jvm.Cond.code ({ cls := "com/example/windo/windo/store/ServerClock", name := "<init>", desc := "()V" } : Jvm.MethodName) prog_46_method_1_code (1 : Nat) (Option.none : Option Jvm.ClassFile.FieldType), Jvm.Cond.code ({ cls := "java/lang/Object", name := "<init>", desc := "()V" } : Jvm.MethodName) object_method_1_code (1 : Nat) (Option.none : Option Jvm.ClassFile.FieldType), Jvm.Cond.code ({ cls := "com/example/windo/windo/store/ServerClock", name := "serverMicros", desc := "(J)J" } : Jvm.MethodName) prog_46_method_3_code (5 : Nat) (Option.some Jvm.ClassFile.FieldType.long), Jvm.Cond.code ({ cls := "com/example/windo/windo/store/ServerClock", name := "observe", desc := "(JJ)V" } : Jvm.MethodName) prog_46_method_2_code (5 : Nat) (Option.none : Option Jvm.ClassFile.FieldType), Jvm.Cond.code ({ cls := "com/example/windo/windo/store/ServerClockObservePinLaw", name := "floorDiv1000", desc := "(I)J" } : Jvm.MethodName) method_3_code (3 : Nat) (Option.some Jvm.ClassFile.FieldType.long), Jvm.Cond.code ({ cls := "java/lang/Math", name := "floorDiv", desc := "(JI)J" } : Jvm.MethodName) jdk_29_method_48_code (3 : Nat) (Option.some Jvm.ClassFile.FieldType.long), Jvm.Cond.code ({ cls := "java/lang/Math", name := "floorDiv", desc := "(JJ)J" } : Jvm.MethodName) jdk_29_method_49_code (6 : Nat) (Option.some Jvm.ClassFile.FieldType.long)]
set_option maxRecDepth 65536 in
theorem codes_eq : words1.filter isCode = codes1 := rfl
theorem w_codes : ∀ c ∈ words1.filter isCode, c.before args0 about1 = true := by
  rw [codes_eq]
  intro c hc
  simp only [codes1, List.mem_cons, List.not_mem_nil, or_false] at hc
  rcases hc with rfl | rfl | rfl | rfl | rfl | rfl | rfl | rfl
  · exact w_c0
  · exact w_c1
  · exact w_c2
  · exact w_c3
  · exact w_c4
  · exact w_c5
  · exact w_c6
  · exact w_c7
set_option maxRecDepth 65536 in
theorem w_t1 : (words1.take 24).all (fun c => isCode c || c.before args0 about1) = true := by decide +kernel
set_option maxRecDepth 65536 in
theorem w_t2 : (words1.drop 24).all (fun c => isCode c || c.before args0 about1) = true := by decide +kernel
theorem w_tables : (allAtoms (Jvm.Cond.code x code maxLocals ret :: tables_1)).before args0 about1 = true := by
  rw [allAtoms_all]
  show words1.all (fun c => c.before args0 about1) = true
  refine all_split ?_ w_codes
  rw [← List.take_append_drop 24 words1, List.all_append, w_t1, w_t2]
  rfl
set_option maxRecDepth 65536 in
theorem w_case : (Jvm.Cond.and given_1 narrow_1).before args0 about1 = true := by decide +kernel
theorem w_applies : (headSpec (Jvm.Cond.code x code maxLocals ret :: tables_1) room_1).applies x e0.platform about1 = true :=
  (Spec.applies_iff w_frames).mpr ⟨w_running, w_runnable, w_alone, w_named, w_hears, w_ripe, w_room, w_tables⟩
theorem atStart : AtStart classFile x code maxLocals ret World_1 tables_1 room_1 Calls_1 rest_1 Pre_1 launch0 p0 e0 about1 theMethod args0 below0 :=
  ⟨lists_1, trivial, launch0.admits_env _ _ _, launch0.least_env, fairChoices_fair.cas, fairChoices_fair.clock, w_frames, w_args, w_heap, w_applies, trivial, trivial, w_case⟩
end start1
theorem witness_1 : WitnessClaimed_1 := ⟨start1.p0, start1.e0, start1.about1, start1.theMethod, start1.args0, start1.below0, start1.atStart⟩
end Jvm.Pilot.@@N@@
