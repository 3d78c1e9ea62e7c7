import JvmDerived
import JvmDerived.Pilot.@@N@@Statement
import JvmDerived.Pilot.@@N@@Code
set_option linter.unusedVariables false
set_option linter.unusedSimpArgs false
namespace Jvm.RoadKit
open Sem ClassFile Op Lib Jvm.Stand Jvm.Free Jvm.LawKit
section New
variable {p : Program} {l : Launch} {e : Env} {R : Room} {s : State} {m : MethodId} {args : Array Value} {below : List Frame} {meth : Method} {c : Code} {T : State} {locs : List Loc} {cells slots : Nat}
theorem retI (X : Stand p l e R s m args below meth c T locs cells slots) (hx : p.tables.exec = Jvm.exec) {pc : Nat} {Ls : Array Slot} {z : Int32} {rest : List Value} (hret : meth.sig.returnType = some .int) (hd : decode c.code pc = .ok (.ireturn, 1)) {fs : List Frame}
    (hl : ∀ (f : JFrame) (acts : List Action), f.method = m → f.locked = none → f.entered = [] → (doReturn e (T.setTop f) acts (some (.int z))).1 = T.setFrames fs) : Steps p.tables e below (T.setTop (mkF m pc Ls (.int z :: rest))) (T.setFrames fs) := by
  have hm' : T.vm.method? m = some meth := X.method'
  have hn : narrow .int (.int z) = .int z := rfl
  show Steps p.tables e below (T.setTop { method := m, pc := pc, locals := Ls, stack := _ :: rest, locked := none }) _
  jvm_step X.here [X.here.top, hx, hd, hm', hret, hn]
  first | (intro acts; rw [hl _ acts rfl rfl rfl]) | rw [hl _ _ rfl rfl rfl]
  exact Steps.refl _
theorem retZ (X : Stand p l e R s m args below meth c T locs cells slots) (hx : p.tables.exec = Jvm.exec) {pc : Nat} {Ls : Array Slot} {z : Int32} {rest : List Value} (hret : meth.sig.returnType = some .boolean) (hz : z &&& 1 = z) (hd : decode c.code pc = .ok (.ireturn, 1)) {fs : List Frame}
    (hl : ∀ (f : JFrame) (acts : List Action), f.method = m → f.locked = none → f.entered = [] → (doReturn e (T.setTop f) acts (some (.int z))).1 = T.setFrames fs) : Steps p.tables e below (T.setTop (mkF m pc Ls (.int z :: rest))) (T.setFrames fs) := by
  have hn : narrow .boolean (.int z) = .int z := by show Value.int (z &&& 1) = _; rw [hz]
  exact retOut X hx hret hn (Or.inl ⟨rfl, Or.inr (Or.inl rfl), z, rfl⟩) hd hl
theorem retJ (X : Stand p l e R s m args below meth c T locs cells slots) (hx : p.tables.exec = Jvm.exec) {pc : Nat} {Ls : Array Slot} {z : Int64} {rest : List Value} (hret : meth.sig.returnType = some .long) (hd : decode c.code pc = .ok (.lreturn, 1)) {fs : List Frame}
    (hl : ∀ (f : JFrame) (acts : List Action), f.method = m → f.locked = none → f.entered = [] → (doReturn e (T.setTop f) acts (some (.long z))).1 = T.setFrames fs) : Steps p.tables e below (T.setTop (mkF m pc Ls (.long z :: rest))) (T.setFrames fs) :=
  retOut X hx hret rfl (Or.inr (Or.inl ⟨rfl, rfl, z, rfl⟩)) hd hl
theorem retA (X : Stand p l e R s m args below meth c T locs cells slots) (hx : p.tables.exec = Jvm.exec) {pc : Nat} {Ls : Array Slot} {a : Addr} {rest : List Value} {t : FieldType} (ht : t.isReference = true) (hn : narrow t (.ref a) = .ref a) (hret : meth.sig.returnType = some t) (hd : decode c.code pc = .ok (.areturn, 1)) {fs : List Frame}
    (hl : ∀ (f : JFrame) (acts : List Action), f.method = m → f.locked = none → f.entered = [] → (doReturn e (T.setTop f) acts (some (.ref a))).1 = T.setFrames fs) : Steps p.tables e below (T.setTop (mkF m pc Ls (.ref a :: rest))) (T.setFrames fs) :=
  retOut X hx hret hn (Or.inr (Or.inr (Or.inr (Or.inr ⟨rfl, ht, rfl⟩)))) hd hl
theorem newPk {Z : State} {a0 : Array Value} {h : Heap} (X : Stand p l e R s m args below meth c T locs cells slots) (hx : p.tables.exec = Jvm.exec) (hZ : Z.Warmed39 s.vm) {aty : ArrayType} (w : (Cond.arrayClass (newarray.typeOf aty)).before a0 Z = true) (eT : T.heap = h) {g : JFrame} (hg : g.method = m)
    (hd : decode c.code g.pc = .ok (.newarray aty, 2)) {n : Int32} {rest : List Value} (hs : g.stack = .int n :: rest) (hn : ¬ n < 0) {cap : Nat} (hcap : n.toNatClampNeg ≤ cap) (hb : cap * 8 ≤ 536870912) (hc : cells + 1 ≤ R.cells) (hl : slots + cap ≤ R.slots) :
    ∃ T' h' cA, Stand p l e R s m args below meth c T' locs (cells + 1) (slots + cap) ∧ T'.heap = h' ∧ Ext h h' ∧ Arr Z h' h.size (newA cA (newarray.typeOf aty) n) (newarray.typeOf aty) ∧ Z.vm.findClass ("[" ++ (newarray.typeOf aty).toString) = some cA ∧
      ∀ target, Steps p.tables e below (T'.setTop { g with pc := g.pc + 2, stack := .ref h.size :: rest }) target → Steps p.tables e below (T.setTop g) target := by
  have hw8 : componentBytes (newarray.typeOf aty) ≤ 8 := by cases aty <;> decide
  obtain ⟨cA, kA, comp, f1, f2, f3, X', st⟩ := X.newarrayPrim hx (mvA hZ w) hg hd hs hn (Nat.le_trans (Nat.mul_le_mul hcap hw8) hb) hc (by omega)
  subst eT
  have f0 : Z.vm.findClass ("[" ++ (newarray.typeOf aty).toString) = some cA := by rw [← hZ.alike.findClass]; exact f1
  obtain ⟨kZ, z1, -⟩ := Vm.findClass_spec f0
  obtain ⟨k', z2, z3⟩ := hZ.alike.2.2 _ _ z1
  have ek : kA = k' := Option.some.inj (f2.symm.trans z2)
  have hq : kZ.kind = .array comp (newarray.typeOf aty) := by rw [← f3, ek, z3]
  refine ⟨_, _, cA, X'.more (Nat.le_refl _) (by omega), rfl, ext_of fun a ha => ?_, ⟨?_, ⟨fun q => by simp [newA], kZ, z1, comp, hq⟩, by simp [newA]⟩, f0, st⟩
  · show (T.heap.push _)[a]? = _
    rw [Array.getElem?_push_lt ha, Array.getElem?_eq_getElem ha]
  · show (T.heap.push _)[T.heap.size]? = _
    simp [newA]
theorem selPriv {s : State} {args : Array Value} {C : String} {y y0 : MethodName} (hsel : (Cond.selects C y0 y0).before args s = true) (hcls : y0.cls = y.cls) (hpriv : s.PrivateAt y) (hinst : (Cond.instanceMethod y).before args s = true) (hy : y.cls ≠ "java/lang/invoke/MethodHandle" ∧ y.cls ≠ "java/lang/invoke/VarHandle") : (Cond.selects y.cls y y).before args s = true := by
  obtain ⟨mk, meth, hnamed, hm, -, -⟩ := Cond.instanceMethod_spec hinst
  have hc := findClass_of_methodNamed hnamed
  obtain ⟨_, _, m2, -, -, q3, -, kP, hkP, hkPi⟩ := Cond.selects_spec hsel
  have h0 := findClass_of_methodNamed q3
  rw [hcls] at h0
  have e : mk.cls = m2.cls := Option.some.inj (hc.symm.trans h0)
  exact selects_self_of_private hc (by rw [e]; exact hkP) hkPi hpriv hinst hy
theorem insA {Z : State} {h : Heap} {a : Addr} {k : ClassId} {ty : FieldType} {z : Int32} {vs : List Value} {d : Value} {K : String} (F : Arv Z h a k ty z vs d) (hk : Z.vm.findClass K = some k) : Ins Z h a K true := by
  obtain ⟨c, A, q, -⟩ := F
  exact ⟨c, k, A.1, hk, by simp [A.plain, q, Vm.assignable_self]⟩
theorem lswHit {g : JFrame} {target : State} (X : Stand p l e R s m args below meth c T locs cells slots) (hx : p.tables.exec = Jvm.exec) (hg : g.method = m) {pc0 pc' : Nat} (hpc : g.pc = pc0) {k : Int32} {rest : List Value} {dflt : Int} {pairs : Array (Int × Int)} {len : Nat}
    (hd : decode c.code g.pc = .ok (.lookupswitch dflt pairs, len)) (hs : g.stack = .int k :: rest) (hsort : (pairs.toList.zip (pairs.toList.drop 1)).all (fun (a, next) => a.1 < next.1) = true) {a off : Int} (hf : pairs.find? (·.1 == k.toInt) = some (a, off)) (ho : 0 ≤ (pc0 : Int) + off) (hp : ((pc0 : Int) + off).toNat = pc')
    (hr : Steps p.tables e below (T.setTop { g with pc := pc', stack := rest }) target) : Steps p.tables e below (T.setTop g) target := by
  subst hpc hp
  exact X.lookupswitchHit hx hg hs hd hsort hf ho _ hr
theorem lswMiss {g : JFrame} {target : State} (X : Stand p l e R s m args below meth c T locs cells slots) (hx : p.tables.exec = Jvm.exec) (hg : g.method = m) {pc0 pc' : Nat} (hpc : g.pc = pc0) {k : Int32} {rest : List Value} {dflt : Int} {pairs : Array (Int × Int)} {len : Nat}
    (hd : decode c.code g.pc = .ok (.lookupswitch dflt pairs, len)) (hs : g.stack = .int k :: rest) (hsort : (pairs.toList.zip (pairs.toList.drop 1)).all (fun (a, next) => a.1 < next.1) = true) (hf : pairs.find? (·.1 == k.toInt) = none) (ho : 0 ≤ (pc0 : Int) + dflt) (hp : ((pc0 : Int) + dflt).toNat = pc')
    (hr : Steps p.tables e below (T.setTop { g with pc := pc', stack := rest }) target) : Steps p.tables e below (T.setTop g) target := by
  subst hpc hp
  exact X.lookupswitchMiss hx hg hs hd hsort hf ho _ hr
end New
end Jvm.RoadKit
namespace Jvm.Pilot.@@N@@
open Jvm Jvm.ClassFile Sem Op Lib Jvm.Free Jvm.Stand Jvm.LawKit Jvm.RoadKit Bundle Jvm.Pilot.@@N@@.Jvm.D
theorem d2_0 : decode jdk_30_method_1_code 0 = .ok (.aload_n 0, 1) := by decide +kernel
theorem d2_1 : decode jdk_30_method_1_code 1 = .ok (.invokespecial 1, 3) := by decide +kernel
theorem d2_4 : decode jdk_30_method_1_code 4 = .ok (.return_, 1) := by decide +kernel
theorem pn_0 : plainName "java/lang/Record" = true := by first | (simp [plainName, overriddenIn]; done) | decide +kernel
theorem ef_rm2 (m : MethodId) (a0 : Addr) : entryFrame m #[(.ref a0)] 1 = mkF m 0 #[.val (.ref a0)] [] := by first | (simp [entryFrame, mkF, argsToLocals, Value.category]; done) | rfl
def Q_rm2 (Z : State) (a0 : Addr) (h0 : Heap) (n0 : Nat) (v : Option Value) (h : Heap) (L : List Loc) : Prop := v = none ∧ Fr n0 L ∧ h = h0
set_option maxRecDepth 65536 in
set_option maxHeartbeats 40000000 in
theorem rm2 (l : Launch) (Z : State) (aw : Array Value) (hw : ∀ d ∈ tables_1, d.before aw Z = true) (ws : List Jvm.Cond) (a0 : Addr) (h0 : Heap) (n0 : Nat) (Z0 : n0 ≤ h0.size) :
    MetFree l (⟨"java/lang/Record", "<init>", "()V"⟩ : MethodName) (head1 (Jvm.Cond.code (⟨"java/lang/Record", "<init>", "()V"⟩ : MethodName) jdk_30_method_1_code 1 none :: ws) ({ frames := 1, cells := 0, slots := 0, locals := 12 } : Room)) (fun a U => a = #[(.ref a0)] ∧ Z.Warmed39 U.vm ∧ U.heap = h0) (fun _ _ _ _ _ => True) (fun _ U o U' => ∃ v L, o = .returned v ∧ Q_rm2 Z a0 h0 n0 v U'.heap L ∧ FrameEnd U o U' L ({ frames := 1, cells := 0, slots := 0, locals := 12 } : Room).cells ({ frames := 1, cells := 0, slots := 0, locals := 12 } : Room).slots) := by
  refine MetFree.of_bodySF (plainFor_of_name pn_0) hisR ?_
  intro p e s m args below meth c s₁ Bd hml0 hP hK
  obtain ⟨rfl, hZ, hh⟩ := hP
  have hx := Bd.exec
  have hby := Bd.bytes
  have hml : c.maxLocals = 1 := hml0
  have hown : s.vm.findClass "java/lang/Record" = some m.cls := findClass_of_methodNamed Bd.named
  have hnm := (name_of_methodNamed Bd.named Bd.method).1
  have X0 : Stand p l e ({ frames := 1, cells := 0, slots := 0, locals := 12 } : Room) s m #[(.ref a0)] below meth c s₁ [] 0 0 := Stand.of_body Bd
  have e0 : s₁.heap = h0 := by rw [← hh, Bd.state]; rfl
  have N0 := Fr.nil n0
  have pre0 : ∀ t, Steps p.tables e below (s₁.setTop (mkF m 0 #[.val (.ref a0)] [])) t → Steps p.tables e below (s₁.setTop (entryFrame m #[(.ref a0)] 1)) t := fun t k => castTop (ef_rm2 m a0) k
  obtain ⟨T101, X101, e101, st101⟩ := initO X0 hx hZ hown (hw _ (List.mem_of_getElem? (i := 11) rfl)) (hw _ (List.mem_of_getElem? (i := 12) rfl)) (hw _ (List.mem_of_getElem? (i := 13) rfl)) e0 (g := (mkF m 1 #[.val (.ref a0)] [(.ref a0)])) rfl (by rw [hml]; rfl) rfl (hb hby d2_1) (by decide) (W := 0) (by show 2 * 0 + _ ≤ _; exact Nat.le_of_eq rfl) (by decide)
  obtain ⟨fs, hr, hrun, hended, hW, hsame⟩ := X101.leave (v := none) (fun _ => rfl)
  refine ⟨_, _, pre0 _ ?_, hrun, hended, _, _, rfl, ?_, ⟨_, rfl⟩, hW, hsame.mono (by decide) (by decide)⟩
  ·
    show Steps p.tables e below (s₁.setTop (mkF m 0 #[.val (.ref a0)] [])) _
    refine XS.aloadN X0.here hx rfl (hb hby d2_0) rfl rfl ?_
    show Steps p.tables e below (s₁.setTop (mkF m 1 #[.val (.ref a0)] [(.ref a0)])) _
    refine st101 _ ?_
    show Steps p.tables e below (T101.setTop (mkF m 4 #[.val (.ref a0)] [])) _
    exact X101.returnOut hx Bd.returns (hb hby d2_4) hr
  ·
    show Q_rm2 Z a0 h0 n0 _ T101.heap _
    rw [e101]
    exact ⟨rfl, N0, rfl⟩
theorem d1_0 : decode prog_33_method_1_code 0 = .ok (.aload_n 0, 1) := by decide +kernel
theorem pd_0 : parseMethodDescriptor "()V" = some ⟨[], none⟩ := by decide +kernel
theorem d1_1 : decode prog_33_method_1_code 1 = .ok (.invokespecial 1, 3) := by decide +kernel
theorem d1_4 : decode prog_33_method_1_code 4 = .ok (.aload_n 0, 1) := by decide +kernel
theorem d1_5 : decode prog_33_method_1_code 5 = .ok (.lload_n 1, 1) := by decide +kernel
theorem d1_6 : decode prog_33_method_1_code 6 = .ok (.putfield 7, 3) := by decide +kernel
theorem d1_9 : decode prog_33_method_1_code 9 = .ok (.aload_n 0, 1) := by decide +kernel
theorem d1_10 : decode prog_33_method_1_code 10 = .ok (.lload_n 3, 1) := by decide +kernel
theorem d1_11 : decode prog_33_method_1_code 11 = .ok (.putfield 13, 3) := by decide +kernel
theorem d1_14 : decode prog_33_method_1_code 14 = .ok (.return_, 1) := by decide +kernel
theorem pn_1 : plainName "com/example/reliquary/reliquary/Fixity$Tally" = true := by first | (simp [plainName, overriddenIn]; done) | decide +kernel
theorem ef_rm1 (m : MethodId) (a0 : Addr) (q1 : Int64) (q2 : Int64) : entryFrame m #[(.ref a0), (.long q1), (.long q2)] 5 = mkF m 0 #[.val (.ref a0), .val (.long q1), .second, .val (.long q2), .second] [] := by first | (simp [entryFrame, mkF, argsToLocals, Value.category]; done) | rfl
def Q_rm1 (Z : State) (a0 : Addr) (q1 : Int64) (q2 : Int64) (h0 : Heap) (n0 : Nat) (v : Option Value) (h : Heap) (L : List Loc) : Prop := v = none ∧ Fr n0 L ∧ Keep h0 h [a0] ∧ Exa Z h a0 "com/example/reliquary/reliquary/Fixity$Tally" ∧ Fld Z h a0 "com/example/reliquary/reliquary/Fixity$Tally" "versions" "J" (.long q1) ∧ Fld Z h a0 "com/example/reliquary/reliquary/Fixity$Tally" "failures" "J" (.long q2)
set_option maxRecDepth 65536 in
set_option maxHeartbeats 40000000 in
theorem rm1 (l : Launch) (Z : State) (aw : Array Value) (hw : ∀ d ∈ tables_1, d.before aw Z = true) (ws : List Jvm.Cond) (a0 : Addr) (q1 : Int64) (q2 : Int64) (h0 : Heap) (n0 : Nat) (Z0 : n0 ≤ h0.size) (E_a0 : Exa Z h0 a0 "com/example/reliquary/reliquary/Fixity$Tally") (F_a0_versions : Fld Z h0 a0 "com/example/reliquary/reliquary/Fixity$Tally" "versions" "J" (.long (0 : Int64))) (F_a0_failures : Fld Z h0 a0 "com/example/reliquary/reliquary/Fixity$Tally" "failures" "J" (.long (0 : Int64))) (g_a0 : n0 ≤ a0) :
    MetFree l (⟨"com/example/reliquary/reliquary/Fixity$Tally", "<init>", "(JJ)V"⟩ : MethodName) (head1 (Jvm.Cond.code (⟨"com/example/reliquary/reliquary/Fixity$Tally", "<init>", "(JJ)V"⟩ : MethodName) prog_33_method_1_code 5 none :: ws) ({ frames := 2, cells := 0, slots := 0, locals := 24 } : Room)) (fun a U => a = #[(.ref a0), (.long q1), (.long q2)] ∧ Z.Warmed39 U.vm ∧ U.heap = h0) (fun _ _ _ _ _ => True) (fun _ U o U' => ∃ v L, o = .returned v ∧ Q_rm1 Z a0 q1 q2 h0 n0 v U'.heap L ∧ FrameEnd U o U' L ({ frames := 2, cells := 0, slots := 0, locals := 24 } : Room).cells ({ frames := 2, cells := 0, slots := 0, locals := 24 } : Room).slots) := by
  refine MetFree.of_bodySF (plainFor_of_name pn_1) hisR ?_
  intro p e s m args below meth c s₁ Bd hml0 hP hK
  obtain ⟨rfl, hZ, hh⟩ := hP
  have hx := Bd.exec
  have hby := Bd.bytes
  have hml : c.maxLocals = 5 := hml0
  have hown : s.vm.findClass "com/example/reliquary/reliquary/Fixity$Tally" = some m.cls := findClass_of_methodNamed Bd.named
  have hnm := (name_of_methodNamed Bd.named Bd.method).1
  have X0 : Stand p l e ({ frames := 2, cells := 0, slots := 0, locals := 24 } : Room) s m #[(.ref a0), (.long q1), (.long q2)] below meth c s₁ [] 0 0 := Stand.of_body Bd
  have e0 : s₁.heap = h0 := by rw [← hh, Bd.state]; rfl
  have N0 := Fr.nil n0
  have pre0 : ∀ t, Steps p.tables e below (s₁.setTop (mkF m 0 #[.val (.ref a0), .val (.long q1), .second, .val (.long q2), .second] [])) t → Steps p.tables e below (s₁.setTop (entryFrame m #[(.ref a0), (.long q1), (.long q2)] 5)) t := fun t k => castTop (ef_rm1 m a0 q1 q2) k
  have KC0 : Keep h0 h0 [a0] := Keep.refl h0 [a0]
  obtain ⟨_, _, ⟨T102, L102, k102, n102⟩, -, X102, ⟨Lc102, hQ102, l102, y102, z102⟩, st102⟩ := X0.specialBack hx (y := (⟨"java/lang/Record", "<init>", "()V"⟩ : MethodName)) rfl hown (mvT hZ (hw _ (List.mem_of_getElem? (i := 6) rfl))) (mvT hZ (hw _ (List.mem_of_getElem? (i := 7) rfl))) (mvT hZ (hw _ (List.mem_of_getElem? (i := 10) rfl))) (by decide) (backOf (W := 0) (rm2 l Z aw hw [] a0 h0 n0 Z0) hZ (hw _ (List.mem_of_getElem? (i := 10) rfl)) (hw _ (List.mem_of_getElem? (i := 9) rfl)) (by decide) (by decide)) (g := (mkF m 1 #[.val (.ref a0), .val (.long q1), .second, .val (.long q2), .second] [(.ref a0)])) rfl (by rw [hml]; rfl) (Steps.refl _) (a := a0) (argsL := []) (rest := []) (lenOf pd_0 rfl) rfl (by show 2 * 0 + _ ≤ _; exact Nat.le_of_eq rfl) (hb hby d1_1) (fun _ _ => ⟨rfl, e0, (by decide : 0 + 0 ≤ _), (by decide : 0 + 0 ≤ _)⟩)
  dsimp only [Pt.U, Pt.locs, Pt.cells, Pt.slots] at X102 l102 y102 z102 st102 hQ102
  subst l102 y102 z102
  obtain ⟨rfl, N102q, e102⟩ := hQ102
  have N102 := Fr.app N0 N102q
  obtain ⟨T103, h103, X103, e103, W103, st103⟩ := putF X102 hx hZ hown (host := "") (Or.inl (hw _ (List.mem_of_getElem? (i := 14) rfl))) Via.refl e102 F_a0_versions E_a0 (Or.inr ⟨(hw _ (List.mem_of_getElem? (i := 15) rfl)), rfl, hnm⟩) (hw _ (List.mem_of_getElem? (i := 1) rfl)) (ty := .long) (by decide) rfl rfl (g := (mkF m 6 #[.val (.ref a0), .val (.long q1), .second, .val (.long q2), .second] [(.long q1), (.ref a0)])) rfl rfl (hb hby d1_6)
  have f104 := E_a0.wr W103
  have f105 := F_a0_failures.other W103 (Or.inr (slot_ne (Or.inr (hw _ (List.mem_of_getElem? (i := 17) rfl))) (Or.inr (hw _ (List.mem_of_getElem? (i := 15) rfl))) (by decide) (t := .long) (t' := .long) (by decide) (by decide)))
  have Z106 : n0 ≤ h103.size := Nat.le_trans Z0 (Keep.of_wr W103).1
  have K107 : Keep h0 h103 [a0] := Keep.wr KC0 W103 (Or.inl (List.mem_of_getElem? (i := 0) rfl))
  have N108 := Fr.snoc X103 N102 g_a0
  have f109 : Fld Z h103 a0 "com/example/reliquary/reliquary/Fixity$Tally" "versions" "J" (.long q1) := F_a0_versions.same W103
  obtain ⟨T110, h110, X110, e110, W110, st110⟩ := putF X103 hx hZ hown (host := "") (Or.inl (hw _ (List.mem_of_getElem? (i := 16) rfl))) Via.refl e103 f105 f104 (Or.inr ⟨(hw _ (List.mem_of_getElem? (i := 17) rfl)), rfl, hnm⟩) (hw _ (List.mem_of_getElem? (i := 1) rfl)) (ty := .long) (by decide) rfl rfl (g := (mkF m 11 #[.val (.ref a0), .val (.long q1), .second, .val (.long q2), .second] [(.long q2), (.ref a0)])) rfl rfl (hb hby d1_11)
  have f111 := f104.wr W110
  have f112 := f109.other W110 (Or.inr (slot_ne (Or.inr (hw _ (List.mem_of_getElem? (i := 15) rfl))) (Or.inr (hw _ (List.mem_of_getElem? (i := 17) rfl))) (by decide) (t := .long) (t' := .long) (by decide) (by decide)))
  have Z113 : n0 ≤ h110.size := Nat.le_trans Z106 (Keep.of_wr W110).1
  have K114 : Keep h0 h110 [a0] := Keep.wr K107 W110 (Or.inl (List.mem_of_getElem? (i := 0) rfl))
  have N115 := Fr.snoc X110 N108 g_a0
  have f116 : Fld Z h110 a0 "com/example/reliquary/reliquary/Fixity$Tally" "failures" "J" (.long q2) := f105.same W110
  obtain ⟨fs, hr, hrun, hended, hW, hsame⟩ := X110.leave (v := none) (fun _ => rfl)
  refine ⟨_, _, pre0 _ ?_, hrun, hended, _, _, rfl, ?_, ⟨_, rfl⟩, hW, hsame.mono (by decide) (by decide)⟩
  ·
    show Steps p.tables e below (s₁.setTop (mkF m 0 #[.val (.ref a0), .val (.long q1), .second, .val (.long q2), .second] [])) _
    refine XS.aloadN X0.here hx rfl (hb hby d1_0) rfl rfl ?_
    show Steps p.tables e below (s₁.setTop (mkF m 1 #[.val (.ref a0), .val (.long q1), .second, .val (.long q2), .second] [(.ref a0)])) _
    refine st102.trans ?_
    show Steps p.tables e below (T102.setTop (mkF m 4 #[.val (.ref a0), .val (.long q1), .second, .val (.long q2), .second] [])) _
    refine XS.aloadN X102.here hx rfl (hb hby d1_4) rfl rfl ?_
    show Steps p.tables e below (T102.setTop (mkF m 5 #[.val (.ref a0), .val (.long q1), .second, .val (.long q2), .second] [(.ref a0)])) _
    refine XS.lloadN X102.here hx rfl (hb hby d1_5) rfl ?_
    show Steps p.tables e below (T102.setTop (mkF m 6 #[.val (.ref a0), .val (.long q1), .second, .val (.long q2), .second] [(.long q1), (.ref a0)])) _
    refine st103 _ ?_
    show Steps p.tables e below (T103.setTop (mkF m 9 #[.val (.ref a0), .val (.long q1), .second, .val (.long q2), .second] [])) _
    refine XS.aloadN X103.here hx rfl (hb hby d1_9) rfl rfl ?_
    show Steps p.tables e below (T103.setTop (mkF m 10 #[.val (.ref a0), .val (.long q1), .second, .val (.long q2), .second] [(.ref a0)])) _
    refine XS.lloadN X103.here hx rfl (hb hby d1_10) rfl ?_
    show Steps p.tables e below (T103.setTop (mkF m 11 #[.val (.ref a0), .val (.long q1), .second, .val (.long q2), .second] [(.long q2), (.ref a0)])) _
    refine st110 _ ?_
    show Steps p.tables e below (T110.setTop (mkF m 14 #[.val (.ref a0), .val (.long q1), .second, .val (.long q2), .second] [])) _
    exact X110.returnOut hx Bd.returns (hb hby d1_14) hr
  ·
    show Q_rm1 Z a0 q1 q2 h0 n0 _ T110.heap _
    rw [e110]
    exact ⟨rfl, N115, K114, f111, f112, f116⟩
theorem d4_0 : decode prog_33_method_2_code 0 = .ok (.new 8, 3) := by decide +kernel
theorem d4_3 : decode prog_33_method_2_code 3 = .ok (.dup, 1) := by decide +kernel
theorem d4_4 : decode prog_33_method_2_code 4 = .ok (.aload_n 0, 1) := by decide +kernel
theorem d4_5 : decode prog_33_method_2_code 5 = .ok (.getfield 7, 3) := by decide +kernel
theorem d4_8 : decode prog_33_method_2_code 8 = .ok (.aload_n 1, 1) := by decide +kernel
theorem d4_9 : decode prog_33_method_2_code 9 = .ok (.getfield 7, 3) := by decide +kernel
theorem d4_12 : decode prog_33_method_2_code 12 = .ok (.ladd, 1) := by decide +kernel
theorem d4_13 : decode prog_33_method_2_code 13 = .ok (.aload_n 0, 1) := by decide +kernel
theorem d4_14 : decode prog_33_method_2_code 14 = .ok (.getfield 13, 3) := by decide +kernel
theorem d4_17 : decode prog_33_method_2_code 17 = .ok (.aload_n 1, 1) := by decide +kernel
theorem d4_18 : decode prog_33_method_2_code 18 = .ok (.getfield 13, 3) := by decide +kernel
theorem d4_21 : decode prog_33_method_2_code 21 = .ok (.ladd, 1) := by decide +kernel
theorem pd_1 : parseMethodDescriptor "(JJ)V" = some ⟨[.long, .long], none⟩ := by decide +kernel
theorem d4_22 : decode prog_33_method_2_code 22 = .ok (.invokespecial 16, 3) := by decide +kernel
theorem d4_25 : decode prog_33_method_2_code 25 = .ok (.areturn, 1) := by decide +kernel
theorem ef_rm4 (m : MethodId) (a0 : Addr) (a1 : Addr) : entryFrame m #[(.ref a0), (.ref a1)] 2 = mkF m 0 #[.val (.ref a0), .val (.ref a1)] [] := by first | (simp [entryFrame, mkF, argsToLocals, Value.category]; done) | rfl
def Q_rm4 (Z : State) (a0 : Addr) (a1 : Addr) (w1 : Int64) (w2 : Int64) (w3 : Int64) (w4 : Int64) (h0 : Heap) (n0 : Nat) (v : Option Value) (h : Heap) (L : List Loc) : Prop := ∃ b : Addr, v = some (.ref b) ∧ Fr n0 L ∧ Keep h0 h [] ∧ h0.size ≤ b ∧ Exa Z h b "com/example/reliquary/reliquary/Fixity$Tally" ∧ Fld Z h b "com/example/reliquary/reliquary/Fixity$Tally" "versions" "J" (.long (w1 + w3)) ∧ Fld Z h b "com/example/reliquary/reliquary/Fixity$Tally" "failures" "J" (.long (w2 + w4))
set_option maxRecDepth 65536 in
set_option maxHeartbeats 40000000 in
theorem rm4 (l : Launch) (Z : State) (aw : Array Value) (hw : ∀ d ∈ tables_1, d.before aw Z = true) (ws : List Jvm.Cond) (a0 : Addr) (a1 : Addr) (w1 : Int64) (w2 : Int64) (w3 : Int64) (w4 : Int64) (h0 : Heap) (n0 : Nat) (Z0 : n0 ≤ h0.size) (F_a0_versions : Fld Z h0 a0 "com/example/reliquary/reliquary/Fixity$Tally" "versions" "J" (.long w1)) (F_a0_failures : Fld Z h0 a0 "com/example/reliquary/reliquary/Fixity$Tally" "failures" "J" (.long w2)) (F_a1_versions : Fld Z h0 a1 "com/example/reliquary/reliquary/Fixity$Tally" "versions" "J" (.long w3)) (F_a1_failures : Fld Z h0 a1 "com/example/reliquary/reliquary/Fixity$Tally" "failures" "J" (.long w4)) :
    MetFree l (⟨"com/example/reliquary/reliquary/Fixity$Tally", "plus", "(Lcom/example/reliquary/reliquary/Fixity$Tally;)Lcom/example/reliquary/reliquary/Fixity$Tally;"⟩ : MethodName) (head1 (Jvm.Cond.code (⟨"com/example/reliquary/reliquary/Fixity$Tally", "plus", "(Lcom/example/reliquary/reliquary/Fixity$Tally;)Lcom/example/reliquary/reliquary/Fixity$Tally;"⟩ : MethodName) prog_33_method_2_code 2 (some (.object "com/example/reliquary/reliquary/Fixity$Tally")) :: ws) ({ frames := 3, cells := 1, slots := 2, locals := 41 } : Room)) (fun a U => a = #[(.ref a0), (.ref a1)] ∧ Z.Warmed39 U.vm ∧ U.heap = h0) (fun _ _ _ _ _ => True) (fun _ U o U' => ∃ v L, o = .returned v ∧ Q_rm4 Z a0 a1 w1 w2 w3 w4 h0 n0 v U'.heap L ∧ FrameEnd U o U' L ({ frames := 3, cells := 1, slots := 2, locals := 41 } : Room).cells ({ frames := 3, cells := 1, slots := 2, locals := 41 } : Room).slots) := by
  refine MetFree.of_bodySF (plainFor_of_name pn_1) hisR ?_
  intro p e s m args below meth c s₁ Bd hml0 hP hK
  obtain ⟨rfl, hZ, hh⟩ := hP
  have hx := Bd.exec
  have hby := Bd.bytes
  have hml : c.maxLocals = 2 := hml0
  have hown : s.vm.findClass "com/example/reliquary/reliquary/Fixity$Tally" = some m.cls := findClass_of_methodNamed Bd.named
  have hnm := (name_of_methodNamed Bd.named Bd.method).1
  have X0 : Stand p l e ({ frames := 3, cells := 1, slots := 2, locals := 41 } : Room) s m #[(.ref a0), (.ref a1)] below meth c s₁ [] 0 0 := Stand.of_body Bd
  have e0 : s₁.heap = h0 := by rw [← hh, Bd.state]; rfl
  have N0 := Fr.nil n0
  have pre0 : ∀ t, Steps p.tables e below (s₁.setTop (mkF m 0 #[.val (.ref a0), .val (.ref a1)] [])) t → Steps p.tables e below (s₁.setTop (entryFrame m #[(.ref a0), (.ref a1)] 2)) t := fun t k => castTop (ef_rm4 m a0 a1) k
  have KC0 : Keep h0 h0 [] := Keep.refl h0 []
  obtain ⟨T117, h117, X117, e117, E117, A117, D117, -, st117⟩ := newO X0 hx hZ hown (hw _ (List.mem_of_getElem? (i := 23) rfl)) (hw _ (List.mem_of_getElem? (i := 1) rfl)) (hw _ (List.mem_of_getElem? (i := 2) rfl)) e0 (g := (mkF m 0 #[.val (.ref a0), .val (.ref a1)] [])) rfl (hb hby d4_0) (by decide) (by decide)
  obtain ⟨b117, g117⟩ : ∃ z, z = h0.size := ⟨_, rfl⟩
  rw [← g117] at A117 D117 st117
  have ne118 : a0 ≠ b117 := Nat.ne_of_lt (Nat.lt_of_lt_of_le F_a0_versions.lt (Nat.le_of_eq g117.symm))
  have ne119 : a1 ≠ b117 := Nat.ne_of_lt (Nat.lt_of_lt_of_le F_a1_versions.lt (Nat.le_of_eq g117.symm))
  have gn120 : n0 ≤ b117 := Nat.le_trans Z0 (Nat.le_of_eq g117.symm)
  have sz121 : h0.size ≤ b117 := Nat.le_trans KC0.1 (Nat.le_of_eq g117.symm)
  have f122 := F_a0_versions.ext E117
  have f123 := F_a0_failures.ext E117
  have f124 := F_a1_versions.ext E117
  have f125 := F_a1_failures.ext E117
  have Z126 : n0 ≤ h117.size := Nat.le_trans Z0 E117.1
  have K127 : Keep h0 h117 [] := Keep.ext KC0 E117
  have f128 : Fld Z h117 b117 "com/example/reliquary/reliquary/Fixity$Tally" "versions" "J" (.long (0 : Int64)) := D117 (Or.inr (hw _ (List.mem_of_getElem? (i := 15) rfl))) (ty := .long) (by decide)
  have f129 : Fld Z h117 b117 "com/example/reliquary/reliquary/Fixity$Tally" "failures" "J" (.long (0 : Int64)) := D117 (Or.inr (hw _ (List.mem_of_getElem? (i := 17) rfl))) (ty := .long) (by decide)
  obtain ⟨T130, X130, e130, st130⟩ := getF X117 hx hZ hown (host := "") (Or.inl (hw _ (List.mem_of_getElem? (i := 14) rfl))) Via.refl e117 f122 (g := (mkF m 5 #[.val (.ref a0), .val (.ref a1)] [(.ref a0), (.ref b117), (.ref b117)])) rfl rfl (hb hby d4_5)
  obtain ⟨T131, X131, e131, st131⟩ := getF X130 hx hZ hown (host := "") (Or.inl (hw _ (List.mem_of_getElem? (i := 14) rfl))) Via.refl e130 f124 (g := (mkF m 9 #[.val (.ref a0), .val (.ref a1)] [(.ref a1), (.long w1), (.ref b117), (.ref b117)])) rfl rfl (hb hby d4_9)
  obtain ⟨T132, X132, e132, st132⟩ := getF X131 hx hZ hown (host := "") (Or.inl (hw _ (List.mem_of_getElem? (i := 16) rfl))) Via.refl e131 f123 (g := (mkF m 14 #[.val (.ref a0), .val (.ref a1)] [(.ref a0), (.long (w1 + w3)), (.ref b117), (.ref b117)])) rfl rfl (hb hby d4_14)
  obtain ⟨T133, X133, e133, st133⟩ := getF X132 hx hZ hown (host := "") (Or.inl (hw _ (List.mem_of_getElem? (i := 16) rfl))) Via.refl e132 f125 (g := (mkF m 18 #[.val (.ref a0), .val (.ref a1)] [(.ref a1), (.long w2), (.long (w1 + w3)), (.ref b117), (.ref b117)])) rfl rfl (hb hby d4_18)
  obtain ⟨_, _, ⟨T134, L134, k134, n134⟩, -, X134, ⟨Lc134, hQ134, l134, y134, z134⟩, st134⟩ := X133.specialBack hx (y := (⟨"com/example/reliquary/reliquary/Fixity$Tally", "<init>", "(JJ)V"⟩ : MethodName)) rfl hown (mvT hZ (hw _ (List.mem_of_getElem? (i := 24) rfl))) (mvT hZ (hw _ (List.mem_of_getElem? (i := 4) rfl))) (mvT hZ (hw _ (List.mem_of_getElem? (i := 5) rfl))) (by decide) (backOf (W := 1) (rm1 l Z aw hw [] b117 (w1 + w3) (w2 + w4) h117 n0 Z126 A117 f128 f129 gn120) hZ (hw _ (List.mem_of_getElem? (i := 5) rfl)) (hw _ (List.mem_of_getElem? (i := 2) rfl)) (by decide) (by decide)) (g := (mkF m 22 #[.val (.ref a0), .val (.ref a1)] [(.long (w2 + w4)), (.long (w1 + w3)), (.ref b117), (.ref b117)])) rfl (by rw [hml]; rfl) (Steps.refl _) (a := b117) (argsL := [(.long (w1 + w3)), (.long (w2 + w4))]) (rest := [(.ref b117)]) (lenOf pd_1 rfl) rfl (by show 2 * 0 + _ ≤ _; exact Nat.le_of_eq rfl) (hb hby d4_22) (fun _ _ => ⟨rfl, e133, (by decide : 1 + 0 ≤ _), (by decide : 2 + 0 ≤ _)⟩)
  dsimp only [Pt.U, Pt.locs, Pt.cells, Pt.slots] at X134 l134 y134 z134 st134 hQ134
  subst l134 y134 z134
  obtain ⟨rfl, N134q, K134, f135, f136, f137⟩ := hQ134
  have N134 := Fr.app N0 N134q
  have f138 := f122.keep K134 (ninS ne118 nin0)
  have f139 := f123.keep K134 (ninS ne118 nin0)
  have f140 := f124.keep K134 (ninS ne119 nin0)
  have f141 := f125.keep K134 (ninS ne119 nin0)
  have Z142 : n0 ≤ T134.heap.size := Nat.le_trans Z126 K134.1
  have K143 : Keep h0 T134.heap [] := Keep.trans K127 K134 (allS (Or.inr sz121) all0)
  obtain ⟨fs, hr, hrun, hended, hW, hsame⟩ := X134.leave (v := some (.ref b117)) (fun h => by rw [Bd.returns] at h; cases h)
  refine ⟨_, _, pre0 _ ?_, hrun, hended, _, _, rfl, ?_, ⟨_, rfl⟩, hW, hsame.mono (by decide) (by decide)⟩
  ·
    show Steps p.tables e below (s₁.setTop (mkF m 0 #[.val (.ref a0), .val (.ref a1)] [])) _
    refine st117 _ ?_
    show Steps p.tables e below (T117.setTop (mkF m 3 #[.val (.ref a0), .val (.ref a1)] [(.ref b117)])) _
    refine XS.dup X117.here hx rfl (hb hby d4_3) rfl rfl ?_
    show Steps p.tables e below (T117.setTop (mkF m 4 #[.val (.ref a0), .val (.ref a1)] [(.ref b117), (.ref b117)])) _
    refine XS.aloadN X117.here hx rfl (hb hby d4_4) rfl rfl ?_
    show Steps p.tables e below (T117.setTop (mkF m 5 #[.val (.ref a0), .val (.ref a1)] [(.ref a0), (.ref b117), (.ref b117)])) _
    refine st130 _ ?_
    show Steps p.tables e below (T130.setTop (mkF m 8 #[.val (.ref a0), .val (.ref a1)] [(.long w1), (.ref b117), (.ref b117)])) _
    refine XS.aloadN X130.here hx rfl (hb hby d4_8) rfl rfl ?_
    show Steps p.tables e below (T130.setTop (mkF m 9 #[.val (.ref a0), .val (.ref a1)] [(.ref a1), (.long w1), (.ref b117), (.ref b117)])) _
    refine st131 _ ?_
    show Steps p.tables e below (T131.setTop (mkF m 12 #[.val (.ref a0), .val (.ref a1)] [(.long w3), (.long w1), (.ref b117), (.ref b117)])) _
    refine XS.ladd X131.here hx rfl (hb hby d4_12) rfl ?_
    show Steps p.tables e below (T131.setTop (mkF m 13 #[.val (.ref a0), .val (.ref a1)] [(.long (w1 + w3)), (.ref b117), (.ref b117)])) _
    refine XS.aloadN X131.here hx rfl (hb hby d4_13) rfl rfl ?_
    show Steps p.tables e below (T131.setTop (mkF m 14 #[.val (.ref a0), .val (.ref a1)] [(.ref a0), (.long (w1 + w3)), (.ref b117), (.ref b117)])) _
    refine st132 _ ?_
    show Steps p.tables e below (T132.setTop (mkF m 17 #[.val (.ref a0), .val (.ref a1)] [(.long w2), (.long (w1 + w3)), (.ref b117), (.ref b117)])) _
    refine XS.aloadN X132.here hx rfl (hb hby d4_17) rfl rfl ?_
    show Steps p.tables e below (T132.setTop (mkF m 18 #[.val (.ref a0), .val (.ref a1)] [(.ref a1), (.long w2), (.long (w1 + w3)), (.ref b117), (.ref b117)])) _
    refine st133 _ ?_
    show Steps p.tables e below (T133.setTop (mkF m 21 #[.val (.ref a0), .val (.ref a1)] [(.long w4), (.long w2), (.long (w1 + w3)), (.ref b117), (.ref b117)])) _
    refine XS.ladd X133.here hx rfl (hb hby d4_21) rfl ?_
    show Steps p.tables e below (T133.setTop (mkF m 22 #[.val (.ref a0), .val (.ref a1)] [(.long (w2 + w4)), (.long (w1 + w3)), (.ref b117), (.ref b117)])) _
    refine st134.trans ?_
    show Steps p.tables e below (T134.setTop (mkF m 25 #[.val (.ref a0), .val (.ref a1)] [(.ref b117)])) _
    exact retA X134 hx rfl rfl Bd.returns (hb hby d4_25) hr
  ·
    show Q_rm4 Z a0 a1 w1 w2 w3 w4 h0 n0 _ T134.heap _
    exact ⟨b117, rfl, N134, K143, sz121, f135, f136, f137⟩
theorem d5_0 : decode prog_33_method_6_code 0 = .ok (.aload_n 0, 1) := by decide +kernel
theorem d5_1 : decode prog_33_method_6_code 1 = .ok (.getfield 7, 3) := by decide +kernel
theorem d5_4 : decode prog_33_method_6_code 4 = .ok (.lreturn, 1) := by decide +kernel
theorem ef_rm5 (m : MethodId) (a0 : Addr) : entryFrame m #[(.ref a0)] 1 = mkF m 0 #[.val (.ref a0)] [] := by first | (simp [entryFrame, mkF, argsToLocals, Value.category]; done) | rfl
def Q_rm5 (Z : State) (a0 : Addr) (w : Int64) (h0 : Heap) (n0 : Nat) (v : Option Value) (h : Heap) (L : List Loc) : Prop := v = some (.long w) ∧ Fr n0 L ∧ h = h0
set_option maxRecDepth 65536 in
set_option maxHeartbeats 40000000 in
theorem rm5 (l : Launch) (Z : State) (aw : Array Value) (hw : ∀ d ∈ tables_1, d.before aw Z = true) (ws : List Jvm.Cond) (a0 : Addr) (w : Int64) (h0 : Heap) (n0 : Nat) (Z0 : n0 ≤ h0.size) (F_a0_versions : Fld Z h0 a0 "com/example/reliquary/reliquary/Fixity$Tally" "versions" "J" (.long w)) :
    MetFree l (⟨"com/example/reliquary/reliquary/Fixity$Tally", "versions", "()J"⟩ : MethodName) (head1 (Jvm.Cond.code (⟨"com/example/reliquary/reliquary/Fixity$Tally", "versions", "()J"⟩ : MethodName) prog_33_method_6_code 1 (some .long) :: ws) ({ frames := 0, cells := 0, slots := 0, locals := 0 } : Room)) (fun a U => a = #[(.ref a0)] ∧ Z.Warmed39 U.vm ∧ U.heap = h0) (fun _ _ _ _ _ => True) (fun _ U o U' => ∃ v L, o = .returned v ∧ Q_rm5 Z a0 w h0 n0 v U'.heap L ∧ FrameEnd U o U' L ({ frames := 0, cells := 0, slots := 0, locals := 0 } : Room).cells ({ frames := 0, cells := 0, slots := 0, locals := 0 } : Room).slots) := by
  refine MetFree.of_bodySF (plainFor_of_name pn_1) hisR ?_
  intro p e s m args below meth c s₁ Bd hml0 hP hK
  obtain ⟨rfl, hZ, hh⟩ := hP
  have hx := Bd.exec
  have hby := Bd.bytes
  have hml : c.maxLocals = 1 := hml0
  have hown : s.vm.findClass "com/example/reliquary/reliquary/Fixity$Tally" = some m.cls := findClass_of_methodNamed Bd.named
  have hnm := (name_of_methodNamed Bd.named Bd.method).1
  have X0 : Stand p l e ({ frames := 0, cells := 0, slots := 0, locals := 0 } : Room) s m #[(.ref a0)] below meth c s₁ [] 0 0 := Stand.of_body Bd
  have e0 : s₁.heap = h0 := by rw [← hh, Bd.state]; rfl
  have N0 := Fr.nil n0
  have pre0 : ∀ t, Steps p.tables e below (s₁.setTop (mkF m 0 #[.val (.ref a0)] [])) t → Steps p.tables e below (s₁.setTop (entryFrame m #[(.ref a0)] 1)) t := fun t k => castTop (ef_rm5 m a0) k
  obtain ⟨T144, X144, e144, st144⟩ := getF X0 hx hZ hown (host := "") (Or.inl (hw _ (List.mem_of_getElem? (i := 14) rfl))) Via.refl e0 F_a0_versions (g := (mkF m 1 #[.val (.ref a0)] [(.ref a0)])) rfl rfl (hb hby d5_1)
  obtain ⟨fs, hr, hrun, hended, hW, hsame⟩ := X144.leave (v := some (.long w)) (fun h => by rw [Bd.returns] at h; cases h)
  refine ⟨_, _, pre0 _ ?_, hrun, hended, _, _, rfl, ?_, ⟨_, rfl⟩, hW, hsame.mono (by decide) (by decide)⟩
  ·
    show Steps p.tables e below (s₁.setTop (mkF m 0 #[.val (.ref a0)] [])) _
    refine XS.aloadN X0.here hx rfl (hb hby d5_0) rfl rfl ?_
    show Steps p.tables e below (s₁.setTop (mkF m 1 #[.val (.ref a0)] [(.ref a0)])) _
    refine st144 _ ?_
    show Steps p.tables e below (T144.setTop (mkF m 4 #[.val (.ref a0)] [(.long w)])) _
    exact retJ X144 hx Bd.returns (hb hby d5_4) hr
  ·
    show Q_rm5 Z a0 w h0 n0 _ T144.heap _
    rw [e144]
    exact ⟨rfl, N0, rfl⟩
theorem d6_0 : decode prog_33_method_7_code 0 = .ok (.aload_n 0, 1) := by decide +kernel
theorem d6_1 : decode prog_33_method_7_code 1 = .ok (.getfield 13, 3) := by decide +kernel
theorem d6_4 : decode prog_33_method_7_code 4 = .ok (.lreturn, 1) := by decide +kernel
theorem ef_rm6 (m : MethodId) (a0 : Addr) : entryFrame m #[(.ref a0)] 1 = mkF m 0 #[.val (.ref a0)] [] := by first | (simp [entryFrame, mkF, argsToLocals, Value.category]; done) | rfl
def Q_rm6 (Z : State) (a0 : Addr) (w : Int64) (h0 : Heap) (n0 : Nat) (v : Option Value) (h : Heap) (L : List Loc) : Prop := v = some (.long w) ∧ Fr n0 L ∧ h = h0
set_option maxRecDepth 65536 in
set_option maxHeartbeats 40000000 in
theorem rm6 (l : Launch) (Z : State) (aw : Array Value) (hw : ∀ d ∈ tables_1, d.before aw Z = true) (ws : List Jvm.Cond) (a0 : Addr) (w : Int64) (h0 : Heap) (n0 : Nat) (Z0 : n0 ≤ h0.size) (F_a0_failures : Fld Z h0 a0 "com/example/reliquary/reliquary/Fixity$Tally" "failures" "J" (.long w)) :
    MetFree l (⟨"com/example/reliquary/reliquary/Fixity$Tally", "failures", "()J"⟩ : MethodName) (head1 (Jvm.Cond.code (⟨"com/example/reliquary/reliquary/Fixity$Tally", "failures", "()J"⟩ : MethodName) prog_33_method_7_code 1 (some .long) :: ws) ({ frames := 0, cells := 0, slots := 0, locals := 0 } : Room)) (fun a U => a = #[(.ref a0)] ∧ Z.Warmed39 U.vm ∧ U.heap = h0) (fun _ _ _ _ _ => True) (fun _ U o U' => ∃ v L, o = .returned v ∧ Q_rm6 Z a0 w h0 n0 v U'.heap L ∧ FrameEnd U o U' L ({ frames := 0, cells := 0, slots := 0, locals := 0 } : Room).cells ({ frames := 0, cells := 0, slots := 0, locals := 0 } : Room).slots) := by
  refine MetFree.of_bodySF (plainFor_of_name pn_1) hisR ?_
  intro p e s m args below meth c s₁ Bd hml0 hP hK
  obtain ⟨rfl, hZ, hh⟩ := hP
  have hx := Bd.exec
  have hby := Bd.bytes
  have hml : c.maxLocals = 1 := hml0
  have hown : s.vm.findClass "com/example/reliquary/reliquary/Fixity$Tally" = some m.cls := findClass_of_methodNamed Bd.named
  have hnm := (name_of_methodNamed Bd.named Bd.method).1
  have X0 : Stand p l e ({ frames := 0, cells := 0, slots := 0, locals := 0 } : Room) s m #[(.ref a0)] below meth c s₁ [] 0 0 := Stand.of_body Bd
  have e0 : s₁.heap = h0 := by rw [← hh, Bd.state]; rfl
  have N0 := Fr.nil n0
  have pre0 : ∀ t, Steps p.tables e below (s₁.setTop (mkF m 0 #[.val (.ref a0)] [])) t → Steps p.tables e below (s₁.setTop (entryFrame m #[(.ref a0)] 1)) t := fun t k => castTop (ef_rm6 m a0) k
  obtain ⟨T145, X145, e145, st145⟩ := getF X0 hx hZ hown (host := "") (Or.inl (hw _ (List.mem_of_getElem? (i := 16) rfl))) Via.refl e0 F_a0_failures (g := (mkF m 1 #[.val (.ref a0)] [(.ref a0)])) rfl rfl (hb hby d6_1)
  obtain ⟨fs, hr, hrun, hended, hW, hsame⟩ := X145.leave (v := some (.long w)) (fun h => by rw [Bd.returns] at h; cases h)
  refine ⟨_, _, pre0 _ ?_, hrun, hended, _, _, rfl, ?_, ⟨_, rfl⟩, hW, hsame.mono (by decide) (by decide)⟩
  ·
    show Steps p.tables e below (s₁.setTop (mkF m 0 #[.val (.ref a0)] [])) _
    refine XS.aloadN X0.here hx rfl (hb hby d6_0) rfl rfl ?_
    show Steps p.tables e below (s₁.setTop (mkF m 1 #[.val (.ref a0)] [(.ref a0)])) _
    refine st145 _ ?_
    show Steps p.tables e below (T145.setTop (mkF m 4 #[.val (.ref a0)] [(.long w)])) _
    exact retJ X145 hx Bd.returns (hb hby d6_4) hr
  ·
    show Q_rm6 Z a0 w h0 n0 _ T145.heap _
    rw [e145]
    exact ⟨rfl, N0, rfl⟩
theorem pd_2 : parseMethodDescriptor "(Lcom/example/reliquary/reliquary/Fixity$Tally;)Lcom/example/reliquary/reliquary/Fixity$Tally;" = some ⟨[(.object "com/example/reliquary/reliquary/Fixity$Tally")], some (.object "com/example/reliquary/reliquary/Fixity$Tally")⟩ := by decide +kernel
theorem pd_3 : parseMethodDescriptor "()J" = some ⟨[], some .long⟩ := by decide +kernel
theorem pn_2 : plainName "com/example/reliquary/reliquary/TallyPlusPinLaw" = true := by first | (simp [plainName, overriddenIn]; done) | decide +kernel
theorem ef_rm0 (m : MethodId) (q0 : Int64) (q1 : Int64) (q2 : Int64) (q3 : Int64) : entryFrame m #[(.long q0), (.long q1), (.long q2), (.long q3)] maxLocals = mkF m 0 #[.val (.long q0), .second, .val (.long q1), .second, .val (.long q2), .second, .val (.long q3), .second, .unset, .unset, .unset, .unset, .unset, .unset, .unset, .unset, .unset, .unset] [] := by first | (simp [entryFrame, mkF, argsToLocals, Value.category, maxLocals]; done) | rfl
def Q_rm0 (Z : State) (q0 : Int64) (q1 : Int64) (q2 : Int64) (q3 : Int64) (h0 : Heap) (n0 : Nat) (v : Option Value) (h : Heap) (L : List Loc) : Prop := v = some (.int (1 : Int32)) ∧ Fr n0 L
set_option maxRecDepth 65536 in
set_option maxHeartbeats 40000000 in
theorem rm0 (l : Launch) (Z : State) (aw : Array Value) (hw : ∀ d ∈ tables_1, d.before aw Z = true) (ws : List Jvm.Cond) (q0 : Int64) (q1 : Int64) (q2 : Int64) (q3 : Int64) (h0 : Heap) (n0 : Nat) (Z0 : n0 ≤ h0.size) :
    MetFree l x (head1 (Jvm.Cond.code x code maxLocals ret :: ws) room_1) (fun a U => a = #[(.long q0), (.long q1), (.long q2), (.long q3)] ∧ Z.Warmed39 U.vm ∧ U.heap = h0) (fun _ _ _ _ _ => True) (fun _ U o U' => ∃ v L, o = .returned v ∧ Q_rm0 Z q0 q1 q2 q3 h0 n0 v U'.heap L ∧ FrameEnd U o U' L room_1.cells room_1.slots) := by
  refine MetFree.of_bodySF (plainFor_of_name pn_2) hisR ?_
  intro p e s m args below meth c s₁ Bd hml0 hP hK
  obtain ⟨rfl, hZ, hh⟩ := hP
  have hx := Bd.exec
  have hby := Bd.bytes
  have hml : c.maxLocals = 18 := hml0
  have hown : s.vm.findClass "com/example/reliquary/reliquary/TallyPlusPinLaw" = some m.cls := findClass_of_methodNamed Bd.named
  have hnm := (name_of_methodNamed Bd.named Bd.method).1
  have X0 : Stand p l e room_1 s m #[(.long q0), (.long q1), (.long q2), (.long q3)] below meth c s₁ [] 0 0 := Stand.of_body Bd
  have e0 : s₁.heap = h0 := by rw [← hh, Bd.state]; rfl
  have N0 := Fr.nil n0
  have pre0 : ∀ t, Steps p.tables e below (s₁.setTop (mkF m 0 #[.val (.long q0), .second, .val (.long q1), .second, .val (.long q2), .second, .val (.long q3), .second, .unset, .unset, .unset, .unset, .unset, .unset, .unset, .unset, .unset, .unset] [])) t → Steps p.tables e below (s₁.setTop (entryFrame m #[(.long q0), (.long q1), (.long q2), (.long q3)] maxLocals)) t := fun t k => castTop (ef_rm0 m q0 q1 q2 q3) k
  obtain ⟨T146, h146, X146, e146, E146, A146, D146, -, st146⟩ := newO X0 hx hZ hown (hw _ (List.mem_of_getElem? (i := 0) rfl)) (hw _ (List.mem_of_getElem? (i := 1) rfl)) (hw _ (List.mem_of_getElem? (i := 2) rfl)) e0 (g := (mkF m 0 #[.val (.long q0), .second, .val (.long q1), .second, .val (.long q2), .second, .val (.long q3), .second, .unset, .unset, .unset, .unset, .unset, .unset, .unset, .unset, .unset, .unset] [])) rfl (hb hby at_0) (by decide) (by decide)
  obtain ⟨b146, g146⟩ : ∃ z, z = h0.size := ⟨_, rfl⟩
  rw [← g146] at A146 D146 st146
  have gn147 : n0 ≤ b146 := Nat.le_trans Z0 (Nat.le_of_eq g146.symm)
  have Z148 : n0 ≤ h146.size := Nat.le_trans Z0 E146.1
  have f149 : Fld Z h146 b146 "com/example/reliquary/reliquary/Fixity$Tally" "versions" "J" (.long (0 : Int64)) := D146 (Or.inr (hw _ (List.mem_of_getElem? (i := 15) rfl))) (ty := .long) (by decide)
  have f150 : Fld Z h146 b146 "com/example/reliquary/reliquary/Fixity$Tally" "failures" "J" (.long (0 : Int64)) := D146 (Or.inr (hw _ (List.mem_of_getElem? (i := 17) rfl))) (ty := .long) (by decide)
  obtain ⟨_, _, ⟨T151, L151, k151, n151⟩, -, X151, ⟨Lc151, hQ151, l151, y151, z151⟩, st151⟩ := X146.specialBack hx (y := (⟨"com/example/reliquary/reliquary/Fixity$Tally", "<init>", "(JJ)V"⟩ : MethodName)) rfl hown (mvT hZ (hw _ (List.mem_of_getElem? (i := 3) rfl))) (mvT hZ (hw _ (List.mem_of_getElem? (i := 4) rfl))) (mvT hZ (hw _ (List.mem_of_getElem? (i := 5) rfl))) (by decide) (backOf (W := 1) (rm1 l Z aw hw [] b146 q0 q1 h146 n0 Z148 A146 f149 f150 gn147) hZ (hw _ (List.mem_of_getElem? (i := 5) rfl)) (hw _ (List.mem_of_getElem? (i := 2) rfl)) (by decide) (by decide)) (g := (mkF m 6 #[.val (.long q0), .second, .val (.long q1), .second, .val (.long q2), .second, .val (.long q3), .second, .unset, .unset, .unset, .unset, .unset, .unset, .unset, .unset, .unset, .unset] [(.long q1), (.long q0), (.ref b146), (.ref b146)])) rfl (by rw [hml]; rfl) (Steps.refl _) (a := b146) (argsL := [(.long q0), (.long q1)]) (rest := [(.ref b146)]) (lenOf pd_1 rfl) rfl (by show 2 * 0 + _ ≤ _; exact Nat.le_of_eq rfl) (hb hby at_6) (fun _ _ => ⟨rfl, e146, (by decide : 1 + 0 ≤ _), (by decide : 2 + 0 ≤ _)⟩)
  dsimp only [Pt.U, Pt.locs, Pt.cells, Pt.slots] at X151 l151 y151 z151 st151 hQ151
  subst l151 y151 z151
  obtain ⟨rfl, N151q, K151, f152, f153, f154⟩ := hQ151
  have N151 := Fr.app N0 N151q
  have Z155 : n0 ≤ T151.heap.size := Nat.le_trans Z148 K151.1
  obtain ⟨T156, h156, X156, e156, E156, A156, D156, -, st156⟩ := newO X151 hx hZ hown (hw _ (List.mem_of_getElem? (i := 0) rfl)) (hw _ (List.mem_of_getElem? (i := 1) rfl)) (hw _ (List.mem_of_getElem? (i := 2) rfl)) rfl (g := (mkF m 11 #[.val (.long q0), .second, .val (.long q1), .second, .val (.long q2), .second, .val (.long q3), .second, .val (.ref b146), .unset, .unset, .unset, .unset, .unset, .unset, .unset, .unset, .unset] [])) rfl (hb hby at_11) (by decide) (by decide)
  obtain ⟨b156, g156⟩ : ∃ z, z = T151.heap.size := ⟨_, rfl⟩
  rw [← g156] at A156 D156 st156
  have ne157 : b146 ≠ b156 := Nat.ne_of_lt (Nat.lt_of_lt_of_le f152.lt (Nat.le_of_eq g156.symm))
  have gn158 : n0 ≤ b156 := Nat.le_trans Z155 (Nat.le_of_eq g156.symm)
  have f159 := f152.ext E156
  have f160 := f153.ext E156
  have f161 := f154.ext E156
  have Z162 : n0 ≤ h156.size := Nat.le_trans Z155 E156.1
  have f163 : Fld Z h156 b156 "com/example/reliquary/reliquary/Fixity$Tally" "versions" "J" (.long (0 : Int64)) := D156 (Or.inr (hw _ (List.mem_of_getElem? (i := 15) rfl))) (ty := .long) (by decide)
  have f164 : Fld Z h156 b156 "com/example/reliquary/reliquary/Fixity$Tally" "failures" "J" (.long (0 : Int64)) := D156 (Or.inr (hw _ (List.mem_of_getElem? (i := 17) rfl))) (ty := .long) (by decide)
  obtain ⟨_, _, ⟨T165, L165, k165, n165⟩, -, X165, ⟨Lc165, hQ165, l165, y165, z165⟩, st165⟩ := X156.specialBack hx (y := (⟨"com/example/reliquary/reliquary/Fixity$Tally", "<init>", "(JJ)V"⟩ : MethodName)) rfl hown (mvT hZ (hw _ (List.mem_of_getElem? (i := 3) rfl))) (mvT hZ (hw _ (List.mem_of_getElem? (i := 4) rfl))) (mvT hZ (hw _ (List.mem_of_getElem? (i := 5) rfl))) (by decide) (backOf (W := 1) (rm1 l Z aw hw [] b156 q2 q3 h156 n0 Z162 A156 f163 f164 gn158) hZ (hw _ (List.mem_of_getElem? (i := 5) rfl)) (hw _ (List.mem_of_getElem? (i := 2) rfl)) (by decide) (by decide)) (g := (mkF m 19 #[.val (.long q0), .second, .val (.long q1), .second, .val (.long q2), .second, .val (.long q3), .second, .val (.ref b146), .unset, .unset, .unset, .unset, .unset, .unset, .unset, .unset, .unset] [(.long q3), (.long q2), (.ref b156), (.ref b156)])) rfl (by rw [hml]; rfl) (Steps.refl _) (a := b156) (argsL := [(.long q2), (.long q3)]) (rest := [(.ref b156)]) (lenOf pd_1 rfl) rfl (by show 2 * 0 + _ ≤ _; exact Nat.le_of_eq rfl) (hb hby at_19) (fun _ _ => ⟨rfl, e156, (by decide : 2 + 0 ≤ _), (by decide : 4 + 0 ≤ _)⟩)
  dsimp only [Pt.U, Pt.locs, Pt.cells, Pt.slots] at X165 l165 y165 z165 st165 hQ165
  subst l165 y165 z165
  obtain ⟨rfl, N165q, K165, f166, f167, f168⟩ := hQ165
  have N165 := Fr.app N151 N165q
  have f169 := f159.keep K165
  have f170 := f160.keep K165 (ninS ne157 nin0)
  have f171 := f161.keep K165 (ninS ne157 nin0)
  have Z172 : n0 ≤ T165.heap.size := Nat.le_trans Z162 K165.1
  obtain ⟨cq173, kq173, q173a, q173b, q173c⟩ := isOf hZ rfl f169
  obtain ⟨_, _, ⟨T173, L173, k173, n173⟩, -, X173, ⟨Lc173, hQ173, l173, y173, z173⟩, st173⟩ := X165.virtualBack hx (y := (⟨"com/example/reliquary/reliquary/Fixity$Tally", "plus", "(Lcom/example/reliquary/reliquary/Fixity$Tally;)Lcom/example/reliquary/reliquary/Fixity$Tally;"⟩ : MethodName)) (z := (⟨"com/example/reliquary/reliquary/Fixity$Tally", "plus", "(Lcom/example/reliquary/reliquary/Fixity$Tally;)Lcom/example/reliquary/reliquary/Fixity$Tally;"⟩ : MethodName)) hown (mvT hZ (hw _ (List.mem_of_getElem? (i := 18) rfl))) (mvT hZ (hw _ (List.mem_of_getElem? (i := 19) rfl))) (notFace_of_selects (args := #[]) (mvT hZ (hw _ (List.mem_of_getElem? (i := 21) rfl)))) (mvT hZ (hw _ (List.mem_of_getElem? (i := 21) rfl))) (mvT hZ (hw _ (List.mem_of_getElem? (i := 20) rfl))) (by decide) (backOf (W := 0) (rm4 l Z aw hw [] b146 b156 q0 q1 q2 q3 T165.heap n0 Z172 f170 f171 f167 f168) hZ (hw _ (List.mem_of_getElem? (i := 22) rfl)) (hw _ (List.mem_of_getElem? (i := 2) rfl)) (by decide) (by decide)) q173a q173c (g := (mkF m 28 #[.val (.long q0), .second, .val (.long q1), .second, .val (.long q2), .second, .val (.long q3), .second, .val (.ref b146), .val (.ref b156), .unset, .unset, .unset, .unset, .unset, .unset, .unset, .unset] [(.ref b156), (.ref b146)])) rfl (by rw [hml]; rfl) (Steps.refl _) (argsL := [(.ref b156)]) (rest := []) (lenOf pd_2 rfl) rfl (by show 2 * 0 + _ ≤ _; exact Nat.le_of_eq rfl) (hb hby at_28) (fun _ _ => ⟨rfl, rfl, (by decide : 2 + 1 ≤ _), (by decide : 4 + 2 ≤ _)⟩)
  dsimp only [Pt.U, Pt.locs, Pt.cells, Pt.slots] at X173 l173 y173 z173 st173 hQ173
  subst l173 y173 z173
  obtain ⟨r173, rfl, N173q, K173, sz173, f174, f175, f176⟩ := hQ173
  have N173 := Fr.app N165 N173q
  have ne177 : b146 ≠ r173 := Nat.ne_of_lt (Nat.lt_of_lt_of_le f169.lt sz173)
  have ne178 : b156 ≠ r173 := Nat.ne_of_lt (Nat.lt_of_lt_of_le f166.lt sz173)
  have gn179 : n0 ≤ r173 := Nat.le_trans Z172 sz173
  have f180 := f169.keep K173
  have f181 := f170.keep K173 nin0
  have f182 := f171.keep K173 nin0
  have f183 := f166.keep K173
  have f184 := f167.keep K173 nin0
  have f185 := f168.keep K173 nin0
  have Z186 : n0 ≤ T173.heap.size := Nat.le_trans Z172 K173.1
  obtain ⟨cq187, kq187, q187a, q187b, q187c⟩ := isOf hZ rfl f183
  obtain ⟨_, _, ⟨T187, L187, k187, n187⟩, -, X187, ⟨Lc187, hQ187, l187, y187, z187⟩, st187⟩ := X173.virtualBack hx (y := (⟨"com/example/reliquary/reliquary/Fixity$Tally", "plus", "(Lcom/example/reliquary/reliquary/Fixity$Tally;)Lcom/example/reliquary/reliquary/Fixity$Tally;"⟩ : MethodName)) (z := (⟨"com/example/reliquary/reliquary/Fixity$Tally", "plus", "(Lcom/example/reliquary/reliquary/Fixity$Tally;)Lcom/example/reliquary/reliquary/Fixity$Tally;"⟩ : MethodName)) hown (mvT hZ (hw _ (List.mem_of_getElem? (i := 18) rfl))) (mvT hZ (hw _ (List.mem_of_getElem? (i := 19) rfl))) (notFace_of_selects (args := #[]) (mvT hZ (hw _ (List.mem_of_getElem? (i := 21) rfl)))) (mvT hZ (hw _ (List.mem_of_getElem? (i := 21) rfl))) (mvT hZ (hw _ (List.mem_of_getElem? (i := 20) rfl))) (by decide) (backOf (W := 0) (rm4 l Z aw hw [] b156 b146 q2 q3 q0 q1 T173.heap n0 Z186 f184 f185 f181 f182) hZ (hw _ (List.mem_of_getElem? (i := 22) rfl)) (hw _ (List.mem_of_getElem? (i := 2) rfl)) (by decide) (by decide)) q187a q187c (g := (mkF m 37 #[.val (.long q0), .second, .val (.long q1), .second, .val (.long q2), .second, .val (.long q3), .second, .val (.ref b146), .val (.ref b156), .val (.ref r173), .unset, .unset, .unset, .unset, .unset, .unset, .unset] [(.ref b146), (.ref b156)])) rfl (by rw [hml]; rfl) (Steps.refl _) (argsL := [(.ref b146)]) (rest := []) (lenOf pd_2 rfl) rfl (by show 2 * 0 + _ ≤ _; exact Nat.le_of_eq rfl) (hb hby at_37) (fun _ _ => ⟨rfl, rfl, (by decide : 3 + 1 ≤ _), (by decide : 6 + 2 ≤ _)⟩)
  dsimp only [Pt.U, Pt.locs, Pt.cells, Pt.slots] at X187 l187 y187 z187 st187 hQ187
  subst l187 y187 z187
  obtain ⟨r187, rfl, N187q, K187, sz187, f188, f189, f190⟩ := hQ187
  have N187 := Fr.app N173 N187q
  have ne191 : b146 ≠ r187 := Nat.ne_of_lt (Nat.lt_of_lt_of_le f180.lt sz187)
  have ne192 : b156 ≠ r187 := Nat.ne_of_lt (Nat.lt_of_lt_of_le f183.lt sz187)
  have ne193 : r173 ≠ r187 := Nat.ne_of_lt (Nat.lt_of_lt_of_le f174.lt sz187)
  have gn194 : n0 ≤ r187 := Nat.le_trans Z186 sz187
  have f195 := f180.keep K187
  have f196 := f181.keep K187 nin0
  have f197 := f182.keep K187 nin0
  have f198 := f183.keep K187
  have f199 := f184.keep K187 nin0
  have f200 := f185.keep K187 nin0
  have f201 := f174.keep K187
  have f202 := f175.keep K187 nin0
  have f203 := f176.keep K187 nin0
  have Z204 : n0 ≤ T187.heap.size := Nat.le_trans Z186 K187.1
  obtain ⟨cq205, kq205, q205a, q205b, q205c⟩ := isOf hZ rfl f201
  obtain ⟨_, _, ⟨T205, L205, k205, n205⟩, -, X205, ⟨Lc205, hQ205, l205, y205, z205⟩, st205⟩ := X187.virtualBack hx (y := (⟨"com/example/reliquary/reliquary/Fixity$Tally", "versions", "()J"⟩ : MethodName)) (z := (⟨"com/example/reliquary/reliquary/Fixity$Tally", "versions", "()J"⟩ : MethodName)) hown (mvT hZ (hw _ (List.mem_of_getElem? (i := 25) rfl))) (mvT hZ (hw _ (List.mem_of_getElem? (i := 26) rfl))) (notFace_of_selects (args := #[]) (mvT hZ (hw _ (List.mem_of_getElem? (i := 28) rfl)))) (mvT hZ (hw _ (List.mem_of_getElem? (i := 28) rfl))) (mvT hZ (hw _ (List.mem_of_getElem? (i := 27) rfl))) (by decide) (backOf (W := 0) (rm5 l Z aw hw [] r173 ((q0 + q2)) T187.heap n0 Z204 f202) hZ (hw _ (List.mem_of_getElem? (i := 29) rfl)) (hw _ (List.mem_of_getElem? (i := 2) rfl)) (by decide) (by decide)) q205a q205c (g := (mkF m 44 #[.val (.long q0), .second, .val (.long q1), .second, .val (.long q2), .second, .val (.long q3), .second, .val (.ref b146), .val (.ref b156), .val (.ref r173), .val (.ref r187), .unset, .unset, .unset, .unset, .unset, .unset] [(.ref r173)])) rfl (by rw [hml]; rfl) (Steps.refl _) (argsL := []) (rest := []) (lenOf pd_3 rfl) rfl (by show 2 * 0 + _ ≤ _; exact Nat.le_of_eq rfl) (hb hby at_44) (fun _ _ => ⟨rfl, rfl, (by decide : 4 + 0 ≤ _), (by decide : 8 + 0 ≤ _)⟩)
  dsimp only [Pt.U, Pt.locs, Pt.cells, Pt.slots] at X205 l205 y205 z205 st205 hQ205
  subst l205 y205 z205
  obtain ⟨rfl, N205q, e205⟩ := hQ205
  have N205 := Fr.app N187 N205q
  obtain ⟨cq206, kq206, q206a, q206b, q206c⟩ := isOf hZ e205 f201
  obtain ⟨_, _, ⟨T206, L206, k206, n206⟩, -, X206, ⟨Lc206, hQ206, l206, y206, z206⟩, st206⟩ := X205.virtualBack hx (y := (⟨"com/example/reliquary/reliquary/Fixity$Tally", "failures", "()J"⟩ : MethodName)) (z := (⟨"com/example/reliquary/reliquary/Fixity$Tally", "failures", "()J"⟩ : MethodName)) hown (mvT hZ (hw _ (List.mem_of_getElem? (i := 30) rfl))) (mvT hZ (hw _ (List.mem_of_getElem? (i := 31) rfl))) (notFace_of_selects (args := #[]) (mvT hZ (hw _ (List.mem_of_getElem? (i := 33) rfl)))) (mvT hZ (hw _ (List.mem_of_getElem? (i := 33) rfl))) (mvT hZ (hw _ (List.mem_of_getElem? (i := 32) rfl))) (by decide) (backOf (W := 0) (rm6 l Z aw hw [] r173 ((q1 + q3)) T187.heap n0 Z204 f203) hZ (hw _ (List.mem_of_getElem? (i := 34) rfl)) (hw _ (List.mem_of_getElem? (i := 2) rfl)) (by decide) (by decide)) q206a q206c (g := (mkF m 51 #[.val (.long q0), .second, .val (.long q1), .second, .val (.long q2), .second, .val (.long q3), .second, .val (.ref b146), .val (.ref b156), .val (.ref r173), .val (.ref r187), .val (.long (q0 + q2)), .second, .unset, .unset, .unset, .unset] [(.ref r173)])) rfl (by rw [hml]; rfl) (Steps.refl _) (argsL := []) (rest := []) (lenOf pd_3 rfl) rfl (by show 2 * 0 + _ ≤ _; exact Nat.le_of_eq rfl) (hb hby at_51) (fun _ _ => ⟨rfl, e205, (by decide : 4 + 0 ≤ _), (by decide : 8 + 0 ≤ _)⟩)
  dsimp only [Pt.U, Pt.locs, Pt.cells, Pt.slots] at X206 l206 y206 z206 st206 hQ206
  subst l206 y206 z206
  obtain ⟨rfl, N206q, e206⟩ := hQ206
  have N206 := Fr.app N205 N206q
  have c207 : ((q0 + q2) - q2) = q0 := by
    exact Int64.add_sub_cancel _ _
  have c208 : ((q1 + q3) - q3) = q1 := by
    exact Int64.add_sub_cancel _ _
  obtain ⟨cq209, kq209, q209a, q209b, q209c⟩ := isOf hZ e206 f188
  obtain ⟨_, _, ⟨T209, L209, k209, n209⟩, -, X209, ⟨Lc209, hQ209, l209, y209, z209⟩, st209⟩ := X206.virtualBack hx (y := (⟨"com/example/reliquary/reliquary/Fixity$Tally", "versions", "()J"⟩ : MethodName)) (z := (⟨"com/example/reliquary/reliquary/Fixity$Tally", "versions", "()J"⟩ : MethodName)) hown (mvT hZ (hw _ (List.mem_of_getElem? (i := 25) rfl))) (mvT hZ (hw _ (List.mem_of_getElem? (i := 26) rfl))) (notFace_of_selects (args := #[]) (mvT hZ (hw _ (List.mem_of_getElem? (i := 28) rfl)))) (mvT hZ (hw _ (List.mem_of_getElem? (i := 28) rfl))) (mvT hZ (hw _ (List.mem_of_getElem? (i := 27) rfl))) (by decide) (backOf (W := 0) (rm5 l Z aw hw [] r187 ((q2 + q0)) T187.heap n0 Z204 f189) hZ (hw _ (List.mem_of_getElem? (i := 29) rfl)) (hw _ (List.mem_of_getElem? (i := 2) rfl)) (by decide) (by decide)) q209a q209c (g := (mkF m 85 #[.val (.long q0), .second, .val (.long q1), .second, .val (.long q2), .second, .val (.long q3), .second, .val (.ref b146), .val (.ref b156), .val (.ref r173), .val (.ref r187), .val (.long (q0 + q2)), .second, .val (.long (q1 + q3)), .second, .val (.int (1 : Int32)), .unset] [(.ref r187)])) rfl (by rw [hml]; rfl) (Steps.refl _) (argsL := []) (rest := []) (lenOf pd_3 rfl) rfl (by show 2 * 0 + _ ≤ _; exact Nat.le_of_eq rfl) (hb hby at_85) (fun _ _ => ⟨rfl, e206, (by decide : 4 + 0 ≤ _), (by decide : 8 + 0 ≤ _)⟩)
  dsimp only [Pt.U, Pt.locs, Pt.cells, Pt.slots] at X209 l209 y209 z209 st209 hQ209
  subst l209 y209 z209
  obtain ⟨rfl, N209q, e209⟩ := hQ209
  have N209 := Fr.app N206 N209q
  have c210 : (q2 + q0) = (q0 + q2) := by
    exact Int64.add_comm _ _
  obtain ⟨cq211, kq211, q211a, q211b, q211c⟩ := isOf hZ e209 f188
  obtain ⟨_, _, ⟨T211, L211, k211, n211⟩, -, X211, ⟨Lc211, hQ211, l211, y211, z211⟩, st211⟩ := X209.virtualBack hx (y := (⟨"com/example/reliquary/reliquary/Fixity$Tally", "failures", "()J"⟩ : MethodName)) (z := (⟨"com/example/reliquary/reliquary/Fixity$Tally", "failures", "()J"⟩ : MethodName)) hown (mvT hZ (hw _ (List.mem_of_getElem? (i := 30) rfl))) (mvT hZ (hw _ (List.mem_of_getElem? (i := 31) rfl))) (notFace_of_selects (args := #[]) (mvT hZ (hw _ (List.mem_of_getElem? (i := 33) rfl)))) (mvT hZ (hw _ (List.mem_of_getElem? (i := 33) rfl))) (mvT hZ (hw _ (List.mem_of_getElem? (i := 32) rfl))) (by decide) (backOf (W := 0) (rm6 l Z aw hw [] r187 ((q3 + q1)) T187.heap n0 Z204 f190) hZ (hw _ (List.mem_of_getElem? (i := 34) rfl)) (hw _ (List.mem_of_getElem? (i := 2) rfl)) (by decide) (by decide)) q211a q211c (g := (mkF m 96 #[.val (.long q0), .second, .val (.long q1), .second, .val (.long q2), .second, .val (.long q3), .second, .val (.ref b146), .val (.ref b156), .val (.ref r173), .val (.ref r187), .val (.long (q0 + q2)), .second, .val (.long (q1 + q3)), .second, .val (.int (1 : Int32)), .unset] [(.ref r187)])) rfl (by rw [hml]; rfl) (Steps.refl _) (argsL := []) (rest := []) (lenOf pd_3 rfl) rfl (by show 2 * 0 + _ ≤ _; exact Nat.le_of_eq rfl) (hb hby at_96) (fun _ _ => ⟨rfl, e209, (by decide : 4 + 0 ≤ _), (by decide : 8 + 0 ≤ _)⟩)
  dsimp only [Pt.U, Pt.locs, Pt.cells, Pt.slots] at X211 l211 y211 z211 st211 hQ211
  subst l211 y211 z211
  obtain ⟨rfl, N211q, e211⟩ := hQ211
  have N211 := Fr.app N209 N211q
  have c212 : (q3 + q1) = (q1 + q3) := by
    exact Int64.add_comm _ _
  obtain ⟨fs, hr, hrun, hended, hW, hsame⟩ := X211.leave (v := some (.int (1 : Int32))) (fun h => by rw [Bd.returns] at h; cases h)
  refine ⟨_, _, pre0 _ ?_, hrun, hended, _, _, rfl, ?_, ⟨_, rfl⟩, hW, hsame.mono (by decide) (by decide)⟩
  ·
    show Steps p.tables e below (s₁.setTop (mkF m 0 #[.val (.long q0), .second, .val (.long q1), .second, .val (.long q2), .second, .val (.long q3), .second, .unset, .unset, .unset, .unset, .unset, .unset, .unset, .unset, .unset, .unset] [])) _
    refine st146 _ ?_
    show Steps p.tables e below (T146.setTop (mkF m 3 #[.val (.long q0), .second, .val (.long q1), .second, .val (.long q2), .second, .val (.long q3), .second, .unset, .unset, .unset, .unset, .unset, .unset, .unset, .unset, .unset, .unset] [(.ref b146)])) _
    refine XS.dup X146.here hx rfl (hb hby at_3) rfl rfl ?_
    show Steps p.tables e below (T146.setTop (mkF m 4 #[.val (.long q0), .second, .val (.long q1), .second, .val (.long q2), .second, .val (.long q3), .second, .unset, .unset, .unset, .unset, .unset, .unset, .unset, .unset, .unset, .unset] [(.ref b146), (.ref b146)])) _
    refine XS.lloadN X146.here hx rfl (hb hby at_4) rfl ?_
    show Steps p.tables e below (T146.setTop (mkF m 5 #[.val (.long q0), .second, .val (.long q1), .second, .val (.long q2), .second, .val (.long q3), .second, .unset, .unset, .unset, .unset, .unset, .unset, .unset, .unset, .unset, .unset] [(.long q0), (.ref b146), (.ref b146)])) _
    refine XS.lloadN X146.here hx rfl (hb hby at_5) rfl ?_
    show Steps p.tables e below (T146.setTop (mkF m 6 #[.val (.long q0), .second, .val (.long q1), .second, .val (.long q2), .second, .val (.long q3), .second, .unset, .unset, .unset, .unset, .unset, .unset, .unset, .unset, .unset, .unset] [(.long q1), (.long q0), (.ref b146), (.ref b146)])) _
    refine st151.trans ?_
    show Steps p.tables e below (T151.setTop (mkF m 9 #[.val (.long q0), .second, .val (.long q1), .second, .val (.long q2), .second, .val (.long q3), .second, .unset, .unset, .unset, .unset, .unset, .unset, .unset, .unset, .unset, .unset] [(.ref b146)])) _
    refine XS.astore X151.here hx rfl (hb hby at_9) rfl rfl (l' := #[.val (.long q0), .second, .val (.long q1), .second, .val (.long q2), .second, .val (.long q3), .second, .val (.ref b146), .unset, .unset, .unset, .unset, .unset, .unset, .unset, .unset, .unset]) rfl ?_
    show Steps p.tables e below (T151.setTop (mkF m 11 #[.val (.long q0), .second, .val (.long q1), .second, .val (.long q2), .second, .val (.long q3), .second, .val (.ref b146), .unset, .unset, .unset, .unset, .unset, .unset, .unset, .unset, .unset] [])) _
    refine st156 _ ?_
    show Steps p.tables e below (T156.setTop (mkF m 14 #[.val (.long q0), .second, .val (.long q1), .second, .val (.long q2), .second, .val (.long q3), .second, .val (.ref b146), .unset, .unset, .unset, .unset, .unset, .unset, .unset, .unset, .unset] [(.ref b156)])) _
    refine XS.dup X156.here hx rfl (hb hby at_14) rfl rfl ?_
    show Steps p.tables e below (T156.setTop (mkF m 15 #[.val (.long q0), .second, .val (.long q1), .second, .val (.long q2), .second, .val (.long q3), .second, .val (.ref b146), .unset, .unset, .unset, .unset, .unset, .unset, .unset, .unset, .unset] [(.ref b156), (.ref b156)])) _
    refine XS.lload X156.here hx rfl (hb hby at_15) rfl ?_
    show Steps p.tables e below (T156.setTop (mkF m 17 #[.val (.long q0), .second, .val (.long q1), .second, .val (.long q2), .second, .val (.long q3), .second, .val (.ref b146), .unset, .unset, .unset, .unset, .unset, .unset, .unset, .unset, .unset] [(.long q2), (.ref b156), (.ref b156)])) _
    refine XS.lload X156.here hx rfl (hb hby at_17) rfl ?_
    show Steps p.tables e below (T156.setTop (mkF m 19 #[.val (.long q0), .second, .val (.long q1), .second, .val (.long q2), .second, .val (.long q3), .second, .val (.ref b146), .unset, .unset, .unset, .unset, .unset, .unset, .unset, .unset, .unset] [(.long q3), (.long q2), (.ref b156), (.ref b156)])) _
    refine st165.trans ?_
    show Steps p.tables e below (T165.setTop (mkF m 22 #[.val (.long q0), .second, .val (.long q1), .second, .val (.long q2), .second, .val (.long q3), .second, .val (.ref b146), .unset, .unset, .unset, .unset, .unset, .unset, .unset, .unset, .unset] [(.ref b156)])) _
    refine XS.astore X165.here hx rfl (hb hby at_22) rfl rfl (l' := #[.val (.long q0), .second, .val (.long q1), .second, .val (.long q2), .second, .val (.long q3), .second, .val (.ref b146), .val (.ref b156), .unset, .unset, .unset, .unset, .unset, .unset, .unset, .unset]) rfl ?_
    show Steps p.tables e below (T165.setTop (mkF m 24 #[.val (.long q0), .second, .val (.long q1), .second, .val (.long q2), .second, .val (.long q3), .second, .val (.ref b146), .val (.ref b156), .unset, .unset, .unset, .unset, .unset, .unset, .unset, .unset] [])) _
    refine XS.aload X165.here hx rfl (hb hby at_24) rfl rfl ?_
    show Steps p.tables e below (T165.setTop (mkF m 26 #[.val (.long q0), .second, .val (.long q1), .second, .val (.long q2), .second, .val (.long q3), .second, .val (.ref b146), .val (.ref b156), .unset, .unset, .unset, .unset, .unset, .unset, .unset, .unset] [(.ref b146)])) _
    refine XS.aload X165.here hx rfl (hb hby at_26) rfl rfl ?_
    show Steps p.tables e below (T165.setTop (mkF m 28 #[.val (.long q0), .second, .val (.long q1), .second, .val (.long q2), .second, .val (.long q3), .second, .val (.ref b146), .val (.ref b156), .unset, .unset, .unset, .unset, .unset, .unset, .unset, .unset] [(.ref b156), (.ref b146)])) _
    refine st173.trans ?_
    show Steps p.tables e below (T173.setTop (mkF m 31 #[.val (.long q0), .second, .val (.long q1), .second, .val (.long q2), .second, .val (.long q3), .second, .val (.ref b146), .val (.ref b156), .unset, .unset, .unset, .unset, .unset, .unset, .unset, .unset] [(.ref r173)])) _
    refine XS.astore X173.here hx rfl (hb hby at_31) rfl rfl (l' := #[.val (.long q0), .second, .val (.long q1), .second, .val (.long q2), .second, .val (.long q3), .second, .val (.ref b146), .val (.ref b156), .val (.ref r173), .unset, .unset, .unset, .unset, .unset, .unset, .unset]) rfl ?_
    show Steps p.tables e below (T173.setTop (mkF m 33 #[.val (.long q0), .second, .val (.long q1), .second, .val (.long q2), .second, .val (.long q3), .second, .val (.ref b146), .val (.ref b156), .val (.ref r173), .unset, .unset, .unset, .unset, .unset, .unset, .unset] [])) _
    refine XS.aload X173.here hx rfl (hb hby at_33) rfl rfl ?_
    show Steps p.tables e below (T173.setTop (mkF m 35 #[.val (.long q0), .second, .val (.long q1), .second, .val (.long q2), .second, .val (.long q3), .second, .val (.ref b146), .val (.ref b156), .val (.ref r173), .unset, .unset, .unset, .unset, .unset, .unset, .unset] [(.ref b156)])) _
    refine XS.aload X173.here hx rfl (hb hby at_35) rfl rfl ?_
    show Steps p.tables e below (T173.setTop (mkF m 37 #[.val (.long q0), .second, .val (.long q1), .second, .val (.long q2), .second, .val (.long q3), .second, .val (.ref b146), .val (.ref b156), .val (.ref r173), .unset, .unset, .unset, .unset, .unset, .unset, .unset] [(.ref b146), (.ref b156)])) _
    refine st187.trans ?_
    show Steps p.tables e below (T187.setTop (mkF m 40 #[.val (.long q0), .second, .val (.long q1), .second, .val (.long q2), .second, .val (.long q3), .second, .val (.ref b146), .val (.ref b156), .val (.ref r173), .unset, .unset, .unset, .unset, .unset, .unset, .unset] [(.ref r187)])) _
    refine XS.astore X187.here hx rfl (hb hby at_40) rfl rfl (l' := #[.val (.long q0), .second, .val (.long q1), .second, .val (.long q2), .second, .val (.long q3), .second, .val (.ref b146), .val (.ref b156), .val (.ref r173), .val (.ref r187), .unset, .unset, .unset, .unset, .unset, .unset]) rfl ?_
    show Steps p.tables e below (T187.setTop (mkF m 42 #[.val (.long q0), .second, .val (.long q1), .second, .val (.long q2), .second, .val (.long q3), .second, .val (.ref b146), .val (.ref b156), .val (.ref r173), .val (.ref r187), .unset, .unset, .unset, .unset, .unset, .unset] [])) _
    refine XS.aload X187.here hx rfl (hb hby at_42) rfl rfl ?_
    show Steps p.tables e below (T187.setTop (mkF m 44 #[.val (.long q0), .second, .val (.long q1), .second, .val (.long q2), .second, .val (.long q3), .second, .val (.ref b146), .val (.ref b156), .val (.ref r173), .val (.ref r187), .unset, .unset, .unset, .unset, .unset, .unset] [(.ref r173)])) _
    refine st205.trans ?_
    show Steps p.tables e below (T205.setTop (mkF m 47 #[.val (.long q0), .second, .val (.long q1), .second, .val (.long q2), .second, .val (.long q3), .second, .val (.ref b146), .val (.ref b156), .val (.ref r173), .val (.ref r187), .unset, .unset, .unset, .unset, .unset, .unset] [(.long (q0 + q2))])) _
    refine XS.lstore X205.here hx rfl (hb hby at_47) rfl (l' := #[.val (.long q0), .second, .val (.long q1), .second, .val (.long q2), .second, .val (.long q3), .second, .val (.ref b146), .val (.ref b156), .val (.ref r173), .val (.ref r187), .val (.long (q0 + q2)), .second, .unset, .unset, .unset, .unset]) rfl ?_
    show Steps p.tables e below (T205.setTop (mkF m 49 #[.val (.long q0), .second, .val (.long q1), .second, .val (.long q2), .second, .val (.long q3), .second, .val (.ref b146), .val (.ref b156), .val (.ref r173), .val (.ref r187), .val (.long (q0 + q2)), .second, .unset, .unset, .unset, .unset] [])) _
    refine XS.aload X205.here hx rfl (hb hby at_49) rfl rfl ?_
    show Steps p.tables e below (T205.setTop (mkF m 51 #[.val (.long q0), .second, .val (.long q1), .second, .val (.long q2), .second, .val (.long q3), .second, .val (.ref b146), .val (.ref b156), .val (.ref r173), .val (.ref r187), .val (.long (q0 + q2)), .second, .unset, .unset, .unset, .unset] [(.ref r173)])) _
    refine st206.trans ?_
    show Steps p.tables e below (T206.setTop (mkF m 54 #[.val (.long q0), .second, .val (.long q1), .second, .val (.long q2), .second, .val (.long q3), .second, .val (.ref b146), .val (.ref b156), .val (.ref r173), .val (.ref r187), .val (.long (q0 + q2)), .second, .unset, .unset, .unset, .unset] [(.long (q1 + q3))])) _
    refine XS.lstore X206.here hx rfl (hb hby at_54) rfl (l' := #[.val (.long q0), .second, .val (.long q1), .second, .val (.long q2), .second, .val (.long q3), .second, .val (.ref b146), .val (.ref b156), .val (.ref r173), .val (.ref r187), .val (.long (q0 + q2)), .second, .val (.long (q1 + q3)), .second, .unset, .unset]) rfl ?_
    show Steps p.tables e below (T206.setTop (mkF m 56 #[.val (.long q0), .second, .val (.long q1), .second, .val (.long q2), .second, .val (.long q3), .second, .val (.ref b146), .val (.ref b156), .val (.ref r173), .val (.ref r187), .val (.long (q0 + q2)), .second, .val (.long (q1 + q3)), .second, .unset, .unset] [])) _
    refine XS.lload X206.here hx rfl (hb hby at_56) rfl ?_
    show Steps p.tables e below (T206.setTop (mkF m 58 #[.val (.long q0), .second, .val (.long q1), .second, .val (.long q2), .second, .val (.long q3), .second, .val (.ref b146), .val (.ref b156), .val (.ref r173), .val (.ref r187), .val (.long (q0 + q2)), .second, .val (.long (q1 + q3)), .second, .unset, .unset] [(.long (q0 + q2))])) _
    refine XS.lload X206.here hx rfl (hb hby at_58) rfl ?_
    show Steps p.tables e below (T206.setTop (mkF m 60 #[.val (.long q0), .second, .val (.long q1), .second, .val (.long q2), .second, .val (.long q3), .second, .val (.ref b146), .val (.ref b156), .val (.ref r173), .val (.ref r187), .val (.long (q0 + q2)), .second, .val (.long (q1 + q3)), .second, .unset, .unset] [(.long q2), (.long (q0 + q2))])) _
    refine XS.lsub X206.here hx rfl (hb hby at_60) rfl ?_
    show Steps p.tables e below (T206.setTop (mkF m 61 #[.val (.long q0), .second, .val (.long q1), .second, .val (.long q2), .second, .val (.long q3), .second, .val (.ref b146), .val (.ref b156), .val (.ref r173), .val (.ref r187), .val (.long (q0 + q2)), .second, .val (.long (q1 + q3)), .second, .unset, .unset] [(.long ((q0 + q2) - q2))])) _
    refine XS.lloadN X206.here hx rfl (hb hby at_61) rfl ?_
    show Steps p.tables e below (T206.setTop (mkF m 62 #[.val (.long q0), .second, .val (.long q1), .second, .val (.long q2), .second, .val (.long q3), .second, .val (.ref b146), .val (.ref b156), .val (.ref r173), .val (.ref r187), .val (.long (q0 + q2)), .second, .val (.long (q1 + q3)), .second, .unset, .unset] [(.long q0), (.long ((q0 + q2) - q2))])) _
    refine XS.lcmp X206.here hx rfl (hb hby at_62) rfl ?_
    show Steps p.tables e below (T206.setTop (mkF m 63 #[.val (.long q0), .second, .val (.long q1), .second, .val (.long q2), .second, .val (.long q3), .second, .val (.ref b146), .val (.ref b156), .val (.ref r173), .val (.ref r187), .val (.long (q0 + q2)), .second, .val (.long (q1 + q3)), .second, .unset, .unset] [(.int (lcmpW ((q0 + q2) - q2) q0))])) _
    refine XS.ifNo X206.here hx rfl (hb hby at_63) rfl ((if0 _ _).trans (teq ((lw_eq _ _).mpr c207)).2) ?_
    show Steps p.tables e below (T206.setTop (mkF m 66 #[.val (.long q0), .second, .val (.long q1), .second, .val (.long q2), .second, .val (.long q3), .second, .val (.ref b146), .val (.ref b156), .val (.ref r173), .val (.ref r187), .val (.long (q0 + q2)), .second, .val (.long (q1 + q3)), .second, .unset, .unset] [])) _
    refine XS.lload X206.here hx rfl (hb hby at_66) rfl ?_
    show Steps p.tables e below (T206.setTop (mkF m 68 #[.val (.long q0), .second, .val (.long q1), .second, .val (.long q2), .second, .val (.long q3), .second, .val (.ref b146), .val (.ref b156), .val (.ref r173), .val (.ref r187), .val (.long (q0 + q2)), .second, .val (.long (q1 + q3)), .second, .unset, .unset] [(.long (q1 + q3))])) _
    refine XS.lload X206.here hx rfl (hb hby at_68) rfl ?_
    show Steps p.tables e below (T206.setTop (mkF m 70 #[.val (.long q0), .second, .val (.long q1), .second, .val (.long q2), .second, .val (.long q3), .second, .val (.ref b146), .val (.ref b156), .val (.ref r173), .val (.ref r187), .val (.long (q0 + q2)), .second, .val (.long (q1 + q3)), .second, .unset, .unset] [(.long q3), (.long (q1 + q3))])) _
    refine XS.lsub X206.here hx rfl (hb hby at_70) rfl ?_
    show Steps p.tables e below (T206.setTop (mkF m 71 #[.val (.long q0), .second, .val (.long q1), .second, .val (.long q2), .second, .val (.long q3), .second, .val (.ref b146), .val (.ref b156), .val (.ref r173), .val (.ref r187), .val (.long (q0 + q2)), .second, .val (.long (q1 + q3)), .second, .unset, .unset] [(.long ((q1 + q3) - q3))])) _
    refine XS.lloadN X206.here hx rfl (hb hby at_71) rfl ?_
    show Steps p.tables e below (T206.setTop (mkF m 72 #[.val (.long q0), .second, .val (.long q1), .second, .val (.long q2), .second, .val (.long q3), .second, .val (.ref b146), .val (.ref b156), .val (.ref r173), .val (.ref r187), .val (.long (q0 + q2)), .second, .val (.long (q1 + q3)), .second, .unset, .unset] [(.long q1), (.long ((q1 + q3) - q3))])) _
    refine XS.lcmp X206.here hx rfl (hb hby at_72) rfl ?_
    show Steps p.tables e below (T206.setTop (mkF m 73 #[.val (.long q0), .second, .val (.long q1), .second, .val (.long q2), .second, .val (.long q3), .second, .val (.ref b146), .val (.ref b156), .val (.ref r173), .val (.ref r187), .val (.long (q0 + q2)), .second, .val (.long (q1 + q3)), .second, .unset, .unset] [(.int (lcmpW ((q1 + q3) - q3) q1))])) _
    refine XS.ifNo X206.here hx rfl (hb hby at_73) rfl ((if0 _ _).trans (teq ((lw_eq _ _).mpr c208)).2) ?_
    show Steps p.tables e below (T206.setTop (mkF m 76 #[.val (.long q0), .second, .val (.long q1), .second, .val (.long q2), .second, .val (.long q3), .second, .val (.ref b146), .val (.ref b156), .val (.ref r173), .val (.ref r187), .val (.long (q0 + q2)), .second, .val (.long (q1 + q3)), .second, .unset, .unset] [])) _
    refine XS.iconst X206.here hx rfl (hb hby at_76) ?_
    show Steps p.tables e below (T206.setTop (mkF m 77 #[.val (.long q0), .second, .val (.long q1), .second, .val (.long q2), .second, .val (.long q3), .second, .val (.ref b146), .val (.ref b156), .val (.ref r173), .val (.ref r187), .val (.long (q0 + q2)), .second, .val (.long (q1 + q3)), .second, .unset, .unset] [(.int (1 : Int32))])) _
    refine XS.goto X206.here hx rfl (pc0 := 77) (pc' := 81) rfl (hb hby at_77) (by decide) (by decide) ?_
    show Steps p.tables e below (T206.setTop (mkF m 81 #[.val (.long q0), .second, .val (.long q1), .second, .val (.long q2), .second, .val (.long q3), .second, .val (.ref b146), .val (.ref b156), .val (.ref r173), .val (.ref r187), .val (.long (q0 + q2)), .second, .val (.long (q1 + q3)), .second, .unset, .unset] [(.int (1 : Int32))])) _
    refine XS.istore X206.here hx rfl (hb hby at_81) rfl (l' := #[.val (.long q0), .second, .val (.long q1), .second, .val (.long q2), .second, .val (.long q3), .second, .val (.ref b146), .val (.ref b156), .val (.ref r173), .val (.ref r187), .val (.long (q0 + q2)), .second, .val (.long (q1 + q3)), .second, .val (.int (1 : Int32)), .unset]) rfl ?_
    show Steps p.tables e below (T206.setTop (mkF m 83 #[.val (.long q0), .second, .val (.long q1), .second, .val (.long q2), .second, .val (.long q3), .second, .val (.ref b146), .val (.ref b156), .val (.ref r173), .val (.ref r187), .val (.long (q0 + q2)), .second, .val (.long (q1 + q3)), .second, .val (.int (1 : Int32)), .unset] [])) _
    refine XS.aload X206.here hx rfl (hb hby at_83) rfl rfl ?_
    show Steps p.tables e below (T206.setTop (mkF m 85 #[.val (.long q0), .second, .val (.long q1), .second, .val (.long q2), .second, .val (.long q3), .second, .val (.ref b146), .val (.ref b156), .val (.ref r173), .val (.ref r187), .val (.long (q0 + q2)), .second, .val (.long (q1 + q3)), .second, .val (.int (1 : Int32)), .unset] [(.ref r187)])) _
    refine st209.trans ?_
    show Steps p.tables e below (T209.setTop (mkF m 88 #[.val (.long q0), .second, .val (.long q1), .second, .val (.long q2), .second, .val (.long q3), .second, .val (.ref b146), .val (.ref b156), .val (.ref r173), .val (.ref r187), .val (.long (q0 + q2)), .second, .val (.long (q1 + q3)), .second, .val (.int (1 : Int32)), .unset] [(.long (q2 + q0))])) _
    refine XS.lload X209.here hx rfl (hb hby at_88) rfl ?_
    show Steps p.tables e below (T209.setTop (mkF m 90 #[.val (.long q0), .second, .val (.long q1), .second, .val (.long q2), .second, .val (.long q3), .second, .val (.ref b146), .val (.ref b156), .val (.ref r173), .val (.ref r187), .val (.long (q0 + q2)), .second, .val (.long (q1 + q3)), .second, .val (.int (1 : Int32)), .unset] [(.long (q0 + q2)), (.long (q2 + q0))])) _
    refine XS.lcmp X209.here hx rfl (hb hby at_90) rfl ?_
    show Steps p.tables e below (T209.setTop (mkF m 91 #[.val (.long q0), .second, .val (.long q1), .second, .val (.long q2), .second, .val (.long q3), .second, .val (.ref b146), .val (.ref b156), .val (.ref r173), .val (.ref r187), .val (.long (q0 + q2)), .second, .val (.long (q1 + q3)), .second, .val (.int (1 : Int32)), .unset] [(.int (lcmpW (q2 + q0) (q0 + q2)))])) _
    refine XS.ifNo X209.here hx rfl (hb hby at_91) rfl ((if0 _ _).trans (teq ((lw_eq _ _).mpr c210)).2) ?_
    show Steps p.tables e below (T209.setTop (mkF m 94 #[.val (.long q0), .second, .val (.long q1), .second, .val (.long q2), .second, .val (.long q3), .second, .val (.ref b146), .val (.ref b156), .val (.ref r173), .val (.ref r187), .val (.long (q0 + q2)), .second, .val (.long (q1 + q3)), .second, .val (.int (1 : Int32)), .unset] [])) _
    refine XS.aload X209.here hx rfl (hb hby at_94) rfl rfl ?_
    show Steps p.tables e below (T209.setTop (mkF m 96 #[.val (.long q0), .second, .val (.long q1), .second, .val (.long q2), .second, .val (.long q3), .second, .val (.ref b146), .val (.ref b156), .val (.ref r173), .val (.ref r187), .val (.long (q0 + q2)), .second, .val (.long (q1 + q3)), .second, .val (.int (1 : Int32)), .unset] [(.ref r187)])) _
    refine st211.trans ?_
    show Steps p.tables e below (T211.setTop (mkF m 99 #[.val (.long q0), .second, .val (.long q1), .second, .val (.long q2), .second, .val (.long q3), .second, .val (.ref b146), .val (.ref b156), .val (.ref r173), .val (.ref r187), .val (.long (q0 + q2)), .second, .val (.long (q1 + q3)), .second, .val (.int (1 : Int32)), .unset] [(.long (q3 + q1))])) _
    refine XS.lload X211.here hx rfl (hb hby at_99) rfl ?_
    show Steps p.tables e below (T211.setTop (mkF m 101 #[.val (.long q0), .second, .val (.long q1), .second, .val (.long q2), .second, .val (.long q3), .second, .val (.ref b146), .val (.ref b156), .val (.ref r173), .val (.ref r187), .val (.long (q0 + q2)), .second, .val (.long (q1 + q3)), .second, .val (.int (1 : Int32)), .unset] [(.long (q1 + q3)), (.long (q3 + q1))])) _
    refine XS.lcmp X211.here hx rfl (hb hby at_101) rfl ?_
    show Steps p.tables e below (T211.setTop (mkF m 102 #[.val (.long q0), .second, .val (.long q1), .second, .val (.long q2), .second, .val (.long q3), .second, .val (.ref b146), .val (.ref b156), .val (.ref r173), .val (.ref r187), .val (.long (q0 + q2)), .second, .val (.long (q1 + q3)), .second, .val (.int (1 : Int32)), .unset] [(.int (lcmpW (q3 + q1) (q1 + q3)))])) _
    refine XS.ifNo X211.here hx rfl (hb hby at_102) rfl ((if0 _ _).trans (teq ((lw_eq _ _).mpr c212)).2) ?_
    show Steps p.tables e below (T211.setTop (mkF m 105 #[.val (.long q0), .second, .val (.long q1), .second, .val (.long q2), .second, .val (.long q3), .second, .val (.ref b146), .val (.ref b156), .val (.ref r173), .val (.ref r187), .val (.long (q0 + q2)), .second, .val (.long (q1 + q3)), .second, .val (.int (1 : Int32)), .unset] [])) _
    refine XS.iconst X211.here hx rfl (hb hby at_105) ?_
    show Steps p.tables e below (T211.setTop (mkF m 106 #[.val (.long q0), .second, .val (.long q1), .second, .val (.long q2), .second, .val (.long q3), .second, .val (.ref b146), .val (.ref b156), .val (.ref r173), .val (.ref r187), .val (.long (q0 + q2)), .second, .val (.long (q1 + q3)), .second, .val (.int (1 : Int32)), .unset] [(.int (1 : Int32))])) _
    refine XS.goto X211.here hx rfl (pc0 := 106) (pc' := 110) rfl (hb hby at_106) (by decide) (by decide) ?_
    show Steps p.tables e below (T211.setTop (mkF m 110 #[.val (.long q0), .second, .val (.long q1), .second, .val (.long q2), .second, .val (.long q3), .second, .val (.ref b146), .val (.ref b156), .val (.ref r173), .val (.ref r187), .val (.long (q0 + q2)), .second, .val (.long (q1 + q3)), .second, .val (.int (1 : Int32)), .unset] [(.int (1 : Int32))])) _
    refine XS.istore X211.here hx rfl (hb hby at_110) rfl (l' := #[.val (.long q0), .second, .val (.long q1), .second, .val (.long q2), .second, .val (.long q3), .second, .val (.ref b146), .val (.ref b156), .val (.ref r173), .val (.ref r187), .val (.long (q0 + q2)), .second, .val (.long (q1 + q3)), .second, .val (.int (1 : Int32)), .val (.int (1 : Int32))]) rfl ?_
    show Steps p.tables e below (T211.setTop (mkF m 112 #[.val (.long q0), .second, .val (.long q1), .second, .val (.long q2), .second, .val (.long q3), .second, .val (.ref b146), .val (.ref b156), .val (.ref r173), .val (.ref r187), .val (.long (q0 + q2)), .second, .val (.long (q1 + q3)), .second, .val (.int (1 : Int32)), .val (.int (1 : Int32))] [])) _
    refine XS.iload X211.here hx rfl (hb hby at_112) rfl ?_
    show Steps p.tables e below (T211.setTop (mkF m 114 #[.val (.long q0), .second, .val (.long q1), .second, .val (.long q2), .second, .val (.long q3), .second, .val (.ref b146), .val (.ref b156), .val (.ref r173), .val (.ref r187), .val (.long (q0 + q2)), .second, .val (.long (q1 + q3)), .second, .val (.int (1 : Int32)), .val (.int (1 : Int32))] [(.int (1 : Int32))])) _
    refine XS.ifNo X211.here hx rfl (hb hby at_114) rfl ((if0 _ _).trans (feq (by decide)).1) ?_
    show Steps p.tables e below (T211.setTop (mkF m 117 #[.val (.long q0), .second, .val (.long q1), .second, .val (.long q2), .second, .val (.long q3), .second, .val (.ref b146), .val (.ref b156), .val (.ref r173), .val (.ref r187), .val (.long (q0 + q2)), .second, .val (.long (q1 + q3)), .second, .val (.int (1 : Int32)), .val (.int (1 : Int32))] [])) _
    refine XS.iload X211.here hx rfl (hb hby at_117) rfl ?_
    show Steps p.tables e below (T211.setTop (mkF m 119 #[.val (.long q0), .second, .val (.long q1), .second, .val (.long q2), .second, .val (.long q3), .second, .val (.ref b146), .val (.ref b156), .val (.ref r173), .val (.ref r187), .val (.long (q0 + q2)), .second, .val (.long (q1 + q3)), .second, .val (.int (1 : Int32)), .val (.int (1 : Int32))] [(.int (1 : Int32))])) _
    refine XS.ifNo X211.here hx rfl (hb hby at_119) rfl ((if0 _ _).trans (feq (by decide)).1) ?_
    show Steps p.tables e below (T211.setTop (mkF m 122 #[.val (.long q0), .second, .val (.long q1), .second, .val (.long q2), .second, .val (.long q3), .second, .val (.ref b146), .val (.ref b156), .val (.ref r173), .val (.ref r187), .val (.long (q0 + q2)), .second, .val (.long (q1 + q3)), .second, .val (.int (1 : Int32)), .val (.int (1 : Int32))] [])) _
    refine XS.iconst X211.here hx rfl (hb hby at_122) ?_
    show Steps p.tables e below (T211.setTop (mkF m 123 #[.val (.long q0), .second, .val (.long q1), .second, .val (.long q2), .second, .val (.long q3), .second, .val (.ref b146), .val (.ref b156), .val (.ref r173), .val (.ref r187), .val (.long (q0 + q2)), .second, .val (.long (q1 + q3)), .second, .val (.int (1 : Int32)), .val (.int (1 : Int32))] [(.int (1 : Int32))])) _
    refine XS.goto X211.here hx rfl (pc0 := 123) (pc' := 127) rfl (hb hby at_123) (by decide) (by decide) ?_
    show Steps p.tables e below (T211.setTop (mkF m 127 #[.val (.long q0), .second, .val (.long q1), .second, .val (.long q2), .second, .val (.long q3), .second, .val (.ref b146), .val (.ref b156), .val (.ref r173), .val (.ref r187), .val (.long (q0 + q2)), .second, .val (.long (q1 + q3)), .second, .val (.int (1 : Int32)), .val (.int (1 : Int32))] [(.int (1 : Int32))])) _
    exact retZ X211 hx Bd.returns (by decide) (hb hby at_127) hr
  ·
    show Q_rm0 Z q0 q1 q2 q3 h0 n0 _ T211.heap _
    rw [e211]
    exact ⟨rfl, N211⟩
set_option maxRecDepth 65536 in
set_option maxHeartbeats 40000000 in
theorem comes_1 {Post : Tables → Env → Array Value → State → Outcome → State → Prop} (hpost : ∀ tb e args s v u, (limb_1_1.after args s (.returned v) u = true ∧ limb_1_2.after args s (.returned v) u = true ∧ True) → FrameEnd s (.returned v) u (Jvm.fieldLocs frame_1_writes args s ++ Jvm.arrayLocs frame_1_arrays args s ++ Jvm.staticLocs frame_1_statics s) 16 128 → Post tb e args s (.returned v) u) :
    ArmFor flags0 classFile x code maxLocals ret World_1 tables_1 room_1 Calls_1 rest_1 Pre_1 Post := by
  intro l hfl _ _ p e ha hc hk s m args below hf hA hF happ hP
  obtain ⟨hcalls, hrest, hpre⟩ := hP
  obtain ⟨-, -, -, hnamed, -, -, -, hat⟩ := (Spec.applies_iff hf).mp happ
  obtain ⟨hg, hn⟩ := and_e (Cond.before_iff.mp (show (Jvm.Cond.and given_1 narrow_1).before args s = true from hpre))
  obtain ⟨g213, g214⟩ := and_e hg
  obtain ⟨g215, g216⟩ := and_e g214
  obtain ⟨g217, g218⟩ := and_e g216
  obtain ⟨g219, g220⟩ := and_e g218
  obtain ⟨w0, w1, w2, w3, rfl⟩ : ∃ w0 w1 w2 w3 : Value, args = #[w0, w1, w2, w3] := by
    have hs : args.size = 4 := by simpa [Cond.value, given_1] using g213
    obtain ⟨L⟩ := args
    match L, hs with
    | [w0, w1, w2, w3], _ => exact ⟨w0, w1, w2, w3, rfl⟩
  have hw := fun d (hd : d ∈ tables_1) => atoms_spec (ws := Jvm.Cond.code x code maxLocals ret :: tables_1) hat d (List.mem_cons_of_mem _ hd)
  have hfit : Fit s := fun {y c} hc i hi => by
    obtain ⟨ha, rfl⟩ := Array.getElem?_eq_some_iff.mp hc
    have q := List.all_eq_true.mp ((Array.all_eq_true_iff_forall_mem.mp hF) _ (Array.getElem_mem ha)) i (List.mem_range.mpr hi)
    simpa [Array.getElem?_eq_getElem hi] using q
  obtain ⟨i0, ei0⟩ := isL_v g215
  obtain rfl : w0 = (.long i0) := Option.some.inj ei0
  obtain ⟨i1, ei1⟩ := isL_v g217
  obtain rfl : w1 = (.long i1) := Option.some.inj ei1
  obtain ⟨i2, ei2⟩ := isL_v g219
  obtain rfl : w2 = (.long i2) := Option.some.inj ei2
  obtain ⟨i3, ei3⟩ := isL_v g220
  obtain rfl : w3 = (.long i3) := Option.some.inj ei3
  obtain ⟨n, o, h1, h2, h3, _, L, rfl, ⟨rfl, N⟩, hq⟩ := rm0 l s _ hw tables_1 i0 i1 i2 i3 s.heap s.heap.size (Nat.le_refl _) p e ha hc hk s m _ below hf ((Spec.applies_iff_loose hf).mp happ).1 ⟨rfl, State.Warmed39.refl s, rfl⟩ trivial
  refine ⟨n, _, h1, h2, h3, hpost _ _ _ _ _ _ ⟨Cond.after_iff.mpr rfl, Cond.after_iff.mpr (eq_i res_at (Term.int_eval (1)) rfl), trivial⟩ ⟨hq.1, hq.2.1, (hq.2.2.sift fun y hy => Or.inr (N y hy)).mono (by decide) (by decide)⟩⟩
theorem main_1_1 : Claimed_1_1 := comes_1 fun _ _ _ _ _ _ h hF => ⟨h.1, hF⟩
theorem main_1_2 : Claimed_1_2 := comes_1 fun _ _ _ _ _ _ h hF => ⟨h.2.1, hF⟩
end Jvm.Pilot.@@N@@
namespace Jvm.Pilot.@@N@@
open Jvm Jvm.ClassFile Sem Op Lib Jvm.Free Jvm.Stand Jvm.Pilot.@@N@@.Jvm.D
/-! MADE BY PROGRAM (witnessworld.py) out of the Statement's table words and the real class files: 10 classes; the members and pool entries that the words name. The judged class is class 1, her method 1. -/
namespace start1
open Jvm.ClassFile
def u (s : String) : CpInfo := .utf8 (stringToUtf16 s)
/-- a pool by its gaps: so many unusable entries, then the entry; so many at the end -/
def gap : Nat → List CpInfo → List CpInfo
  | 0, r => r
  | n + 1, r => .unusable :: gap n r
def poolList (es : List (Nat × CpInfo)) (last : Nat) : List CpInfo := es.foldr (fun e r => gap e.1 (e.2 :: r)) (gap last [])
def pool (es : List (Nat × CpInfo)) (last : Nat) : Array CpInfo := ⟨poolList es last⟩
def fileOf (pool : Array CpInfo) (this : Nat) (attrs : Array Attribute := #[]) (ms : Array MethodInfo := #[]) (fl : Nat := 33) (sup : Nat := 0) (ifs : Array Nat := #[]) (fds : Array FieldInfo := #[]) : ClassFile where
  minorVersion := 0
  majorVersion := 65
  constantPool := pool
  accessFlags := fl
  thisClass := this
  superClass := sup
  interfaces := ifs
  fields := fds
  methods := ms
  attributes := attrs
def plain (name : String) (sup : Option ClassId) : Class where
  name := name
  kind := .ordinary
  loader := none
  accessFlags := 33
  super := sup
  interfaces := #[]
  cf := none
  fields := #[]
  methods := #[]
  instanceTypes := #[]
  staticTypes := #[]
  resolved := #[]
  callSites := []
  init := .initialized
  statics := none
  mirror := none

def pool0 : Array CpInfo := pool [(5, u "<init>"), (0, u "()V"), (1, .class_ 10), (1, u "java/lang/Object")] 113

def k0c0 : Code := { maxStack := 0, maxLocals := 1, code := object_method_1_code, exceptionTable := #[], attributes := #[] }
def k0m0 : Method := { name := "<init>", desc := "()V", sig := { parameters := [], returnType := none }, accessFlags := 1, code := some k0c0 }
/-- java/lang/Object -/
def k0 : Class := { plain "java/lang/Object" none with
  accessFlags := 33
  interfaces := #[]
  cf := some (fileOf pool0 8 #[] #[{ accessFlags := 1, nameIndex := 5, descriptorIndex := 6, attributes := #[] }] 33 0 #[] #[])
  fields := #[]
  methods := #[k0m0]
  instanceTypes := #[]
  staticTypes := #[]
  resolved := Array.replicate 124 none
  statics := none }

def pool1 : Array CpInfo := pool [(2, .class_ 4), (1, u "java/lang/Object"), (0, u "<init>"), (0, u "()V"), (0, .class_ 8), (0, u "com/example/reliquary/reliquary/Fixity$Tally"), (0, .methodref 7 10), (0, .nameAndType 5 11), (0, u "(JJ)V"), (0, .methodref 7 13), (0, .nameAndType 14 15), (0, u "plus"), (0, u "(Lcom/example/reliquary/reliquary/Fixity$Tally;)Lcom/example/reliquary/reliquary/Fixity$Tally;"), (0, .methodref 7 17), (0, .nameAndType 18 19), (0, u "versions"), (0, u "()J"), (0, .methodref 7 21), (0, .nameAndType 22 19), (0, u "failures"), (0, .class_ 24), (0, u "com/example/reliquary/reliquary/TallyPlusPinLaw"), (2, u "law"), (0, u "(JJJJ)Z")] 7

def k1m0 : Method := { name := "<init>", desc := "()V", sig := { parameters := [], returnType := none }, accessFlags := 2, code := none }
def k1c1 : Code := { maxStack := 6, maxLocals := 18, code := code, exceptionTable := #[], attributes := #[] }
def k1m1 : Method := { name := "law", desc := "(JJJJ)Z", sig := { parameters := [.long, .long, .long, .long], returnType := some .boolean }, accessFlags := 9, code := some k1c1 }
/-- com/example/reliquary/reliquary/TallyPlusPinLaw -/
def k1 : Class := { plain "com/example/reliquary/reliquary/TallyPlusPinLaw" (some 0) with
  accessFlags := 49
  interfaces := #[]
  cf := some (fileOf pool1 23 #[] #[{ accessFlags := 2, nameIndex := 5, descriptorIndex := 6, attributes := #[] }, { accessFlags := 9, nameIndex := 27, descriptorIndex := 28, attributes := #[] }] 49 2 #[] #[])
  fields := #[]
  methods := #[k1m0, k1m1]
  instanceTypes := #[]
  staticTypes := #[]
  resolved := Array.replicate 36 none
  statics := none }

def pool2 : Array CpInfo := pool [(1, .methodref 2 3), (0, .class_ 4), (0, .nameAndType 5 6), (0, u "java/lang/Object"), (0, u "<init>"), (0, u "()V"), (0, .class_ 8), (0, u "java/lang/Record")] 13

def k2c0 : Code := { maxStack := 1, maxLocals := 1, code := jdk_30_method_1_code, exceptionTable := #[], attributes := #[] }
def k2m0 : Method := { name := "<init>", desc := "()V", sig := { parameters := [], returnType := none }, accessFlags := 4, code := some k2c0 }
/-- java/lang/Record -/
def k2 : Class := { plain "java/lang/Record" (some 0) with
  accessFlags := 1057
  interfaces := #[]
  cf := some (fileOf pool2 7 #[] #[{ accessFlags := 4, nameIndex := 5, descriptorIndex := 6, attributes := #[] }] 1057 2 #[] #[])
  fields := #[]
  methods := #[k2m0]
  instanceTypes := #[]
  staticTypes := #[]
  resolved := Array.replicate 22 none
  statics := none }

def pool3 : Array CpInfo := pool [(1, .methodref 2 3), (0, .class_ 4), (0, .nameAndType 5 6), (0, u "java/lang/Record"), (0, u "<init>"), (0, u "()V"), (0, .fieldref 8 9), (0, .class_ 10), (0, .nameAndType 11 12), (0, u "com/example/reliquary/reliquary/Fixity$Tally"), (0, u "versions"), (0, u "J"), (0, .fieldref 8 14), (0, .nameAndType 15 12), (0, u "failures"), (0, .methodref 8 17), (0, .nameAndType 5 18), (0, u "(JJ)V"), (15, u "plus"), (0, u "(Lcom/example/reliquary/reliquary/Fixity$Tally;)Lcom/example/reliquary/reliquary/Fixity$Tally;"), (3, u "()J"), (3, .class_ 44), (0, u "com/example/reliquary/reliquary/Fixity")] 20

def k3c0 : Code := { maxStack := 3, maxLocals := 5, code := prog_33_method_1_code, exceptionTable := #[], attributes := #[] }
def k3m0 : Method := { name := "<init>", desc := "(JJ)V", sig := { parameters := [.long, .long], returnType := none }, accessFlags := 0, code := some k3c0 }
def k3c1 : Code := { maxStack := 8, maxLocals := 2, code := prog_33_method_2_code, exceptionTable := #[], attributes := #[] }
def k3m1 : Method := { name := "plus", desc := "(Lcom/example/reliquary/reliquary/Fixity$Tally;)Lcom/example/reliquary/reliquary/Fixity$Tally;", sig := { parameters := [(.object "com/example/reliquary/reliquary/Fixity$Tally")], returnType := some (.object "com/example/reliquary/reliquary/Fixity$Tally") }, accessFlags := 0, code := some k3c1 }
def k3c2 : Code := { maxStack := 2, maxLocals := 1, code := prog_33_method_6_code, exceptionTable := #[], attributes := #[] }
def k3m2 : Method := { name := "versions", desc := "()J", sig := { parameters := [], returnType := some .long }, accessFlags := 1, code := some k3c2 }
def k3c3 : Code := { maxStack := 2, maxLocals := 1, code := prog_33_method_7_code, exceptionTable := #[], attributes := #[] }
def k3m3 : Method := { name := "failures", desc := "()J", sig := { parameters := [], returnType := some .long }, accessFlags := 1, code := some k3c3 }
/-- com/example/reliquary/reliquary/Fixity$Tally -/
def k3 : Class := { plain "com/example/reliquary/reliquary/Fixity$Tally" (some 2) with
  accessFlags := 48
  interfaces := #[]
  cf := some (fileOf pool3 8 #[.nestHost 43] #[{ accessFlags := 0, nameIndex := 5, descriptorIndex := 18, attributes := #[] }, { accessFlags := 0, nameIndex := 34, descriptorIndex := 35, attributes := #[] }, { accessFlags := 1, nameIndex := 11, descriptorIndex := 39, attributes := #[] }, { accessFlags := 1, nameIndex := 15, descriptorIndex := 39, attributes := #[] }] 48 2 #[] #[{ accessFlags := 18, nameIndex := 11, descriptorIndex := 12, attributes := #[] }, { accessFlags := 18, nameIndex := 15, descriptorIndex := 12, attributes := #[] }])
  fields := #[{ name := "versions", type := .long, accessFlags := 18, slot := 0, constantValue := 0 }, { name := "failures", type := .long, accessFlags := 18, slot := 1, constantValue := 0 }]
  methods := #[k3m0, k3m1, k3m2, k3m3]
  instanceTypes := #[.long, .long]
  staticTypes := #[]
  resolved := Array.replicate 65 none
  statics := none }

def pool4 : Array CpInfo := pool [(1, u "java/lang/Cloneable"), (0, .class_ 1), (0, u "java/lang/Object"), (0, .class_ 3)] 3

/-- java/lang/Cloneable -/
def k4 : Class := { plain "java/lang/Cloneable" (some 0) with
  accessFlags := 1537
  interfaces := #[]
  cf := some (fileOf pool4 2 #[] #[] 1537 4 #[] #[])
  fields := #[]
  methods := #[]
  instanceTypes := #[]
  staticTypes := #[]
  resolved := Array.replicate 8 none
  statics := none }

def pool5 : Array CpInfo := pool [(1, u "java/io/Serializable"), (0, .class_ 1), (0, u "java/lang/Object"), (0, .class_ 3)] 3

/-- java/io/Serializable -/
def k5 : Class := { plain "java/io/Serializable" (some 0) with
  accessFlags := 1537
  interfaces := #[]
  cf := some (fileOf pool5 2 #[] #[] 1537 4 #[] #[])
  fields := #[]
  methods := #[]
  instanceTypes := #[]
  staticTypes := #[]
  resolved := Array.replicate 8 none
  statics := none }

/-- the primitive byte -/
def k6 : Class := { plain "byte" none with kind := .primitive 'B', accessFlags := 0x411 }
/-- [B -/
def k7 : Class := { plain "[B" (some 0) with kind := .array 6 .byte, interfaces := #[4, 5], accessFlags := 1041 }

/-- the primitive int -/
def k8 : Class := { plain "int" none with kind := .primitive 'I', accessFlags := 0x411 }
/-- [I -/
def k9 : Class := { plain "[I" (some 0) with kind := .array 8 .int, interfaces := #[4, 5], accessFlags := 1041 }

def heap : Heap := #[]
def classes : Array Class := #[k0, k1, k2, k3, k4, k5, k6, k7, k8, k9]
def interned : List (Array UInt16 × Addr) := []
def slotsUsed : Nat := 0
def theMethod : MethodId := ⟨1, 1⟩
def args0 : Array Value := #[.long 5, .long 6, .long 7, .long 8]
def aboutOver (below : List Frame) : State where
  vm := { classes := classes, interned := interned.toArray }
  heap := heap
  slotsUsed := slotsUsed
  threads := #[{ frames := .invoking theMethod args0 :: below }]
def below0 : List Frame := [.native { method := ⟨0, 0⟩, args := #[] }]
def about1 : State := aboutOver below0
def p0 : Program := .bare "" "" ""
def e0 : Env := launch0.env 0 0 0
theorem w_frames : about1.frames = Frame.invoking theMethod args0 :: below0 := rfl
set_option maxRecDepth 65536 in
theorem w_args : argsFit about1.vm theMethod args0 = true := by decide +kernel
set_option maxRecDepth 65536 in
theorem w_heap : heapFits about1 = true := by decide +kernel
set_option maxRecDepth 65536 in
theorem w_runnable : about1.curStatus? = some .runnable := by decide +kernel
set_option maxRecDepth 65536 in
theorem w_alone : about1.alone = true := by decide +kernel
set_option maxRecDepth 65536 in
theorem w_named : about1.methodNamed? x = some theMethod := by decide +kernel
set_option maxRecDepth 65536 in
theorem w_hears : about1.hears theMethod below0 = true := by decide +kernel
set_option maxRecDepth 65536 in
theorem w_ripe : about1.ripe theMethod args0 below0 = true := by decide +kernel
theorem w_running : about1.status = .running := rfl
set_option maxRecDepth 65536 in
theorem w_room : about1.hasRoom e0.platform room_1 = true :=
  launch0.hasRoom_least _ room_1 (by decide +kernel) (by decide +kernel) (by decide +kernel) (by decide +kernel) (by decide +kernel) (by decide +kernel)
theorem allAtoms_all (ts : List Jvm.Cond) (a : Array Jvm.Value) (st : Jvm.State) : (allAtoms ts).before a st = ts.all (fun c => c.before a st) := by
  induction ts with
  | nil => rfl
  | cons c t ih =>
    show (Jvm.Cond.and c (allAtoms t)).before a st = _
    rw [Jvm.Cond.before_and, ih, List.all_cons]
def words1 : List Jvm.Cond := Jvm.Cond.code x code maxLocals ret :: tables_1
/-- a 'code' word, met by the world's own term for the bytes: nothing is compared byte by byte -/
theorem code_word {y : MethodName} {bytes : ByteArray} {mx : Nat} {rt : Option FieldType} {a : Array Value} {s : State} {m : MethodId} {meth : Method} {c : Code} (h1 : s.methodNamed? y = some m) (h2 : s.vm.method? m = some meth) (h3 : meth.code = some c) (h4 : c.code = bytes)
    (h5 : (c.maxLocals == mx && c.exceptionTable.isEmpty && decide (c.maxStack ≤ mostOperands) && decide (meth.sig.returnType = rt) && !meth.locks && decide (parseMethodDescriptor y.desc = some meth.sig)) = true) : (Jvm.Cond.code y bytes mx rt).before a s = true := by
  simp only [Bool.and_eq_true, beq_iff_eq, Bool.not_eq_true', decide_eq_true_eq] at h5
  obtain ⟨⟨⟨⟨⟨g1, g2⟩, g3⟩, g4⟩, g5⟩, g6⟩ := h5
  simp [Cond.before, Cond.holds, Cond.value, h1, h2, h3, h4, g1, g2, g3, g4, g5, g6]
def isCode : Jvm.Cond → Bool
  | .code _ _ _ _ => true
  | _ => false
theorem all_split {L : List Jvm.Cond} {P : Jvm.Cond → Bool} (h1 : L.all (fun c => isCode c || P c) = true) (h2 : ∀ c ∈ L.filter isCode, P c = true) : L.all P = true := by
  refine List.all_eq_true.mpr fun c hc => ?_
  have h := List.all_eq_true.mp h1 c hc
  rcases Bool.eq_false_or_eq_true (isCode c) with hi | hi
  · exact h2 c (List.mem_filter.mpr ⟨hc, hi⟩)
  · simpa [hi] using h
set_option maxRecDepth 65536 in
theorem w_c0 : (Jvm.Cond.code x code maxLocals ret).before args0 about1 = true := code_word (m := ⟨1, 1⟩) (meth := k1m1) (c := k1c1) (by decide +kernel) rfl rfl rfl (by decide +kernel)
set_option maxRecDepth 65536 in
theorem w_c1 : (Jvm.Cond.code ({ cls := "com/example/reliquary/reliquary/Fixity$Tally", name := "<init>", desc := "(JJ)V" } : Jvm.MethodName) prog_33_method_1_code (5 : Nat) (Option.none : Option Jvm.ClassFile.FieldType)).before args0 about1 = true := code_word (m := ⟨3, 0⟩) (meth := k3m0) (c := k3c0) (by decide +kernel) rfl rfl rfl (by decide +kernel)
set_option maxRecDepth 65536 in
theorem w_c2 : (Jvm.Cond.code ({ cls := "java/lang/Record", name := "<init>", desc := "()V" } : Jvm.MethodName) jdk_30_method_1_code (1 : Nat) (Option.none : Option Jvm.ClassFile.FieldType)).before args0 about1 = true := code_word (m := ⟨2, 0⟩) (meth := k2m0) (c := k2c0) (by decide +kernel) rfl rfl rfl (by decide +kernel)
set_option maxRecDepth 65536 in
theorem w_c3 : (Jvm.Cond.code ({ cls := "java/lang/Object", name := "<init>", desc := "()V" } : Jvm.MethodName) object_method_1_code (1 : Nat) (Option.none : Option Jvm.ClassFile.FieldType)).before args0 about1 = true := code_word (m := ⟨0, 0⟩) (meth := k0m0) (c := k0c0) (by decide +kernel) rfl rfl rfl (by decide +kernel)
set_option maxRecDepth 65536 in
theorem w_c4 : (Jvm.Cond.code ({ cls := "com/example/reliquary/reliquary/Fixity$Tally", name := "plus", desc := "(Lcom/example/reliquary/reliquary/Fixity$Tally;)Lcom/example/reliquary/reliquary/Fixity$Tally;" } : Jvm.MethodName) prog_33_method_2_code (2 : Nat) (Option.some (Jvm.ClassFile.FieldType.object "com/example/reliquary/reliquary/Fixity$Tally"))).before args0 about1 = true := code_word (m := ⟨3, 1⟩) (meth := k3m1) (c := k3c1) (by decide +kernel) rfl rfl rfl (by decide +kernel)
set_option maxRecDepth 65536 in
theorem w_c5 : (Jvm.Cond.code ({ cls := "com/example/reliquary/reliquary/Fixity$Tally", name := "versions", desc := "()J" } : Jvm.MethodName) prog_33_method_6_code (1 : Nat) (Option.some Jvm.ClassFile.FieldType.long)).before args0 about1 = true := code_word (m := ⟨3, 2⟩) (meth := k3m2) (c := k3c2) (by decide +kernel) rfl rfl rfl (by decide +kernel)
set_option maxRecDepth 65536 in
theorem w_c6 : (Jvm.Cond.code ({ cls := "com/example/reliquary/reliquary/Fixity$Tally", name := "failures", desc := "()J" } : Jvm.MethodName) prog_33_method_7_code (1 : Nat) (Option.some Jvm.ClassFile.FieldType.long)).before args0 about1 = true := code_word (m := ⟨3, 3⟩) (meth := k3m3) (c := k3c3) (by decide +kernel) rfl rfl rfl (by decide +kernel)
def codes1 : List Jvm.Cond := [Jvm.Cond.code x code maxLocals ret, Jvm.Cond.code ({ cls := "com/example/reliquary/reliquary/Fixity$Tally", name := "<init>", desc := "(JJ)V" } : Jvm.MethodName) prog_33_method_1_code (5 : Nat) (Option.none : Option Jvm.ClassFile.FieldType), Jvm.Cond.code ({ cls := "java/lang/Record", name := "<init>", desc := "()V" } : Jvm.MethodName) jdk_30_method_1_code (1 : Nat) (Option.none : Option Jvm.ClassFile.FieldType), Jvm.Cond.code ({ cls := "java/lang/Object", name := "<init>", desc := "()V" } : Jvm.MethodName) object_method_1_code (1 : Nat) (Option.none : Option Jvm.ClassFile.FieldType), Jvm.Cond.code ({ cls := "com/example/reliquary/reliquary/Fixity$Tally", name := "plus", desc := "(Lcom/example/reliquary/reliquary/Fixity$Tally;)Lcom/example/reliquary/reliquary/Fixity$Tally;" } : Jvm.MethodName) prog_33_method_2_code (2 : Nat) (Option.some (Jvm.ClassFile.FieldType.object "com/example/reliquary/reliquary/Fixity$Tally")), Jvm.Cond.code ({ cls := "com/example/reliquary/reliquary/Fixity$Tally", name := "versions", desc := "()J" } : Jvm.MethodName) prog_33_method_6_code (1 : Nat) (Option.some Jvm.ClassFile.FieldType.long), Jvm.Cond.code ({ cls := "com/example/reliquary/reliquary/Fixity$Tally", name := "failures", desc := "()J" } : Jvm.MethodName) prog_33_method_7_code (1 : Nat) (Option.some Jvm.ClassFile.FieldType.long)]
set_option maxRecDepth 65536 in
theorem codes_eq : words1.filter isCode = codes1 := rfl
theorem w_codes : ∀ c ∈ words1.filter isCode, c.before args0 about1 = true := by
  rw [codes_eq]
  intro c hc
  simp only [codes1, List.mem_cons, List.not_mem_nil, or_false] at hc
  rcases hc with rfl | rfl | rfl | rfl | rfl | rfl | rfl
  · exact w_c0
  · exact w_c1
  · exact w_c2
  · exact w_c3
  · exact w_c4
  · exact w_c5
  · exact w_c6
set_option maxRecDepth 65536 in
theorem w_t1 : (words1.take 24).all (fun c => isCode c || c.before args0 about1) = true := by decide +kernel
set_option maxRecDepth 65536 in
theorem w_t2 : (words1.drop 24).all (fun c => isCode c || c.before args0 about1) = true := by decide +kernel
theorem w_tables : (allAtoms (Jvm.Cond.code x code maxLocals ret :: tables_1)).before args0 about1 = true := by
  rw [allAtoms_all]
  show words1.all (fun c => c.before args0 about1) = true
  refine all_split ?_ w_codes
  rw [← List.take_append_drop 24 words1, List.all_append, w_t1, w_t2]
  rfl
set_option maxRecDepth 65536 in
theorem w_case : (Jvm.Cond.and given_1 narrow_1).before args0 about1 = true := by decide +kernel
theorem w_applies : (headSpec (Jvm.Cond.code x code maxLocals ret :: tables_1) room_1).applies x e0.platform about1 = true :=
  (Spec.applies_iff w_frames).mpr ⟨w_running, w_runnable, w_alone, w_named, w_hears, w_ripe, w_room, w_tables⟩
theorem atStart : AtStart classFile x code maxLocals ret World_1 tables_1 room_1 Calls_1 rest_1 Pre_1 launch0 p0 e0 about1 theMethod args0 below0 :=
  ⟨lists_1, trivial, launch0.admits_env _ _ _, launch0.least_env, fairChoices_fair.cas, fairChoices_fair.clock, w_frames, w_args, w_heap, w_applies, trivial, trivial, w_case⟩
end start1
theorem witness_1 : WitnessClaimed_1 := ⟨start1.p0, start1.e0, start1.about1, start1.theMethod, start1.args0, start1.below0, start1.atStart⟩
end Jvm.Pilot.@@N@@
