import JvmDerived
import JvmDerived.Pilot.@@N@@Statement
import JvmDerived.Pilot.@@N@@Code
set_option linter.unusedVariables false
set_option linter.unusedSimpArgs false
namespace Jvm.RoadKit
open Sem ClassFile Op Lib Jvm.Stand Jvm.Free Jvm.LawKit
section New
variable {p : Program} {l : Launch} {e : Env} {R : Room} {s : State} {m : MethodId} {args : Array Value} {below : List Frame} {meth : Method} {c : Code} {T : State} {locs : List Loc} {cells slots : Nat}
theorem retI (X : Stand p l e R s m args below meth c T locs cells slots) (hx : p.tables.exec = Jvm.exec) {pc : Nat} {Ls : Array Slot} {z : Int32} {rest : List Value} (hret : meth.sig.returnType = some .int) (hd : decode c.code pc = .ok (.ireturn, 1)) {fs : List Frame}
    (hl : ∀ (f : JFrame) (acts : List Action), f.method = m → f.locked = none → f.entered = [] → (doReturn e (T.setTop f) acts (some (.int z))).1 = T.setFrames fs) : Steps p.tables e below (T.setTop (mkF m pc Ls (.int z :: rest))) (T.setFrames fs) := by
  have hm' : T.vm.method? m = some meth := X.method'
  have hn : narrow .int (.int z) = .int z := rfl
  show Steps p.tables e below (T.setTop { method := m, pc := pc, locals := Ls, stack := _ :: rest, locked := none }) _
  jvm_step X.here [X.here.top, hx, hd, hm', hret, hn]
  first | (intro acts; rw [hl _ acts rfl rfl rfl]) | rw [hl _ _ rfl rfl rfl]
  exact Steps.refl _
theorem retZ (X : Stand p l e R s m args below meth c T locs cells slots) (hx : p.tables.exec = Jvm.exec) {pc : Nat} {Ls : Array Slot} {z : Int32} {rest : List Value} (hret : meth.sig.returnType = some .boolean) (hz : z &&& 1 = z) (hd : decode c.code pc = .ok (.ireturn, 1)) {fs : List Frame}
    (hl : ∀ (f : JFrame) (acts : List Action), f.method = m → f.locked = none → f.entered = [] → (doReturn e (T.setTop f) acts (some (.int z))).1 = T.setFrames fs) : Steps p.tables e below (T.setTop (mkF m pc Ls (.int z :: rest))) (T.setFrames fs) := by
  have hn : narrow .boolean (.int z) = .int z := by show Value.int (z &&& 1) = _; rw [hz]
  exact retOut X hx hret hn (Or.inl ⟨rfl, Or.inr (Or.inl rfl), z, rfl⟩) hd hl
theorem retJ (X : Stand p l e R s m args below meth c T locs cells slots) (hx : p.tables.exec = Jvm.exec) {pc : Nat} {Ls : Array Slot} {z : Int64} {rest : List Value} (hret : meth.sig.returnType = some .long) (hd : decode c.code pc = .ok (.lreturn, 1)) {fs : List Frame}
    (hl : ∀ (f : JFrame) (acts : List Action), f.method = m → f.locked = none → f.entered = [] → (doReturn e (T.setTop f) acts (some (.long z))).1 = T.setFrames fs) : Steps p.tables e below (T.setTop (mkF m pc Ls (.long z :: rest))) (T.setFrames fs) :=
  retOut X hx hret rfl (Or.inr (Or.inl ⟨rfl, rfl, z, rfl⟩)) hd hl
theorem retA (X : Stand p l e R s m args below meth c T locs cells slots) (hx : p.tables.exec = Jvm.exec) {pc : Nat} {Ls : Array Slot} {a : Addr} {rest : List Value} {t : FieldType} (ht : t.isReference = true) (hn : narrow t (.ref a) = .ref a) (hret : meth.sig.returnType = some t) (hd : decode c.code pc = .ok (.areturn, 1)) {fs : List Frame}
    (hl : ∀ (f : JFrame) (acts : List Action), f.method = m → f.locked = none → f.entered = [] → (doReturn e (T.setTop f) acts (some (.ref a))).1 = T.setFrames fs) : Steps p.tables e below (T.setTop (mkF m pc Ls (.ref a :: rest))) (T.setFrames fs) :=
  retOut X hx hret hn (Or.inr (Or.inr (Or.inr (Or.inr ⟨rfl, ht, rfl⟩)))) hd hl
theorem newPk {Z : State} {a0 : Array Value} {h : Heap} (X : Stand p l e R s m args below meth c T locs cells slots) (hx : p.tables.exec = Jvm.exec) (hZ : Z.Warmed39 s.vm) {aty : ArrayType} (w : (Cond.arrayClass (newarray.typeOf aty)).before a0 Z = true) (eT : T.heap = h) {g : JFrame} (hg : g.method = m)
    (hd : decode c.code g.pc = .ok (.newarray aty, 2)) {n : Int32} {rest : List Value} (hs : g.stack = .int n :: rest) (hn : ¬ n < 0) {cap : Nat} (hcap : n.toNatClampNeg ≤ cap) (hb : cap * 8 ≤ 536870912) (hc : cells + 1 ≤ R.cells) (hl : slots + cap ≤ R.slots) :
    ∃ T' h' cA, Stand p l e R s m args below meth c T' locs (cells + 1) (slots + cap) ∧ T'.heap = h' ∧ Ext h h' ∧ Arr Z h' h.size (newA cA (newarray.typeOf aty) n) (newarray.typeOf aty) ∧ Z.vm.findClass ("[" ++ (newarray.typeOf aty).toString) = some cA ∧
      ∀ target, Steps p.tables e below (T'.setTop { g with pc := g.pc + 2, stack := .ref h.size :: rest }) target → Steps p.tables e below (T.setTop g) target := by
  have hw8 : componentBytes (newarray.typeOf aty) ≤ 8 := by cases aty <;> decide
  obtain ⟨cA, kA, comp, f1, f2, f3, X', st⟩ := X.newarrayPrim hx (mvA hZ w) hg hd hs hn (Nat.le_trans (Nat.mul_le_mul hcap hw8) hb) hc (by omega)
  subst eT
  have f0 : Z.vm.findClass ("[" ++ (newarray.typeOf aty).toString) = some cA := by rw [← hZ.alike.findClass]; exact f1
  obtain ⟨kZ, z1, -⟩ := Vm.findClass_spec f0
  obtain ⟨k', z2, z3⟩ := hZ.alike.2.2 _ _ z1
  have ek : kA = k' := Option.some.inj (f2.symm.trans z2)
  have hq : kZ.kind = .array comp (newarray.typeOf aty) := by rw [← f3, ek, z3]
  refine ⟨_, _, cA, X'.more (Nat.le_refl _) (by omega), rfl, ext_of fun a ha => ?_, ⟨?_, ⟨fun q => by simp [newA], kZ, z1, comp, hq⟩, by simp [newA]⟩, f0, st⟩
  · show (T.heap.push _)[a]? = _
    rw [Array.getElem?_push_lt ha, Array.getElem?_eq_getElem ha]
  · show (T.heap.push _)[T.heap.size]? = _
    simp [newA]
theorem selPriv {s : State} {args : Array Value} {C : String} {y y0 : MethodName} (hsel : (Cond.selects C y0 y0).before args s = true) (hcls : y0.cls = y.cls) (hpriv : s.PrivateAt y) (hinst : (Cond.instanceMethod y).before args s = true) (hy : y.cls ≠ "java/lang/invoke/MethodHandle" ∧ y.cls ≠ "java/lang/invoke/VarHandle") : (Cond.selects y.cls y y).before args s = true := by
  obtain ⟨mk, meth, hnamed, hm, -, -⟩ := Cond.instanceMethod_spec hinst
  have hc := findClass_of_methodNamed hnamed
  obtain ⟨_, _, m2, -, -, q3, -, kP, hkP, hkPi⟩ := Cond.selects_spec hsel
  have h0 := findClass_of_methodNamed q3
  rw [hcls] at h0
  have e : mk.cls = m2.cls := Option.some.inj (hc.symm.trans h0)
  exact selects_self_of_private hc (by rw [e]; exact hkP) hkPi hpriv hinst hy
theorem insA {Z : State} {h : Heap} {a : Addr} {k : ClassId} {ty : FieldType} {z : Int32} {vs : List Value} {d : Value} {K : String} (F : Arv Z h a k ty z vs d) (hk : Z.vm.findClass K = some k) : Ins Z h a K true := by
  obtain ⟨c, A, q, -⟩ := F
  exact ⟨c, k, A.1, hk, by simp [A.plain, q, Vm.assignable_self]⟩
theorem lswHit {g : JFrame} {target : State} (X : Stand p l e R s m args below meth c T locs cells slots) (hx : p.tables.exec = Jvm.exec) (hg : g.method = m) {pc0 pc' : Nat} (hpc : g.pc = pc0) {k : Int32} {rest : List Value} {dflt : Int} {pairs : Array (Int × Int)} {len : Nat}
    (hd : decode c.code g.pc = .ok (.lookupswitch dflt pairs, len)) (hs : g.stack = .int k :: rest) (hsort : (pairs.toList.zip (pairs.toList.drop 1)).all (fun (a, next) => a.1 < next.1) = true) {a off : Int} (hf : pairs.find? (·.1 == k.toInt) = some (a, off)) (ho : 0 ≤ (pc0 : Int) + off) (hp : ((pc0 : Int) + off).toNat = pc')
    (hr : Steps p.tables e below (T.setTop { g with pc := pc', stack := rest }) target) : Steps p.tables e below (T.setTop g) target := by
  subst hpc hp
  exact X.lookupswitchHit hx hg hs hd hsort hf ho _ hr
theorem lswMiss {g : JFrame} {target : State} (X : Stand p l e R s m args below meth c T locs cells slots) (hx : p.tables.exec = Jvm.exec) (hg : g.method = m) {pc0 pc' : Nat} (hpc : g.pc = pc0) {k : Int32} {rest : List Value} {dflt : Int} {pairs : Array (Int × Int)} {len : Nat}
    (hd : decode c.code g.pc = .ok (.lookupswitch dflt pairs, len)) (hs : g.stack = .int k :: rest) (hsort : (pairs.toList.zip (pairs.toList.drop 1)).all (fun (a, next) => a.1 < next.1) = true) (hf : pairs.find? (·.1 == k.toInt) = none) (ho : 0 ≤ (pc0 : Int) + dflt) (hp : ((pc0 : Int) + dflt).toNat = pc')
    (hr : Steps p.tables e below (T.setTop { g with pc := pc', stack := rest }) target) : Steps p.tables e below (T.setTop g) target := by
  subst hpc hp
  exact X.lookupswitchMiss hx hg hs hd hsort hf ho _ hr
end New
end Jvm.RoadKit
namespace Jvm.Pilot.@@N@@
open Jvm Jvm.ClassFile Sem Op Lib Jvm.Free Jvm.Stand Jvm.LawKit Jvm.RoadKit Bundle Jvm.Pilot.@@N@@.Jvm.D
theorem d2_0 : decode prog_2_method_1_code 0 = .ok (.aload_n 0, 1) := by decide +kernel
theorem d2_1 : decode prog_2_method_1_code 1 = .ok (.invokespecial 1, 3) := by decide +kernel
theorem d2_4 : decode prog_2_method_1_code 4 = .ok (.aload_n 0, 1) := by decide +kernel
theorem d2_5 : decode prog_2_method_1_code 5 = .ok (.iload_n 1, 1) := by decide +kernel
theorem d2_6 : decode prog_2_method_1_code 6 = .ok (.putfield 7, 3) := by decide +kernel
theorem d2_9 : decode prog_2_method_1_code 9 = .ok (.aload_n 0, 1) := by decide +kernel
theorem d2_10 : decode prog_2_method_1_code 10 = .ok (.iload_n 2, 1) := by decide +kernel
theorem d2_11 : decode prog_2_method_1_code 11 = .ok (.putfield 13, 3) := by decide +kernel
theorem d2_14 : decode prog_2_method_1_code 14 = .ok (.aload_n 0, 1) := by decide +kernel
theorem d2_15 : decode prog_2_method_1_code 15 = .ok (.lload_n 3, 1) := by decide +kernel
theorem d2_16 : decode prog_2_method_1_code 16 = .ok (.putfield 17, 3) := by decide +kernel
theorem d2_19 : decode prog_2_method_1_code 19 = .ok (.aload_n 0, 1) := by decide +kernel
theorem d2_20 : decode prog_2_method_1_code 20 = .ok (.iload 5, 2) := by decide +kernel
theorem d2_22 : decode prog_2_method_1_code 22 = .ok (.putfield 21, 3) := by decide +kernel
theorem d2_25 : decode prog_2_method_1_code 25 = .ok (.return_, 1) := by decide +kernel
theorem pn_0 : plainName "com/example/lean_limiter/leanlimiter/Decision" = true := by first | (simp [plainName, overriddenIn]; done) | decide +kernel
theorem ef_rm2 (m : MethodId) (a0 : Addr) (p1 : Int32) (p2 : Int32) (q3 : Int64) (p4 : Int32) : entryFrame m #[(.ref a0), (.int p1), (.int p2), (.long q3), (.int p4)] 6 = mkF m 0 #[.val (.ref a0), .val (.int p1), .val (.int p2), .val (.long q3), .second, .val (.int p4)] [] := by first | (simp [entryFrame, mkF, argsToLocals, Value.category]; done) | rfl
def Q_rm2 (Z : State) (a0 : Addr) (p1 : Int32) (p2 : Int32) (q3 : Int64) (p4 : Int32) (h0 : Heap) (n0 : Nat) (v : Option Value) (h : Heap) (L : List Loc) : Prop := v = none ∧ Fr n0 L ∧ Keep h0 h [a0] ∧ Exa Z h a0 "com/example/lean_limiter/leanlimiter/Decision" ∧ Fld Z h a0 "com/example/lean_limiter/leanlimiter/Decision" "allowed" "Z" (.int (nar .boolean p1)) ∧ Fld Z h a0 "com/example/lean_limiter/leanlimiter/Decision" "remaining" "I" (.int p2) ∧ Fld Z h a0 "com/example/lean_limiter/leanlimiter/Decision" "retryAfterMillis" "J" (.long q3) ∧ Fld Z h a0 "com/example/lean_limiter/leanlimiter/Decision" "degraded" "Z" (.int (nar .boolean p4))
set_option maxRecDepth 65536 in
set_option maxHeartbeats 40000000 in
theorem rm2 (l : Launch) (Z : State) (aw : Array Value) (hw : ∀ d ∈ tables_1, d.before aw Z = true) (ws : List Jvm.Cond) (a0 : Addr) (p1 : Int32) (p2 : Int32) (q3 : Int64) (p4 : Int32) (h0 : Heap) (n0 : Nat) (Z0 : n0 ≤ h0.size) (E_a0 : Exa Z h0 a0 "com/example/lean_limiter/leanlimiter/Decision") (F_a0_allowed : Fld Z h0 a0 "com/example/lean_limiter/leanlimiter/Decision" "allowed" "Z" (.int (0 : Int32))) (F_a0_remaining : Fld Z h0 a0 "com/example/lean_limiter/leanlimiter/Decision" "remaining" "I" (.int (0 : Int32))) (F_a0_retryAfterMillis : Fld Z h0 a0 "com/example/lean_limiter/leanlimiter/Decision" "retryAfterMillis" "J" (.long (0 : Int64))) (F_a0_degraded : Fld Z h0 a0 "com/example/lean_limiter/leanlimiter/Decision" "degraded" "Z" (.int (0 : Int32))) (g_a0 : n0 ≤ a0) :
    MetFree l (⟨"com/example/lean_limiter/leanlimiter/Decision", "<init>", "(ZIJZ)V"⟩ : MethodName) (head1 (Jvm.Cond.code (⟨"com/example/lean_limiter/leanlimiter/Decision", "<init>", "(ZIJZ)V"⟩ : MethodName) prog_2_method_1_code 6 none :: ws) ({ frames := 1, cells := 0, slots := 0, locals := 12 } : Room)) (fun a U => a = #[(.ref a0), (.int p1), (.int p2), (.long q3), (.int p4)] ∧ Z.Warmed39 U.vm ∧ U.heap = h0) (fun _ _ _ _ _ => True) (fun _ U o U' => ∃ v L, o = .returned v ∧ Q_rm2 Z a0 p1 p2 q3 p4 h0 n0 v U'.heap L ∧ FrameEnd U o U' L ({ frames := 1, cells := 0, slots := 0, locals := 12 } : Room).cells ({ frames := 1, cells := 0, slots := 0, locals := 12 } : Room).slots) := by
  refine MetFree.of_bodySF (plainFor_of_name pn_0) hisR ?_
  intro p e s m args below meth c s₁ Bd hml0 hP hK
  obtain ⟨rfl, hZ, hh⟩ := hP
  have hx := Bd.exec
  have hby := Bd.bytes
  have hml : c.maxLocals = 6 := hml0
  have hown : s.vm.findClass "com/example/lean_limiter/leanlimiter/Decision" = some m.cls := findClass_of_methodNamed Bd.named
  have hnm := (name_of_methodNamed Bd.named Bd.method).1
  have X0 : Stand p l e ({ frames := 1, cells := 0, slots := 0, locals := 12 } : Room) s m #[(.ref a0), (.int p1), (.int p2), (.long q3), (.int p4)] below meth c s₁ [] 0 0 := Stand.of_body Bd
  have e0 : s₁.heap = h0 := by rw [← hh, Bd.state]; rfl
  have N0 := Fr.nil n0
  have pre0 : ∀ t, Steps p.tables e below (s₁.setTop (mkF m 0 #[.val (.ref a0), .val (.int p1), .val (.int p2), .val (.long q3), .second, .val (.int p4)] [])) t → Steps p.tables e below (s₁.setTop (entryFrame m #[(.ref a0), (.int p1), (.int p2), (.long q3), (.int p4)] 6)) t := fun t k => castTop (ef_rm2 m a0 p1 p2 q3 p4) k
  have KC0 : Keep h0 h0 [a0] := Keep.refl h0 [a0]
  obtain ⟨T101, X101, e101, st101⟩ := initO X0 hx hZ hown (hw _ (List.mem_of_getElem? (i := 9) rfl)) (hw _ (List.mem_of_getElem? (i := 10) rfl)) (hw _ (List.mem_of_getElem? (i := 11) rfl)) e0 (g := (mkF m 1 #[.val (.ref a0), .val (.int p1), .val (.int p2), .val (.long q3), .second, .val (.int p4)] [(.ref a0)])) rfl (by rw [hml]; rfl) rfl (hb hby d2_1) (by decide) (W := 0) (by show 2 * 0 + _ ≤ _; exact Nat.le_of_eq rfl) (by decide)
  obtain ⟨T102, h102, X102, e102, W102, st102⟩ := putFN X101 hx hZ hown (hw _ (List.mem_of_getElem? (i := 12) rfl)) Via.refl e101 F_a0_allowed E_a0 (Or.inr ⟨(hw _ (List.mem_of_getElem? (i := 13) rfl)), rfl, hnm⟩) (hw _ (List.mem_of_getElem? (i := 5) rfl)) (ty := .boolean) (v' := (.int (nar .boolean p1))) (by decide) rfl (fits_nar_bool _) (g := (mkF m 6 #[.val (.ref a0), .val (.int p1), .val (.int p2), .val (.long q3), .second, .val (.int p4)] [(.int p1), (.ref a0)])) rfl rfl (hb hby d2_6)
  have f103 := E_a0.wr W102
  have f104 := F_a0_remaining.other W102 (Or.inr (slot_ne (Or.inr (hw _ (List.mem_of_getElem? (i := 15) rfl))) (Or.inr (hw _ (List.mem_of_getElem? (i := 13) rfl))) (by decide) (t := .int) (t' := .boolean) (by decide) (by decide)))
  have f105 := F_a0_retryAfterMillis.other W102 (Or.inr (slot_ne (Or.inr (hw _ (List.mem_of_getElem? (i := 17) rfl))) (Or.inr (hw _ (List.mem_of_getElem? (i := 13) rfl))) (by decide) (t := .long) (t' := .boolean) (by decide) (by decide)))
  have f106 := F_a0_degraded.other W102 (Or.inr (slot_ne (Or.inr (hw _ (List.mem_of_getElem? (i := 19) rfl))) (Or.inr (hw _ (List.mem_of_getElem? (i := 13) rfl))) (by decide) (t := .boolean) (t' := .boolean) (by decide) (by decide)))
  have Z107 : n0 ≤ h102.size := Nat.le_trans Z0 (Keep.of_wr W102).1
  have K108 : Keep h0 h102 [a0] := Keep.wr KC0 W102 (Or.inl (List.mem_of_getElem? (i := 0) rfl))
  have N109 := Fr.snoc X102 N0 g_a0
  have f110 : Fld Z h102 a0 "com/example/lean_limiter/leanlimiter/Decision" "allowed" "Z" (.int (nar .boolean p1)) := F_a0_allowed.same W102
  obtain ⟨T111, h111, X111, e111, W111, st111⟩ := putF X102 hx hZ hown (host := "") (Or.inl (hw _ (List.mem_of_getElem? (i := 14) rfl))) Via.refl e102 f104 f103 (Or.inr ⟨(hw _ (List.mem_of_getElem? (i := 15) rfl)), rfl, hnm⟩) (hw _ (List.mem_of_getElem? (i := 5) rfl)) (ty := .int) (by decide) rfl rfl (g := (mkF m 11 #[.val (.ref a0), .val (.int p1), .val (.int p2), .val (.long q3), .second, .val (.int p4)] [(.int p2), (.ref a0)])) rfl rfl (hb hby d2_11)
  have f112 := f103.wr W111
  have f113 := f105.other W111 (Or.inr (slot_ne (Or.inr (hw _ (List.mem_of_getElem? (i := 17) rfl))) (Or.inr (hw _ (List.mem_of_getElem? (i := 15) rfl))) (by decide) (t := .long) (t' := .int) (by decide) (by decide)))
  have f114 := f106.other W111 (Or.inr (slot_ne (Or.inr (hw _ (List.mem_of_getElem? (i := 19) rfl))) (Or.inr (hw _ (List.mem_of_getElem? (i := 15) rfl))) (by decide) (t := .boolean) (t' := .int) (by decide) (by decide)))
  have f115 := f110.other W111 (Or.inr (slot_ne (Or.inr (hw _ (List.mem_of_getElem? (i := 13) rfl))) (Or.inr (hw _ (List.mem_of_getElem? (i := 15) rfl))) (by decide) (t := .boolean) (t' := .int) (by decide) (by decide)))
  have Z116 : n0 ≤ h111.size := Nat.le_trans Z107 (Keep.of_wr W111).1
  have K117 : Keep h0 h111 [a0] := Keep.wr K108 W111 (Or.inl (List.mem_of_getElem? (i := 0) rfl))
  have N118 := Fr.snoc X111 N109 g_a0
  have f119 : Fld Z h111 a0 "com/example/lean_limiter/leanlimiter/Decision" "remaining" "I" (.int p2) := f104.same W111
  obtain ⟨T120, h120, X120, e120, W120, st120⟩ := putF X111 hx hZ hown (host := "") (Or.inl (hw _ (List.mem_of_getElem? (i := 16) rfl))) Via.refl e111 f113 f112 (Or.inr ⟨(hw _ (List.mem_of_getElem? (i := 17) rfl)), rfl, hnm⟩) (hw _ (List.mem_of_getElem? (i := 5) rfl)) (ty := .long) (by decide) rfl rfl (g := (mkF m 16 #[.val (.ref a0), .val (.int p1), .val (.int p2), .val (.long q3), .second, .val (.int p4)] [(.long q3), (.ref a0)])) rfl rfl (hb hby d2_16)
  have f121 := f112.wr W120
  have f122 := f114.other W120 (Or.inr (slot_ne (Or.inr (hw _ (List.mem_of_getElem? (i := 19) rfl))) (Or.inr (hw _ (List.mem_of_getElem? (i := 17) rfl))) (by decide) (t := .boolean) (t' := .long) (by decide) (by decide)))
  have f123 := f115.other W120 (Or.inr (slot_ne (Or.inr (hw _ (List.mem_of_getElem? (i := 13) rfl))) (Or.inr (hw _ (List.mem_of_getElem? (i := 17) rfl))) (by decide) (t := .boolean) (t' := .long) (by decide) (by decide)))
  have f124 := f119.other W120 (Or.inr (slot_ne (Or.inr (hw _ (List.mem_of_getElem? (i := 15) rfl))) (Or.inr (hw _ (List.mem_of_getElem? (i := 17) rfl))) (by decide) (t := .int) (t' := .long) (by decide) (by decide)))
  have Z125 : n0 ≤ h120.size := Nat.le_trans Z116 (Keep.of_wr W120).1
  have K126 : Keep h0 h120 [a0] := Keep.wr K117 W120 (Or.inl (List.mem_of_getElem? (i := 0) rfl))
  have N127 := Fr.snoc X120 N118 g_a0
  have f128 : Fld Z h120 a0 "com/example/lean_limiter/leanlimiter/Decision" "retryAfterMillis" "J" (.long q3) := f113.same W120
  obtain ⟨T129, h129, X129, e129, W129, st129⟩ := putFN X120 hx hZ hown (hw _ (List.mem_of_getElem? (i := 18) rfl)) Via.refl e120 f122 f121 (Or.inr ⟨(hw _ (List.mem_of_getElem? (i := 19) rfl)), rfl, hnm⟩) (hw _ (List.mem_of_getElem? (i := 5) rfl)) (ty := .boolean) (v' := (.int (nar .boolean p4))) (by decide) rfl (fits_nar_bool _) (g := (mkF m 22 #[.val (.ref a0), .val (.int p1), .val (.int p2), .val (.long q3), .second, .val (.int p4)] [(.int p4), (.ref a0)])) rfl rfl (hb hby d2_22)
  have f130 := f121.wr W129
  have f131 := f123.other W129 (Or.inr (slot_ne (Or.inr (hw _ (List.mem_of_getElem? (i := 13) rfl))) (Or.inr (hw _ (List.mem_of_getElem? (i := 19) rfl))) (by decide) (t := .boolean) (t' := .boolean) (by decide) (by decide)))
  have f132 := f124.other W129 (Or.inr (slot_ne (Or.inr (hw _ (List.mem_of_getElem? (i := 15) rfl))) (Or.inr (hw _ (List.mem_of_getElem? (i := 19) rfl))) (by decide) (t := .int) (t' := .boolean) (by decide) (by decide)))
  have f133 := f128.other W129 (Or.inr (slot_ne (Or.inr (hw _ (List.mem_of_getElem? (i := 17) rfl))) (Or.inr (hw _ (List.mem_of_getElem? (i := 19) rfl))) (by decide) (t := .long) (t' := .boolean) (by decide) (by decide)))
  have Z134 : n0 ≤ h129.size := Nat.le_trans Z125 (Keep.of_wr W129).1
  have K135 : Keep h0 h129 [a0] := Keep.wr K126 W129 (Or.inl (List.mem_of_getElem? (i := 0) rfl))
  have N136 := Fr.snoc X129 N127 g_a0
  have f137 : Fld Z h129 a0 "com/example/lean_limiter/leanlimiter/Decision" "degraded" "Z" (.int (nar .boolean p4)) := f122.same W129
  obtain ⟨fs, hr, hrun, hended, hW, hsame⟩ := X129.leave (v := none) (fun _ => rfl)
  refine ⟨_, _, pre0 _ ?_, hrun, hended, _, _, rfl, ?_, ⟨_, rfl⟩, hW, hsame.mono (by decide) (by decide)⟩
  ·
    show Steps p.tables e below (s₁.setTop (mkF m 0 #[.val (.ref a0), .val (.int p1), .val (.int p2), .val (.long q3), .second, .val (.int p4)] [])) _
    refine XS.aloadN X0.here hx rfl (hb hby d2_0) rfl rfl ?_
    show Steps p.tables e below (s₁.setTop (mkF m 1 #[.val (.ref a0), .val (.int p1), .val (.int p2), .val (.long q3), .second, .val (.int p4)] [(.ref a0)])) _
    refine st101 _ ?_
    show Steps p.tables e below (T101.setTop (mkF m 4 #[.val (.ref a0), .val (.int p1), .val (.int p2), .val (.long q3), .second, .val (.int p4)] [])) _
    refine XS.aloadN X101.here hx rfl (hb hby d2_4) rfl rfl ?_
    show Steps p.tables e below (T101.setTop (mkF m 5 #[.val (.ref a0), .val (.int p1), .val (.int p2), .val (.long q3), .second, .val (.int p4)] [(.ref a0)])) _
    refine XS.iloadN X101.here hx rfl (hb hby d2_5) rfl ?_
    show Steps p.tables e below (T101.setTop (mkF m 6 #[.val (.ref a0), .val (.int p1), .val (.int p2), .val (.long q3), .second, .val (.int p4)] [(.int p1), (.ref a0)])) _
    refine st102 _ ?_
    show Steps p.tables e below (T102.setTop (mkF m 9 #[.val (.ref a0), .val (.int p1), .val (.int p2), .val (.long q3), .second, .val (.int p4)] [])) _
    refine XS.aloadN X102.here hx rfl (hb hby d2_9) rfl rfl ?_
    show Steps p.tables e below (T102.setTop (mkF m 10 #[.val (.ref a0), .val (.int p1), .val (.int p2), .val (.long q3), .second, .val (.int p4)] [(.ref a0)])) _
    refine XS.iloadN X102.here hx rfl (hb hby d2_10) rfl ?_
    show Steps p.tables e below (T102.setTop (mkF m 11 #[.val (.ref a0), .val (.int p1), .val (.int p2), .val (.long q3), .second, .val (.int p4)] [(.int p2), (.ref a0)])) _
    refine st111 _ ?_
    show Steps p.tables e below (T111.setTop (mkF m 14 #[.val (.ref a0), .val (.int p1), .val (.int p2), .val (.long q3), .second, .val (.int p4)] [])) _
    refine XS.aloadN X111.here hx rfl (hb hby d2_14) rfl rfl ?_
    show Steps p.tables e below (T111.setTop (mkF m 15 #[.val (.ref a0), .val (.int p1), .val (.int p2), .val (.long q3), .second, .val (.int p4)] [(.ref a0)])) _
    refine XS.lloadN X111.here hx rfl (hb hby d2_15) rfl ?_
    show Steps p.tables e below (T111.setTop (mkF m 16 #[.val (.ref a0), .val (.int p1), .val (.int p2), .val (.long q3), .second, .val (.int p4)] [(.long q3), (.ref a0)])) _
    refine st120 _ ?_
    show Steps p.tables e below (T120.setTop (mkF m 19 #[.val (.ref a0), .val (.int p1), .val (.int p2), .val (.long q3), .second, .val (.int p4)] [])) _
    refine XS.aloadN X120.here hx rfl (hb hby d2_19) rfl rfl ?_
    show Steps p.tables e below (T120.setTop (mkF m 20 #[.val (.ref a0), .val (.int p1), .val (.int p2), .val (.long q3), .second, .val (.int p4)] [(.ref a0)])) _
    refine XS.iload X120.here hx rfl (hb hby d2_20) rfl ?_
    show Steps p.tables e below (T120.setTop (mkF m 22 #[.val (.ref a0), .val (.int p1), .val (.int p2), .val (.long q3), .second, .val (.int p4)] [(.int p4), (.ref a0)])) _
    refine st129 _ ?_
    show Steps p.tables e below (T129.setTop (mkF m 25 #[.val (.ref a0), .val (.int p1), .val (.int p2), .val (.long q3), .second, .val (.int p4)] [])) _
    exact X129.returnOut hx Bd.returns (hb hby d2_25) hr
  ·
    show Q_rm2 Z a0 p1 p2 q3 p4 h0 n0 _ T129.heap _
    rw [e129]
    exact ⟨rfl, N136, K135, f130, f131, f132, f133, f137⟩
theorem d4_0 : decode prog_2_method_2_code 0 = .ok (.new 8, 3) := by decide +kernel
theorem d4_3 : decode prog_2_method_2_code 3 = .ok (.dup, 1) := by decide +kernel
theorem d4_4 : decode prog_2_method_2_code 4 = .ok (.iconst 1, 1) := by decide +kernel
theorem d4_5 : decode prog_2_method_2_code 5 = .ok (.iload_n 0, 1) := by decide +kernel
theorem d4_6 : decode prog_2_method_2_code 6 = .ok (.lconst 0, 1) := by decide +kernel
theorem d4_7 : decode prog_2_method_2_code 7 = .ok (.iconst 0, 1) := by decide +kernel
theorem pd_0 : parseMethodDescriptor "(ZIJZ)V" = some ⟨[.boolean, .int, .long, .boolean], none⟩ := by decide +kernel
theorem d4_8 : decode prog_2_method_2_code 8 = .ok (.invokespecial 24, 3) := by decide +kernel
theorem d4_11 : decode prog_2_method_2_code 11 = .ok (.areturn, 1) := by decide +kernel
theorem ef_rm4 (m : MethodId) (p0 : Int32) : entryFrame m #[(.int p0)] 1 = mkF m 0 #[.val (.int p0)] [] := by first | (simp [entryFrame, mkF, argsToLocals, Value.category]; done) | rfl
def Q_rm4 (Z : State) (p0 : Int32) (h0 : Heap) (n0 : Nat) (v : Option Value) (h : Heap) (L : List Loc) : Prop := ∃ b : Addr, v = some (.ref b) ∧ Fr n0 L ∧ Keep h0 h [] ∧ h0.size ≤ b ∧ Exa Z h b "com/example/lean_limiter/leanlimiter/Decision" ∧ Fld Z h b "com/example/lean_limiter/leanlimiter/Decision" "allowed" "Z" (.int (1 : Int32)) ∧ Fld Z h b "com/example/lean_limiter/leanlimiter/Decision" "remaining" "I" (.int p0) ∧ Fld Z h b "com/example/lean_limiter/leanlimiter/Decision" "retryAfterMillis" "J" (.long (0 : Int64)) ∧ Fld Z h b "com/example/lean_limiter/leanlimiter/Decision" "degraded" "Z" (.int (0 : Int32))
set_option maxRecDepth 65536 in
set_option maxHeartbeats 40000000 in
theorem rm4 (l : Launch) (Z : State) (aw : Array Value) (hw : ∀ d ∈ tables_1, d.before aw Z = true) (ws : List Jvm.Cond) (p0 : Int32) (h0 : Heap) (n0 : Nat) (Z0 : n0 ≤ h0.size) :
    MetFree l (⟨"com/example/lean_limiter/leanlimiter/Decision", "admitted", "(I)Lcom/example/lean_limiter/leanlimiter/Decision;"⟩ : MethodName) (head1 (Jvm.Cond.code (⟨"com/example/lean_limiter/leanlimiter/Decision", "admitted", "(I)Lcom/example/lean_limiter/leanlimiter/Decision;"⟩ : MethodName) prog_2_method_2_code 1 (some (.object "com/example/lean_limiter/leanlimiter/Decision")) :: ws) ({ frames := 2, cells := 1, slots := 4, locals := 30 } : Room)) (fun a U => a = #[(.int p0)] ∧ Z.Warmed39 U.vm ∧ U.heap = h0) (fun _ _ _ _ _ => True) (fun _ U o U' => ∃ v L, o = .returned v ∧ Q_rm4 Z p0 h0 n0 v U'.heap L ∧ FrameEnd U o U' L ({ frames := 2, cells := 1, slots := 4, locals := 30 } : Room).cells ({ frames := 2, cells := 1, slots := 4, locals := 30 } : Room).slots) := by
  refine MetFree.of_bodySF (plainFor_of_name pn_0) hisR ?_
  intro p e s m args below meth c s₁ Bd hml0 hP hK
  obtain ⟨rfl, hZ, hh⟩ := hP
  have hx := Bd.exec
  have hby := Bd.bytes
  have hml : c.maxLocals = 1 := hml0
  have hown : s.vm.findClass "com/example/lean_limiter/leanlimiter/Decision" = some m.cls := findClass_of_methodNamed Bd.named
  have hnm := (name_of_methodNamed Bd.named Bd.method).1
  have X0 : Stand p l e ({ frames := 2, cells := 1, slots := 4, locals := 30 } : Room) s m #[(.int p0)] below meth c s₁ [] 0 0 := Stand.of_body Bd
  have e0 : s₁.heap = h0 := by rw [← hh, Bd.state]; rfl
  have N0 := Fr.nil n0
  have pre0 : ∀ t, Steps p.tables e below (s₁.setTop (mkF m 0 #[.val (.int p0)] [])) t → Steps p.tables e below (s₁.setTop (entryFrame m #[(.int p0)] 1)) t := fun t k => castTop (ef_rm4 m p0) k
  have KC0 : Keep h0 h0 [] := Keep.refl h0 []
  obtain ⟨T138, h138, X138, e138, E138, A138, D138, -, st138⟩ := newO X0 hx hZ hown (hw _ (List.mem_of_getElem? (i := 4) rfl)) (hw _ (List.mem_of_getElem? (i := 5) rfl)) (hw _ (List.mem_of_getElem? (i := 2) rfl)) e0 (g := (mkF m 0 #[.val (.int p0)] [])) rfl (hb hby d4_0) (by decide) (by decide)
  obtain ⟨b138, g138⟩ : ∃ z, z = h0.size := ⟨_, rfl⟩
  rw [← g138] at A138 D138 st138
  have gn139 : n0 ≤ b138 := Nat.le_trans Z0 (Nat.le_of_eq g138.symm)
  have sz140 : h0.size ≤ b138 := Nat.le_trans KC0.1 (Nat.le_of_eq g138.symm)
  have Z141 : n0 ≤ h138.size := Nat.le_trans Z0 E138.1
  have K142 : Keep h0 h138 [] := Keep.ext KC0 E138
  have f143 : Fld Z h138 b138 "com/example/lean_limiter/leanlimiter/Decision" "allowed" "Z" (.int (0 : Int32)) := D138 (Or.inr (hw _ (List.mem_of_getElem? (i := 13) rfl))) (ty := .boolean) (by decide)
  have f144 : Fld Z h138 b138 "com/example/lean_limiter/leanlimiter/Decision" "remaining" "I" (.int (0 : Int32)) := D138 (Or.inr (hw _ (List.mem_of_getElem? (i := 15) rfl))) (ty := .int) (by decide)
  have f145 : Fld Z h138 b138 "com/example/lean_limiter/leanlimiter/Decision" "retryAfterMillis" "J" (.long (0 : Int64)) := D138 (Or.inr (hw _ (List.mem_of_getElem? (i := 17) rfl))) (ty := .long) (by decide)
  have f146 : Fld Z h138 b138 "com/example/lean_limiter/leanlimiter/Decision" "degraded" "Z" (.int (0 : Int32)) := D138 (Or.inr (hw _ (List.mem_of_getElem? (i := 19) rfl))) (ty := .boolean) (by decide)
  obtain ⟨_, _, ⟨T147, L147, k147, n147⟩, -, X147, ⟨Lc147, hQ147, l147, y147, z147⟩, st147⟩ := X138.specialBack hx (y := (⟨"com/example/lean_limiter/leanlimiter/Decision", "<init>", "(ZIJZ)V"⟩ : MethodName)) rfl hown (mvT hZ (hw _ (List.mem_of_getElem? (i := 6) rfl))) (mvT hZ (hw _ (List.mem_of_getElem? (i := 7) rfl))) (mvT hZ (hw _ (List.mem_of_getElem? (i := 8) rfl))) (by decide) (backOf (W := 1) (rm2 l Z aw hw [] b138 (1 : Int32) p0 (0 : Int64) (0 : Int32) h138 n0 Z141 A138 f143 f144 f145 f146 gn139) hZ (hw _ (List.mem_of_getElem? (i := 8) rfl)) (hw _ (List.mem_of_getElem? (i := 2) rfl)) (by decide) (by decide)) (g := (mkF m 8 #[.val (.int p0)] [(.int (0 : Int32)), (.long (0 : Int64)), (.int p0), (.int (1 : Int32)), (.ref b138), (.ref b138)])) rfl (by rw [hml]; rfl) (Steps.refl _) (a := b138) (argsL := [(.int (1 : Int32)), (.int p0), (.long (0 : Int64)), (.int (0 : Int32))]) (rest := [(.ref b138)]) (lenOf pd_0 rfl) rfl (by show 2 * 0 + _ ≤ _; exact Nat.le_of_eq rfl) (hb hby d4_8) (fun _ _ => ⟨rfl, e138, (by decide : 1 + 0 ≤ _), (by decide : 4 + 0 ≤ _)⟩)
  dsimp only [Pt.U, Pt.locs, Pt.cells, Pt.slots] at X147 l147 y147 z147 st147 hQ147
  subst l147 y147 z147
  obtain ⟨rfl, N147q, K147, f148, f149, f150, f151, f152⟩ := hQ147
  have N147 := Fr.app N0 N147q
  have Z153 : n0 ≤ T147.heap.size := Nat.le_trans Z141 K147.1
  have K154 : Keep h0 T147.heap [] := Keep.trans K142 K147 (allS (Or.inr sz140) all0)
  obtain ⟨fs, hr, hrun, hended, hW, hsame⟩ := X147.leave (v := some (.ref b138)) (fun h => by rw [Bd.returns] at h; cases h)
  refine ⟨_, _, pre0 _ ?_, hrun, hended, _, _, rfl, ?_, ⟨_, rfl⟩, hW, hsame.mono (by decide) (by decide)⟩
  ·
    show Steps p.tables e below (s₁.setTop (mkF m 0 #[.val (.int p0)] [])) _
    refine st138 _ ?_
    show Steps p.tables e below (T138.setTop (mkF m 3 #[.val (.int p0)] [(.ref b138)])) _
    refine XS.dup X138.here hx rfl (hb hby d4_3) rfl rfl ?_
    show Steps p.tables e below (T138.setTop (mkF m 4 #[.val (.int p0)] [(.ref b138), (.ref b138)])) _
    refine XS.iconst X138.here hx rfl (hb hby d4_4) ?_
    show Steps p.tables e below (T138.setTop (mkF m 5 #[.val (.int p0)] [(.int (1 : Int32)), (.ref b138), (.ref b138)])) _
    refine XS.iloadN X138.here hx rfl (hb hby d4_5) rfl ?_
    show Steps p.tables e below (T138.setTop (mkF m 6 #[.val (.int p0)] [(.int p0), (.int (1 : Int32)), (.ref b138), (.ref b138)])) _
    refine XS.lconst X138.here hx rfl (hb hby d4_6) ?_
    show Steps p.tables e below (T138.setTop (mkF m 7 #[.val (.int p0)] [(.long (0 : Int64)), (.int p0), (.int (1 : Int32)), (.ref b138), (.ref b138)])) _
    refine XS.iconst X138.here hx rfl (hb hby d4_7) ?_
    show Steps p.tables e below (T138.setTop (mkF m 8 #[.val (.int p0)] [(.int (0 : Int32)), (.long (0 : Int64)), (.int p0), (.int (1 : Int32)), (.ref b138), (.ref b138)])) _
    refine st147.trans ?_
    show Steps p.tables e below (T147.setTop (mkF m 11 #[.val (.int p0)] [(.ref b138)])) _
    exact retA X147 hx rfl rfl Bd.returns (hb hby d4_11) hr
  ·
    show Q_rm4 Z p0 h0 n0 _ T147.heap _
    exact ⟨b138, rfl, N147, K154, sz140, f148, f149, f150, f151, f152⟩
theorem d1_0 : decode prog_2_method_3_code 0 = .ok (.new 8, 3) := by decide +kernel
theorem d1_3 : decode prog_2_method_3_code 3 = .ok (.dup, 1) := by decide +kernel
theorem d1_4 : decode prog_2_method_3_code 4 = .ok (.iconst 0, 1) := by decide +kernel
theorem d1_5 : decode prog_2_method_3_code 5 = .ok (.iconst 0, 1) := by decide +kernel
theorem d1_6 : decode prog_2_method_3_code 6 = .ok (.lload_n 0, 1) := by decide +kernel
theorem d1_7 : decode prog_2_method_3_code 7 = .ok (.iconst 0, 1) := by decide +kernel
theorem d1_8 : decode prog_2_method_3_code 8 = .ok (.invokespecial 24, 3) := by decide +kernel
theorem d1_11 : decode prog_2_method_3_code 11 = .ok (.areturn, 1) := by decide +kernel
theorem ef_rm1 (m : MethodId) (q0 : Int64) : entryFrame m #[(.long q0)] 2 = mkF m 0 #[.val (.long q0), .second] [] := by first | (simp [entryFrame, mkF, argsToLocals, Value.category]; done) | rfl
def Q_rm1 (Z : State) (q0 : Int64) (h0 : Heap) (n0 : Nat) (v : Option Value) (h : Heap) (L : List Loc) : Prop := ∃ b : Addr, v = some (.ref b) ∧ Fr n0 L ∧ Keep h0 h [] ∧ h0.size ≤ b ∧ Exa Z h b "com/example/lean_limiter/leanlimiter/Decision" ∧ Fld Z h b "com/example/lean_limiter/leanlimiter/Decision" "allowed" "Z" (.int (0 : Int32)) ∧ Fld Z h b "com/example/lean_limiter/leanlimiter/Decision" "remaining" "I" (.int (0 : Int32)) ∧ Fld Z h b "com/example/lean_limiter/leanlimiter/Decision" "retryAfterMillis" "J" (.long q0) ∧ Fld Z h b "com/example/lean_limiter/leanlimiter/Decision" "degraded" "Z" (.int (0 : Int32))
set_option maxRecDepth 65536 in
set_option maxHeartbeats 40000000 in
theorem rm1 (l : Launch) (Z : State) (aw : Array Value) (hw : ∀ d ∈ tables_1, d.before aw Z = true) (ws : List Jvm.Cond) (q0 : Int64) (h0 : Heap) (n0 : Nat) (Z0 : n0 ≤ h0.size) :
    MetFree l (⟨"com/example/lean_limiter/leanlimiter/Decision", "denied", "(J)Lcom/example/lean_limiter/leanlimiter/Decision;"⟩ : MethodName) (head1 (Jvm.Cond.code (⟨"com/example/lean_limiter/leanlimiter/Decision", "denied", "(J)Lcom/example/lean_limiter/leanlimiter/Decision;"⟩ : MethodName) prog_2_method_3_code 2 (some (.object "com/example/lean_limiter/leanlimiter/Decision")) :: ws) ({ frames := 2, cells := 1, slots := 4, locals := 30 } : Room)) (fun a U => a = #[(.long q0)] ∧ Z.Warmed39 U.vm ∧ U.heap = h0) (fun _ _ _ _ _ => True) (fun _ U o U' => ∃ v L, o = .returned v ∧ Q_rm1 Z q0 h0 n0 v U'.heap L ∧ FrameEnd U o U' L ({ frames := 2, cells := 1, slots := 4, locals := 30 } : Room).cells ({ frames := 2, cells := 1, slots := 4, locals := 30 } : Room).slots) := by
  refine MetFree.of_bodySF (plainFor_of_name pn_0) hisR ?_
  intro p e s m args below meth c s₁ Bd hml0 hP hK
  obtain ⟨rfl, hZ, hh⟩ := hP
  have hx := Bd.exec
  have hby := Bd.bytes
  have hml : c.maxLocals = 2 := hml0
  have hown : s.vm.findClass "com/example/lean_limiter/leanlimiter/Decision" = some m.cls := findClass_of_methodNamed Bd.named
  have hnm := (name_of_methodNamed Bd.named Bd.method).1
  have X0 : Stand p l e ({ frames := 2, cells := 1, slots := 4, locals := 30 } : Room) s m #[(.long q0)] below meth c s₁ [] 0 0 := Stand.of_body Bd
  have e0 : s₁.heap = h0 := by rw [← hh, Bd.state]; rfl
  have N0 := Fr.nil n0
  have pre0 : ∀ t, Steps p.tables e below (s₁.setTop (mkF m 0 #[.val (.long q0), .second] [])) t → Steps p.tables e below (s₁.setTop (entryFrame m #[(.long q0)] 2)) t := fun t k => castTop (ef_rm1 m q0) k
  have KC0 : Keep h0 h0 [] := Keep.refl h0 []
  obtain ⟨T155, h155, X155, e155, E155, A155, D155, -, st155⟩ := newO X0 hx hZ hown (hw _ (List.mem_of_getElem? (i := 4) rfl)) (hw _ (List.mem_of_getElem? (i := 5) rfl)) (hw _ (List.mem_of_getElem? (i := 2) rfl)) e0 (g := (mkF m 0 #[.val (.long q0), .second] [])) rfl (hb hby d1_0) (by decide) (by decide)
  obtain ⟨b155, g155⟩ : ∃ z, z = h0.size := ⟨_, rfl⟩
  rw [← g155] at A155 D155 st155
  have gn156 : n0 ≤ b155 := Nat.le_trans Z0 (Nat.le_of_eq g155.symm)
  have sz157 : h0.size ≤ b155 := Nat.le_trans KC0.1 (Nat.le_of_eq g155.symm)
  have Z158 : n0 ≤ h155.size := Nat.le_trans Z0 E155.1
  have K159 : Keep h0 h155 [] := Keep.ext KC0 E155
  have f160 : Fld Z h155 b155 "com/example/lean_limiter/leanlimiter/Decision" "allowed" "Z" (.int (0 : Int32)) := D155 (Or.inr (hw _ (List.mem_of_getElem? (i := 13) rfl))) (ty := .boolean) (by decide)
  have f161 : Fld Z h155 b155 "com/example/lean_limiter/leanlimiter/Decision" "remaining" "I" (.int (0 : Int32)) := D155 (Or.inr (hw _ (List.mem_of_getElem? (i := 15) rfl))) (ty := .int) (by decide)
  have f162 : Fld Z h155 b155 "com/example/lean_limiter/leanlimiter/Decision" "retryAfterMillis" "J" (.long (0 : Int64)) := D155 (Or.inr (hw _ (List.mem_of_getElem? (i := 17) rfl))) (ty := .long) (by decide)
  have f163 : Fld Z h155 b155 "com/example/lean_limiter/leanlimiter/Decision" "degraded" "Z" (.int (0 : Int32)) := D155 (Or.inr (hw _ (List.mem_of_getElem? (i := 19) rfl))) (ty := .boolean) (by decide)
  obtain ⟨_, _, ⟨T164, L164, k164, n164⟩, -, X164, ⟨Lc164, hQ164, l164, y164, z164⟩, st164⟩ := X155.specialBack hx (y := (⟨"com/example/lean_limiter/leanlimiter/Decision", "<init>", "(ZIJZ)V"⟩ : MethodName)) rfl hown (mvT hZ (hw _ (List.mem_of_getElem? (i := 6) rfl))) (mvT hZ (hw _ (List.mem_of_getElem? (i := 7) rfl))) (mvT hZ (hw _ (List.mem_of_getElem? (i := 8) rfl))) (by decide) (backOf (W := 1) (rm2 l Z aw hw [] b155 (0 : Int32) (0 : Int32) q0 (0 : Int32) h155 n0 Z158 A155 f160 f161 f162 f163 gn156) hZ (hw _ (List.mem_of_getElem? (i := 8) rfl)) (hw _ (List.mem_of_getElem? (i := 2) rfl)) (by decide) (by decide)) (g := (mkF m 8 #[.val (.long q0), .second] [(.int (0 : Int32)), (.long q0), (.int (0 : Int32)), (.int (0 : Int32)), (.ref b155), (.ref b155)])) rfl (by rw [hml]; rfl) (Steps.refl _) (a := b155) (argsL := [(.int (0 : Int32)), (.int (0 : Int32)), (.long q0), (.int (0 : Int32))]) (rest := [(.ref b155)]) (lenOf pd_0 rfl) rfl (by show 2 * 0 + _ ≤ _; exact Nat.le_of_eq rfl) (hb hby d1_8) (fun _ _ => ⟨rfl, e155, (by decide : 1 + 0 ≤ _), (by decide : 4 + 0 ≤ _)⟩)
  dsimp only [Pt.U, Pt.locs, Pt.cells, Pt.slots] at X164 l164 y164 z164 st164 hQ164
  subst l164 y164 z164
  obtain ⟨rfl, N164q, K164, f165, f166, f167, f168, f169⟩ := hQ164
  have N164 := Fr.app N0 N164q
  have Z170 : n0 ≤ T164.heap.size := Nat.le_trans Z158 K164.1
  have K171 : Keep h0 T164.heap [] := Keep.trans K159 K164 (allS (Or.inr sz157) all0)
  obtain ⟨fs, hr, hrun, hended, hW, hsame⟩ := X164.leave (v := some (.ref b155)) (fun h => by rw [Bd.returns] at h; cases h)
  refine ⟨_, _, pre0 _ ?_, hrun, hended, _, _, rfl, ?_, ⟨_, rfl⟩, hW, hsame.mono (by decide) (by decide)⟩
  ·
    show Steps p.tables e below (s₁.setTop (mkF m 0 #[.val (.long q0), .second] [])) _
    refine st155 _ ?_
    show Steps p.tables e below (T155.setTop (mkF m 3 #[.val (.long q0), .second] [(.ref b155)])) _
    refine XS.dup X155.here hx rfl (hb hby d1_3) rfl rfl ?_
    show Steps p.tables e below (T155.setTop (mkF m 4 #[.val (.long q0), .second] [(.ref b155), (.ref b155)])) _
    refine XS.iconst X155.here hx rfl (hb hby d1_4) ?_
    show Steps p.tables e below (T155.setTop (mkF m 5 #[.val (.long q0), .second] [(.int (0 : Int32)), (.ref b155), (.ref b155)])) _
    refine XS.iconst X155.here hx rfl (hb hby d1_5) ?_
    show Steps p.tables e below (T155.setTop (mkF m 6 #[.val (.long q0), .second] [(.int (0 : Int32)), (.int (0 : Int32)), (.ref b155), (.ref b155)])) _
    refine XS.lloadN X155.here hx rfl (hb hby d1_6) rfl ?_
    show Steps p.tables e below (T155.setTop (mkF m 7 #[.val (.long q0), .second] [(.long q0), (.int (0 : Int32)), (.int (0 : Int32)), (.ref b155), (.ref b155)])) _
    refine XS.iconst X155.here hx rfl (hb hby d1_7) ?_
    show Steps p.tables e below (T155.setTop (mkF m 8 #[.val (.long q0), .second] [(.int (0 : Int32)), (.long q0), (.int (0 : Int32)), (.int (0 : Int32)), (.ref b155), (.ref b155)])) _
    refine st164.trans ?_
    show Steps p.tables e below (T164.setTop (mkF m 11 #[.val (.long q0), .second] [(.ref b155)])) _
    exact retA X164 hx rfl rfl Bd.returns (hb hby d1_11) hr
  ·
    show Q_rm1 Z q0 h0 n0 _ T164.heap _
    exact ⟨b155, rfl, N164, K171, sz157, f165, f166, f167, f168, f169⟩
theorem d5_0 : decode prog_2_method_5_code 0 = .ok (.aload_n 0, 1) := by decide +kernel
theorem d5_1 : decode prog_2_method_5_code 1 = .ok (.getfield 7, 3) := by decide +kernel
theorem d5_4 : decode prog_2_method_5_code 4 = .ok (.ireturn, 1) := by decide +kernel
theorem ef_rm5 (m : MethodId) (a0 : Addr) : entryFrame m #[(.ref a0)] 1 = mkF m 0 #[.val (.ref a0)] [] := by first | (simp [entryFrame, mkF, argsToLocals, Value.category]; done) | rfl
def Q_rm5 (Z : State) (a0 : Addr) (w : Int32) (h0 : Heap) (n0 : Nat) (v : Option Value) (h : Heap) (L : List Loc) : Prop := v = some (.int w) ∧ Fr n0 L ∧ h = h0
set_option maxRecDepth 65536 in
set_option maxHeartbeats 40000000 in
theorem rm5 (l : Launch) (Z : State) (aw : Array Value) (hw : ∀ d ∈ tables_1, d.before aw Z = true) (ws : List Jvm.Cond) (a0 : Addr) (w : Int32) (h0 : Heap) (n0 : Nat) (Z0 : n0 ≤ h0.size) (F_a0_allowed : Fld Z h0 a0 "com/example/lean_limiter/leanlimiter/Decision" "allowed" "Z" (.int w)) (hz : w &&& 1 = w) :
    MetFree l (⟨"com/example/lean_limiter/leanlimiter/Decision", "allowed", "()Z"⟩ : MethodName) (head1 (Jvm.Cond.code (⟨"com/example/lean_limiter/leanlimiter/Decision", "allowed", "()Z"⟩ : MethodName) prog_2_method_5_code 1 (some .boolean) :: ws) ({ frames := 0, cells := 0, slots := 0, locals := 0 } : Room)) (fun a U => a = #[(.ref a0)] ∧ Z.Warmed39 U.vm ∧ U.heap = h0) (fun _ _ _ _ _ => True) (fun _ U o U' => ∃ v L, o = .returned v ∧ Q_rm5 Z a0 w h0 n0 v U'.heap L ∧ FrameEnd U o U' L ({ frames := 0, cells := 0, slots := 0, locals := 0 } : Room).cells ({ frames := 0, cells := 0, slots := 0, locals := 0 } : Room).slots) := by
  refine MetFree.of_bodySF (plainFor_of_name pn_0) hisR ?_
  intro p e s m args below meth c s₁ Bd hml0 hP hK
  obtain ⟨rfl, hZ, hh⟩ := hP
  have hx := Bd.exec
  have hby := Bd.bytes
  have hml : c.maxLocals = 1 := hml0
  have hown : s.vm.findClass "com/example/lean_limiter/leanlimiter/Decision" = some m.cls := findClass_of_methodNamed Bd.named
  have hnm := (name_of_methodNamed Bd.named Bd.method).1
  have X0 : Stand p l e ({ frames := 0, cells := 0, slots := 0, locals := 0 } : Room) s m #[(.ref a0)] below meth c s₁ [] 0 0 := Stand.of_body Bd
  have e0 : s₁.heap = h0 := by rw [← hh, Bd.state]; rfl
  have N0 := Fr.nil n0
  have pre0 : ∀ t, Steps p.tables e below (s₁.setTop (mkF m 0 #[.val (.ref a0)] [])) t → Steps p.tables e below (s₁.setTop (entryFrame m #[(.ref a0)] 1)) t := fun t k => castTop (ef_rm5 m a0) k
  obtain ⟨T172, X172, e172, st172⟩ := getF X0 hx hZ hown (host := "") (Or.inl (hw _ (List.mem_of_getElem? (i := 12) rfl))) Via.refl e0 F_a0_allowed (g := (mkF m 1 #[.val (.ref a0)] [(.ref a0)])) rfl rfl (hb hby d5_1)
  obtain ⟨fs, hr, hrun, hended, hW, hsame⟩ := X172.leave (v := some (.int w)) (fun h => by rw [Bd.returns] at h; cases h)
  refine ⟨_, _, pre0 _ ?_, hrun, hended, _, _, rfl, ?_, ⟨_, rfl⟩, hW, hsame.mono (by decide) (by decide)⟩
  ·
    show Steps p.tables e below (s₁.setTop (mkF m 0 #[.val (.ref a0)] [])) _
    refine XS.aloadN X0.here hx rfl (hb hby d5_0) rfl rfl ?_
    show Steps p.tables e below (s₁.setTop (mkF m 1 #[.val (.ref a0)] [(.ref a0)])) _
    refine st172 _ ?_
    show Steps p.tables e below (T172.setTop (mkF m 4 #[.val (.ref a0)] [(.int w)])) _
    exact retZ X172 hx Bd.returns hz (hb hby d5_4) hr
  ·
    show Q_rm5 Z a0 w h0 n0 _ T172.heap _
    rw [e172]
    exact ⟨rfl, N0, rfl⟩
theorem d6_0 : decode prog_2_method_6_code 0 = .ok (.aload_n 0, 1) := by decide +kernel
theorem d6_1 : decode prog_2_method_6_code 1 = .ok (.getfield 13, 3) := by decide +kernel
theorem d6_4 : decode prog_2_method_6_code 4 = .ok (.ireturn, 1) := by decide +kernel
theorem ef_rm6 (m : MethodId) (a0 : Addr) : entryFrame m #[(.ref a0)] 1 = mkF m 0 #[.val (.ref a0)] [] := by first | (simp [entryFrame, mkF, argsToLocals, Value.category]; done) | rfl
def Q_rm6 (Z : State) (a0 : Addr) (w : Int32) (h0 : Heap) (n0 : Nat) (v : Option Value) (h : Heap) (L : List Loc) : Prop := v = some (.int w) ∧ Fr n0 L ∧ h = h0
set_option maxRecDepth 65536 in
set_option maxHeartbeats 40000000 in
theorem rm6 (l : Launch) (Z : State) (aw : Array Value) (hw : ∀ d ∈ tables_1, d.before aw Z = true) (ws : List Jvm.Cond) (a0 : Addr) (w : Int32) (h0 : Heap) (n0 : Nat) (Z0 : n0 ≤ h0.size) (F_a0_remaining : Fld Z h0 a0 "com/example/lean_limiter/leanlimiter/Decision" "remaining" "I" (.int w)) :
    MetFree l (⟨"com/example/lean_limiter/leanlimiter/Decision", "remaining", "()I"⟩ : MethodName) (head1 (Jvm.Cond.code (⟨"com/example/lean_limiter/leanlimiter/Decision", "remaining", "()I"⟩ : MethodName) prog_2_method_6_code 1 (some .int) :: ws) ({ frames := 0, cells := 0, slots := 0, locals := 0 } : Room)) (fun a U => a = #[(.ref a0)] ∧ Z.Warmed39 U.vm ∧ U.heap = h0) (fun _ _ _ _ _ => True) (fun _ U o U' => ∃ v L, o = .returned v ∧ Q_rm6 Z a0 w h0 n0 v U'.heap L ∧ FrameEnd U o U' L ({ frames := 0, cells := 0, slots := 0, locals := 0 } : Room).cells ({ frames := 0, cells := 0, slots := 0, locals := 0 } : Room).slots) := by
  refine MetFree.of_bodySF (plainFor_of_name pn_0) hisR ?_
  intro p e s m args below meth c s₁ Bd hml0 hP hK
  obtain ⟨rfl, hZ, hh⟩ := hP
  have hx := Bd.exec
  have hby := Bd.bytes
  have hml : c.maxLocals = 1 := hml0
  have hown : s.vm.findClass "com/example/lean_limiter/leanlimiter/Decision" = some m.cls := findClass_of_methodNamed Bd.named
  have hnm := (name_of_methodNamed Bd.named Bd.method).1
  have X0 : Stand p l e ({ frames := 0, cells := 0, slots := 0, locals := 0 } : Room) s m #[(.ref a0)] below meth c s₁ [] 0 0 := Stand.of_body Bd
  have e0 : s₁.heap = h0 := by rw [← hh, Bd.state]; rfl
  have N0 := Fr.nil n0
  have pre0 : ∀ t, Steps p.tables e below (s₁.setTop (mkF m 0 #[.val (.ref a0)] [])) t → Steps p.tables e below (s₁.setTop (entryFrame m #[(.ref a0)] 1)) t := fun t k => castTop (ef_rm6 m a0) k
  obtain ⟨T173, X173, e173, st173⟩ := getF X0 hx hZ hown (host := "") (Or.inl (hw _ (List.mem_of_getElem? (i := 14) rfl))) Via.refl e0 F_a0_remaining (g := (mkF m 1 #[.val (.ref a0)] [(.ref a0)])) rfl rfl (hb hby d6_1)
  obtain ⟨fs, hr, hrun, hended, hW, hsame⟩ := X173.leave (v := some (.int w)) (fun h => by rw [Bd.returns] at h; cases h)
  refine ⟨_, _, pre0 _ ?_, hrun, hended, _, _, rfl, ?_, ⟨_, rfl⟩, hW, hsame.mono (by decide) (by decide)⟩
  ·
    show Steps p.tables e below (s₁.setTop (mkF m 0 #[.val (.ref a0)] [])) _
    refine XS.aloadN X0.here hx rfl (hb hby d6_0) rfl rfl ?_
    show Steps p.tables e below (s₁.setTop (mkF m 1 #[.val (.ref a0)] [(.ref a0)])) _
    refine st173 _ ?_
    show Steps p.tables e below (T173.setTop (mkF m 4 #[.val (.ref a0)] [(.int w)])) _
    exact retI X173 hx Bd.returns (hb hby d6_4) hr
  ·
    show Q_rm6 Z a0 w h0 n0 _ T173.heap _
    rw [e173]
    exact ⟨rfl, N0, rfl⟩
theorem d7_0 : decode prog_2_method_7_code 0 = .ok (.aload_n 0, 1) := by decide +kernel
theorem d7_1 : decode prog_2_method_7_code 1 = .ok (.getfield 17, 3) := by decide +kernel
theorem d7_4 : decode prog_2_method_7_code 4 = .ok (.lreturn, 1) := by decide +kernel
theorem ef_rm7 (m : MethodId) (a0 : Addr) : entryFrame m #[(.ref a0)] 1 = mkF m 0 #[.val (.ref a0)] [] := by first | (simp [entryFrame, mkF, argsToLocals, Value.category]; done) | rfl
def Q_rm7 (Z : State) (a0 : Addr) (w : Int64) (h0 : Heap) (n0 : Nat) (v : Option Value) (h : Heap) (L : List Loc) : Prop := v = some (.long w) ∧ Fr n0 L ∧ h = h0
set_option maxRecDepth 65536 in
set_option maxHeartbeats 40000000 in
theorem rm7 (l : Launch) (Z : State) (aw : Array Value) (hw : ∀ d ∈ tables_1, d.before aw Z = true) (ws : List Jvm.Cond) (a0 : Addr) (w : Int64) (h0 : Heap) (n0 : Nat) (Z0 : n0 ≤ h0.size) (F_a0_retryAfterMillis : Fld Z h0 a0 "com/example/lean_limiter/leanlimiter/Decision" "retryAfterMillis" "J" (.long w)) :
    MetFree l (⟨"com/example/lean_limiter/leanlimiter/Decision", "retryAfterMillis", "()J"⟩ : MethodName) (head1 (Jvm.Cond.code (⟨"com/example/lean_limiter/leanlimiter/Decision", "retryAfterMillis", "()J"⟩ : MethodName) prog_2_method_7_code 1 (some .long) :: ws) ({ frames := 0, cells := 0, slots := 0, locals := 0 } : Room)) (fun a U => a = #[(.ref a0)] ∧ Z.Warmed39 U.vm ∧ U.heap = h0) (fun _ _ _ _ _ => True) (fun _ U o U' => ∃ v L, o = .returned v ∧ Q_rm7 Z a0 w h0 n0 v U'.heap L ∧ FrameEnd U o U' L ({ frames := 0, cells := 0, slots := 0, locals := 0 } : Room).cells ({ frames := 0, cells := 0, slots := 0, locals := 0 } : Room).slots) := by
  refine MetFree.of_bodySF (plainFor_of_name pn_0) hisR ?_
  intro p e s m args below meth c s₁ Bd hml0 hP hK
  obtain ⟨rfl, hZ, hh⟩ := hP
  have hx := Bd.exec
  have hby := Bd.bytes
  have hml : c.maxLocals = 1 := hml0
  have hown : s.vm.findClass "com/example/lean_limiter/leanlimiter/Decision" = some m.cls := findClass_of_methodNamed Bd.named
  have hnm := (name_of_methodNamed Bd.named Bd.method).1
  have X0 : Stand p l e ({ frames := 0, cells := 0, slots := 0, locals := 0 } : Room) s m #[(.ref a0)] below meth c s₁ [] 0 0 := Stand.of_body Bd
  have e0 : s₁.heap = h0 := by rw [← hh, Bd.state]; rfl
  have N0 := Fr.nil n0
  have pre0 : ∀ t, Steps p.tables e below (s₁.setTop (mkF m 0 #[.val (.ref a0)] [])) t → Steps p.tables e below (s₁.setTop (entryFrame m #[(.ref a0)] 1)) t := fun t k => castTop (ef_rm7 m a0) k
  obtain ⟨T174, X174, e174, st174⟩ := getF X0 hx hZ hown (host := "") (Or.inl (hw _ (List.mem_of_getElem? (i := 16) rfl))) Via.refl e0 F_a0_retryAfterMillis (g := (mkF m 1 #[.val (.ref a0)] [(.ref a0)])) rfl rfl (hb hby d7_1)
  obtain ⟨fs, hr, hrun, hended, hW, hsame⟩ := X174.leave (v := some (.long w)) (fun h => by rw [Bd.returns] at h; cases h)
  refine ⟨_, _, pre0 _ ?_, hrun, hended, _, _, rfl, ?_, ⟨_, rfl⟩, hW, hsame.mono (by decide) (by decide)⟩
  ·
    show Steps p.tables e below (s₁.setTop (mkF m 0 #[.val (.ref a0)] [])) _
    refine XS.aloadN X0.here hx rfl (hb hby d7_0) rfl rfl ?_
    show Steps p.tables e below (s₁.setTop (mkF m 1 #[.val (.ref a0)] [(.ref a0)])) _
    refine st174 _ ?_
    show Steps p.tables e below (T174.setTop (mkF m 4 #[.val (.ref a0)] [(.long w)])) _
    exact retJ X174 hx Bd.returns (hb hby d7_4) hr
  ·
    show Q_rm7 Z a0 w h0 n0 _ T174.heap _
    rw [e174]
    exact ⟨rfl, N0, rfl⟩
theorem d8_0 : decode prog_2_method_8_code 0 = .ok (.aload_n 0, 1) := by decide +kernel
theorem d8_1 : decode prog_2_method_8_code 1 = .ok (.getfield 21, 3) := by decide +kernel
theorem d8_4 : decode prog_2_method_8_code 4 = .ok (.ireturn, 1) := by decide +kernel
theorem ef_rm8 (m : MethodId) (a0 : Addr) : entryFrame m #[(.ref a0)] 1 = mkF m 0 #[.val (.ref a0)] [] := by first | (simp [entryFrame, mkF, argsToLocals, Value.category]; done) | rfl
def Q_rm8 (Z : State) (a0 : Addr) (w : Int32) (h0 : Heap) (n0 : Nat) (v : Option Value) (h : Heap) (L : List Loc) : Prop := v = some (.int w) ∧ Fr n0 L ∧ h = h0
set_option maxRecDepth 65536 in
set_option maxHeartbeats 40000000 in
theorem rm8 (l : Launch) (Z : State) (aw : Array Value) (hw : ∀ d ∈ tables_1, d.before aw Z = true) (ws : List Jvm.Cond) (a0 : Addr) (w : Int32) (h0 : Heap) (n0 : Nat) (Z0 : n0 ≤ h0.size) (F_a0_degraded : Fld Z h0 a0 "com/example/lean_limiter/leanlimiter/Decision" "degraded" "Z" (.int w)) (hz : w &&& 1 = w) :
    MetFree l (⟨"com/example/lean_limiter/leanlimiter/Decision", "degraded", "()Z"⟩ : MethodName) (head1 (Jvm.Cond.code (⟨"com/example/lean_limiter/leanlimiter/Decision", "degraded", "()Z"⟩ : MethodName) prog_2_method_8_code 1 (some .boolean) :: ws) ({ frames := 0, cells := 0, slots := 0, locals := 0 } : Room)) (fun a U => a = #[(.ref a0)] ∧ Z.Warmed39 U.vm ∧ U.heap = h0) (fun _ _ _ _ _ => True) (fun _ U o U' => ∃ v L, o = .returned v ∧ Q_rm8 Z a0 w h0 n0 v U'.heap L ∧ FrameEnd U o U' L ({ frames := 0, cells := 0, slots := 0, locals := 0 } : Room).cells ({ frames := 0, cells := 0, slots := 0, locals := 0 } : Room).slots) := by
  refine MetFree.of_bodySF (plainFor_of_name pn_0) hisR ?_
  intro p e s m args below meth c s₁ Bd hml0 hP hK
  obtain ⟨rfl, hZ, hh⟩ := hP
  have hx := Bd.exec
  have hby := Bd.bytes
  have hml : c.maxLocals = 1 := hml0
  have hown : s.vm.findClass "com/example/lean_limiter/leanlimiter/Decision" = some m.cls := findClass_of_methodNamed Bd.named
  have hnm := (name_of_methodNamed Bd.named Bd.method).1
  have X0 : Stand p l e ({ frames := 0, cells := 0, slots := 0, locals := 0 } : Room) s m #[(.ref a0)] below meth c s₁ [] 0 0 := Stand.of_body Bd
  have e0 : s₁.heap = h0 := by rw [← hh, Bd.state]; rfl
  have N0 := Fr.nil n0
  have pre0 : ∀ t, Steps p.tables e below (s₁.setTop (mkF m 0 #[.val (.ref a0)] [])) t → Steps p.tables e below (s₁.setTop (entryFrame m #[(.ref a0)] 1)) t := fun t k => castTop (ef_rm8 m a0) k
  obtain ⟨T175, X175, e175, st175⟩ := getF X0 hx hZ hown (host := "") (Or.inl (hw _ (List.mem_of_getElem? (i := 18) rfl))) Via.refl e0 F_a0_degraded (g := (mkF m 1 #[.val (.ref a0)] [(.ref a0)])) rfl rfl (hb hby d8_1)
  obtain ⟨fs, hr, hrun, hended, hW, hsame⟩ := X175.leave (v := some (.int w)) (fun h => by rw [Bd.returns] at h; cases h)
  refine ⟨_, _, pre0 _ ?_, hrun, hended, _, _, rfl, ?_, ⟨_, rfl⟩, hW, hsame.mono (by decide) (by decide)⟩
  ·
    show Steps p.tables e below (s₁.setTop (mkF m 0 #[.val (.ref a0)] [])) _
    refine XS.aloadN X0.here hx rfl (hb hby d8_0) rfl rfl ?_
    show Steps p.tables e below (s₁.setTop (mkF m 1 #[.val (.ref a0)] [(.ref a0)])) _
    refine st175 _ ?_
    show Steps p.tables e below (T175.setTop (mkF m 4 #[.val (.ref a0)] [(.int w)])) _
    exact retZ X175 hx Bd.returns hz (hb hby d8_4) hr
  ·
    show Q_rm8 Z a0 w h0 n0 _ T175.heap _
    rw [e175]
    exact ⟨rfl, N0, rfl⟩
theorem d9_0 : decode prog_2_method_9_code 0 = .ok (.aload_n 0, 1) := by decide +kernel
theorem d9_1 : decode prog_2_method_9_code 1 = .ok (.aload_n 1, 1) := by decide +kernel
theorem d9_2 : decode prog_2_method_9_code 2 = .ok (.if_acmp .ne 5, 3) := by decide +kernel
theorem d9_7 : decode prog_2_method_9_code 7 = .ok (.aload_n 1, 1) := by decide +kernel
theorem d9_8 : decode prog_2_method_9_code 8 = .ok (.instanceof 8, 3) := by decide +kernel
theorem d9_11 : decode prog_2_method_9_code 11 = .ok (.ifCond .eq 11, 3) := by decide +kernel
theorem d9_14 : decode prog_2_method_9_code 14 = .ok (.aload_n 1, 1) := by decide +kernel
theorem d9_15 : decode prog_2_method_9_code 15 = .ok (.checkcast 8, 3) := by decide +kernel
theorem d9_18 : decode prog_2_method_9_code 18 = .ok (.astore_n 2, 1) := by decide +kernel
theorem d9_19 : decode prog_2_method_9_code 19 = .ok (.goto 5, 3) := by decide +kernel
theorem d9_24 : decode prog_2_method_9_code 24 = .ok (.aload_n 0, 1) := by decide +kernel
theorem d9_25 : decode prog_2_method_9_code 25 = .ok (.getfield 7, 3) := by decide +kernel
theorem d9_28 : decode prog_2_method_9_code 28 = .ok (.aload_n 2, 1) := by decide +kernel
theorem d9_29 : decode prog_2_method_9_code 29 = .ok (.getfield 7, 3) := by decide +kernel
theorem d9_32 : decode prog_2_method_9_code 32 = .ok (.if_icmp .ne 41, 3) := by decide +kernel
theorem d9_35 : decode prog_2_method_9_code 35 = .ok (.aload_n 0, 1) := by decide +kernel
theorem d9_36 : decode prog_2_method_9_code 36 = .ok (.getfield 13, 3) := by decide +kernel
theorem d9_39 : decode prog_2_method_9_code 39 = .ok (.aload_n 2, 1) := by decide +kernel
theorem d9_40 : decode prog_2_method_9_code 40 = .ok (.getfield 13, 3) := by decide +kernel
theorem d9_43 : decode prog_2_method_9_code 43 = .ok (.if_icmp .ne 30, 3) := by decide +kernel
theorem d9_46 : decode prog_2_method_9_code 46 = .ok (.aload_n 0, 1) := by decide +kernel
theorem d9_47 : decode prog_2_method_9_code 47 = .ok (.getfield 17, 3) := by decide +kernel
theorem d9_50 : decode prog_2_method_9_code 50 = .ok (.aload_n 2, 1) := by decide +kernel
theorem d9_51 : decode prog_2_method_9_code 51 = .ok (.getfield 17, 3) := by decide +kernel
theorem d9_54 : decode prog_2_method_9_code 54 = .ok (.lcmp, 1) := by decide +kernel
theorem d9_55 : decode prog_2_method_9_code 55 = .ok (.ifCond .ne 18, 3) := by decide +kernel
theorem d9_58 : decode prog_2_method_9_code 58 = .ok (.aload_n 0, 1) := by decide +kernel
theorem d9_59 : decode prog_2_method_9_code 59 = .ok (.getfield 21, 3) := by decide +kernel
theorem d9_62 : decode prog_2_method_9_code 62 = .ok (.aload_n 2, 1) := by decide +kernel
theorem d9_63 : decode prog_2_method_9_code 63 = .ok (.getfield 21, 3) := by decide +kernel
theorem d9_66 : decode prog_2_method_9_code 66 = .ok (.if_icmp .ne 7, 3) := by decide +kernel
theorem d9_69 : decode prog_2_method_9_code 69 = .ok (.iconst 1, 1) := by decide +kernel
theorem d9_70 : decode prog_2_method_9_code 70 = .ok (.goto 4, 3) := by decide +kernel
theorem d9_74 : decode prog_2_method_9_code 74 = .ok (.ireturn, 1) := by decide +kernel
theorem d9_73 : decode prog_2_method_9_code 73 = .ok (.iconst 0, 1) := by decide +kernel
theorem ef_rm9 (m : MethodId) (a0 : Addr) (a1 : Addr) : entryFrame m #[(.ref a0), (.ref a1)] 3 = mkF m 0 #[.val (.ref a0), .val (.ref a1), .unset] [] := by first | (simp [entryFrame, mkF, argsToLocals, Value.category]; done) | rfl
def Q_rm9 (Z : State) (a0 : Addr) (a1 : Addr) (w1 : Int32) (w2 : Int32) (w3 : Int64) (w4 : Int32) (v1 : Int32) (v2 : Int32) (v3 : Int64) (v4 : Int32) (h0 : Heap) (n0 : Nat) (v : Option Value) (h : Heap) (L : List Loc) : Prop := v = some (.int (if w1 = v1 then (if w2 = v2 then (if w3 = v3 then (if w4 = v4 then (1 : Int32) else (0 : Int32)) else (0 : Int32)) else (0 : Int32)) else (0 : Int32))) ∧ Fr n0 L ∧ h = h0
set_option maxRecDepth 65536 in
set_option maxHeartbeats 40000000 in
theorem rm9 (l : Launch) (Z : State) (aw : Array Value) (hw : ∀ d ∈ tables_1, d.before aw Z = true) (ws : List Jvm.Cond) (a0 : Addr) (a1 : Addr) (w1 : Int32) (w2 : Int32) (w3 : Int64) (w4 : Int32) (v1 : Int32) (v2 : Int32) (v3 : Int64) (v4 : Int32) (h0 : Heap) (n0 : Nat) (Z0 : n0 ≤ h0.size) (E_a1 : Exa Z h0 a1 "com/example/lean_limiter/leanlimiter/Decision") (ne_a0_a1 : a0 ≠ a1) (F_a0_allowed : Fld Z h0 a0 "com/example/lean_limiter/leanlimiter/Decision" "allowed" "Z" (.int w1)) (F_a0_remaining : Fld Z h0 a0 "com/example/lean_limiter/leanlimiter/Decision" "remaining" "I" (.int w2)) (F_a0_retryAfterMillis : Fld Z h0 a0 "com/example/lean_limiter/leanlimiter/Decision" "retryAfterMillis" "J" (.long w3)) (F_a0_degraded : Fld Z h0 a0 "com/example/lean_limiter/leanlimiter/Decision" "degraded" "Z" (.int w4)) (F_a1_allowed : Fld Z h0 a1 "com/example/lean_limiter/leanlimiter/Decision" "allowed" "Z" (.int v1)) (F_a1_remaining : Fld Z h0 a1 "com/example/lean_limiter/leanlimiter/Decision" "remaining" "I" (.int v2)) (F_a1_retryAfterMillis : Fld Z h0 a1 "com/example/lean_limiter/leanlimiter/Decision" "retryAfterMillis" "J" (.long v3)) (F_a1_degraded : Fld Z h0 a1 "com/example/lean_limiter/leanlimiter/Decision" "degraded" "Z" (.int v4)) :
    MetFree l (⟨"com/example/lean_limiter/leanlimiter/Decision", "equals", "(Ljava/lang/Object;)Z"⟩ : MethodName) (head1 (Jvm.Cond.code (⟨"com/example/lean_limiter/leanlimiter/Decision", "equals", "(Ljava/lang/Object;)Z"⟩ : MethodName) prog_2_method_9_code 3 (some .boolean) :: ws) ({ frames := 0, cells := 0, slots := 0, locals := 0 } : Room)) (fun a U => a = #[(.ref a0), (.ref a1)] ∧ Z.Warmed39 U.vm ∧ U.heap = h0) (fun _ _ _ _ _ => True) (fun _ U o U' => ∃ v L, o = .returned v ∧ Q_rm9 Z a0 a1 w1 w2 w3 w4 v1 v2 v3 v4 h0 n0 v U'.heap L ∧ FrameEnd U o U' L ({ frames := 0, cells := 0, slots := 0, locals := 0 } : Room).cells ({ frames := 0, cells := 0, slots := 0, locals := 0 } : Room).slots) := by
  refine MetFree.of_bodySF (plainFor_of_name pn_0) hisR ?_
  intro p e s m args below meth c s₁ Bd hml0 hP hK
  obtain ⟨rfl, hZ, hh⟩ := hP
  have hx := Bd.exec
  have hby := Bd.bytes
  have hml : c.maxLocals = 3 := hml0
  have hown : s.vm.findClass "com/example/lean_limiter/leanlimiter/Decision" = some m.cls := findClass_of_methodNamed Bd.named
  have hnm := (name_of_methodNamed Bd.named Bd.method).1
  have X0 : Stand p l e ({ frames := 0, cells := 0, slots := 0, locals := 0 } : Room) s m #[(.ref a0), (.ref a1)] below meth c s₁ [] 0 0 := Stand.of_body Bd
  have e0 : s₁.heap = h0 := by rw [← hh, Bd.state]; rfl
  have N0 := Fr.nil n0
  have pre0 : ∀ t, Steps p.tables e below (s₁.setTop (mkF m 0 #[.val (.ref a0), .val (.ref a1), .unset] [])) t → Steps p.tables e below (s₁.setTop (entryFrame m #[(.ref a0), (.ref a1)] 3)) t := fun t k => castTop (ef_rm9 m a0 a1) k
  obtain ⟨T176, X176, e176, st176⟩ := instY X0 hx hZ hown (hw _ (List.mem_of_getElem? (i := 4) rfl)) e0 (Ins.self E_a1) (g := (mkF m 8 #[.val (.ref a0), .val (.ref a1), .unset] [(.ref a1)])) rfl rfl (hb hby d9_8)
  obtain ⟨T177, X177, e177, st177⟩ := castY X176 hx hZ hown (hw _ (List.mem_of_getElem? (i := 4) rfl)) e176 (Ins.self E_a1) (g := (mkF m 15 #[.val (.ref a0), .val (.ref a1), .unset] [(.ref a1)])) rfl rfl (hb hby d9_15)
  obtain ⟨T178, X178, e178, st178⟩ := getF X177 hx hZ hown (host := "") (Or.inl (hw _ (List.mem_of_getElem? (i := 12) rfl))) Via.refl e177 F_a0_allowed (g := (mkF m 25 #[.val (.ref a0), .val (.ref a1), .val (.ref a1)] [(.ref a0)])) rfl rfl (hb hby d9_25)
  obtain ⟨T179, X179, e179, st179⟩ := getF X178 hx hZ hown (host := "") (Or.inl (hw _ (List.mem_of_getElem? (i := 12) rfl))) Via.refl e178 F_a1_allowed (g := (mkF m 29 #[.val (.ref a0), .val (.ref a1), .val (.ref a1)] [(.ref a1), (.int w1)])) rfl rfl (hb hby d9_29)
  have pre180 : ∀ t, Steps p.tables e below (T179.setTop (mkF m 32 #[.val (.ref a0), .val (.ref a1), .val (.ref a1)] [(.int v1), (.int w1)])) t → Steps p.tables e below (s₁.setTop (entryFrame m #[(.ref a0), (.ref a1)] 3)) t := fun t k => by
    refine pre0 t ?_
    show Steps p.tables e below (s₁.setTop (mkF m 0 #[.val (.ref a0), .val (.ref a1), .unset] [])) _
    refine XS.aloadN X0.here hx rfl (hb hby d9_0) rfl rfl ?_
    show Steps p.tables e below (s₁.setTop (mkF m 1 #[.val (.ref a0), .val (.ref a1), .unset] [(.ref a0)])) _
    refine XS.aloadN X0.here hx rfl (hb hby d9_1) rfl rfl ?_
    show Steps p.tables e below (s₁.setTop (mkF m 2 #[.val (.ref a0), .val (.ref a1), .unset] [(.ref a1), (.ref a0)])) _
    refine Jvm.RoadKit.acmp (g := (mkF m 2 #[.val (.ref a0), .val (.ref a1), .unset] [(.ref a1), (.ref a0)])) X0 hx rfl rfl rfl (pc0 := 2) (pc' := 7) (same := false) rfl (hb hby d9_2) rfl (decide_eq_false fun q => ne_a0_a1 (Value.ref.inj q)) (by decide) (by decide) ?_
    show Steps p.tables e below (s₁.setTop (mkF m 7 #[.val (.ref a0), .val (.ref a1), .unset] [])) _
    refine XS.aloadN X0.here hx rfl (hb hby d9_7) rfl rfl ?_
    show Steps p.tables e below (s₁.setTop (mkF m 8 #[.val (.ref a0), .val (.ref a1), .unset] [(.ref a1)])) _
    refine st176 _ ?_
    show Steps p.tables e below (T176.setTop (mkF m 11 #[.val (.ref a0), .val (.ref a1), .unset] [(.int (1 : Int32))])) _
    refine XS.ifNo X176.here hx rfl (hb hby d9_11) rfl ((if0 _ _).trans (feq (by decide)).1) ?_
    show Steps p.tables e below (T176.setTop (mkF m 14 #[.val (.ref a0), .val (.ref a1), .unset] [])) _
    refine XS.aloadN X176.here hx rfl (hb hby d9_14) rfl rfl ?_
    show Steps p.tables e below (T176.setTop (mkF m 15 #[.val (.ref a0), .val (.ref a1), .unset] [(.ref a1)])) _
    refine st177 _ ?_
    show Steps p.tables e below (T177.setTop (mkF m 18 #[.val (.ref a0), .val (.ref a1), .unset] [(.ref a1)])) _
    refine XS.astoreN X177.here hx rfl (hb hby d9_18) rfl rfl (l' := #[.val (.ref a0), .val (.ref a1), .val (.ref a1)]) rfl ?_
    show Steps p.tables e below (T177.setTop (mkF m 19 #[.val (.ref a0), .val (.ref a1), .val (.ref a1)] [])) _
    refine XS.goto X177.here hx rfl (pc0 := 19) (pc' := 24) rfl (hb hby d9_19) (by decide) (by decide) ?_
    show Steps p.tables e below (T177.setTop (mkF m 24 #[.val (.ref a0), .val (.ref a1), .val (.ref a1)] [])) _
    refine XS.aloadN X177.here hx rfl (hb hby d9_24) rfl rfl ?_
    show Steps p.tables e below (T177.setTop (mkF m 25 #[.val (.ref a0), .val (.ref a1), .val (.ref a1)] [(.ref a0)])) _
    refine st178 _ ?_
    show Steps p.tables e below (T178.setTop (mkF m 28 #[.val (.ref a0), .val (.ref a1), .val (.ref a1)] [(.int w1)])) _
    refine XS.aloadN X178.here hx rfl (hb hby d9_28) rfl rfl ?_
    show Steps p.tables e below (T178.setTop (mkF m 29 #[.val (.ref a0), .val (.ref a1), .val (.ref a1)] [(.ref a1), (.int w1)])) _
    refine st179 _ ?_
    exact k
  by_cases c181 : w1 = v1
  ·
    obtain ⟨T182, X182, e182, st182⟩ := getF X179 hx hZ hown (host := "") (Or.inl (hw _ (List.mem_of_getElem? (i := 14) rfl))) Via.refl e179 F_a0_remaining (g := (mkF m 36 #[.val (.ref a0), .val (.ref a1), .val (.ref a1)] [(.ref a0)])) rfl rfl (hb hby d9_36)
    obtain ⟨T183, X183, e183, st183⟩ := getF X182 hx hZ hown (host := "") (Or.inl (hw _ (List.mem_of_getElem? (i := 14) rfl))) Via.refl e182 F_a1_remaining (g := (mkF m 40 #[.val (.ref a0), .val (.ref a1), .val (.ref a1)] [(.ref a1), (.int w2)])) rfl rfl (hb hby d9_40)
    have pre184 : ∀ t, Steps p.tables e below (T183.setTop (mkF m 43 #[.val (.ref a0), .val (.ref a1), .val (.ref a1)] [(.int v2), (.int w2)])) t → Steps p.tables e below (s₁.setTop (entryFrame m #[(.ref a0), (.ref a1)] 3)) t := fun t k => by
      refine pre180 t ?_
      show Steps p.tables e below (T179.setTop (mkF m 32 #[.val (.ref a0), .val (.ref a1), .val (.ref a1)] [(.int v1), (.int w1)])) _
      refine XS.icmpNo X179.here hx rfl (hb hby d9_32) rfl (teq c181).2 ?_
      show Steps p.tables e below (T179.setTop (mkF m 35 #[.val (.ref a0), .val (.ref a1), .val (.ref a1)] [])) _
      refine XS.aloadN X179.here hx rfl (hb hby d9_35) rfl rfl ?_
      show Steps p.tables e below (T179.setTop (mkF m 36 #[.val (.ref a0), .val (.ref a1), .val (.ref a1)] [(.ref a0)])) _
      refine st182 _ ?_
      show Steps p.tables e below (T182.setTop (mkF m 39 #[.val (.ref a0), .val (.ref a1), .val (.ref a1)] [(.int w2)])) _
      refine XS.aloadN X182.here hx rfl (hb hby d9_39) rfl rfl ?_
      show Steps p.tables e below (T182.setTop (mkF m 40 #[.val (.ref a0), .val (.ref a1), .val (.ref a1)] [(.ref a1), (.int w2)])) _
      refine st183 _ ?_
      exact k
    by_cases c185 : w2 = v2
    ·
      obtain ⟨T186, X186, e186, st186⟩ := getF X183 hx hZ hown (host := "") (Or.inl (hw _ (List.mem_of_getElem? (i := 16) rfl))) Via.refl e183 F_a0_retryAfterMillis (g := (mkF m 47 #[.val (.ref a0), .val (.ref a1), .val (.ref a1)] [(.ref a0)])) rfl rfl (hb hby d9_47)
      obtain ⟨T187, X187, e187, st187⟩ := getF X186 hx hZ hown (host := "") (Or.inl (hw _ (List.mem_of_getElem? (i := 16) rfl))) Via.refl e186 F_a1_retryAfterMillis (g := (mkF m 51 #[.val (.ref a0), .val (.ref a1), .val (.ref a1)] [(.ref a1), (.long w3)])) rfl rfl (hb hby d9_51)
      have pre188 : ∀ t, Steps p.tables e below (T187.setTop (mkF m 55 #[.val (.ref a0), .val (.ref a1), .val (.ref a1)] [(.int (lcmpW w3 v3))])) t → Steps p.tables e below (s₁.setTop (entryFrame m #[(.ref a0), (.ref a1)] 3)) t := fun t k => by
        refine pre184 t ?_
        show Steps p.tables e below (T183.setTop (mkF m 43 #[.val (.ref a0), .val (.ref a1), .val (.ref a1)] [(.int v2), (.int w2)])) _
        refine XS.icmpNo X183.here hx rfl (hb hby d9_43) rfl (teq c185).2 ?_
        show Steps p.tables e below (T183.setTop (mkF m 46 #[.val (.ref a0), .val (.ref a1), .val (.ref a1)] [])) _
        refine XS.aloadN X183.here hx rfl (hb hby d9_46) rfl rfl ?_
        show Steps p.tables e below (T183.setTop (mkF m 47 #[.val (.ref a0), .val (.ref a1), .val (.ref a1)] [(.ref a0)])) _
        refine st186 _ ?_
        show Steps p.tables e below (T186.setTop (mkF m 50 #[.val (.ref a0), .val (.ref a1), .val (.ref a1)] [(.long w3)])) _
        refine XS.aloadN X186.here hx rfl (hb hby d9_50) rfl rfl ?_
        show Steps p.tables e below (T186.setTop (mkF m 51 #[.val (.ref a0), .val (.ref a1), .val (.ref a1)] [(.ref a1), (.long w3)])) _
        refine st187 _ ?_
        show Steps p.tables e below (T187.setTop (mkF m 54 #[.val (.ref a0), .val (.ref a1), .val (.ref a1)] [(.long v3), (.long w3)])) _
        refine XS.lcmp X187.here hx rfl (hb hby d9_54) rfl ?_
        exact k
      by_cases c189 : w3 = v3
      ·
        obtain ⟨T190, X190, e190, st190⟩ := getF X187 hx hZ hown (host := "") (Or.inl (hw _ (List.mem_of_getElem? (i := 18) rfl))) Via.refl e187 F_a0_degraded (g := (mkF m 59 #[.val (.ref a0), .val (.ref a1), .val (.ref a1)] [(.ref a0)])) rfl rfl (hb hby d9_59)
        obtain ⟨T191, X191, e191, st191⟩ := getF X190 hx hZ hown (host := "") (Or.inl (hw _ (List.mem_of_getElem? (i := 18) rfl))) Via.refl e190 F_a1_degraded (g := (mkF m 63 #[.val (.ref a0), .val (.ref a1), .val (.ref a1)] [(.ref a1), (.int w4)])) rfl rfl (hb hby d9_63)
        have pre192 : ∀ t, Steps p.tables e below (T191.setTop (mkF m 66 #[.val (.ref a0), .val (.ref a1), .val (.ref a1)] [(.int v4), (.int w4)])) t → Steps p.tables e below (s₁.setTop (entryFrame m #[(.ref a0), (.ref a1)] 3)) t := fun t k => by
          refine pre188 t ?_
          show Steps p.tables e below (T187.setTop (mkF m 55 #[.val (.ref a0), .val (.ref a1), .val (.ref a1)] [(.int (lcmpW w3 v3))])) _
          refine XS.ifNo X187.here hx rfl (hb hby d9_55) rfl ((if0 _ _).trans (teq ((lw_eq _ _).mpr c189)).2) ?_
          show Steps p.tables e below (T187.setTop (mkF m 58 #[.val (.ref a0), .val (.ref a1), .val (.ref a1)] [])) _
          refine XS.aloadN X187.here hx rfl (hb hby d9_58) rfl rfl ?_
          show Steps p.tables e below (T187.setTop (mkF m 59 #[.val (.ref a0), .val (.ref a1), .val (.ref a1)] [(.ref a0)])) _
          refine st190 _ ?_
          show Steps p.tables e below (T190.setTop (mkF m 62 #[.val (.ref a0), .val (.ref a1), .val (.ref a1)] [(.int w4)])) _
          refine XS.aloadN X190.here hx rfl (hb hby d9_62) rfl rfl ?_
          show Steps p.tables e below (T190.setTop (mkF m 63 #[.val (.ref a0), .val (.ref a1), .val (.ref a1)] [(.ref a1), (.int w4)])) _
          refine st191 _ ?_
          exact k
        by_cases c193 : w4 = v4
        ·
          obtain ⟨fs, hr, hrun, hended, hW, hsame⟩ := X191.leave (v := some (.int (1 : Int32))) (fun h => by rw [Bd.returns] at h; cases h)
          refine ⟨_, _, pre192 _ ?_, hrun, hended, _, _, rfl, ?_, ⟨_, rfl⟩, hW, hsame.mono (by decide) (by decide)⟩
          ·
            show Steps p.tables e below (T191.setTop (mkF m 66 #[.val (.ref a0), .val (.ref a1), .val (.ref a1)] [(.int v4), (.int w4)])) _
            refine XS.icmpNo X191.here hx rfl (hb hby d9_66) rfl (teq c193).2 ?_
            show Steps p.tables e below (T191.setTop (mkF m 69 #[.val (.ref a0), .val (.ref a1), .val (.ref a1)] [])) _
            refine XS.iconst X191.here hx rfl (hb hby d9_69) ?_
            show Steps p.tables e below (T191.setTop (mkF m 70 #[.val (.ref a0), .val (.ref a1), .val (.ref a1)] [(.int (1 : Int32))])) _
            refine XS.goto X191.here hx rfl (pc0 := 70) (pc' := 74) rfl (hb hby d9_70) (by decide) (by decide) ?_
            show Steps p.tables e below (T191.setTop (mkF m 74 #[.val (.ref a0), .val (.ref a1), .val (.ref a1)] [(.int (1 : Int32))])) _
            exact retZ X191 hx Bd.returns (by decide) (hb hby d9_74) hr
          ·
            show Q_rm9 Z a0 a1 w1 w2 w3 w4 v1 v2 v3 v4 h0 n0 _ T191.heap _
            rw [e191]
            exact ⟨(by simp only [if_pos c181, if_pos c185, if_pos c189, if_pos c193]), N0, rfl⟩
        ·
          obtain ⟨fs, hr, hrun, hended, hW, hsame⟩ := X191.leave (v := some (.int (0 : Int32))) (fun h => by rw [Bd.returns] at h; cases h)
          refine ⟨_, _, pre192 _ ?_, hrun, hended, _, _, rfl, ?_, ⟨_, rfl⟩, hW, hsame.mono (by decide) (by decide)⟩
          ·
            show Steps p.tables e below (T191.setTop (mkF m 66 #[.val (.ref a0), .val (.ref a1), .val (.ref a1)] [(.int v4), (.int w4)])) _
            refine XS.icmpYes X191.here hx rfl (pc0 := 66) (pc' := 73) rfl (hb hby d9_66) rfl (feq c193).2 (by decide) (by decide) ?_
            show Steps p.tables e below (T191.setTop (mkF m 73 #[.val (.ref a0), .val (.ref a1), .val (.ref a1)] [])) _
            refine XS.iconst X191.here hx rfl (hb hby d9_73) ?_
            show Steps p.tables e below (T191.setTop (mkF m 74 #[.val (.ref a0), .val (.ref a1), .val (.ref a1)] [(.int (0 : Int32))])) _
            exact retZ X191 hx Bd.returns (by decide) (hb hby d9_74) hr
          ·
            show Q_rm9 Z a0 a1 w1 w2 w3 w4 v1 v2 v3 v4 h0 n0 _ T191.heap _
            rw [e191]
            exact ⟨(by simp only [if_pos c181, if_pos c185, if_pos c189, if_neg c193]), N0, rfl⟩
      ·
        obtain ⟨fs, hr, hrun, hended, hW, hsame⟩ := X187.leave (v := some (.int (0 : Int32))) (fun h => by rw [Bd.returns] at h; cases h)
        refine ⟨_, _, pre188 _ ?_, hrun, hended, _, _, rfl, ?_, ⟨_, rfl⟩, hW, hsame.mono (by decide) (by decide)⟩
        ·
          show Steps p.tables e below (T187.setTop (mkF m 55 #[.val (.ref a0), .val (.ref a1), .val (.ref a1)] [(.int (lcmpW w3 v3))])) _
          refine XS.ifYes X187.here hx rfl (pc0 := 55) (pc' := 73) rfl (hb hby d9_55) rfl ((if0 _ _).trans (feq (fun q => c189 ((lw_eq _ _).mp q))).2) (by decide) (by decide) ?_
          show Steps p.tables e below (T187.setTop (mkF m 73 #[.val (.ref a0), .val (.ref a1), .val (.ref a1)] [])) _
          refine XS.iconst X187.here hx rfl (hb hby d9_73) ?_
          show Steps p.tables e below (T187.setTop (mkF m 74 #[.val (.ref a0), .val (.ref a1), .val (.ref a1)] [(.int (0 : Int32))])) _
          exact retZ X187 hx Bd.returns (by decide) (hb hby d9_74) hr
        ·
          show Q_rm9 Z a0 a1 w1 w2 w3 w4 v1 v2 v3 v4 h0 n0 _ T187.heap _
          rw [e187]
          exact ⟨(by simp only [if_pos c181, if_pos c185, if_neg c189]), N0, rfl⟩
    ·
      obtain ⟨fs, hr, hrun, hended, hW, hsame⟩ := X183.leave (v := some (.int (0 : Int32))) (fun h => by rw [Bd.returns] at h; cases h)
      refine ⟨_, _, pre184 _ ?_, hrun, hended, _, _, rfl, ?_, ⟨_, rfl⟩, hW, hsame.mono (by decide) (by decide)⟩
      ·
        show Steps p.tables e below (T183.setTop (mkF m 43 #[.val (.ref a0), .val (.ref a1), .val (.ref a1)] [(.int v2), (.int w2)])) _
        refine XS.icmpYes X183.here hx rfl (pc0 := 43) (pc' := 73) rfl (hb hby d9_43) rfl (feq c185).2 (by decide) (by decide) ?_
        show Steps p.tables e below (T183.setTop (mkF m 73 #[.val (.ref a0), .val (.ref a1), .val (.ref a1)] [])) _
        refine XS.iconst X183.here hx rfl (hb hby d9_73) ?_
        show Steps p.tables e below (T183.setTop (mkF m 74 #[.val (.ref a0), .val (.ref a1), .val (.ref a1)] [(.int (0 : Int32))])) _
        exact retZ X183 hx Bd.returns (by decide) (hb hby d9_74) hr
      ·
        show Q_rm9 Z a0 a1 w1 w2 w3 w4 v1 v2 v3 v4 h0 n0 _ T183.heap _
        rw [e183]
        exact ⟨(by simp only [if_pos c181, if_neg c185]), N0, rfl⟩
  ·
    obtain ⟨fs, hr, hrun, hended, hW, hsame⟩ := X179.leave (v := some (.int (0 : Int32))) (fun h => by rw [Bd.returns] at h; cases h)
    refine ⟨_, _, pre180 _ ?_, hrun, hended, _, _, rfl, ?_, ⟨_, rfl⟩, hW, hsame.mono (by decide) (by decide)⟩
    ·
      show Steps p.tables e below (T179.setTop (mkF m 32 #[.val (.ref a0), .val (.ref a1), .val (.ref a1)] [(.int v1), (.int w1)])) _
      refine XS.icmpYes X179.here hx rfl (pc0 := 32) (pc' := 73) rfl (hb hby d9_32) rfl (feq c181).2 (by decide) (by decide) ?_
      show Steps p.tables e below (T179.setTop (mkF m 73 #[.val (.ref a0), .val (.ref a1), .val (.ref a1)] [])) _
      refine XS.iconst X179.here hx rfl (hb hby d9_73) ?_
      show Steps p.tables e below (T179.setTop (mkF m 74 #[.val (.ref a0), .val (.ref a1), .val (.ref a1)] [(.int (0 : Int32))])) _
      exact retZ X179 hx Bd.returns (by decide) (hb hby d9_74) hr
    ·
      show Q_rm9 Z a0 a1 w1 w2 w3 w4 v1 v2 v3 v4 h0 n0 _ T179.heap _
      rw [e179]
      exact ⟨(by simp only [if_neg c181]), N0, rfl⟩
theorem pd_1 : parseMethodDescriptor "(J)Lcom/example/lean_limiter/leanlimiter/Decision;" = some ⟨[.long], some (.object "com/example/lean_limiter/leanlimiter/Decision")⟩ := by decide +kernel
theorem pd_2 : parseMethodDescriptor "(I)Lcom/example/lean_limiter/leanlimiter/Decision;" = some ⟨[.int], some (.object "com/example/lean_limiter/leanlimiter/Decision")⟩ := by decide +kernel
theorem pd_3 : parseMethodDescriptor "()Z" = some ⟨[], some .boolean⟩ := by decide +kernel
theorem pd_4 : parseMethodDescriptor "()I" = some ⟨[], some .int⟩ := by decide +kernel
theorem pd_5 : parseMethodDescriptor "()J" = some ⟨[], some .long⟩ := by decide +kernel
theorem pd_6 : parseMethodDescriptor "(Ljava/lang/Object;)Z" = some ⟨[(.object "java/lang/Object")], some .boolean⟩ := by decide +kernel
theorem pn_1 : plainName "com/example/lean_limiter/leanlimiter/DecisionDeniedPinLaw" = true := by first | (simp [plainName, overriddenIn]; done) | decide +kernel
theorem ef_rm0 (m : MethodId) (q0 : Int64) (q1 : Int64) (p2 : Int32) (p3 : Int32) : entryFrame m #[(.long q0), (.long q1), (.int p2), (.int p3)] maxLocals = mkF m 0 #[.val (.long q0), .second, .val (.long q1), .second, .val (.int p2), .val (.int p3), .unset, .unset, .unset, .unset, .unset, .unset] [] := by first | (simp [entryFrame, mkF, argsToLocals, Value.category, maxLocals]; done) | rfl
def Q_rm0 (Z : State) (q0 : Int64) (q1 : Int64) (p2 : Int32) (p3 : Int32) (h0 : Heap) (n0 : Nat) (v : Option Value) (h : Heap) (L : List Loc) : Prop := v = some (.int (1 : Int32)) ∧ Fr n0 L
set_option maxRecDepth 65536 in
set_option maxHeartbeats 40000000 in
theorem rm0 (l : Launch) (Z : State) (aw : Array Value) (hw : ∀ d ∈ tables_1, d.before aw Z = true) (ws : List Jvm.Cond) (q0 : Int64) (q1 : Int64) (p2 : Int32) (p3 : Int32) (h0 : Heap) (n0 : Nat) (Z0 : n0 ≤ h0.size) :
    MetFree l x (head1 (Jvm.Cond.code x code maxLocals ret :: ws) room_1) (fun a U => a = #[(.long q0), (.long q1), (.int p2), (.int p3)] ∧ Z.Warmed39 U.vm ∧ U.heap = h0) (fun _ _ _ _ _ => True) (fun _ U o U' => ∃ v L, o = .returned v ∧ Q_rm0 Z q0 q1 p2 p3 h0 n0 v U'.heap L ∧ FrameEnd U o U' L room_1.cells room_1.slots) := by
  refine MetFree.of_bodySF (plainFor_of_name pn_1) hisR ?_
  intro p e s m args below meth c s₁ Bd hml0 hP hK
  obtain ⟨rfl, hZ, hh⟩ := hP
  have hx := Bd.exec
  have hby := Bd.bytes
  have hml : c.maxLocals = 12 := hml0
  have hown : s.vm.findClass "com/example/lean_limiter/leanlimiter/DecisionDeniedPinLaw" = some m.cls := findClass_of_methodNamed Bd.named
  have hnm := (name_of_methodNamed Bd.named Bd.method).1
  have X0 : Stand p l e room_1 s m #[(.long q0), (.long q1), (.int p2), (.int p3)] below meth c s₁ [] 0 0 := Stand.of_body Bd
  have e0 : s₁.heap = h0 := by rw [← hh, Bd.state]; rfl
  have N0 := Fr.nil n0
  have pre0 : ∀ t, Steps p.tables e below (s₁.setTop (mkF m 0 #[.val (.long q0), .second, .val (.long q1), .second, .val (.int p2), .val (.int p3), .unset, .unset, .unset, .unset, .unset, .unset] [])) t → Steps p.tables e below (s₁.setTop (entryFrame m #[(.long q0), (.long q1), (.int p2), (.int p3)] maxLocals)) t := fun t k => castTop (ef_rm0 m q0 q1 p2 p3) k
  obtain ⟨x195, hx195⟩ : ∃ z : Int64, z = (if (p3 &&& (1 : Int32)) = (0 : Int32) then q1 else q0) := ⟨_, rfl⟩
  have pre196 : ∀ t, Steps p.tables e below (s₁.setTop (mkF m 12 #[.val (.long q0), .second, .val (.long q1), .second, .val (.int p2), .val (.int p3), .unset, .unset, .unset, .unset, .unset, .unset] [(.long x195)])) t → Steps p.tables e below (s₁.setTop (entryFrame m #[(.long q0), (.long q1), (.int p2), (.int p3)] maxLocals)) t := fun t k => by
    refine pre0 t ?_
    show Steps p.tables e below (s₁.setTop (mkF m 0 #[.val (.long q0), .second, .val (.long q1), .second, .val (.int p2), .val (.int p3), .unset, .unset, .unset, .unset, .unset, .unset] [])) _
    refine XS.iload X0.here hx rfl (hb hby at_0) rfl ?_
    show Steps p.tables e below (s₁.setTop (mkF m 2 #[.val (.long q0), .second, .val (.long q1), .second, .val (.int p2), .val (.int p3), .unset, .unset, .unset, .unset, .unset, .unset] [(.int p3)])) _
    refine XS.iconst X0.here hx rfl (hb hby at_2) ?_
    show Steps p.tables e below (s₁.setTop (mkF m 3 #[.val (.long q0), .second, .val (.long q1), .second, .val (.int p2), .val (.int p3), .unset, .unset, .unset, .unset, .unset, .unset] [(.int (1 : Int32)), (.int p3)])) _
    refine XS.iand X0.here hx rfl (hb hby at_3) rfl ?_
    by_cases c194 : (p3 &&& (1 : Int32)) = (0 : Int32)
    ·
      show Steps p.tables e below (s₁.setTop (mkF m 4 #[.val (.long q0), .second, .val (.long q1), .second, .val (.int p2), .val (.int p3), .unset, .unset, .unset, .unset, .unset, .unset] [(.int (p3 &&& (1 : Int32)))])) _
      refine XS.ifYes X0.here hx rfl (pc0 := 4) (pc' := 11) rfl (hb hby at_4) rfl ((if0 _ _).trans (teq c194).1) (by decide) (by decide) ?_
      show Steps p.tables e below (s₁.setTop (mkF m 11 #[.val (.long q0), .second, .val (.long q1), .second, .val (.int p2), .val (.int p3), .unset, .unset, .unset, .unset, .unset, .unset] [])) _
      refine XS.lloadN X0.here hx rfl (hb hby at_11) rfl ?_
      rw [show x195 = q1 from hx195.trans (by simp only [if_pos c194])] at k
      exact k
    ·
      show Steps p.tables e below (s₁.setTop (mkF m 4 #[.val (.long q0), .second, .val (.long q1), .second, .val (.int p2), .val (.int p3), .unset, .unset, .unset, .unset, .unset, .unset] [(.int (p3 &&& (1 : Int32)))])) _
      refine XS.ifNo X0.here hx rfl (hb hby at_4) rfl ((if0 _ _).trans (feq c194).1) ?_
      show Steps p.tables e below (s₁.setTop (mkF m 7 #[.val (.long q0), .second, .val (.long q1), .second, .val (.int p2), .val (.int p3), .unset, .unset, .unset, .unset, .unset, .unset] [])) _
      refine XS.lloadN X0.here hx rfl (hb hby at_7) rfl ?_
      show Steps p.tables e below (s₁.setTop (mkF m 8 #[.val (.long q0), .second, .val (.long q1), .second, .val (.int p2), .val (.int p3), .unset, .unset, .unset, .unset, .unset, .unset] [(.long q0)])) _
      refine XS.goto X0.here hx rfl (pc0 := 8) (pc' := 12) rfl (hb hby at_8) (by decide) (by decide) ?_
      rw [show x195 = q0 from hx195.trans (by simp only [if_neg c194])] at k
      exact k
  obtain ⟨_, _, ⟨T197, L197, k197, n197⟩, -, X197, ⟨Lc197, hQ197, l197, y197, z197⟩, st197⟩ := Jvm.LawKit.callS X0 hx (y := (⟨"com/example/lean_limiter/leanlimiter/Decision", "denied", "(J)Lcom/example/lean_limiter/leanlimiter/Decision;"⟩ : MethodName)) hown (mvT hZ (hw _ (List.mem_of_getElem? (i := 0) rfl))) (mvT hZ (hw _ (List.mem_of_getElem? (i := 1) rfl))) (mvT hZ (hw _ (List.mem_of_getElem? (i := 2) rfl))) (mvT hZ (hw _ (List.mem_of_getElem? (i := 3) rfl))) (by decide) (backOf (W := 0) (rm1 l Z aw hw [] q0 h0 n0 Z0) hZ (hw _ (List.mem_of_getElem? (i := 3) rfl)) (hw _ (List.mem_of_getElem? (i := 2) rfl)) (by decide) (by decide)) (g := (mkF m 15 #[.val (.long q0), .second, .val (.long q1), .second, .val (.int p2), .val (.int p3), .val (.long x195), .second, .unset, .unset, .unset, .unset] [(.long q0)])) rfl (by rw [hml]; rfl) (argsL := [(.long q0)]) (rest := []) (lenOf pd_1 rfl) rfl (by show 2 * 0 + _ ≤ _; exact Nat.le_of_eq rfl) (hb hby at_15) (fun _ _ => ⟨rfl, e0, (by decide : 0 + 1 ≤ _), (by decide : 0 + 4 ≤ _)⟩)
  dsimp only [Pt.U, Pt.locs, Pt.cells, Pt.slots] at X197 l197 y197 z197 st197 hQ197
  subst l197 y197 z197
  obtain ⟨r197, rfl, N197q, K197, sz197, f198, f199, f200, f201, f202⟩ := hQ197
  have N197 := Fr.app N0 N197q
  have gn203 : n0 ≤ r197 := Nat.le_trans Z0 sz197
  have Z204 : n0 ≤ T197.heap.size := Nat.le_trans Z0 K197.1
  obtain ⟨_, _, ⟨T205, L205, k205, n205⟩, -, X205, ⟨Lc205, hQ205, l205, y205, z205⟩, st205⟩ := Jvm.LawKit.callS X197 hx (y := (⟨"com/example/lean_limiter/leanlimiter/Decision", "denied", "(J)Lcom/example/lean_limiter/leanlimiter/Decision;"⟩ : MethodName)) hown (mvT hZ (hw _ (List.mem_of_getElem? (i := 0) rfl))) (mvT hZ (hw _ (List.mem_of_getElem? (i := 1) rfl))) (mvT hZ (hw _ (List.mem_of_getElem? (i := 2) rfl))) (mvT hZ (hw _ (List.mem_of_getElem? (i := 3) rfl))) (by decide) (backOf (W := 0) (rm1 l Z aw hw [] x195 T197.heap n0 Z204) hZ (hw _ (List.mem_of_getElem? (i := 3) rfl)) (hw _ (List.mem_of_getElem? (i := 2) rfl)) (by decide) (by decide)) (g := (mkF m 22 #[.val (.long q0), .second, .val (.long q1), .second, .val (.int p2), .val (.int p3), .val (.long x195), .second, .val (.ref r197), .unset, .unset, .unset] [(.long x195)])) rfl (by rw [hml]; rfl) (argsL := [(.long x195)]) (rest := []) (lenOf pd_1 rfl) rfl (by show 2 * 0 + _ ≤ _; exact Nat.le_of_eq rfl) (hb hby at_22) (fun _ _ => ⟨rfl, rfl, (by decide : 1 + 1 ≤ _), (by decide : 4 + 4 ≤ _)⟩)
  dsimp only [Pt.U, Pt.locs, Pt.cells, Pt.slots] at X205 l205 y205 z205 st205 hQ205
  subst l205 y205 z205
  obtain ⟨r205, rfl, N205q, K205, sz205, f206, f207, f208, f209, f210⟩ := hQ205
  have N205 := Fr.app N197 N205q
  have ne211 : r197 ≠ r205 := Nat.ne_of_lt (Nat.lt_of_lt_of_le f198.lt sz205)
  have gn212 : n0 ≤ r205 := Nat.le_trans Z204 sz205
  have f213 := f198.keep K205
  have f214 := f199.keep K205 nin0
  have f215 := f200.keep K205 nin0
  have f216 := f201.keep K205 nin0
  have f217 := f202.keep K205 nin0
  have Z218 : n0 ≤ T205.heap.size := Nat.le_trans Z204 K205.1
  obtain ⟨_, _, ⟨T219, L219, k219, n219⟩, -, X219, ⟨Lc219, hQ219, l219, y219, z219⟩, st219⟩ := Jvm.LawKit.callS X205 hx (y := (⟨"com/example/lean_limiter/leanlimiter/Decision", "admitted", "(I)Lcom/example/lean_limiter/leanlimiter/Decision;"⟩ : MethodName)) hown (mvT hZ (hw _ (List.mem_of_getElem? (i := 20) rfl))) (mvT hZ (hw _ (List.mem_of_getElem? (i := 21) rfl))) (mvT hZ (hw _ (List.mem_of_getElem? (i := 2) rfl))) (mvT hZ (hw _ (List.mem_of_getElem? (i := 22) rfl))) (by decide) (backOf (W := 0) (rm4 l Z aw hw [] p2 T205.heap n0 Z218) hZ (hw _ (List.mem_of_getElem? (i := 22) rfl)) (hw _ (List.mem_of_getElem? (i := 2) rfl)) (by decide) (by decide)) (g := (mkF m 29 #[.val (.long q0), .second, .val (.long q1), .second, .val (.int p2), .val (.int p3), .val (.long x195), .second, .val (.ref r197), .val (.ref r205), .unset, .unset] [(.int p2)])) rfl (by rw [hml]; rfl) (argsL := [(.int p2)]) (rest := []) (lenOf pd_2 rfl) rfl (by show 2 * 0 + _ ≤ _; exact Nat.le_of_eq rfl) (hb hby at_29) (fun _ _ => ⟨rfl, rfl, (by decide : 2 + 1 ≤ _), (by decide : 8 + 4 ≤ _)⟩)
  dsimp only [Pt.U, Pt.locs, Pt.cells, Pt.slots] at X219 l219 y219 z219 st219 hQ219
  subst l219 y219 z219
  obtain ⟨r219, rfl, N219q, K219, sz219, f220, f221, f222, f223, f224⟩ := hQ219
  have N219 := Fr.app N205 N219q
  have ne225 : r197 ≠ r219 := Nat.ne_of_lt (Nat.lt_of_lt_of_le f213.lt sz219)
  have ne226 : r205 ≠ r219 := Nat.ne_of_lt (Nat.lt_of_lt_of_le f206.lt sz219)
  have gn227 : n0 ≤ r219 := Nat.le_trans Z218 sz219
  have f228 := f213.keep K219
  have f229 := f214.keep K219 nin0
  have f230 := f215.keep K219 nin0
  have f231 := f216.keep K219 nin0
  have f232 := f217.keep K219 nin0
  have f233 := f206.keep K219
  have f234 := f207.keep K219 nin0
  have f235 := f208.keep K219 nin0
  have f236 := f209.keep K219 nin0
  have f237 := f210.keep K219 nin0
  have Z238 : n0 ≤ T219.heap.size := Nat.le_trans Z218 K219.1
  obtain ⟨cq239, kq239, q239a, q239b, q239c⟩ := isOf hZ rfl f228
  obtain ⟨_, _, ⟨T239, L239, k239, n239⟩, -, X239, ⟨Lc239, hQ239, l239, y239, z239⟩, st239⟩ := X219.virtualBack hx (y := (⟨"com/example/lean_limiter/leanlimiter/Decision", "allowed", "()Z"⟩ : MethodName)) (z := (⟨"com/example/lean_limiter/leanlimiter/Decision", "allowed", "()Z"⟩ : MethodName)) hown (mvT hZ (hw _ (List.mem_of_getElem? (i := 23) rfl))) (mvT hZ (hw _ (List.mem_of_getElem? (i := 24) rfl))) (notFace_of_selects (args := #[]) (mvT hZ (hw _ (List.mem_of_getElem? (i := 26) rfl)))) (mvT hZ (hw _ (List.mem_of_getElem? (i := 26) rfl))) (mvT hZ (hw _ (List.mem_of_getElem? (i := 25) rfl))) (by decide) (backOf (W := 0) (rm5 l Z aw hw [] r197 (0 : Int32) T219.heap n0 Z238 f229 (by decide)) hZ (hw _ (List.mem_of_getElem? (i := 27) rfl)) (hw _ (List.mem_of_getElem? (i := 2) rfl)) (by decide) (by decide)) q239a q239c (g := (mkF m 36 #[.val (.long q0), .second, .val (.long q1), .second, .val (.int p2), .val (.int p3), .val (.long x195), .second, .val (.ref r197), .val (.ref r205), .val (.ref r219), .unset] [(.ref r197)])) rfl (by rw [hml]; rfl) (Steps.refl _) (argsL := []) (rest := []) (lenOf pd_3 rfl) rfl (by show 2 * 0 + _ ≤ _; exact Nat.le_of_eq rfl) (hb hby at_36) (fun _ _ => ⟨rfl, rfl, (by decide : 3 + 0 ≤ _), (by decide : 12 + 0 ≤ _)⟩)
  dsimp only [Pt.U, Pt.locs, Pt.cells, Pt.slots] at X239 l239 y239 z239 st239 hQ239
  subst l239 y239 z239
  obtain ⟨rfl, N239q, e239⟩ := hQ239
  have N239 := Fr.app N219 N239q
  obtain ⟨cq240, kq240, q240a, q240b, q240c⟩ := isOf hZ e239 f228
  obtain ⟨_, _, ⟨T240, L240, k240, n240⟩, -, X240, ⟨Lc240, hQ240, l240, y240, z240⟩, st240⟩ := X239.virtualBack hx (y := (⟨"com/example/lean_limiter/leanlimiter/Decision", "remaining", "()I"⟩ : MethodName)) (z := (⟨"com/example/lean_limiter/leanlimiter/Decision", "remaining", "()I"⟩ : MethodName)) hown (mvT hZ (hw _ (List.mem_of_getElem? (i := 28) rfl))) (mvT hZ (hw _ (List.mem_of_getElem? (i := 29) rfl))) (notFace_of_selects (args := #[]) (mvT hZ (hw _ (List.mem_of_getElem? (i := 31) rfl)))) (mvT hZ (hw _ (List.mem_of_getElem? (i := 31) rfl))) (mvT hZ (hw _ (List.mem_of_getElem? (i := 30) rfl))) (by decide) (backOf (W := 0) (rm6 l Z aw hw [] r197 (0 : Int32) T219.heap n0 Z238 f230) hZ (hw _ (List.mem_of_getElem? (i := 32) rfl)) (hw _ (List.mem_of_getElem? (i := 2) rfl)) (by decide) (by decide)) q240a q240c (g := (mkF m 56 #[.val (.long q0), .second, .val (.long q1), .second, .val (.int p2), .val (.int p3), .val (.long x195), .second, .val (.ref r197), .val (.ref r205), .val (.ref r219), .val (.int (1 : Int32))] [(.ref r197)])) rfl (by rw [hml]; rfl) (Steps.refl _) (argsL := []) (rest := []) (lenOf pd_4 rfl) rfl (by show 2 * 0 + _ ≤ _; exact Nat.le_of_eq rfl) (hb hby at_56) (fun _ _ => ⟨rfl, e239, (by decide : 3 + 0 ≤ _), (by decide : 12 + 0 ≤ _)⟩)
  dsimp only [Pt.U, Pt.locs, Pt.cells, Pt.slots] at X240 l240 y240 z240 st240 hQ240
  subst l240 y240 z240
  obtain ⟨rfl, N240q, e240⟩ := hQ240
  have N240 := Fr.app N239 N240q
  obtain ⟨cq241, kq241, q241a, q241b, q241c⟩ := isOf hZ e240 f228
  obtain ⟨_, _, ⟨T241, L241, k241, n241⟩, -, X241, ⟨Lc241, hQ241, l241, y241, z241⟩, st241⟩ := X240.virtualBack hx (y := (⟨"com/example/lean_limiter/leanlimiter/Decision", "retryAfterMillis", "()J"⟩ : MethodName)) (z := (⟨"com/example/lean_limiter/leanlimiter/Decision", "retryAfterMillis", "()J"⟩ : MethodName)) hown (mvT hZ (hw _ (List.mem_of_getElem? (i := 33) rfl))) (mvT hZ (hw _ (List.mem_of_getElem? (i := 34) rfl))) (notFace_of_selects (args := #[]) (mvT hZ (hw _ (List.mem_of_getElem? (i := 36) rfl)))) (mvT hZ (hw _ (List.mem_of_getElem? (i := 36) rfl))) (mvT hZ (hw _ (List.mem_of_getElem? (i := 35) rfl))) (by decide) (backOf (W := 0) (rm7 l Z aw hw [] r197 q0 T219.heap n0 Z238 f231) hZ (hw _ (List.mem_of_getElem? (i := 37) rfl)) (hw _ (List.mem_of_getElem? (i := 2) rfl)) (by decide) (by decide)) q241a q241c (g := (mkF m 76 #[.val (.long q0), .second, .val (.long q1), .second, .val (.int p2), .val (.int p3), .val (.long x195), .second, .val (.ref r197), .val (.ref r205), .val (.ref r219), .val (.int (1 : Int32))] [(.ref r197)])) rfl (by rw [hml]; rfl) (Steps.refl _) (argsL := []) (rest := []) (lenOf pd_5 rfl) rfl (by show 2 * 0 + _ ≤ _; exact Nat.le_of_eq rfl) (hb hby at_76) (fun _ _ => ⟨rfl, e240, (by decide : 3 + 0 ≤ _), (by decide : 12 + 0 ≤ _)⟩)
  dsimp only [Pt.U, Pt.locs, Pt.cells, Pt.slots] at X241 l241 y241 z241 st241 hQ241
  subst l241 y241 z241
  obtain ⟨rfl, N241q, e241⟩ := hQ241
  have N241 := Fr.app N240 N241q
  obtain ⟨cq242, kq242, q242a, q242b, q242c⟩ := isOf hZ e241 f228
  obtain ⟨_, _, ⟨T242, L242, k242, n242⟩, -, X242, ⟨Lc242, hQ242, l242, y242, z242⟩, st242⟩ := X241.virtualBack hx (y := (⟨"com/example/lean_limiter/leanlimiter/Decision", "degraded", "()Z"⟩ : MethodName)) (z := (⟨"com/example/lean_limiter/leanlimiter/Decision", "degraded", "()Z"⟩ : MethodName)) hown (mvT hZ (hw _ (List.mem_of_getElem? (i := 38) rfl))) (mvT hZ (hw _ (List.mem_of_getElem? (i := 39) rfl))) (notFace_of_selects (args := #[]) (mvT hZ (hw _ (List.mem_of_getElem? (i := 41) rfl)))) (mvT hZ (hw _ (List.mem_of_getElem? (i := 41) rfl))) (mvT hZ (hw _ (List.mem_of_getElem? (i := 40) rfl))) (by decide) (backOf (W := 0) (rm8 l Z aw hw [] r197 (0 : Int32) T219.heap n0 Z238 f232 (by decide)) hZ (hw _ (List.mem_of_getElem? (i := 42) rfl)) (hw _ (List.mem_of_getElem? (i := 2) rfl)) (by decide) (by decide)) q242a q242c (g := (mkF m 98 #[.val (.long q0), .second, .val (.long q1), .second, .val (.int p2), .val (.int p3), .val (.long x195), .second, .val (.ref r197), .val (.ref r205), .val (.ref r219), .val (.int (1 : Int32))] [(.ref r197)])) rfl (by rw [hml]; rfl) (Steps.refl _) (argsL := []) (rest := []) (lenOf pd_3 rfl) rfl (by show 2 * 0 + _ ≤ _; exact Nat.le_of_eq rfl) (hb hby at_98) (fun _ _ => ⟨rfl, e241, (by decide : 3 + 0 ≤ _), (by decide : 12 + 0 ≤ _)⟩)
  dsimp only [Pt.U, Pt.locs, Pt.cells, Pt.slots] at X242 l242 y242 z242 st242 hQ242
  subst l242 y242 z242
  obtain ⟨rfl, N242q, e242⟩ := hQ242
  have N242 := Fr.app N241 N242q
  obtain ⟨cq243, kq243, q243a, q243b, q243c⟩ := isOf hZ e242 f228
  obtain ⟨_, _, ⟨T243, L243, k243, n243⟩, -, X243, ⟨Lc243, hQ243, l243, y243, z243⟩, st243⟩ := X242.virtualBack hx (y := (⟨"com/example/lean_limiter/leanlimiter/Decision", "equals", "(Ljava/lang/Object;)Z"⟩ : MethodName)) (z := (⟨"com/example/lean_limiter/leanlimiter/Decision", "equals", "(Ljava/lang/Object;)Z"⟩ : MethodName)) hown (mvT hZ (hw _ (List.mem_of_getElem? (i := 43) rfl))) (mvT hZ (hw _ (List.mem_of_getElem? (i := 44) rfl))) (notFace_of_selects (args := #[]) (mvT hZ (hw _ (List.mem_of_getElem? (i := 46) rfl)))) (mvT hZ (hw _ (List.mem_of_getElem? (i := 46) rfl))) (mvT hZ (hw _ (List.mem_of_getElem? (i := 45) rfl))) (by decide) (backOf (W := 0) (rm9 l Z aw hw [] r197 r205 (0 : Int32) (0 : Int32) q0 (0 : Int32) (0 : Int32) (0 : Int32) x195 (0 : Int32) T219.heap n0 Z238 f233 ne211 f229 f230 f231 f232 f234 f235 f236 f237) hZ (hw _ (List.mem_of_getElem? (i := 47) rfl)) (hw _ (List.mem_of_getElem? (i := 2) rfl)) (by decide) (by decide)) q243a q243c (g := (mkF m 120 #[.val (.long q0), .second, .val (.long q1), .second, .val (.int p2), .val (.int p3), .val (.long x195), .second, .val (.ref r197), .val (.ref r205), .val (.ref r219), .val (.int (1 : Int32))] [(.ref r205), (.ref r197)])) rfl (by rw [hml]; rfl) (Steps.refl _) (argsL := [(.ref r205)]) (rest := []) (lenOf pd_6 rfl) rfl (by show 2 * 0 + _ ≤ _; exact Nat.le_of_eq rfl) (hb hby at_120) (fun _ _ => ⟨rfl, e242, (by decide : 3 + 0 ≤ _), (by decide : 12 + 0 ≤ _)⟩)
  dsimp only [Pt.U, Pt.locs, Pt.cells, Pt.slots] at X243 l243 y243 z243 st243 hQ243
  subst l243 y243 z243
  obtain ⟨rfl, N243q, e243⟩ := hQ243
  have N243 := Fr.app N242 N243q
  obtain ⟨x245, hx245⟩ : ∃ z : Int32, z = (if q0 = x195 then (1 : Int32) else (0 : Int32)) := ⟨_, rfl⟩
  have pre246 : ∀ t, Steps p.tables e below (T243.setTop (mkF m 135 #[.val (.long q0), .second, .val (.long q1), .second, .val (.int p2), .val (.int p3), .val (.long x195), .second, .val (.ref r197), .val (.ref r205), .val (.ref r219), .val (.int (1 : Int32))] [(.int x245), (.int (if (0 : Int32) = (0 : Int32) then (if (0 : Int32) = (0 : Int32) then (if q0 = x195 then (if (0 : Int32) = (0 : Int32) then (1 : Int32) else (0 : Int32)) else (0 : Int32)) else (0 : Int32)) else (0 : Int32)))])) t → Steps p.tables e below (s₁.setTop (entryFrame m #[(.long q0), (.long q1), (.int p2), (.int p3)] maxLocals)) t := fun t k => by
    refine pre196 t ?_
    show Steps p.tables e below (s₁.setTop (mkF m 12 #[.val (.long q0), .second, .val (.long q1), .second, .val (.int p2), .val (.int p3), .unset, .unset, .unset, .unset, .unset, .unset] [(.long x195)])) _
    refine XS.lstore X0.here hx rfl (hb hby at_12) rfl (l' := #[.val (.long q0), .second, .val (.long q1), .second, .val (.int p2), .val (.int p3), .val (.long x195), .second, .unset, .unset, .unset, .unset]) rfl ?_
    show Steps p.tables e below (s₁.setTop (mkF m 14 #[.val (.long q0), .second, .val (.long q1), .second, .val (.int p2), .val (.int p3), .val (.long x195), .second, .unset, .unset, .unset, .unset] [])) _
    refine XS.lloadN X0.here hx rfl (hb hby at_14) rfl ?_
    show Steps p.tables e below (s₁.setTop (mkF m 15 #[.val (.long q0), .second, .val (.long q1), .second, .val (.int p2), .val (.int p3), .val (.long x195), .second, .unset, .unset, .unset, .unset] [(.long q0)])) _
    refine st197 _ ?_
    show Steps p.tables e below (T197.setTop (mkF m 18 #[.val (.long q0), .second, .val (.long q1), .second, .val (.int p2), .val (.int p3), .val (.long x195), .second, .unset, .unset, .unset, .unset] [(.ref r197)])) _
    refine XS.astore X197.here hx rfl (hb hby at_18) rfl rfl (l' := #[.val (.long q0), .second, .val (.long q1), .second, .val (.int p2), .val (.int p3), .val (.long x195), .second, .val (.ref r197), .unset, .unset, .unset]) rfl ?_
    show Steps p.tables e below (T197.setTop (mkF m 20 #[.val (.long q0), .second, .val (.long q1), .second, .val (.int p2), .val (.int p3), .val (.long x195), .second, .val (.ref r197), .unset, .unset, .unset] [])) _
    refine XS.lload X197.here hx rfl (hb hby at_20) rfl ?_
    show Steps p.tables e below (T197.setTop (mkF m 22 #[.val (.long q0), .second, .val (.long q1), .second, .val (.int p2), .val (.int p3), .val (.long x195), .second, .val (.ref r197), .unset, .unset, .unset] [(.long x195)])) _
    refine st205 _ ?_
    show Steps p.tables e below (T205.setTop (mkF m 25 #[.val (.long q0), .second, .val (.long q1), .second, .val (.int p2), .val (.int p3), .val (.long x195), .second, .val (.ref r197), .unset, .unset, .unset] [(.ref r205)])) _
    refine XS.astore X205.here hx rfl (hb hby at_25) rfl rfl (l' := #[.val (.long q0), .second, .val (.long q1), .second, .val (.int p2), .val (.int p3), .val (.long x195), .second, .val (.ref r197), .val (.ref r205), .unset, .unset]) rfl ?_
    show Steps p.tables e below (T205.setTop (mkF m 27 #[.val (.long q0), .second, .val (.long q1), .second, .val (.int p2), .val (.int p3), .val (.long x195), .second, .val (.ref r197), .val (.ref r205), .unset, .unset] [])) _
    refine XS.iload X205.here hx rfl (hb hby at_27) rfl ?_
    show Steps p.tables e below (T205.setTop (mkF m 29 #[.val (.long q0), .second, .val (.long q1), .second, .val (.int p2), .val (.int p3), .val (.long x195), .second, .val (.ref r197), .val (.ref r205), .unset, .unset] [(.int p2)])) _
    refine st219 _ ?_
    show Steps p.tables e below (T219.setTop (mkF m 32 #[.val (.long q0), .second, .val (.long q1), .second, .val (.int p2), .val (.int p3), .val (.long x195), .second, .val (.ref r197), .val (.ref r205), .unset, .unset] [(.ref r219)])) _
    refine XS.astore X219.here hx rfl (hb hby at_32) rfl rfl (l' := #[.val (.long q0), .second, .val (.long q1), .second, .val (.int p2), .val (.int p3), .val (.long x195), .second, .val (.ref r197), .val (.ref r205), .val (.ref r219), .unset]) rfl ?_
    show Steps p.tables e below (T219.setTop (mkF m 34 #[.val (.long q0), .second, .val (.long q1), .second, .val (.int p2), .val (.int p3), .val (.long x195), .second, .val (.ref r197), .val (.ref r205), .val (.ref r219), .unset] [])) _
    refine XS.aload X219.here hx rfl (hb hby at_34) rfl rfl ?_
    show Steps p.tables e below (T219.setTop (mkF m 36 #[.val (.long q0), .second, .val (.long q1), .second, .val (.int p2), .val (.int p3), .val (.long x195), .second, .val (.ref r197), .val (.ref r205), .val (.ref r219), .unset] [(.ref r197)])) _
    refine st239.trans ?_
    show Steps p.tables e below (T239.setTop (mkF m 39 #[.val (.long q0), .second, .val (.long q1), .second, .val (.int p2), .val (.int p3), .val (.long x195), .second, .val (.ref r197), .val (.ref r205), .val (.ref r219), .unset] [(.int (0 : Int32))])) _
    refine XS.ifNo X239.here hx rfl (hb hby at_39) rfl ((if0 _ _).trans (teq rfl).2) ?_
    show Steps p.tables e below (T239.setTop (mkF m 42 #[.val (.long q0), .second, .val (.long q1), .second, .val (.int p2), .val (.int p3), .val (.long x195), .second, .val (.ref r197), .val (.ref r205), .val (.ref r219), .unset] [])) _
    refine XS.iconst X239.here hx rfl (hb hby at_42) ?_
    show Steps p.tables e below (T239.setTop (mkF m 43 #[.val (.long q0), .second, .val (.long q1), .second, .val (.int p2), .val (.int p3), .val (.long x195), .second, .val (.ref r197), .val (.ref r205), .val (.ref r219), .unset] [(.int (1 : Int32))])) _
    refine XS.goto X239.here hx rfl (pc0 := 43) (pc' := 47) rfl (hb hby at_43) (by decide) (by decide) ?_
    show Steps p.tables e below (T239.setTop (mkF m 47 #[.val (.long q0), .second, .val (.long q1), .second, .val (.int p2), .val (.int p3), .val (.long x195), .second, .val (.ref r197), .val (.ref r205), .val (.ref r219), .unset] [(.int (1 : Int32))])) _
    refine XS.istore X239.here hx rfl (hb hby at_47) rfl (l' := #[.val (.long q0), .second, .val (.long q1), .second, .val (.int p2), .val (.int p3), .val (.long x195), .second, .val (.ref r197), .val (.ref r205), .val (.ref r219), .val (.int (1 : Int32))]) rfl ?_
    show Steps p.tables e below (T239.setTop (mkF m 49 #[.val (.long q0), .second, .val (.long q1), .second, .val (.int p2), .val (.int p3), .val (.long x195), .second, .val (.ref r197), .val (.ref r205), .val (.ref r219), .val (.int (1 : Int32))] [])) _
    refine XS.iload X239.here hx rfl (hb hby at_49) rfl ?_
    show Steps p.tables e below (T239.setTop (mkF m 51 #[.val (.long q0), .second, .val (.long q1), .second, .val (.int p2), .val (.int p3), .val (.long x195), .second, .val (.ref r197), .val (.ref r205), .val (.ref r219), .val (.int (1 : Int32))] [(.int (1 : Int32))])) _
    refine XS.ifNo X239.here hx rfl (hb hby at_51) rfl ((if0 _ _).trans (feq (by decide)).1) ?_
    show Steps p.tables e below (T239.setTop (mkF m 54 #[.val (.long q0), .second, .val (.long q1), .second, .val (.int p2), .val (.int p3), .val (.long x195), .second, .val (.ref r197), .val (.ref r205), .val (.ref r219), .val (.int (1 : Int32))] [])) _
    refine XS.aload X239.here hx rfl (hb hby at_54) rfl rfl ?_
    show Steps p.tables e below (T239.setTop (mkF m 56 #[.val (.long q0), .second, .val (.long q1), .second, .val (.int p2), .val (.int p3), .val (.long x195), .second, .val (.ref r197), .val (.ref r205), .val (.ref r219), .val (.int (1 : Int32))] [(.ref r197)])) _
    refine st240.trans ?_
    show Steps p.tables e below (T240.setTop (mkF m 59 #[.val (.long q0), .second, .val (.long q1), .second, .val (.int p2), .val (.int p3), .val (.long x195), .second, .val (.ref r197), .val (.ref r205), .val (.ref r219), .val (.int (1 : Int32))] [(.int (0 : Int32))])) _
    refine XS.ifNo X240.here hx rfl (hb hby at_59) rfl ((if0 _ _).trans (teq rfl).2) ?_
    show Steps p.tables e below (T240.setTop (mkF m 62 #[.val (.long q0), .second, .val (.long q1), .second, .val (.int p2), .val (.int p3), .val (.long x195), .second, .val (.ref r197), .val (.ref r205), .val (.ref r219), .val (.int (1 : Int32))] [])) _
    refine XS.iconst X240.here hx rfl (hb hby at_62) ?_
    show Steps p.tables e below (T240.setTop (mkF m 63 #[.val (.long q0), .second, .val (.long q1), .second, .val (.int p2), .val (.int p3), .val (.long x195), .second, .val (.ref r197), .val (.ref r205), .val (.ref r219), .val (.int (1 : Int32))] [(.int (1 : Int32))])) _
    refine XS.goto X240.here hx rfl (pc0 := 63) (pc' := 67) rfl (hb hby at_63) (by decide) (by decide) ?_
    show Steps p.tables e below (T240.setTop (mkF m 67 #[.val (.long q0), .second, .val (.long q1), .second, .val (.int p2), .val (.int p3), .val (.long x195), .second, .val (.ref r197), .val (.ref r205), .val (.ref r219), .val (.int (1 : Int32))] [(.int (1 : Int32))])) _
    refine XS.istore X240.here hx rfl (hb hby at_67) rfl (l' := #[.val (.long q0), .second, .val (.long q1), .second, .val (.int p2), .val (.int p3), .val (.long x195), .second, .val (.ref r197), .val (.ref r205), .val (.ref r219), .val (.int (1 : Int32))]) rfl ?_
    show Steps p.tables e below (T240.setTop (mkF m 69 #[.val (.long q0), .second, .val (.long q1), .second, .val (.int p2), .val (.int p3), .val (.long x195), .second, .val (.ref r197), .val (.ref r205), .val (.ref r219), .val (.int (1 : Int32))] [])) _
    refine XS.iload X240.here hx rfl (hb hby at_69) rfl ?_
    show Steps p.tables e below (T240.setTop (mkF m 71 #[.val (.long q0), .second, .val (.long q1), .second, .val (.int p2), .val (.int p3), .val (.long x195), .second, .val (.ref r197), .val (.ref r205), .val (.ref r219), .val (.int (1 : Int32))] [(.int (1 : Int32))])) _
    refine XS.ifNo X240.here hx rfl (hb hby at_71) rfl ((if0 _ _).trans (feq (by decide)).1) ?_
    show Steps p.tables e below (T240.setTop (mkF m 74 #[.val (.long q0), .second, .val (.long q1), .second, .val (.int p2), .val (.int p3), .val (.long x195), .second, .val (.ref r197), .val (.ref r205), .val (.ref r219), .val (.int (1 : Int32))] [])) _
    refine XS.aload X240.here hx rfl (hb hby at_74) rfl rfl ?_
    show Steps p.tables e below (T240.setTop (mkF m 76 #[.val (.long q0), .second, .val (.long q1), .second, .val (.int p2), .val (.int p3), .val (.long x195), .second, .val (.ref r197), .val (.ref r205), .val (.ref r219), .val (.int (1 : Int32))] [(.ref r197)])) _
    refine st241.trans ?_
    show Steps p.tables e below (T241.setTop (mkF m 79 #[.val (.long q0), .second, .val (.long q1), .second, .val (.int p2), .val (.int p3), .val (.long x195), .second, .val (.ref r197), .val (.ref r205), .val (.ref r219), .val (.int (1 : Int32))] [(.long q0)])) _
    refine XS.lloadN X241.here hx rfl (hb hby at_79) rfl ?_
    show Steps p.tables e below (T241.setTop (mkF m 80 #[.val (.long q0), .second, .val (.long q1), .second, .val (.int p2), .val (.int p3), .val (.long x195), .second, .val (.ref r197), .val (.ref r205), .val (.ref r219), .val (.int (1 : Int32))] [(.long q0), (.long q0)])) _
    refine XS.lcmp X241.here hx rfl (hb hby at_80) rfl ?_
    show Steps p.tables e below (T241.setTop (mkF m 81 #[.val (.long q0), .second, .val (.long q1), .second, .val (.int p2), .val (.int p3), .val (.long x195), .second, .val (.ref r197), .val (.ref r205), .val (.ref r219), .val (.int (1 : Int32))] [(.int (lcmpW q0 q0))])) _
    refine XS.ifNo X241.here hx rfl (hb hby at_81) rfl ((if0 _ _).trans (teq ((lw_eq _ _).mpr rfl)).2) ?_
    show Steps p.tables e below (T241.setTop (mkF m 84 #[.val (.long q0), .second, .val (.long q1), .second, .val (.int p2), .val (.int p3), .val (.long x195), .second, .val (.ref r197), .val (.ref r205), .val (.ref r219), .val (.int (1 : Int32))] [])) _
    refine XS.iconst X241.here hx rfl (hb hby at_84) ?_
    show Steps p.tables e below (T241.setTop (mkF m 85 #[.val (.long q0), .second, .val (.long q1), .second, .val (.int p2), .val (.int p3), .val (.long x195), .second, .val (.ref r197), .val (.ref r205), .val (.ref r219), .val (.int (1 : Int32))] [(.int (1 : Int32))])) _
    refine XS.goto X241.here hx rfl (pc0 := 85) (pc' := 89) rfl (hb hby at_85) (by decide) (by decide) ?_
    show Steps p.tables e below (T241.setTop (mkF m 89 #[.val (.long q0), .second, .val (.long q1), .second, .val (.int p2), .val (.int p3), .val (.long x195), .second, .val (.ref r197), .val (.ref r205), .val (.ref r219), .val (.int (1 : Int32))] [(.int (1 : Int32))])) _
    refine XS.istore X241.here hx rfl (hb hby at_89) rfl (l' := #[.val (.long q0), .second, .val (.long q1), .second, .val (.int p2), .val (.int p3), .val (.long x195), .second, .val (.ref r197), .val (.ref r205), .val (.ref r219), .val (.int (1 : Int32))]) rfl ?_
    show Steps p.tables e below (T241.setTop (mkF m 91 #[.val (.long q0), .second, .val (.long q1), .second, .val (.int p2), .val (.int p3), .val (.long x195), .second, .val (.ref r197), .val (.ref r205), .val (.ref r219), .val (.int (1 : Int32))] [])) _
    refine XS.iload X241.here hx rfl (hb hby at_91) rfl ?_
    show Steps p.tables e below (T241.setTop (mkF m 93 #[.val (.long q0), .second, .val (.long q1), .second, .val (.int p2), .val (.int p3), .val (.long x195), .second, .val (.ref r197), .val (.ref r205), .val (.ref r219), .val (.int (1 : Int32))] [(.int (1 : Int32))])) _
    refine XS.ifNo X241.here hx rfl (hb hby at_93) rfl ((if0 _ _).trans (feq (by decide)).1) ?_
    show Steps p.tables e below (T241.setTop (mkF m 96 #[.val (.long q0), .second, .val (.long q1), .second, .val (.int p2), .val (.int p3), .val (.long x195), .second, .val (.ref r197), .val (.ref r205), .val (.ref r219), .val (.int (1 : Int32))] [])) _
    refine XS.aload X241.here hx rfl (hb hby at_96) rfl rfl ?_
    show Steps p.tables e below (T241.setTop (mkF m 98 #[.val (.long q0), .second, .val (.long q1), .second, .val (.int p2), .val (.int p3), .val (.long x195), .second, .val (.ref r197), .val (.ref r205), .val (.ref r219), .val (.int (1 : Int32))] [(.ref r197)])) _
    refine st242.trans ?_
    show Steps p.tables e below (T242.setTop (mkF m 101 #[.val (.long q0), .second, .val (.long q1), .second, .val (.int p2), .val (.int p3), .val (.long x195), .second, .val (.ref r197), .val (.ref r205), .val (.ref r219), .val (.int (1 : Int32))] [(.int (0 : Int32))])) _
    refine XS.ifNo X242.here hx rfl (hb hby at_101) rfl ((if0 _ _).trans (teq rfl).2) ?_
    show Steps p.tables e below (T242.setTop (mkF m 104 #[.val (.long q0), .second, .val (.long q1), .second, .val (.int p2), .val (.int p3), .val (.long x195), .second, .val (.ref r197), .val (.ref r205), .val (.ref r219), .val (.int (1 : Int32))] [])) _
    refine XS.iconst X242.here hx rfl (hb hby at_104) ?_
    show Steps p.tables e below (T242.setTop (mkF m 105 #[.val (.long q0), .second, .val (.long q1), .second, .val (.int p2), .val (.int p3), .val (.long x195), .second, .val (.ref r197), .val (.ref r205), .val (.ref r219), .val (.int (1 : Int32))] [(.int (1 : Int32))])) _
    refine XS.goto X242.here hx rfl (pc0 := 105) (pc' := 109) rfl (hb hby at_105) (by decide) (by decide) ?_
    show Steps p.tables e below (T242.setTop (mkF m 109 #[.val (.long q0), .second, .val (.long q1), .second, .val (.int p2), .val (.int p3), .val (.long x195), .second, .val (.ref r197), .val (.ref r205), .val (.ref r219), .val (.int (1 : Int32))] [(.int (1 : Int32))])) _
    refine XS.istore X242.here hx rfl (hb hby at_109) rfl (l' := #[.val (.long q0), .second, .val (.long q1), .second, .val (.int p2), .val (.int p3), .val (.long x195), .second, .val (.ref r197), .val (.ref r205), .val (.ref r219), .val (.int (1 : Int32))]) rfl ?_
    show Steps p.tables e below (T242.setTop (mkF m 111 #[.val (.long q0), .second, .val (.long q1), .second, .val (.int p2), .val (.int p3), .val (.long x195), .second, .val (.ref r197), .val (.ref r205), .val (.ref r219), .val (.int (1 : Int32))] [])) _
    refine XS.iload X242.here hx rfl (hb hby at_111) rfl ?_
    show Steps p.tables e below (T242.setTop (mkF m 113 #[.val (.long q0), .second, .val (.long q1), .second, .val (.int p2), .val (.int p3), .val (.long x195), .second, .val (.ref r197), .val (.ref r205), .val (.ref r219), .val (.int (1 : Int32))] [(.int (1 : Int32))])) _
    refine XS.ifNo X242.here hx rfl (hb hby at_113) rfl ((if0 _ _).trans (feq (by decide)).1) ?_
    show Steps p.tables e below (T242.setTop (mkF m 116 #[.val (.long q0), .second, .val (.long q1), .second, .val (.int p2), .val (.int p3), .val (.long x195), .second, .val (.ref r197), .val (.ref r205), .val (.ref r219), .val (.int (1 : Int32))] [])) _
    refine XS.aload X242.here hx rfl (hb hby at_116) rfl rfl ?_
    show Steps p.tables e below (T242.setTop (mkF m 118 #[.val (.long q0), .second, .val (.long q1), .second, .val (.int p2), .val (.int p3), .val (.long x195), .second, .val (.ref r197), .val (.ref r205), .val (.ref r219), .val (.int (1 : Int32))] [(.ref r197)])) _
    refine XS.aload X242.here hx rfl (hb hby at_118) rfl rfl ?_
    show Steps p.tables e below (T242.setTop (mkF m 120 #[.val (.long q0), .second, .val (.long q1), .second, .val (.int p2), .val (.int p3), .val (.long x195), .second, .val (.ref r197), .val (.ref r205), .val (.ref r219), .val (.int (1 : Int32))] [(.ref r205), (.ref r197)])) _
    refine st243.trans ?_
    show Steps p.tables e below (T243.setTop (mkF m 123 #[.val (.long q0), .second, .val (.long q1), .second, .val (.int p2), .val (.int p3), .val (.long x195), .second, .val (.ref r197), .val (.ref r205), .val (.ref r219), .val (.int (1 : Int32))] [(.int (if (0 : Int32) = (0 : Int32) then (if (0 : Int32) = (0 : Int32) then (if q0 = x195 then (if (0 : Int32) = (0 : Int32) then (1 : Int32) else (0 : Int32)) else (0 : Int32)) else (0 : Int32)) else (0 : Int32)))])) _
    refine XS.lloadN X243.here hx rfl (hb hby at_123) rfl ?_
    show Steps p.tables e below (T243.setTop (mkF m 124 #[.val (.long q0), .second, .val (.long q1), .second, .val (.int p2), .val (.int p3), .val (.long x195), .second, .val (.ref r197), .val (.ref r205), .val (.ref r219), .val (.int (1 : Int32))] [(.long q0), (.int (if (0 : Int32) = (0 : Int32) then (if (0 : Int32) = (0 : Int32) then (if q0 = x195 then (if (0 : Int32) = (0 : Int32) then (1 : Int32) else (0 : Int32)) else (0 : Int32)) else (0 : Int32)) else (0 : Int32)))])) _
    refine XS.lload X243.here hx rfl (hb hby at_124) rfl ?_
    show Steps p.tables e below (T243.setTop (mkF m 126 #[.val (.long q0), .second, .val (.long q1), .second, .val (.int p2), .val (.int p3), .val (.long x195), .second, .val (.ref r197), .val (.ref r205), .val (.ref r219), .val (.int (1 : Int32))] [(.long x195), (.long q0), (.int (if (0 : Int32) = (0 : Int32) then (if (0 : Int32) = (0 : Int32) then (if q0 = x195 then (if (0 : Int32) = (0 : Int32) then (1 : Int32) else (0 : Int32)) else (0 : Int32)) else (0 : Int32)) else (0 : Int32)))])) _
    refine XS.lcmp X243.here hx rfl (hb hby at_126) rfl ?_
    by_cases c244 : q0 = x195
    ·
      show Steps p.tables e below (T243.setTop (mkF m 127 #[.val (.long q0), .second, .val (.long q1), .second, .val (.int p2), .val (.int p3), .val (.long x195), .second, .val (.ref r197), .val (.ref r205), .val (.ref r219), .val (.int (1 : Int32))] [(.int (lcmpW q0 x195)), (.int (if (0 : Int32) = (0 : Int32) then (if (0 : Int32) = (0 : Int32) then (if q0 = x195 then (if (0 : Int32) = (0 : Int32) then (1 : Int32) else (0 : Int32)) else (0 : Int32)) else (0 : Int32)) else (0 : Int32)))])) _
      refine XS.ifNo X243.here hx rfl (hb hby at_127) rfl ((if0 _ _).trans (teq ((lw_eq _ _).mpr c244)).2) ?_
      show Steps p.tables e below (T243.setTop (mkF m 130 #[.val (.long q0), .second, .val (.long q1), .second, .val (.int p2), .val (.int p3), .val (.long x195), .second, .val (.ref r197), .val (.ref r205), .val (.ref r219), .val (.int (1 : Int32))] [(.int (if (0 : Int32) = (0 : Int32) then (if (0 : Int32) = (0 : Int32) then (if q0 = x195 then (if (0 : Int32) = (0 : Int32) then (1 : Int32) else (0 : Int32)) else (0 : Int32)) else (0 : Int32)) else (0 : Int32)))])) _
      refine XS.iconst X243.here hx rfl (hb hby at_130) ?_
      show Steps p.tables e below (T243.setTop (mkF m 131 #[.val (.long q0), .second, .val (.long q1), .second, .val (.int p2), .val (.int p3), .val (.long x195), .second, .val (.ref r197), .val (.ref r205), .val (.ref r219), .val (.int (1 : Int32))] [(.int (1 : Int32)), (.int (if (0 : Int32) = (0 : Int32) then (if (0 : Int32) = (0 : Int32) then (if q0 = x195 then (if (0 : Int32) = (0 : Int32) then (1 : Int32) else (0 : Int32)) else (0 : Int32)) else (0 : Int32)) else (0 : Int32)))])) _
      refine XS.goto X243.here hx rfl (pc0 := 131) (pc' := 135) rfl (hb hby at_131) (by decide) (by decide) ?_
      rw [show x245 = (1 : Int32) from hx245.trans (by simp only [if_pos c244])] at k
      exact k
    ·
      show Steps p.tables e below (T243.setTop (mkF m 127 #[.val (.long q0), .second, .val (.long q1), .second, .val (.int p2), .val (.int p3), .val (.long x195), .second, .val (.ref r197), .val (.ref r205), .val (.ref r219), .val (.int (1 : Int32))] [(.int (lcmpW q0 x195)), (.int (if (0 : Int32) = (0 : Int32) then (if (0 : Int32) = (0 : Int32) then (if q0 = x195 then (if (0 : Int32) = (0 : Int32) then (1 : Int32) else (0 : Int32)) else (0 : Int32)) else (0 : Int32)) else (0 : Int32)))])) _
      refine XS.ifYes X243.here hx rfl (pc0 := 127) (pc' := 134) rfl (hb hby at_127) rfl ((if0 _ _).trans (feq (fun q => c244 ((lw_eq _ _).mp q))).2) (by decide) (by decide) ?_
      show Steps p.tables e below (T243.setTop (mkF m 134 #[.val (.long q0), .second, .val (.long q1), .second, .val (.int p2), .val (.int p3), .val (.long x195), .second, .val (.ref r197), .val (.ref r205), .val (.ref r219), .val (.int (1 : Int32))] [(.int (if (0 : Int32) = (0 : Int32) then (if (0 : Int32) = (0 : Int32) then (if q0 = x195 then (if (0 : Int32) = (0 : Int32) then (1 : Int32) else (0 : Int32)) else (0 : Int32)) else (0 : Int32)) else (0 : Int32)))])) _
      refine XS.iconst X243.here hx rfl (hb hby at_134) ?_
      rw [show x245 = (0 : Int32) from hx245.trans (by simp only [if_neg c244])] at k
      exact k
  have c247 : (if (0 : Int32) = (0 : Int32) then (if (0 : Int32) = (0 : Int32) then (if q0 = x195 then (if (0 : Int32) = (0 : Int32) then (1 : Int32) else (0 : Int32)) else (0 : Int32)) else (0 : Int32)) else (0 : Int32)) = x245 := by
    rw [hx245]; simp
  obtain ⟨cq248, kq248, q248a, q248b, q248c⟩ := isOf hZ e243 f228
  obtain ⟨_, _, ⟨T248, L248, k248, n248⟩, -, X248, ⟨Lc248, hQ248, l248, y248, z248⟩, st248⟩ := X243.virtualBack hx (y := (⟨"com/example/lean_limiter/leanlimiter/Decision", "equals", "(Ljava/lang/Object;)Z"⟩ : MethodName)) (z := (⟨"com/example/lean_limiter/leanlimiter/Decision", "equals", "(Ljava/lang/Object;)Z"⟩ : MethodName)) hown (mvT hZ (hw _ (List.mem_of_getElem? (i := 43) rfl))) (mvT hZ (hw _ (List.mem_of_getElem? (i := 44) rfl))) (notFace_of_selects (args := #[]) (mvT hZ (hw _ (List.mem_of_getElem? (i := 46) rfl)))) (mvT hZ (hw _ (List.mem_of_getElem? (i := 46) rfl))) (mvT hZ (hw _ (List.mem_of_getElem? (i := 45) rfl))) (by decide) (backOf (W := 0) (rm9 l Z aw hw [] r197 r219 (0 : Int32) (0 : Int32) q0 (0 : Int32) (1 : Int32) p2 (0 : Int64) (0 : Int32) T219.heap n0 Z238 f220 ne225 f229 f230 f231 f232 f221 f222 f223 f224) hZ (hw _ (List.mem_of_getElem? (i := 47) rfl)) (hw _ (List.mem_of_getElem? (i := 2) rfl)) (by decide) (by decide)) q248a q248c (g := (mkF m 154 #[.val (.long q0), .second, .val (.long q1), .second, .val (.int p2), .val (.int p3), .val (.long x195), .second, .val (.ref r197), .val (.ref r205), .val (.ref r219), .val (.int (1 : Int32))] [(.ref r219), (.ref r197)])) rfl (by rw [hml]; rfl) (Steps.refl _) (argsL := [(.ref r219)]) (rest := []) (lenOf pd_6 rfl) rfl (by show 2 * 0 + _ ≤ _; exact Nat.le_of_eq rfl) (hb hby at_154) (fun _ _ => ⟨rfl, e243, (by decide : 3 + 0 ≤ _), (by decide : 12 + 0 ≤ _)⟩)
  dsimp only [Pt.U, Pt.locs, Pt.cells, Pt.slots] at X248 l248 y248 z248 st248 hQ248
  subst l248 y248 z248
  obtain ⟨rfl, N248q, e248⟩ := hQ248
  have N248 := Fr.app N243 N248q
  obtain ⟨x249, hx249⟩ : ∃ z : Int32, z = (if (0 : Int32) = (1 : Int32) then (if (0 : Int32) = p2 then (if q0 = (0 : Int64) then (if (0 : Int32) = (0 : Int32) then (1 : Int32) else (0 : Int32)) else (0 : Int32)) else (0 : Int32)) else (0 : Int32)) := ⟨_, rfl⟩
  have pre250 : ∀ t, Steps p.tables e below (T248.setTop (mkF m 157 #[.val (.long q0), .second, .val (.long q1), .second, .val (.int p2), .val (.int p3), .val (.long x195), .second, .val (.ref r197), .val (.ref r205), .val (.ref r219), .val (.int (1 : Int32))] [(.int x249)])) t → Steps p.tables e below (s₁.setTop (entryFrame m #[(.long q0), (.long q1), (.int p2), (.int p3)] maxLocals)) t := fun t k => by
    refine pre246 t ?_
    show Steps p.tables e below (T243.setTop (mkF m 135 #[.val (.long q0), .second, .val (.long q1), .second, .val (.int p2), .val (.int p3), .val (.long x195), .second, .val (.ref r197), .val (.ref r205), .val (.ref r219), .val (.int (1 : Int32))] [(.int x245), (.int (if (0 : Int32) = (0 : Int32) then (if (0 : Int32) = (0 : Int32) then (if q0 = x195 then (if (0 : Int32) = (0 : Int32) then (1 : Int32) else (0 : Int32)) else (0 : Int32)) else (0 : Int32)) else (0 : Int32)))])) _
    refine XS.icmpNo X243.here hx rfl (hb hby at_135) rfl (teq c247).2 ?_
    show Steps p.tables e below (T243.setTop (mkF m 138 #[.val (.long q0), .second, .val (.long q1), .second, .val (.int p2), .val (.int p3), .val (.long x195), .second, .val (.ref r197), .val (.ref r205), .val (.ref r219), .val (.int (1 : Int32))] [])) _
    refine XS.iconst X243.here hx rfl (hb hby at_138) ?_
    show Steps p.tables e below (T243.setTop (mkF m 139 #[.val (.long q0), .second, .val (.long q1), .second, .val (.int p2), .val (.int p3), .val (.long x195), .second, .val (.ref r197), .val (.ref r205), .val (.ref r219), .val (.int (1 : Int32))] [(.int (1 : Int32))])) _
    refine XS.goto X243.here hx rfl (pc0 := 139) (pc' := 143) rfl (hb hby at_139) (by decide) (by decide) ?_
    show Steps p.tables e below (T243.setTop (mkF m 143 #[.val (.long q0), .second, .val (.long q1), .second, .val (.int p2), .val (.int p3), .val (.long x195), .second, .val (.ref r197), .val (.ref r205), .val (.ref r219), .val (.int (1 : Int32))] [(.int (1 : Int32))])) _
    refine XS.istore X243.here hx rfl (hb hby at_143) rfl (l' := #[.val (.long q0), .second, .val (.long q1), .second, .val (.int p2), .val (.int p3), .val (.long x195), .second, .val (.ref r197), .val (.ref r205), .val (.ref r219), .val (.int (1 : Int32))]) rfl ?_
    show Steps p.tables e below (T243.setTop (mkF m 145 #[.val (.long q0), .second, .val (.long q1), .second, .val (.int p2), .val (.int p3), .val (.long x195), .second, .val (.ref r197), .val (.ref r205), .val (.ref r219), .val (.int (1 : Int32))] [])) _
    refine XS.iload X243.here hx rfl (hb hby at_145) rfl ?_
    show Steps p.tables e below (T243.setTop (mkF m 147 #[.val (.long q0), .second, .val (.long q1), .second, .val (.int p2), .val (.int p3), .val (.long x195), .second, .val (.ref r197), .val (.ref r205), .val (.ref r219), .val (.int (1 : Int32))] [(.int (1 : Int32))])) _
    refine XS.ifNo X243.here hx rfl (hb hby at_147) rfl ((if0 _ _).trans (feq (by decide)).1) ?_
    show Steps p.tables e below (T243.setTop (mkF m 150 #[.val (.long q0), .second, .val (.long q1), .second, .val (.int p2), .val (.int p3), .val (.long x195), .second, .val (.ref r197), .val (.ref r205), .val (.ref r219), .val (.int (1 : Int32))] [])) _
    refine XS.aload X243.here hx rfl (hb hby at_150) rfl rfl ?_
    show Steps p.tables e below (T243.setTop (mkF m 152 #[.val (.long q0), .second, .val (.long q1), .second, .val (.int p2), .val (.int p3), .val (.long x195), .second, .val (.ref r197), .val (.ref r205), .val (.ref r219), .val (.int (1 : Int32))] [(.ref r197)])) _
    refine XS.aload X243.here hx rfl (hb hby at_152) rfl rfl ?_
    show Steps p.tables e below (T243.setTop (mkF m 154 #[.val (.long q0), .second, .val (.long q1), .second, .val (.int p2), .val (.int p3), .val (.long x195), .second, .val (.ref r197), .val (.ref r205), .val (.ref r219), .val (.int (1 : Int32))] [(.ref r219), (.ref r197)])) _
    refine st248.trans ?_
    subst hx249
    exact k
  obtain rfl : x249 = (0 : Int32) := by
    rw [hx249]; exact if_neg (by decide)
  obtain ⟨fs, hr, hrun, hended, hW, hsame⟩ := X248.leave (v := some (.int (1 : Int32))) (fun h => by rw [Bd.returns] at h; cases h)
  refine ⟨_, _, pre250 _ ?_, hrun, hended, _, _, rfl, ?_, ⟨_, rfl⟩, hW, hsame.mono (by decide) (by decide)⟩
  ·
    show Steps p.tables e below (T248.setTop (mkF m 157 #[.val (.long q0), .second, .val (.long q1), .second, .val (.int p2), .val (.int p3), .val (.long x195), .second, .val (.ref r197), .val (.ref r205), .val (.ref r219), .val (.int (1 : Int32))] [(.int (0 : Int32))])) _
    refine XS.ifNo X248.here hx rfl (hb hby at_157) rfl ((if0 _ _).trans (teq rfl).2) ?_
    show Steps p.tables e below (T248.setTop (mkF m 160 #[.val (.long q0), .second, .val (.long q1), .second, .val (.int p2), .val (.int p3), .val (.long x195), .second, .val (.ref r197), .val (.ref r205), .val (.ref r219), .val (.int (1 : Int32))] [])) _
    refine XS.iconst X248.here hx rfl (hb hby at_160) ?_
    show Steps p.tables e below (T248.setTop (mkF m 161 #[.val (.long q0), .second, .val (.long q1), .second, .val (.int p2), .val (.int p3), .val (.long x195), .second, .val (.ref r197), .val (.ref r205), .val (.ref r219), .val (.int (1 : Int32))] [(.int (1 : Int32))])) _
    refine XS.goto X248.here hx rfl (pc0 := 161) (pc' := 165) rfl (hb hby at_161) (by decide) (by decide) ?_
    show Steps p.tables e below (T248.setTop (mkF m 165 #[.val (.long q0), .second, .val (.long q1), .second, .val (.int p2), .val (.int p3), .val (.long x195), .second, .val (.ref r197), .val (.ref r205), .val (.ref r219), .val (.int (1 : Int32))] [(.int (1 : Int32))])) _
    refine XS.istore X248.here hx rfl (hb hby at_165) rfl (l' := #[.val (.long q0), .second, .val (.long q1), .second, .val (.int p2), .val (.int p3), .val (.long x195), .second, .val (.ref r197), .val (.ref r205), .val (.ref r219), .val (.int (1 : Int32))]) rfl ?_
    show Steps p.tables e below (T248.setTop (mkF m 167 #[.val (.long q0), .second, .val (.long q1), .second, .val (.int p2), .val (.int p3), .val (.long x195), .second, .val (.ref r197), .val (.ref r205), .val (.ref r219), .val (.int (1 : Int32))] [])) _
    refine XS.iload X248.here hx rfl (hb hby at_167) rfl ?_
    show Steps p.tables e below (T248.setTop (mkF m 169 #[.val (.long q0), .second, .val (.long q1), .second, .val (.int p2), .val (.int p3), .val (.long x195), .second, .val (.ref r197), .val (.ref r205), .val (.ref r219), .val (.int (1 : Int32))] [(.int (1 : Int32))])) _
    exact retZ X248 hx Bd.returns (by decide) (hb hby at_169) hr
  ·
    show Q_rm0 Z q0 q1 p2 p3 h0 n0 _ T248.heap _
    rw [e248]
    exact ⟨rfl, N248⟩
set_option maxRecDepth 65536 in
set_option maxHeartbeats 40000000 in
theorem comes_1 {Post : Tables → Env → Array Value → State → Outcome → State → Prop} (hpost : ∀ tb e args s v u, (limb_1_1.after args s (.returned v) u = true ∧ limb_1_2.after args s (.returned v) u = true ∧ True) → FrameEnd s (.returned v) u (Jvm.fieldLocs frame_1_writes args s ++ Jvm.arrayLocs frame_1_arrays args s ++ Jvm.staticLocs frame_1_statics s) 16 128 → Post tb e args s (.returned v) u) :
    ArmFor flags0 classFile x code maxLocals ret World_1 tables_1 room_1 Calls_1 rest_1 Pre_1 Post := by
  intro l hfl _ _ p e ha hc hk s m args below hf hA hF happ hP
  obtain ⟨hcalls, hrest, hpre⟩ := hP
  obtain ⟨-, -, -, hnamed, -, -, -, hat⟩ := (Spec.applies_iff hf).mp happ
  obtain ⟨hg, hn⟩ := and_e (Cond.before_iff.mp (show (Jvm.Cond.and given_1 narrow_1).before args s = true from hpre))
  obtain ⟨g251, g252⟩ := and_e hg
  obtain ⟨g253, g254⟩ := and_e g252
  obtain ⟨g255, g256⟩ := and_e g254
  obtain ⟨g257, g258⟩ := and_e g256
  obtain ⟨w0, w1, w2, w3, rfl⟩ : ∃ w0 w1 w2 w3 : Value, args = #[w0, w1, w2, w3] := by
    have hs : args.size = 4 := by simpa [Cond.value, given_1] using g251
    obtain ⟨L⟩ := args
    match L, hs with
    | [w0, w1, w2, w3], _ => exact ⟨w0, w1, w2, w3, rfl⟩
  have hw := fun d (hd : d ∈ tables_1) => atoms_spec (ws := Jvm.Cond.code x code maxLocals ret :: tables_1) hat d (List.mem_cons_of_mem _ hd)
  have hfit : Fit s := fun {y c} hc i hi => by
    obtain ⟨ha, rfl⟩ := Array.getElem?_eq_some_iff.mp hc
    have q := List.all_eq_true.mp ((Array.all_eq_true_iff_forall_mem.mp hF) _ (Array.getElem_mem ha)) i (List.mem_range.mpr hi)
    simpa [Array.getElem?_eq_getElem hi] using q
  obtain ⟨i0, ei0⟩ := isL_v g253
  obtain rfl : w0 = (.long i0) := Option.some.inj ei0
  obtain ⟨i1, ei1⟩ := isL_v g255
  obtain rfl : w1 = (.long i1) := Option.some.inj ei1
  obtain ⟨i2, ei2⟩ := is_v g257
  obtain rfl : w2 = (.int i2) := Option.some.inj ei2
  obtain ⟨i3, ei3⟩ := is_v g258
  obtain rfl : w3 = (.int i3) := Option.some.inj ei3
  obtain ⟨n, o, h1, h2, h3, _, L, rfl, ⟨rfl, N⟩, hq⟩ := rm0 l s _ hw tables_1 i0 i1 i2 i3 s.heap s.heap.size (Nat.le_refl _) p e ha hc hk s m _ below hf ((Spec.applies_iff_loose hf).mp happ).1 ⟨rfl, State.Warmed39.refl s, rfl⟩ trivial
  refine ⟨n, _, h1, h2, h3, hpost _ _ _ _ _ _ ⟨Cond.after_iff.mpr rfl, Cond.after_iff.mpr (eq_i res_at (Term.int_eval (1)) rfl), trivial⟩ ⟨hq.1, hq.2.1, (hq.2.2.sift fun y hy => Or.inr (N y hy)).mono (by decide) (by decide)⟩⟩
theorem main_1_1 : Claimed_1_1 := comes_1 fun _ _ _ _ _ _ h hF => ⟨h.1, hF⟩
theorem main_1_2 : Claimed_1_2 := comes_1 fun _ _ _ _ _ _ h hF => ⟨h.2.1, hF⟩
end Jvm.Pilot.@@N@@
namespace Jvm.Pilot.@@N@@
open Jvm Jvm.ClassFile Sem Op Lib Jvm.Free Jvm.Stand Jvm.Pilot.@@N@@.Jvm.D
/-! MADE BY PROGRAM (witnessworld.py) out of the Statement's table words and the real class files: 9 classes; the members and pool entries that the words name. The judged class is class 1, her method 1. -/
namespace start1
open Jvm.ClassFile
def u (s : String) : CpInfo := .utf8 (stringToUtf16 s)
/-- a pool by its gaps: so many unusable entries, then the entry; so many at the end -/
def gap : Nat → List CpInfo → List CpInfo
  | 0, r => r
  | n + 1, r => .unusable :: gap n r
def poolList (es : List (Nat × CpInfo)) (last : Nat) : List CpInfo := es.foldr (fun e r => gap e.1 (e.2 :: r)) (gap last [])
def pool (es : List (Nat × CpInfo)) (last : Nat) : Array CpInfo := ⟨poolList es last⟩
def fileOf (pool : Array CpInfo) (this : Nat) (attrs : Array Attribute := #[]) (ms : Array MethodInfo := #[]) (fl : Nat := 33) (sup : Nat := 0) (ifs : Array Nat := #[]) (fds : Array FieldInfo := #[]) : ClassFile where
  minorVersion := 0
  majorVersion := 65
  constantPool := pool
  accessFlags := fl
  thisClass := this
  superClass := sup
  interfaces := ifs
  fields := fds
  methods := ms
  attributes := attrs
def plain (name : String) (sup : Option ClassId) : Class where
  name := name
  kind := .ordinary
  loader := none
  accessFlags := 33
  super := sup
  interfaces := #[]
  cf := none
  fields := #[]
  methods := #[]
  instanceTypes := #[]
  staticTypes := #[]
  resolved := #[]
  callSites := []
  init := .initialized
  statics := none
  mirror := none

def pool0 : Array CpInfo := pool [(5, u "<init>"), (0, u "()V"), (1, .class_ 10), (1, u "java/lang/Object")] 113

def k0c0 : Code := { maxStack := 0, maxLocals := 1, code := object_method_1_code, exceptionTable := #[], attributes := #[] }
def k0m0 : Method := { name := "<init>", desc := "()V", sig := { parameters := [], returnType := none }, accessFlags := 1, code := some k0c0 }
/-- java/lang/Object -/
def k0 : Class := { plain "java/lang/Object" none with
  accessFlags := 33
  interfaces := #[]
  cf := some (fileOf pool0 8 #[] #[{ accessFlags := 1, nameIndex := 5, descriptorIndex := 6, attributes := #[] }] 33 0 #[] #[])
  fields := #[]
  methods := #[k0m0]
  instanceTypes := #[]
  staticTypes := #[]
  resolved := Array.replicate 124 none
  statics := none }

def pool1 : Array CpInfo := pool [(2, .class_ 4), (1, u "java/lang/Object"), (0, u "<init>"), (0, u "()V"), (0, .methodref 8 9), (0, .class_ 10), (0, .nameAndType 11 12), (0, u "com/example/lean_limiter/leanlimiter/Decision"), (0, u "denied"), (0, u "(J)Lcom/example/lean_limiter/leanlimiter/Decision;"), (0, .methodref 8 14), (0, .nameAndType 15 16), (0, u "admitted"), (0, u "(I)Lcom/example/lean_limiter/leanlimiter/Decision;"), (0, .methodref 8 18), (0, .nameAndType 19 20), (0, u "allowed"), (0, u "()Z"), (0, .methodref 8 22), (0, .nameAndType 23 24), (0, u "remaining"), (0, u "()I"), (0, .methodref 8 26), (0, .nameAndType 27 28), (0, u "retryAfterMillis"), (0, u "()J"), (0, .methodref 8 30), (0, .nameAndType 31 20), (0, u "degraded"), (0, .methodref 8 33), (0, .nameAndType 34 35), (0, u "equals"), (0, u "(Ljava/lang/Object;)Z"), (0, .class_ 37), (0, u "com/example/lean_limiter/leanlimiter/DecisionDeniedPinLaw"), (2, u "law"), (0, u "(JJII)Z")] 3

def k1m0 : Method := { name := "<init>", desc := "()V", sig := { parameters := [], returnType := none }, accessFlags := 1, code := none }
def k1c1 : Code := { maxStack := 5, maxLocals := 12, code := code, exceptionTable := #[], attributes := #[] }
def k1m1 : Method := { name := "law", desc := "(JJII)Z", sig := { parameters := [.long, .long, .int, .int], returnType := some .boolean }, accessFlags := 9, code := some k1c1 }
/-- com/example/lean_limiter/leanlimiter/DecisionDeniedPinLaw -/
def k1 : Class := { plain "com/example/lean_limiter/leanlimiter/DecisionDeniedPinLaw" (some 0) with
  accessFlags := 49
  interfaces := #[]
  cf := some (fileOf pool1 36 #[] #[{ accessFlags := 1, nameIndex := 5, descriptorIndex := 6, attributes := #[] }, { accessFlags := 9, nameIndex := 40, descriptorIndex := 41, attributes := #[] }] 49 2 #[] #[])
  fields := #[]
  methods := #[k1m0, k1m1]
  instanceTypes := #[]
  staticTypes := #[]
  resolved := Array.replicate 45 none
  statics := none }

def pool2 : Array CpInfo := pool [(1, .methodref 2 3), (0, .class_ 4), (0, .nameAndType 5 6), (0, u "java/lang/Object"), (0, u "<init>"), (0, u "()V"), (0, .fieldref 8 9), (0, .class_ 10), (0, .nameAndType 11 12), (0, u "com/example/lean_limiter/leanlimiter/Decision"), (0, u "allowed"), (0, u "Z"), (0, .fieldref 8 14), (0, .nameAndType 15 16), (0, u "remaining"), (0, u "I"), (0, .fieldref 8 18), (0, .nameAndType 19 20), (0, u "retryAfterMillis"), (0, u "J"), (0, .fieldref 8 22), (0, .nameAndType 23 12), (0, u "degraded"), (0, .methodref 8 25), (0, .nameAndType 5 26), (0, u "(ZIJZ)V"), (23, u "admitted"), (0, u "(I)Lcom/example/lean_limiter/leanlimiter/Decision;"), (0, u "denied"), (0, u "(J)Lcom/example/lean_limiter/leanlimiter/Decision;"), (2, u "()Z"), (0, u "()I"), (0, u "()J"), (0, u "equals"), (0, u "(Ljava/lang/Object;)Z")] 26

def k2c0 : Code := { maxStack := 3, maxLocals := 6, code := prog_2_method_1_code, exceptionTable := #[], attributes := #[] }
def k2m0 : Method := { name := "<init>", desc := "(ZIJZ)V", sig := { parameters := [.boolean, .int, .long, .boolean], returnType := none }, accessFlags := 2, code := some k2c0 }
def k2c1 : Code := { maxStack := 7, maxLocals := 1, code := prog_2_method_2_code, exceptionTable := #[], attributes := #[] }
def k2m1 : Method := { name := "admitted", desc := "(I)Lcom/example/lean_limiter/leanlimiter/Decision;", sig := { parameters := [.int], returnType := some (.object "com/example/lean_limiter/leanlimiter/Decision") }, accessFlags := 8, code := some k2c1 }
def k2c2 : Code := { maxStack := 7, maxLocals := 2, code := prog_2_method_3_code, exceptionTable := #[], attributes := #[] }
def k2m2 : Method := { name := "denied", desc := "(J)Lcom/example/lean_limiter/leanlimiter/Decision;", sig := { parameters := [.long], returnType := some (.object "com/example/lean_limiter/leanlimiter/Decision") }, accessFlags := 8, code := some k2c2 }
def k2c3 : Code := { maxStack := 1, maxLocals := 1, code := prog_2_method_5_code, exceptionTable := #[], attributes := #[] }
def k2m3 : Method := { name := "allowed", desc := "()Z", sig := { parameters := [], returnType := some .boolean }, accessFlags := 1, code := some k2c3 }
def k2c4 : Code := { maxStack := 1, maxLocals := 1, code := prog_2_method_6_code, exceptionTable := #[], attributes := #[] }
def k2m4 : Method := { name := "remaining", desc := "()I", sig := { parameters := [], returnType := some .int }, accessFlags := 1, code := some k2c4 }
def k2c5 : Code := { maxStack := 2, maxLocals := 1, code := prog_2_method_7_code, exceptionTable := #[], attributes := #[] }
def k2m5 : Method := { name := "retryAfterMillis", desc := "()J", sig := { parameters := [], returnType := some .long }, accessFlags := 1, code := some k2c5 }
def k2c6 : Code := { maxStack := 1, maxLocals := 1, code := prog_2_method_8_code, exceptionTable := #[], attributes := #[] }
def k2m6 : Method := { name := "degraded", desc := "()Z", sig := { parameters := [], returnType := some .boolean }, accessFlags := 1, code := some k2c6 }
def k2c7 : Code := { maxStack := 4, maxLocals := 3, code := prog_2_method_9_code, exceptionTable := #[], attributes := #[] }
def k2m7 : Method := { name := "equals", desc := "(Ljava/lang/Object;)Z", sig := { parameters := [(.object "java/lang/Object")], returnType := some .boolean }, accessFlags := 1, code := some k2c7 }
/-- com/example/lean_limiter/leanlimiter/Decision -/
def k2 : Class := { plain "com/example/lean_limiter/leanlimiter/Decision" (some 0) with
  accessFlags := 49
  interfaces := #[]
  cf := some (fileOf pool2 8 #[] #[{ accessFlags := 2, nameIndex := 5, descriptorIndex := 26, attributes := #[] }, { accessFlags := 8, nameIndex := 50, descriptorIndex := 51, attributes := #[] }, { accessFlags := 8, nameIndex := 52, descriptorIndex := 53, attributes := #[] }, { accessFlags := 1, nameIndex := 11, descriptorIndex := 56, attributes := #[] }, { accessFlags := 1, nameIndex := 15, descriptorIndex := 57, attributes := #[] }, { accessFlags := 1, nameIndex := 19, descriptorIndex := 58, attributes := #[] }, { accessFlags := 1, nameIndex := 23, descriptorIndex := 56, attributes := #[] }, { accessFlags := 1, nameIndex := 59, descriptorIndex := 60, attributes := #[] }] 49 2 #[] #[{ accessFlags := 18, nameIndex := 11, descriptorIndex := 12, attributes := #[] }, { accessFlags := 18, nameIndex := 15, descriptorIndex := 16, attributes := #[] }, { accessFlags := 18, nameIndex := 19, descriptorIndex := 20, attributes := #[] }, { accessFlags := 18, nameIndex := 23, descriptorIndex := 12, attributes := #[] }])
  fields := #[{ name := "allowed", type := .boolean, accessFlags := 18, slot := 0, constantValue := 0 }, { name := "remaining", type := .int, accessFlags := 18, slot := 1, constantValue := 0 }, { name := "retryAfterMillis", type := .long, accessFlags := 18, slot := 2, constantValue := 0 }, { name := "degraded", type := .boolean, accessFlags := 18, slot := 3, constantValue := 0 }]
  methods := #[k2m0, k2m1, k2m2, k2m3, k2m4, k2m5, k2m6, k2m7]
  instanceTypes := #[.boolean, .int, .long, .boolean]
  staticTypes := #[]
  resolved := Array.replicate 87 none
  statics := none }

def pool3 : Array CpInfo := pool [(1, u "java/lang/Cloneable"), (0, .class_ 1), (0, u "java/lang/Object"), (0, .class_ 3)] 3

/-- java/lang/Cloneable -/
def k3 : Class := { plain "java/lang/Cloneable" (some 0) with
  accessFlags := 1537
  interfaces := #[]
  cf := some (fileOf pool3 2 #[] #[] 1537 4 #[] #[])
  fields := #[]
  methods := #[]
  instanceTypes := #[]
  staticTypes := #[]
  resolved := Array.replicate 8 none
  statics := none }

def pool4 : Array CpInfo := pool [(1, u "java/io/Serializable"), (0, .class_ 1), (0, u "java/lang/Object"), (0, .class_ 3)] 3

/-- java/io/Serializable -/
def k4 : Class := { plain "java/io/Serializable" (some 0) with
  accessFlags := 1537
  interfaces := #[]
  cf := some (fileOf pool4 2 #[] #[] 1537 4 #[] #[])
  fields := #[]
  methods := #[]
  instanceTypes := #[]
  staticTypes := #[]
  resolved := Array.replicate 8 none
  statics := none }

/-- the primitive byte -/
def k5 : Class := { plain "byte" none with kind := .primitive 'B', accessFlags := 0x411 }
/-- [B -/
def k6 : Class := { plain "[B" (some 0) with kind := .array 5 .byte, interfaces := #[3, 4], accessFlags := 1041 }

/-- the primitive int -/
def k7 : Class := { plain "int" none with kind := .primitive 'I', accessFlags := 0x411 }
/-- [I -/
def k8 : Class := { plain "[I" (some 0) with kind := .array 7 .int, interfaces := #[3, 4], accessFlags := 1041 }

def heap : Heap := #[]
def classes : Array Class := #[k0, k1, k2, k3, k4, k5, k6, k7, k8]
def interned : List (Array UInt16 × Addr) := []
def slotsUsed : Nat := 0
def theMethod : MethodId := ⟨1, 1⟩
def args0 : Array Value := #[.long 5, .long 6, .int 7, .int 8]
def aboutOver (below : List Frame) : State where
  vm := { classes := classes, interned := interned.toArray }
  heap := heap
  slotsUsed := slotsUsed
  threads := #[{ frames := .invoking theMethod args0 :: below }]
def below0 : List Frame := [.native { method := ⟨0, 0⟩, args := #[] }]
def about1 : State := aboutOver below0
def p0 : Program := .bare "" "" ""
def e0 : Env := launch0.env 0 0 0
theorem w_frames : about1.frames = Frame.invoking theMethod args0 :: below0 := rfl
set_option maxRecDepth 65536 in
theorem w_args : argsFit about1.vm theMethod args0 = true := by decide +kernel
set_option maxRecDepth 65536 in
theorem w_heap : heapFits about1 = true := by decide +kernel
set_option maxRecDepth 65536 in
theorem w_runnable : about1.curStatus? = some .runnable := by decide +kernel
set_option maxRecDepth 65536 in
theorem w_alone : about1.alone = true := by decide +kernel
set_option maxRecDepth 65536 in
theorem w_named : about1.methodNamed? x = some theMethod := by decide +kernel
set_option maxRecDepth 65536 in
theorem w_hears : about1.hears theMethod below0 = true := by decide +kernel
set_option maxRecDepth 65536 in
theorem w_ripe : about1.ripe theMethod args0 below0 = true := by decide +kernel
theorem w_running : about1.status = .running := rfl
set_option maxRecDepth 65536 in
theorem w_room : about1.hasRoom e0.platform room_1 = true :=
  launch0.hasRoom_least _ room_1 (by decide +kernel) (by decide +kernel) (by decide +kernel) (by decide +kernel) (by decide +kernel) (by decide +kernel)
theorem allAtoms_all (ts : List Jvm.Cond) (a : Array Jvm.Value) (st : Jvm.State) : (allAtoms ts).before a st = ts.all (fun c => c.before a st) := by
  induction ts with
  | nil => rfl
  | cons c t ih =>
    show (Jvm.Cond.and c (allAtoms t)).before a st = _
    rw [Jvm.Cond.before_and, ih, List.all_cons]
def words1 : List Jvm.Cond := Jvm.Cond.code x code maxLocals ret :: tables_1
/-- a 'code' word, met by the world's own term for the bytes: nothing is compared byte by byte -/
theorem code_word {y : MethodName} {bytes : ByteArray} {mx : Nat} {rt : Option FieldType} {a : Array Value} {s : State} {m : MethodId} {meth : Method} {c : Code} (h1 : s.methodNamed? y = some m) (h2 : s.vm.method? m = some meth) (h3 : meth.code = some c) (h4 : c.code = bytes)
    (h5 : (c.maxLocals == mx && c.exceptionTable.isEmpty && decide (c.maxStack ≤ mostOperands) && decide (meth.sig.returnType = rt) && !meth.locks && decide (parseMethodDescriptor y.desc = some meth.sig)) = true) : (Jvm.Cond.code y bytes mx rt).before a s = true := by
  simp only [Bool.and_eq_true, beq_iff_eq, Bool.not_eq_true', decide_eq_true_eq] at h5
  obtain ⟨⟨⟨⟨⟨g1, g2⟩, g3⟩, g4⟩, g5⟩, g6⟩ := h5
  simp [Cond.before, Cond.holds, Cond.value, h1, h2, h3, h4, g1, g2, g3, g4, g5, g6]
def isCode : Jvm.Cond → Bool
  | .code _ _ _ _ => true
  | _ => false
theorem all_split {L : List Jvm.Cond} {P : Jvm.Cond → Bool} (h1 : L.all (fun c => isCode c || P c) = true) (h2 : ∀ c ∈ L.filter isCode, P c = true) : L.all P = true := by
  refine List.all_eq_true.mpr fun c hc => ?_
  have h := List.all_eq_true.mp h1 c hc
  rcases Bool.eq_false_or_eq_true (isCode c) with hi | hi
  · exact h2 c (List.mem_filter.mpr ⟨hc, hi⟩)
  · simpa [hi] using h
set_option maxRecDepth 65536 in
theorem w_c0 : (Jvm.Cond.code x code maxLocals ret).before args0 about1 = true := code_word (m := ⟨1, 1⟩) (meth := k1m1) (c := k1c1) (by decide +kernel) rfl rfl rfl (by decide +kernel)
set_option maxRecDepth 65536 in
theorem w_c1 : (Jvm.Cond.code ({ cls := "com/example/lean_limiter/leanlimiter/Decision", name := "denied", desc := "(J)Lcom/example/lean_limiter/leanlimiter/Decision;" } : Jvm.MethodName) prog_2_method_3_code (2 : Nat) (Option.some (Jvm.ClassFile.FieldType.object "com/example/lean_limiter/leanlimiter/Decision"))).before args0 about1 = true := code_word (m := ⟨2, 2⟩) (meth := k2m2) (c := k2c2) (by decide +kernel) rfl rfl rfl (by decide +kernel)
set_option maxRecDepth 65536 in
theorem w_c2 : (Jvm.Cond.code ({ cls := "com/example/lean_limiter/leanlimiter/Decision", name := "<init>", desc := "(ZIJZ)V" } : Jvm.MethodName) prog_2_method_1_code (6 : Nat) (Option.none : Option Jvm.ClassFile.FieldType)).before args0 about1 = true := code_word (m := ⟨2, 0⟩) (meth := k2m0) (c := k2c0) (by decide +kernel) rfl rfl rfl (by decide +kernel)
set_option maxRecDepth 65536 in
theorem w_c3 : (Jvm.Cond.code ({ cls := "java/lang/Object", name := "<init>", desc := "()V" } : Jvm.MethodName) object_method_1_code (1 : Nat) (Option.none : Option Jvm.ClassFile.FieldType)).before args0 about1 = true := code_word (m := ⟨0, 0⟩) (meth := k0m0) (c := k0c0) (by decide +kernel) rfl rfl rfl (by decide +kernel)
set_option maxRecDepth 65536 in
theorem w_c4 : (Jvm.Cond.code ({ cls := "com/example/lean_limiter/leanlimiter/Decision", name := "admitted", desc := "(I)Lcom/example/lean_limiter/leanlimiter/Decision;" } : Jvm.MethodName) prog_2_method_2_code (1 : Nat) (Option.some (Jvm.ClassFile.FieldType.object "com/example/lean_limiter/leanlimiter/Decision"))).before args0 about1 = true := code_word (m := ⟨2, 1⟩) (meth := k2m1) (c := k2c1) (by decide +kernel) rfl rfl rfl (by decide +kernel)
set_option maxRecDepth 65536 in
theorem w_c5 : (Jvm.Cond.code ({ cls := "com/example/lean_limiter/leanlimiter/Decision", name := "allowed", desc := "()Z" } : Jvm.MethodName) prog_2_method_5_code (1 : Nat) (Option.some Jvm.ClassFile.FieldType.boolean)).before args0 about1 = true := code_word (m := ⟨2, 3⟩) (meth := k2m3) (c := k2c3) (by decide +kernel) rfl rfl rfl (by decide +kernel)
set_option maxRecDepth 65536 in
theorem w_c6 : (Jvm.Cond.code ({ cls := "com/example/lean_limiter/leanlimiter/Decision", name := "remaining", desc := "()I" } : Jvm.MethodName) prog_2_method_6_code (1 : Nat) (Option.some Jvm.ClassFile.FieldType.int)).before args0 about1 = true := code_word (m := ⟨2, 4⟩) (meth := k2m4) (c := k2c4) (by decide +kernel) rfl rfl rfl (by decide +kernel)
set_option maxRecDepth 65536 in
theorem w_c7 : (Jvm.Cond.code ({ cls := "com/example/lean_limiter/leanlimiter/Decision", name := "retryAfterMillis", desc := "()J" } : Jvm.MethodName) prog_2_method_7_code (1 : Nat) (Option.some Jvm.ClassFile.FieldType.long)).before args0 about1 = true := code_word (m := ⟨2, 5⟩) (meth := k2m5) (c := k2c5) (by decide +kernel) rfl rfl rfl (by decide +kernel)
set_option maxRecDepth 65536 in
theorem w_c8 : (Jvm.Cond.code ({ cls := "com/example/lean_limiter/leanlimiter/Decision", name := "degraded", desc := "()Z" } : Jvm.MethodName) prog_2_method_8_code (1 : Nat) (Option.some Jvm.ClassFile.FieldType.boolean)).before args0 about1 = true := code_word (m := ⟨2, 6⟩) (meth := k2m6) (c := k2c6) (by decide +kernel) rfl rfl rfl (by decide +kernel)
set_option maxRecDepth 65536 in
theorem w_c9 : (Jvm.Cond.code ({ cls := "com/example/lean_limiter/leanlimiter/Decision", name := "equals", desc := "(Ljava/lang/Object;)Z" } : Jvm.MethodName) prog_2_method_9_code (3 : Nat) (Option.some Jvm.ClassFile.FieldType.boolean)).before args0 about1 = true := code_word (m := ⟨2, 7⟩) (meth := k2m7) (c := k2c7) (by decide +kernel) rfl rfl rfl (by decide +kernel)
def codes1 : List Jvm.Cond := [Jvm.Cond.code x code maxLocals ret, Jvm.Cond.code ({ cls := "com/example/lean_limiter/leanlimiter/Decision", name := "denied", desc := "(J)Lcom/example/lean_limiter/leanlimiter/Decision;" } : Jvm.MethodName) prog_2_method_3_code (2 : Nat) (Option.some (Jvm.ClassFile.FieldType.object "com/example/lean_limiter/leanlimiter/Decision")), Jvm.Cond.code ({ cls := "com/example/lean_limiter/leanlimiter/Decision", name := "<init>", desc := "(ZIJZ)V" } : Jvm.MethodName) prog_2_method_1_code (6 : Nat) (Option.none : Option Jvm.ClassFile.FieldType), Jvm.Cond.code ({ cls := "java/lang/Object", name := "<init>", desc := "()V" } : Jvm.MethodName) object_method_1_code (1 : Nat) (Option.none : Option Jvm.ClassFile.FieldType), Jvm.Cond.code ({ cls := "com/example/lean_limiter/leanlimiter/Decision", name := "admitted", desc := "(I)Lcom/example/lean_limiter/leanlimiter/Decision;" } : Jvm.MethodName) prog_2_method_2_code (1 : Nat) (Option.some (Jvm.ClassFile.FieldType.object "com/example/lean_limiter/leanlimiter/Decision")), Jvm.Cond.code ({ cls := "com/example/lean_limiter/leanlimiter/Decision", name := "allowed", desc := "()Z" } : Jvm.MethodName) prog_2_method_5_code (1 : Nat) (Option.some Jvm.ClassFile.FieldType.boolean), Jvm.Cond.code ({ cls := "com/example/lean_limiter/leanlimiter/Decision", name := "remaining", desc := "()I" } : Jvm.MethodName) prog_2_method_6_code (1 : Nat) (Option.some Jvm.ClassFile.FieldType.int), Jvm.Cond.code ({ cls := "com/example/lean_limiter/leanlimiter/Decision", name := "retryAfterMillis", desc := "()J" } : Jvm.MethodName) prog_2_method_7_code (1 : Nat) (Option.some Jvm.ClassFile.FieldType.long), Jvm.Cond.code ({ cls := "com/example/lean_limiter/leanlimiter/Decision", name := "degraded", desc := "()Z" } : Jvm.MethodName) prog_2_method_8_code (1 : Nat) (Option.some Jvm.ClassFile.FieldType.boolean), Jvm.Cond.code ({ cls := "com/example/lean_limiter/leanlimiter/Decision", name := "equals", desc := "(Ljava/lang/Object;)Z" } : Jvm.MethodName) prog_2_method_9_code (3 : Nat) (Option.some Jvm.ClassFile.FieldType.boolean)]
set_option maxRecDepth 65536 in
theorem codes_eq : words1.filter isCode = codes1 := rfl
theorem w_codes : ∀ c ∈ words1.filter isCode, c.before args0 about1 = true := by
  rw [codes_eq]
  intro c hc
  simp only [codes1, List.mem_cons, List.not_mem_nil, or_false] at hc
  rcases hc with rfl | rfl | rfl | rfl | rfl | rfl | rfl | rfl | rfl | rfl
  · exact w_c0
  · exact w_c1
  · exact w_c2
  · exact w_c3
  · exact w_c4
  · exact w_c5
  · exact w_c6
  · exact w_c7
  · exact w_c8
  · exact w_c9
set_option maxRecDepth 65536 in
theorem w_t1 : (words1.take 24).all (fun c => isCode c || c.before args0 about1) = true := by decide +kernel
set_option maxRecDepth 65536 in
theorem w_t2 : ((words1.drop 24).take 24).all (fun c => isCode c || c.before args0 about1) = true := by decide +kernel
set_option maxRecDepth 65536 in
theorem w_t3 : ((words1.drop 24).drop 24).all (fun c => isCode c || c.before args0 about1) = true := by decide +kernel
theorem w_tables : (allAtoms (Jvm.Cond.code x code maxLocals ret :: tables_1)).before args0 about1 = true := by
  rw [allAtoms_all]
  show words1.all (fun c => c.before args0 about1) = true
  refine all_split ?_ w_codes
  rw [← List.take_append_drop 24 words1, List.all_append, w_t1, ← List.take_append_drop 24 (words1.drop 24), List.all_append, w_t2, w_t3]
  rfl
set_option maxRecDepth 65536 in
theorem w_case : (Jvm.Cond.and given_1 narrow_1).before args0 about1 = true := by decide +kernel
theorem w_applies : (headSpec (Jvm.Cond.code x code maxLocals ret :: tables_1) room_1).applies x e0.platform about1 = true :=
  (Spec.applies_iff w_frames).mpr ⟨w_running, w_runnable, w_alone, w_named, w_hears, w_ripe, w_room, w_tables⟩
theorem atStart : AtStart classFile x code maxLocals ret World_1 tables_1 room_1 Calls_1 rest_1 Pre_1 launch0 p0 e0 about1 theMethod args0 below0 :=
  ⟨lists_1, trivial, launch0.admits_env _ _ _, launch0.least_env, fairChoices_fair.cas, fairChoices_fair.clock, w_frames, w_args, w_heap, w_applies, trivial, trivial, w_case⟩
end start1
theorem witness_1 : WitnessClaimed_1 := ⟨start1.p0, start1.e0, start1.about1, start1.theMethod, start1.args0, start1.below0, start1.atStart⟩
end Jvm.Pilot.@@N@@
