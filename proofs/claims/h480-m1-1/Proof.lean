import JvmDerived
import JvmDerived.Pilot.@@N@@Statement
import JvmDerived.Pilot.@@N@@Code
set_option linter.unusedVariables false
set_option linter.unusedSimpArgs false
namespace Jvm.RoadKit
open Sem ClassFile Op Lib Jvm.Stand Jvm.Free Jvm.LawKit
section New
variable {p : Program} {l : Launch} {e : Env} {R : Room} {s : State} {m : MethodId} {args : Array Value} {below : List Frame} {meth : Method} {c : Code} {T : State} {locs : List Loc} {cells slots : Nat}
theorem retI (X : Stand p l e R s m args below meth c T locs cells slots) (hx : p.tables.exec = Jvm.exec) {pc : Nat} {Ls : Array Slot} {z : Int32} {rest : List Value} (hret : meth.sig.returnType = some .int) (hd : decode c.code pc = .ok (.ireturn, 1)) {fs : List Frame}
    (hl : ∀ (f : JFrame) (acts : List Action), f.method = m → f.locked = none → f.entered = [] → (doReturn e (T.setTop f) acts (some (.int z))).1 = T.setFrames fs) : Steps p.tables e below (T.setTop (mkF m pc Ls (.int z :: rest))) (T.setFrames fs) := by
  have hm' : T.vm.method? m = some meth := X.method'
  have hn : narrow .int (.int z) = .int z := rfl
  show Steps p.tables e below (T.setTop { method := m, pc := pc, locals := Ls, stack := _ :: rest, locked := none }) _
  jvm_step X.here [X.here.top, hx, hd, hm', hret, hn]
  first | (intro acts; rw [hl _ acts rfl rfl rfl]) | rw [hl _ _ rfl rfl rfl]
  exact Steps.refl _
theorem retZ (X : Stand p l e R s m args below meth c T locs cells slots) (hx : p.tables.exec = Jvm.exec) {pc : Nat} {Ls : Array Slot} {z : Int32} {rest : List Value} (hret : meth.sig.returnType = some .boolean) (hz : z &&& 1 = z) (hd : decode c.code pc = .ok (.ireturn, 1)) {fs : List Frame}
    (hl : ∀ (f : JFrame) (acts : List Action), f.method = m → f.locked = none → f.entered = [] → (doReturn e (T.setTop f) acts (some (.int z))).1 = T.setFrames fs) : Steps p.tables e below (T.setTop (mkF m pc Ls (.int z :: rest))) (T.setFrames fs) := by
  have hn : narrow .boolean (.int z) = .int z := by show Value.int (z &&& 1) = _; rw [hz]
  exact retOut X hx hret hn (Or.inl ⟨rfl, Or.inr (Or.inl rfl), z, rfl⟩) hd hl
theorem retJ (X : Stand p l e R s m args below meth c T locs cells slots) (hx : p.tables.exec = Jvm.exec) {pc : Nat} {Ls : Array Slot} {z : Int64} {rest : List Value} (hret : meth.sig.returnType = some .long) (hd : decode c.code pc = .ok (.lreturn, 1)) {fs : List Frame}
    (hl : ∀ (f : JFrame) (acts : List Action), f.method = m → f.locked = none → f.entered = [] → (doReturn e (T.setTop f) acts (some (.long z))).1 = T.setFrames fs) : Steps p.tables e below (T.setTop (mkF m pc Ls (.long z :: rest))) (T.setFrames fs) :=
  retOut X hx hret rfl (Or.inr (Or.inl ⟨rfl, rfl, z, rfl⟩)) hd hl
theorem retA (X : Stand p l e R s m args below meth c T locs cells slots) (hx : p.tables.exec = Jvm.exec) {pc : Nat} {Ls : Array Slot} {a : Addr} {rest : List Value} {t : FieldType} (ht : t.isReference = true) (hn : narrow t (.ref a) = .ref a) (hret : meth.sig.returnType = some t) (hd : decode c.code pc = .ok (.areturn, 1)) {fs : List Frame}
    (hl : ∀ (f : JFrame) (acts : List Action), f.method = m → f.locked = none → f.entered = [] → (doReturn e (T.setTop f) acts (some (.ref a))).1 = T.setFrames fs) : Steps p.tables e below (T.setTop (mkF m pc Ls (.ref a :: rest))) (T.setFrames fs) :=
  retOut X hx hret hn (Or.inr (Or.inr (Or.inr (Or.inr ⟨rfl, ht, rfl⟩)))) hd hl
theorem newPk {Z : State} {a0 : Array Value} {h : Heap} (X : Stand p l e R s m args below meth c T locs cells slots) (hx : p.tables.exec = Jvm.exec) (hZ : Z.Warmed39 s.vm) {aty : ArrayType} (w : (Cond.arrayClass (newarray.typeOf aty)).before a0 Z = true) (eT : T.heap = h) {g : JFrame} (hg : g.method = m)
    (hd : decode c.code g.pc = .ok (.newarray aty, 2)) {n : Int32} {rest : List Value} (hs : g.stack = .int n :: rest) (hn : ¬ n < 0) {cap : Nat} (hcap : n.toNatClampNeg ≤ cap) (hb : cap * 8 ≤ 536870912) (hc : cells + 1 ≤ R.cells) (hl : slots + cap ≤ R.slots) :
    ∃ T' h' cA, Stand p l e R s m args below meth c T' locs (cells + 1) (slots + cap) ∧ T'.heap = h' ∧ Ext h h' ∧ Arr Z h' h.size (newA cA (newarray.typeOf aty) n) (newarray.typeOf aty) ∧ Z.vm.findClass ("[" ++ (newarray.typeOf aty).toString) = some cA ∧
      ∀ target, Steps p.tables e below (T'.setTop { g with pc := g.pc + 2, stack := .ref h.size :: rest }) target → Steps p.tables e below (T.setTop g) target := by
  have hw8 : componentBytes (newarray.typeOf aty) ≤ 8 := by cases aty <;> decide
  obtain ⟨cA, kA, comp, f1, f2, f3, X', st⟩ := X.newarrayPrim hx (mvA hZ w) hg hd hs hn (Nat.le_trans (Nat.mul_le_mul hcap hw8) hb) hc (by omega)
  subst eT
  have f0 : Z.vm.findClass ("[" ++ (newarray.typeOf aty).toString) = some cA := by rw [← hZ.alike.findClass]; exact f1
  obtain ⟨kZ, z1, -⟩ := Vm.findClass_spec f0
  obtain ⟨k', z2, z3⟩ := hZ.alike.2.2 _ _ z1
  have ek : kA = k' := Option.some.inj (f2.symm.trans z2)
  have hq : kZ.kind = .array comp (newarray.typeOf aty) := by rw [← f3, ek, z3]
  refine ⟨_, _, cA, X'.more (Nat.le_refl _) (by omega), rfl, ext_of fun a ha => ?_, ⟨?_, ⟨fun q => by simp [newA], kZ, z1, comp, hq⟩, by simp [newA]⟩, f0, st⟩
  · show (T.heap.push _)[a]? = _
    rw [Array.getElem?_push_lt ha, Array.getElem?_eq_getElem ha]
  · show (T.heap.push _)[T.heap.size]? = _
    simp [newA]
theorem selPriv {s : State} {args : Array Value} {C : String} {y y0 : MethodName} (hsel : (Cond.selects C y0 y0).before args s = true) (hcls : y0.cls = y.cls) (hpriv : s.PrivateAt y) (hinst : (Cond.instanceMethod y).before args s = true) (hy : y.cls ≠ "java/lang/invoke/MethodHandle" ∧ y.cls ≠ "java/lang/invoke/VarHandle") : (Cond.selects y.cls y y).before args s = true := by
  obtain ⟨mk, meth, hnamed, hm, -, -⟩ := Cond.instanceMethod_spec hinst
  have hc := findClass_of_methodNamed hnamed
  obtain ⟨_, _, m2, -, -, q3, -, kP, hkP, hkPi⟩ := Cond.selects_spec hsel
  have h0 := findClass_of_methodNamed q3
  rw [hcls] at h0
  have e : mk.cls = m2.cls := Option.some.inj (hc.symm.trans h0)
  exact selects_self_of_private hc (by rw [e]; exact hkP) hkPi hpriv hinst hy
theorem insA {Z : State} {h : Heap} {a : Addr} {k : ClassId} {ty : FieldType} {z : Int32} {vs : List Value} {d : Value} {K : String} (F : Arv Z h a k ty z vs d) (hk : Z.vm.findClass K = some k) : Ins Z h a K true := by
  obtain ⟨c, A, q, -⟩ := F
  exact ⟨c, k, A.1, hk, by simp [A.plain, q, Vm.assignable_self]⟩
theorem lswHit {g : JFrame} {target : State} (X : Stand p l e R s m args below meth c T locs cells slots) (hx : p.tables.exec = Jvm.exec) (hg : g.method = m) {pc0 pc' : Nat} (hpc : g.pc = pc0) {k : Int32} {rest : List Value} {dflt : Int} {pairs : Array (Int × Int)} {len : Nat}
    (hd : decode c.code g.pc = .ok (.lookupswitch dflt pairs, len)) (hs : g.stack = .int k :: rest) (hsort : (pairs.toList.zip (pairs.toList.drop 1)).all (fun (a, next) => a.1 < next.1) = true) {a off : Int} (hf : pairs.find? (·.1 == k.toInt) = some (a, off)) (ho : 0 ≤ (pc0 : Int) + off) (hp : ((pc0 : Int) + off).toNat = pc')
    (hr : Steps p.tables e below (T.setTop { g with pc := pc', stack := rest }) target) : Steps p.tables e below (T.setTop g) target := by
  subst hpc hp
  exact X.lookupswitchHit hx hg hs hd hsort hf ho _ hr
theorem lswMiss {g : JFrame} {target : State} (X : Stand p l e R s m args below meth c T locs cells slots) (hx : p.tables.exec = Jvm.exec) (hg : g.method = m) {pc0 pc' : Nat} (hpc : g.pc = pc0) {k : Int32} {rest : List Value} {dflt : Int} {pairs : Array (Int × Int)} {len : Nat}
    (hd : decode c.code g.pc = .ok (.lookupswitch dflt pairs, len)) (hs : g.stack = .int k :: rest) (hsort : (pairs.toList.zip (pairs.toList.drop 1)).all (fun (a, next) => a.1 < next.1) = true) (hf : pairs.find? (·.1 == k.toInt) = none) (ho : 0 ≤ (pc0 : Int) + dflt) (hp : ((pc0 : Int) + dflt).toNat = pc')
    (hr : Steps p.tables e below (T.setTop { g with pc := pc', stack := rest }) target) : Steps p.tables e below (T.setTop g) target := by
  subst hpc hp
  exact X.lookupswitchMiss hx hg hs hd hsort hf ho _ hr
end New
end Jvm.RoadKit
namespace Jvm.Pilot.@@N@@
open Jvm Jvm.ClassFile Sem Op Lib Jvm.Free Jvm.Stand Jvm.LawKit Jvm.RoadKit Bundle Jvm.Pilot.@@N@@.Jvm.D
theorem d1_0 : decode prog_71_method_24_code 0 = .ok (.iload_n 0, 1) := by decide +kernel
theorem d1_1 : decode prog_71_method_24_code 1 = .ok (.bipush 48, 2) := by decide +kernel
theorem d1_3 : decode prog_71_method_24_code 3 = .ok (.if_icmp .lt 9, 3) := by decide +kernel
theorem d1_12 : decode prog_71_method_24_code 12 = .ok (.iload_n 0, 1) := by decide +kernel
theorem d1_13 : decode prog_71_method_24_code 13 = .ok (.bipush 97, 2) := by decide +kernel
theorem d1_15 : decode prog_71_method_24_code 15 = .ok (.if_icmp .lt 9, 3) := by decide +kernel
theorem d1_24 : decode prog_71_method_24_code 24 = .ok (.iload_n 0, 1) := by decide +kernel
theorem d1_25 : decode prog_71_method_24_code 25 = .ok (.bipush 65, 2) := by decide +kernel
theorem d1_27 : decode prog_71_method_24_code 27 = .ok (.if_icmp .lt 13, 3) := by decide +kernel
theorem d1_40 : decode prog_71_method_24_code 40 = .ok (.iconst 0, 1) := by decide +kernel
theorem d1_41 : decode prog_71_method_24_code 41 = .ok (.ireturn, 1) := by decide +kernel
theorem d1_30 : decode prog_71_method_24_code 30 = .ok (.iload_n 0, 1) := by decide +kernel
theorem d1_31 : decode prog_71_method_24_code 31 = .ok (.bipush 70, 2) := by decide +kernel
theorem d1_33 : decode prog_71_method_24_code 33 = .ok (.if_icmp .gt 7, 3) := by decide +kernel
theorem d1_36 : decode prog_71_method_24_code 36 = .ok (.iconst 1, 1) := by decide +kernel
theorem d1_37 : decode prog_71_method_24_code 37 = .ok (.goto 4, 3) := by decide +kernel
theorem d1_18 : decode prog_71_method_24_code 18 = .ok (.iload_n 0, 1) := by decide +kernel
theorem d1_19 : decode prog_71_method_24_code 19 = .ok (.bipush 102, 2) := by decide +kernel
theorem d1_21 : decode prog_71_method_24_code 21 = .ok (.if_icmp .le 15, 3) := by decide +kernel
theorem d1_6 : decode prog_71_method_24_code 6 = .ok (.iload_n 0, 1) := by decide +kernel
theorem d1_7 : decode prog_71_method_24_code 7 = .ok (.bipush 57, 2) := by decide +kernel
theorem d1_9 : decode prog_71_method_24_code 9 = .ok (.if_icmp .le 27, 3) := by decide +kernel
theorem pn_0 : plainName "com/example/reliquary/reliquary/RequestHead" = true := by first | (simp [plainName, overriddenIn]; done) | decide +kernel
theorem ef_rm1 (m : MethodId) (p0 : Int32) : entryFrame m #[(.int p0)] 1 = mkF m 0 #[.val (.int p0)] [] := by first | (simp [entryFrame, mkF, argsToLocals, Value.category]; done) | rfl
def f_hex (p0 : Int32) : Int32 := (if p0 < (48 : Int32) then (if p0 < (97 : Int32) then (if p0 < (65 : Int32) then (0 : Int32) else (if (70 : Int32) < p0 then (0 : Int32) else (1 : Int32))) else (if (102 : Int32) < p0 then (if p0 < (65 : Int32) then (0 : Int32) else (if (70 : Int32) < p0 then (0 : Int32) else (1 : Int32))) else (1 : Int32))) else (if (57 : Int32) < p0 then (if p0 < (97 : Int32) then (if p0 < (65 : Int32) then (0 : Int32) else (if (70 : Int32) < p0 then (0 : Int32) else (1 : Int32))) else (if (102 : Int32) < p0 then (if p0 < (65 : Int32) then (0 : Int32) else (if (70 : Int32) < p0 then (0 : Int32) else (1 : Int32))) else (1 : Int32))) else (1 : Int32)))
def Q_rm1 (Z : State) (p0 : Int32) (h0 : Heap) (n0 : Nat) (v : Option Value) (h : Heap) (L : List Loc) : Prop := v = some (.int (f_hex p0)) ∧ Fr n0 L ∧ h = h0
set_option maxRecDepth 65536 in
set_option maxHeartbeats 40000000 in
theorem rm1 (l : Launch) (Z : State) (aw : Array Value) (hw : ∀ d ∈ tables_1, d.before aw Z = true) (ws : List Jvm.Cond) (p0 : Int32) (h0 : Heap) (n0 : Nat) (Z0 : n0 ≤ h0.size) :
    MetFree l (⟨"com/example/reliquary/reliquary/RequestHead", "isHexDigit", "(C)Z"⟩ : MethodName) (head1 (Jvm.Cond.code (⟨"com/example/reliquary/reliquary/RequestHead", "isHexDigit", "(C)Z"⟩ : MethodName) prog_71_method_24_code 1 (some .boolean) :: ws) ({ frames := 0, cells := 0, slots := 0, locals := 0 } : Room)) (fun a U => a = #[(.int p0)] ∧ Z.Warmed39 U.vm ∧ U.heap = h0) (fun _ _ _ _ _ => True) (fun _ U o U' => ∃ v L, o = .returned v ∧ Q_rm1 Z p0 h0 n0 v U'.heap L ∧ FrameEnd U o U' L ({ frames := 0, cells := 0, slots := 0, locals := 0 } : Room).cells ({ frames := 0, cells := 0, slots := 0, locals := 0 } : Room).slots) := by
  refine MetFree.of_bodySF (plainFor_of_name pn_0) hisR ?_
  intro p e s m args below meth c s₁ Bd hml0 hP hK
  obtain ⟨rfl, hZ, hh⟩ := hP
  have hx := Bd.exec
  have hby := Bd.bytes
  have hml : c.maxLocals = 1 := hml0
  have hown : s.vm.findClass "com/example/reliquary/reliquary/RequestHead" = some m.cls := findClass_of_methodNamed Bd.named
  have hnm := (name_of_methodNamed Bd.named Bd.method).1
  have X0 : Stand p l e ({ frames := 0, cells := 0, slots := 0, locals := 0 } : Room) s m #[(.int p0)] below meth c s₁ [] 0 0 := Stand.of_body Bd
  have e0 : s₁.heap = h0 := by rw [← hh, Bd.state]; rfl
  have N0 := Fr.nil n0
  have pre0 : ∀ t, Steps p.tables e below (s₁.setTop (mkF m 0 #[.val (.int p0)] [])) t → Steps p.tables e below (s₁.setTop (entryFrame m #[(.int p0)] 1)) t := fun t k => castTop (ef_rm1 m p0) k
  have pre101 : ∀ t, Steps p.tables e below (s₁.setTop (mkF m 3 #[.val (.int p0)] [(.int (48 : Int32)), (.int p0)])) t → Steps p.tables e below (s₁.setTop (entryFrame m #[(.int p0)] 1)) t := fun t k => by
    refine pre0 t ?_
    show Steps p.tables e below (s₁.setTop (mkF m 0 #[.val (.int p0)] [])) _
    refine XS.iloadN X0.here hx rfl (hb hby d1_0) rfl ?_
    show Steps p.tables e below (s₁.setTop (mkF m 1 #[.val (.int p0)] [(.int p0)])) _
    refine XS.bipush X0.here hx rfl (hb hby d1_1) ?_
    exact k
  by_cases c102 : p0 < (48 : Int32)
  ·
    have pre103 : ∀ t, Steps p.tables e below (s₁.setTop (mkF m 15 #[.val (.int p0)] [(.int (97 : Int32)), (.int p0)])) t → Steps p.tables e below (s₁.setTop (entryFrame m #[(.int p0)] 1)) t := fun t k => by
      refine pre101 t ?_
      show Steps p.tables e below (s₁.setTop (mkF m 3 #[.val (.int p0)] [(.int (48 : Int32)), (.int p0)])) _
      refine XS.icmpYes X0.here hx rfl (pc0 := 3) (pc' := 12) rfl (hb hby d1_3) rfl (tlt c102).1 (by decide) (by decide) ?_
      show Steps p.tables e below (s₁.setTop (mkF m 12 #[.val (.int p0)] [])) _
      refine XS.iloadN X0.here hx rfl (hb hby d1_12) rfl ?_
      show Steps p.tables e below (s₁.setTop (mkF m 13 #[.val (.int p0)] [(.int p0)])) _
      refine XS.bipush X0.here hx rfl (hb hby d1_13) ?_
      exact k
    by_cases c104 : p0 < (97 : Int32)
    ·
      have pre105 : ∀ t, Steps p.tables e below (s₁.setTop (mkF m 27 #[.val (.int p0)] [(.int (65 : Int32)), (.int p0)])) t → Steps p.tables e below (s₁.setTop (entryFrame m #[(.int p0)] 1)) t := fun t k => by
        refine pre103 t ?_
        show Steps p.tables e below (s₁.setTop (mkF m 15 #[.val (.int p0)] [(.int (97 : Int32)), (.int p0)])) _
        refine XS.icmpYes X0.here hx rfl (pc0 := 15) (pc' := 24) rfl (hb hby d1_15) rfl (tlt c104).1 (by decide) (by decide) ?_
        show Steps p.tables e below (s₁.setTop (mkF m 24 #[.val (.int p0)] [])) _
        refine XS.iloadN X0.here hx rfl (hb hby d1_24) rfl ?_
        show Steps p.tables e below (s₁.setTop (mkF m 25 #[.val (.int p0)] [(.int p0)])) _
        refine XS.bipush X0.here hx rfl (hb hby d1_25) ?_
        exact k
      by_cases c106 : p0 < (65 : Int32)
      ·
        obtain ⟨fs, hr, hrun, hended, hW, hsame⟩ := X0.leave (v := some (.int (0 : Int32))) (fun h => by rw [Bd.returns] at h; cases h)
        refine ⟨_, _, pre105 _ ?_, hrun, hended, _, _, rfl, ?_, ⟨_, rfl⟩, hW, hsame.mono (by decide) (by decide)⟩
        ·
          show Steps p.tables e below (s₁.setTop (mkF m 27 #[.val (.int p0)] [(.int (65 : Int32)), (.int p0)])) _
          refine XS.icmpYes X0.here hx rfl (pc0 := 27) (pc' := 40) rfl (hb hby d1_27) rfl (tlt c106).1 (by decide) (by decide) ?_
          show Steps p.tables e below (s₁.setTop (mkF m 40 #[.val (.int p0)] [])) _
          refine XS.iconst X0.here hx rfl (hb hby d1_40) ?_
          show Steps p.tables e below (s₁.setTop (mkF m 41 #[.val (.int p0)] [(.int (0 : Int32))])) _
          exact retZ X0 hx Bd.returns (by decide) (hb hby d1_41) hr
        ·
          show Q_rm1 Z p0 h0 n0 _ s₁.heap _
          rw [e0]
          exact ⟨by simp only [f_hex, if_pos c102, if_pos c104, if_pos c106], N0, rfl⟩
      ·
        have pre107 : ∀ t, Steps p.tables e below (s₁.setTop (mkF m 33 #[.val (.int p0)] [(.int (70 : Int32)), (.int p0)])) t → Steps p.tables e below (s₁.setTop (entryFrame m #[(.int p0)] 1)) t := fun t k => by
          refine pre105 t ?_
          show Steps p.tables e below (s₁.setTop (mkF m 27 #[.val (.int p0)] [(.int (65 : Int32)), (.int p0)])) _
          refine XS.icmpNo X0.here hx rfl (hb hby d1_27) rfl (flt c106).1 ?_
          show Steps p.tables e below (s₁.setTop (mkF m 30 #[.val (.int p0)] [])) _
          refine XS.iloadN X0.here hx rfl (hb hby d1_30) rfl ?_
          show Steps p.tables e below (s₁.setTop (mkF m 31 #[.val (.int p0)] [(.int p0)])) _
          refine XS.bipush X0.here hx rfl (hb hby d1_31) ?_
          exact k
        by_cases c108 : (70 : Int32) < p0
        ·
          obtain ⟨fs, hr, hrun, hended, hW, hsame⟩ := X0.leave (v := some (.int (0 : Int32))) (fun h => by rw [Bd.returns] at h; cases h)
          refine ⟨_, _, pre107 _ ?_, hrun, hended, _, _, rfl, ?_, ⟨_, rfl⟩, hW, hsame.mono (by decide) (by decide)⟩
          ·
            show Steps p.tables e below (s₁.setTop (mkF m 33 #[.val (.int p0)] [(.int (70 : Int32)), (.int p0)])) _
            refine XS.icmpYes X0.here hx rfl (pc0 := 33) (pc' := 40) rfl (hb hby d1_33) rfl (tlt c108).2.2.1 (by decide) (by decide) ?_
            show Steps p.tables e below (s₁.setTop (mkF m 40 #[.val (.int p0)] [])) _
            refine XS.iconst X0.here hx rfl (hb hby d1_40) ?_
            show Steps p.tables e below (s₁.setTop (mkF m 41 #[.val (.int p0)] [(.int (0 : Int32))])) _
            exact retZ X0 hx Bd.returns (by decide) (hb hby d1_41) hr
          ·
            show Q_rm1 Z p0 h0 n0 _ s₁.heap _
            rw [e0]
            exact ⟨by simp only [f_hex, if_pos c102, if_pos c104, if_neg c106, if_pos c108], N0, rfl⟩
        ·
          obtain ⟨fs, hr, hrun, hended, hW, hsame⟩ := X0.leave (v := some (.int (1 : Int32))) (fun h => by rw [Bd.returns] at h; cases h)
          refine ⟨_, _, pre107 _ ?_, hrun, hended, _, _, rfl, ?_, ⟨_, rfl⟩, hW, hsame.mono (by decide) (by decide)⟩
          ·
            show Steps p.tables e below (s₁.setTop (mkF m 33 #[.val (.int p0)] [(.int (70 : Int32)), (.int p0)])) _
            refine XS.icmpNo X0.here hx rfl (hb hby d1_33) rfl (flt c108).2.2.1 ?_
            show Steps p.tables e below (s₁.setTop (mkF m 36 #[.val (.int p0)] [])) _
            refine XS.iconst X0.here hx rfl (hb hby d1_36) ?_
            show Steps p.tables e below (s₁.setTop (mkF m 37 #[.val (.int p0)] [(.int (1 : Int32))])) _
            refine XS.goto X0.here hx rfl (pc0 := 37) (pc' := 41) rfl (hb hby d1_37) (by decide) (by decide) ?_
            show Steps p.tables e below (s₁.setTop (mkF m 41 #[.val (.int p0)] [(.int (1 : Int32))])) _
            exact retZ X0 hx Bd.returns (by decide) (hb hby d1_41) hr
          ·
            show Q_rm1 Z p0 h0 n0 _ s₁.heap _
            rw [e0]
            exact ⟨by simp only [f_hex, if_pos c102, if_pos c104, if_neg c106, if_neg c108], N0, rfl⟩
    ·
      have pre109 : ∀ t, Steps p.tables e below (s₁.setTop (mkF m 21 #[.val (.int p0)] [(.int (102 : Int32)), (.int p0)])) t → Steps p.tables e below (s₁.setTop (entryFrame m #[(.int p0)] 1)) t := fun t k => by
        refine pre103 t ?_
        show Steps p.tables e below (s₁.setTop (mkF m 15 #[.val (.int p0)] [(.int (97 : Int32)), (.int p0)])) _
        refine XS.icmpNo X0.here hx rfl (hb hby d1_15) rfl (flt c104).1 ?_
        show Steps p.tables e below (s₁.setTop (mkF m 18 #[.val (.int p0)] [])) _
        refine XS.iloadN X0.here hx rfl (hb hby d1_18) rfl ?_
        show Steps p.tables e below (s₁.setTop (mkF m 19 #[.val (.int p0)] [(.int p0)])) _
        refine XS.bipush X0.here hx rfl (hb hby d1_19) ?_
        exact k
      by_cases c110 : (102 : Int32) < p0
      ·
        have pre111 : ∀ t, Steps p.tables e below (s₁.setTop (mkF m 27 #[.val (.int p0)] [(.int (65 : Int32)), (.int p0)])) t → Steps p.tables e below (s₁.setTop (entryFrame m #[(.int p0)] 1)) t := fun t k => by
          refine pre109 t ?_
          show Steps p.tables e below (s₁.setTop (mkF m 21 #[.val (.int p0)] [(.int (102 : Int32)), (.int p0)])) _
          refine XS.icmpNo X0.here hx rfl (hb hby d1_21) rfl (tlt c110).2.2.2 ?_
          show Steps p.tables e below (s₁.setTop (mkF m 24 #[.val (.int p0)] [])) _
          refine XS.iloadN X0.here hx rfl (hb hby d1_24) rfl ?_
          show Steps p.tables e below (s₁.setTop (mkF m 25 #[.val (.int p0)] [(.int p0)])) _
          refine XS.bipush X0.here hx rfl (hb hby d1_25) ?_
          exact k
        by_cases c112 : p0 < (65 : Int32)
        ·
          obtain ⟨fs, hr, hrun, hended, hW, hsame⟩ := X0.leave (v := some (.int (0 : Int32))) (fun h => by rw [Bd.returns] at h; cases h)
          refine ⟨_, _, pre111 _ ?_, hrun, hended, _, _, rfl, ?_, ⟨_, rfl⟩, hW, hsame.mono (by decide) (by decide)⟩
          ·
            show Steps p.tables e below (s₁.setTop (mkF m 27 #[.val (.int p0)] [(.int (65 : Int32)), (.int p0)])) _
            refine XS.icmpYes X0.here hx rfl (pc0 := 27) (pc' := 40) rfl (hb hby d1_27) rfl (tlt c112).1 (by decide) (by decide) ?_
            show Steps p.tables e below (s₁.setTop (mkF m 40 #[.val (.int p0)] [])) _
            refine XS.iconst X0.here hx rfl (hb hby d1_40) ?_
            show Steps p.tables e below (s₁.setTop (mkF m 41 #[.val (.int p0)] [(.int (0 : Int32))])) _
            exact retZ X0 hx Bd.returns (by decide) (hb hby d1_41) hr
          ·
            show Q_rm1 Z p0 h0 n0 _ s₁.heap _
            rw [e0]
            exact ⟨by simp only [f_hex, if_pos c102, if_neg c104, if_pos c110, if_pos c112], N0, rfl⟩
        ·
          have pre113 : ∀ t, Steps p.tables e below (s₁.setTop (mkF m 33 #[.val (.int p0)] [(.int (70 : Int32)), (.int p0)])) t → Steps p.tables e below (s₁.setTop (entryFrame m #[(.int p0)] 1)) t := fun t k => by
            refine pre111 t ?_
            show Steps p.tables e below (s₁.setTop (mkF m 27 #[.val (.int p0)] [(.int (65 : Int32)), (.int p0)])) _
            refine XS.icmpNo X0.here hx rfl (hb hby d1_27) rfl (flt c112).1 ?_
            show Steps p.tables e below (s₁.setTop (mkF m 30 #[.val (.int p0)] [])) _
            refine XS.iloadN X0.here hx rfl (hb hby d1_30) rfl ?_
            show Steps p.tables e below (s₁.setTop (mkF m 31 #[.val (.int p0)] [(.int p0)])) _
            refine XS.bipush X0.here hx rfl (hb hby d1_31) ?_
            exact k
          by_cases c114 : (70 : Int32) < p0
          ·
            obtain ⟨fs, hr, hrun, hended, hW, hsame⟩ := X0.leave (v := some (.int (0 : Int32))) (fun h => by rw [Bd.returns] at h; cases h)
            refine ⟨_, _, pre113 _ ?_, hrun, hended, _, _, rfl, ?_, ⟨_, rfl⟩, hW, hsame.mono (by decide) (by decide)⟩
            ·
              show Steps p.tables e below (s₁.setTop (mkF m 33 #[.val (.int p0)] [(.int (70 : Int32)), (.int p0)])) _
              refine XS.icmpYes X0.here hx rfl (pc0 := 33) (pc' := 40) rfl (hb hby d1_33) rfl (tlt c114).2.2.1 (by decide) (by decide) ?_
              show Steps p.tables e below (s₁.setTop (mkF m 40 #[.val (.int p0)] [])) _
              refine XS.iconst X0.here hx rfl (hb hby d1_40) ?_
              show Steps p.tables e below (s₁.setTop (mkF m 41 #[.val (.int p0)] [(.int (0 : Int32))])) _
              exact retZ X0 hx Bd.returns (by decide) (hb hby d1_41) hr
            ·
              show Q_rm1 Z p0 h0 n0 _ s₁.heap _
              rw [e0]
              exact ⟨by simp only [f_hex, if_pos c102, if_neg c104, if_pos c110, if_neg c112, if_pos c114], N0, rfl⟩
          ·
            obtain ⟨fs, hr, hrun, hended, hW, hsame⟩ := X0.leave (v := some (.int (1 : Int32))) (fun h => by rw [Bd.returns] at h; cases h)
            refine ⟨_, _, pre113 _ ?_, hrun, hended, _, _, rfl, ?_, ⟨_, rfl⟩, hW, hsame.mono (by decide) (by decide)⟩
            ·
              show Steps p.tables e below (s₁.setTop (mkF m 33 #[.val (.int p0)] [(.int (70 : Int32)), (.int p0)])) _
              refine XS.icmpNo X0.here hx rfl (hb hby d1_33) rfl (flt c114).2.2.1 ?_
              show Steps p.tables e below (s₁.setTop (mkF m 36 #[.val (.int p0)] [])) _
              refine XS.iconst X0.here hx rfl (hb hby d1_36) ?_
              show Steps p.tables e below (s₁.setTop (mkF m 37 #[.val (.int p0)] [(.int (1 : Int32))])) _
              refine XS.goto X0.here hx rfl (pc0 := 37) (pc' := 41) rfl (hb hby d1_37) (by decide) (by decide) ?_
              show Steps p.tables e below (s₁.setTop (mkF m 41 #[.val (.int p0)] [(.int (1 : Int32))])) _
              exact retZ X0 hx Bd.returns (by decide) (hb hby d1_41) hr
            ·
              show Q_rm1 Z p0 h0 n0 _ s₁.heap _
              rw [e0]
              exact ⟨by simp only [f_hex, if_pos c102, if_neg c104, if_pos c110, if_neg c112, if_neg c114], N0, rfl⟩
      ·
        obtain ⟨fs, hr, hrun, hended, hW, hsame⟩ := X0.leave (v := some (.int (1 : Int32))) (fun h => by rw [Bd.returns] at h; cases h)
        refine ⟨_, _, pre109 _ ?_, hrun, hended, _, _, rfl, ?_, ⟨_, rfl⟩, hW, hsame.mono (by decide) (by decide)⟩
        ·
          show Steps p.tables e below (s₁.setTop (mkF m 21 #[.val (.int p0)] [(.int (102 : Int32)), (.int p0)])) _
          refine XS.icmpYes X0.here hx rfl (pc0 := 21) (pc' := 36) rfl (hb hby d1_21) rfl (flt c110).2.2.2 (by decide) (by decide) ?_
          show Steps p.tables e below (s₁.setTop (mkF m 36 #[.val (.int p0)] [])) _
          refine XS.iconst X0.here hx rfl (hb hby d1_36) ?_
          show Steps p.tables e below (s₁.setTop (mkF m 37 #[.val (.int p0)] [(.int (1 : Int32))])) _
          refine XS.goto X0.here hx rfl (pc0 := 37) (pc' := 41) rfl (hb hby d1_37) (by decide) (by decide) ?_
          show Steps p.tables e below (s₁.setTop (mkF m 41 #[.val (.int p0)] [(.int (1 : Int32))])) _
          exact retZ X0 hx Bd.returns (by decide) (hb hby d1_41) hr
        ·
          show Q_rm1 Z p0 h0 n0 _ s₁.heap _
          rw [e0]
          exact ⟨by simp only [f_hex, if_pos c102, if_neg c104, if_neg c110], N0, rfl⟩
  ·
    have pre115 : ∀ t, Steps p.tables e below (s₁.setTop (mkF m 9 #[.val (.int p0)] [(.int (57 : Int32)), (.int p0)])) t → Steps p.tables e below (s₁.setTop (entryFrame m #[(.int p0)] 1)) t := fun t k => by
      refine pre101 t ?_
      show Steps p.tables e below (s₁.setTop (mkF m 3 #[.val (.int p0)] [(.int (48 : Int32)), (.int p0)])) _
      refine XS.icmpNo X0.here hx rfl (hb hby d1_3) rfl (flt c102).1 ?_
      show Steps p.tables e below (s₁.setTop (mkF m 6 #[.val (.int p0)] [])) _
      refine XS.iloadN X0.here hx rfl (hb hby d1_6) rfl ?_
      show Steps p.tables e below (s₁.setTop (mkF m 7 #[.val (.int p0)] [(.int p0)])) _
      refine XS.bipush X0.here hx rfl (hb hby d1_7) ?_
      exact k
    by_cases c116 : (57 : Int32) < p0
    ·
      have pre117 : ∀ t, Steps p.tables e below (s₁.setTop (mkF m 15 #[.val (.int p0)] [(.int (97 : Int32)), (.int p0)])) t → Steps p.tables e below (s₁.setTop (entryFrame m #[(.int p0)] 1)) t := fun t k => by
        refine pre115 t ?_
        show Steps p.tables e below (s₁.setTop (mkF m 9 #[.val (.int p0)] [(.int (57 : Int32)), (.int p0)])) _
        refine XS.icmpNo X0.here hx rfl (hb hby d1_9) rfl (tlt c116).2.2.2 ?_
        show Steps p.tables e below (s₁.setTop (mkF m 12 #[.val (.int p0)] [])) _
        refine XS.iloadN X0.here hx rfl (hb hby d1_12) rfl ?_
        show Steps p.tables e below (s₁.setTop (mkF m 13 #[.val (.int p0)] [(.int p0)])) _
        refine XS.bipush X0.here hx rfl (hb hby d1_13) ?_
        exact k
      by_cases c118 : p0 < (97 : Int32)
      ·
        have pre119 : ∀ t, Steps p.tables e below (s₁.setTop (mkF m 27 #[.val (.int p0)] [(.int (65 : Int32)), (.int p0)])) t → Steps p.tables e below (s₁.setTop (entryFrame m #[(.int p0)] 1)) t := fun t k => by
          refine pre117 t ?_
          show Steps p.tables e below (s₁.setTop (mkF m 15 #[.val (.int p0)] [(.int (97 : Int32)), (.int p0)])) _
          refine XS.icmpYes X0.here hx rfl (pc0 := 15) (pc' := 24) rfl (hb hby d1_15) rfl (tlt c118).1 (by decide) (by decide) ?_
          show Steps p.tables e below (s₁.setTop (mkF m 24 #[.val (.int p0)] [])) _
          refine XS.iloadN X0.here hx rfl (hb hby d1_24) rfl ?_
          show Steps p.tables e below (s₁.setTop (mkF m 25 #[.val (.int p0)] [(.int p0)])) _
          refine XS.bipush X0.here hx rfl (hb hby d1_25) ?_
          exact k
        by_cases c120 : p0 < (65 : Int32)
        ·
          obtain ⟨fs, hr, hrun, hended, hW, hsame⟩ := X0.leave (v := some (.int (0 : Int32))) (fun h => by rw [Bd.returns] at h; cases h)
          refine ⟨_, _, pre119 _ ?_, hrun, hended, _, _, rfl, ?_, ⟨_, rfl⟩, hW, hsame.mono (by decide) (by decide)⟩
          ·
            show Steps p.tables e below (s₁.setTop (mkF m 27 #[.val (.int p0)] [(.int (65 : Int32)), (.int p0)])) _
            refine XS.icmpYes X0.here hx rfl (pc0 := 27) (pc' := 40) rfl (hb hby d1_27) rfl (tlt c120).1 (by decide) (by decide) ?_
            show Steps p.tables e below (s₁.setTop (mkF m 40 #[.val (.int p0)] [])) _
            refine XS.iconst X0.here hx rfl (hb hby d1_40) ?_
            show Steps p.tables e below (s₁.setTop (mkF m 41 #[.val (.int p0)] [(.int (0 : Int32))])) _
            exact retZ X0 hx Bd.returns (by decide) (hb hby d1_41) hr
          ·
            show Q_rm1 Z p0 h0 n0 _ s₁.heap _
            rw [e0]
            exact ⟨by simp only [f_hex, if_neg c102, if_pos c116, if_pos c118, if_pos c120], N0, rfl⟩
        ·
          have pre121 : ∀ t, Steps p.tables e below (s₁.setTop (mkF m 33 #[.val (.int p0)] [(.int (70 : Int32)), (.int p0)])) t → Steps p.tables e below (s₁.setTop (entryFrame m #[(.int p0)] 1)) t := fun t k => by
            refine pre119 t ?_
            show Steps p.tables e below (s₁.setTop (mkF m 27 #[.val (.int p0)] [(.int (65 : Int32)), (.int p0)])) _
            refine XS.icmpNo X0.here hx rfl (hb hby d1_27) rfl (flt c120).1 ?_
            show Steps p.tables e below (s₁.setTop (mkF m 30 #[.val (.int p0)] [])) _
            refine XS.iloadN X0.here hx rfl (hb hby d1_30) rfl ?_
            show Steps p.tables e below (s₁.setTop (mkF m 31 #[.val (.int p0)] [(.int p0)])) _
            refine XS.bipush X0.here hx rfl (hb hby d1_31) ?_
            exact k
          by_cases c122 : (70 : Int32) < p0
          ·
            obtain ⟨fs, hr, hrun, hended, hW, hsame⟩ := X0.leave (v := some (.int (0 : Int32))) (fun h => by rw [Bd.returns] at h; cases h)
            refine ⟨_, _, pre121 _ ?_, hrun, hended, _, _, rfl, ?_, ⟨_, rfl⟩, hW, hsame.mono (by decide) (by decide)⟩
            ·
              show Steps p.tables e below (s₁.setTop (mkF m 33 #[.val (.int p0)] [(.int (70 : Int32)), (.int p0)])) _
              refine XS.icmpYes X0.here hx rfl (pc0 := 33) (pc' := 40) rfl (hb hby d1_33) rfl (tlt c122).2.2.1 (by decide) (by decide) ?_
              show Steps p.tables e below (s₁.setTop (mkF m 40 #[.val (.int p0)] [])) _
              refine XS.iconst X0.here hx rfl (hb hby d1_40) ?_
              show Steps p.tables e below (s₁.setTop (mkF m 41 #[.val (.int p0)] [(.int (0 : Int32))])) _
              exact retZ X0 hx Bd.returns (by decide) (hb hby d1_41) hr
            ·
              show Q_rm1 Z p0 h0 n0 _ s₁.heap _
              rw [e0]
              exact ⟨by simp only [f_hex, if_neg c102, if_pos c116, if_pos c118, if_neg c120, if_pos c122], N0, rfl⟩
          ·
            obtain ⟨fs, hr, hrun, hended, hW, hsame⟩ := X0.leave (v := some (.int (1 : Int32))) (fun h => by rw [Bd.returns] at h; cases h)
            refine ⟨_, _, pre121 _ ?_, hrun, hended, _, _, rfl, ?_, ⟨_, rfl⟩, hW, hsame.mono (by decide) (by decide)⟩
            ·
              show Steps p.tables e below (s₁.setTop (mkF m 33 #[.val (.int p0)] [(.int (70 : Int32)), (.int p0)])) _
              refine XS.icmpNo X0.here hx rfl (hb hby d1_33) rfl (flt c122).2.2.1 ?_
              show Steps p.tables e below (s₁.setTop (mkF m 36 #[.val (.int p0)] [])) _
              refine XS.iconst X0.here hx rfl (hb hby d1_36) ?_
              show Steps p.tables e below (s₁.setTop (mkF m 37 #[.val (.int p0)] [(.int (1 : Int32))])) _
              refine XS.goto X0.here hx rfl (pc0 := 37) (pc' := 41) rfl (hb hby d1_37) (by decide) (by decide) ?_
              show Steps p.tables e below (s₁.setTop (mkF m 41 #[.val (.int p0)] [(.int (1 : Int32))])) _
              exact retZ X0 hx Bd.returns (by decide) (hb hby d1_41) hr
            ·
              show Q_rm1 Z p0 h0 n0 _ s₁.heap _
              rw [e0]
              exact ⟨by simp only [f_hex, if_neg c102, if_pos c116, if_pos c118, if_neg c120, if_neg c122], N0, rfl⟩
      ·
        have pre123 : ∀ t, Steps p.tables e below (s₁.setTop (mkF m 21 #[.val (.int p0)] [(.int (102 : Int32)), (.int p0)])) t → Steps p.tables e below (s₁.setTop (entryFrame m #[(.int p0)] 1)) t := fun t k => by
          refine pre117 t ?_
          show Steps p.tables e below (s₁.setTop (mkF m 15 #[.val (.int p0)] [(.int (97 : Int32)), (.int p0)])) _
          refine XS.icmpNo X0.here hx rfl (hb hby d1_15) rfl (flt c118).1 ?_
          show Steps p.tables e below (s₁.setTop (mkF m 18 #[.val (.int p0)] [])) _
          refine XS.iloadN X0.here hx rfl (hb hby d1_18) rfl ?_
          show Steps p.tables e below (s₁.setTop (mkF m 19 #[.val (.int p0)] [(.int p0)])) _
          refine XS.bipush X0.here hx rfl (hb hby d1_19) ?_
          exact k
        by_cases c124 : (102 : Int32) < p0
        ·
          have pre125 : ∀ t, Steps p.tables e below (s₁.setTop (mkF m 27 #[.val (.int p0)] [(.int (65 : Int32)), (.int p0)])) t → Steps p.tables e below (s₁.setTop (entryFrame m #[(.int p0)] 1)) t := fun t k => by
            refine pre123 t ?_
            show Steps p.tables e below (s₁.setTop (mkF m 21 #[.val (.int p0)] [(.int (102 : Int32)), (.int p0)])) _
            refine XS.icmpNo X0.here hx rfl (hb hby d1_21) rfl (tlt c124).2.2.2 ?_
            show Steps p.tables e below (s₁.setTop (mkF m 24 #[.val (.int p0)] [])) _
            refine XS.iloadN X0.here hx rfl (hb hby d1_24) rfl ?_
            show Steps p.tables e below (s₁.setTop (mkF m 25 #[.val (.int p0)] [(.int p0)])) _
            refine XS.bipush X0.here hx rfl (hb hby d1_25) ?_
            exact k
          by_cases c126 : p0 < (65 : Int32)
          ·
            obtain ⟨fs, hr, hrun, hended, hW, hsame⟩ := X0.leave (v := some (.int (0 : Int32))) (fun h => by rw [Bd.returns] at h; cases h)
            refine ⟨_, _, pre125 _ ?_, hrun, hended, _, _, rfl, ?_, ⟨_, rfl⟩, hW, hsame.mono (by decide) (by decide)⟩
            ·
              show Steps p.tables e below (s₁.setTop (mkF m 27 #[.val (.int p0)] [(.int (65 : Int32)), (.int p0)])) _
              refine XS.icmpYes X0.here hx rfl (pc0 := 27) (pc' := 40) rfl (hb hby d1_27) rfl (tlt c126).1 (by decide) (by decide) ?_
              show Steps p.tables e below (s₁.setTop (mkF m 40 #[.val (.int p0)] [])) _
              refine XS.iconst X0.here hx rfl (hb hby d1_40) ?_
              show Steps p.tables e below (s₁.setTop (mkF m 41 #[.val (.int p0)] [(.int (0 : Int32))])) _
              exact retZ X0 hx Bd.returns (by decide) (hb hby d1_41) hr
            ·
              show Q_rm1 Z p0 h0 n0 _ s₁.heap _
              rw [e0]
              exact ⟨by simp only [f_hex, if_neg c102, if_pos c116, if_neg c118, if_pos c124, if_pos c126], N0, rfl⟩
          ·
            have pre127 : ∀ t, Steps p.tables e below (s₁.setTop (mkF m 33 #[.val (.int p0)] [(.int (70 : Int32)), (.int p0)])) t → Steps p.tables e below (s₁.setTop (entryFrame m #[(.int p0)] 1)) t := fun t k => by
              refine pre125 t ?_
              show Steps p.tables e below (s₁.setTop (mkF m 27 #[.val (.int p0)] [(.int (65 : Int32)), (.int p0)])) _
              refine XS.icmpNo X0.here hx rfl (hb hby d1_27) rfl (flt c126).1 ?_
              show Steps p.tables e below (s₁.setTop (mkF m 30 #[.val (.int p0)] [])) _
              refine XS.iloadN X0.here hx rfl (hb hby d1_30) rfl ?_
              show Steps p.tables e below (s₁.setTop (mkF m 31 #[.val (.int p0)] [(.int p0)])) _
              refine XS.bipush X0.here hx rfl (hb hby d1_31) ?_
              exact k
            by_cases c128 : (70 : Int32) < p0
            ·
              obtain ⟨fs, hr, hrun, hended, hW, hsame⟩ := X0.leave (v := some (.int (0 : Int32))) (fun h => by rw [Bd.returns] at h; cases h)
              refine ⟨_, _, pre127 _ ?_, hrun, hended, _, _, rfl, ?_, ⟨_, rfl⟩, hW, hsame.mono (by decide) (by decide)⟩
              ·
                show Steps p.tables e below (s₁.setTop (mkF m 33 #[.val (.int p0)] [(.int (70 : Int32)), (.int p0)])) _
                refine XS.icmpYes X0.here hx rfl (pc0 := 33) (pc' := 40) rfl (hb hby d1_33) rfl (tlt c128).2.2.1 (by decide) (by decide) ?_
                show Steps p.tables e below (s₁.setTop (mkF m 40 #[.val (.int p0)] [])) _
                refine XS.iconst X0.here hx rfl (hb hby d1_40) ?_
                show Steps p.tables e below (s₁.setTop (mkF m 41 #[.val (.int p0)] [(.int (0 : Int32))])) _
                exact retZ X0 hx Bd.returns (by decide) (hb hby d1_41) hr
              ·
                show Q_rm1 Z p0 h0 n0 _ s₁.heap _
                rw [e0]
                exact ⟨by simp only [f_hex, if_neg c102, if_pos c116, if_neg c118, if_pos c124, if_neg c126, if_pos c128], N0, rfl⟩
            ·
              obtain ⟨fs, hr, hrun, hended, hW, hsame⟩ := X0.leave (v := some (.int (1 : Int32))) (fun h => by rw [Bd.returns] at h; cases h)
              refine ⟨_, _, pre127 _ ?_, hrun, hended, _, _, rfl, ?_, ⟨_, rfl⟩, hW, hsame.mono (by decide) (by decide)⟩
              ·
                show Steps p.tables e below (s₁.setTop (mkF m 33 #[.val (.int p0)] [(.int (70 : Int32)), (.int p0)])) _
                refine XS.icmpNo X0.here hx rfl (hb hby d1_33) rfl (flt c128).2.2.1 ?_
                show Steps p.tables e below (s₁.setTop (mkF m 36 #[.val (.int p0)] [])) _
                refine XS.iconst X0.here hx rfl (hb hby d1_36) ?_
                show Steps p.tables e below (s₁.setTop (mkF m 37 #[.val (.int p0)] [(.int (1 : Int32))])) _
                refine XS.goto X0.here hx rfl (pc0 := 37) (pc' := 41) rfl (hb hby d1_37) (by decide) (by decide) ?_
                show Steps p.tables e below (s₁.setTop (mkF m 41 #[.val (.int p0)] [(.int (1 : Int32))])) _
                exact retZ X0 hx Bd.returns (by decide) (hb hby d1_41) hr
              ·
                show Q_rm1 Z p0 h0 n0 _ s₁.heap _
                rw [e0]
                exact ⟨by simp only [f_hex, if_neg c102, if_pos c116, if_neg c118, if_pos c124, if_neg c126, if_neg c128], N0, rfl⟩
        ·
          obtain ⟨fs, hr, hrun, hended, hW, hsame⟩ := X0.leave (v := some (.int (1 : Int32))) (fun h => by rw [Bd.returns] at h; cases h)
          refine ⟨_, _, pre123 _ ?_, hrun, hended, _, _, rfl, ?_, ⟨_, rfl⟩, hW, hsame.mono (by decide) (by decide)⟩
          ·
            show Steps p.tables e below (s₁.setTop (mkF m 21 #[.val (.int p0)] [(.int (102 : Int32)), (.int p0)])) _
            refine XS.icmpYes X0.here hx rfl (pc0 := 21) (pc' := 36) rfl (hb hby d1_21) rfl (flt c124).2.2.2 (by decide) (by decide) ?_
            show Steps p.tables e below (s₁.setTop (mkF m 36 #[.val (.int p0)] [])) _
            refine XS.iconst X0.here hx rfl (hb hby d1_36) ?_
            show Steps p.tables e below (s₁.setTop (mkF m 37 #[.val (.int p0)] [(.int (1 : Int32))])) _
            refine XS.goto X0.here hx rfl (pc0 := 37) (pc' := 41) rfl (hb hby d1_37) (by decide) (by decide) ?_
            show Steps p.tables e below (s₁.setTop (mkF m 41 #[.val (.int p0)] [(.int (1 : Int32))])) _
            exact retZ X0 hx Bd.returns (by decide) (hb hby d1_41) hr
          ·
            show Q_rm1 Z p0 h0 n0 _ s₁.heap _
            rw [e0]
            exact ⟨by simp only [f_hex, if_neg c102, if_pos c116, if_neg c118, if_neg c124], N0, rfl⟩
    ·
      obtain ⟨fs, hr, hrun, hended, hW, hsame⟩ := X0.leave (v := some (.int (1 : Int32))) (fun h => by rw [Bd.returns] at h; cases h)
      refine ⟨_, _, pre115 _ ?_, hrun, hended, _, _, rfl, ?_, ⟨_, rfl⟩, hW, hsame.mono (by decide) (by decide)⟩
      ·
        show Steps p.tables e below (s₁.setTop (mkF m 9 #[.val (.int p0)] [(.int (57 : Int32)), (.int p0)])) _
        refine XS.icmpYes X0.here hx rfl (pc0 := 9) (pc' := 36) rfl (hb hby d1_9) rfl (flt c116).2.2.2 (by decide) (by decide) ?_
        show Steps p.tables e below (s₁.setTop (mkF m 36 #[.val (.int p0)] [])) _
        refine XS.iconst X0.here hx rfl (hb hby d1_36) ?_
        show Steps p.tables e below (s₁.setTop (mkF m 37 #[.val (.int p0)] [(.int (1 : Int32))])) _
        refine XS.goto X0.here hx rfl (pc0 := 37) (pc' := 41) rfl (hb hby d1_37) (by decide) (by decide) ?_
        show Steps p.tables e below (s₁.setTop (mkF m 41 #[.val (.int p0)] [(.int (1 : Int32))])) _
        exact retZ X0 hx Bd.returns (by decide) (hb hby d1_41) hr
      ·
        show Q_rm1 Z p0 h0 n0 _ s₁.heap _
        rw [e0]
        exact ⟨by simp only [f_hex, if_neg c102, if_neg c116], N0, rfl⟩
def own_exp (d l : Int32) : Int32 := (if d < (0 : Int32) then (if l < (0 : Int32) then (0 : Int32) else (if l < (6 : Int32) then (1 : Int32) else (0 : Int32))) else (if d < (10 : Int32) then (1 : Int32) else (if l < (0 : Int32) then (0 : Int32) else (if l < (6 : Int32) then (1 : Int32) else (0 : Int32)))))
theorem own_small : ∀ k : Fin 103, f_hex (Int32.ofNat k.val) = own_exp (Int32.ofNat k.val - 48) ((Int32.ofNat k.val ||| 32) - 97) := by decide
theorem own_hex (u : Int32) (h0 : 0 ≤ u.toInt) : f_hex u = own_exp (u - 48) ((u ||| 32) - 97) := by
  have r := rng32 u
  by_cases h1 : 102 < u.toInt
  · have o := (c_or0 u 32 h0 (by decide)).1
    have s := c_isub u 48
    have r2 := rng32 (u - 48)
    have s3 := c_isub (u ||| 32) 97
    have r3 := rng32 ((u ||| 32) - 97)
    have r4 := rng32 (u ||| 32)
    simp only [f_hex, own_exp, Int32.lt_iff_toInt_lt, Int32.reduceToInt] at *
    repeat' split
    all_goals first | rfl | (exfalso; omega)
  · have e : u = Int32.ofNat u.toInt.toNat := Int32.toInt_inj.mp (by rw [Int32.toInt_ofNat_of_lt (by omega)]; omega)
    rw [e]
    exact own_small ⟨u.toInt.toNat, by omega⟩
theorem pd_0 : parseMethodDescriptor "(C)Z" = some ⟨[.char], some .boolean⟩ := by decide +kernel
theorem pn_1 : plainName "com/example/reliquary/reliquary/RequestHeadIsHexDigitPinLaw" = true := by first | (simp [plainName, overriddenIn]; done) | decide +kernel
theorem ef_rm0 (m : MethodId) (p0 : Int32) : entryFrame m #[(.int p0)] maxLocals = mkF m 0 #[.val (.int p0), .unset, .unset, .unset, .unset] [] := by first | (simp [entryFrame, mkF, argsToLocals, Value.category, maxLocals]; done) | rfl
def Q_rm0 (Z : State) (p0 : Int32) (h0 : Heap) (n0 : Nat) (v : Option Value) (h : Heap) (L : List Loc) : Prop := v = some (.int (1 : Int32)) ∧ Fr n0 L
set_option maxRecDepth 65536 in
set_option maxHeartbeats 40000000 in
theorem rm0 (l : Launch) (Z : State) (aw : Array Value) (hw : ∀ d ∈ tables_1, d.before aw Z = true) (ws : List Jvm.Cond) (p0 : Int32) (h0 : Heap) (n0 : Nat) (Z0 : n0 ≤ h0.size) :
    MetFree l x (head1 (Jvm.Cond.code x code maxLocals ret :: ws) room_1) (fun a U => a = #[(.int p0)] ∧ Z.Warmed39 U.vm ∧ U.heap = h0) (fun _ _ _ _ _ => True) (fun _ U o U' => ∃ v L, o = .returned v ∧ Q_rm0 Z p0 h0 n0 v U'.heap L ∧ FrameEnd U o U' L room_1.cells room_1.slots) := by
  refine MetFree.of_bodySF (plainFor_of_name pn_1) hisR ?_
  intro p e s m args below meth c s₁ Bd hml0 hP hK
  obtain ⟨rfl, hZ, hh⟩ := hP
  have hx := Bd.exec
  have hby := Bd.bytes
  have hml : c.maxLocals = 5 := hml0
  have hown : s.vm.findClass "com/example/reliquary/reliquary/RequestHeadIsHexDigitPinLaw" = some m.cls := findClass_of_methodNamed Bd.named
  have hnm := (name_of_methodNamed Bd.named Bd.method).1
  have X0 : Stand p l e room_1 s m #[(.int p0)] below meth c s₁ [] 0 0 := Stand.of_body Bd
  have e0 : s₁.heap = h0 := by rw [← hh, Bd.state]; rfl
  have N0 := Fr.nil n0
  have pre0 : ∀ t, Steps p.tables e below (s₁.setTop (mkF m 0 #[.val (.int p0), .unset, .unset, .unset, .unset] [])) t → Steps p.tables e below (s₁.setTop (entryFrame m #[(.int p0)] maxLocals)) t := fun t k => castTop (ef_rm0 m p0) k
  obtain ⟨x129, hx129⟩ : ∃ z : Int32, z = ((p0 &&& (65535 : Int32)).toUInt32.toUInt16.toUInt32.toInt32) := ⟨_, rfl⟩
  have pre130 : ∀ t, Steps p.tables e below (s₁.setTop (mkF m 6 #[.val (.int p0), .val (.int x129), .unset, .unset, .unset] [])) t → Steps p.tables e below (s₁.setTop (entryFrame m #[(.int p0)] maxLocals)) t := fun t k => by
    refine pre0 t ?_
    show Steps p.tables e below (s₁.setTop (mkF m 0 #[.val (.int p0), .unset, .unset, .unset, .unset] [])) _
    refine XS.iloadN X0.here hx rfl (hb hby at_0) rfl ?_
    show Steps p.tables e below (s₁.setTop (mkF m 1 #[.val (.int p0), .unset, .unset, .unset, .unset] [(.int p0)])) _
    refine X0.ldcInt hx hown (mvT hZ (hw _ (List.mem_of_getElem? (i := 0) rfl))) (g := (mkF m 1 #[.val (.int p0), .unset, .unset, .unset, .unset] [(.int p0)])) rfl (hb hby at_1) _ ?_
    show Steps p.tables e below (s₁.setTop (mkF m 3 #[.val (.int p0), .unset, .unset, .unset, .unset] [(.int (65535 : Int32)), (.int p0)])) _
    refine XS.iand X0.here hx rfl (hb hby at_3) rfl ?_
    show Steps p.tables e below (s₁.setTop (mkF m 4 #[.val (.int p0), .unset, .unset, .unset, .unset] [(.int (p0 &&& (65535 : Int32)))])) _
    refine XS.i2c X0.here hx rfl (hb hby at_4) rfl ?_
    show Steps p.tables e below (s₁.setTop (mkF m 5 #[.val (.int p0), .unset, .unset, .unset, .unset] [(.int ((p0 &&& (65535 : Int32)).toUInt32.toUInt16.toUInt32.toInt32))])) _
    refine XS.istoreN X0.here hx rfl (hb hby at_5) rfl (l' := #[.val (.int p0), .val (.int ((p0 &&& (65535 : Int32)).toUInt32.toUInt16.toUInt32.toInt32)), .unset, .unset, .unset]) rfl ?_
    subst hx129
    exact k
  obtain ⟨x131, hx131⟩ : ∃ z : Int32, z = (x129 - (48 : Int32)) := ⟨_, rfl⟩
  have pre132 : ∀ t, Steps p.tables e below (s₁.setTop (mkF m 11 #[.val (.int p0), .val (.int x129), .val (.int x131), .unset, .unset] [])) t → Steps p.tables e below (s₁.setTop (entryFrame m #[(.int p0)] maxLocals)) t := fun t k => by
    refine pre130 t ?_
    show Steps p.tables e below (s₁.setTop (mkF m 6 #[.val (.int p0), .val (.int x129), .unset, .unset, .unset] [])) _
    refine XS.iloadN X0.here hx rfl (hb hby at_6) rfl ?_
    show Steps p.tables e below (s₁.setTop (mkF m 7 #[.val (.int p0), .val (.int x129), .unset, .unset, .unset] [(.int x129)])) _
    refine XS.bipush X0.here hx rfl (hb hby at_7) ?_
    show Steps p.tables e below (s₁.setTop (mkF m 9 #[.val (.int p0), .val (.int x129), .unset, .unset, .unset] [(.int (48 : Int32)), (.int x129)])) _
    refine XS.isub X0.here hx rfl (hb hby at_9) rfl ?_
    show Steps p.tables e below (s₁.setTop (mkF m 10 #[.val (.int p0), .val (.int x129), .unset, .unset, .unset] [(.int (x129 - (48 : Int32)))])) _
    refine XS.istoreN X0.here hx rfl (hb hby at_10) rfl (l' := #[.val (.int p0), .val (.int x129), .val (.int (x129 - (48 : Int32))), .unset, .unset]) rfl ?_
    subst hx131
    exact k
  obtain ⟨x133, hx133⟩ : ∃ z : Int32, z = ((x129 ||| (32 : Int32)) - (97 : Int32)) := ⟨_, rfl⟩
  have pre134 : ∀ t, Steps p.tables e below (s₁.setTop (mkF m 19 #[.val (.int p0), .val (.int x129), .val (.int x131), .val (.int x133), .unset] [])) t → Steps p.tables e below (s₁.setTop (entryFrame m #[(.int p0)] maxLocals)) t := fun t k => by
    refine pre132 t ?_
    show Steps p.tables e below (s₁.setTop (mkF m 11 #[.val (.int p0), .val (.int x129), .val (.int x131), .unset, .unset] [])) _
    refine XS.iloadN X0.here hx rfl (hb hby at_11) rfl ?_
    show Steps p.tables e below (s₁.setTop (mkF m 12 #[.val (.int p0), .val (.int x129), .val (.int x131), .unset, .unset] [(.int x129)])) _
    refine XS.bipush X0.here hx rfl (hb hby at_12) ?_
    show Steps p.tables e below (s₁.setTop (mkF m 14 #[.val (.int p0), .val (.int x129), .val (.int x131), .unset, .unset] [(.int (32 : Int32)), (.int x129)])) _
    refine XS.ior X0.here hx rfl (hb hby at_14) rfl ?_
    show Steps p.tables e below (s₁.setTop (mkF m 15 #[.val (.int p0), .val (.int x129), .val (.int x131), .unset, .unset] [(.int (x129 ||| (32 : Int32)))])) _
    refine XS.bipush X0.here hx rfl (hb hby at_15) ?_
    show Steps p.tables e below (s₁.setTop (mkF m 17 #[.val (.int p0), .val (.int x129), .val (.int x131), .unset, .unset] [(.int (97 : Int32)), (.int (x129 ||| (32 : Int32)))])) _
    refine XS.isub X0.here hx rfl (hb hby at_17) rfl ?_
    show Steps p.tables e below (s₁.setTop (mkF m 18 #[.val (.int p0), .val (.int x129), .val (.int x131), .unset, .unset] [(.int ((x129 ||| (32 : Int32)) - (97 : Int32)))])) _
    refine XS.istoreN X0.here hx rfl (hb hby at_18) rfl (l' := #[.val (.int p0), .val (.int x129), .val (.int x131), .val (.int ((x129 ||| (32 : Int32)) - (97 : Int32))), .unset]) rfl ?_
    subst hx133
    exact k
  obtain ⟨x141, hx141⟩ : ∃ z : Int32, z = (if x131 < (0 : Int32) then (if x133 < (0 : Int32) then (0 : Int32) else (if x133 < (6 : Int32) then (1 : Int32) else (0 : Int32))) else (if x131 < (10 : Int32) then (1 : Int32) else (if x133 < (0 : Int32) then (0 : Int32) else (if x133 < (6 : Int32) then (1 : Int32) else (0 : Int32))))) := ⟨_, rfl⟩
  have pre142 : ∀ t, Steps p.tables e below (s₁.setTop (mkF m 44 #[.val (.int p0), .val (.int x129), .val (.int x131), .val (.int x133), .unset] [(.int x141)])) t → Steps p.tables e below (s₁.setTop (entryFrame m #[(.int p0)] maxLocals)) t := fun t k => by
    refine pre134 t ?_
    show Steps p.tables e below (s₁.setTop (mkF m 19 #[.val (.int p0), .val (.int x129), .val (.int x131), .val (.int x133), .unset] [])) _
    refine XS.iloadN X0.here hx rfl (hb hby at_19) rfl ?_
    by_cases c135 : x131 < (0 : Int32)
    ·
      show Steps p.tables e below (s₁.setTop (mkF m 20 #[.val (.int p0), .val (.int x129), .val (.int x131), .val (.int x133), .unset] [(.int x131)])) _
      refine XS.ifYes X0.here hx rfl (pc0 := 20) (pc' := 29) rfl (hb hby at_20) rfl ((if0 _ _).trans (tlt c135).1) (by decide) (by decide) ?_
      show Steps p.tables e below (s₁.setTop (mkF m 29 #[.val (.int p0), .val (.int x129), .val (.int x131), .val (.int x133), .unset] [])) _
      refine XS.iloadN X0.here hx rfl (hb hby at_29) rfl ?_
      by_cases c136 : x133 < (0 : Int32)
      ·
        show Steps p.tables e below (s₁.setTop (mkF m 30 #[.val (.int p0), .val (.int x129), .val (.int x131), .val (.int x133), .unset] [(.int x133)])) _
        refine XS.ifYes X0.here hx rfl (pc0 := 30) (pc' := 43) rfl (hb hby at_30) rfl ((if0 _ _).trans (tlt c136).1) (by decide) (by decide) ?_
        show Steps p.tables e below (s₁.setTop (mkF m 43 #[.val (.int p0), .val (.int x129), .val (.int x131), .val (.int x133), .unset] [])) _
        refine XS.iconst X0.here hx rfl (hb hby at_43) ?_
        rw [show x141 = (0 : Int32) from hx141.trans (by simp only [if_pos c135, if_pos c136])] at k
        exact k
      ·
        show Steps p.tables e below (s₁.setTop (mkF m 30 #[.val (.int p0), .val (.int x129), .val (.int x131), .val (.int x133), .unset] [(.int x133)])) _
        refine XS.ifNo X0.here hx rfl (hb hby at_30) rfl ((if0 _ _).trans (flt c136).1) ?_
        show Steps p.tables e below (s₁.setTop (mkF m 33 #[.val (.int p0), .val (.int x129), .val (.int x131), .val (.int x133), .unset] [])) _
        refine XS.iloadN X0.here hx rfl (hb hby at_33) rfl ?_
        show Steps p.tables e below (s₁.setTop (mkF m 34 #[.val (.int p0), .val (.int x129), .val (.int x131), .val (.int x133), .unset] [(.int x133)])) _
        refine XS.bipush X0.here hx rfl (hb hby at_34) ?_
        by_cases c137 : x133 < (6 : Int32)
        ·
          show Steps p.tables e below (s₁.setTop (mkF m 36 #[.val (.int p0), .val (.int x129), .val (.int x131), .val (.int x133), .unset] [(.int (6 : Int32)), (.int x133)])) _
          refine XS.icmpNo X0.here hx rfl (hb hby at_36) rfl (tlt c137).2.1 ?_
          show Steps p.tables e below (s₁.setTop (mkF m 39 #[.val (.int p0), .val (.int x129), .val (.int x131), .val (.int x133), .unset] [])) _
          refine XS.iconst X0.here hx rfl (hb hby at_39) ?_
          show Steps p.tables e below (s₁.setTop (mkF m 40 #[.val (.int p0), .val (.int x129), .val (.int x131), .val (.int x133), .unset] [(.int (1 : Int32))])) _
          refine XS.goto X0.here hx rfl (pc0 := 40) (pc' := 44) rfl (hb hby at_40) (by decide) (by decide) ?_
          rw [show x141 = (1 : Int32) from hx141.trans (by simp only [if_pos c135, if_neg c136, if_pos c137])] at k
          exact k
        ·
          show Steps p.tables e below (s₁.setTop (mkF m 36 #[.val (.int p0), .val (.int x129), .val (.int x131), .val (.int x133), .unset] [(.int (6 : Int32)), (.int x133)])) _
          refine XS.icmpYes X0.here hx rfl (pc0 := 36) (pc' := 43) rfl (hb hby at_36) rfl (flt c137).2.1 (by decide) (by decide) ?_
          show Steps p.tables e below (s₁.setTop (mkF m 43 #[.val (.int p0), .val (.int x129), .val (.int x131), .val (.int x133), .unset] [])) _
          refine XS.iconst X0.here hx rfl (hb hby at_43) ?_
          rw [show x141 = (0 : Int32) from hx141.trans (by simp only [if_pos c135, if_neg c136, if_neg c137])] at k
          exact k
    ·
      show Steps p.tables e below (s₁.setTop (mkF m 20 #[.val (.int p0), .val (.int x129), .val (.int x131), .val (.int x133), .unset] [(.int x131)])) _
      refine XS.ifNo X0.here hx rfl (hb hby at_20) rfl ((if0 _ _).trans (flt c135).1) ?_
      show Steps p.tables e below (s₁.setTop (mkF m 23 #[.val (.int p0), .val (.int x129), .val (.int x131), .val (.int x133), .unset] [])) _
      refine XS.iloadN X0.here hx rfl (hb hby at_23) rfl ?_
      show Steps p.tables e below (s₁.setTop (mkF m 24 #[.val (.int p0), .val (.int x129), .val (.int x131), .val (.int x133), .unset] [(.int x131)])) _
      refine XS.bipush X0.here hx rfl (hb hby at_24) ?_
      by_cases c138 : x131 < (10 : Int32)
      ·
        show Steps p.tables e below (s₁.setTop (mkF m 26 #[.val (.int p0), .val (.int x129), .val (.int x131), .val (.int x133), .unset] [(.int (10 : Int32)), (.int x131)])) _
        refine XS.icmpYes X0.here hx rfl (pc0 := 26) (pc' := 39) rfl (hb hby at_26) rfl (tlt c138).1 (by decide) (by decide) ?_
        show Steps p.tables e below (s₁.setTop (mkF m 39 #[.val (.int p0), .val (.int x129), .val (.int x131), .val (.int x133), .unset] [])) _
        refine XS.iconst X0.here hx rfl (hb hby at_39) ?_
        show Steps p.tables e below (s₁.setTop (mkF m 40 #[.val (.int p0), .val (.int x129), .val (.int x131), .val (.int x133), .unset] [(.int (1 : Int32))])) _
        refine XS.goto X0.here hx rfl (pc0 := 40) (pc' := 44) rfl (hb hby at_40) (by decide) (by decide) ?_
        rw [show x141 = (1 : Int32) from hx141.trans (by simp only [if_neg c135, if_pos c138])] at k
        exact k
      ·
        show Steps p.tables e below (s₁.setTop (mkF m 26 #[.val (.int p0), .val (.int x129), .val (.int x131), .val (.int x133), .unset] [(.int (10 : Int32)), (.int x131)])) _
        refine XS.icmpNo X0.here hx rfl (hb hby at_26) rfl (flt c138).1 ?_
        show Steps p.tables e below (s₁.setTop (mkF m 29 #[.val (.int p0), .val (.int x129), .val (.int x131), .val (.int x133), .unset] [])) _
        refine XS.iloadN X0.here hx rfl (hb hby at_29) rfl ?_
        by_cases c139 : x133 < (0 : Int32)
        ·
          show Steps p.tables e below (s₁.setTop (mkF m 30 #[.val (.int p0), .val (.int x129), .val (.int x131), .val (.int x133), .unset] [(.int x133)])) _
          refine XS.ifYes X0.here hx rfl (pc0 := 30) (pc' := 43) rfl (hb hby at_30) rfl ((if0 _ _).trans (tlt c139).1) (by decide) (by decide) ?_
          show Steps p.tables e below (s₁.setTop (mkF m 43 #[.val (.int p0), .val (.int x129), .val (.int x131), .val (.int x133), .unset] [])) _
          refine XS.iconst X0.here hx rfl (hb hby at_43) ?_
          rw [show x141 = (0 : Int32) from hx141.trans (by simp only [if_neg c135, if_neg c138, if_pos c139])] at k
          exact k
        ·
          show Steps p.tables e below (s₁.setTop (mkF m 30 #[.val (.int p0), .val (.int x129), .val (.int x131), .val (.int x133), .unset] [(.int x133)])) _
          refine XS.ifNo X0.here hx rfl (hb hby at_30) rfl ((if0 _ _).trans (flt c139).1) ?_
          show Steps p.tables e below (s₁.setTop (mkF m 33 #[.val (.int p0), .val (.int x129), .val (.int x131), .val (.int x133), .unset] [])) _
          refine XS.iloadN X0.here hx rfl (hb hby at_33) rfl ?_
          show Steps p.tables e below (s₁.setTop (mkF m 34 #[.val (.int p0), .val (.int x129), .val (.int x131), .val (.int x133), .unset] [(.int x133)])) _
          refine XS.bipush X0.here hx rfl (hb hby at_34) ?_
          by_cases c140 : x133 < (6 : Int32)
          ·
            show Steps p.tables e below (s₁.setTop (mkF m 36 #[.val (.int p0), .val (.int x129), .val (.int x131), .val (.int x133), .unset] [(.int (6 : Int32)), (.int x133)])) _
            refine XS.icmpNo X0.here hx rfl (hb hby at_36) rfl (tlt c140).2.1 ?_
            show Steps p.tables e below (s₁.setTop (mkF m 39 #[.val (.int p0), .val (.int x129), .val (.int x131), .val (.int x133), .unset] [])) _
            refine XS.iconst X0.here hx rfl (hb hby at_39) ?_
            show Steps p.tables e below (s₁.setTop (mkF m 40 #[.val (.int p0), .val (.int x129), .val (.int x131), .val (.int x133), .unset] [(.int (1 : Int32))])) _
            refine XS.goto X0.here hx rfl (pc0 := 40) (pc' := 44) rfl (hb hby at_40) (by decide) (by decide) ?_
            rw [show x141 = (1 : Int32) from hx141.trans (by simp only [if_neg c135, if_neg c138, if_neg c139, if_pos c140])] at k
            exact k
          ·
            show Steps p.tables e below (s₁.setTop (mkF m 36 #[.val (.int p0), .val (.int x129), .val (.int x131), .val (.int x133), .unset] [(.int (6 : Int32)), (.int x133)])) _
            refine XS.icmpYes X0.here hx rfl (pc0 := 36) (pc' := 43) rfl (hb hby at_36) rfl (flt c140).2.1 (by decide) (by decide) ?_
            show Steps p.tables e below (s₁.setTop (mkF m 43 #[.val (.int p0), .val (.int x129), .val (.int x131), .val (.int x133), .unset] [])) _
            refine XS.iconst X0.here hx rfl (hb hby at_43) ?_
            rw [show x141 = (0 : Int32) from hx141.trans (by simp only [if_neg c135, if_neg c138, if_neg c139, if_neg c140])] at k
            exact k
  obtain ⟨_, _, ⟨T143, L143, k143, n143⟩, -, X143, ⟨Lc143, hQ143, l143, y143, z143⟩, st143⟩ := Jvm.LawKit.callS X0 hx (y := (⟨"com/example/reliquary/reliquary/RequestHead", "isHexDigit", "(C)Z"⟩ : MethodName)) hown (mvT hZ (hw _ (List.mem_of_getElem? (i := 1) rfl))) (mvT hZ (hw _ (List.mem_of_getElem? (i := 2) rfl))) (mvT hZ (hw _ (List.mem_of_getElem? (i := 3) rfl))) (mvT hZ (hw _ (List.mem_of_getElem? (i := 4) rfl))) (by decide) (backOf (W := 0) (rm1 l Z aw hw [] x129 h0 n0 Z0) hZ (hw _ (List.mem_of_getElem? (i := 4) rfl)) (hw _ (List.mem_of_getElem? (i := 3) rfl)) (by decide) (by decide)) (g := (mkF m 47 #[.val (.int p0), .val (.int x129), .val (.int x131), .val (.int x133), .val (.int x141)] [(.int x129)])) rfl (by rw [hml]; rfl) (argsL := [(.int x129)]) (rest := []) (lenOf pd_0 rfl) rfl (by show 2 * 0 + _ ≤ _; exact Nat.le_of_eq rfl) (hb hby at_47) (fun _ _ => ⟨rfl, e0, (by decide : 0 + 0 ≤ _), (by decide : 0 + 0 ≤ _)⟩)
  dsimp only [Pt.U, Pt.locs, Pt.cells, Pt.slots] at X143 l143 y143 z143 st143 hQ143
  subst l143 y143 z143
  obtain ⟨rfl, N143q, e143⟩ := hQ143
  have N143 := Fr.app N0 N143q
  have c144 : (f_hex x129) = x141 := by
    rw [hx141, hx133, hx131]; exact own_hex _ (by rw [hx129]; exact (c_i2c _).2.1)
  obtain ⟨fs, hr, hrun, hended, hW, hsame⟩ := X143.leave (v := some (.int (1 : Int32))) (fun h => by rw [Bd.returns] at h; cases h)
  refine ⟨_, _, pre142 _ ?_, hrun, hended, _, _, rfl, ?_, ⟨_, rfl⟩, hW, hsame.mono (by decide) (by decide)⟩
  ·
    show Steps p.tables e below (s₁.setTop (mkF m 44 #[.val (.int p0), .val (.int x129), .val (.int x131), .val (.int x133), .unset] [(.int x141)])) _
    refine XS.istore X0.here hx rfl (hb hby at_44) rfl (l' := #[.val (.int p0), .val (.int x129), .val (.int x131), .val (.int x133), .val (.int x141)]) rfl ?_
    show Steps p.tables e below (s₁.setTop (mkF m 46 #[.val (.int p0), .val (.int x129), .val (.int x131), .val (.int x133), .val (.int x141)] [])) _
    refine XS.iloadN X0.here hx rfl (hb hby at_46) rfl ?_
    show Steps p.tables e below (s₁.setTop (mkF m 47 #[.val (.int p0), .val (.int x129), .val (.int x131), .val (.int x133), .val (.int x141)] [(.int x129)])) _
    refine st143 _ ?_
    show Steps p.tables e below (T143.setTop (mkF m 50 #[.val (.int p0), .val (.int x129), .val (.int x131), .val (.int x133), .val (.int x141)] [(.int (f_hex x129))])) _
    refine XS.iload X143.here hx rfl (hb hby at_50) rfl ?_
    show Steps p.tables e below (T143.setTop (mkF m 52 #[.val (.int p0), .val (.int x129), .val (.int x131), .val (.int x133), .val (.int x141)] [(.int x141), (.int (f_hex x129))])) _
    refine XS.icmpNo X143.here hx rfl (hb hby at_52) rfl (teq c144).2 ?_
    show Steps p.tables e below (T143.setTop (mkF m 55 #[.val (.int p0), .val (.int x129), .val (.int x131), .val (.int x133), .val (.int x141)] [])) _
    refine XS.iconst X143.here hx rfl (hb hby at_55) ?_
    show Steps p.tables e below (T143.setTop (mkF m 56 #[.val (.int p0), .val (.int x129), .val (.int x131), .val (.int x133), .val (.int x141)] [(.int (1 : Int32))])) _
    refine XS.goto X143.here hx rfl (pc0 := 56) (pc' := 60) rfl (hb hby at_56) (by decide) (by decide) ?_
    show Steps p.tables e below (T143.setTop (mkF m 60 #[.val (.int p0), .val (.int x129), .val (.int x131), .val (.int x133), .val (.int x141)] [(.int (1 : Int32))])) _
    exact retZ X143 hx Bd.returns (by decide) (hb hby at_60) hr
  ·
    show Q_rm0 Z p0 h0 n0 _ T143.heap _
    rw [e143]
    exact ⟨rfl, N143⟩
set_option maxRecDepth 65536 in
set_option maxHeartbeats 40000000 in
theorem comes_1 {Post : Tables → Env → Array Value → State → Outcome → State → Prop} (hpost : ∀ tb e args s v u, (limb_1_1.after args s (.returned v) u = true ∧ limb_1_2.after args s (.returned v) u = true ∧ True) → FrameEnd s (.returned v) u (Jvm.fieldLocs frame_1_writes args s ++ Jvm.arrayLocs frame_1_arrays args s ++ Jvm.staticLocs frame_1_statics s) 0 0 → Post tb e args s (.returned v) u) :
    ArmFor flags0 classFile x code maxLocals ret World_1 tables_1 room_1 Calls_1 rest_1 Pre_1 Post := by
  intro l hfl _ _ p e ha hc hk s m args below hf hA hF happ hP
  obtain ⟨hcalls, hrest, hpre⟩ := hP
  obtain ⟨-, -, -, hnamed, -, -, -, hat⟩ := (Spec.applies_iff hf).mp happ
  obtain ⟨hg, hn⟩ := and_e (Cond.before_iff.mp (show (Jvm.Cond.and given_1 narrow_1).before args s = true from hpre))
  obtain ⟨g145, g146⟩ := and_e hg
  obtain ⟨w0, rfl⟩ : ∃ w0 : Value, args = #[w0] := by
    have hs : args.size = 1 := by simpa [Cond.value, given_1] using g145
    obtain ⟨L⟩ := args
    match L, hs with
    | [w0], _ => exact ⟨w0, rfl⟩
  have hw := fun d (hd : d ∈ tables_1) => atoms_spec (ws := Jvm.Cond.code x code maxLocals ret :: tables_1) hat d (List.mem_cons_of_mem _ hd)
  have hfit : Fit s := fun {y c} hc i hi => by
    obtain ⟨ha, rfl⟩ := Array.getElem?_eq_some_iff.mp hc
    have q := List.all_eq_true.mp ((Array.all_eq_true_iff_forall_mem.mp hF) _ (Array.getElem_mem ha)) i (List.mem_range.mpr hi)
    simpa [Array.getElem?_eq_getElem hi] using q
  obtain ⟨i0, ei0⟩ := is_v g146
  obtain rfl : w0 = (.int i0) := Option.some.inj ei0
  obtain ⟨n, o, h1, h2, h3, _, L, rfl, ⟨rfl, N⟩, hq⟩ := rm0 l s _ hw tables_1 i0 s.heap s.heap.size (Nat.le_refl _) p e ha hc hk s m _ below hf ((Spec.applies_iff_loose hf).mp happ).1 ⟨rfl, State.Warmed39.refl s, rfl⟩ trivial
  refine ⟨n, _, h1, h2, h3, hpost _ _ _ _ _ _ ⟨Cond.after_iff.mpr rfl, Cond.after_iff.mpr (eq_i res_at (Term.int_eval (1)) rfl), trivial⟩ ⟨hq.1, hq.2.1, (hq.2.2.sift fun y hy => Or.inr (N y hy)).mono (by decide) (by decide)⟩⟩
theorem main_1_1 : Claimed_1_1 := comes_1 fun _ _ _ _ _ _ h hF => ⟨h.1, hF⟩
theorem main_1_2 : Claimed_1_2 := comes_1 fun _ _ _ _ _ _ h hF => ⟨h.2.1, hF⟩
end Jvm.Pilot.@@N@@
namespace Jvm.Pilot.@@N@@
open Jvm Jvm.ClassFile Sem Op Lib Jvm.Free Jvm.Stand Jvm.Pilot.@@N@@.Jvm.D
/-! MADE BY PROGRAM (witnessworld.py) out of the Statement's table words and the real class files: 9 classes; the members and pool entries that the words name. The judged class is class 1, her method 1. -/
namespace start1
open Jvm.ClassFile
def u (s : String) : CpInfo := .utf8 (stringToUtf16 s)
/-- a pool by its gaps: so many unusable entries, then the entry; so many at the end -/
def gap : Nat → List CpInfo → List CpInfo
  | 0, r => r
  | n + 1, r => .unusable :: gap n r
def poolList (es : List (Nat × CpInfo)) (last : Nat) : List CpInfo := es.foldr (fun e r => gap e.1 (e.2 :: r)) (gap last [])
def pool (es : List (Nat × CpInfo)) (last : Nat) : Array CpInfo := ⟨poolList es last⟩
def fileOf (pool : Array CpInfo) (this : Nat) (attrs : Array Attribute := #[]) (ms : Array MethodInfo := #[]) (fl : Nat := 33) (sup : Nat := 0) (ifs : Array Nat := #[]) (fds : Array FieldInfo := #[]) : ClassFile where
  minorVersion := 0
  majorVersion := 65
  constantPool := pool
  accessFlags := fl
  thisClass := this
  superClass := sup
  interfaces := ifs
  fields := fds
  methods := ms
  attributes := attrs
def plain (name : String) (sup : Option ClassId) : Class where
  name := name
  kind := .ordinary
  loader := none
  accessFlags := 33
  super := sup
  interfaces := #[]
  cf := none
  fields := #[]
  methods := #[]
  instanceTypes := #[]
  staticTypes := #[]
  resolved := #[]
  callSites := []
  init := .initialized
  statics := none
  mirror := none

def pool0 : Array CpInfo := pool [(5, u "<init>"), (0, u "()V"), (1, .class_ 10), (1, u "java/lang/Object")] 113

def k0m0 : Method := { name := "<init>", desc := "()V", sig := { parameters := [], returnType := none }, accessFlags := 1, code := none }
/-- java/lang/Object -/
def k0 : Class := { plain "java/lang/Object" none with
  accessFlags := 33
  interfaces := #[]
  cf := some (fileOf pool0 8 #[] #[{ accessFlags := 1, nameIndex := 5, descriptorIndex := 6, attributes := #[] }] 33 0 #[] #[])
  fields := #[]
  methods := #[k0m0]
  instanceTypes := #[]
  staticTypes := #[]
  resolved := Array.replicate 124 none
  statics := none }

def pool1 : Array CpInfo := pool [(2, .class_ 4), (1, u "java/lang/Object"), (0, u "<init>"), (0, u "()V"), (0, .integer 65535), (0, .methodref 9 10), (0, .class_ 11), (0, .nameAndType 12 13), (0, u "com/example/reliquary/reliquary/RequestHead"), (0, u "isHexDigit"), (0, u "(C)Z"), (0, .class_ 15), (0, u "com/example/reliquary/reliquary/RequestHeadIsHexDigitPinLaw"), (2, u "law"), (0, u "(I)Z")] 3

def k1m0 : Method := { name := "<init>", desc := "()V", sig := { parameters := [], returnType := none }, accessFlags := 1, code := none }
def k1c1 : Code := { maxStack := 2, maxLocals := 5, code := code, exceptionTable := #[], attributes := #[] }
def k1m1 : Method := { name := "law", desc := "(I)Z", sig := { parameters := [.int], returnType := some .boolean }, accessFlags := 9, code := some k1c1 }
/-- com/example/reliquary/reliquary/RequestHeadIsHexDigitPinLaw -/
def k1 : Class := { plain "com/example/reliquary/reliquary/RequestHeadIsHexDigitPinLaw" (some 0) with
  accessFlags := 49
  interfaces := #[]
  cf := some (fileOf pool1 14 #[] #[{ accessFlags := 1, nameIndex := 5, descriptorIndex := 6, attributes := #[] }, { accessFlags := 9, nameIndex := 18, descriptorIndex := 19, attributes := #[] }] 49 2 #[] #[])
  fields := #[]
  methods := #[k1m0, k1m1]
  instanceTypes := #[]
  staticTypes := #[]
  resolved := Array.replicate 23 none
  statics := none }

def pool2 : Array CpInfo := pool [(2, .class_ 4), (1, u "java/lang/Object"), (0, u "<init>"), (0, u "()V"), (4, .class_ 13), (1, u "com/example/reliquary/reliquary/RequestHead"), (0, u "headers"), (0, u "Lcom/sun/net/httpserver/Headers;"), (4, u "method"), (0, u "Ljava/lang/String;"), (4, u "version"), (31, u "target"), (0, u "Ljava/net/URI;"), (2, u "http10"), (0, u "Z"), (2, u "chunked"), (2, u "length"), (0, u "J"), (2, u "keepAlive"), (2, u "expectsContinue"), (2, u "problem"), (0, u "Lcom/example/reliquary/reliquary/RequestException;"), (74, u "VERSION"), (0, u "Ljava/util/regex/Pattern;"), (34, u "(C)Z"), (10, u "isHexDigit"), (72, u "HOST"), (97, u "LIMIT"), (0, u "I"), (1, u "TOKEN_CHARS"), (0, u "TARGET_CHARS")] 51

def k2m0 : Method := { name := "<init>", desc := "()V", sig := { parameters := [], returnType := none }, accessFlags := 2, code := none }
def k2c1 : Code := { maxStack := 2, maxLocals := 1, code := prog_71_method_24_code, exceptionTable := #[], attributes := #[] }
def k2m1 : Method := { name := "isHexDigit", desc := "(C)Z", sig := { parameters := [.char], returnType := some .boolean }, accessFlags := 8, code := some k2c1 }
/-- com/example/reliquary/reliquary/RequestHead -/
def k2 : Class := { plain "com/example/reliquary/reliquary/RequestHead" (some 0) with
  accessFlags := 48
  interfaces := #[]
  cf := some (fileOf pool2 11 #[] #[{ accessFlags := 2, nameIndex := 5, descriptorIndex := 6, attributes := #[] }, { accessFlags := 8, nameIndex := 202, descriptorIndex := 191, attributes := #[] }] 48 2 #[] #[{ accessFlags := 24, nameIndex := 373, descriptorIndex := 374, attributes := #[] }, { accessFlags := 26, nameIndex := 376, descriptorIndex := 21, attributes := #[] }, { accessFlags := 26, nameIndex := 377, descriptorIndex := 21, attributes := #[] }, { accessFlags := 26, nameIndex := 155, descriptorIndex := 156, attributes := #[] }, { accessFlags := 26, nameIndex := 275, descriptorIndex := 156, attributes := #[] }, { accessFlags := 18, nameIndex := 14, descriptorIndex := 15, attributes := #[] }, { accessFlags := 2, nameIndex := 20, descriptorIndex := 21, attributes := #[] }, { accessFlags := 2, nameIndex := 58, descriptorIndex := 59, attributes := #[] }, { accessFlags := 2, nameIndex := 26, descriptorIndex := 21, attributes := #[] }, { accessFlags := 2, nameIndex := 62, descriptorIndex := 63, attributes := #[] }, { accessFlags := 2, nameIndex := 69, descriptorIndex := 70, attributes := #[] }, { accessFlags := 2, nameIndex := 66, descriptorIndex := 63, attributes := #[] }, { accessFlags := 2, nameIndex := 73, descriptorIndex := 63, attributes := #[] }, { accessFlags := 2, nameIndex := 76, descriptorIndex := 63, attributes := #[] }, { accessFlags := 2, nameIndex := 79, descriptorIndex := 80, attributes := #[] }])
  fields := #[{ name := "LIMIT", type := .int, accessFlags := 24, slot := 0, constantValue := 0 }, { name := "TOKEN_CHARS", type := (.object "java/lang/String"), accessFlags := 26, slot := 1, constantValue := 0 }, { name := "TARGET_CHARS", type := (.object "java/lang/String"), accessFlags := 26, slot := 2, constantValue := 0 }, { name := "VERSION", type := (.object "java/util/regex/Pattern"), accessFlags := 26, slot := 3, constantValue := 0 }, { name := "HOST", type := (.object "java/util/regex/Pattern"), accessFlags := 26, slot := 4, constantValue := 0 }, { name := "headers", type := (.object "com/sun/net/httpserver/Headers"), accessFlags := 18, slot := 0, constantValue := 0 }, { name := "method", type := (.object "java/lang/String"), accessFlags := 2, slot := 1, constantValue := 0 }, { name := "target", type := (.object "java/net/URI"), accessFlags := 2, slot := 2, constantValue := 0 }, { name := "version", type := (.object "java/lang/String"), accessFlags := 2, slot := 3, constantValue := 0 }, { name := "http10", type := .boolean, accessFlags := 2, slot := 4, constantValue := 0 }, { name := "length", type := .long, accessFlags := 2, slot := 5, constantValue := 0 }, { name := "chunked", type := .boolean, accessFlags := 2, slot := 6, constantValue := 0 }, { name := "keepAlive", type := .boolean, accessFlags := 2, slot := 7, constantValue := 0 }, { name := "expectsContinue", type := .boolean, accessFlags := 2, slot := 8, constantValue := 0 }, { name := "problem", type := (.object "com/example/reliquary/reliquary/RequestException"), accessFlags := 2, slot := 9, constantValue := 0 }]
  methods := #[k2m0, k2m1]
  instanceTypes := #[(.object "com/sun/net/httpserver/Headers"), (.object "java/lang/String"), (.object "java/net/URI"), (.object "java/lang/String"), .boolean, .long, .boolean, .boolean, .boolean, (.object "com/example/reliquary/reliquary/RequestException")]
  staticTypes := #[.int, (.object "java/lang/String"), (.object "java/lang/String"), (.object "java/util/regex/Pattern"), (.object "java/util/regex/Pattern")]
  resolved := Array.replicate 429 none
  statics := none }

def pool3 : Array CpInfo := pool [(1, u "java/lang/Cloneable"), (0, .class_ 1), (0, u "java/lang/Object"), (0, .class_ 3)] 3

/-- java/lang/Cloneable -/
def k3 : Class := { plain "java/lang/Cloneable" (some 0) with
  accessFlags := 1537
  interfaces := #[]
  cf := some (fileOf pool3 2 #[] #[] 1537 4 #[] #[])
  fields := #[]
  methods := #[]
  instanceTypes := #[]
  staticTypes := #[]
  resolved := Array.replicate 8 none
  statics := none }

def pool4 : Array CpInfo := pool [(1, u "java/io/Serializable"), (0, .class_ 1), (0, u "java/lang/Object"), (0, .class_ 3)] 3

/-- java/io/Serializable -/
def k4 : Class := { plain "java/io/Serializable" (some 0) with
  accessFlags := 1537
  interfaces := #[]
  cf := some (fileOf pool4 2 #[] #[] 1537 4 #[] #[])
  fields := #[]
  methods := #[]
  instanceTypes := #[]
  staticTypes := #[]
  resolved := Array.replicate 8 none
  statics := none }

/-- the primitive byte -/
def k5 : Class := { plain "byte" none with kind := .primitive 'B', accessFlags := 0x411 }
/-- [B -/
def k6 : Class := { plain "[B" (some 0) with kind := .array 5 .byte, interfaces := #[3, 4], accessFlags := 1041 }

/-- the primitive int -/
def k7 : Class := { plain "int" none with kind := .primitive 'I', accessFlags := 0x411 }
/-- [I -/
def k8 : Class := { plain "[I" (some 0) with kind := .array 7 .int, interfaces := #[3, 4], accessFlags := 1041 }

def heap : Heap := #[]
def classes : Array Class := #[k0, k1, k2, k3, k4, k5, k6, k7, k8]
def interned : List (Array UInt16 × Addr) := []
def slotsUsed : Nat := 0
def theMethod : MethodId := ⟨1, 1⟩
def args0 : Array Value := #[.int 5]
def aboutOver (below : List Frame) : State where
  vm := { classes := classes, interned := interned.toArray }
  heap := heap
  slotsUsed := slotsUsed
  threads := #[{ frames := .invoking theMethod args0 :: below }]
def below0 : List Frame := [.native { method := ⟨0, 0⟩, args := #[] }]
def about1 : State := aboutOver below0
def p0 : Program := .bare "" "" ""
def e0 : Env := launch0.env 0 0 0
theorem w_frames : about1.frames = Frame.invoking theMethod args0 :: below0 := rfl
set_option maxRecDepth 65536 in
theorem w_args : argsFit about1.vm theMethod args0 = true := by decide +kernel
set_option maxRecDepth 65536 in
theorem w_heap : heapFits about1 = true := by decide +kernel
set_option maxRecDepth 65536 in
theorem w_runnable : about1.curStatus? = some .runnable := by decide +kernel
set_option maxRecDepth 65536 in
theorem w_alone : about1.alone = true := by decide +kernel
set_option maxRecDepth 65536 in
theorem w_named : about1.methodNamed? x = some theMethod := by decide +kernel
set_option maxRecDepth 65536 in
theorem w_hears : about1.hears theMethod below0 = true := by decide +kernel
set_option maxRecDepth 65536 in
theorem w_ripe : about1.ripe theMethod args0 below0 = true := by decide +kernel
theorem w_running : about1.status = .running := rfl
set_option maxRecDepth 65536 in
theorem w_room : about1.hasRoom e0.platform room_1 = true :=
  launch0.hasRoom_least _ room_1 (by decide +kernel) (by decide +kernel) (by decide +kernel) (by decide +kernel) (by decide +kernel) (by decide +kernel)
theorem allAtoms_all (ts : List Jvm.Cond) (a : Array Jvm.Value) (st : Jvm.State) : (allAtoms ts).before a st = ts.all (fun c => c.before a st) := by
  induction ts with
  | nil => rfl
  | cons c t ih =>
    show (Jvm.Cond.and c (allAtoms t)).before a st = _
    rw [Jvm.Cond.before_and, ih, List.all_cons]
def words1 : List Jvm.Cond := Jvm.Cond.code x code maxLocals ret :: tables_1
/-- a 'code' word, met by the world's own term for the bytes: nothing is compared byte by byte -/
theorem code_word {y : MethodName} {bytes : ByteArray} {mx : Nat} {rt : Option FieldType} {a : Array Value} {s : State} {m : MethodId} {meth : Method} {c : Code} (h1 : s.methodNamed? y = some m) (h2 : s.vm.method? m = some meth) (h3 : meth.code = some c) (h4 : c.code = bytes)
    (h5 : (c.maxLocals == mx && c.exceptionTable.isEmpty && decide (c.maxStack ≤ mostOperands) && decide (meth.sig.returnType = rt) && !meth.locks && decide (parseMethodDescriptor y.desc = some meth.sig)) = true) : (Jvm.Cond.code y bytes mx rt).before a s = true := by
  simp only [Bool.and_eq_true, beq_iff_eq, Bool.not_eq_true', decide_eq_true_eq] at h5
  obtain ⟨⟨⟨⟨⟨g1, g2⟩, g3⟩, g4⟩, g5⟩, g6⟩ := h5
  simp [Cond.before, Cond.holds, Cond.value, h1, h2, h3, h4, g1, g2, g3, g4, g5, g6]
def isCode : Jvm.Cond → Bool
  | .code _ _ _ _ => true
  | _ => false
theorem all_split {L : List Jvm.Cond} {P : Jvm.Cond → Bool} (h1 : L.all (fun c => isCode c || P c) = true) (h2 : ∀ c ∈ L.filter isCode, P c = true) : L.all P = true := by
  refine List.all_eq_true.mpr fun c hc => ?_
  have h := List.all_eq_true.mp h1 c hc
  rcases Bool.eq_false_or_eq_true (isCode c) with hi | hi
  · exact h2 c (List.mem_filter.mpr ⟨hc, hi⟩)
  · simpa [hi] using h
set_option maxRecDepth 65536 in
theorem w_c0 : (Jvm.Cond.code x code maxLocals ret).before args0 about1 = true := code_word (m := ⟨1, 1⟩) (meth := k1m1) (c := k1c1) (by decide +kernel) rfl rfl rfl (by decide +kernel)
set_option maxRecDepth 65536 in
theorem w_c1 : (Jvm.Cond.code ({ cls := "com/example/reliquary/reliquary/RequestHead", name := "isHexDigit", desc := "(C)Z" } : Jvm.MethodName) prog_71_method_24_code (1 : Nat) (Option.some Jvm.ClassFile.FieldType.boolean)).before args0 about1 = true := code_word (m := ⟨2, 1⟩) (meth := k2m1) (c := k2c1) (by decide +kernel) rfl rfl rfl (by decide +kernel)
def codes1 : List Jvm.Cond := [Jvm.Cond.code x code maxLocals ret, Jvm.Cond.code ({ cls := "com/example/reliquary/reliquary/RequestHead", name := "isHexDigit", desc := "(C)Z" } : Jvm.MethodName) prog_71_method_24_code (1 : Nat) (Option.some Jvm.ClassFile.FieldType.boolean)]
set_option maxRecDepth 65536 in
theorem codes_eq : words1.filter isCode = codes1 := rfl
theorem w_codes : ∀ c ∈ words1.filter isCode, c.before args0 about1 = true := by
  rw [codes_eq]
  intro c hc
  simp only [codes1, List.mem_cons, List.not_mem_nil, or_false] at hc
  rcases hc with rfl | rfl
  · exact w_c0
  · exact w_c1
set_option maxRecDepth 65536 in
theorem w_t1 : words1.all (fun c => isCode c || c.before args0 about1) = true := by decide +kernel
theorem w_tables : (allAtoms (Jvm.Cond.code x code maxLocals ret :: tables_1)).before args0 about1 = true := by
  rw [allAtoms_all]
  show words1.all (fun c => c.before args0 about1) = true
  refine all_split ?_ w_codes
  rw [w_t1]
set_option maxRecDepth 65536 in
theorem w_case : (Jvm.Cond.and given_1 narrow_1).before args0 about1 = true := by decide +kernel
theorem w_applies : (headSpec (Jvm.Cond.code x code maxLocals ret :: tables_1) room_1).applies x e0.platform about1 = true :=
  (Spec.applies_iff w_frames).mpr ⟨w_running, w_runnable, w_alone, w_named, w_hears, w_ripe, w_room, w_tables⟩
theorem atStart : AtStart classFile x code maxLocals ret World_1 tables_1 room_1 Calls_1 rest_1 Pre_1 launch0 p0 e0 about1 theMethod args0 below0 :=
  ⟨lists_1, trivial, launch0.admits_env _ _ _, launch0.least_env, fairChoices_fair.cas, fairChoices_fair.clock, w_frames, w_args, w_heap, w_applies, trivial, trivial, w_case⟩
end start1
theorem witness_1 : WitnessClaimed_1 := ⟨start1.p0, start1.e0, start1.about1, start1.theMethod, start1.args0, start1.below0, start1.atStart⟩
end Jvm.Pilot.@@N@@
