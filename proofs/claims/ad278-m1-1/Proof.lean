import JvmDerived
import JvmDerived.Pilot.@@N@@Statement
import JvmDerived.Pilot.@@N@@Code
set_option linter.unusedVariables false
set_option linter.unusedSimpArgs false
namespace Jvm.RoadKit
open Sem ClassFile Op Lib Jvm.Stand Jvm.Free Jvm.LawKit
section Own
variable {p : Program} {l : Launch} {e : Env} {R : Room} {s : State} {m : MethodId} {args : Array Value} {below : List Frame} {meth : Method} {c : Code} {T : State} {locs : List Loc} {cells slots rc rs : Nat} {Z : State} {a0 : Array Value} {h : Heap} {Q : Option Value → Heap → List Loc → Prop}
/-- from S on the body ends, and ends as Q says -/
def own_E (p : Program) (e : Env) (below : List Frame) (s : State) (Q : Option Value → Heap → List Loc → Prop) (rc rs : Nat) (S : State) : Prop :=
  ∃ s₂ o, Steps p.tables e below S s₂ ∧ s₂.status = .running ∧ Ended s₂ below o ∧ ∃ v L, o = .returned v ∧ Q v s₂.heap L ∧ FrameEnd s o s₂ L rc rs
/-- a body's contract: called with these arguments over this heap it returns as Q says -/
abbrev own_C (l : Launch) (Z : State) (y : MethodName) (bytes : ByteArray) (maxL : Nat) (ret : Option FieldType) (ws : List Cond) (rm : Room) (as' : Array Value) (h0 : Heap) (Q : Option Value → Heap → List Loc → Prop) : Prop :=
  MetFree l y (head1 (Cond.code y bytes maxL ret :: ws) rm) (fun a U => a = as' ∧ Z.Warmed39 U.vm ∧ U.heap = h0) (fun _ _ _ _ _ => True) (fun _ U o U' => ∃ v L, o = .returned v ∧ Q v U'.heap L ∧ FrameEnd U o U' L rm.cells rm.slots)
theorem own_open {g g' : JFrame} (q : g = g') (k : own_E p e below s Q rc rs (T.setTop g')) : ∃ s₂ o, Steps p.tables e below (T.setTop g) s₂ ∧ s₂.status = .running ∧ Ended s₂ below o ∧ ∃ v L, o = .returned v ∧ Q v s₂.heap L ∧ FrameEnd s o s₂ L rc rs := by subst q; exact k
theorem own_go {S S' : State} (k : ∀ t, Steps p.tables e below S' t → Steps p.tables e below S t) (q : own_E p e below s Q rc rs S') : own_E p e below s Q rc rs S := by
  obtain ⟨a, b, h1, h2⟩ := q; exact ⟨a, b, k _ h1, h2⟩
theorem own_via {S S' : State} (k : Steps p.tables e below S S') (q : own_E p e below s Q rc rs S') : own_E p e below s Q rc rs S := own_go (fun _ t => k.trans t) q
theorem own_fin (X : Stand p l e R s m args below meth c T locs cells slots) (hlk : meth.locks = false) {v : Option Value} (hv : meth.sig.returnType = none → v = none) {g : JFrame}
    (k : ∀ fs, (∀ (f : JFrame) (acts : List Action), f.method = m → f.locked = none → f.entered = [] → (doReturn e (T.setTop f) acts v).1 = T.setFrames fs) → Steps p.tables e below (T.setTop g) (T.setFrames fs)) (hq : Q v T.heap locs) (h1 : cells ≤ rc) (h2 : slots ≤ rs) : own_E p e below s Q rc rs (T.setTop g) := by
  obtain ⟨fs, hr, hrun, hended, hW, hsame⟩ := X.leave hv hlk
  exact ⟨_, _, k fs hr, hrun, hended, _, _, rfl, hq, ⟨_, rfl⟩, hW, hsame.mono h1 h2⟩
theorem own_retZ (X : Stand p l e R s m args below meth c T locs cells slots) (hx : p.tables.exec = Jvm.exec) (hlk : meth.locks = false) {pc : Nat} {Ls : Array Slot} {z : Int32} {t : FieldType} {rest : List Value} (hret : meth.sig.returnType = some t) (ht : t = .boolean ∨ t = .byte ∨ t = .char ∨ t = .short)
    (hd : decode c.code pc = .ok (.ireturn, 1)) (hq : Q (some (.int (nar t z))) T.heap locs) (h1 : cells ≤ rc) (h2 : slots ≤ rs) : own_E p e below s Q rc rs (T.setTop (mkF m pc Ls (.int z :: rest))) :=
  own_fin X hlk (fun q => by rw [hret] at q; cases q) (fun _ hr => retN X hx hret ht hd hr) hq h1 h2
theorem own_retI (X : Stand p l e R s m args below meth c T locs cells slots) (hx : p.tables.exec = Jvm.exec) (hlk : meth.locks = false) {pc : Nat} {Ls : Array Slot} {z : Int32} {rest : List Value} (hret : meth.sig.returnType = some .int)
    (hd : decode c.code pc = .ok (.ireturn, 1)) (hq : Q (some (.int z)) T.heap locs) (h1 : cells ≤ rc) (h2 : slots ≤ rs) : own_E p e below s Q rc rs (T.setTop (mkF m pc Ls (.int z :: rest))) :=
  own_fin X hlk (fun q => by rw [hret] at q; cases q) (fun _ hr => retOut X hx hret rfl (Or.inl ⟨rfl, Or.inl rfl, _, rfl⟩) hd hr) hq h1 h2
theorem own_retJ (X : Stand p l e R s m args below meth c T locs cells slots) (hx : p.tables.exec = Jvm.exec) (hlk : meth.locks = false) {pc : Nat} {Ls : Array Slot} {z : Int64} {rest : List Value} (hret : meth.sig.returnType = some .long)
    (hd : decode c.code pc = .ok (.lreturn, 1)) (hq : Q (some (.long z)) T.heap locs) (h1 : cells ≤ rc) (h2 : slots ≤ rs) : own_E p e below s Q rc rs (T.setTop (mkF m pc Ls (.long z :: rest))) :=
  own_fin X hlk (fun q => by rw [hret] at q; cases q) (fun _ hr => retOut X hx hret rfl (Or.inr (Or.inl ⟨rfl, rfl, _, rfl⟩)) hd hr) hq h1 h2
theorem own_retA (X : Stand p l e R s m args below meth c T locs cells slots) (hx : p.tables.exec = Jvm.exec) (hlk : meth.locks = false) {pc : Nat} {Ls : Array Slot} {w : Value} {t : FieldType} {rest : List Value} (hret : meth.sig.returnType = some t) (ht : t.isReference = true) (hw : w.isRef = true)
    (hd : decode c.code pc = .ok (.areturn, 1)) (hq : Q (some w) T.heap locs) (h1 : cells ≤ rc) (h2 : slots ≤ rs) : own_E p e below s Q rc rs (T.setTop (mkF m pc Ls (w :: rest))) :=
  own_fin X hlk (fun q => by rw [hret] at q; cases q) (fun _ hr => retOut X hx hret (by cases t <;> first | (cases ht; done) | (cases w <;> first | (cases hw; done) | rfl)) (Or.inr (Or.inr (Or.inr (Or.inr ⟨rfl, ht, hw⟩)))) hd hr) hq h1 h2
theorem own_retV (X : Stand p l e R s m args below meth c T locs cells slots) (hx : p.tables.exec = Jvm.exec) (hlk : meth.locks = false) {pc : Nat} {Ls : Array Slot} (hret : meth.sig.returnType = none)
    (hd : decode c.code pc = .ok (.return_, 1)) (hq : Q none T.heap locs) (h1 : cells ≤ rc) (h2 : slots ≤ rs) : own_E p e below s Q rc rs (T.setTop (mkF m pc Ls [])) :=
  own_fin X hlk (fun _ => rfl) (fun _ hr => X.returnOut hx hret hd hr) hq h1 h2
/-- a static that the case says to be an object of exactly this class -/
theorem own_static {C f d K : String} (hx : (Cond.exactly (.static C f d) K).value args Z none Z [] = some true) (w1 : (Cond.initialized C).before args Z = true) (w2 : (Cond.laysStatic C f d).before args Z = true) :
    ∃ a, (Term.static C f d).eval args Z none [] Z = some (.ref a) ∧ Sta Z Z.heap C f d (.ref a) ∧ Exa Z Z.heap a K := by
  obtain ⟨a, ev⟩ := exa_v hx
  exact ⟨a, ev, Sta.start ev (Or.inr ⟨w1, w2⟩), Exa.start ev hx⟩
/-- a field that the case says to hold this int -/
theorem own_fldI {t : Term} {C n d : String} {a : Addr} {z : Int32} (ev : t.eval args Z none [] Z = some (.ref a)) (q : (Cond.eq (.field t C n d) (.int z)).value args Z none Z [] = some true) : Fld Z Z.heap a C n d (.int z) := by
  have e1 : (Term.field t C n d).eval args Z none [] Z = Z.fieldOf? a C n d := fld_at ev
  refine Fld.start ?_
  cases hf : Z.fieldOf? a C n d with
  | none => rw [hf] at e1; simp [Cond.value, e1] at q
  | some v =>
    rw [hf] at e1
    have e2 : (Term.int z).eval args Z none [] Z = some (.int z) := rfl
    cases v <;> simp [Cond.value, e1, e2] at q
    rw [q]
/-- the model's own selection picks a private method itself -/
theorem own_sel {y : MethodName} {n : Nat} (hZ : Z.Warmed39 s.vm) (hp : (Cond.privateMethod y).before a0 Z = true) (hi : (Cond.instanceMethod y).before a0 Z = true) (hins : (Cond.instantiable y.cls n).before a0 Z = true)
    (hy : y.cls ≠ "java/lang/invoke/MethodHandle" ∧ y.cls ≠ "java/lang/invoke/VarHandle" := by decide) : (Cond.selects y.cls y y).before args s = true := by
  have hpriv : (Cond.privateMethod y).before args s = true := mvP hZ hp
  obtain ⟨c, k, hc, hk, -, hniab, -, -⟩ := Cond.instantiable_spec (show (Cond.instantiable y.cls n).before args s = true from mvT hZ hins)
  have hni : k.isInterface = false := (Bool.or_eq_false_iff.mp hniab).1
  obtain ⟨mk, methM, hnamed, hmethM, -, -⟩ := Cond.instanceMethod_spec (show (Cond.instanceMethod y).before args s = true from mvT hZ hi)
  have hfound : s.methodFound? y.cls y.name y.desc = some mk := State.methodFound?_of_named hnamed hy
  have hcls : mk.cls = c := Option.some.inj ((findClass_of_methodNamed hnamed).symm.trans hc)
  have hsel : selectMethod {} s.vm c mk = .method mk := selectMethod_private hmethM (Cond.privateMethod_at hpriv mk methM hnamed hmethM)
  simp only [Cond.before, Cond.holds, Cond.value, hc, hfound, hnamed, hsel, hcls, hk]
  simp; exact hni
theorem own_mvM {own host : String} {index : Nat} {y : MethodName} (hZ : Z.Warmed39 s.vm) (w : (Cond.methodLinkNest own index y host).before a0 Z = true) : (Cond.methodLinkNest own index y host).before args s = true := (Cond.methodLinkNest_wide hZ w :)
end Own
section Nst
variable {Z : State} {h : Heap} {a : Addr}
theorem Exa.own_nst {C : String} (E : Exa Z h a C) : ∃ c : Cell, h[a]? = some c ∧ c.vm.isStatics = false := by obtain ⟨c, k, h1, -, -, h4, -⟩ := E; exact ⟨c, h1, h4⟩
theorem Arv.own_nst {k : ClassId} {ty : FieldType} {n : Int32} {vs : List Value} {d : Value} (V : Arv Z h a k ty n vs d) : ∃ c : Cell, h[a]? = some c ∧ c.vm.isStatics = false := by obtain ⟨c, A, -⟩ := V; exact ⟨c, A.1, A.plain⟩
end Nst
end Jvm.RoadKit
namespace Jvm.Pilot.@@N@@
open Jvm Jvm.ClassFile Sem Op Lib Jvm.Free Jvm.Stand Jvm.LawKit Jvm.RoadKit Bundle Jvm.Pilot.@@N@@.Jvm.D
theorem own_pn0 : plainName "com/example/trunkbridge/trunkbridge/core/interwork/Presentation" = true := by first | (simp [plainName, overriddenIn]; done) | decide +kernel
theorem own_ef0 (m : MethodId) (x0 : Int32) : entryFrame m #[(.int x0)] 1 = mkF m 0 #[.val (.int x0)] [] := by first | (simp [entryFrame, mkF, argsToLocals, Value.category]; done) | rfl
theorem own_d_prog_23_method_4_0 : decode prog_23_method_4_code 0 = .ok (.iload_n 0, 1) := by decide +kernel
theorem own_d_prog_23_method_4_1 : decode prog_23_method_4_code 1 = .ok (.lookupswitch 39 #[(0, 27), (2, 33)], 27) := by decide +kernel
theorem own_d_prog_23_method_4_28 : decode prog_23_method_4_code 28 = .ok (.getstatic 3, 3) := by decide +kernel
theorem own_d_prog_23_method_4_31 : decode prog_23_method_4_code 31 = .ok (.goto 12, 3) := by decide +kernel
theorem own_d_prog_23_method_4_43 : decode prog_23_method_4_code 43 = .ok (.areturn, 1) := by decide +kernel
theorem own_d_prog_23_method_4_40 : decode prog_23_method_4_code 40 = .ok (.getstatic 7, 3) := by decide +kernel
theorem own_d_prog_23_method_4_34 : decode prog_23_method_4_code 34 = .ok (.getstatic 10, 3) := by decide +kernel
theorem own_d_prog_23_method_4_37 : decode prog_23_method_4_code 37 = .ok (.goto 6, 3) := by decide +kernel
theorem own_pn1 : plainName "java/lang/Enum" = true := by first | (simp [plainName, overriddenIn]; done) | decide +kernel
theorem own_ef1 (m : MethodId) (x0 : Addr) : entryFrame m #[(.ref x0)] 1 = mkF m 0 #[.val (.ref x0)] [] := by first | (simp [entryFrame, mkF, argsToLocals, Value.category]; done) | rfl
theorem own_d_jdk_37_method_2_0 : decode jdk_37_method_2_code 0 = .ok (.aload_n 0, 1) := by decide +kernel
theorem own_d_jdk_37_method_2_1 : decode jdk_37_method_2_code 1 = .ok (.getfield 7, 3) := by decide +kernel
theorem own_d_jdk_37_method_2_4 : decode jdk_37_method_2_code 4 = .ok (.ireturn, 1) := by decide +kernel
theorem own_d_prog_23_method_5_0 : decode prog_23_method_5_code 0 = .ok (.aload_n 0, 1) := by decide +kernel
theorem own_d_prog_23_method_5_1 : decode prog_23_method_5_code 1 = .ok (.invokevirtual 32, 3) := by decide +kernel
theorem own_pd0 : parseMethodDescriptor "()I" = some ⟨[], some .int⟩ := by decide +kernel
theorem own_d_prog_23_method_5_4 : decode prog_23_method_5_code 4 = .ok (.tableswitch 28 0 2 #[38, 42, 46], 28) := by decide +kernel
theorem own_d_prog_23_method_5_42 : decode prog_23_method_5_code 42 = .ok (.iconst 0, 1) := by decide +kernel
theorem own_d_prog_23_method_5_43 : decode prog_23_method_5_code 43 = .ok (.goto 8, 3) := by decide +kernel
theorem own_d_prog_23_method_5_51 : decode prog_23_method_5_code 51 = .ok (.ireturn, 1) := by decide +kernel
theorem own_d_prog_23_method_5_46 : decode prog_23_method_5_code 46 = .ok (.iconst 1, 1) := by decide +kernel
theorem own_d_prog_23_method_5_47 : decode prog_23_method_5_code 47 = .ok (.goto 4, 3) := by decide +kernel
theorem own_d_prog_23_method_5_50 : decode prog_23_method_5_code 50 = .ok (.iconst 2, 1) := by decide +kernel
theorem own_pn2 : plainName "com/example/trunkbridge/trunkbridge/core/interwork/PresentationOfIndicatorPinLaw" = true := by first | (simp [plainName, overriddenIn]; done) | decide +kernel
theorem own_ef2 (m : MethodId) (x0 : Int32) : entryFrame m #[(.int x0)] maxLocals = mkF m 0 #[.val (.int x0), .unset, .unset, .unset, .unset, .unset] [] := by first | (simp [entryFrame, mkF, argsToLocals, Value.category, maxLocals]; done) | rfl
theorem own_pd1 : parseMethodDescriptor "(I)Lcom/example/trunkbridge/trunkbridge/core/interwork/Presentation;" = some ⟨[.int], some (.object "com/example/trunkbridge/trunkbridge/core/interwork/Presentation")⟩ := by decide +kernel
def own_Qr (r : Addr) (h0 : Heap) (n0 : Nat) (v : Option Value) (h : Heap) (L : List Loc) : Prop := v = some (.ref r) ∧ Fr n0 L ∧ h = h0
def own_Qz (z : Int32) (h0 : Heap) (n0 : Nat) (v : Option Value) (h : Heap) (L : List Loc) : Prop := v = some (.int z) ∧ Fr n0 L ∧ h = h0
def own_Q0 (n0 : Nat) (v : Option Value) (h : Heap) (L : List Loc) : Prop := v = some (.int (1 : Int32)) ∧ Fr n0 L
theorem own_i3 (x : Int32) : x &&& 3 = 0 ∨ x &&& 3 = 1 ∨ x &&& 3 = 2 ∨ x &&& 3 = 3 := by
  have e := c_mask x 3 2 (by decide) (by decide)
  simp only [← Int32.toInt_inj]
  have h0 : (0 : Int32).toInt = 0 := by decide
  have h1 : (1 : Int32).toInt = 1 := by decide
  have h2 : (2 : Int32).toInt = 2 := by decide
  have h3 : (3 : Int32).toInt = 3 := by decide
  omega
set_option maxRecDepth 65536 in
set_option maxHeartbeats 40000000 in
theorem own_of0 (l : Launch) (Z : State) (a0 : Array Value) (hw : ∀ d ∈ tables_1, d.before a0 Z = true)  (w : Addr) (h0 : Heap) (n0 : Nat) (Z0 : n0 ≤ h0.size) (S_ALLOWED : Sta Z h0 "com/example/trunkbridge/trunkbridge/core/interwork/Presentation" "ALLOWED" "Lcom/example/trunkbridge/trunkbridge/core/interwork/Presentation;" (.ref w)) :
    own_C l Z (⟨"com/example/trunkbridge/trunkbridge/core/interwork/Presentation", "ofIndicator", "(I)Lcom/example/trunkbridge/trunkbridge/core/interwork/Presentation;"⟩ : MethodName) prog_23_method_4_code 1 (some (.object "com/example/trunkbridge/trunkbridge/core/interwork/Presentation")) [] ({ frames := 0, cells := 0, slots := 0, locals := 0 } : Room) #[(.int (0 : Int32))] h0 (own_Qr w h0 n0) := by
  refine MetFree.of_bodySF (plainFor_of_name own_pn0) hisR ?_
  intro p e s m args below meth c s₁ Bd hml0 hP hK
  obtain ⟨rfl, hZ, hh⟩ := hP
  have hx := Bd.exec
  have hby := Bd.bytes
  have hlk := Bd.notSynchronized
  have hret := Bd.returns
  have hml : c.maxLocals = 1 := hml0
  have hown : s.vm.findClass "com/example/trunkbridge/trunkbridge/core/interwork/Presentation" = some m.cls := findClass_of_methodNamed Bd.named
  have hnm := (name_of_methodNamed Bd.named Bd.method).1
  have X0 : Stand p l e ({ frames := 0, cells := 0, slots := 0, locals := 0 } : Room) s m #[(.int (0 : Int32))] below meth c s₁ [] 0 0 := Stand.of_body Bd
  have e0 : s₁.heap = h0 := by rw [← hh, Bd.state]; rfl
  have N0 := Fr.nil n0
  refine own_open (own_ef0 m ((0 : Int32))) ?_
  refine own_go (S' := (s₁.setTop (mkF m 1 #[.val (.int (0 : Int32))] [(.int (0 : Int32))]))) (fun _ k => XS.iloadN X0.here hx rfl (hb hby own_d_prog_23_method_4_0) rfl  k) ?_
  refine own_go (S' := (s₁.setTop (mkF m 28 #[.val (.int (0 : Int32))] []))) (fun _ k => X0.lookupswitchHit hx (g := (mkF m 1 #[.val (.int (0 : Int32))] [(.int (0 : Int32))])) rfl rfl (hb hby own_d_prog_23_method_4_1) (by decide) (a := 0) (off := 27) (by decide) (show (0 : Int) ≤ ((1 : Nat) : Int) + 27 from by decide) _ k) ?_
  obtain ⟨T1, X1, e1, st1⟩ := getS2 X0 hx hZ hown (host := "") (Or.inl (hw _ (List.mem_of_getElem? (i := 4) rfl))) Via.refl e0 S_ALLOWED (g := (mkF m 28 #[.val (.int (0 : Int32))] [])) rfl (hb hby own_d_prog_23_method_4_28)
  refine own_go (S' := (T1.setTop (mkF m 31 #[.val (.int (0 : Int32))] [(.ref w)]))) st1 ?_
  refine own_go (S' := (T1.setTop (mkF m 43 #[.val (.int (0 : Int32))] [(.ref w)]))) (fun _ k => XS.goto X1.here hx rfl (pc0 := 31) (pc' := 43) rfl (hb hby own_d_prog_23_method_4_31) (by decide) (by decide) k) ?_
  refine own_retA X1 hx hlk hret rfl rfl (hb hby own_d_prog_23_method_4_43) ?_ (by decide) (by decide)
  rw [e1]
  exact ⟨rfl, N0, rfl⟩
set_option maxRecDepth 65536 in
set_option maxHeartbeats 40000000 in
theorem own_of1 (l : Launch) (Z : State) (a0 : Array Value) (hw : ∀ d ∈ tables_1, d.before a0 Z = true)  (w : Addr) (h0 : Heap) (n0 : Nat) (Z0 : n0 ≤ h0.size) (S_RESTRICTED : Sta Z h0 "com/example/trunkbridge/trunkbridge/core/interwork/Presentation" "RESTRICTED" "Lcom/example/trunkbridge/trunkbridge/core/interwork/Presentation;" (.ref w)) :
    own_C l Z (⟨"com/example/trunkbridge/trunkbridge/core/interwork/Presentation", "ofIndicator", "(I)Lcom/example/trunkbridge/trunkbridge/core/interwork/Presentation;"⟩ : MethodName) prog_23_method_4_code 1 (some (.object "com/example/trunkbridge/trunkbridge/core/interwork/Presentation")) [] ({ frames := 0, cells := 0, slots := 0, locals := 0 } : Room) #[(.int (1 : Int32))] h0 (own_Qr w h0 n0) := by
  refine MetFree.of_bodySF (plainFor_of_name own_pn0) hisR ?_
  intro p e s m args below meth c s₁ Bd hml0 hP hK
  obtain ⟨rfl, hZ, hh⟩ := hP
  have hx := Bd.exec
  have hby := Bd.bytes
  have hlk := Bd.notSynchronized
  have hret := Bd.returns
  have hml : c.maxLocals = 1 := hml0
  have hown : s.vm.findClass "com/example/trunkbridge/trunkbridge/core/interwork/Presentation" = some m.cls := findClass_of_methodNamed Bd.named
  have hnm := (name_of_methodNamed Bd.named Bd.method).1
  have X0 : Stand p l e ({ frames := 0, cells := 0, slots := 0, locals := 0 } : Room) s m #[(.int (1 : Int32))] below meth c s₁ [] 0 0 := Stand.of_body Bd
  have e0 : s₁.heap = h0 := by rw [← hh, Bd.state]; rfl
  have N0 := Fr.nil n0
  refine own_open (own_ef0 m ((1 : Int32))) ?_
  refine own_go (S' := (s₁.setTop (mkF m 1 #[.val (.int (1 : Int32))] [(.int (1 : Int32))]))) (fun _ k => XS.iloadN X0.here hx rfl (hb hby own_d_prog_23_method_4_0) rfl  k) ?_
  refine own_go (S' := (s₁.setTop (mkF m 40 #[.val (.int (1 : Int32))] []))) (fun _ k => X0.lookupswitchMiss hx (g := (mkF m 1 #[.val (.int (1 : Int32))] [(.int (1 : Int32))])) rfl rfl (hb hby own_d_prog_23_method_4_1) (by decide) (by decide) (show (0 : Int) ≤ ((1 : Nat) : Int) + 39 from by decide) _ k) ?_
  obtain ⟨T1, X1, e1, st1⟩ := getS2 X0 hx hZ hown (host := "") (Or.inl (hw _ (List.mem_of_getElem? (i := 21) rfl))) Via.refl e0 S_RESTRICTED (g := (mkF m 40 #[.val (.int (1 : Int32))] [])) rfl (hb hby own_d_prog_23_method_4_40)
  refine own_go (S' := (T1.setTop (mkF m 43 #[.val (.int (1 : Int32))] [(.ref w)]))) st1 ?_
  refine own_retA X1 hx hlk hret rfl rfl (hb hby own_d_prog_23_method_4_43) ?_ (by decide) (by decide)
  rw [e1]
  exact ⟨rfl, N0, rfl⟩
set_option maxRecDepth 65536 in
set_option maxHeartbeats 40000000 in
theorem own_of2 (l : Launch) (Z : State) (a0 : Array Value) (hw : ∀ d ∈ tables_1, d.before a0 Z = true)  (w : Addr) (h0 : Heap) (n0 : Nat) (Z0 : n0 ≤ h0.size) (S_NOT_AVAILABLE : Sta Z h0 "com/example/trunkbridge/trunkbridge/core/interwork/Presentation" "NOT_AVAILABLE" "Lcom/example/trunkbridge/trunkbridge/core/interwork/Presentation;" (.ref w)) :
    own_C l Z (⟨"com/example/trunkbridge/trunkbridge/core/interwork/Presentation", "ofIndicator", "(I)Lcom/example/trunkbridge/trunkbridge/core/interwork/Presentation;"⟩ : MethodName) prog_23_method_4_code 1 (some (.object "com/example/trunkbridge/trunkbridge/core/interwork/Presentation")) [] ({ frames := 0, cells := 0, slots := 0, locals := 0 } : Room) #[(.int (2 : Int32))] h0 (own_Qr w h0 n0) := by
  refine MetFree.of_bodySF (plainFor_of_name own_pn0) hisR ?_
  intro p e s m args below meth c s₁ Bd hml0 hP hK
  obtain ⟨rfl, hZ, hh⟩ := hP
  have hx := Bd.exec
  have hby := Bd.bytes
  have hlk := Bd.notSynchronized
  have hret := Bd.returns
  have hml : c.maxLocals = 1 := hml0
  have hown : s.vm.findClass "com/example/trunkbridge/trunkbridge/core/interwork/Presentation" = some m.cls := findClass_of_methodNamed Bd.named
  have hnm := (name_of_methodNamed Bd.named Bd.method).1
  have X0 : Stand p l e ({ frames := 0, cells := 0, slots := 0, locals := 0 } : Room) s m #[(.int (2 : Int32))] below meth c s₁ [] 0 0 := Stand.of_body Bd
  have e0 : s₁.heap = h0 := by rw [← hh, Bd.state]; rfl
  have N0 := Fr.nil n0
  refine own_open (own_ef0 m ((2 : Int32))) ?_
  refine own_go (S' := (s₁.setTop (mkF m 1 #[.val (.int (2 : Int32))] [(.int (2 : Int32))]))) (fun _ k => XS.iloadN X0.here hx rfl (hb hby own_d_prog_23_method_4_0) rfl  k) ?_
  refine own_go (S' := (s₁.setTop (mkF m 34 #[.val (.int (2 : Int32))] []))) (fun _ k => X0.lookupswitchHit hx (g := (mkF m 1 #[.val (.int (2 : Int32))] [(.int (2 : Int32))])) rfl rfl (hb hby own_d_prog_23_method_4_1) (by decide) (a := 2) (off := 33) (by decide) (show (0 : Int) ≤ ((1 : Nat) : Int) + 33 from by decide) _ k) ?_
  obtain ⟨T1, X1, e1, st1⟩ := getS2 X0 hx hZ hown (host := "") (Or.inl (hw _ (List.mem_of_getElem? (i := 24) rfl))) Via.refl e0 S_NOT_AVAILABLE (g := (mkF m 34 #[.val (.int (2 : Int32))] [])) rfl (hb hby own_d_prog_23_method_4_34)
  refine own_go (S' := (T1.setTop (mkF m 37 #[.val (.int (2 : Int32))] [(.ref w)]))) st1 ?_
  refine own_go (S' := (T1.setTop (mkF m 43 #[.val (.int (2 : Int32))] [(.ref w)]))) (fun _ k => XS.goto X1.here hx rfl (pc0 := 37) (pc' := 43) rfl (hb hby own_d_prog_23_method_4_37) (by decide) (by decide) k) ?_
  refine own_retA X1 hx hlk hret rfl rfl (hb hby own_d_prog_23_method_4_43) ?_ (by decide) (by decide)
  rw [e1]
  exact ⟨rfl, N0, rfl⟩
set_option maxRecDepth 65536 in
set_option maxHeartbeats 40000000 in
theorem own_of3 (l : Launch) (Z : State) (a0 : Array Value) (hw : ∀ d ∈ tables_1, d.before a0 Z = true)  (w : Addr) (h0 : Heap) (n0 : Nat) (Z0 : n0 ≤ h0.size) (S_RESTRICTED : Sta Z h0 "com/example/trunkbridge/trunkbridge/core/interwork/Presentation" "RESTRICTED" "Lcom/example/trunkbridge/trunkbridge/core/interwork/Presentation;" (.ref w)) :
    own_C l Z (⟨"com/example/trunkbridge/trunkbridge/core/interwork/Presentation", "ofIndicator", "(I)Lcom/example/trunkbridge/trunkbridge/core/interwork/Presentation;"⟩ : MethodName) prog_23_method_4_code 1 (some (.object "com/example/trunkbridge/trunkbridge/core/interwork/Presentation")) [] ({ frames := 0, cells := 0, slots := 0, locals := 0 } : Room) #[(.int (3 : Int32))] h0 (own_Qr w h0 n0) := by
  refine MetFree.of_bodySF (plainFor_of_name own_pn0) hisR ?_
  intro p e s m args below meth c s₁ Bd hml0 hP hK
  obtain ⟨rfl, hZ, hh⟩ := hP
  have hx := Bd.exec
  have hby := Bd.bytes
  have hlk := Bd.notSynchronized
  have hret := Bd.returns
  have hml : c.maxLocals = 1 := hml0
  have hown : s.vm.findClass "com/example/trunkbridge/trunkbridge/core/interwork/Presentation" = some m.cls := findClass_of_methodNamed Bd.named
  have hnm := (name_of_methodNamed Bd.named Bd.method).1
  have X0 : Stand p l e ({ frames := 0, cells := 0, slots := 0, locals := 0 } : Room) s m #[(.int (3 : Int32))] below meth c s₁ [] 0 0 := Stand.of_body Bd
  have e0 : s₁.heap = h0 := by rw [← hh, Bd.state]; rfl
  have N0 := Fr.nil n0
  refine own_open (own_ef0 m ((3 : Int32))) ?_
  refine own_go (S' := (s₁.setTop (mkF m 1 #[.val (.int (3 : Int32))] [(.int (3 : Int32))]))) (fun _ k => XS.iloadN X0.here hx rfl (hb hby own_d_prog_23_method_4_0) rfl  k) ?_
  refine own_go (S' := (s₁.setTop (mkF m 40 #[.val (.int (3 : Int32))] []))) (fun _ k => X0.lookupswitchMiss hx (g := (mkF m 1 #[.val (.int (3 : Int32))] [(.int (3 : Int32))])) rfl rfl (hb hby own_d_prog_23_method_4_1) (by decide) (by decide) (show (0 : Int) ≤ ((1 : Nat) : Int) + 39 from by decide) _ k) ?_
  obtain ⟨T1, X1, e1, st1⟩ := getS2 X0 hx hZ hown (host := "") (Or.inl (hw _ (List.mem_of_getElem? (i := 21) rfl))) Via.refl e0 S_RESTRICTED (g := (mkF m 40 #[.val (.int (3 : Int32))] [])) rfl (hb hby own_d_prog_23_method_4_40)
  refine own_go (S' := (T1.setTop (mkF m 43 #[.val (.int (3 : Int32))] [(.ref w)]))) st1 ?_
  refine own_retA X1 hx hlk hret rfl rfl (hb hby own_d_prog_23_method_4_43) ?_ (by decide) (by decide)
  rw [e1]
  exact ⟨rfl, N0, rfl⟩
set_option maxRecDepth 65536 in
set_option maxHeartbeats 40000000 in
theorem own_ord (l : Launch) (Z : State) (a0 : Array Value) (hw : ∀ d ∈ tables_1, d.before a0 Z = true) (a1 : Addr) (z : Int32) (h0 : Heap) (n0 : Nat) (Z0 : n0 ≤ h0.size) (F : Fld Z h0 a1 "java/lang/Enum" "ordinal" "I" (.int z)) :
    own_C l Z (⟨"java/lang/Enum", "ordinal", "()I"⟩ : MethodName) jdk_37_method_2_code 1 (some .int) [] ({ frames := 0, cells := 0, slots := 0, locals := 0 } : Room) #[(.ref a1)] h0 (own_Qz z h0 n0) := by
  refine MetFree.of_bodySF (plainFor_of_name own_pn1) hisR ?_
  intro p e s m args below meth c s₁ Bd hml0 hP hK
  obtain ⟨rfl, hZ, hh⟩ := hP
  have hx := Bd.exec
  have hby := Bd.bytes
  have hlk := Bd.notSynchronized
  have hret := Bd.returns
  have hml : c.maxLocals = 1 := hml0
  have hown : s.vm.findClass "java/lang/Enum" = some m.cls := findClass_of_methodNamed Bd.named
  have hnm := (name_of_methodNamed Bd.named Bd.method).1
  have X0 : Stand p l e ({ frames := 0, cells := 0, slots := 0, locals := 0 } : Room) s m #[(.ref a1)] below meth c s₁ [] 0 0 := Stand.of_body Bd
  have e0 : s₁.heap = h0 := by rw [← hh, Bd.state]; rfl
  have N0 := Fr.nil n0
  refine own_open (own_ef1 m a1) ?_
  refine own_go (S' := (s₁.setTop (mkF m 1 #[.val (.ref a1)] [(.ref a1)]))) (fun _ k => XS.aloadN X0.here hx rfl (hb hby own_d_jdk_37_method_2_0) rfl rfl  k) ?_
  obtain ⟨T1, X1, e1, st1⟩ := getF X0 hx hZ hown (host := "") (Or.inl (hw _ (List.mem_of_getElem? (i := 19) rfl))) Via.refl e0 F (g := (mkF m 1 #[.val (.ref a1)] [(.ref a1)])) rfl rfl (hb hby own_d_jdk_37_method_2_1)
  refine own_go (S' := (T1.setTop (mkF m 4 #[.val (.ref a1)] [(.int z)]))) st1 ?_
  refine own_retI X1 hx hlk hret (hb hby own_d_jdk_37_method_2_4) ?_ (by decide) (by decide)
  rw [e1]
  exact ⟨rfl, N0, rfl⟩
set_option maxRecDepth 65536 in
set_option maxHeartbeats 40000000 in
theorem own_ind0 (l : Launch) (Z : State) (a0 : Array Value) (hw : ∀ d ∈ tables_1, d.before a0 Z = true) (a1 : Addr)  (h0 : Heap) (n0 : Nat) (Z0 : n0 ≤ h0.size) (E : Exa Z h0 a1 "com/example/trunkbridge/trunkbridge/core/interwork/Presentation") (F : Fld Z h0 a1 "java/lang/Enum" "ordinal" "I" (.int (0 : Int32))) :
    own_C l Z (⟨"com/example/trunkbridge/trunkbridge/core/interwork/Presentation", "indicator", "()I"⟩ : MethodName) prog_23_method_5_code 1 (some .int) [] ({ frames := 1, cells := 0, slots := 0, locals := 12 } : Room) #[(.ref a1)] h0 (own_Qz (0 : Int32) h0 n0) := by
  refine MetFree.of_bodySF (plainFor_of_name own_pn0) hisR ?_
  intro p e s m args below meth c s₁ Bd hml0 hP hK
  obtain ⟨rfl, hZ, hh⟩ := hP
  have hx := Bd.exec
  have hby := Bd.bytes
  have hlk := Bd.notSynchronized
  have hret := Bd.returns
  have hml : c.maxLocals = 1 := hml0
  have hown : s.vm.findClass "com/example/trunkbridge/trunkbridge/core/interwork/Presentation" = some m.cls := findClass_of_methodNamed Bd.named
  have hnm := (name_of_methodNamed Bd.named Bd.method).1
  have X0 : Stand p l e ({ frames := 1, cells := 0, slots := 0, locals := 12 } : Room) s m #[(.ref a1)] below meth c s₁ [] 0 0 := Stand.of_body Bd
  have e0 : s₁.heap = h0 := by rw [← hh, Bd.state]; rfl
  have N0 := Fr.nil n0
  refine own_open (own_ef1 m a1) ?_
  refine own_go (S' := (s₁.setTop (mkF m 1 #[.val (.ref a1)] [(.ref a1)]))) (fun _ k => XS.aloadN X0.here hx rfl (hb hby own_d_prog_23_method_5_0) rfl rfl  k) ?_
  obtain ⟨cq1, kq1, q1a, q1b, q1c⟩ := isOf hZ e0 (E)
  obtain ⟨_, _, ⟨T1, L1, k1, n1⟩, -, X1, ⟨Lc1, hQ1, l1, y1, z1⟩, st1⟩ := X0.virtualBackUp hx (owner := "java/lang/Enum") (x := (⟨"com/example/trunkbridge/trunkbridge/core/interwork/Presentation", "ordinal", "()I"⟩ : MethodName)) (y := (⟨"java/lang/Enum", "ordinal", "()I"⟩ : MethodName)) hown (mvT hZ (hw _ (List.mem_of_getElem? (i := 12) rfl))) (mvT hZ (hw _ (List.mem_of_getElem? (i := 13) rfl))) (mvT hZ (hw _ (List.mem_of_getElem? (i := 14) rfl))) (by decide) (mvT hZ (hw _ (List.mem_of_getElem? (i := 16) rfl))) (mvT hZ (hw _ (List.mem_of_getElem? (i := 15) rfl))) (backOf (W := 0) (own_ord l Z a0 hw a1 (0 : Int32) h0 n0 Z0 F) hZ (hw _ (List.mem_of_getElem? (i := 18) rfl)) (hw _ (List.mem_of_getElem? (i := 17) rfl)) (by decide) (by decide)) q1a q1c (g := (mkF m 1 #[.val (.ref a1)] [(.ref a1)])) rfl (by rw [hml]; rfl) (Steps.refl _) (argsL := []) (rest := []) (lenOf own_pd0 rfl) rfl (by show 2 * 0 + _ ≤ _; exact Nat.le_of_eq rfl) (hb hby own_d_prog_23_method_5_1) (fun _ _ => ⟨rfl, e0, (by decide : 0 + 0 ≤ _), (by decide : 0 + 0 ≤ _)⟩)
  dsimp only [Pt.U, Pt.locs, Pt.cells, Pt.slots] at X1 l1 y1 z1 st1 hQ1
  subst l1 y1 z1
  obtain ⟨rfl, N1q, hh1⟩ := hQ1
  have N1 := Fr.app N0 N1q
  refine own_via (S' := (T1.setTop (mkF m 4 #[.val (.ref a1)] [(.int (0 : Int32))]))) st1 ?_
  refine own_go (S' := (T1.setTop (mkF m 42 #[.val (.ref a1)] []))) (fun _ k => X1.tableswitchIn hx (g := (mkF m 4 #[.val (.ref a1)] [(.int (0 : Int32))])) rfl rfl (hb hby own_d_prog_23_method_5_4) (by decide) (off := 38) (by decide) (show (0 : Int) ≤ ((4 : Nat) : Int) + 38 from by decide) _ k) ?_
  refine own_go (S' := (T1.setTop (mkF m 43 #[.val (.ref a1)] [(.int (0 : Int32))]))) (fun _ k => XS.iconst X1.here hx rfl (hb hby own_d_prog_23_method_5_42) k) ?_
  refine own_go (S' := (T1.setTop (mkF m 51 #[.val (.ref a1)] [(.int (0 : Int32))]))) (fun _ k => XS.goto X1.here hx rfl (pc0 := 43) (pc' := 51) rfl (hb hby own_d_prog_23_method_5_43) (by decide) (by decide) k) ?_
  refine own_retI X1 hx hlk hret (hb hby own_d_prog_23_method_5_51) ?_ (by decide) (by decide)
  exact ⟨rfl, N1, hh1⟩
set_option maxRecDepth 65536 in
set_option maxHeartbeats 40000000 in
theorem own_ind1 (l : Launch) (Z : State) (a0 : Array Value) (hw : ∀ d ∈ tables_1, d.before a0 Z = true) (a1 : Addr)  (h0 : Heap) (n0 : Nat) (Z0 : n0 ≤ h0.size) (E : Exa Z h0 a1 "com/example/trunkbridge/trunkbridge/core/interwork/Presentation") (F : Fld Z h0 a1 "java/lang/Enum" "ordinal" "I" (.int (1 : Int32))) :
    own_C l Z (⟨"com/example/trunkbridge/trunkbridge/core/interwork/Presentation", "indicator", "()I"⟩ : MethodName) prog_23_method_5_code 1 (some .int) [] ({ frames := 1, cells := 0, slots := 0, locals := 12 } : Room) #[(.ref a1)] h0 (own_Qz (1 : Int32) h0 n0) := by
  refine MetFree.of_bodySF (plainFor_of_name own_pn0) hisR ?_
  intro p e s m args below meth c s₁ Bd hml0 hP hK
  obtain ⟨rfl, hZ, hh⟩ := hP
  have hx := Bd.exec
  have hby := Bd.bytes
  have hlk := Bd.notSynchronized
  have hret := Bd.returns
  have hml : c.maxLocals = 1 := hml0
  have hown : s.vm.findClass "com/example/trunkbridge/trunkbridge/core/interwork/Presentation" = some m.cls := findClass_of_methodNamed Bd.named
  have hnm := (name_of_methodNamed Bd.named Bd.method).1
  have X0 : Stand p l e ({ frames := 1, cells := 0, slots := 0, locals := 12 } : Room) s m #[(.ref a1)] below meth c s₁ [] 0 0 := Stand.of_body Bd
  have e0 : s₁.heap = h0 := by rw [← hh, Bd.state]; rfl
  have N0 := Fr.nil n0
  refine own_open (own_ef1 m a1) ?_
  refine own_go (S' := (s₁.setTop (mkF m 1 #[.val (.ref a1)] [(.ref a1)]))) (fun _ k => XS.aloadN X0.here hx rfl (hb hby own_d_prog_23_method_5_0) rfl rfl  k) ?_
  obtain ⟨cq1, kq1, q1a, q1b, q1c⟩ := isOf hZ e0 (E)
  obtain ⟨_, _, ⟨T1, L1, k1, n1⟩, -, X1, ⟨Lc1, hQ1, l1, y1, z1⟩, st1⟩ := X0.virtualBackUp hx (owner := "java/lang/Enum") (x := (⟨"com/example/trunkbridge/trunkbridge/core/interwork/Presentation", "ordinal", "()I"⟩ : MethodName)) (y := (⟨"java/lang/Enum", "ordinal", "()I"⟩ : MethodName)) hown (mvT hZ (hw _ (List.mem_of_getElem? (i := 12) rfl))) (mvT hZ (hw _ (List.mem_of_getElem? (i := 13) rfl))) (mvT hZ (hw _ (List.mem_of_getElem? (i := 14) rfl))) (by decide) (mvT hZ (hw _ (List.mem_of_getElem? (i := 16) rfl))) (mvT hZ (hw _ (List.mem_of_getElem? (i := 15) rfl))) (backOf (W := 0) (own_ord l Z a0 hw a1 (1 : Int32) h0 n0 Z0 F) hZ (hw _ (List.mem_of_getElem? (i := 18) rfl)) (hw _ (List.mem_of_getElem? (i := 17) rfl)) (by decide) (by decide)) q1a q1c (g := (mkF m 1 #[.val (.ref a1)] [(.ref a1)])) rfl (by rw [hml]; rfl) (Steps.refl _) (argsL := []) (rest := []) (lenOf own_pd0 rfl) rfl (by show 2 * 0 + _ ≤ _; exact Nat.le_of_eq rfl) (hb hby own_d_prog_23_method_5_1) (fun _ _ => ⟨rfl, e0, (by decide : 0 + 0 ≤ _), (by decide : 0 + 0 ≤ _)⟩)
  dsimp only [Pt.U, Pt.locs, Pt.cells, Pt.slots] at X1 l1 y1 z1 st1 hQ1
  subst l1 y1 z1
  obtain ⟨rfl, N1q, hh1⟩ := hQ1
  have N1 := Fr.app N0 N1q
  refine own_via (S' := (T1.setTop (mkF m 4 #[.val (.ref a1)] [(.int (1 : Int32))]))) st1 ?_
  refine own_go (S' := (T1.setTop (mkF m 46 #[.val (.ref a1)] []))) (fun _ k => X1.tableswitchIn hx (g := (mkF m 4 #[.val (.ref a1)] [(.int (1 : Int32))])) rfl rfl (hb hby own_d_prog_23_method_5_4) (by decide) (off := 42) (by decide) (show (0 : Int) ≤ ((4 : Nat) : Int) + 42 from by decide) _ k) ?_
  refine own_go (S' := (T1.setTop (mkF m 47 #[.val (.ref a1)] [(.int (1 : Int32))]))) (fun _ k => XS.iconst X1.here hx rfl (hb hby own_d_prog_23_method_5_46) k) ?_
  refine own_go (S' := (T1.setTop (mkF m 51 #[.val (.ref a1)] [(.int (1 : Int32))]))) (fun _ k => XS.goto X1.here hx rfl (pc0 := 47) (pc' := 51) rfl (hb hby own_d_prog_23_method_5_47) (by decide) (by decide) k) ?_
  refine own_retI X1 hx hlk hret (hb hby own_d_prog_23_method_5_51) ?_ (by decide) (by decide)
  exact ⟨rfl, N1, hh1⟩
set_option maxRecDepth 65536 in
set_option maxHeartbeats 40000000 in
theorem own_ind2 (l : Launch) (Z : State) (a0 : Array Value) (hw : ∀ d ∈ tables_1, d.before a0 Z = true) (a1 : Addr)  (h0 : Heap) (n0 : Nat) (Z0 : n0 ≤ h0.size) (E : Exa Z h0 a1 "com/example/trunkbridge/trunkbridge/core/interwork/Presentation") (F : Fld Z h0 a1 "java/lang/Enum" "ordinal" "I" (.int (2 : Int32))) :
    own_C l Z (⟨"com/example/trunkbridge/trunkbridge/core/interwork/Presentation", "indicator", "()I"⟩ : MethodName) prog_23_method_5_code 1 (some .int) [] ({ frames := 1, cells := 0, slots := 0, locals := 12 } : Room) #[(.ref a1)] h0 (own_Qz (2 : Int32) h0 n0) := by
  refine MetFree.of_bodySF (plainFor_of_name own_pn0) hisR ?_
  intro p e s m args below meth c s₁ Bd hml0 hP hK
  obtain ⟨rfl, hZ, hh⟩ := hP
  have hx := Bd.exec
  have hby := Bd.bytes
  have hlk := Bd.notSynchronized
  have hret := Bd.returns
  have hml : c.maxLocals = 1 := hml0
  have hown : s.vm.findClass "com/example/trunkbridge/trunkbridge/core/interwork/Presentation" = some m.cls := findClass_of_methodNamed Bd.named
  have hnm := (name_of_methodNamed Bd.named Bd.method).1
  have X0 : Stand p l e ({ frames := 1, cells := 0, slots := 0, locals := 12 } : Room) s m #[(.ref a1)] below meth c s₁ [] 0 0 := Stand.of_body Bd
  have e0 : s₁.heap = h0 := by rw [← hh, Bd.state]; rfl
  have N0 := Fr.nil n0
  refine own_open (own_ef1 m a1) ?_
  refine own_go (S' := (s₁.setTop (mkF m 1 #[.val (.ref a1)] [(.ref a1)]))) (fun _ k => XS.aloadN X0.here hx rfl (hb hby own_d_prog_23_method_5_0) rfl rfl  k) ?_
  obtain ⟨cq1, kq1, q1a, q1b, q1c⟩ := isOf hZ e0 (E)
  obtain ⟨_, _, ⟨T1, L1, k1, n1⟩, -, X1, ⟨Lc1, hQ1, l1, y1, z1⟩, st1⟩ := X0.virtualBackUp hx (owner := "java/lang/Enum") (x := (⟨"com/example/trunkbridge/trunkbridge/core/interwork/Presentation", "ordinal", "()I"⟩ : MethodName)) (y := (⟨"java/lang/Enum", "ordinal", "()I"⟩ : MethodName)) hown (mvT hZ (hw _ (List.mem_of_getElem? (i := 12) rfl))) (mvT hZ (hw _ (List.mem_of_getElem? (i := 13) rfl))) (mvT hZ (hw _ (List.mem_of_getElem? (i := 14) rfl))) (by decide) (mvT hZ (hw _ (List.mem_of_getElem? (i := 16) rfl))) (mvT hZ (hw _ (List.mem_of_getElem? (i := 15) rfl))) (backOf (W := 0) (own_ord l Z a0 hw a1 (2 : Int32) h0 n0 Z0 F) hZ (hw _ (List.mem_of_getElem? (i := 18) rfl)) (hw _ (List.mem_of_getElem? (i := 17) rfl)) (by decide) (by decide)) q1a q1c (g := (mkF m 1 #[.val (.ref a1)] [(.ref a1)])) rfl (by rw [hml]; rfl) (Steps.refl _) (argsL := []) (rest := []) (lenOf own_pd0 rfl) rfl (by show 2 * 0 + _ ≤ _; exact Nat.le_of_eq rfl) (hb hby own_d_prog_23_method_5_1) (fun _ _ => ⟨rfl, e0, (by decide : 0 + 0 ≤ _), (by decide : 0 + 0 ≤ _)⟩)
  dsimp only [Pt.U, Pt.locs, Pt.cells, Pt.slots] at X1 l1 y1 z1 st1 hQ1
  subst l1 y1 z1
  obtain ⟨rfl, N1q, hh1⟩ := hQ1
  have N1 := Fr.app N0 N1q
  refine own_via (S' := (T1.setTop (mkF m 4 #[.val (.ref a1)] [(.int (2 : Int32))]))) st1 ?_
  refine own_go (S' := (T1.setTop (mkF m 50 #[.val (.ref a1)] []))) (fun _ k => X1.tableswitchIn hx (g := (mkF m 4 #[.val (.ref a1)] [(.int (2 : Int32))])) rfl rfl (hb hby own_d_prog_23_method_5_4) (by decide) (off := 46) (by decide) (show (0 : Int) ≤ ((4 : Nat) : Int) + 46 from by decide) _ k) ?_
  refine own_go (S' := (T1.setTop (mkF m 51 #[.val (.ref a1)] [(.int (2 : Int32))]))) (fun _ k => XS.iconst X1.here hx rfl (hb hby own_d_prog_23_method_5_50) k) ?_
  refine own_retI X1 hx hlk hret (hb hby own_d_prog_23_method_5_51) ?_ (by decide) (by decide)
  exact ⟨rfl, N1, hh1⟩
set_option maxRecDepth 65536 in
set_option maxHeartbeats 40000000 in
theorem own_rm0 (l : Launch) (Z : State) (a0 : Array Value) (hw : ∀ d ∈ tables_1, d.before a0 Z = true) (p1 : Int32) (w0 w1 w2 : Addr) (h0 : Heap) (n0 : Nat) (Z0 : n0 ≤ h0.size) (S_ALLOWED : Sta Z h0 "com/example/trunkbridge/trunkbridge/core/interwork/Presentation" "ALLOWED" "Lcom/example/trunkbridge/trunkbridge/core/interwork/Presentation;" (.ref w0)) (E_ALLOWED : Exa Z h0 w0 "com/example/trunkbridge/trunkbridge/core/interwork/Presentation") (F_ALLOWED : Fld Z h0 w0 "java/lang/Enum" "ordinal" "I" (.int (0 : Int32))) (S_RESTRICTED : Sta Z h0 "com/example/trunkbridge/trunkbridge/core/interwork/Presentation" "RESTRICTED" "Lcom/example/trunkbridge/trunkbridge/core/interwork/Presentation;" (.ref w1)) (E_RESTRICTED : Exa Z h0 w1 "com/example/trunkbridge/trunkbridge/core/interwork/Presentation") (F_RESTRICTED : Fld Z h0 w1 "java/lang/Enum" "ordinal" "I" (.int (1 : Int32))) (S_NOT_AVAILABLE : Sta Z h0 "com/example/trunkbridge/trunkbridge/core/interwork/Presentation" "NOT_AVAILABLE" "Lcom/example/trunkbridge/trunkbridge/core/interwork/Presentation;" (.ref w2)) (E_NOT_AVAILABLE : Exa Z h0 w2 "com/example/trunkbridge/trunkbridge/core/interwork/Presentation") (F_NOT_AVAILABLE : Fld Z h0 w2 "java/lang/Enum" "ordinal" "I" (.int (2 : Int32))) :
    own_C l Z x code maxLocals ret tables_1 room_1 #[(.int p1)] h0 (own_Q0 n0) := by
  refine MetFree.of_bodySF (plainFor_of_name own_pn2) hisR ?_
  intro p e s m args below meth c s₁ Bd hml0 hP hK
  obtain ⟨rfl, hZ, hh⟩ := hP
  have hx := Bd.exec
  have hby := Bd.bytes
  have hlk := Bd.notSynchronized
  have hret := Bd.returns
  have hml : c.maxLocals = 6 := hml0
  have hown : s.vm.findClass "com/example/trunkbridge/trunkbridge/core/interwork/PresentationOfIndicatorPinLaw" = some m.cls := findClass_of_methodNamed Bd.named
  have hnm := (name_of_methodNamed Bd.named Bd.method).1
  have X0 : Stand p l e room_1 s m #[(.int p1)] below meth c s₁ [] 0 0 := Stand.of_body Bd
  have e0 : s₁.heap = h0 := by rw [← hh, Bd.state]; rfl
  have N0 := Fr.nil n0
  refine own_open (own_ef2 m p1) ?_
  refine own_go (S' := (s₁.setTop (mkF m 1 #[.val (.int p1), .unset, .unset, .unset, .unset, .unset] [(.int p1)]))) (fun _ k => XS.iloadN X0.here hx rfl (hb hby at_0) rfl  k) ?_
  refine own_go (S' := (s₁.setTop (mkF m 2 #[.val (.int p1), .unset, .unset, .unset, .unset, .unset] [(.int (3 : Int32)), (.int p1)]))) (fun _ k => XS.iconst X0.here hx rfl (hb hby at_1) k) ?_
  refine own_go (S' := (s₁.setTop (mkF m 3 #[.val (.int p1), .unset, .unset, .unset, .unset, .unset] [(.int (p1 &&& (3 : Int32)))]))) (fun _ k => XS.iand X0.here hx rfl (hb hby at_2) rfl k) ?_
  refine own_go (S' := (s₁.setTop (mkF m 4 #[.val (.int p1), .val (.int (p1 &&& (3 : Int32))), .unset, .unset, .unset, .unset] []))) (fun _ k => XS.istoreN X0.here hx rfl (hb hby at_3) rfl (l' := #[.val (.int p1), .val (.int (p1 &&& (3 : Int32))), .unset, .unset, .unset, .unset]) rfl k) ?_
  rcases own_i3 p1 with q | q | q | q <;> rw [q]
  · skip
    refine own_go (S' := (s₁.setTop (mkF m 5 #[.val (.int p1), .val (.int (0 : Int32)), .unset, .unset, .unset, .unset] [(.int (0 : Int32))]))) (fun _ k => XS.iloadN X0.here hx rfl (hb hby at_4) rfl  k) ?_
    obtain ⟨_, _, ⟨T1, L1, k1, n1⟩, -, X1, ⟨Lc1, hQ1, l1, y1, z1⟩, st1⟩ := Jvm.LawKit.callS X0 hx (y := (⟨"com/example/trunkbridge/trunkbridge/core/interwork/Presentation", "ofIndicator", "(I)Lcom/example/trunkbridge/trunkbridge/core/interwork/Presentation;"⟩ : MethodName)) hown (mvT hZ (hw _ (List.mem_of_getElem? (i := 0) rfl))) (mvT hZ (hw _ (List.mem_of_getElem? (i := 1) rfl))) (mvT hZ (hw _ (List.mem_of_getElem? (i := 2) rfl))) (mvT hZ (hw _ (List.mem_of_getElem? (i := 3) rfl))) (by decide) (backOf (W := 0) (own_of0 l Z a0 hw w0 h0 n0 Z0 S_ALLOWED) hZ (hw _ (List.mem_of_getElem? (i := 3) rfl)) (hw _ (List.mem_of_getElem? (i := 2) rfl)) (by decide) (by decide)) (g := (mkF m 5 #[.val (.int p1), .val (.int (0 : Int32)), .unset, .unset, .unset, .unset] [(.int (0 : Int32))])) rfl (by rw [hml]; rfl) (argsL := [(.int (0 : Int32))]) (rest := []) (lenOf own_pd1 rfl) rfl (by show 2 * 0 + _ ≤ _; exact Nat.le_of_eq rfl) (hb hby at_5) (fun _ _ => ⟨rfl, e0, (by decide : 0 + 0 ≤ _), (by decide : 0 + 0 ≤ _)⟩)
    dsimp only [Pt.U, Pt.locs, Pt.cells, Pt.slots] at X1 l1 y1 z1 st1 hQ1
    subst l1 y1 z1
    obtain ⟨rfl, N1q, hh1⟩ := hQ1
    have N1 := Fr.app N0 N1q
    refine own_go (S' := (T1.setTop (mkF m 8 #[.val (.int p1), .val (.int (0 : Int32)), .unset, .unset, .unset, .unset] [(.ref w0)]))) st1 ?_
    have S1_ALLOWED := S_ALLOWED
    rw [← hh1] at S1_ALLOWED
    have S1_RESTRICTED := S_RESTRICTED
    rw [← hh1] at S1_RESTRICTED
    have S1_NOT_AVAILABLE := S_NOT_AVAILABLE
    rw [← hh1] at S1_NOT_AVAILABLE
    have E1_ALLOWED := E_ALLOWED
    rw [← hh1] at E1_ALLOWED
    have F1_ALLOWED := F_ALLOWED
    rw [← hh1] at F1_ALLOWED
    have Z1 := Z0
    rw [← hh1] at Z1
    refine own_go (S' := (T1.setTop (mkF m 9 #[.val (.int p1), .val (.int (0 : Int32)), .val (.ref w0), .unset, .unset, .unset] []))) (fun _ k => XS.astoreN X1.here hx rfl (hb hby at_8) rfl rfl (l' := #[.val (.int p1), .val (.int (0 : Int32)), .val (.ref w0), .unset, .unset, .unset]) rfl k) ?_
    refine own_go (S' := (T1.setTop (mkF m 10 #[.val (.int p1), .val (.int (0 : Int32)), .val (.ref w0), .unset, .unset, .unset] [(.int (0 : Int32))]))) (fun _ k => XS.iloadN X1.here hx rfl (hb hby at_9) rfl  k) ?_
    refine own_go (S' := (T1.setTop (mkF m 13 #[.val (.int p1), .val (.int (0 : Int32)), .val (.ref w0), .unset, .unset, .unset] []))) (fun _ k => XS.ifNo X1.here hx rfl (hb hby at_10) rfl ((if0 _ _).trans (teq rfl).2) k) ?_
    obtain ⟨T2, X2, e2, st2⟩ := getS2 X1 hx hZ hown (host := "") (Or.inl (hw _ (List.mem_of_getElem? (i := 6) rfl))) Via.refl rfl S1_ALLOWED (g := (mkF m 13 #[.val (.int p1), .val (.int (0 : Int32)), .val (.ref w0), .unset, .unset, .unset] [])) rfl (hb hby at_13)
    refine own_go (S' := (T2.setTop (mkF m 16 #[.val (.int p1), .val (.int (0 : Int32)), .val (.ref w0), .unset, .unset, .unset] [(.ref w0)]))) st2 ?_
    refine own_go (S' := (T2.setTop (mkF m 17 #[.val (.int p1), .val (.int (0 : Int32)), .val (.ref w0), .val (.ref w0), .unset, .unset] []))) (fun _ k => XS.astoreN X2.here hx rfl (hb hby at_16) rfl rfl (l' := #[.val (.int p1), .val (.int (0 : Int32)), .val (.ref w0), .val (.ref w0), .unset, .unset]) rfl k) ?_
    refine own_go (S' := (T2.setTop (mkF m 36 #[.val (.int p1), .val (.int (0 : Int32)), .val (.ref w0), .val (.ref w0), .unset, .unset] []))) (fun _ k => XS.goto X2.here hx rfl (pc0 := 17) (pc' := 36) rfl (hb hby at_17) (by decide) (by decide) k) ?_
    refine own_go (S' := (T2.setTop (mkF m 37 #[.val (.int p1), .val (.int (0 : Int32)), .val (.ref w0), .val (.ref w0), .unset, .unset] [(.ref w0)]))) (fun _ k => XS.aloadN X2.here hx rfl (hb hby at_36) rfl rfl  k) ?_
    refine own_go (S' := (T2.setTop (mkF m 38 #[.val (.int p1), .val (.int (0 : Int32)), .val (.ref w0), .val (.ref w0), .unset, .unset] [(.ref w0), (.ref w0)]))) (fun _ k => XS.aloadN X2.here hx rfl (hb hby at_37) rfl rfl  k) ?_
    refine own_go (S' := (T2.setTop (mkF m 43 #[.val (.int p1), .val (.int (0 : Int32)), .val (.ref w0), .val (.ref w0), .unset, .unset] []))) (fun _ k => Jvm.RoadKit.acmp (g := (mkF m 38 #[.val (.int p1), .val (.int (0 : Int32)), .val (.ref w0), .val (.ref w0), .unset, .unset] [(.ref w0), (.ref w0)])) X2 hx rfl rfl rfl (pc0 := 38) (pc' := 43) (same := true) rfl (hb hby at_38) rfl (decide_eq_true rfl) (by decide) (by decide) k) ?_
    refine own_go (S' := (T2.setTop (mkF m 44 #[.val (.int p1), .val (.int (0 : Int32)), .val (.ref w0), .val (.ref w0), .unset, .unset] [(.ref w0)]))) (fun _ k => XS.aloadN X2.here hx rfl (hb hby at_43) rfl rfl  k) ?_
    obtain ⟨cq3, kq3, q3a, q3b, q3c⟩ := isOf hZ e2 (E1_ALLOWED)
    obtain ⟨_, _, ⟨T3, L3, k3, n3⟩, -, X3, ⟨Lc3, hQ3, l3, y3, z3⟩, st3⟩ := X2.virtualBack hx (y := (⟨"com/example/trunkbridge/trunkbridge/core/interwork/Presentation", "indicator", "()I"⟩ : MethodName)) (z := (⟨"com/example/trunkbridge/trunkbridge/core/interwork/Presentation", "indicator", "()I"⟩ : MethodName)) hown (mvT hZ (hw _ (List.mem_of_getElem? (i := 7) rfl))) (mvT hZ (hw _ (List.mem_of_getElem? (i := 8) rfl))) (notFace_of_selects (args := #[]) (mvT hZ (hw _ (List.mem_of_getElem? (i := 10) rfl)))) (mvT hZ (hw _ (List.mem_of_getElem? (i := 10) rfl))) (mvT hZ (hw _ (List.mem_of_getElem? (i := 9) rfl))) (by decide) (backOf (W := 0) (own_ind0 l Z a0 hw w0 T1.heap n0 Z1 E1_ALLOWED F1_ALLOWED) hZ (hw _ (List.mem_of_getElem? (i := 11) rfl)) (hw _ (List.mem_of_getElem? (i := 2) rfl)) (by decide) (by decide)) q3a q3c (g := (mkF m 44 #[.val (.int p1), .val (.int (0 : Int32)), .val (.ref w0), .val (.ref w0), .unset, .unset] [(.ref w0)])) rfl (by rw [hml]; rfl) (Steps.refl _) (argsL := []) (rest := []) (lenOf own_pd0 rfl) rfl (by show 2 * 0 + _ ≤ _; exact Nat.le_of_eq rfl) (hb hby at_44) (fun _ _ => ⟨rfl, e2, (by decide : 0 + 0 ≤ _), (by decide : 0 + 0 ≤ _)⟩)
    dsimp only [Pt.U, Pt.locs, Pt.cells, Pt.slots] at X3 l3 y3 z3 st3 hQ3
    subst l3 y3 z3
    obtain ⟨rfl, N3q, hh3⟩ := hQ3
    have N3 := Fr.app N1 N3q
    refine own_via (S' := (T3.setTop (mkF m 47 #[.val (.int p1), .val (.int (0 : Int32)), .val (.ref w0), .val (.ref w0), .unset, .unset] [(.int (0 : Int32))]))) st3 ?_
    have S2_ALLOWED := S1_ALLOWED
    rw [← hh3] at S2_ALLOWED
    have Z2 := Z1
    rw [← hh3] at Z2
    refine own_go (S' := (T3.setTop (mkF m 49 #[.val (.int p1), .val (.int (0 : Int32)), .val (.ref w0), .val (.ref w0), .val (.int (0 : Int32)), .unset] []))) (fun _ k => XS.istore X3.here hx rfl (hb hby at_47) rfl (l' := #[.val (.int p1), .val (.int (0 : Int32)), .val (.ref w0), .val (.ref w0), .val (.int (0 : Int32)), .unset]) rfl k) ?_
    refine own_go (S' := (T3.setTop (mkF m 50 #[.val (.int p1), .val (.int (0 : Int32)), .val (.ref w0), .val (.ref w0), .val (.int (0 : Int32)), .unset] [(.int (0 : Int32))]))) (fun _ k => XS.iloadN X3.here hx rfl (hb hby at_49) rfl  k) ?_
    refine own_go (S' := (T3.setTop (mkF m 51 #[.val (.int p1), .val (.int (0 : Int32)), .val (.ref w0), .val (.ref w0), .val (.int (0 : Int32)), .unset] [(.int (3 : Int32)), (.int (0 : Int32))]))) (fun _ k => XS.iconst X3.here hx rfl (hb hby at_50) k) ?_
    refine own_go (S' := (T3.setTop (mkF m 58 #[.val (.int p1), .val (.int (0 : Int32)), .val (.ref w0), .val (.ref w0), .val (.int (0 : Int32)), .unset] []))) (fun _ k => XS.icmpYes X3.here hx rfl (pc0 := 51) (pc' := 58) rfl (hb hby at_51) rfl (feq (by decide)).2 (by decide) (by decide) k) ?_
    refine own_go (S' := (T3.setTop (mkF m 59 #[.val (.int p1), .val (.int (0 : Int32)), .val (.ref w0), .val (.ref w0), .val (.int (0 : Int32)), .unset] [(.int (0 : Int32))]))) (fun _ k => XS.iloadN X3.here hx rfl (hb hby at_58) rfl  k) ?_
    refine own_go (S' := (T3.setTop (mkF m 61 #[.val (.int p1), .val (.int (0 : Int32)), .val (.ref w0), .val (.ref w0), .val (.int (0 : Int32)), .val (.int (0 : Int32))] []))) (fun _ k => XS.istore X3.here hx rfl (hb hby at_59) rfl (l' := #[.val (.int p1), .val (.int (0 : Int32)), .val (.ref w0), .val (.ref w0), .val (.int (0 : Int32)), .val (.int (0 : Int32))]) rfl k) ?_
    refine own_go (S' := (T3.setTop (mkF m 63 #[.val (.int p1), .val (.int (0 : Int32)), .val (.ref w0), .val (.ref w0), .val (.int (0 : Int32)), .val (.int (0 : Int32))] [(.int (0 : Int32))]))) (fun _ k => XS.iload X3.here hx rfl (hb hby at_61) rfl  k) ?_
    refine own_go (S' := (T3.setTop (mkF m 65 #[.val (.int p1), .val (.int (0 : Int32)), .val (.ref w0), .val (.ref w0), .val (.int (0 : Int32)), .val (.int (0 : Int32))] [(.int (0 : Int32)), (.int (0 : Int32))]))) (fun _ k => XS.iload X3.here hx rfl (hb hby at_63) rfl  k) ?_
    refine own_go (S' := (T3.setTop (mkF m 70 #[.val (.int p1), .val (.int (0 : Int32)), .val (.ref w0), .val (.ref w0), .val (.int (0 : Int32)), .val (.int (0 : Int32))] []))) (fun _ k => XS.icmpYes X3.here hx rfl (pc0 := 65) (pc' := 70) rfl (hb hby at_65) rfl (teq rfl).1 (by decide) (by decide) k) ?_
    refine own_go (S' := (T3.setTop (mkF m 72 #[.val (.int p1), .val (.int (0 : Int32)), .val (.ref w0), .val (.ref w0), .val (.int (0 : Int32)), .val (.int (0 : Int32))] [(.int (0 : Int32))]))) (fun _ k => XS.iload X3.here hx rfl (hb hby at_70) rfl  k) ?_
    obtain ⟨_, _, ⟨T4, L4, k4, n4⟩, -, X4, ⟨Lc4, hQ4, l4, y4, z4⟩, st4⟩ := Jvm.LawKit.callS X3 hx (y := (⟨"com/example/trunkbridge/trunkbridge/core/interwork/Presentation", "ofIndicator", "(I)Lcom/example/trunkbridge/trunkbridge/core/interwork/Presentation;"⟩ : MethodName)) hown (mvT hZ (hw _ (List.mem_of_getElem? (i := 0) rfl))) (mvT hZ (hw _ (List.mem_of_getElem? (i := 1) rfl))) (mvT hZ (hw _ (List.mem_of_getElem? (i := 2) rfl))) (mvT hZ (hw _ (List.mem_of_getElem? (i := 3) rfl))) (by decide) (backOf (W := 0) (own_of0 l Z a0 hw w0 T3.heap n0 Z2 S2_ALLOWED) hZ (hw _ (List.mem_of_getElem? (i := 3) rfl)) (hw _ (List.mem_of_getElem? (i := 2) rfl)) (by decide) (by decide)) (g := (mkF m 72 #[.val (.int p1), .val (.int (0 : Int32)), .val (.ref w0), .val (.ref w0), .val (.int (0 : Int32)), .val (.int (0 : Int32))] [(.int (0 : Int32))])) rfl (by rw [hml]; rfl) (argsL := [(.int (0 : Int32))]) (rest := []) (lenOf own_pd1 rfl) rfl (by show 2 * 0 + _ ≤ _; exact Nat.le_of_eq rfl) (hb hby at_72) (fun _ _ => ⟨rfl, rfl, (by decide : 0 + 0 ≤ _), (by decide : 0 + 0 ≤ _)⟩)
    dsimp only [Pt.U, Pt.locs, Pt.cells, Pt.slots] at X4 l4 y4 z4 st4 hQ4
    subst l4 y4 z4
    obtain ⟨rfl, N4q, hh4⟩ := hQ4
    have N4 := Fr.app N3 N4q
    refine own_go (S' := (T4.setTop (mkF m 75 #[.val (.int p1), .val (.int (0 : Int32)), .val (.ref w0), .val (.ref w0), .val (.int (0 : Int32)), .val (.int (0 : Int32))] [(.ref w0)]))) st4 ?_
    refine own_go (S' := (T4.setTop (mkF m 76 #[.val (.int p1), .val (.int (0 : Int32)), .val (.ref w0), .val (.ref w0), .val (.int (0 : Int32)), .val (.int (0 : Int32))] [(.ref w0), (.ref w0)]))) (fun _ k => XS.aloadN X4.here hx rfl (hb hby at_75) rfl rfl  k) ?_
    refine own_go (S' := (T4.setTop (mkF m 79 #[.val (.int p1), .val (.int (0 : Int32)), .val (.ref w0), .val (.ref w0), .val (.int (0 : Int32)), .val (.int (0 : Int32))] []))) (fun _ k => Jvm.RoadKit.acmp (g := (mkF m 76 #[.val (.int p1), .val (.int (0 : Int32)), .val (.ref w0), .val (.ref w0), .val (.int (0 : Int32)), .val (.int (0 : Int32))] [(.ref w0), (.ref w0)])) X4 hx rfl rfl rfl (pc0 := 76) (pc' := 79) (same := true) rfl (hb hby at_76) rfl (decide_eq_true rfl) (by decide) (by decide) k) ?_
    refine own_go (S' := (T4.setTop (mkF m 80 #[.val (.int p1), .val (.int (0 : Int32)), .val (.ref w0), .val (.ref w0), .val (.int (0 : Int32)), .val (.int (0 : Int32))] [(.int (1 : Int32))]))) (fun _ k => XS.iconst X4.here hx rfl (hb hby at_79) k) ?_
    refine own_go (S' := (T4.setTop (mkF m 84 #[.val (.int p1), .val (.int (0 : Int32)), .val (.ref w0), .val (.ref w0), .val (.int (0 : Int32)), .val (.int (0 : Int32))] [(.int (1 : Int32))]))) (fun _ k => XS.goto X4.here hx rfl (pc0 := 80) (pc' := 84) rfl (hb hby at_80) (by decide) (by decide) k) ?_
    refine own_retZ X4 hx hlk (t := .boolean) hret (by simp) (hb hby at_84) ?_ (by decide) (by decide)
    exact ⟨rfl, N4⟩
  · skip
    refine own_go (S' := (s₁.setTop (mkF m 5 #[.val (.int p1), .val (.int (1 : Int32)), .unset, .unset, .unset, .unset] [(.int (1 : Int32))]))) (fun _ k => XS.iloadN X0.here hx rfl (hb hby at_4) rfl  k) ?_
    obtain ⟨_, _, ⟨T5, L5, k5, n5⟩, -, X5, ⟨Lc5, hQ5, l5, y5, z5⟩, st5⟩ := Jvm.LawKit.callS X0 hx (y := (⟨"com/example/trunkbridge/trunkbridge/core/interwork/Presentation", "ofIndicator", "(I)Lcom/example/trunkbridge/trunkbridge/core/interwork/Presentation;"⟩ : MethodName)) hown (mvT hZ (hw _ (List.mem_of_getElem? (i := 0) rfl))) (mvT hZ (hw _ (List.mem_of_getElem? (i := 1) rfl))) (mvT hZ (hw _ (List.mem_of_getElem? (i := 2) rfl))) (mvT hZ (hw _ (List.mem_of_getElem? (i := 3) rfl))) (by decide) (backOf (W := 0) (own_of1 l Z a0 hw w1 h0 n0 Z0 S_RESTRICTED) hZ (hw _ (List.mem_of_getElem? (i := 3) rfl)) (hw _ (List.mem_of_getElem? (i := 2) rfl)) (by decide) (by decide)) (g := (mkF m 5 #[.val (.int p1), .val (.int (1 : Int32)), .unset, .unset, .unset, .unset] [(.int (1 : Int32))])) rfl (by rw [hml]; rfl) (argsL := [(.int (1 : Int32))]) (rest := []) (lenOf own_pd1 rfl) rfl (by show 2 * 0 + _ ≤ _; exact Nat.le_of_eq rfl) (hb hby at_5) (fun _ _ => ⟨rfl, e0, (by decide : 0 + 0 ≤ _), (by decide : 0 + 0 ≤ _)⟩)
    dsimp only [Pt.U, Pt.locs, Pt.cells, Pt.slots] at X5 l5 y5 z5 st5 hQ5
    subst l5 y5 z5
    obtain ⟨rfl, N5q, hh5⟩ := hQ5
    have N5 := Fr.app N0 N5q
    refine own_go (S' := (T5.setTop (mkF m 8 #[.val (.int p1), .val (.int (1 : Int32)), .unset, .unset, .unset, .unset] [(.ref w1)]))) st5 ?_
    have S1_ALLOWED := S_ALLOWED
    rw [← hh5] at S1_ALLOWED
    have S1_RESTRICTED := S_RESTRICTED
    rw [← hh5] at S1_RESTRICTED
    have S1_NOT_AVAILABLE := S_NOT_AVAILABLE
    rw [← hh5] at S1_NOT_AVAILABLE
    have E1_RESTRICTED := E_RESTRICTED
    rw [← hh5] at E1_RESTRICTED
    have F1_RESTRICTED := F_RESTRICTED
    rw [← hh5] at F1_RESTRICTED
    have Z1 := Z0
    rw [← hh5] at Z1
    refine own_go (S' := (T5.setTop (mkF m 9 #[.val (.int p1), .val (.int (1 : Int32)), .val (.ref w1), .unset, .unset, .unset] []))) (fun _ k => XS.astoreN X5.here hx rfl (hb hby at_8) rfl rfl (l' := #[.val (.int p1), .val (.int (1 : Int32)), .val (.ref w1), .unset, .unset, .unset]) rfl k) ?_
    refine own_go (S' := (T5.setTop (mkF m 10 #[.val (.int p1), .val (.int (1 : Int32)), .val (.ref w1), .unset, .unset, .unset] [(.int (1 : Int32))]))) (fun _ k => XS.iloadN X5.here hx rfl (hb hby at_9) rfl  k) ?_
    refine own_go (S' := (T5.setTop (mkF m 20 #[.val (.int p1), .val (.int (1 : Int32)), .val (.ref w1), .unset, .unset, .unset] []))) (fun _ k => XS.ifYes X5.here hx rfl (pc0 := 10) (pc' := 20) rfl (hb hby at_10) rfl ((if0 _ _).trans (feq (by decide)).2) (by decide) (by decide) k) ?_
    refine own_go (S' := (T5.setTop (mkF m 21 #[.val (.int p1), .val (.int (1 : Int32)), .val (.ref w1), .unset, .unset, .unset] [(.int (1 : Int32))]))) (fun _ k => XS.iloadN X5.here hx rfl (hb hby at_20) rfl  k) ?_
    refine own_go (S' := (T5.setTop (mkF m 22 #[.val (.int p1), .val (.int (1 : Int32)), .val (.ref w1), .unset, .unset, .unset] [(.int (2 : Int32)), (.int (1 : Int32))]))) (fun _ k => XS.iconst X5.here hx rfl (hb hby at_21) k) ?_
    refine own_go (S' := (T5.setTop (mkF m 32 #[.val (.int p1), .val (.int (1 : Int32)), .val (.ref w1), .unset, .unset, .unset] []))) (fun _ k => XS.icmpYes X5.here hx rfl (pc0 := 22) (pc' := 32) rfl (hb hby at_22) rfl (feq (by decide)).2 (by decide) (by decide) k) ?_
    obtain ⟨T6, X6, e6, st6⟩ := getS2 X5 hx hZ hown (host := "") (Or.inl (hw _ (List.mem_of_getElem? (i := 23) rfl))) Via.refl rfl S1_RESTRICTED (g := (mkF m 32 #[.val (.int p1), .val (.int (1 : Int32)), .val (.ref w1), .unset, .unset, .unset] [])) rfl (hb hby at_32)
    refine own_go (S' := (T6.setTop (mkF m 35 #[.val (.int p1), .val (.int (1 : Int32)), .val (.ref w1), .unset, .unset, .unset] [(.ref w1)]))) st6 ?_
    refine own_go (S' := (T6.setTop (mkF m 36 #[.val (.int p1), .val (.int (1 : Int32)), .val (.ref w1), .val (.ref w1), .unset, .unset] []))) (fun _ k => XS.astoreN X6.here hx rfl (hb hby at_35) rfl rfl (l' := #[.val (.int p1), .val (.int (1 : Int32)), .val (.ref w1), .val (.ref w1), .unset, .unset]) rfl k) ?_
    refine own_go (S' := (T6.setTop (mkF m 37 #[.val (.int p1), .val (.int (1 : Int32)), .val (.ref w1), .val (.ref w1), .unset, .unset] [(.ref w1)]))) (fun _ k => XS.aloadN X6.here hx rfl (hb hby at_36) rfl rfl  k) ?_
    refine own_go (S' := (T6.setTop (mkF m 38 #[.val (.int p1), .val (.int (1 : Int32)), .val (.ref w1), .val (.ref w1), .unset, .unset] [(.ref w1), (.ref w1)]))) (fun _ k => XS.aloadN X6.here hx rfl (hb hby at_37) rfl rfl  k) ?_
    refine own_go (S' := (T6.setTop (mkF m 43 #[.val (.int p1), .val (.int (1 : Int32)), .val (.ref w1), .val (.ref w1), .unset, .unset] []))) (fun _ k => Jvm.RoadKit.acmp (g := (mkF m 38 #[.val (.int p1), .val (.int (1 : Int32)), .val (.ref w1), .val (.ref w1), .unset, .unset] [(.ref w1), (.ref w1)])) X6 hx rfl rfl rfl (pc0 := 38) (pc' := 43) (same := true) rfl (hb hby at_38) rfl (decide_eq_true rfl) (by decide) (by decide) k) ?_
    refine own_go (S' := (T6.setTop (mkF m 44 #[.val (.int p1), .val (.int (1 : Int32)), .val (.ref w1), .val (.ref w1), .unset, .unset] [(.ref w1)]))) (fun _ k => XS.aloadN X6.here hx rfl (hb hby at_43) rfl rfl  k) ?_
    obtain ⟨cq7, kq7, q7a, q7b, q7c⟩ := isOf hZ e6 (E1_RESTRICTED)
    obtain ⟨_, _, ⟨T7, L7, k7, n7⟩, -, X7, ⟨Lc7, hQ7, l7, y7, z7⟩, st7⟩ := X6.virtualBack hx (y := (⟨"com/example/trunkbridge/trunkbridge/core/interwork/Presentation", "indicator", "()I"⟩ : MethodName)) (z := (⟨"com/example/trunkbridge/trunkbridge/core/interwork/Presentation", "indicator", "()I"⟩ : MethodName)) hown (mvT hZ (hw _ (List.mem_of_getElem? (i := 7) rfl))) (mvT hZ (hw _ (List.mem_of_getElem? (i := 8) rfl))) (notFace_of_selects (args := #[]) (mvT hZ (hw _ (List.mem_of_getElem? (i := 10) rfl)))) (mvT hZ (hw _ (List.mem_of_getElem? (i := 10) rfl))) (mvT hZ (hw _ (List.mem_of_getElem? (i := 9) rfl))) (by decide) (backOf (W := 0) (own_ind1 l Z a0 hw w1 T5.heap n0 Z1 E1_RESTRICTED F1_RESTRICTED) hZ (hw _ (List.mem_of_getElem? (i := 11) rfl)) (hw _ (List.mem_of_getElem? (i := 2) rfl)) (by decide) (by decide)) q7a q7c (g := (mkF m 44 #[.val (.int p1), .val (.int (1 : Int32)), .val (.ref w1), .val (.ref w1), .unset, .unset] [(.ref w1)])) rfl (by rw [hml]; rfl) (Steps.refl _) (argsL := []) (rest := []) (lenOf own_pd0 rfl) rfl (by show 2 * 0 + _ ≤ _; exact Nat.le_of_eq rfl) (hb hby at_44) (fun _ _ => ⟨rfl, e6, (by decide : 0 + 0 ≤ _), (by decide : 0 + 0 ≤ _)⟩)
    dsimp only [Pt.U, Pt.locs, Pt.cells, Pt.slots] at X7 l7 y7 z7 st7 hQ7
    subst l7 y7 z7
    obtain ⟨rfl, N7q, hh7⟩ := hQ7
    have N7 := Fr.app N5 N7q
    refine own_via (S' := (T7.setTop (mkF m 47 #[.val (.int p1), .val (.int (1 : Int32)), .val (.ref w1), .val (.ref w1), .unset, .unset] [(.int (1 : Int32))]))) st7 ?_
    have S2_RESTRICTED := S1_RESTRICTED
    rw [← hh7] at S2_RESTRICTED
    have Z2 := Z1
    rw [← hh7] at Z2
    refine own_go (S' := (T7.setTop (mkF m 49 #[.val (.int p1), .val (.int (1 : Int32)), .val (.ref w1), .val (.ref w1), .val (.int (1 : Int32)), .unset] []))) (fun _ k => XS.istore X7.here hx rfl (hb hby at_47) rfl (l' := #[.val (.int p1), .val (.int (1 : Int32)), .val (.ref w1), .val (.ref w1), .val (.int (1 : Int32)), .unset]) rfl k) ?_
    refine own_go (S' := (T7.setTop (mkF m 50 #[.val (.int p1), .val (.int (1 : Int32)), .val (.ref w1), .val (.ref w1), .val (.int (1 : Int32)), .unset] [(.int (1 : Int32))]))) (fun _ k => XS.iloadN X7.here hx rfl (hb hby at_49) rfl  k) ?_
    refine own_go (S' := (T7.setTop (mkF m 51 #[.val (.int p1), .val (.int (1 : Int32)), .val (.ref w1), .val (.ref w1), .val (.int (1 : Int32)), .unset] [(.int (3 : Int32)), (.int (1 : Int32))]))) (fun _ k => XS.iconst X7.here hx rfl (hb hby at_50) k) ?_
    refine own_go (S' := (T7.setTop (mkF m 58 #[.val (.int p1), .val (.int (1 : Int32)), .val (.ref w1), .val (.ref w1), .val (.int (1 : Int32)), .unset] []))) (fun _ k => XS.icmpYes X7.here hx rfl (pc0 := 51) (pc' := 58) rfl (hb hby at_51) rfl (feq (by decide)).2 (by decide) (by decide) k) ?_
    refine own_go (S' := (T7.setTop (mkF m 59 #[.val (.int p1), .val (.int (1 : Int32)), .val (.ref w1), .val (.ref w1), .val (.int (1 : Int32)), .unset] [(.int (1 : Int32))]))) (fun _ k => XS.iloadN X7.here hx rfl (hb hby at_58) rfl  k) ?_
    refine own_go (S' := (T7.setTop (mkF m 61 #[.val (.int p1), .val (.int (1 : Int32)), .val (.ref w1), .val (.ref w1), .val (.int (1 : Int32)), .val (.int (1 : Int32))] []))) (fun _ k => XS.istore X7.here hx rfl (hb hby at_59) rfl (l' := #[.val (.int p1), .val (.int (1 : Int32)), .val (.ref w1), .val (.ref w1), .val (.int (1 : Int32)), .val (.int (1 : Int32))]) rfl k) ?_
    refine own_go (S' := (T7.setTop (mkF m 63 #[.val (.int p1), .val (.int (1 : Int32)), .val (.ref w1), .val (.ref w1), .val (.int (1 : Int32)), .val (.int (1 : Int32))] [(.int (1 : Int32))]))) (fun _ k => XS.iload X7.here hx rfl (hb hby at_61) rfl  k) ?_
    refine own_go (S' := (T7.setTop (mkF m 65 #[.val (.int p1), .val (.int (1 : Int32)), .val (.ref w1), .val (.ref w1), .val (.int (1 : Int32)), .val (.int (1 : Int32))] [(.int (1 : Int32)), (.int (1 : Int32))]))) (fun _ k => XS.iload X7.here hx rfl (hb hby at_63) rfl  k) ?_
    refine own_go (S' := (T7.setTop (mkF m 70 #[.val (.int p1), .val (.int (1 : Int32)), .val (.ref w1), .val (.ref w1), .val (.int (1 : Int32)), .val (.int (1 : Int32))] []))) (fun _ k => XS.icmpYes X7.here hx rfl (pc0 := 65) (pc' := 70) rfl (hb hby at_65) rfl (teq rfl).1 (by decide) (by decide) k) ?_
    refine own_go (S' := (T7.setTop (mkF m 72 #[.val (.int p1), .val (.int (1 : Int32)), .val (.ref w1), .val (.ref w1), .val (.int (1 : Int32)), .val (.int (1 : Int32))] [(.int (1 : Int32))]))) (fun _ k => XS.iload X7.here hx rfl (hb hby at_70) rfl  k) ?_
    obtain ⟨_, _, ⟨T8, L8, k8, n8⟩, -, X8, ⟨Lc8, hQ8, l8, y8, z8⟩, st8⟩ := Jvm.LawKit.callS X7 hx (y := (⟨"com/example/trunkbridge/trunkbridge/core/interwork/Presentation", "ofIndicator", "(I)Lcom/example/trunkbridge/trunkbridge/core/interwork/Presentation;"⟩ : MethodName)) hown (mvT hZ (hw _ (List.mem_of_getElem? (i := 0) rfl))) (mvT hZ (hw _ (List.mem_of_getElem? (i := 1) rfl))) (mvT hZ (hw _ (List.mem_of_getElem? (i := 2) rfl))) (mvT hZ (hw _ (List.mem_of_getElem? (i := 3) rfl))) (by decide) (backOf (W := 0) (own_of1 l Z a0 hw w1 T7.heap n0 Z2 S2_RESTRICTED) hZ (hw _ (List.mem_of_getElem? (i := 3) rfl)) (hw _ (List.mem_of_getElem? (i := 2) rfl)) (by decide) (by decide)) (g := (mkF m 72 #[.val (.int p1), .val (.int (1 : Int32)), .val (.ref w1), .val (.ref w1), .val (.int (1 : Int32)), .val (.int (1 : Int32))] [(.int (1 : Int32))])) rfl (by rw [hml]; rfl) (argsL := [(.int (1 : Int32))]) (rest := []) (lenOf own_pd1 rfl) rfl (by show 2 * 0 + _ ≤ _; exact Nat.le_of_eq rfl) (hb hby at_72) (fun _ _ => ⟨rfl, rfl, (by decide : 0 + 0 ≤ _), (by decide : 0 + 0 ≤ _)⟩)
    dsimp only [Pt.U, Pt.locs, Pt.cells, Pt.slots] at X8 l8 y8 z8 st8 hQ8
    subst l8 y8 z8
    obtain ⟨rfl, N8q, hh8⟩ := hQ8
    have N8 := Fr.app N7 N8q
    refine own_go (S' := (T8.setTop (mkF m 75 #[.val (.int p1), .val (.int (1 : Int32)), .val (.ref w1), .val (.ref w1), .val (.int (1 : Int32)), .val (.int (1 : Int32))] [(.ref w1)]))) st8 ?_
    refine own_go (S' := (T8.setTop (mkF m 76 #[.val (.int p1), .val (.int (1 : Int32)), .val (.ref w1), .val (.ref w1), .val (.int (1 : Int32)), .val (.int (1 : Int32))] [(.ref w1), (.ref w1)]))) (fun _ k => XS.aloadN X8.here hx rfl (hb hby at_75) rfl rfl  k) ?_
    refine own_go (S' := (T8.setTop (mkF m 79 #[.val (.int p1), .val (.int (1 : Int32)), .val (.ref w1), .val (.ref w1), .val (.int (1 : Int32)), .val (.int (1 : Int32))] []))) (fun _ k => Jvm.RoadKit.acmp (g := (mkF m 76 #[.val (.int p1), .val (.int (1 : Int32)), .val (.ref w1), .val (.ref w1), .val (.int (1 : Int32)), .val (.int (1 : Int32))] [(.ref w1), (.ref w1)])) X8 hx rfl rfl rfl (pc0 := 76) (pc' := 79) (same := true) rfl (hb hby at_76) rfl (decide_eq_true rfl) (by decide) (by decide) k) ?_
    refine own_go (S' := (T8.setTop (mkF m 80 #[.val (.int p1), .val (.int (1 : Int32)), .val (.ref w1), .val (.ref w1), .val (.int (1 : Int32)), .val (.int (1 : Int32))] [(.int (1 : Int32))]))) (fun _ k => XS.iconst X8.here hx rfl (hb hby at_79) k) ?_
    refine own_go (S' := (T8.setTop (mkF m 84 #[.val (.int p1), .val (.int (1 : Int32)), .val (.ref w1), .val (.ref w1), .val (.int (1 : Int32)), .val (.int (1 : Int32))] [(.int (1 : Int32))]))) (fun _ k => XS.goto X8.here hx rfl (pc0 := 80) (pc' := 84) rfl (hb hby at_80) (by decide) (by decide) k) ?_
    refine own_retZ X8 hx hlk (t := .boolean) hret (by simp) (hb hby at_84) ?_ (by decide) (by decide)
    exact ⟨rfl, N8⟩
  · skip
    refine own_go (S' := (s₁.setTop (mkF m 5 #[.val (.int p1), .val (.int (2 : Int32)), .unset, .unset, .unset, .unset] [(.int (2 : Int32))]))) (fun _ k => XS.iloadN X0.here hx rfl (hb hby at_4) rfl  k) ?_
    obtain ⟨_, _, ⟨T9, L9, k9, n9⟩, -, X9, ⟨Lc9, hQ9, l9, y9, z9⟩, st9⟩ := Jvm.LawKit.callS X0 hx (y := (⟨"com/example/trunkbridge/trunkbridge/core/interwork/Presentation", "ofIndicator", "(I)Lcom/example/trunkbridge/trunkbridge/core/interwork/Presentation;"⟩ : MethodName)) hown (mvT hZ (hw _ (List.mem_of_getElem? (i := 0) rfl))) (mvT hZ (hw _ (List.mem_of_getElem? (i := 1) rfl))) (mvT hZ (hw _ (List.mem_of_getElem? (i := 2) rfl))) (mvT hZ (hw _ (List.mem_of_getElem? (i := 3) rfl))) (by decide) (backOf (W := 0) (own_of2 l Z a0 hw w2 h0 n0 Z0 S_NOT_AVAILABLE) hZ (hw _ (List.mem_of_getElem? (i := 3) rfl)) (hw _ (List.mem_of_getElem? (i := 2) rfl)) (by decide) (by decide)) (g := (mkF m 5 #[.val (.int p1), .val (.int (2 : Int32)), .unset, .unset, .unset, .unset] [(.int (2 : Int32))])) rfl (by rw [hml]; rfl) (argsL := [(.int (2 : Int32))]) (rest := []) (lenOf own_pd1 rfl) rfl (by show 2 * 0 + _ ≤ _; exact Nat.le_of_eq rfl) (hb hby at_5) (fun _ _ => ⟨rfl, e0, (by decide : 0 + 0 ≤ _), (by decide : 0 + 0 ≤ _)⟩)
    dsimp only [Pt.U, Pt.locs, Pt.cells, Pt.slots] at X9 l9 y9 z9 st9 hQ9
    subst l9 y9 z9
    obtain ⟨rfl, N9q, hh9⟩ := hQ9
    have N9 := Fr.app N0 N9q
    refine own_go (S' := (T9.setTop (mkF m 8 #[.val (.int p1), .val (.int (2 : Int32)), .unset, .unset, .unset, .unset] [(.ref w2)]))) st9 ?_
    have S1_ALLOWED := S_ALLOWED
    rw [← hh9] at S1_ALLOWED
    have S1_RESTRICTED := S_RESTRICTED
    rw [← hh9] at S1_RESTRICTED
    have S1_NOT_AVAILABLE := S_NOT_AVAILABLE
    rw [← hh9] at S1_NOT_AVAILABLE
    have E1_NOT_AVAILABLE := E_NOT_AVAILABLE
    rw [← hh9] at E1_NOT_AVAILABLE
    have F1_NOT_AVAILABLE := F_NOT_AVAILABLE
    rw [← hh9] at F1_NOT_AVAILABLE
    have Z1 := Z0
    rw [← hh9] at Z1
    refine own_go (S' := (T9.setTop (mkF m 9 #[.val (.int p1), .val (.int (2 : Int32)), .val (.ref w2), .unset, .unset, .unset] []))) (fun _ k => XS.astoreN X9.here hx rfl (hb hby at_8) rfl rfl (l' := #[.val (.int p1), .val (.int (2 : Int32)), .val (.ref w2), .unset, .unset, .unset]) rfl k) ?_
    refine own_go (S' := (T9.setTop (mkF m 10 #[.val (.int p1), .val (.int (2 : Int32)), .val (.ref w2), .unset, .unset, .unset] [(.int (2 : Int32))]))) (fun _ k => XS.iloadN X9.here hx rfl (hb hby at_9) rfl  k) ?_
    refine own_go (S' := (T9.setTop (mkF m 20 #[.val (.int p1), .val (.int (2 : Int32)), .val (.ref w2), .unset, .unset, .unset] []))) (fun _ k => XS.ifYes X9.here hx rfl (pc0 := 10) (pc' := 20) rfl (hb hby at_10) rfl ((if0 _ _).trans (feq (by decide)).2) (by decide) (by decide) k) ?_
    refine own_go (S' := (T9.setTop (mkF m 21 #[.val (.int p1), .val (.int (2 : Int32)), .val (.ref w2), .unset, .unset, .unset] [(.int (2 : Int32))]))) (fun _ k => XS.iloadN X9.here hx rfl (hb hby at_20) rfl  k) ?_
    refine own_go (S' := (T9.setTop (mkF m 22 #[.val (.int p1), .val (.int (2 : Int32)), .val (.ref w2), .unset, .unset, .unset] [(.int (2 : Int32)), (.int (2 : Int32))]))) (fun _ k => XS.iconst X9.here hx rfl (hb hby at_21) k) ?_
    refine own_go (S' := (T9.setTop (mkF m 25 #[.val (.int p1), .val (.int (2 : Int32)), .val (.ref w2), .unset, .unset, .unset] []))) (fun _ k => XS.icmpNo X9.here hx rfl (hb hby at_22) rfl (teq rfl).2 k) ?_
    obtain ⟨T10, X10, e10, st10⟩ := getS2 X9 hx hZ hown (host := "") (Or.inl (hw _ (List.mem_of_getElem? (i := 26) rfl))) Via.refl rfl S1_NOT_AVAILABLE (g := (mkF m 25 #[.val (.int p1), .val (.int (2 : Int32)), .val (.ref w2), .unset, .unset, .unset] [])) rfl (hb hby at_25)
    refine own_go (S' := (T10.setTop (mkF m 28 #[.val (.int p1), .val (.int (2 : Int32)), .val (.ref w2), .unset, .unset, .unset] [(.ref w2)]))) st10 ?_
    refine own_go (S' := (T10.setTop (mkF m 29 #[.val (.int p1), .val (.int (2 : Int32)), .val (.ref w2), .val (.ref w2), .unset, .unset] []))) (fun _ k => XS.astoreN X10.here hx rfl (hb hby at_28) rfl rfl (l' := #[.val (.int p1), .val (.int (2 : Int32)), .val (.ref w2), .val (.ref w2), .unset, .unset]) rfl k) ?_
    refine own_go (S' := (T10.setTop (mkF m 36 #[.val (.int p1), .val (.int (2 : Int32)), .val (.ref w2), .val (.ref w2), .unset, .unset] []))) (fun _ k => XS.goto X10.here hx rfl (pc0 := 29) (pc' := 36) rfl (hb hby at_29) (by decide) (by decide) k) ?_
    refine own_go (S' := (T10.setTop (mkF m 37 #[.val (.int p1), .val (.int (2 : Int32)), .val (.ref w2), .val (.ref w2), .unset, .unset] [(.ref w2)]))) (fun _ k => XS.aloadN X10.here hx rfl (hb hby at_36) rfl rfl  k) ?_
    refine own_go (S' := (T10.setTop (mkF m 38 #[.val (.int p1), .val (.int (2 : Int32)), .val (.ref w2), .val (.ref w2), .unset, .unset] [(.ref w2), (.ref w2)]))) (fun _ k => XS.aloadN X10.here hx rfl (hb hby at_37) rfl rfl  k) ?_
    refine own_go (S' := (T10.setTop (mkF m 43 #[.val (.int p1), .val (.int (2 : Int32)), .val (.ref w2), .val (.ref w2), .unset, .unset] []))) (fun _ k => Jvm.RoadKit.acmp (g := (mkF m 38 #[.val (.int p1), .val (.int (2 : Int32)), .val (.ref w2), .val (.ref w2), .unset, .unset] [(.ref w2), (.ref w2)])) X10 hx rfl rfl rfl (pc0 := 38) (pc' := 43) (same := true) rfl (hb hby at_38) rfl (decide_eq_true rfl) (by decide) (by decide) k) ?_
    refine own_go (S' := (T10.setTop (mkF m 44 #[.val (.int p1), .val (.int (2 : Int32)), .val (.ref w2), .val (.ref w2), .unset, .unset] [(.ref w2)]))) (fun _ k => XS.aloadN X10.here hx rfl (hb hby at_43) rfl rfl  k) ?_
    obtain ⟨cq11, kq11, q11a, q11b, q11c⟩ := isOf hZ e10 (E1_NOT_AVAILABLE)
    obtain ⟨_, _, ⟨T11, L11, k11, n11⟩, -, X11, ⟨Lc11, hQ11, l11, y11, z11⟩, st11⟩ := X10.virtualBack hx (y := (⟨"com/example/trunkbridge/trunkbridge/core/interwork/Presentation", "indicator", "()I"⟩ : MethodName)) (z := (⟨"com/example/trunkbridge/trunkbridge/core/interwork/Presentation", "indicator", "()I"⟩ : MethodName)) hown (mvT hZ (hw _ (List.mem_of_getElem? (i := 7) rfl))) (mvT hZ (hw _ (List.mem_of_getElem? (i := 8) rfl))) (notFace_of_selects (args := #[]) (mvT hZ (hw _ (List.mem_of_getElem? (i := 10) rfl)))) (mvT hZ (hw _ (List.mem_of_getElem? (i := 10) rfl))) (mvT hZ (hw _ (List.mem_of_getElem? (i := 9) rfl))) (by decide) (backOf (W := 0) (own_ind2 l Z a0 hw w2 T9.heap n0 Z1 E1_NOT_AVAILABLE F1_NOT_AVAILABLE) hZ (hw _ (List.mem_of_getElem? (i := 11) rfl)) (hw _ (List.mem_of_getElem? (i := 2) rfl)) (by decide) (by decide)) q11a q11c (g := (mkF m 44 #[.val (.int p1), .val (.int (2 : Int32)), .val (.ref w2), .val (.ref w2), .unset, .unset] [(.ref w2)])) rfl (by rw [hml]; rfl) (Steps.refl _) (argsL := []) (rest := []) (lenOf own_pd0 rfl) rfl (by show 2 * 0 + _ ≤ _; exact Nat.le_of_eq rfl) (hb hby at_44) (fun _ _ => ⟨rfl, e10, (by decide : 0 + 0 ≤ _), (by decide : 0 + 0 ≤ _)⟩)
    dsimp only [Pt.U, Pt.locs, Pt.cells, Pt.slots] at X11 l11 y11 z11 st11 hQ11
    subst l11 y11 z11
    obtain ⟨rfl, N11q, hh11⟩ := hQ11
    have N11 := Fr.app N9 N11q
    refine own_via (S' := (T11.setTop (mkF m 47 #[.val (.int p1), .val (.int (2 : Int32)), .val (.ref w2), .val (.ref w2), .unset, .unset] [(.int (2 : Int32))]))) st11 ?_
    have S2_NOT_AVAILABLE := S1_NOT_AVAILABLE
    rw [← hh11] at S2_NOT_AVAILABLE
    have Z2 := Z1
    rw [← hh11] at Z2
    refine own_go (S' := (T11.setTop (mkF m 49 #[.val (.int p1), .val (.int (2 : Int32)), .val (.ref w2), .val (.ref w2), .val (.int (2 : Int32)), .unset] []))) (fun _ k => XS.istore X11.here hx rfl (hb hby at_47) rfl (l' := #[.val (.int p1), .val (.int (2 : Int32)), .val (.ref w2), .val (.ref w2), .val (.int (2 : Int32)), .unset]) rfl k) ?_
    refine own_go (S' := (T11.setTop (mkF m 50 #[.val (.int p1), .val (.int (2 : Int32)), .val (.ref w2), .val (.ref w2), .val (.int (2 : Int32)), .unset] [(.int (2 : Int32))]))) (fun _ k => XS.iloadN X11.here hx rfl (hb hby at_49) rfl  k) ?_
    refine own_go (S' := (T11.setTop (mkF m 51 #[.val (.int p1), .val (.int (2 : Int32)), .val (.ref w2), .val (.ref w2), .val (.int (2 : Int32)), .unset] [(.int (3 : Int32)), (.int (2 : Int32))]))) (fun _ k => XS.iconst X11.here hx rfl (hb hby at_50) k) ?_
    refine own_go (S' := (T11.setTop (mkF m 58 #[.val (.int p1), .val (.int (2 : Int32)), .val (.ref w2), .val (.ref w2), .val (.int (2 : Int32)), .unset] []))) (fun _ k => XS.icmpYes X11.here hx rfl (pc0 := 51) (pc' := 58) rfl (hb hby at_51) rfl (feq (by decide)).2 (by decide) (by decide) k) ?_
    refine own_go (S' := (T11.setTop (mkF m 59 #[.val (.int p1), .val (.int (2 : Int32)), .val (.ref w2), .val (.ref w2), .val (.int (2 : Int32)), .unset] [(.int (2 : Int32))]))) (fun _ k => XS.iloadN X11.here hx rfl (hb hby at_58) rfl  k) ?_
    refine own_go (S' := (T11.setTop (mkF m 61 #[.val (.int p1), .val (.int (2 : Int32)), .val (.ref w2), .val (.ref w2), .val (.int (2 : Int32)), .val (.int (2 : Int32))] []))) (fun _ k => XS.istore X11.here hx rfl (hb hby at_59) rfl (l' := #[.val (.int p1), .val (.int (2 : Int32)), .val (.ref w2), .val (.ref w2), .val (.int (2 : Int32)), .val (.int (2 : Int32))]) rfl k) ?_
    refine own_go (S' := (T11.setTop (mkF m 63 #[.val (.int p1), .val (.int (2 : Int32)), .val (.ref w2), .val (.ref w2), .val (.int (2 : Int32)), .val (.int (2 : Int32))] [(.int (2 : Int32))]))) (fun _ k => XS.iload X11.here hx rfl (hb hby at_61) rfl  k) ?_
    refine own_go (S' := (T11.setTop (mkF m 65 #[.val (.int p1), .val (.int (2 : Int32)), .val (.ref w2), .val (.ref w2), .val (.int (2 : Int32)), .val (.int (2 : Int32))] [(.int (2 : Int32)), (.int (2 : Int32))]))) (fun _ k => XS.iload X11.here hx rfl (hb hby at_63) rfl  k) ?_
    refine own_go (S' := (T11.setTop (mkF m 70 #[.val (.int p1), .val (.int (2 : Int32)), .val (.ref w2), .val (.ref w2), .val (.int (2 : Int32)), .val (.int (2 : Int32))] []))) (fun _ k => XS.icmpYes X11.here hx rfl (pc0 := 65) (pc' := 70) rfl (hb hby at_65) rfl (teq rfl).1 (by decide) (by decide) k) ?_
    refine own_go (S' := (T11.setTop (mkF m 72 #[.val (.int p1), .val (.int (2 : Int32)), .val (.ref w2), .val (.ref w2), .val (.int (2 : Int32)), .val (.int (2 : Int32))] [(.int (2 : Int32))]))) (fun _ k => XS.iload X11.here hx rfl (hb hby at_70) rfl  k) ?_
    obtain ⟨_, _, ⟨T12, L12, k12, n12⟩, -, X12, ⟨Lc12, hQ12, l12, y12, z12⟩, st12⟩ := Jvm.LawKit.callS X11 hx (y := (⟨"com/example/trunkbridge/trunkbridge/core/interwork/Presentation", "ofIndicator", "(I)Lcom/example/trunkbridge/trunkbridge/core/interwork/Presentation;"⟩ : MethodName)) hown (mvT hZ (hw _ (List.mem_of_getElem? (i := 0) rfl))) (mvT hZ (hw _ (List.mem_of_getElem? (i := 1) rfl))) (mvT hZ (hw _ (List.mem_of_getElem? (i := 2) rfl))) (mvT hZ (hw _ (List.mem_of_getElem? (i := 3) rfl))) (by decide) (backOf (W := 0) (own_of2 l Z a0 hw w2 T11.heap n0 Z2 S2_NOT_AVAILABLE) hZ (hw _ (List.mem_of_getElem? (i := 3) rfl)) (hw _ (List.mem_of_getElem? (i := 2) rfl)) (by decide) (by decide)) (g := (mkF m 72 #[.val (.int p1), .val (.int (2 : Int32)), .val (.ref w2), .val (.ref w2), .val (.int (2 : Int32)), .val (.int (2 : Int32))] [(.int (2 : Int32))])) rfl (by rw [hml]; rfl) (argsL := [(.int (2 : Int32))]) (rest := []) (lenOf own_pd1 rfl) rfl (by show 2 * 0 + _ ≤ _; exact Nat.le_of_eq rfl) (hb hby at_72) (fun _ _ => ⟨rfl, rfl, (by decide : 0 + 0 ≤ _), (by decide : 0 + 0 ≤ _)⟩)
    dsimp only [Pt.U, Pt.locs, Pt.cells, Pt.slots] at X12 l12 y12 z12 st12 hQ12
    subst l12 y12 z12
    obtain ⟨rfl, N12q, hh12⟩ := hQ12
    have N12 := Fr.app N11 N12q
    refine own_go (S' := (T12.setTop (mkF m 75 #[.val (.int p1), .val (.int (2 : Int32)), .val (.ref w2), .val (.ref w2), .val (.int (2 : Int32)), .val (.int (2 : Int32))] [(.ref w2)]))) st12 ?_
    refine own_go (S' := (T12.setTop (mkF m 76 #[.val (.int p1), .val (.int (2 : Int32)), .val (.ref w2), .val (.ref w2), .val (.int (2 : Int32)), .val (.int (2 : Int32))] [(.ref w2), (.ref w2)]))) (fun _ k => XS.aloadN X12.here hx rfl (hb hby at_75) rfl rfl  k) ?_
    refine own_go (S' := (T12.setTop (mkF m 79 #[.val (.int p1), .val (.int (2 : Int32)), .val (.ref w2), .val (.ref w2), .val (.int (2 : Int32)), .val (.int (2 : Int32))] []))) (fun _ k => Jvm.RoadKit.acmp (g := (mkF m 76 #[.val (.int p1), .val (.int (2 : Int32)), .val (.ref w2), .val (.ref w2), .val (.int (2 : Int32)), .val (.int (2 : Int32))] [(.ref w2), (.ref w2)])) X12 hx rfl rfl rfl (pc0 := 76) (pc' := 79) (same := true) rfl (hb hby at_76) rfl (decide_eq_true rfl) (by decide) (by decide) k) ?_
    refine own_go (S' := (T12.setTop (mkF m 80 #[.val (.int p1), .val (.int (2 : Int32)), .val (.ref w2), .val (.ref w2), .val (.int (2 : Int32)), .val (.int (2 : Int32))] [(.int (1 : Int32))]))) (fun _ k => XS.iconst X12.here hx rfl (hb hby at_79) k) ?_
    refine own_go (S' := (T12.setTop (mkF m 84 #[.val (.int p1), .val (.int (2 : Int32)), .val (.ref w2), .val (.ref w2), .val (.int (2 : Int32)), .val (.int (2 : Int32))] [(.int (1 : Int32))]))) (fun _ k => XS.goto X12.here hx rfl (pc0 := 80) (pc' := 84) rfl (hb hby at_80) (by decide) (by decide) k) ?_
    refine own_retZ X12 hx hlk (t := .boolean) hret (by simp) (hb hby at_84) ?_ (by decide) (by decide)
    exact ⟨rfl, N12⟩
  · skip
    refine own_go (S' := (s₁.setTop (mkF m 5 #[.val (.int p1), .val (.int (3 : Int32)), .unset, .unset, .unset, .unset] [(.int (3 : Int32))]))) (fun _ k => XS.iloadN X0.here hx rfl (hb hby at_4) rfl  k) ?_
    obtain ⟨_, _, ⟨T13, L13, k13, n13⟩, -, X13, ⟨Lc13, hQ13, l13, y13, z13⟩, st13⟩ := Jvm.LawKit.callS X0 hx (y := (⟨"com/example/trunkbridge/trunkbridge/core/interwork/Presentation", "ofIndicator", "(I)Lcom/example/trunkbridge/trunkbridge/core/interwork/Presentation;"⟩ : MethodName)) hown (mvT hZ (hw _ (List.mem_of_getElem? (i := 0) rfl))) (mvT hZ (hw _ (List.mem_of_getElem? (i := 1) rfl))) (mvT hZ (hw _ (List.mem_of_getElem? (i := 2) rfl))) (mvT hZ (hw _ (List.mem_of_getElem? (i := 3) rfl))) (by decide) (backOf (W := 0) (own_of3 l Z a0 hw w1 h0 n0 Z0 S_RESTRICTED) hZ (hw _ (List.mem_of_getElem? (i := 3) rfl)) (hw _ (List.mem_of_getElem? (i := 2) rfl)) (by decide) (by decide)) (g := (mkF m 5 #[.val (.int p1), .val (.int (3 : Int32)), .unset, .unset, .unset, .unset] [(.int (3 : Int32))])) rfl (by rw [hml]; rfl) (argsL := [(.int (3 : Int32))]) (rest := []) (lenOf own_pd1 rfl) rfl (by show 2 * 0 + _ ≤ _; exact Nat.le_of_eq rfl) (hb hby at_5) (fun _ _ => ⟨rfl, e0, (by decide : 0 + 0 ≤ _), (by decide : 0 + 0 ≤ _)⟩)
    dsimp only [Pt.U, Pt.locs, Pt.cells, Pt.slots] at X13 l13 y13 z13 st13 hQ13
    subst l13 y13 z13
    obtain ⟨rfl, N13q, hh13⟩ := hQ13
    have N13 := Fr.app N0 N13q
    refine own_go (S' := (T13.setTop (mkF m 8 #[.val (.int p1), .val (.int (3 : Int32)), .unset, .unset, .unset, .unset] [(.ref w1)]))) st13 ?_
    have S1_ALLOWED := S_ALLOWED
    rw [← hh13] at S1_ALLOWED
    have S1_RESTRICTED := S_RESTRICTED
    rw [← hh13] at S1_RESTRICTED
    have S1_NOT_AVAILABLE := S_NOT_AVAILABLE
    rw [← hh13] at S1_NOT_AVAILABLE
    have E1_RESTRICTED := E_RESTRICTED
    rw [← hh13] at E1_RESTRICTED
    have F1_RESTRICTED := F_RESTRICTED
    rw [← hh13] at F1_RESTRICTED
    have Z1 := Z0
    rw [← hh13] at Z1
    refine own_go (S' := (T13.setTop (mkF m 9 #[.val (.int p1), .val (.int (3 : Int32)), .val (.ref w1), .unset, .unset, .unset] []))) (fun _ k => XS.astoreN X13.here hx rfl (hb hby at_8) rfl rfl (l' := #[.val (.int p1), .val (.int (3 : Int32)), .val (.ref w1), .unset, .unset, .unset]) rfl k) ?_
    refine own_go (S' := (T13.setTop (mkF m 10 #[.val (.int p1), .val (.int (3 : Int32)), .val (.ref w1), .unset, .unset, .unset] [(.int (3 : Int32))]))) (fun _ k => XS.iloadN X13.here hx rfl (hb hby at_9) rfl  k) ?_
    refine own_go (S' := (T13.setTop (mkF m 20 #[.val (.int p1), .val (.int (3 : Int32)), .val (.ref w1), .unset, .unset, .unset] []))) (fun _ k => XS.ifYes X13.here hx rfl (pc0 := 10) (pc' := 20) rfl (hb hby at_10) rfl ((if0 _ _).trans (feq (by decide)).2) (by decide) (by decide) k) ?_
    refine own_go (S' := (T13.setTop (mkF m 21 #[.val (.int p1), .val (.int (3 : Int32)), .val (.ref w1), .unset, .unset, .unset] [(.int (3 : Int32))]))) (fun _ k => XS.iloadN X13.here hx rfl (hb hby at_20) rfl  k) ?_
    refine own_go (S' := (T13.setTop (mkF m 22 #[.val (.int p1), .val (.int (3 : Int32)), .val (.ref w1), .unset, .unset, .unset] [(.int (2 : Int32)), (.int (3 : Int32))]))) (fun _ k => XS.iconst X13.here hx rfl (hb hby at_21) k) ?_
    refine own_go (S' := (T13.setTop (mkF m 32 #[.val (.int p1), .val (.int (3 : Int32)), .val (.ref w1), .unset, .unset, .unset] []))) (fun _ k => XS.icmpYes X13.here hx rfl (pc0 := 22) (pc' := 32) rfl (hb hby at_22) rfl (feq (by decide)).2 (by decide) (by decide) k) ?_
    obtain ⟨T14, X14, e14, st14⟩ := getS2 X13 hx hZ hown (host := "") (Or.inl (hw _ (List.mem_of_getElem? (i := 23) rfl))) Via.refl rfl S1_RESTRICTED (g := (mkF m 32 #[.val (.int p1), .val (.int (3 : Int32)), .val (.ref w1), .unset, .unset, .unset] [])) rfl (hb hby at_32)
    refine own_go (S' := (T14.setTop (mkF m 35 #[.val (.int p1), .val (.int (3 : Int32)), .val (.ref w1), .unset, .unset, .unset] [(.ref w1)]))) st14 ?_
    refine own_go (S' := (T14.setTop (mkF m 36 #[.val (.int p1), .val (.int (3 : Int32)), .val (.ref w1), .val (.ref w1), .unset, .unset] []))) (fun _ k => XS.astoreN X14.here hx rfl (hb hby at_35) rfl rfl (l' := #[.val (.int p1), .val (.int (3 : Int32)), .val (.ref w1), .val (.ref w1), .unset, .unset]) rfl k) ?_
    refine own_go (S' := (T14.setTop (mkF m 37 #[.val (.int p1), .val (.int (3 : Int32)), .val (.ref w1), .val (.ref w1), .unset, .unset] [(.ref w1)]))) (fun _ k => XS.aloadN X14.here hx rfl (hb hby at_36) rfl rfl  k) ?_
    refine own_go (S' := (T14.setTop (mkF m 38 #[.val (.int p1), .val (.int (3 : Int32)), .val (.ref w1), .val (.ref w1), .unset, .unset] [(.ref w1), (.ref w1)]))) (fun _ k => XS.aloadN X14.here hx rfl (hb hby at_37) rfl rfl  k) ?_
    refine own_go (S' := (T14.setTop (mkF m 43 #[.val (.int p1), .val (.int (3 : Int32)), .val (.ref w1), .val (.ref w1), .unset, .unset] []))) (fun _ k => Jvm.RoadKit.acmp (g := (mkF m 38 #[.val (.int p1), .val (.int (3 : Int32)), .val (.ref w1), .val (.ref w1), .unset, .unset] [(.ref w1), (.ref w1)])) X14 hx rfl rfl rfl (pc0 := 38) (pc' := 43) (same := true) rfl (hb hby at_38) rfl (decide_eq_true rfl) (by decide) (by decide) k) ?_
    refine own_go (S' := (T14.setTop (mkF m 44 #[.val (.int p1), .val (.int (3 : Int32)), .val (.ref w1), .val (.ref w1), .unset, .unset] [(.ref w1)]))) (fun _ k => XS.aloadN X14.here hx rfl (hb hby at_43) rfl rfl  k) ?_
    obtain ⟨cq15, kq15, q15a, q15b, q15c⟩ := isOf hZ e14 (E1_RESTRICTED)
    obtain ⟨_, _, ⟨T15, L15, k15, n15⟩, -, X15, ⟨Lc15, hQ15, l15, y15, z15⟩, st15⟩ := X14.virtualBack hx (y := (⟨"com/example/trunkbridge/trunkbridge/core/interwork/Presentation", "indicator", "()I"⟩ : MethodName)) (z := (⟨"com/example/trunkbridge/trunkbridge/core/interwork/Presentation", "indicator", "()I"⟩ : MethodName)) hown (mvT hZ (hw _ (List.mem_of_getElem? (i := 7) rfl))) (mvT hZ (hw _ (List.mem_of_getElem? (i := 8) rfl))) (notFace_of_selects (args := #[]) (mvT hZ (hw _ (List.mem_of_getElem? (i := 10) rfl)))) (mvT hZ (hw _ (List.mem_of_getElem? (i := 10) rfl))) (mvT hZ (hw _ (List.mem_of_getElem? (i := 9) rfl))) (by decide) (backOf (W := 0) (own_ind1 l Z a0 hw w1 T13.heap n0 Z1 E1_RESTRICTED F1_RESTRICTED) hZ (hw _ (List.mem_of_getElem? (i := 11) rfl)) (hw _ (List.mem_of_getElem? (i := 2) rfl)) (by decide) (by decide)) q15a q15c (g := (mkF m 44 #[.val (.int p1), .val (.int (3 : Int32)), .val (.ref w1), .val (.ref w1), .unset, .unset] [(.ref w1)])) rfl (by rw [hml]; rfl) (Steps.refl _) (argsL := []) (rest := []) (lenOf own_pd0 rfl) rfl (by show 2 * 0 + _ ≤ _; exact Nat.le_of_eq rfl) (hb hby at_44) (fun _ _ => ⟨rfl, e14, (by decide : 0 + 0 ≤ _), (by decide : 0 + 0 ≤ _)⟩)
    dsimp only [Pt.U, Pt.locs, Pt.cells, Pt.slots] at X15 l15 y15 z15 st15 hQ15
    subst l15 y15 z15
    obtain ⟨rfl, N15q, hh15⟩ := hQ15
    have N15 := Fr.app N13 N15q
    refine own_via (S' := (T15.setTop (mkF m 47 #[.val (.int p1), .val (.int (3 : Int32)), .val (.ref w1), .val (.ref w1), .unset, .unset] [(.int (1 : Int32))]))) st15 ?_
    have S2_RESTRICTED := S1_RESTRICTED
    rw [← hh15] at S2_RESTRICTED
    have Z2 := Z1
    rw [← hh15] at Z2
    refine own_go (S' := (T15.setTop (mkF m 49 #[.val (.int p1), .val (.int (3 : Int32)), .val (.ref w1), .val (.ref w1), .val (.int (1 : Int32)), .unset] []))) (fun _ k => XS.istore X15.here hx rfl (hb hby at_47) rfl (l' := #[.val (.int p1), .val (.int (3 : Int32)), .val (.ref w1), .val (.ref w1), .val (.int (1 : Int32)), .unset]) rfl k) ?_
    refine own_go (S' := (T15.setTop (mkF m 50 #[.val (.int p1), .val (.int (3 : Int32)), .val (.ref w1), .val (.ref w1), .val (.int (1 : Int32)), .unset] [(.int (3 : Int32))]))) (fun _ k => XS.iloadN X15.here hx rfl (hb hby at_49) rfl  k) ?_
    refine own_go (S' := (T15.setTop (mkF m 51 #[.val (.int p1), .val (.int (3 : Int32)), .val (.ref w1), .val (.ref w1), .val (.int (1 : Int32)), .unset] [(.int (3 : Int32)), (.int (3 : Int32))]))) (fun _ k => XS.iconst X15.here hx rfl (hb hby at_50) k) ?_
    refine own_go (S' := (T15.setTop (mkF m 54 #[.val (.int p1), .val (.int (3 : Int32)), .val (.ref w1), .val (.ref w1), .val (.int (1 : Int32)), .unset] []))) (fun _ k => XS.icmpNo X15.here hx rfl (hb hby at_51) rfl (teq rfl).2 k) ?_
    refine own_go (S' := (T15.setTop (mkF m 55 #[.val (.int p1), .val (.int (3 : Int32)), .val (.ref w1), .val (.ref w1), .val (.int (1 : Int32)), .unset] [(.int (1 : Int32))]))) (fun _ k => XS.iconst X15.here hx rfl (hb hby at_54) k) ?_
    refine own_go (S' := (T15.setTop (mkF m 59 #[.val (.int p1), .val (.int (3 : Int32)), .val (.ref w1), .val (.ref w1), .val (.int (1 : Int32)), .unset] [(.int (1 : Int32))]))) (fun _ k => XS.goto X15.here hx rfl (pc0 := 55) (pc' := 59) rfl (hb hby at_55) (by decide) (by decide) k) ?_
    refine own_go (S' := (T15.setTop (mkF m 61 #[.val (.int p1), .val (.int (3 : Int32)), .val (.ref w1), .val (.ref w1), .val (.int (1 : Int32)), .val (.int (1 : Int32))] []))) (fun _ k => XS.istore X15.here hx rfl (hb hby at_59) rfl (l' := #[.val (.int p1), .val (.int (3 : Int32)), .val (.ref w1), .val (.ref w1), .val (.int (1 : Int32)), .val (.int (1 : Int32))]) rfl k) ?_
    refine own_go (S' := (T15.setTop (mkF m 63 #[.val (.int p1), .val (.int (3 : Int32)), .val (.ref w1), .val (.ref w1), .val (.int (1 : Int32)), .val (.int (1 : Int32))] [(.int (1 : Int32))]))) (fun _ k => XS.iload X15.here hx rfl (hb hby at_61) rfl  k) ?_
    refine own_go (S' := (T15.setTop (mkF m 65 #[.val (.int p1), .val (.int (3 : Int32)), .val (.ref w1), .val (.ref w1), .val (.int (1 : Int32)), .val (.int (1 : Int32))] [(.int (1 : Int32)), (.int (1 : Int32))]))) (fun _ k => XS.iload X15.here hx rfl (hb hby at_63) rfl  k) ?_
    refine own_go (S' := (T15.setTop (mkF m 70 #[.val (.int p1), .val (.int (3 : Int32)), .val (.ref w1), .val (.ref w1), .val (.int (1 : Int32)), .val (.int (1 : Int32))] []))) (fun _ k => XS.icmpYes X15.here hx rfl (pc0 := 65) (pc' := 70) rfl (hb hby at_65) rfl (teq rfl).1 (by decide) (by decide) k) ?_
    refine own_go (S' := (T15.setTop (mkF m 72 #[.val (.int p1), .val (.int (3 : Int32)), .val (.ref w1), .val (.ref w1), .val (.int (1 : Int32)), .val (.int (1 : Int32))] [(.int (1 : Int32))]))) (fun _ k => XS.iload X15.here hx rfl (hb hby at_70) rfl  k) ?_
    obtain ⟨_, _, ⟨T16, L16, k16, n16⟩, -, X16, ⟨Lc16, hQ16, l16, y16, z16⟩, st16⟩ := Jvm.LawKit.callS X15 hx (y := (⟨"com/example/trunkbridge/trunkbridge/core/interwork/Presentation", "ofIndicator", "(I)Lcom/example/trunkbridge/trunkbridge/core/interwork/Presentation;"⟩ : MethodName)) hown (mvT hZ (hw _ (List.mem_of_getElem? (i := 0) rfl))) (mvT hZ (hw _ (List.mem_of_getElem? (i := 1) rfl))) (mvT hZ (hw _ (List.mem_of_getElem? (i := 2) rfl))) (mvT hZ (hw _ (List.mem_of_getElem? (i := 3) rfl))) (by decide) (backOf (W := 0) (own_of1 l Z a0 hw w1 T15.heap n0 Z2 S2_RESTRICTED) hZ (hw _ (List.mem_of_getElem? (i := 3) rfl)) (hw _ (List.mem_of_getElem? (i := 2) rfl)) (by decide) (by decide)) (g := (mkF m 72 #[.val (.int p1), .val (.int (3 : Int32)), .val (.ref w1), .val (.ref w1), .val (.int (1 : Int32)), .val (.int (1 : Int32))] [(.int (1 : Int32))])) rfl (by rw [hml]; rfl) (argsL := [(.int (1 : Int32))]) (rest := []) (lenOf own_pd1 rfl) rfl (by show 2 * 0 + _ ≤ _; exact Nat.le_of_eq rfl) (hb hby at_72) (fun _ _ => ⟨rfl, rfl, (by decide : 0 + 0 ≤ _), (by decide : 0 + 0 ≤ _)⟩)
    dsimp only [Pt.U, Pt.locs, Pt.cells, Pt.slots] at X16 l16 y16 z16 st16 hQ16
    subst l16 y16 z16
    obtain ⟨rfl, N16q, hh16⟩ := hQ16
    have N16 := Fr.app N15 N16q
    refine own_go (S' := (T16.setTop (mkF m 75 #[.val (.int p1), .val (.int (3 : Int32)), .val (.ref w1), .val (.ref w1), .val (.int (1 : Int32)), .val (.int (1 : Int32))] [(.ref w1)]))) st16 ?_
    refine own_go (S' := (T16.setTop (mkF m 76 #[.val (.int p1), .val (.int (3 : Int32)), .val (.ref w1), .val (.ref w1), .val (.int (1 : Int32)), .val (.int (1 : Int32))] [(.ref w1), (.ref w1)]))) (fun _ k => XS.aloadN X16.here hx rfl (hb hby at_75) rfl rfl  k) ?_
    refine own_go (S' := (T16.setTop (mkF m 79 #[.val (.int p1), .val (.int (3 : Int32)), .val (.ref w1), .val (.ref w1), .val (.int (1 : Int32)), .val (.int (1 : Int32))] []))) (fun _ k => Jvm.RoadKit.acmp (g := (mkF m 76 #[.val (.int p1), .val (.int (3 : Int32)), .val (.ref w1), .val (.ref w1), .val (.int (1 : Int32)), .val (.int (1 : Int32))] [(.ref w1), (.ref w1)])) X16 hx rfl rfl rfl (pc0 := 76) (pc' := 79) (same := true) rfl (hb hby at_76) rfl (decide_eq_true rfl) (by decide) (by decide) k) ?_
    refine own_go (S' := (T16.setTop (mkF m 80 #[.val (.int p1), .val (.int (3 : Int32)), .val (.ref w1), .val (.ref w1), .val (.int (1 : Int32)), .val (.int (1 : Int32))] [(.int (1 : Int32))]))) (fun _ k => XS.iconst X16.here hx rfl (hb hby at_79) k) ?_
    refine own_go (S' := (T16.setTop (mkF m 84 #[.val (.int p1), .val (.int (3 : Int32)), .val (.ref w1), .val (.ref w1), .val (.int (1 : Int32)), .val (.int (1 : Int32))] [(.int (1 : Int32))]))) (fun _ k => XS.goto X16.here hx rfl (pc0 := 80) (pc' := 84) rfl (hb hby at_80) (by decide) (by decide) k) ?_
    refine own_retZ X16 hx hlk (t := .boolean) hret (by simp) (hb hby at_84) ?_ (by decide) (by decide)
    exact ⟨rfl, N16⟩
set_option maxRecDepth 65536 in
set_option maxHeartbeats 40000000 in
theorem comes_1 {Post : Tables → Env → Array Value → State → Outcome → State → Prop} (hpost : ∀ tb e args s v u, (limb_1_1.after args s (.returned v) u = true ∧ limb_1_2.after args s (.returned v) u = true ∧ True) → FrameEnd s (.returned v) u (Jvm.fieldLocs frame_1_writes args s ++ Jvm.arrayLocs frame_1_arrays args s ++ Jvm.staticLocs frame_1_statics s) 0 0 → Post tb e args s (.returned v) u) :
    ArmFor flags0 classFile x code maxLocals ret World_1 tables_1 room_1 Calls_1 rest_1 Pre_1 Post := by
  intro l hfl _ _ p e ha hc hk s m args below hf hA hF happ hP
  obtain ⟨hcalls, hrest, hpre⟩ := hP
  obtain ⟨-, -, -, hnamed, -, -, -, hat⟩ := (Spec.applies_iff hf).mp happ
  obtain ⟨hg, hn⟩ := and_e (Cond.before_iff.mp (show (Jvm.Cond.and given_1 narrow_1).before args s = true from hpre))
  obtain ⟨g0, gg0⟩ := and_e hg
  obtain ⟨w0, rfl⟩ : ∃ w0 : Value, args = #[w0] := by
    have hs : args.size = 1 := by simpa [Cond.value, given_1] using g0
    obtain ⟨L⟩ := args
    match L, hs with
    | [w0], _ => exact ⟨w0, rfl⟩
  have hw := fun d (hd : d ∈ tables_1) => atoms_spec (ws := Jvm.Cond.code x code maxLocals ret :: tables_1) hat d (List.mem_cons_of_mem _ hd)
  obtain ⟨i0, ei0⟩ := is_v gg0
  obtain rfl : w0 = (.int i0) := Option.some.inj ei0
  obtain ⟨n1, hn⟩ := and_e hn
  obtain ⟨n2, hn⟩ := and_e hn
  obtain ⟨n3, hn⟩ := and_e hn
  obtain ⟨n4, hn⟩ := and_e hn
  obtain ⟨n5, n6⟩ := and_e hn
  obtain ⟨w0, e_ALLOWED, S_ALLOWED, E_ALLOWED⟩ := own_static n1 (hw _ (List.mem_of_getElem? (i := 2) rfl)) (hw _ (List.mem_of_getElem? (i := 5) rfl))
  have F_ALLOWED := own_fldI e_ALLOWED n2
  obtain ⟨w1, e_RESTRICTED, S_RESTRICTED, E_RESTRICTED⟩ := own_static n3 (hw _ (List.mem_of_getElem? (i := 2) rfl)) (hw _ (List.mem_of_getElem? (i := 22) rfl))
  have F_RESTRICTED := own_fldI e_RESTRICTED n4
  obtain ⟨w2, e_NOT_AVAILABLE, S_NOT_AVAILABLE, E_NOT_AVAILABLE⟩ := own_static n5 (hw _ (List.mem_of_getElem? (i := 2) rfl)) (hw _ (List.mem_of_getElem? (i := 25) rfl))
  have F_NOT_AVAILABLE := own_fldI e_NOT_AVAILABLE n6
  obtain ⟨n, o, h1, h2, h3, _, L, rfl, ⟨rfl, N⟩, hq⟩ := own_rm0 l s _ hw i0 w0 w1 w2 s.heap s.heap.size (Nat.le_refl _) S_ALLOWED E_ALLOWED F_ALLOWED S_RESTRICTED E_RESTRICTED F_RESTRICTED S_NOT_AVAILABLE E_NOT_AVAILABLE F_NOT_AVAILABLE p e ha hc hk s m _ below hf ((Spec.applies_iff_loose hf).mp happ).1 ⟨rfl, State.Warmed39.refl s, rfl⟩ trivial
  refine ⟨n, _, h1, h2, h3, hpost _ _ _ _ _ _ ⟨Cond.after_iff.mpr rfl, Cond.after_iff.mpr (eq_i res_at (Term.int_eval (1)) rfl), trivial⟩ ⟨hq.1, hq.2.1, (hq.2.2.sift fun y hy => Or.inr (N y hy)).mono (by decide) (by decide)⟩⟩
theorem main_1_1 : Claimed_1_1 := comes_1 fun _ _ _ _ _ _ h hF => ⟨h.1, hF⟩
theorem main_1_2 : Claimed_1_2 := comes_1 fun _ _ _ _ _ _ h hF => ⟨h.2.1, hF⟩
end Jvm.Pilot.@@N@@
namespace Jvm.Pilot.@@N@@
open Jvm Jvm.ClassFile Sem Op Lib Jvm.Free Jvm.Stand Jvm.Pilot.@@N@@.Jvm.D
/-! MADE BY PROGRAM (witnessworld.py) out of the Statement's table words and the real class files: 12 classes; the members and pool entries that the words name. The judged class is class 1, her method 1. -/
namespace start1
open Jvm.ClassFile
def u (s : String) : CpInfo := .utf8 (stringToUtf16 s)
/-- a pool by its gaps: so many unusable entries, then the entry; so many at the end -/
def gap : Nat → List CpInfo → List CpInfo
  | 0, r => r
  | n + 1, r => .unusable :: gap n r
def poolList (es : List (Nat × CpInfo)) (last : Nat) : List CpInfo := es.foldr (fun e r => gap e.1 (e.2 :: r)) (gap last [])
def pool (es : List (Nat × CpInfo)) (last : Nat) : Array CpInfo := ⟨poolList es last⟩
def fileOf (pool : Array CpInfo) (this : Nat) (attrs : Array Attribute := #[]) (ms : Array MethodInfo := #[]) (fl : Nat := 33) (sup : Nat := 0) (ifs : Array Nat := #[]) (fds : Array FieldInfo := #[]) : ClassFile where
  minorVersion := 0
  majorVersion := 65
  constantPool := pool
  accessFlags := fl
  thisClass := this
  superClass := sup
  interfaces := ifs
  fields := fds
  methods := ms
  attributes := attrs
def plain (name : String) (sup : Option ClassId) : Class where
  name := name
  kind := .ordinary
  loader := none
  accessFlags := 33
  super := sup
  interfaces := #[]
  cf := none
  fields := #[]
  methods := #[]
  instanceTypes := #[]
  staticTypes := #[]
  resolved := #[]
  callSites := []
  init := .initialized
  statics := none
  mirror := none

def pool0 : Array CpInfo := pool [(5, u "<init>"), (0, u "()V"), (1, .class_ 10), (1, u "java/lang/Object")] 113

def k0m0 : Method := { name := "<init>", desc := "()V", sig := { parameters := [], returnType := none }, accessFlags := 1, code := none }
/-- java/lang/Object -/
def k0 : Class := { plain "java/lang/Object" none with
  accessFlags := 33
  interfaces := #[]
  cf := some (fileOf pool0 8 #[] #[{ accessFlags := 1, nameIndex := 5, descriptorIndex := 6, attributes := #[] }] 33 0 #[] #[])
  fields := #[]
  methods := #[k0m0]
  instanceTypes := #[]
  staticTypes := #[]
  resolved := Array.replicate 124 none
  statics := none }

def pool1 : Array CpInfo := pool [(2, .class_ 4), (1, u "java/lang/Object"), (0, u "<init>"), (0, u "()V"), (0, .methodref 8 9), (0, .class_ 10), (0, .nameAndType 11 12), (0, u "com/example/trunkbridge/trunkbridge/core/interwork/Presentation"), (0, u "ofIndicator"), (0, u "(I)Lcom/example/trunkbridge/trunkbridge/core/interwork/Presentation;"), (0, .fieldref 8 14), (0, .nameAndType 15 16), (0, u "ALLOWED"), (0, u "Lcom/example/trunkbridge/trunkbridge/core/interwork/Presentation;"), (0, .fieldref 8 18), (0, .nameAndType 19 16), (0, u "NOT_AVAILABLE"), (0, .fieldref 8 21), (0, .nameAndType 22 16), (0, u "RESTRICTED"), (0, .methodref 8 24), (0, .nameAndType 25 26), (0, u "indicator"), (0, u "()I"), (0, .class_ 28), (0, u "com/example/trunkbridge/trunkbridge/core/interwork/PresentationOfIndicatorPinLaw"), (2, u "law"), (0, u "(I)Z")] 3

def k1m0 : Method := { name := "<init>", desc := "()V", sig := { parameters := [], returnType := none }, accessFlags := 2, code := none }
def k1c1 : Code := { maxStack := 2, maxLocals := 6, code := code, exceptionTable := #[], attributes := #[] }
def k1m1 : Method := { name := "law", desc := "(I)Z", sig := { parameters := [.int], returnType := some .boolean }, accessFlags := 9, code := some k1c1 }
/-- com/example/trunkbridge/trunkbridge/core/interwork/PresentationOfIndicatorPinLaw -/
def k1 : Class := { plain "com/example/trunkbridge/trunkbridge/core/interwork/PresentationOfIndicatorPinLaw" (some 0) with
  accessFlags := 49
  interfaces := #[]
  cf := some (fileOf pool1 27 #[] #[{ accessFlags := 2, nameIndex := 5, descriptorIndex := 6, attributes := #[] }, { accessFlags := 9, nameIndex := 31, descriptorIndex := 32, attributes := #[] }] 49 2 #[] #[])
  fields := #[]
  methods := #[k1m0, k1m1]
  instanceTypes := #[]
  staticTypes := #[]
  resolved := Array.replicate 36 none
  statics := none }

def pool2 : Array CpInfo := pool [(1, .class_ 2), (0, u "java/lang/constant/Constable"), (0, .class_ 4), (0, u "java/lang/Object")] 6

/-- java/lang/constant/Constable -/
def k2 : Class := { plain "java/lang/constant/Constable" (some 0) with
  accessFlags := 1537
  interfaces := #[]
  cf := some (fileOf pool2 1 #[] #[] 1537 3 #[] #[])
  fields := #[]
  methods := #[]
  instanceTypes := #[]
  staticTypes := #[]
  resolved := Array.replicate 11 none
  statics := none }

def pool3 : Array CpInfo := pool [(1, .class_ 2), (0, u "java/lang/Comparable"), (0, .class_ 4), (0, u "java/lang/Object")] 7

/-- java/lang/Comparable -/
def k3 : Class := { plain "java/lang/Comparable" (some 0) with
  accessFlags := 1537
  interfaces := #[]
  cf := some (fileOf pool3 1 #[] #[] 1537 3 #[] #[])
  fields := #[]
  methods := #[]
  instanceTypes := #[]
  staticTypes := #[]
  resolved := Array.replicate 12 none
  statics := none }

def pool4 : Array CpInfo := pool [(1, .class_ 2), (0, u "java/io/Serializable"), (0, .class_ 4), (0, u "java/lang/Object")] 2

/-- java/io/Serializable -/
def k4 : Class := { plain "java/io/Serializable" (some 0) with
  accessFlags := 1537
  interfaces := #[]
  cf := some (fileOf pool4 1 #[] #[] 1537 3 #[] #[])
  fields := #[]
  methods := #[]
  instanceTypes := #[]
  staticTypes := #[]
  resolved := Array.replicate 7 none
  statics := none }

def pool5 : Array CpInfo := pool [(2, .class_ 4), (1, u "java/lang/Enum"), (0, u "name"), (0, u "Ljava/lang/String;"), (0, .fieldref 2 8), (0, .nameAndType 9 10), (0, u "ordinal"), (0, u "I"), (1, .class_ 14), (1, u "java/lang/Object"), (4, u "hash"), (86, .class_ 108), (1, u "java/lang/Enum$EnumDesc"), (2, .class_ 112), (0, u "java/lang/constant/Constable"), (0, .class_ 114), (0, u "java/lang/Comparable"), (0, .class_ 116), (0, u "java/io/Serializable"), (9, u "()I")] 77

def k5c0 : Code := { maxStack := 1, maxLocals := 1, code := jdk_37_method_2_code, exceptionTable := #[], attributes := #[] }
def k5m0 : Method := { name := "ordinal", desc := "()I", sig := { parameters := [], returnType := some .int }, accessFlags := 17, code := some k5c0 }
/-- java/lang/Enum -/
def k5 : Class := { plain "java/lang/Enum" (some 0) with
  accessFlags := 1057
  interfaces := #[2, 3, 4]
  cf := some (fileOf pool5 2 #[.nestMembers #[106]] #[{ accessFlags := 17, nameIndex := 9, descriptorIndex := 126, attributes := #[] }] 1057 12 #[111, 113, 115] #[{ accessFlags := 18, nameIndex := 5, descriptorIndex := 6, attributes := #[] }, { accessFlags := 18, nameIndex := 9, descriptorIndex := 10, attributes := #[] }, { accessFlags := 2, nameIndex := 19, descriptorIndex := 10, attributes := #[] }])
  fields := #[{ name := "name", type := (.object "java/lang/String"), accessFlags := 18, slot := 0, constantValue := 0 }, { name := "ordinal", type := .int, accessFlags := 18, slot := 1, constantValue := 0 }, { name := "hash", type := .int, accessFlags := 2, slot := 2, constantValue := 0 }]
  methods := #[k5m0]
  instanceTypes := #[(.object "java/lang/String"), .int, .int]
  staticTypes := #[]
  resolved := Array.replicate 204 none
  statics := none }

def pool6 : Array CpInfo := pool [(1, .class_ 2), (0, u "com/example/trunkbridge/trunkbridge/core/interwork/Presentation"), (0, .fieldref 1 4), (0, .nameAndType 5 6), (0, u "ALLOWED"), (0, u "Lcom/example/trunkbridge/trunkbridge/core/interwork/Presentation;"), (0, .fieldref 1 8), (0, .nameAndType 9 6), (0, u "RESTRICTED"), (0, .fieldref 1 11), (0, .nameAndType 12 6), (0, u "NOT_AVAILABLE"), (2, u "$VALUES"), (0, u "[Lcom/example/trunkbridge/trunkbridge/core/interwork/Presentation;"), (6, .class_ 25), (1, u "java/lang/Enum"), (6, .methodref 1 33), (0, .nameAndType 34 35), (0, u "ordinal"), (0, u "()I"), (20, u "ofIndicator"), (0, u "(I)Lcom/example/trunkbridge/trunkbridge/core/interwork/Presentation;"), (1, u "indicator")] 4

def k6c0 : Code := { maxStack := 1, maxLocals := 1, code := prog_23_method_4_code, exceptionTable := #[], attributes := #[] }
def k6m0 : Method := { name := "ofIndicator", desc := "(I)Lcom/example/trunkbridge/trunkbridge/core/interwork/Presentation;", sig := { parameters := [.int], returnType := some (.object "com/example/trunkbridge/trunkbridge/core/interwork/Presentation") }, accessFlags := 9, code := some k6c0 }
def k6c1 : Code := { maxStack := 4, maxLocals := 1, code := prog_23_method_5_code, exceptionTable := #[], attributes := #[] }
def k6m1 : Method := { name := "indicator", desc := "()I", sig := { parameters := [], returnType := some .int }, accessFlags := 1, code := some k6c1 }
/-- com/example/trunkbridge/trunkbridge/core/interwork/Presentation -/
def k6 : Class := { plain "com/example/trunkbridge/trunkbridge/core/interwork/Presentation" (some 5) with
  accessFlags := 16433
  interfaces := #[]
  cf := some (fileOf pool6 1 #[] #[{ accessFlags := 9, nameIndex := 56, descriptorIndex := 57, attributes := #[] }, { accessFlags := 1, nameIndex := 59, descriptorIndex := 35, attributes := #[] }] 16433 23 #[] #[{ accessFlags := 16409, nameIndex := 5, descriptorIndex := 6, attributes := #[] }, { accessFlags := 16409, nameIndex := 9, descriptorIndex := 6, attributes := #[] }, { accessFlags := 16409, nameIndex := 12, descriptorIndex := 6, attributes := #[] }, { accessFlags := 4122, nameIndex := 15, descriptorIndex := 16, attributes := #[] }])
  fields := #[{ name := "ALLOWED", type := (.object "com/example/trunkbridge/trunkbridge/core/interwork/Presentation"), accessFlags := 16409, slot := 0, constantValue := 0 }, { name := "RESTRICTED", type := (.object "com/example/trunkbridge/trunkbridge/core/interwork/Presentation"), accessFlags := 16409, slot := 1, constantValue := 0 }, { name := "NOT_AVAILABLE", type := (.object "com/example/trunkbridge/trunkbridge/core/interwork/Presentation"), accessFlags := 16409, slot := 2, constantValue := 0 }, { name := "$VALUES", type := (.array (.object "com/example/trunkbridge/trunkbridge/core/interwork/Presentation")), accessFlags := 4122, slot := 3, constantValue := 0 }]
  methods := #[k6m0, k6m1]
  instanceTypes := #[(.object "java/lang/String"), .int, .int]
  staticTypes := #[(.object "com/example/trunkbridge/trunkbridge/core/interwork/Presentation"), (.object "com/example/trunkbridge/trunkbridge/core/interwork/Presentation"), (.object "com/example/trunkbridge/trunkbridge/core/interwork/Presentation"), (.array (.object "com/example/trunkbridge/trunkbridge/core/interwork/Presentation"))]
  resolved := Array.replicate 64 none
  statics := some 0 }

def pool7 : Array CpInfo := pool [(1, u "java/lang/Cloneable"), (0, .class_ 1), (0, u "java/lang/Object"), (0, .class_ 3)] 3

/-- java/lang/Cloneable -/
def k7 : Class := { plain "java/lang/Cloneable" (some 0) with
  accessFlags := 1537
  interfaces := #[]
  cf := some (fileOf pool7 2 #[] #[] 1537 4 #[] #[])
  fields := #[]
  methods := #[]
  instanceTypes := #[]
  staticTypes := #[]
  resolved := Array.replicate 8 none
  statics := none }

/-- the primitive byte -/
def k8 : Class := { plain "byte" none with kind := .primitive 'B', accessFlags := 0x411 }
/-- [B -/
def k9 : Class := { plain "[B" (some 0) with kind := .array 8 .byte, interfaces := #[7, 4], accessFlags := 1041 }

/-- the primitive int -/
def k10 : Class := { plain "int" none with kind := .primitive 'I', accessFlags := 0x411 }
/-- [I -/
def k11 : Class := { plain "[I" (some 0) with kind := .array 10 .int, interfaces := #[7, 4], accessFlags := 1041 }

def heap : Heap := #[{ cls := 6, slots := #[.ref 1, .ref 2, .ref 3, .null], vm := .statics 6 },
  { cls := 6, slots := #[.null, .int 0, .int 0], vm := .none },
  { cls := 6, slots := #[.null, .int 1, .int 0], vm := .none },
  { cls := 6, slots := #[.null, .int 2, .int 0], vm := .none }]
def classes : Array Class := #[k0, k1, k2, k3, k4, k5, k6, k7, k8, k9, k10, k11]
def interned : List (Array UInt16 × Addr) := []
def slotsUsed : Nat := 13
def theMethod : MethodId := ⟨1, 1⟩
def args0 : Array Value := #[.int 5]
def aboutOver (below : List Frame) : State where
  vm := { classes := classes, interned := interned.toArray }
  heap := heap
  slotsUsed := slotsUsed
  threads := #[{ frames := .invoking theMethod args0 :: below }]
def below0 : List Frame := [.native { method := ⟨0, 0⟩, args := #[] }]
def about1 : State := aboutOver below0
def p0 : Program := .bare "" "" ""
def e0 : Env := launch0.env 0 0 0
theorem w_frames : about1.frames = Frame.invoking theMethod args0 :: below0 := rfl
set_option maxRecDepth 65536 in
theorem w_args : argsFit about1.vm theMethod args0 = true := by decide +kernel
set_option maxRecDepth 65536 in
theorem w_heap : heapFits about1 = true := by decide +kernel
set_option maxRecDepth 65536 in
theorem w_runnable : about1.curStatus? = some .runnable := by decide +kernel
set_option maxRecDepth 65536 in
theorem w_alone : about1.alone = true := by decide +kernel
set_option maxRecDepth 65536 in
theorem w_named : about1.methodNamed? x = some theMethod := by decide +kernel
set_option maxRecDepth 65536 in
theorem w_hears : about1.hears theMethod below0 = true := by decide +kernel
set_option maxRecDepth 65536 in
theorem w_ripe : about1.ripe theMethod args0 below0 = true := by decide +kernel
theorem w_running : about1.status = .running := rfl
set_option maxRecDepth 65536 in
theorem w_room : about1.hasRoom e0.platform room_1 = true :=
  launch0.hasRoom_least _ room_1 (by decide +kernel) (by decide +kernel) (by decide +kernel) (by decide +kernel) (by decide +kernel) (by decide +kernel)
theorem allAtoms_all (ts : List Jvm.Cond) (a : Array Jvm.Value) (st : Jvm.State) : (allAtoms ts).before a st = ts.all (fun c => c.before a st) := by
  induction ts with
  | nil => rfl
  | cons c t ih =>
    show (Jvm.Cond.and c (allAtoms t)).before a st = _
    rw [Jvm.Cond.before_and, ih, List.all_cons]
def words1 : List Jvm.Cond := Jvm.Cond.code x code maxLocals ret :: tables_1
/-- a 'code' word, met by the world's own term for the bytes: nothing is compared byte by byte -/
theorem code_word {y : MethodName} {bytes : ByteArray} {mx : Nat} {rt : Option FieldType} {a : Array Value} {s : State} {m : MethodId} {meth : Method} {c : Code} (h1 : s.methodNamed? y = some m) (h2 : s.vm.method? m = some meth) (h3 : meth.code = some c) (h4 : c.code = bytes)
    (h5 : (c.maxLocals == mx && c.exceptionTable.isEmpty && decide (c.maxStack ≤ mostOperands) && decide (meth.sig.returnType = rt) && !meth.locks && decide (parseMethodDescriptor y.desc = some meth.sig)) = true) : (Jvm.Cond.code y bytes mx rt).before a s = true := by
  simp only [Bool.and_eq_true, beq_iff_eq, Bool.not_eq_true', decide_eq_true_eq] at h5
  obtain ⟨⟨⟨⟨⟨g1, g2⟩, g3⟩, g4⟩, g5⟩, g6⟩ := h5
  simp [Cond.before, Cond.holds, Cond.value, h1, h2, h3, h4, g1, g2, g3, g4, g5, g6]
def isCode : Jvm.Cond → Bool
  | .code _ _ _ _ => true
  | _ => false
theorem all_split {L : List Jvm.Cond} {P : Jvm.Cond → Bool} (h1 : L.all (fun c => isCode c || P c) = true) (h2 : ∀ c ∈ L.filter isCode, P c = true) : L.all P = true := by
  refine List.all_eq_true.mpr fun c hc => ?_
  have h := List.all_eq_true.mp h1 c hc
  rcases Bool.eq_false_or_eq_true (isCode c) with hi | hi
  · exact h2 c (List.mem_filter.mpr ⟨hc, hi⟩)
  · simpa [hi] using h
set_option maxRecDepth 65536 in
theorem w_c0 : (Jvm.Cond.code x code maxLocals ret).before args0 about1 = true := code_word (m := ⟨1, 1⟩) (meth := k1m1) (c := k1c1) (by decide +kernel) rfl rfl rfl (by decide +kernel)
set_option maxRecDepth 65536 in
theorem w_c1 : (Jvm.Cond.code ({ cls := "com/example/trunkbridge/trunkbridge/core/interwork/Presentation", name := "ofIndicator", desc := "(I)Lcom/example/trunkbridge/trunkbridge/core/interwork/Presentation;" } : Jvm.MethodName) prog_23_method_4_code (1 : Nat) (Option.some (Jvm.ClassFile.FieldType.object "com/example/trunkbridge/trunkbridge/core/interwork/Presentation"))).before args0 about1 = true := code_word (m := ⟨6, 0⟩) (meth := k6m0) (c := k6c0) (by decide +kernel) rfl rfl rfl (by decide +kernel)
set_option maxRecDepth 65536 in
theorem w_c2 : (Jvm.Cond.code ({ cls := "com/example/trunkbridge/trunkbridge/core/interwork/Presentation", name := "indicator", desc := "()I" } : Jvm.MethodName) prog_23_method_5_code (1 : Nat) (Option.some Jvm.ClassFile.FieldType.int)).before args0 about1 = true := code_word (m := ⟨6, 1⟩) (meth := k6m1) (c := k6c1) (by decide +kernel) rfl rfl rfl (by decide +kernel)
set_option maxRecDepth 65536 in
theorem w_c3 : (Jvm.Cond.code ({ cls := "java/lang/Enum", name := "ordinal", desc := "()I" } : Jvm.MethodName) jdk_37_method_2_code (1 : Nat) (Option.some Jvm.ClassFile.FieldType.int)).before args0 about1 = true := code_word (m := ⟨5, 0⟩) (meth := k5m0) (c := k5c0) (by decide +kernel) rfl rfl rfl (by decide +kernel)
def codes1 : List Jvm.Cond := [Jvm.Cond.code x code maxLocals ret, Jvm.Cond.code ({ cls := "com/example/trunkbridge/trunkbridge/core/interwork/Presentation", name := "ofIndicator", desc := "(I)Lcom/example/trunkbridge/trunkbridge/core/interwork/Presentation;" } : Jvm.MethodName) prog_23_method_4_code (1 : Nat) (Option.some (Jvm.ClassFile.FieldType.object "com/example/trunkbridge/trunkbridge/core/interwork/Presentation")), Jvm.Cond.code ({ cls := "com/example/trunkbridge/trunkbridge/core/interwork/Presentation", name := "indicator", desc := "()I" } : Jvm.MethodName) prog_23_method_5_code (1 : Nat) (Option.some Jvm.ClassFile.FieldType.int), Jvm.Cond.code ({ cls := "java/lang/Enum", name := "ordinal", desc := "()I" } : Jvm.MethodName) jdk_37_method_2_code (1 : Nat) (Option.some Jvm.ClassFile.FieldType.int)]
set_option maxRecDepth 65536 in
theorem codes_eq : words1.filter isCode = codes1 := rfl
theorem w_codes : ∀ c ∈ words1.filter isCode, c.before args0 about1 = true := by
  rw [codes_eq]
  intro c hc
  simp only [codes1, List.mem_cons, List.not_mem_nil, or_false] at hc
  rcases hc with rfl | rfl | rfl | rfl
  · exact w_c0
  · exact w_c1
  · exact w_c2
  · exact w_c3
set_option maxRecDepth 65536 in
theorem w_t1 : (words1.take 24).all (fun c => isCode c || c.before args0 about1) = true := by decide +kernel
set_option maxRecDepth 65536 in
theorem w_t2 : (words1.drop 24).all (fun c => isCode c || c.before args0 about1) = true := by decide +kernel
theorem w_tables : (allAtoms (Jvm.Cond.code x code maxLocals ret :: tables_1)).before args0 about1 = true := by
  rw [allAtoms_all]
  show words1.all (fun c => c.before args0 about1) = true
  refine all_split ?_ w_codes
  rw [← List.take_append_drop 24 words1, List.all_append, w_t1, w_t2]
  rfl
set_option maxRecDepth 65536 in
theorem w_case : (Jvm.Cond.and given_1 narrow_1).before args0 about1 = true := by decide +kernel
theorem w_applies : (headSpec (Jvm.Cond.code x code maxLocals ret :: tables_1) room_1).applies x e0.platform about1 = true :=
  (Spec.applies_iff w_frames).mpr ⟨w_running, w_runnable, w_alone, w_named, w_hears, w_ripe, w_room, w_tables⟩
theorem atStart : AtStart classFile x code maxLocals ret World_1 tables_1 room_1 Calls_1 rest_1 Pre_1 launch0 p0 e0 about1 theMethod args0 below0 :=
  ⟨lists_1, trivial, launch0.admits_env _ _ _, launch0.least_env, fairChoices_fair.cas, fairChoices_fair.clock, w_frames, w_args, w_heap, w_applies, trivial, trivial, w_case⟩
end start1
theorem witness_1 : WitnessClaimed_1 := ⟨start1.p0, start1.e0, start1.about1, start1.theMethod, start1.args0, start1.below0, start1.atStart⟩
end Jvm.Pilot.@@N@@
