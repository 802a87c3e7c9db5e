import JvmDerived
import JvmDerived.Pilot.@@N@@Statement
import JvmDerived.Pilot.@@N@@Code
set_option linter.unusedVariables false
set_option linter.unusedSimpArgs false
namespace Jvm.RoadKit
open Sem ClassFile Op Lib Jvm.Stand Jvm.Free Jvm.LawKit
section Own
variable {p : Program} {l : Launch} {e : Env} {R : Room} {s : State} {m : MethodId} {args : Array Value} {below : List Frame} {meth : Method} {c : Code} {T : State} {locs : List Loc} {cells slots rc rs : Nat} {Z : State} {a0 : Array Value} {h : Heap} {Q : Option Value → Heap → List Loc → Prop}
/-- from S on the body ends, and ends as Q says -/
def own_E (p : Program) (e : Env) (below : List Frame) (s : State) (Q : Option Value → Heap → List Loc → Prop) (rc rs : Nat) (S : State) : Prop :=
  ∃ s₂ o, Steps p.tables e below S s₂ ∧ s₂.status = .running ∧ Ended s₂ below o ∧ ∃ v L, o = .returned v ∧ Q v s₂.heap L ∧ FrameEnd s o s₂ L rc rs
/-- a body's contract: called with these arguments over this heap it returns as Q says -/
abbrev own_C (l : Launch) (Z : State) (y : MethodName) (bytes : ByteArray) (maxL : Nat) (ret : Option FieldType) (ws : List Cond) (rm : Room) (as' : Array Value) (h0 : Heap) (Q : Option Value → Heap → List Loc → Prop) : Prop :=
  MetFree l y (head1 (Cond.code y bytes maxL ret :: ws) rm) (fun a U => a = as' ∧ Z.Warmed39 U.vm ∧ U.heap = h0) (fun _ _ _ _ _ => True) (fun _ U o U' => ∃ v L, o = .returned v ∧ Q v U'.heap L ∧ FrameEnd U o U' L rm.cells rm.slots)
theorem own_open {g g' : JFrame} (q : g = g') (k : own_E p e below s Q rc rs (T.setTop g')) : ∃ s₂ o, Steps p.tables e below (T.setTop g) s₂ ∧ s₂.status = .running ∧ Ended s₂ below o ∧ ∃ v L, o = .returned v ∧ Q v s₂.heap L ∧ FrameEnd s o s₂ L rc rs := by subst q; exact k
theorem own_go {S S' : State} (k : ∀ t, Steps p.tables e below S' t → Steps p.tables e below S t) (q : own_E p e below s Q rc rs S') : own_E p e below s Q rc rs S := by
  obtain ⟨a, b, h1, h2⟩ := q; exact ⟨a, b, k _ h1, h2⟩
theorem own_via {S S' : State} (k : Steps p.tables e below S S') (q : own_E p e below s Q rc rs S') : own_E p e below s Q rc rs S := own_go (fun _ t => k.trans t) q
theorem own_fin (X : Stand p l e R s m args below meth c T locs cells slots) (hlk : meth.locks = false) {v : Option Value} (hv : meth.sig.returnType = none → v = none) {g : JFrame}
    (k : ∀ fs, (∀ (f : JFrame) (acts : List Action), f.method = m → f.locked = none → f.entered = [] → (doReturn e (T.setTop f) acts v).1 = T.setFrames fs) → Steps p.tables e below (T.setTop g) (T.setFrames fs)) (hq : Q v T.heap locs) (h1 : cells ≤ rc) (h2 : slots ≤ rs) : own_E p e below s Q rc rs (T.setTop g) := by
  obtain ⟨fs, hr, hrun, hended, hW, hsame⟩ := X.leave hv hlk
  exact ⟨_, _, k fs hr, hrun, hended, _, _, rfl, hq, ⟨_, rfl⟩, hW, hsame.mono h1 h2⟩
theorem own_retZ (X : Stand p l e R s m args below meth c T locs cells slots) (hx : p.tables.exec = Jvm.exec) (hlk : meth.locks = false) {pc : Nat} {Ls : Array Slot} {z : Int32} {t : FieldType} {rest : List Value} (hret : meth.sig.returnType = some t) (ht : t = .boolean ∨ t = .byte ∨ t = .char ∨ t = .short)
    (hd : decode c.code pc = .ok (.ireturn, 1)) (hq : Q (some (.int (nar t z))) T.heap locs) (h1 : cells ≤ rc) (h2 : slots ≤ rs) : own_E p e below s Q rc rs (T.setTop (mkF m pc Ls (.int z :: rest))) :=
  own_fin X hlk (fun q => by rw [hret] at q; cases q) (fun _ hr => retN X hx hret ht hd hr) hq h1 h2
theorem own_retI (X : Stand p l e R s m args below meth c T locs cells slots) (hx : p.tables.exec = Jvm.exec) (hlk : meth.locks = false) {pc : Nat} {Ls : Array Slot} {z : Int32} {rest : List Value} (hret : meth.sig.returnType = some .int)
    (hd : decode c.code pc = .ok (.ireturn, 1)) (hq : Q (some (.int z)) T.heap locs) (h1 : cells ≤ rc) (h2 : slots ≤ rs) : own_E p e below s Q rc rs (T.setTop (mkF m pc Ls (.int z :: rest))) :=
  own_fin X hlk (fun q => by rw [hret] at q; cases q) (fun _ hr => retOut X hx hret rfl (Or.inl ⟨rfl, Or.inl rfl, _, rfl⟩) hd hr) hq h1 h2
theorem own_retJ (X : Stand p l e R s m args below meth c T locs cells slots) (hx : p.tables.exec = Jvm.exec) (hlk : meth.locks = false) {pc : Nat} {Ls : Array Slot} {z : Int64} {rest : List Value} (hret : meth.sig.returnType = some .long)
    (hd : decode c.code pc = .ok (.lreturn, 1)) (hq : Q (some (.long z)) T.heap locs) (h1 : cells ≤ rc) (h2 : slots ≤ rs) : own_E p e below s Q rc rs (T.setTop (mkF m pc Ls (.long z :: rest))) :=
  own_fin X hlk (fun q => by rw [hret] at q; cases q) (fun _ hr => retOut X hx hret rfl (Or.inr (Or.inl ⟨rfl, rfl, _, rfl⟩)) hd hr) hq h1 h2
theorem own_retA (X : Stand p l e R s m args below meth c T locs cells slots) (hx : p.tables.exec = Jvm.exec) (hlk : meth.locks = false) {pc : Nat} {Ls : Array Slot} {w : Value} {t : FieldType} {rest : List Value} (hret : meth.sig.returnType = some t) (ht : t.isReference = true) (hw : w.isRef = true)
    (hd : decode c.code pc = .ok (.areturn, 1)) (hq : Q (some w) T.heap locs) (h1 : cells ≤ rc) (h2 : slots ≤ rs) : own_E p e below s Q rc rs (T.setTop (mkF m pc Ls (w :: rest))) :=
  own_fin X hlk (fun q => by rw [hret] at q; cases q) (fun _ hr => retOut X hx hret (by cases t <;> first | (cases ht; done) | (cases w <;> first | (cases hw; done) | rfl)) (Or.inr (Or.inr (Or.inr (Or.inr ⟨rfl, ht, hw⟩)))) hd hr) hq h1 h2
theorem own_retV (X : Stand p l e R s m args below meth c T locs cells slots) (hx : p.tables.exec = Jvm.exec) (hlk : meth.locks = false) {pc : Nat} {Ls : Array Slot} (hret : meth.sig.returnType = none)
    (hd : decode c.code pc = .ok (.return_, 1)) (hq : Q none T.heap locs) (h1 : cells ≤ rc) (h2 : slots ≤ rs) : own_E p e below s Q rc rs (T.setTop (mkF m pc Ls [])) :=
  own_fin X hlk (fun _ => rfl) (fun _ hr => X.returnOut hx hret hd hr) hq h1 h2
/-- a static that the case says to be an object of exactly this class -/
theorem own_static {C f d K : String} (hx : (Cond.exactly (.static C f d) K).value args Z none Z [] = some true) (w1 : (Cond.initialized C).before args Z = true) (w2 : (Cond.laysStatic C f d).before args Z = true) :
    ∃ a, (Term.static C f d).eval args Z none [] Z = some (.ref a) ∧ Sta Z Z.heap C f d (.ref a) ∧ Exa Z Z.heap a K := by
  obtain ⟨a, ev⟩ := exa_v hx
  exact ⟨a, ev, Sta.start ev (Or.inr ⟨w1, w2⟩), Exa.start ev hx⟩
/-- a field that the case says to hold this int -/
theorem own_fldI {t : Term} {C n d : String} {a : Addr} {z : Int32} (ev : t.eval args Z none [] Z = some (.ref a)) (q : (Cond.eq (.field t C n d) (.int z)).value args Z none Z [] = some true) : Fld Z Z.heap a C n d (.int z) := by
  have e1 : (Term.field t C n d).eval args Z none [] Z = Z.fieldOf? a C n d := fld_at ev
  refine Fld.start ?_
  cases hf : Z.fieldOf? a C n d with
  | none => rw [hf] at e1; simp [Cond.value, e1] at q
  | some v =>
    rw [hf] at e1
    have e2 : (Term.int z).eval args Z none [] Z = some (.int z) := rfl
    cases v <;> simp [Cond.value, e1, e2] at q
    rw [q]
/-- the model's own selection picks a private method itself -/
theorem own_sel {y : MethodName} {n : Nat} (hZ : Z.Warmed39 s.vm) (hp : (Cond.privateMethod y).before a0 Z = true) (hi : (Cond.instanceMethod y).before a0 Z = true) (hins : (Cond.instantiable y.cls n).before a0 Z = true)
    (hy : y.cls ≠ "java/lang/invoke/MethodHandle" ∧ y.cls ≠ "java/lang/invoke/VarHandle" := by decide) : (Cond.selects y.cls y y).before args s = true := by
  have hpriv : (Cond.privateMethod y).before args s = true := mvP hZ hp
  obtain ⟨c, k, hc, hk, -, hniab, -, -⟩ := Cond.instantiable_spec (show (Cond.instantiable y.cls n).before args s = true from mvT hZ hins)
  have hni : k.isInterface = false := (Bool.or_eq_false_iff.mp hniab).1
  obtain ⟨mk, methM, hnamed, hmethM, -, -⟩ := Cond.instanceMethod_spec (show (Cond.instanceMethod y).before args s = true from mvT hZ hi)
  have hfound : s.methodFound? y.cls y.name y.desc = some mk := State.methodFound?_of_named hnamed hy
  have hcls : mk.cls = c := Option.some.inj ((findClass_of_methodNamed hnamed).symm.trans hc)
  have hsel : selectMethod {} s.vm c mk = .method mk := selectMethod_private hmethM (Cond.privateMethod_at hpriv mk methM hnamed hmethM)
  simp only [Cond.before, Cond.holds, Cond.value, hc, hfound, hnamed, hsel, hcls, hk]
  simp; exact hni
theorem own_mvM {own host : String} {index : Nat} {y : MethodName} (hZ : Z.Warmed39 s.vm) (w : (Cond.methodLinkNest own index y host).before a0 Z = true) : (Cond.methodLinkNest own index y host).before args s = true := (Cond.methodLinkNest_wide hZ w :)
end Own
section Nst
variable {Z : State} {h : Heap} {a : Addr}
theorem Exa.own_nst {C : String} (E : Exa Z h a C) : ∃ c : Cell, h[a]? = some c ∧ c.vm.isStatics = false := by obtain ⟨c, k, h1, -, -, h4, -⟩ := E; exact ⟨c, h1, h4⟩
theorem Arv.own_nst {k : ClassId} {ty : FieldType} {n : Int32} {vs : List Value} {d : Value} (V : Arv Z h a k ty n vs d) : ∃ c : Cell, h[a]? = some c ∧ c.vm.isStatics = false := by obtain ⟨c, A, -⟩ := V; exact ⟨c, A.1, A.plain⟩
end Nst
end Jvm.RoadKit
namespace Jvm.Pilot.@@N@@
open Jvm Jvm.ClassFile Sem Op Lib Jvm.Free Jvm.Stand Jvm.LawKit Jvm.RoadKit Bundle Jvm.Pilot.@@N@@.Jvm.D
theorem own_ef0 (m : MethodId) (x0 : Int32) (x1 : Int32) : entryFrame m #[(.int x0), (.int x1)] 2 = mkF m 0 #[.val (.int x0), .val (.int x1)] [] := by first | (simp [entryFrame, mkF, argsToLocals, Value.category]; done) | rfl
theorem own_d_jdk_29_method_65_0 : decode jdk_29_method_65_code 0 = .ok (.iload_n 0, 1) := by decide +kernel
theorem own_d_jdk_29_method_65_1 : decode jdk_29_method_65_code 1 = .ok (.iload_n 1, 1) := by decide +kernel
theorem own_d_jdk_29_method_65_2 : decode jdk_29_method_65_code 2 = .ok (.if_icmp .lt 7, 3) := by decide +kernel
theorem own_d_jdk_29_method_65_9 : decode jdk_29_method_65_code 9 = .ok (.iload_n 1, 1) := by decide +kernel
theorem own_d_jdk_29_method_65_10 : decode jdk_29_method_65_code 10 = .ok (.ireturn, 1) := by decide +kernel
theorem own_d_jdk_29_method_65_5 : decode jdk_29_method_65_code 5 = .ok (.iload_n 0, 1) := by decide +kernel
theorem own_d_jdk_29_method_65_6 : decode jdk_29_method_65_code 6 = .ok (.goto 4, 3) := by decide +kernel
theorem own_d_jdk_29_method_69_0 : decode jdk_29_method_69_code 0 = .ok (.iload_n 0, 1) := by decide +kernel
theorem own_d_jdk_29_method_69_1 : decode jdk_29_method_69_code 1 = .ok (.iload_n 1, 1) := by decide +kernel
theorem own_d_jdk_29_method_69_2 : decode jdk_29_method_69_code 2 = .ok (.if_icmp .gt 7, 3) := by decide +kernel
theorem own_d_jdk_29_method_69_5 : decode jdk_29_method_69_code 5 = .ok (.iload_n 0, 1) := by decide +kernel
theorem own_d_jdk_29_method_69_6 : decode jdk_29_method_69_code 6 = .ok (.goto 4, 3) := by decide +kernel
theorem own_d_jdk_29_method_69_10 : decode jdk_29_method_69_code 10 = .ok (.ireturn, 1) := by decide +kernel
theorem own_d_jdk_29_method_69_9 : decode jdk_29_method_69_code 9 = .ok (.iload_n 1, 1) := by decide +kernel
theorem own_pn0 : plainName "java/time/Duration" = true := by first | (simp [plainName, overriddenIn]; done) | decide +kernel
theorem own_ef1 (m : MethodId) (x0 : Addr) (x1 : Int64) (x2 : Int32) : entryFrame m #[(.ref x0), (.long x1), (.int x2)] 4 = mkF m 0 #[.val (.ref x0), .val (.long x1), .second, .val (.int x2)] [] := by first | (simp [entryFrame, mkF, argsToLocals, Value.category]; done) | rfl
theorem own_d_jdk_2316_method_17_0 : decode jdk_2316_method_17_code 0 = .ok (.aload_n 0, 1) := by decide +kernel
theorem own_d_jdk_2316_method_17_1 : decode jdk_2316_method_17_code 1 = .ok (.invokespecial 218, 3) := by decide +kernel
theorem own_d_jdk_2316_method_17_4 : decode jdk_2316_method_17_code 4 = .ok (.aload_n 0, 1) := by decide +kernel
theorem own_d_jdk_2316_method_17_5 : decode jdk_2316_method_17_code 5 = .ok (.lload_n 1, 1) := by decide +kernel
theorem own_d_jdk_2316_method_17_6 : decode jdk_2316_method_17_code 6 = .ok (.putfield 221, 3) := by decide +kernel
theorem own_d_jdk_2316_method_17_9 : decode jdk_2316_method_17_code 9 = .ok (.aload_n 0, 1) := by decide +kernel
theorem own_d_jdk_2316_method_17_10 : decode jdk_2316_method_17_code 10 = .ok (.iload_n 3, 1) := by decide +kernel
theorem own_d_jdk_2316_method_17_11 : decode jdk_2316_method_17_code 11 = .ok (.putfield 224, 3) := by decide +kernel
theorem own_d_jdk_2316_method_17_14 : decode jdk_2316_method_17_code 14 = .ok (.return_, 1) := by decide +kernel
theorem own_ef2 (m : MethodId) (x0 : Int64) (x1 : Int32) : entryFrame m #[(.long x0), (.int x1)] 3 = mkF m 0 #[.val (.long x0), .second, .val (.int x1)] [] := by first | (simp [entryFrame, mkF, argsToLocals, Value.category]; done) | rfl
theorem own_d_jdk_2316_method_16_0 : decode jdk_2316_method_16_code 0 = .ok (.lload_n 0, 1) := by decide +kernel
theorem own_d_jdk_2316_method_16_1 : decode jdk_2316_method_16_code 1 = .ok (.iload_n 2, 1) := by decide +kernel
theorem own_d_jdk_2316_method_16_2 : decode jdk_2316_method_16_code 2 = .ok (.i2l, 1) := by decide +kernel
theorem own_d_jdk_2316_method_16_3 : decode jdk_2316_method_16_code 3 = .ok (.lor, 1) := by decide +kernel
theorem own_d_jdk_2316_method_16_4 : decode jdk_2316_method_16_code 4 = .ok (.lconst 0, 1) := by decide +kernel
theorem own_d_jdk_2316_method_16_5 : decode jdk_2316_method_16_code 5 = .ok (.lcmp, 1) := by decide +kernel
theorem own_d_jdk_2316_method_16_6 : decode jdk_2316_method_16_code 6 = .ok (.ifCond .ne 7, 3) := by decide +kernel
theorem own_d_jdk_2316_method_16_13 : decode jdk_2316_method_16_code 13 = .ok (.new 11, 3) := by decide +kernel
theorem own_d_jdk_2316_method_16_16 : decode jdk_2316_method_16_code 16 = .ok (.dup, 1) := by decide +kernel
theorem own_d_jdk_2316_method_16_17 : decode jdk_2316_method_16_code 17 = .ok (.lload_n 0, 1) := by decide +kernel
theorem own_d_jdk_2316_method_16_18 : decode jdk_2316_method_16_code 18 = .ok (.iload_n 2, 1) := by decide +kernel
theorem own_d_jdk_2316_method_16_19 : decode jdk_2316_method_16_code 19 = .ok (.invokespecial 215, 3) := by decide +kernel
theorem own_pd0 : parseMethodDescriptor "(JI)V" = some ⟨[.long, .int], none⟩ := by decide +kernel
theorem own_d_jdk_2316_method_16_22 : decode jdk_2316_method_16_code 22 = .ok (.areturn, 1) := by decide +kernel
theorem own_ef3 (m : MethodId) (x0 : Int64) : entryFrame m #[(.long x0)] 2 = mkF m 0 #[.val (.long x0), .second] [] := by first | (simp [entryFrame, mkF, argsToLocals, Value.category]; done) | rfl
theorem own_d_jdk_2316_method_4_0 : decode jdk_2316_method_4_code 0 = .ok (.lload_n 0, 1) := by decide +kernel
theorem own_d_jdk_2316_method_4_1 : decode jdk_2316_method_4_code 1 = .ok (.iconst 0, 1) := by decide +kernel
theorem own_d_jdk_2316_method_4_2 : decode jdk_2316_method_4_code 2 = .ok (.invokestatic 10, 3) := by decide +kernel
theorem own_pd1 : parseMethodDescriptor "(JI)Ljava/time/Duration;" = some ⟨[.long, .int], some (.object "java/time/Duration")⟩ := by decide +kernel
theorem own_d_jdk_2316_method_4_5 : decode jdk_2316_method_4_code 5 = .ok (.areturn, 1) := by decide +kernel
theorem own_pn1 : plainName "java/util/AbstractCollection" = true := by first | (simp [plainName, overriddenIn]; done) | decide +kernel
theorem own_ef4 (m : MethodId) (x0 : Addr) : entryFrame m #[(.ref x0)] 1 = mkF m 0 #[.val (.ref x0)] [] := by first | (simp [entryFrame, mkF, argsToLocals, Value.category]; done) | rfl
theorem own_d_jdk_22_method_1_0 : decode jdk_22_method_1_code 0 = .ok (.aload_n 0, 1) := by decide +kernel
theorem own_d_jdk_22_method_1_1 : decode jdk_22_method_1_code 1 = .ok (.invokespecial 1, 3) := by decide +kernel
theorem own_d_jdk_22_method_1_4 : decode jdk_22_method_1_code 4 = .ok (.return_, 1) := by decide +kernel
theorem own_pn2 : plainName "java/util/AbstractList" = true := by first | (simp [plainName, overriddenIn]; done) | decide +kernel
theorem own_d_jdk_39_method_1_0 : decode jdk_39_method_1_code 0 = .ok (.aload_n 0, 1) := by decide +kernel
theorem own_d_jdk_39_method_1_1 : decode jdk_39_method_1_code 1 = .ok (.invokespecial 1, 3) := by decide +kernel
theorem own_pd2 : parseMethodDescriptor "()V" = some ⟨[], none⟩ := by decide +kernel
theorem own_d_jdk_39_method_1_4 : decode jdk_39_method_1_code 4 = .ok (.aload_n 0, 1) := by decide +kernel
theorem own_d_jdk_39_method_1_5 : decode jdk_39_method_1_code 5 = .ok (.iconst 0, 1) := by decide +kernel
theorem own_d_jdk_39_method_1_6 : decode jdk_39_method_1_code 6 = .ok (.putfield 7, 3) := by decide +kernel
theorem own_d_jdk_39_method_1_9 : decode jdk_39_method_1_code 9 = .ok (.return_, 1) := by decide +kernel
theorem own_pn3 : plainName "java/util/ArrayList" = true := by first | (simp [plainName, overriddenIn]; done) | decide +kernel
theorem own_d_jdk_38_method_2_0 : decode jdk_38_method_2_code 0 = .ok (.aload_n 0, 1) := by decide +kernel
theorem own_d_jdk_38_method_2_1 : decode jdk_38_method_2_code 1 = .ok (.invokespecial 1, 3) := by decide +kernel
theorem own_d_jdk_38_method_2_4 : decode jdk_38_method_2_code 4 = .ok (.aload_n 0, 1) := by decide +kernel
theorem own_d_jdk_38_method_2_5 : decode jdk_38_method_2_code 5 = .ok (.getstatic 39, 3) := by decide +kernel
theorem own_d_jdk_38_method_2_8 : decode jdk_38_method_2_code 8 = .ok (.putfield 9, 3) := by decide +kernel
theorem own_d_jdk_38_method_2_11 : decode jdk_38_method_2_code 11 = .ok (.return_, 1) := by decide +kernel
theorem own_ef5 (m : MethodId) (x0 : Addr) (x1 : Int32) : entryFrame m #[(.ref x0), (.int x1)] 4 = mkF m 0 #[.val (.ref x0), .val (.int x1), .unset, .unset] [] := by first | (simp [entryFrame, mkF, argsToLocals, Value.category]; done) | rfl
theorem own_d_jdk_38_method_6_0 : decode jdk_38_method_6_code 0 = .ok (.aload_n 0, 1) := by decide +kernel
theorem own_d_jdk_38_method_6_1 : decode jdk_38_method_6_code 1 = .ok (.getfield 9, 3) := by decide +kernel
theorem own_d_jdk_38_method_6_4 : decode jdk_38_method_6_code 4 = .ok (.arraylength, 1) := by decide +kernel
theorem own_d_jdk_38_method_6_5 : decode jdk_38_method_6_code 5 = .ok (.istore_n 2, 1) := by decide +kernel
theorem own_d_jdk_38_method_6_6 : decode jdk_38_method_6_code 6 = .ok (.iload_n 2, 1) := by decide +kernel
theorem own_d_jdk_38_method_6_7 : decode jdk_38_method_6_code 7 = .ok (.ifCond .gt 13, 3) := by decide +kernel
theorem own_d_jdk_38_method_6_10 : decode jdk_38_method_6_code 10 = .ok (.aload_n 0, 1) := by decide +kernel
theorem own_d_jdk_38_method_6_11 : decode jdk_38_method_6_code 11 = .ok (.getfield 9, 3) := by decide +kernel
theorem own_d_jdk_38_method_6_14 : decode jdk_38_method_6_code 14 = .ok (.getstatic 39, 3) := by decide +kernel
theorem own_d_jdk_38_method_6_17 : decode jdk_38_method_6_code 17 = .ok (.if_acmp .eq 28, 3) := by decide +kernel
theorem own_d_jdk_38_method_6_45 : decode jdk_38_method_6_code 45 = .ok (.aload_n 0, 1) := by decide +kernel
theorem own_d_jdk_38_method_6_46 : decode jdk_38_method_6_code 46 = .ok (.bipush 10, 2) := by decide +kernel
theorem own_d_jdk_38_method_6_48 : decode jdk_38_method_6_code 48 = .ok (.iload_n 1, 1) := by decide +kernel
theorem own_d_jdk_38_method_6_49 : decode jdk_38_method_6_code 49 = .ok (.invokestatic 79, 3) := by decide +kernel
theorem own_pd3 : parseMethodDescriptor "(II)I" = some ⟨[.int, .int], some .int⟩ := by decide +kernel
theorem own_d_jdk_38_method_6_52 : decode jdk_38_method_6_code 52 = .ok (.anewarray 7, 3) := by decide +kernel
theorem own_d_jdk_38_method_6_55 : decode jdk_38_method_6_code 55 = .ok (.dup_x1, 1) := by decide +kernel
theorem own_d_jdk_38_method_6_56 : decode jdk_38_method_6_code 56 = .ok (.putfield 9, 3) := by decide +kernel
theorem own_d_jdk_38_method_6_59 : decode jdk_38_method_6_code 59 = .ok (.areturn, 1) := by decide +kernel
theorem own_d_jdk_38_method_7_0 : decode jdk_38_method_7_code 0 = .ok (.aload_n 0, 1) := by decide +kernel
theorem own_d_jdk_38_method_7_1 : decode jdk_38_method_7_code 1 = .ok (.aload_n 0, 1) := by decide +kernel
theorem own_d_jdk_38_method_7_2 : decode jdk_38_method_7_code 2 = .ok (.getfield 48, 3) := by decide +kernel
theorem own_d_jdk_38_method_7_5 : decode jdk_38_method_7_code 5 = .ok (.iconst 1, 1) := by decide +kernel
theorem own_d_jdk_38_method_7_6 : decode jdk_38_method_7_code 6 = .ok (.iadd, 1) := by decide +kernel
theorem own_d_jdk_38_method_7_7 : decode jdk_38_method_7_code 7 = .ok (.invokevirtual 69, 3) := by decide +kernel
theorem own_pd4 : parseMethodDescriptor "(I)[Ljava/lang/Object;" = some ⟨[.int], some (.array (.object "java/lang/Object"))⟩ := by decide +kernel
theorem own_d_jdk_38_method_7_10 : decode jdk_38_method_7_code 10 = .ok (.areturn, 1) := by decide +kernel
theorem own_ef6 (m : MethodId) (x0 : Addr) (x1 : Addr) (x2 : Addr) (x3 : Int32) : entryFrame m #[(.ref x0), (.ref x1), (.ref x2), (.int x3)] 4 = mkF m 0 #[.val (.ref x0), .val (.ref x1), .val (.ref x2), .val (.int x3)] [] := by first | (simp [entryFrame, mkF, argsToLocals, Value.category]; done) | rfl
theorem own_d_jdk_38_method_24_0 : decode jdk_38_method_24_code 0 = .ok (.iload_n 3, 1) := by decide +kernel
theorem own_d_jdk_38_method_24_1 : decode jdk_38_method_24_code 1 = .ok (.aload_n 2, 1) := by decide +kernel
theorem own_d_jdk_38_method_24_2 : decode jdk_38_method_24_code 2 = .ok (.arraylength, 1) := by decide +kernel
theorem own_d_jdk_38_method_24_3 : decode jdk_38_method_24_code 3 = .ok (.if_icmp .ne 8, 3) := by decide +kernel
theorem own_d_jdk_38_method_24_6 : decode jdk_38_method_24_code 6 = .ok (.aload_n 0, 1) := by decide +kernel
theorem own_d_jdk_38_method_24_7 : decode jdk_38_method_24_code 7 = .ok (.invokevirtual 129, 3) := by decide +kernel
theorem own_pd5 : parseMethodDescriptor "()[Ljava/lang/Object;" = some ⟨[], some (.array (.object "java/lang/Object"))⟩ := by decide +kernel
theorem own_d_jdk_38_method_24_10 : decode jdk_38_method_24_code 10 = .ok (.astore_n 2, 1) := by decide +kernel
theorem own_d_jdk_38_method_24_11 : decode jdk_38_method_24_code 11 = .ok (.aload_n 2, 1) := by decide +kernel
theorem own_d_jdk_38_method_24_12 : decode jdk_38_method_24_code 12 = .ok (.iload_n 3, 1) := by decide +kernel
theorem own_d_jdk_38_method_24_13 : decode jdk_38_method_24_code 13 = .ok (.aload_n 1, 1) := by decide +kernel
theorem own_d_jdk_38_method_24_14 : decode jdk_38_method_24_code 14 = .ok (.aastore, 1) := by decide +kernel
theorem own_d_jdk_38_method_24_15 : decode jdk_38_method_24_code 15 = .ok (.aload_n 0, 1) := by decide +kernel
theorem own_d_jdk_38_method_24_16 : decode jdk_38_method_24_code 16 = .ok (.iload_n 3, 1) := by decide +kernel
theorem own_d_jdk_38_method_24_17 : decode jdk_38_method_24_code 17 = .ok (.iconst 1, 1) := by decide +kernel
theorem own_d_jdk_38_method_24_18 : decode jdk_38_method_24_code 18 = .ok (.iadd, 1) := by decide +kernel
theorem own_d_jdk_38_method_24_19 : decode jdk_38_method_24_code 19 = .ok (.putfield 48, 3) := by decide +kernel
theorem own_d_jdk_38_method_24_22 : decode jdk_38_method_24_code 22 = .ok (.return_, 1) := by decide +kernel
theorem own_ef7 (m : MethodId) (x0 : Addr) (x1 : Addr) : entryFrame m #[(.ref x0), (.ref x1)] 2 = mkF m 0 #[.val (.ref x0), .val (.ref x1)] [] := by first | (simp [entryFrame, mkF, argsToLocals, Value.category]; done) | rfl
theorem own_d_jdk_38_method_25_0 : decode jdk_38_method_25_code 0 = .ok (.aload_n 0, 1) := by decide +kernel
theorem own_d_jdk_38_method_25_1 : decode jdk_38_method_25_code 1 = .ok (.dup, 1) := by decide +kernel
theorem own_d_jdk_38_method_25_2 : decode jdk_38_method_25_code 2 = .ok (.getfield 63, 3) := by decide +kernel
theorem own_d_jdk_38_method_25_5 : decode jdk_38_method_25_code 5 = .ok (.iconst 1, 1) := by decide +kernel
theorem own_d_jdk_38_method_25_6 : decode jdk_38_method_25_code 6 = .ok (.iadd, 1) := by decide +kernel
theorem own_d_jdk_38_method_25_7 : decode jdk_38_method_25_code 7 = .ok (.putfield 63, 3) := by decide +kernel
theorem own_d_jdk_38_method_25_10 : decode jdk_38_method_25_code 10 = .ok (.aload_n 0, 1) := by decide +kernel
theorem own_d_jdk_38_method_25_11 : decode jdk_38_method_25_code 11 = .ok (.aload_n 1, 1) := by decide +kernel
theorem own_d_jdk_38_method_25_12 : decode jdk_38_method_25_code 12 = .ok (.aload_n 0, 1) := by decide +kernel
theorem own_d_jdk_38_method_25_13 : decode jdk_38_method_25_code 13 = .ok (.getfield 9, 3) := by decide +kernel
theorem own_d_jdk_38_method_25_16 : decode jdk_38_method_25_code 16 = .ok (.aload_n 0, 1) := by decide +kernel
theorem own_d_jdk_38_method_25_17 : decode jdk_38_method_25_code 17 = .ok (.getfield 48, 3) := by decide +kernel
theorem own_d_jdk_38_method_25_20 : decode jdk_38_method_25_code 20 = .ok (.invokevirtual 131, 3) := by decide +kernel
theorem own_pd6 : parseMethodDescriptor "(Ljava/lang/Object;[Ljava/lang/Object;I)V" = some ⟨[(.object "java/lang/Object"), (.array (.object "java/lang/Object")), .int], none⟩ := by decide +kernel
theorem own_d_jdk_38_method_25_23 : decode jdk_38_method_25_code 23 = .ok (.iconst 1, 1) := by decide +kernel
theorem own_d_jdk_38_method_25_24 : decode jdk_38_method_25_code 24 = .ok (.ireturn, 1) := by decide +kernel
theorem own_d_jdk_38_method_9_0 : decode jdk_38_method_9_code 0 = .ok (.aload_n 0, 1) := by decide +kernel
theorem own_d_jdk_38_method_9_1 : decode jdk_38_method_9_code 1 = .ok (.getfield 48, 3) := by decide +kernel
theorem own_d_jdk_38_method_9_4 : decode jdk_38_method_9_code 4 = .ok (.ifCond .ne 7, 3) := by decide +kernel
theorem own_d_jdk_38_method_9_11 : decode jdk_38_method_9_code 11 = .ok (.iconst 0, 1) := by decide +kernel
theorem own_d_jdk_38_method_9_12 : decode jdk_38_method_9_code 12 = .ok (.ireturn, 1) := by decide +kernel
theorem own_pn4 : plainName "java/util/Objects" = true := by first | (simp [plainName, overriddenIn]; done) | decide +kernel
theorem own_d_jdk_31_method_10_0 : decode jdk_31_method_10_code 0 = .ok (.aload_n 0, 1) := by decide +kernel
theorem own_d_jdk_31_method_10_1 : decode jdk_31_method_10_code 1 = .ok (.ifnonnull 11, 3) := by decide +kernel
theorem own_d_jdk_31_method_10_12 : decode jdk_31_method_10_code 12 = .ok (.aload_n 0, 1) := by decide +kernel
theorem own_d_jdk_31_method_10_13 : decode jdk_31_method_10_code 13 = .ok (.areturn, 1) := by decide +kernel
theorem own_pn5 : plainName "java/util/ImmutableCollections$AbstractImmutableCollection" = true := by first | (simp [plainName, overriddenIn]; done) | decide +kernel
theorem own_d_jdk_47_method_1_0 : decode jdk_47_method_1_code 0 = .ok (.aload_n 0, 1) := by decide +kernel
theorem own_d_jdk_47_method_1_1 : decode jdk_47_method_1_code 1 = .ok (.invokespecial 1, 3) := by decide +kernel
theorem own_d_jdk_47_method_1_4 : decode jdk_47_method_1_code 4 = .ok (.return_, 1) := by decide +kernel
theorem own_pn6 : plainName "java/util/ImmutableCollections$AbstractImmutableList" = true := by first | (simp [plainName, overriddenIn]; done) | decide +kernel
theorem own_d_jdk_46_method_1_0 : decode jdk_46_method_1_code 0 = .ok (.aload_n 0, 1) := by decide +kernel
theorem own_d_jdk_46_method_1_1 : decode jdk_46_method_1_code 1 = .ok (.invokespecial 1, 3) := by decide +kernel
theorem own_d_jdk_46_method_1_4 : decode jdk_46_method_1_code 4 = .ok (.return_, 1) := by decide +kernel
theorem own_pn7 : plainName "java/util/ImmutableCollections$List12" = true := by first | (simp [plainName, overriddenIn]; done) | decide +kernel
theorem own_d_jdk_44_method_1_0 : decode jdk_44_method_1_code 0 = .ok (.aload_n 0, 1) := by decide +kernel
theorem own_d_jdk_44_method_1_1 : decode jdk_44_method_1_code 1 = .ok (.invokespecial 1, 3) := by decide +kernel
theorem own_d_jdk_44_method_1_4 : decode jdk_44_method_1_code 4 = .ok (.aload_n 0, 1) := by decide +kernel
theorem own_d_jdk_44_method_1_5 : decode jdk_44_method_1_code 5 = .ok (.aload_n 1, 1) := by decide +kernel
theorem own_d_jdk_44_method_1_6 : decode jdk_44_method_1_code 6 = .ok (.invokestatic 7, 3) := by decide +kernel
theorem own_pd7 : parseMethodDescriptor "(Ljava/lang/Object;)Ljava/lang/Object;" = some ⟨[(.object "java/lang/Object")], some (.object "java/lang/Object")⟩ := by decide +kernel
theorem own_d_jdk_44_method_1_9 : decode jdk_44_method_1_code 9 = .ok (.putfield 13, 3) := by decide +kernel
theorem own_d_jdk_44_method_1_12 : decode jdk_44_method_1_code 12 = .ok (.aload_n 0, 1) := by decide +kernel
theorem own_d_jdk_44_method_1_13 : decode jdk_44_method_1_code 13 = .ok (.getstatic 19, 3) := by decide +kernel
theorem own_d_jdk_44_method_1_16 : decode jdk_44_method_1_code 16 = .ok (.putfield 24, 3) := by decide +kernel
theorem own_d_jdk_44_method_1_19 : decode jdk_44_method_1_code 19 = .ok (.return_, 1) := by decide +kernel
theorem own_ef8 (m : MethodId) (x0 : Addr) (x1 : Addr) (x2 : Addr) : entryFrame m #[(.ref x0), (.ref x1), (.ref x2)] 3 = mkF m 0 #[.val (.ref x0), .val (.ref x1), .val (.ref x2)] [] := by first | (simp [entryFrame, mkF, argsToLocals, Value.category]; done) | rfl
theorem own_d_jdk_44_method_2_0 : decode jdk_44_method_2_code 0 = .ok (.aload_n 0, 1) := by decide +kernel
theorem own_d_jdk_44_method_2_1 : decode jdk_44_method_2_code 1 = .ok (.invokespecial 1, 3) := by decide +kernel
theorem own_d_jdk_44_method_2_4 : decode jdk_44_method_2_code 4 = .ok (.aload_n 0, 1) := by decide +kernel
theorem own_d_jdk_44_method_2_5 : decode jdk_44_method_2_code 5 = .ok (.aload_n 1, 1) := by decide +kernel
theorem own_d_jdk_44_method_2_6 : decode jdk_44_method_2_code 6 = .ok (.invokestatic 7, 3) := by decide +kernel
theorem own_d_jdk_44_method_2_9 : decode jdk_44_method_2_code 9 = .ok (.putfield 13, 3) := by decide +kernel
theorem own_d_jdk_44_method_2_12 : decode jdk_44_method_2_code 12 = .ok (.aload_n 0, 1) := by decide +kernel
theorem own_d_jdk_44_method_2_13 : decode jdk_44_method_2_code 13 = .ok (.aload_n 2, 1) := by decide +kernel
theorem own_d_jdk_44_method_2_14 : decode jdk_44_method_2_code 14 = .ok (.invokestatic 7, 3) := by decide +kernel
theorem own_d_jdk_44_method_2_17 : decode jdk_44_method_2_code 17 = .ok (.putfield 24, 3) := by decide +kernel
theorem own_d_jdk_44_method_2_20 : decode jdk_44_method_2_code 20 = .ok (.return_, 1) := by decide +kernel
theorem own_pn8 : plainName "java/util/ImmutableCollections$ListN" = true := by first | (simp [plainName, overriddenIn]; done) | decide +kernel
theorem own_ef9 (m : MethodId) (x0 : Addr) (x1 : Addr) (x2 : Int32) : entryFrame m #[(.ref x0), (.ref x1), (.int x2)] 3 = mkF m 0 #[.val (.ref x0), .val (.ref x1), .val (.int x2)] [] := by first | (simp [entryFrame, mkF, argsToLocals, Value.category]; done) | rfl
theorem own_d_jdk_45_method_1_0 : decode jdk_45_method_1_code 0 = .ok (.aload_n 0, 1) := by decide +kernel
theorem own_d_jdk_45_method_1_1 : decode jdk_45_method_1_code 1 = .ok (.invokespecial 1, 3) := by decide +kernel
theorem own_d_jdk_45_method_1_4 : decode jdk_45_method_1_code 4 = .ok (.aload_n 0, 1) := by decide +kernel
theorem own_d_jdk_45_method_1_5 : decode jdk_45_method_1_code 5 = .ok (.aload_n 1, 1) := by decide +kernel
theorem own_d_jdk_45_method_1_6 : decode jdk_45_method_1_code 6 = .ok (.putfield 7, 3) := by decide +kernel
theorem own_d_jdk_45_method_1_9 : decode jdk_45_method_1_code 9 = .ok (.aload_n 0, 1) := by decide +kernel
theorem own_d_jdk_45_method_1_10 : decode jdk_45_method_1_code 10 = .ok (.iload_n 2, 1) := by decide +kernel
theorem own_d_jdk_45_method_1_11 : decode jdk_45_method_1_code 11 = .ok (.putfield 13, 3) := by decide +kernel
theorem own_d_jdk_45_method_1_14 : decode jdk_45_method_1_code 14 = .ok (.return_, 1) := by decide +kernel
theorem own_pn9 : plainName "java/util/Arrays" = true := by first | (simp [plainName, overriddenIn]; done) | decide +kernel
theorem own_ef10 (m : MethodId) (x0 : Addr) (x1 : Int32) (x2 : Addr) : entryFrame m #[(.ref x0), (.int x1), (.ref x2)] 4 = mkF m 0 #[.val (.ref x0), .val (.int x1), .val (.ref x2), .unset] [] := by first | (simp [entryFrame, mkF, argsToLocals, Value.category]; done) | rfl
theorem own_d_jdk_65_method_120_0 : decode jdk_65_method_120_code 0 = .ok (.aload_n 2, 1) := by decide +kernel
theorem own_d_jdk_65_method_120_1 : decode jdk_65_method_120_code 1 = .ok (.ldc 110, 2) := by decide +kernel
theorem own_d_jdk_65_method_120_3 : decode jdk_65_method_120_code 3 = .ok (.if_acmp .ne 10, 3) := by decide +kernel
theorem own_d_jdk_65_method_120_6 : decode jdk_65_method_120_code 6 = .ok (.iload_n 1, 1) := by decide +kernel
theorem own_d_jdk_65_method_120_7 : decode jdk_65_method_120_code 7 = .ok (.anewarray 2, 3) := by decide +kernel
theorem own_d_jdk_65_method_120_10 : decode jdk_65_method_120_code 10 = .ok (.goto 14, 3) := by decide +kernel
theorem own_d_jdk_65_method_120_24 : decode jdk_65_method_120_code 24 = .ok (.astore_n 3, 1) := by decide +kernel
theorem own_d_jdk_65_method_120_25 : decode jdk_65_method_120_code 25 = .ok (.aload_n 0, 1) := by decide +kernel
theorem own_d_jdk_65_method_120_26 : decode jdk_65_method_120_code 26 = .ok (.iconst 0, 1) := by decide +kernel
theorem own_d_jdk_65_method_120_27 : decode jdk_65_method_120_code 27 = .ok (.aload_n 3, 1) := by decide +kernel
theorem own_d_jdk_65_method_120_28 : decode jdk_65_method_120_code 28 = .ok (.iconst 0, 1) := by decide +kernel
theorem own_d_jdk_65_method_120_29 : decode jdk_65_method_120_code 29 = .ok (.aload_n 0, 1) := by decide +kernel
theorem own_d_jdk_65_method_120_30 : decode jdk_65_method_120_code 30 = .ok (.arraylength, 1) := by decide +kernel
theorem own_d_jdk_65_method_120_31 : decode jdk_65_method_120_code 31 = .ok (.iload_n 1, 1) := by decide +kernel
theorem own_d_jdk_65_method_120_32 : decode jdk_65_method_120_code 32 = .ok (.invokestatic 304, 3) := by decide +kernel
theorem own_d_jdk_65_method_120_35 : decode jdk_65_method_120_code 35 = .ok (.invokestatic 150, 3) := by decide +kernel
theorem own_d_jdk_65_method_120_38 : decode jdk_65_method_120_code 38 = .ok (.aload_n 3, 1) := by decide +kernel
theorem own_d_jdk_65_method_120_39 : decode jdk_65_method_120_code 39 = .ok (.areturn, 1) := by decide +kernel
theorem own_ef11 (m : MethodId) (x0 : Addr) (x1 : Int32) : entryFrame m #[(.ref x0), (.int x1)] 2 = mkF m 0 #[.val (.ref x0), .val (.int x1)] [] := by first | (simp [entryFrame, mkF, argsToLocals, Value.category]; done) | rfl
theorem own_d_jdk_65_method_119_0 : decode jdk_65_method_119_code 0 = .ok (.aload_n 0, 1) := by decide +kernel
theorem own_d_jdk_65_method_119_1 : decode jdk_65_method_119_code 1 = .ok (.iload_n 1, 1) := by decide +kernel
theorem own_d_jdk_65_method_119_2 : decode jdk_65_method_119_code 2 = .ok (.aload_n 0, 1) := by decide +kernel
theorem own_d_jdk_65_method_119_3 : decode jdk_65_method_119_code 3 = .ok (.invokevirtual 86, 3) := by decide +kernel
theorem own_d_jdk_65_method_119_6 : decode jdk_65_method_119_code 6 = .ok (.invokestatic 300, 3) := by decide +kernel
theorem own_pd8 : parseMethodDescriptor "([Ljava/lang/Object;ILjava/lang/Class;)[Ljava/lang/Object;" = some ⟨[(.array (.object "java/lang/Object")), .int, (.object "java/lang/Class")], some (.array (.object "java/lang/Object"))⟩ := by decide +kernel
theorem own_d_jdk_65_method_119_9 : decode jdk_65_method_119_code 9 = .ok (.areturn, 1) := by decide +kernel
theorem own_d_jdk_38_method_16_0 : decode jdk_38_method_16_code 0 = .ok (.aload_n 0, 1) := by decide +kernel
theorem own_d_jdk_38_method_16_1 : decode jdk_38_method_16_code 1 = .ok (.getfield 9, 3) := by decide +kernel
theorem own_d_jdk_38_method_16_4 : decode jdk_38_method_16_code 4 = .ok (.aload_n 0, 1) := by decide +kernel
theorem own_d_jdk_38_method_16_5 : decode jdk_38_method_16_code 5 = .ok (.getfield 48, 3) := by decide +kernel
theorem own_d_jdk_38_method_16_8 : decode jdk_38_method_16_code 8 = .ok (.invokestatic 66, 3) := by decide +kernel
theorem own_pd9 : parseMethodDescriptor "([Ljava/lang/Object;I)[Ljava/lang/Object;" = some ⟨[(.array (.object "java/lang/Object")), .int], some (.array (.object "java/lang/Object"))⟩ := by decide +kernel
theorem own_d_jdk_38_method_16_11 : decode jdk_38_method_16_code 11 = .ok (.areturn, 1) := by decide +kernel
theorem own_pn10 : plainName "java/util/ImmutableCollections" = true := by first | (simp [plainName, overriddenIn]; done) | decide +kernel
theorem own_ef12 (m : MethodId) (x0 : Addr) : entryFrame m #[(.ref x0)] 3 = mkF m 0 #[.val (.ref x0), .unset, .unset] [] := by first | (simp [entryFrame, mkF, argsToLocals, Value.category]; done) | rfl
theorem own_d_jdk_56_method_4_0 : decode jdk_56_method_4_code 0 = .ok (.aload_n 0, 1) := by decide +kernel
theorem own_d_jdk_56_method_4_1 : decode jdk_56_method_4_code 1 = .ok (.arraylength, 1) := by decide +kernel
theorem own_d_jdk_56_method_4_2 : decode jdk_56_method_4_code 2 = .ok (.anewarray 2, 3) := by decide +kernel
theorem own_d_jdk_56_method_4_5 : decode jdk_56_method_4_code 5 = .ok (.astore_n 1, 1) := by decide +kernel
theorem own_d_jdk_56_method_4_6 : decode jdk_56_method_4_code 6 = .ok (.iconst 0, 1) := by decide +kernel
theorem own_d_jdk_56_method_4_7 : decode jdk_56_method_4_code 7 = .ok (.istore_n 2, 1) := by decide +kernel
theorem own_d_jdk_56_method_4_8 : decode jdk_56_method_4_code 8 = .ok (.iload_n 2, 1) := by decide +kernel
theorem own_d_jdk_56_method_4_9 : decode jdk_56_method_4_code 9 = .ok (.aload_n 0, 1) := by decide +kernel
theorem own_d_jdk_56_method_4_10 : decode jdk_56_method_4_code 10 = .ok (.arraylength, 1) := by decide +kernel
theorem own_d_jdk_56_method_4_11 : decode jdk_56_method_4_code 11 = .ok (.if_icmp .ge 18, 3) := by decide +kernel
theorem own_d_jdk_56_method_4_14 : decode jdk_56_method_4_code 14 = .ok (.aload_n 1, 1) := by decide +kernel
theorem own_d_jdk_56_method_4_15 : decode jdk_56_method_4_code 15 = .ok (.iload_n 2, 1) := by decide +kernel
theorem own_d_jdk_56_method_4_16 : decode jdk_56_method_4_code 16 = .ok (.aload_n 0, 1) := by decide +kernel
theorem own_d_jdk_56_method_4_17 : decode jdk_56_method_4_code 17 = .ok (.iload_n 2, 1) := by decide +kernel
theorem own_d_jdk_56_method_4_18 : decode jdk_56_method_4_code 18 = .ok (.aaload, 1) := by decide +kernel
theorem own_d_jdk_56_method_4_19 : decode jdk_56_method_4_code 19 = .ok (.invokestatic 37, 3) := by decide +kernel
theorem own_d_jdk_56_method_4_22 : decode jdk_56_method_4_code 22 = .ok (.aastore, 1) := by decide +kernel
theorem own_d_jdk_56_method_4_23 : decode jdk_56_method_4_code 23 = .ok (.iinc 2 1, 3) := by decide +kernel
theorem own_d_jdk_56_method_4_26 : decode jdk_56_method_4_code 26 = .ok (.goto (-18), 3) := by decide +kernel
theorem own_d_jdk_56_method_4_29 : decode jdk_56_method_4_code 29 = .ok (.new 12, 3) := by decide +kernel
theorem own_d_jdk_56_method_4_32 : decode jdk_56_method_4_code 32 = .ok (.dup, 1) := by decide +kernel
theorem own_d_jdk_56_method_4_33 : decode jdk_56_method_4_code 33 = .ok (.aload_n 1, 1) := by decide +kernel
theorem own_d_jdk_56_method_4_34 : decode jdk_56_method_4_code 34 = .ok (.iconst 0, 1) := by decide +kernel
theorem own_d_jdk_56_method_4_35 : decode jdk_56_method_4_code 35 = .ok (.invokespecial 43, 3) := by decide +kernel
theorem own_pd10 : parseMethodDescriptor "([Ljava/lang/Object;Z)V" = some ⟨[(.array (.object "java/lang/Object")), .boolean], none⟩ := by decide +kernel
theorem own_d_jdk_56_method_4_38 : decode jdk_56_method_4_code 38 = .ok (.areturn, 1) := by decide +kernel
theorem own_pn11 : plainName "java/util/List" = true := by first | (simp [plainName, overriddenIn]; done) | decide +kernel
theorem own_ef13 (m : MethodId) (x0 : Addr) : entryFrame m #[(.ref x0)] 2 = mkF m 0 #[.val (.ref x0), .unset] [] := by first | (simp [entryFrame, mkF, argsToLocals, Value.category]; done) | rfl
theorem own_d_jdk_40_method_47_0 : decode jdk_40_method_47_code 0 = .ok (.aload_n 0, 1) := by decide +kernel
theorem own_d_jdk_40_method_47_1 : decode jdk_40_method_47_code 1 = .ok (.arraylength, 1) := by decide +kernel
theorem own_d_jdk_40_method_47_2 : decode jdk_40_method_47_code 2 = .ok (.tableswitch 57 0 2 #[26, 32, 43], 26) := by decide +kernel
theorem own_d_jdk_40_method_47_34 : decode jdk_40_method_47_code 34 = .ok (.new 96, 3) := by decide +kernel
theorem own_d_jdk_40_method_47_37 : decode jdk_40_method_47_code 37 = .ok (.dup, 1) := by decide +kernel
theorem own_d_jdk_40_method_47_38 : decode jdk_40_method_47_code 38 = .ok (.aload_n 0, 1) := by decide +kernel
theorem own_d_jdk_40_method_47_39 : decode jdk_40_method_47_code 39 = .ok (.iconst 0, 1) := by decide +kernel
theorem own_d_jdk_40_method_47_40 : decode jdk_40_method_47_code 40 = .ok (.aaload, 1) := by decide +kernel
theorem own_d_jdk_40_method_47_41 : decode jdk_40_method_47_code 41 = .ok (.invokespecial 98, 3) := by decide +kernel
theorem own_pd11 : parseMethodDescriptor "(Ljava/lang/Object;)V" = some ⟨[(.object "java/lang/Object")], none⟩ := by decide +kernel
theorem own_d_jdk_40_method_47_44 : decode jdk_40_method_47_code 44 = .ok (.areturn, 1) := by decide +kernel
theorem own_d_jdk_40_method_47_45 : decode jdk_40_method_47_code 45 = .ok (.new 96, 3) := by decide +kernel
theorem own_d_jdk_40_method_47_48 : decode jdk_40_method_47_code 48 = .ok (.dup, 1) := by decide +kernel
theorem own_d_jdk_40_method_47_49 : decode jdk_40_method_47_code 49 = .ok (.aload_n 0, 1) := by decide +kernel
theorem own_d_jdk_40_method_47_50 : decode jdk_40_method_47_code 50 = .ok (.iconst 0, 1) := by decide +kernel
theorem own_d_jdk_40_method_47_51 : decode jdk_40_method_47_code 51 = .ok (.aaload, 1) := by decide +kernel
theorem own_d_jdk_40_method_47_52 : decode jdk_40_method_47_code 52 = .ok (.aload_n 0, 1) := by decide +kernel
theorem own_d_jdk_40_method_47_53 : decode jdk_40_method_47_code 53 = .ok (.iconst 1, 1) := by decide +kernel
theorem own_d_jdk_40_method_47_54 : decode jdk_40_method_47_code 54 = .ok (.aaload, 1) := by decide +kernel
theorem own_d_jdk_40_method_47_55 : decode jdk_40_method_47_code 55 = .ok (.invokespecial 100, 3) := by decide +kernel
theorem own_pd12 : parseMethodDescriptor "(Ljava/lang/Object;Ljava/lang/Object;)V" = some ⟨[(.object "java/lang/Object"), (.object "java/lang/Object")], none⟩ := by decide +kernel
theorem own_d_jdk_40_method_47_58 : decode jdk_40_method_47_code 58 = .ok (.areturn, 1) := by decide +kernel
theorem own_d_jdk_40_method_47_59 : decode jdk_40_method_47_code 59 = .ok (.aload_n 0, 1) := by decide +kernel
theorem own_d_jdk_40_method_47_60 : decode jdk_40_method_47_code 60 = .ok (.invokestatic 109, 3) := by decide +kernel
theorem own_pd13 : parseMethodDescriptor "([Ljava/lang/Object;)Ljava/util/List;" = some ⟨[(.array (.object "java/lang/Object"))], some (.object "java/util/List")⟩ := by decide +kernel
theorem own_d_jdk_40_method_47_63 : decode jdk_40_method_47_code 63 = .ok (.areturn, 1) := by decide +kernel
theorem own_d_jdk_56_method_3_0 : decode jdk_56_method_3_code 0 = .ok (.aload_n 0, 1) := by decide +kernel
theorem own_d_jdk_56_method_3_1 : decode jdk_56_method_3_code 1 = .ok (.instanceof 10, 3) := by decide +kernel
theorem own_d_jdk_56_method_3_4 : decode jdk_56_method_3_code 4 = .ok (.ifCond .ne 22, 3) := by decide +kernel
theorem own_d_jdk_56_method_3_7 : decode jdk_56_method_3_code 7 = .ok (.aload_n 0, 1) := by decide +kernel
theorem own_d_jdk_56_method_3_8 : decode jdk_56_method_3_code 8 = .ok (.instanceof 12, 3) := by decide +kernel
theorem own_d_jdk_56_method_3_11 : decode jdk_56_method_3_code 11 = .ok (.ifCond .eq 20, 3) := by decide +kernel
theorem own_d_jdk_56_method_3_31 : decode jdk_56_method_3_code 31 = .ok (.aload_n 0, 1) := by decide +kernel
theorem own_d_jdk_56_method_3_32 : decode jdk_56_method_3_code 32 = .ok (.invokeinterface 20 1, 5) := by decide +kernel
theorem own_pd14 : parseMethodDescriptor "()Z" = some ⟨[], some .boolean⟩ := by decide +kernel
theorem own_d_jdk_56_method_3_37 : decode jdk_56_method_3_code 37 = .ok (.ifCond .eq 7, 3) := by decide +kernel
theorem own_d_jdk_56_method_3_44 : decode jdk_56_method_3_code 44 = .ok (.aload_n 0, 1) := by decide +kernel
theorem own_d_jdk_56_method_3_45 : decode jdk_56_method_3_code 45 = .ok (.invokeinterface 30 1, 5) := by decide +kernel
theorem own_d_jdk_56_method_3_50 : decode jdk_56_method_3_code 50 = .ok (.invokestatic 34, 3) := by decide +kernel
theorem own_d_jdk_56_method_3_53 : decode jdk_56_method_3_code 53 = .ok (.areturn, 1) := by decide +kernel
theorem own_d_jdk_40_method_48_0 : decode jdk_40_method_48_code 0 = .ok (.aload_n 0, 1) := by decide +kernel
theorem own_d_jdk_40_method_48_1 : decode jdk_40_method_48_code 1 = .ok (.invokestatic 112, 3) := by decide +kernel
theorem own_pd15 : parseMethodDescriptor "(Ljava/util/Collection;)Ljava/util/List;" = some ⟨[(.object "java/util/Collection")], some (.object "java/util/List")⟩ := by decide +kernel
theorem own_d_jdk_40_method_48_4 : decode jdk_40_method_48_code 4 = .ok (.areturn, 1) := by decide +kernel
theorem own_pn12 : plainName "com/example/topicd/topicd/broker/DelayLevels" = true := by first | (simp [plainName, overriddenIn]; done) | decide +kernel
theorem own_d_prog_3_method_1_0 : decode prog_3_method_1_code 0 = .ok (.aload_n 0, 1) := by decide +kernel
theorem own_d_prog_3_method_1_1 : decode prog_3_method_1_code 1 = .ok (.invokespecial 1, 3) := by decide +kernel
theorem own_d_prog_3_method_1_4 : decode prog_3_method_1_code 4 = .ok (.aload_n 1, 1) := by decide +kernel
theorem own_d_prog_3_method_1_5 : decode prog_3_method_1_code 5 = .ok (.invokeinterface 7 1, 5) := by decide +kernel
theorem own_d_prog_3_method_1_10 : decode prog_3_method_1_code 10 = .ok (.ifCond .eq 13, 3) := by decide +kernel
theorem own_d_prog_3_method_1_23 : decode prog_3_method_1_code 23 = .ok (.aload_n 0, 1) := by decide +kernel
theorem own_d_prog_3_method_1_24 : decode prog_3_method_1_code 24 = .ok (.aload_n 1, 1) := by decide +kernel
theorem own_d_prog_3_method_1_25 : decode prog_3_method_1_code 25 = .ok (.invokestatic 20, 3) := by decide +kernel
theorem own_d_prog_3_method_1_28 : decode prog_3_method_1_code 28 = .ok (.putfield 24, 3) := by decide +kernel
theorem own_d_prog_3_method_1_31 : decode prog_3_method_1_code 31 = .ok (.return_, 1) := by decide +kernel
theorem own_d_jdk_44_method_3_0 : decode jdk_44_method_3_code 0 = .ok (.aload_n 0, 1) := by decide +kernel
theorem own_d_jdk_44_method_3_1 : decode jdk_44_method_3_code 1 = .ok (.getfield 24, 3) := by decide +kernel
theorem own_d_jdk_44_method_3_4 : decode jdk_44_method_3_code 4 = .ok (.getstatic 19, 3) := by decide +kernel
theorem own_d_jdk_44_method_3_7 : decode jdk_44_method_3_code 7 = .ok (.if_acmp .eq 7, 3) := by decide +kernel
theorem own_d_jdk_44_method_3_14 : decode jdk_44_method_3_code 14 = .ok (.iconst 1, 1) := by decide +kernel
theorem own_d_jdk_44_method_3_15 : decode jdk_44_method_3_code 15 = .ok (.ireturn, 1) := by decide +kernel
theorem own_d_jdk_44_method_5_0 : decode jdk_44_method_5_code 0 = .ok (.iload_n 1, 1) := by decide +kernel
theorem own_d_jdk_44_method_5_1 : decode jdk_44_method_5_code 1 = .ok (.ifCond .ne 8, 3) := by decide +kernel
theorem own_d_jdk_44_method_5_4 : decode jdk_44_method_5_code 4 = .ok (.aload_n 0, 1) := by decide +kernel
theorem own_d_jdk_44_method_5_5 : decode jdk_44_method_5_code 5 = .ok (.getfield 13, 3) := by decide +kernel
theorem own_d_jdk_44_method_5_8 : decode jdk_44_method_5_code 8 = .ok (.areturn, 1) := by decide +kernel
theorem own_d_prog_3_method_4_0 : decode prog_3_method_4_code 0 = .ok (.aload_n 0, 1) := by decide +kernel
theorem own_d_prog_3_method_4_1 : decode prog_3_method_4_code 1 = .ok (.getfield 24, 3) := by decide +kernel
theorem own_d_prog_3_method_4_4 : decode prog_3_method_4_code 4 = .ok (.iload_n 1, 1) := by decide +kernel
theorem own_d_prog_3_method_4_5 : decode prog_3_method_4_code 5 = .ok (.aload_n 0, 1) := by decide +kernel
theorem own_d_prog_3_method_4_6 : decode prog_3_method_4_code 6 = .ok (.getfield 24, 3) := by decide +kernel
theorem own_d_prog_3_method_4_9 : decode prog_3_method_4_code 9 = .ok (.invokeinterface 99 1, 5) := by decide +kernel
theorem own_pd16 : parseMethodDescriptor "()I" = some ⟨[], some .int⟩ := by decide +kernel
theorem own_d_prog_3_method_4_14 : decode prog_3_method_4_code 14 = .ok (.invokestatic 103, 3) := by decide +kernel
theorem own_d_prog_3_method_4_17 : decode prog_3_method_4_code 17 = .ok (.iconst 1, 1) := by decide +kernel
theorem own_d_prog_3_method_4_18 : decode prog_3_method_4_code 18 = .ok (.isub, 1) := by decide +kernel
theorem own_d_prog_3_method_4_19 : decode prog_3_method_4_code 19 = .ok (.invokeinterface 109 2, 5) := by decide +kernel
theorem own_pd17 : parseMethodDescriptor "(I)Ljava/lang/Object;" = some ⟨[.int], some (.object "java/lang/Object")⟩ := by decide +kernel
theorem own_d_prog_3_method_4_24 : decode prog_3_method_4_code 24 = .ok (.checkcast 87, 3) := by decide +kernel
theorem own_d_prog_3_method_4_27 : decode prog_3_method_4_code 27 = .ok (.areturn, 1) := by decide +kernel
theorem own_d_jdk_44_method_3_10 : decode jdk_44_method_3_code 10 = .ok (.iconst 2, 1) := by decide +kernel
theorem own_d_jdk_44_method_3_11 : decode jdk_44_method_3_code 11 = .ok (.goto 4, 3) := by decide +kernel
theorem own_d_jdk_44_method_5_9 : decode jdk_44_method_5_code 9 = .ok (.iload_n 1, 1) := by decide +kernel
theorem own_d_jdk_44_method_5_10 : decode jdk_44_method_5_code 10 = .ok (.iconst 1, 1) := by decide +kernel
theorem own_d_jdk_44_method_5_11 : decode jdk_44_method_5_code 11 = .ok (.if_icmp .ne 18, 3) := by decide +kernel
theorem own_d_jdk_44_method_5_14 : decode jdk_44_method_5_code 14 = .ok (.aload_n 0, 1) := by decide +kernel
theorem own_d_jdk_44_method_5_15 : decode jdk_44_method_5_code 15 = .ok (.getfield 24, 3) := by decide +kernel
theorem own_d_jdk_44_method_5_18 : decode jdk_44_method_5_code 18 = .ok (.getstatic 19, 3) := by decide +kernel
theorem own_d_jdk_44_method_5_21 : decode jdk_44_method_5_code 21 = .ok (.if_acmp .eq 8, 3) := by decide +kernel
theorem own_d_jdk_44_method_5_24 : decode jdk_44_method_5_code 24 = .ok (.aload_n 0, 1) := by decide +kernel
theorem own_d_jdk_44_method_5_25 : decode jdk_44_method_5_code 25 = .ok (.getfield 24, 3) := by decide +kernel
theorem own_d_jdk_44_method_5_28 : decode jdk_44_method_5_code 28 = .ok (.areturn, 1) := by decide +kernel
theorem own_d_jdk_45_method_3_0 : decode jdk_45_method_3_code 0 = .ok (.aload_n 0, 1) := by decide +kernel
theorem own_d_jdk_45_method_3_1 : decode jdk_45_method_3_code 1 = .ok (.getfield 7, 3) := by decide +kernel
theorem own_d_jdk_45_method_3_4 : decode jdk_45_method_3_code 4 = .ok (.arraylength, 1) := by decide +kernel
theorem own_d_jdk_45_method_3_5 : decode jdk_45_method_3_code 5 = .ok (.ireturn, 1) := by decide +kernel
theorem own_d_jdk_45_method_4_0 : decode jdk_45_method_4_code 0 = .ok (.aload_n 0, 1) := by decide +kernel
theorem own_d_jdk_45_method_4_1 : decode jdk_45_method_4_code 1 = .ok (.getfield 7, 3) := by decide +kernel
theorem own_d_jdk_45_method_4_4 : decode jdk_45_method_4_code 4 = .ok (.iload_n 1, 1) := by decide +kernel
theorem own_d_jdk_45_method_4_5 : decode jdk_45_method_4_code 5 = .ok (.aaload, 1) := by decide +kernel
theorem own_d_jdk_45_method_4_6 : decode jdk_45_method_4_code 6 = .ok (.areturn, 1) := by decide +kernel
theorem own_pn13 : plainName "com/example/topicd/topicd/broker/DelayLevelsDelayPinLaw" = true := by first | (simp [plainName, overriddenIn]; done) | decide +kernel
theorem own_ef14 (m : MethodId) (x0 : Int32) (x1 : Int32) : entryFrame m #[(.int x0), (.int x1)] maxLocals = mkF m 0 #[.val (.int x0), .val (.int x1), .unset, .unset, .unset, .unset, .unset, .unset, .unset, .unset, .unset, .unset] [] := by first | (simp [entryFrame, mkF, argsToLocals, Value.category, maxLocals]; done) | rfl
theorem own_pd18 : parseMethodDescriptor "(J)Ljava/time/Duration;" = some ⟨[.long], some (.object "java/time/Duration")⟩ := by decide +kernel
theorem own_pd19 : parseMethodDescriptor "(Ljava/lang/Object;)Z" = some ⟨[(.object "java/lang/Object")], some .boolean⟩ := by decide +kernel
theorem own_pd20 : parseMethodDescriptor "(Ljava/util/List;)V" = some ⟨[(.object "java/util/List")], none⟩ := by decide +kernel
theorem own_pd21 : parseMethodDescriptor "(I)Ljava/time/Duration;" = some ⟨[.int], some (.object "java/time/Duration")⟩ := by decide +kernel
theorem own_Sk {Z : State} {h h' : Heap} {C n d : String} {v : Value} {ws : List Addr} (S : Sta Z h C n d v) (G : Keep h h' ws) (q : ∀ x ∈ ws, ∃ c : Cell, h[x]? = some c ∧ c.vm.isStatics = false) : Sta Z h' C n d v := by
  obtain ⟨cf, i, k, f, st, cell, h1, h2, h3, h4, h5, h6, h7⟩ := S
  refine ⟨cf, i, k, f, st, cell, h1, h2, h3, h4, G.2.1 st cell h5 (fun r => ?_), h6, h7⟩
  obtain ⟨c, e1, e2⟩ := q st r
  cases h5.symm.trans e1; rw [h6] at e2; cases e2
def own_A (Z : State) (h : Heap) (a : Addr) (mc : Int32) (ea : Addr) (n : Int32) : Prop := Exa Z h a "java/util/ArrayList" ∧ Fld Z h a "java/util/AbstractList" "modCount" "I" (.int mc) ∧ Fld Z h a "java/util/ArrayList" "elementData" "[Ljava/lang/Object;" (.ref ea) ∧ Fld Z h a "java/util/ArrayList" "size" "I" (.int n)
def own_Qk (ws : List Addr) (h0 : Heap) (n0 : Nat) (v : Option Value) (h : Heap) (L : List Loc) : Prop := v = none ∧ Fr n0 L ∧ Keep h0 h ws
def own_Qn (h0 : Heap) (n0 : Nat) (v : Option Value) (h : Heap) (L : List Loc) : Prop := v = none ∧ Fr n0 L ∧ h = h0
def own_Qr (r : Addr) (h0 : Heap) (n0 : Nat) (v : Option Value) (h : Heap) (L : List Loc) : Prop := v = some (.ref r) ∧ Fr n0 L ∧ h = h0
def own_Qz (z : Int32) (h0 : Heap) (n0 : Nat) (v : Option Value) (h : Heap) (L : List Loc) : Prop := v = some (.int z) ∧ Fr n0 L ∧ h = h0
def own_Qm (h0 : Heap) (n0 : Nat) (v : Option Value) (h : Heap) (L : List Loc) : Prop := ∃ z : Int32, v = some (.int z) ∧ Fr n0 L ∧ h = h0 ∧ ¬ z < 1
def own_Qd (Z : State) (h0 : Heap) (n0 : Nat) (v : Option Value) (h : Heap) (L : List Loc) : Prop := ∃ d, v = some (.ref d) ∧ Fr n0 L ∧ Keep h0 h [] ∧ Exa Z h d "java/time/Duration" ∧ h0.size ≤ d
def own_Qi (Z : State) (a : Addr) (h0 : Heap) (n0 : Nat) (v : Option Value) (h : Heap) (L : List Loc) : Prop := v = none ∧ Fr n0 L ∧ Keep h0 h [a] ∧ Exa Z h a "java/util/ArrayList" ∧ Fld Z h a "java/util/AbstractList" "modCount" "I" (.int 0) ∧ Fld Z h a "java/util/ArrayList" "elementData" "[Ljava/lang/Object;" .null ∧ Fld Z h a "java/util/ArrayList" "size" "I" (.int 0)
def own_Qj (Z : State) (a dd : Addr) (h0 : Heap) (n0 : Nat) (v : Option Value) (h : Heap) (L : List Loc) : Prop := v = none ∧ Fr n0 L ∧ Keep h0 h [a] ∧ own_A Z h a 0 dd 0
def own_Qg (Z : State) (a : Addr) (mc : Int32) (h0 : Heap) (n0 : Nat) (v : Option Value) (h : Heap) (L : List Loc) : Prop := ∃ ea k, v = some (.ref ea) ∧ Fr n0 L ∧ Keep h0 h [a] ∧ own_A Z h a mc ea 0 ∧ Arv Z h ea k (.object "java/lang/Object") 10 [.null, .null, .null, .null, .null, .null, .null, .null, .null, .null] .null ∧ Ovr Z k "java/lang/Object" ∧ Exa Z h ea "[Ljava/lang/Object;" ∧ h0.size ≤ ea
def own_Qf (Z : State) (r : Option Value) (a d : Addr) (mc : Int32) (h0 : Heap) (n0 : Nat) (v : Option Value) (h : Heap) (L : List Loc) : Prop := v = r ∧ Fr n0 L ∧ Keep h0 h [a] ∧ ∃ ea k, own_A Z h a mc ea 1 ∧ Arv Z h ea k (.object "java/lang/Object") 10 [.ref d, .null, .null, .null, .null, .null, .null, .null, .null, .null] .null ∧ Ovr Z k "java/lang/Object" ∧ Exa Z h ea "[Ljava/lang/Object;" ∧ h0.size ≤ ea
def own_Qa (Z : State) (r : Option Value) (a ea : Addr) (k : ClassId) (mc n : Int32) (vs : List Value) (h0 : Heap) (n0 : Nat) (v : Option Value) (h : Heap) (L : List Loc) : Prop := v = r ∧ Fr n0 L ∧ Keep h0 h [a, ea] ∧ own_A Z h a mc ea n ∧ Arv Z h ea k (.object "java/lang/Object") 10 vs .null
def own_Qt (Z : State) (n : Int32) (vs : List Value) (h0 : Heap) (n0 : Nat) (v : Option Value) (h : Heap) (L : List Loc) : Prop := ∃ r k, v = some (.ref r) ∧ Fr n0 L ∧ Keep h0 h [] ∧ Arv Z h r k (.object "java/lang/Object") n vs .null ∧ h0.size ≤ r
def own_Q12 (Z : State) (x : Addr) (e0 e1 : Addr) (h0 : Heap) (n0 : Nat) (v : Option Value) (h : Heap) (L : List Loc) : Prop := v = none ∧ Fr n0 L ∧ Keep h0 h [x] ∧ Exa Z h x "java/util/ImmutableCollections$List12" ∧ Fld Z h x "java/util/ImmutableCollections$List12" "e0" "Ljava/lang/Object;" (.ref e0) ∧ Fld Z h x "java/util/ImmutableCollections$List12" "e1" "Ljava/lang/Object;" (.ref e1)
def own_QN (Z : State) (x ar : Addr) (h0 : Heap) (n0 : Nat) (v : Option Value) (h : Heap) (L : List Loc) : Prop := v = none ∧ Fr n0 L ∧ Keep h0 h [x] ∧ Exa Z h x "java/util/ImmutableCollections$ListN" ∧ Fld Z h x "java/util/ImmutableCollections$ListN" "elements" "[Ljava/lang/Object;" (.ref ar)
def own_L2 (Z : State) (h : Heap) (x e0 e1 : Addr) : Prop := Exa Z h x "java/util/ImmutableCollections$List12" ∧ Fld Z h x "java/util/ImmutableCollections$List12" "e0" "Ljava/lang/Object;" (.ref e0) ∧ Fld Z h x "java/util/ImmutableCollections$List12" "e1" "Ljava/lang/Object;" (.ref e1)
def own_L3 (Z : State) (h : Heap) (x d1 d2 d3 : Addr) : Prop := ∃ ar k, Exa Z h x "java/util/ImmutableCollections$ListN" ∧ Fld Z h x "java/util/ImmutableCollections$ListN" "elements" "[Ljava/lang/Object;" (.ref ar) ∧ Arv Z h ar k (.object "java/lang/Object") 3 [.ref d1, .ref d2, .ref d3] .null
def own_Qo (P : Heap → Addr → Prop) (h0 : Heap) (n0 : Nat) (v : Option Value) (h : Heap) (L : List Loc) : Prop := ∃ x, v = some (.ref x) ∧ Fr n0 L ∧ Keep h0 h [] ∧ P h x ∧ h0.size ≤ x
def own_Qt2 (Z : State) (P : Heap → Addr → Prop) (t : Addr) (h0 : Heap) (n0 : Nat) (v : Option Value) (h : Heap) (L : List Loc) : Prop := v = none ∧ Fr n0 L ∧ Keep h0 h [t] ∧ Exa Z h t "com/example/topicd/topicd/broker/DelayLevels" ∧ ∃ x, Fld Z h t "com/example/topicd/topicd/broker/DelayLevels" "delays" "Ljava/util/List;" (.ref x) ∧ P h x ∧ h0.size ≤ x
def own_Q0 (n0 : Nat) (v : Option Value) (h : Heap) (L : List Loc) : Prop := v = some (.int (1 : Int32)) ∧ Fr n0 L
theorem own_lt1 {x : Int32} (h : (1 : Int32) < x) : ¬ x < 1 := fun q => by rw [Int32.lt_iff_toInt_lt] at h q; omega
def own_Mir (Z : State) (m : Addr) : Prop := ∃ (c : ClassId) (k : Class), Z.vm.findClass "[Ljava/lang/Object;" = some c ∧ Z.vm.classes[c]? = some k ∧ k.mirror = some m
theorem own_root {Z : State} {a0 : Array Value} {O K : String} {n : Nat} (w : (Cond.noSuperclass O).before a0 Z = true) (wk : (Cond.instantiable K n).before a0 Z = true) (hn : O ≠ K) : NS Z O K := by
  obtain ⟨c, k, h1, h2, h3, -, -⟩ := Cond.noSuperclass_spec w
  obtain ⟨t, k2, g1, -⟩ := Cond.instantiable_spec wk
  have ne := ids_ne h1 g1 hn
  refine ⟨c, t, h1, g1, fun fuel => ?_⟩
  cases fuel with
  | zero => rfl
  | succ f => simp [Vm.isSubclassAux, ne, h2, h3]
theorem own_no {Z : State} {a0 : Array Value} {C S K : String} {n : Nat} (w : (Cond.superclass C S).before a0 Z = true) (wk : (Cond.instantiable K n).before a0 Z = true) (q : NS Z C K) (hn : C ≠ K) : ∃ c t, Z.vm.findClass C = some c ∧ Z.vm.findClass K = some t ∧ Z.vm.assignable c t = false := by
  obtain ⟨c, t, h0, g0, n3⟩ := q
  obtain ⟨p, k, kp, h1, h2, h3, h4, h5, -, h7⟩ := Cond.superclass_spec h0 w
  obtain ⟨t', k2, g1, g2, g3, g4, -⟩ := Cond.instantiable_spec wk
  cases g0.symm.trans g1
  have ne := ids_ne h0 g0 hn
  have g5 : k2.isInterface = false := (Bool.or_eq_false_iff.mp g4).1
  refine ⟨c, t, h0, g0, ?_⟩
  show Z.vm.assignableAux (255 + 1) c t = false
  simp [Vm.assignableAux, ne, h2, g2, h5, g3, g5, Vm.isSubclass, n3]
theorem own_nex {Z : State} {h : Heap} {a b : Addr} {k : ClassId} {ty : FieldType} {n : Int32} {vs : List Value} {d : Value} (E : Exa Z h a "com/example/topicd/topicd/broker/DelayLevels") (V : Arv Z h b k ty n vs d) (q : b = a) {a0 : Array Value} {m : Nat} (w : (Cond.instantiable "com/example/topicd/topicd/broker/DelayLevels" m).before a0 Z = true) : False := by
  obtain ⟨c, A, -⟩ := V; exact ne_arr E w A q.symm
theorem own_n3 (x : Int32) : (1 : Int32) + (x &&& 2147483647) % 3 = 1 ∨ (1 : Int32) + (x &&& 2147483647) % 3 = 2 ∨ (1 : Int32) + (x &&& 2147483647) % 3 = 3 := by
  have e := c_mask x 2147483647 31 (by decide) (by decide)
  have r := (c_irem (x &&& 2147483647) 3 3 (by decide)).1
  have h0 : 0 ≤ (x &&& 2147483647).toInt := by rw [e]; omega
  have r := r h0
  have h1 : (1 : Int32).toInt = 1 := by decide
  have h2 : (2 : Int32).toInt = 2 := by decide
  have h3 : (3 : Int32).toInt = 3 := by decide
  have a := c_iadd (1 : Int32) ((x &&& 2147483647) % 3)
  have b := rng32 ((1 : Int32) + (x &&& 2147483647) % 3)
  simp only [← Int32.toInt_inj]
  omega
theorem own_z1 {z : Int32} (h : ¬ z < 1) (q : ¬ (1 : Int32) < z) : z = (1 : Int32) := by
  have h1 : (1 : Int32).toInt = 1 := by decide
  have h2 : (2 : Int32).toInt = 2 := by decide
  have h3 : (3 : Int32).toInt = 3 := by decide
  rw [Int32.lt_iff_toInt_lt] at h q
  simp only [← Int32.toInt_inj]
  omega
theorem own_z2 {z : Int32} (h : ¬ z < 1) (q : ¬ (2 : Int32) < z) : z = (1 : Int32) ∨ z = (2 : Int32) := by
  have h1 : (1 : Int32).toInt = 1 := by decide
  have h2 : (2 : Int32).toInt = 2 := by decide
  have h3 : (3 : Int32).toInt = 3 := by decide
  rw [Int32.lt_iff_toInt_lt] at h q
  simp only [← Int32.toInt_inj]
  omega
theorem own_z3 {z : Int32} (h : ¬ z < 1) (q : ¬ (3 : Int32) < z) : z = (1 : Int32) ∨ z = (2 : Int32) ∨ z = (3 : Int32) := by
  have h1 : (1 : Int32).toInt = 1 := by decide
  have h2 : (2 : Int32).toInt = 2 := by decide
  have h3 : (3 : Int32).toInt = 3 := by decide
  rw [Int32.lt_iff_toInt_lt] at h q
  simp only [← Int32.toInt_inj]
  omega
theorem own_len0 {Z : State} {args : Array Value} {t : Term} {a : Addr} {cl : Cell} {ty : FieldType} (hf : Fit Z) (ev : t.eval args Z none [] Z = some (.ref a)) (A : Arr Z Z.heap a cl ty) (q : (Cond.eq (.length t) (.int 0)).value args Z none Z [] = some true) (dv : Value) : Arv Z Z.heap a cl.cls ty 0 [] dv := by
  cases hl : (Term.length t).eval args Z none [] Z with
  | none => simp [Cond.value, hl] at q
  | some v =>
    obtain ⟨a', c', e1, e2, rfl⟩ := Term.length_spec hl
    cases ev.symm.trans e1
    have e3 : Z.arrayAt? a = some cl := A.fin (Vm.Alike.refl _)
    cases e2.symm.trans e3
    have lt : cl.slots.size < 2 ^ 31 := by
      by_cases p : cl.slots.size < 2 ^ 31
      · exact p
      · simp [Term.eval, ev, e3, p] at hl
    have e4 : (Term.int 0).eval args Z none [] Z = some (.int 0) := rfl
    have z0 : cl.slots.size.toInt32 = 0 := by simpa [Cond.value, hl, e4] using q
    exact Arv.start hf A lt z0 (by decide) rfl trivial
set_option maxRecDepth 65536 in
set_option maxHeartbeats 40000000 in
theorem own_max (l : Launch) (Z : State) (a0 : Array Value) (hw : ∀ d ∈ tables_1, d.before a0 Z = true) (x2 : Int32)  (h0 : Heap) (n0 : Nat) (Z0 : n0 ≤ h0.size)  :
    own_C l Z (⟨"java/lang/Math", "max", "(II)I"⟩ : MethodName) jdk_29_method_65_code 2 (some .int) [] ({ frames := 0, cells := 0, slots := 0, locals := 0 } : Room) #[(.int (1 : Int32)), (.int x2)] h0 (own_Qm h0 n0) := by
  refine MetFree.of_bodySF (Jvm.Free.JP.mathPlain rfl (by decide +kernel)) hisR ?_
  intro p e s m args below meth c s₁ Bd hml0 hP hK
  obtain ⟨rfl, hZ, hh⟩ := hP
  have hx := Bd.exec
  have hby := Bd.bytes
  have hlk := Bd.notSynchronized
  have hret := Bd.returns
  have hml : c.maxLocals = 2 := hml0
  have hown : s.vm.findClass "java/lang/Math" = some m.cls := findClass_of_methodNamed Bd.named
  have hnm := (name_of_methodNamed Bd.named Bd.method).1
  have X0 : Stand p l e ({ frames := 0, cells := 0, slots := 0, locals := 0 } : Room) s m #[(.int (1 : Int32)), (.int x2)] below meth c s₁ [] 0 0 := Stand.of_body Bd
  have e0 : s₁.heap = h0 := by rw [← hh, Bd.state]; rfl
  have N0 := Fr.nil n0
  refine own_open (own_ef0 m ((1 : Int32)) x2) ?_
  refine own_go (S' := (s₁.setTop (mkF m 1 #[.val (.int (1 : Int32)), .val (.int x2)] [(.int (1 : Int32))]))) (fun _ k => XS.iloadN X0.here hx rfl (hb hby own_d_jdk_29_method_65_0) rfl  k) ?_
  refine own_go (S' := (s₁.setTop (mkF m 2 #[.val (.int (1 : Int32)), .val (.int x2)] [(.int x2), (.int (1 : Int32))]))) (fun _ k => XS.iloadN X0.here hx rfl (hb hby own_d_jdk_29_method_65_1) rfl  k) ?_
  by_cases hc : (1 : Int32) < x2
  · skip
    refine own_go (S' := (s₁.setTop (mkF m 9 #[.val (.int (1 : Int32)), .val (.int x2)] []))) (fun _ k => XS.icmpYes X0.here hx rfl (pc0 := 2) (pc' := 9) rfl (hb hby own_d_jdk_29_method_65_2) rfl (tlt hc).1 (by decide) (by decide) k) ?_
    refine own_go (S' := (s₁.setTop (mkF m 10 #[.val (.int (1 : Int32)), .val (.int x2)] [(.int x2)]))) (fun _ k => XS.iloadN X0.here hx rfl (hb hby own_d_jdk_29_method_65_9) rfl  k) ?_
    refine own_retI X0 hx hlk hret (hb hby own_d_jdk_29_method_65_10) ?_ (by decide) (by decide)
    rw [e0]
    exact ⟨_, rfl, N0, rfl, own_lt1 hc⟩
  · skip
    refine own_go (S' := (s₁.setTop (mkF m 5 #[.val (.int (1 : Int32)), .val (.int x2)] []))) (fun _ k => XS.icmpNo X0.here hx rfl (hb hby own_d_jdk_29_method_65_2) rfl (flt hc).1 k) ?_
    refine own_go (S' := (s₁.setTop (mkF m 6 #[.val (.int (1 : Int32)), .val (.int x2)] [(.int (1 : Int32))]))) (fun _ k => XS.iloadN X0.here hx rfl (hb hby own_d_jdk_29_method_65_5) rfl  k) ?_
    refine own_go (S' := (s₁.setTop (mkF m 10 #[.val (.int (1 : Int32)), .val (.int x2)] [(.int (1 : Int32))]))) (fun _ k => XS.goto X0.here hx rfl (pc0 := 6) (pc' := 10) rfl (hb hby own_d_jdk_29_method_65_6) (by decide) (by decide) k) ?_
    refine own_retI X0 hx hlk hret (hb hby own_d_jdk_29_method_65_10) ?_ (by decide) (by decide)
    rw [e0]
    exact ⟨_, rfl, N0, rfl, by decide⟩
set_option maxRecDepth 65536 in
set_option maxHeartbeats 40000000 in
theorem own_max10 (l : Launch) (Z : State) (a0 : Array Value) (hw : ∀ d ∈ tables_1, d.before a0 Z = true)   (h0 : Heap) (n0 : Nat) (Z0 : n0 ≤ h0.size)  :
    own_C l Z (⟨"java/lang/Math", "max", "(II)I"⟩ : MethodName) jdk_29_method_65_code 2 (some .int) [] ({ frames := 0, cells := 0, slots := 0, locals := 0 } : Room) #[(.int (10 : Int32)), (.int (1 : Int32))] h0 (own_Qz 10 h0 n0) := by
  refine MetFree.of_bodySF (Jvm.Free.JP.mathPlain rfl (by decide +kernel)) hisR ?_
  intro p e s m args below meth c s₁ Bd hml0 hP hK
  obtain ⟨rfl, hZ, hh⟩ := hP
  have hx := Bd.exec
  have hby := Bd.bytes
  have hlk := Bd.notSynchronized
  have hret := Bd.returns
  have hml : c.maxLocals = 2 := hml0
  have hown : s.vm.findClass "java/lang/Math" = some m.cls := findClass_of_methodNamed Bd.named
  have hnm := (name_of_methodNamed Bd.named Bd.method).1
  have X0 : Stand p l e ({ frames := 0, cells := 0, slots := 0, locals := 0 } : Room) s m #[(.int (10 : Int32)), (.int (1 : Int32))] below meth c s₁ [] 0 0 := Stand.of_body Bd
  have e0 : s₁.heap = h0 := by rw [← hh, Bd.state]; rfl
  have N0 := Fr.nil n0
  refine own_open (own_ef0 m ((10 : Int32)) ((1 : Int32))) ?_
  refine own_go (S' := (s₁.setTop (mkF m 1 #[.val (.int (10 : Int32)), .val (.int (1 : Int32))] [(.int (10 : Int32))]))) (fun _ k => XS.iloadN X0.here hx rfl (hb hby own_d_jdk_29_method_65_0) rfl  k) ?_
  refine own_go (S' := (s₁.setTop (mkF m 2 #[.val (.int (10 : Int32)), .val (.int (1 : Int32))] [(.int (1 : Int32)), (.int (10 : Int32))]))) (fun _ k => XS.iloadN X0.here hx rfl (hb hby own_d_jdk_29_method_65_1) rfl  k) ?_
  refine own_go (S' := (s₁.setTop (mkF m 5 #[.val (.int (10 : Int32)), .val (.int (1 : Int32))] []))) (fun _ k => XS.icmpNo X0.here hx rfl (hb hby own_d_jdk_29_method_65_2) rfl (flt (by decide)).1 k) ?_
  refine own_go (S' := (s₁.setTop (mkF m 6 #[.val (.int (10 : Int32)), .val (.int (1 : Int32))] [(.int (10 : Int32))]))) (fun _ k => XS.iloadN X0.here hx rfl (hb hby own_d_jdk_29_method_65_5) rfl  k) ?_
  refine own_go (S' := (s₁.setTop (mkF m 10 #[.val (.int (10 : Int32)), .val (.int (1 : Int32))] [(.int (10 : Int32))]))) (fun _ k => XS.goto X0.here hx rfl (pc0 := 6) (pc' := 10) rfl (hb hby own_d_jdk_29_method_65_6) (by decide) (by decide) k) ?_
  refine own_retI X0 hx hlk hret (hb hby own_d_jdk_29_method_65_10) ?_ (by decide) (by decide)
  rw [e0]
  exact ⟨rfl, N0, rfl⟩
set_option maxRecDepth 65536 in
set_option maxHeartbeats 40000000 in
theorem own_min (l : Launch) (Z : State) (a0 : Array Value) (hw : ∀ d ∈ tables_1, d.before a0 Z = true) (x1 : Int32) (x2 : Int32) (z : Int32) (h0 : Heap) (n0 : Nat) (Z0 : n0 ≤ h0.size) (hz : (¬ x2 < x1 ∧ x1 = z) ∨ (x2 < x1 ∧ x2 = z)) :
    own_C l Z (⟨"java/lang/Math", "min", "(II)I"⟩ : MethodName) jdk_29_method_69_code 2 (some .int) [] ({ frames := 0, cells := 0, slots := 0, locals := 0 } : Room) #[(.int x1), (.int x2)] h0 (own_Qz z h0 n0) := by
  refine MetFree.of_bodySF (Jvm.Free.JP.mathPlain rfl (by decide +kernel)) hisR ?_
  intro p e s m args below meth c s₁ Bd hml0 hP hK
  obtain ⟨rfl, hZ, hh⟩ := hP
  have hx := Bd.exec
  have hby := Bd.bytes
  have hlk := Bd.notSynchronized
  have hret := Bd.returns
  have hml : c.maxLocals = 2 := hml0
  have hown : s.vm.findClass "java/lang/Math" = some m.cls := findClass_of_methodNamed Bd.named
  have hnm := (name_of_methodNamed Bd.named Bd.method).1
  have X0 : Stand p l e ({ frames := 0, cells := 0, slots := 0, locals := 0 } : Room) s m #[(.int x1), (.int x2)] below meth c s₁ [] 0 0 := Stand.of_body Bd
  have e0 : s₁.heap = h0 := by rw [← hh, Bd.state]; rfl
  have N0 := Fr.nil n0
  refine own_open (own_ef0 m x1 x2) ?_
  refine own_go (S' := (s₁.setTop (mkF m 1 #[.val (.int x1), .val (.int x2)] [(.int x1)]))) (fun _ k => XS.iloadN X0.here hx rfl (hb hby own_d_jdk_29_method_69_0) rfl  k) ?_
  refine own_go (S' := (s₁.setTop (mkF m 2 #[.val (.int x1), .val (.int x2)] [(.int x2), (.int x1)]))) (fun _ k => XS.iloadN X0.here hx rfl (hb hby own_d_jdk_29_method_69_1) rfl  k) ?_
  rcases hz with ⟨hc, rfl⟩ | ⟨hc, rfl⟩
  · skip
    refine own_go (S' := (s₁.setTop (mkF m 5 #[.val (.int x1), .val (.int x2)] []))) (fun _ k => XS.icmpNo X0.here hx rfl (hb hby own_d_jdk_29_method_69_2) rfl (flt hc).2.2.1 k) ?_
    refine own_go (S' := (s₁.setTop (mkF m 6 #[.val (.int x1), .val (.int x2)] [(.int x1)]))) (fun _ k => XS.iloadN X0.here hx rfl (hb hby own_d_jdk_29_method_69_5) rfl  k) ?_
    refine own_go (S' := (s₁.setTop (mkF m 10 #[.val (.int x1), .val (.int x2)] [(.int x1)]))) (fun _ k => XS.goto X0.here hx rfl (pc0 := 6) (pc' := 10) rfl (hb hby own_d_jdk_29_method_69_6) (by decide) (by decide) k) ?_
    refine own_retI X0 hx hlk hret (hb hby own_d_jdk_29_method_69_10) ?_ (by decide) (by decide)
    rw [e0]
    exact ⟨rfl, N0, rfl⟩
  · skip
    refine own_go (S' := (s₁.setTop (mkF m 9 #[.val (.int x1), .val (.int x2)] []))) (fun _ k => XS.icmpYes X0.here hx rfl (pc0 := 2) (pc' := 9) rfl (hb hby own_d_jdk_29_method_69_2) rfl (tlt hc).2.2.1 (by decide) (by decide) k) ?_
    refine own_go (S' := (s₁.setTop (mkF m 10 #[.val (.int x1), .val (.int x2)] [(.int x2)]))) (fun _ k => XS.iloadN X0.here hx rfl (hb hby own_d_jdk_29_method_69_9) rfl  k) ?_
    refine own_retI X0 hx hlk hret (hb hby own_d_jdk_29_method_69_10) ?_ (by decide) (by decide)
    rw [e0]
    exact ⟨rfl, N0, rfl⟩
set_option maxRecDepth 65536 in
set_option maxHeartbeats 40000000 in
theorem own_dui (l : Launch) (Z : State) (a0 : Array Value) (hw : ∀ d ∈ tables_1, d.before a0 Z = true) (d : Addr) (s1 : Int64) (i1 : Int32)  (h0 : Heap) (n0 : Nat) (Z0 : n0 ≤ h0.size) (E_ : Exa Z h0 d "java/time/Duration") (F1 : Fld Z h0 d "java/time/Duration" "seconds" "J" (.long 0)) (F2 : Fld Z h0 d "java/time/Duration" "nanos" "I" (.int 0)) (g : n0 ≤ d) :
    own_C l Z (⟨"java/time/Duration", "<init>", "(JI)V"⟩ : MethodName) jdk_2316_method_17_code 4 none [] ({ frames := 1, cells := 0, slots := 0, locals := 12 } : Room) #[(.ref d), (.long s1), (.int i1)] h0 (own_Qk [d] h0 n0) := by
  refine MetFree.of_bodySF (plainFor_of_name own_pn0) hisR ?_
  intro p e s m args below meth c s₁ Bd hml0 hP hK
  obtain ⟨rfl, hZ, hh⟩ := hP
  have hx := Bd.exec
  have hby := Bd.bytes
  have hlk := Bd.notSynchronized
  have hret := Bd.returns
  have hml : c.maxLocals = 4 := hml0
  have hown : s.vm.findClass "java/time/Duration" = some m.cls := findClass_of_methodNamed Bd.named
  have hnm := (name_of_methodNamed Bd.named Bd.method).1
  have X0 : Stand p l e ({ frames := 1, cells := 0, slots := 0, locals := 12 } : Room) s m #[(.ref d), (.long s1), (.int i1)] below meth c s₁ [] 0 0 := Stand.of_body Bd
  have e0 : s₁.heap = h0 := by rw [← hh, Bd.state]; rfl
  have N0 := Fr.nil n0
  refine own_open (own_ef1 m d s1 i1) ?_
  refine own_go (S' := (s₁.setTop (mkF m 1 #[.val (.ref d), .val (.long s1), .second, .val (.int i1)] [(.ref d)]))) (fun _ k => XS.aloadN X0.here hx rfl (hb hby own_d_jdk_2316_method_17_0) rfl rfl  k) ?_
  obtain ⟨T1, X1, e1, st1⟩ := initO X0 hx hZ hown (hw _ (List.mem_of_getElem? (i := 18) rfl)) (hw _ (List.mem_of_getElem? (i := 19) rfl)) (hw _ (List.mem_of_getElem? (i := 20) rfl)) e0 (g := (mkF m 1 #[.val (.ref d), .val (.long s1), .second, .val (.int i1)] [(.ref d)])) rfl (by rw [hml]; rfl) rfl (hb hby own_d_jdk_2316_method_17_1) (by decide) (W := 0) (by show 2 * 0 + _ ≤ _; exact Nat.le_of_eq rfl) (by decide)
  refine own_go (S' := (T1.setTop (mkF m 4 #[.val (.ref d), .val (.long s1), .second, .val (.int i1)] []))) st1 ?_
  refine own_go (S' := (T1.setTop (mkF m 5 #[.val (.ref d), .val (.long s1), .second, .val (.int i1)] [(.ref d)]))) (fun _ k => XS.aloadN X1.here hx rfl (hb hby own_d_jdk_2316_method_17_4) rfl rfl  k) ?_
  refine own_go (S' := (T1.setTop (mkF m 6 #[.val (.ref d), .val (.long s1), .second, .val (.int i1)] [(.long s1), (.ref d)]))) (fun _ k => XS.lloadN X1.here hx rfl (hb hby own_d_jdk_2316_method_17_5) rfl  k) ?_
  obtain ⟨T2, h2, X2, e2, W2, st2⟩ := putF X1 hx hZ hown (host := "") (Or.inl (hw _ (List.mem_of_getElem? (i := 21) rfl))) Via.refl e1 F1 E_ (Or.inr ⟨(hw _ (List.mem_of_getElem? (i := 22) rfl)), rfl, hnm⟩) (hw _ (List.mem_of_getElem? (i := 13) rfl)) (ty := .long) (by decide) rfl rfl (g := (mkF m 6 #[.val (.ref d), .val (.long s1), .second, .val (.int i1)] [(.long s1), (.ref d)])) rfl rfl (hb hby own_d_jdk_2316_method_17_6)
  have N2 := Fr.snoc X2 N0 g
  refine own_go (S' := (T2.setTop (mkF m 9 #[.val (.ref d), .val (.long s1), .second, .val (.int i1)] []))) st2 ?_
  have n2_F1 := F1.same W2
  have c3_E_ := E_.wr W2
  have c3_F2 := F2.other W2 (Or.inr (slot_ne (Or.inr (hw _ (List.mem_of_getElem? (i := 24) rfl))) (Or.inr (hw _ (List.mem_of_getElem? (i := 22) rfl))) (by decide) (t := .int) (t' := .long) (by decide) (by decide)))
  have K2 := (Keep.refl h0 [d]).wr W2 (Or.inl (List.mem_of_getElem? (i := 0) rfl))
  refine own_go (S' := (T2.setTop (mkF m 10 #[.val (.ref d), .val (.long s1), .second, .val (.int i1)] [(.ref d)]))) (fun _ k => XS.aloadN X2.here hx rfl (hb hby own_d_jdk_2316_method_17_9) rfl rfl  k) ?_
  refine own_go (S' := (T2.setTop (mkF m 11 #[.val (.ref d), .val (.long s1), .second, .val (.int i1)] [(.int i1), (.ref d)]))) (fun _ k => XS.iloadN X2.here hx rfl (hb hby own_d_jdk_2316_method_17_10) rfl  k) ?_
  obtain ⟨T4, h4, X4, e4, W4, st4⟩ := putF X2 hx hZ hown (host := "") (Or.inl (hw _ (List.mem_of_getElem? (i := 23) rfl))) Via.refl e2 c3_F2 c3_E_ (Or.inr ⟨(hw _ (List.mem_of_getElem? (i := 24) rfl)), rfl, hnm⟩) (hw _ (List.mem_of_getElem? (i := 13) rfl)) (ty := .int) (by decide) rfl rfl (g := (mkF m 11 #[.val (.ref d), .val (.long s1), .second, .val (.int i1)] [(.int i1), (.ref d)])) rfl rfl (hb hby own_d_jdk_2316_method_17_11)
  have N4 := Fr.snoc X4 N2 g
  refine own_go (S' := (T4.setTop (mkF m 14 #[.val (.ref d), .val (.long s1), .second, .val (.int i1)] []))) st4 ?_
  have n4_F2 := c3_F2.same W4
  have c5_E_ := c3_E_.wr W4
  have c5_F1 := n2_F1.other W4 (Or.inr (slot_ne (Or.inr (hw _ (List.mem_of_getElem? (i := 22) rfl))) (Or.inr (hw _ (List.mem_of_getElem? (i := 24) rfl))) (by decide) (t := .long) (t' := .int) (by decide) (by decide)))
  have K4 := K2.wr W4 (Or.inl (List.mem_of_getElem? (i := 0) rfl))
  refine own_retV X4 hx hlk hret (hb hby own_d_jdk_2316_method_17_14) ?_ (by decide) (by decide)
  rw [e4]
  exact ⟨rfl, N4, K4⟩
set_option maxRecDepth 65536 in
set_option maxHeartbeats 40000000 in
theorem own_cr1 (l : Launch) (Z : State) (a0 : Array Value) (hw : ∀ d ∈ tables_1, d.before a0 Z = true)   (h0 : Heap) (n0 : Nat) (Z0 : n0 ≤ h0.size)  :
    own_C l Z (⟨"java/time/Duration", "create", "(JI)Ljava/time/Duration;"⟩ : MethodName) jdk_2316_method_16_code 3 (some (.object "java/time/Duration")) [] ({ frames := 2, cells := 1, slots := 2, locals := 28 } : Room) #[(.long (1 : Int64)), (.int (0 : Int32))] h0 (own_Qd Z h0 n0) := by
  refine MetFree.of_bodySF (plainFor_of_name own_pn0) hisR ?_
  intro p e s m args below meth c s₁ Bd hml0 hP hK
  obtain ⟨rfl, hZ, hh⟩ := hP
  have hx := Bd.exec
  have hby := Bd.bytes
  have hlk := Bd.notSynchronized
  have hret := Bd.returns
  have hml : c.maxLocals = 3 := hml0
  have hown : s.vm.findClass "java/time/Duration" = some m.cls := findClass_of_methodNamed Bd.named
  have hnm := (name_of_methodNamed Bd.named Bd.method).1
  have X0 : Stand p l e ({ frames := 2, cells := 1, slots := 2, locals := 28 } : Room) s m #[(.long (1 : Int64)), (.int (0 : Int32))] below meth c s₁ [] 0 0 := Stand.of_body Bd
  have e0 : s₁.heap = h0 := by rw [← hh, Bd.state]; rfl
  have N0 := Fr.nil n0
  refine own_open (own_ef2 m ((1 : Int64)) ((0 : Int32))) ?_
  refine own_go (S' := (s₁.setTop (mkF m 1 #[.val (.long (1 : Int64)), .second, .val (.int (0 : Int32))] [(.long (1 : Int64))]))) (fun _ k => XS.lloadN X0.here hx rfl (hb hby own_d_jdk_2316_method_16_0) rfl  k) ?_
  refine own_go (S' := (s₁.setTop (mkF m 2 #[.val (.long (1 : Int64)), .second, .val (.int (0 : Int32))] [(.int (0 : Int32)), (.long (1 : Int64))]))) (fun _ k => XS.iloadN X0.here hx rfl (hb hby own_d_jdk_2316_method_16_1) rfl  k) ?_
  refine own_go (S' := (s₁.setTop (mkF m 3 #[.val (.long (1 : Int64)), .second, .val (.int (0 : Int32))] [(.long ((0 : Int32).toInt64)), (.long (1 : Int64))]))) (fun _ k => XS.i2l X0.here hx rfl (hb hby own_d_jdk_2316_method_16_2) rfl k) ?_
  refine own_go (S' := (s₁.setTop (mkF m 4 #[.val (.long (1 : Int64)), .second, .val (.int (0 : Int32))] [(.long ((1 : Int64) ||| ((0 : Int32).toInt64)))]))) (fun _ k => XS.lor X0.here hx rfl (hb hby own_d_jdk_2316_method_16_3) rfl k) ?_
  refine own_go (S' := (s₁.setTop (mkF m 5 #[.val (.long (1 : Int64)), .second, .val (.int (0 : Int32))] [(.long (0 : Int64)), (.long ((1 : Int64) ||| ((0 : Int32).toInt64)))]))) (fun _ k => XS.lconst X0.here hx rfl (hb hby own_d_jdk_2316_method_16_4) k) ?_
  refine own_go (S' := (s₁.setTop (mkF m 6 #[.val (.long (1 : Int64)), .second, .val (.int (0 : Int32))] [(.int (lcmpW ((1 : Int64) ||| ((0 : Int32).toInt64)) (0 : Int64)))]))) (fun _ k => XS.lcmp X0.here hx rfl (hb hby own_d_jdk_2316_method_16_5) rfl k) ?_
  refine own_go (S' := (s₁.setTop (mkF m 13 #[.val (.long (1 : Int64)), .second, .val (.int (0 : Int32))] []))) (fun _ k => XS.ifYes X0.here hx rfl (pc0 := 6) (pc' := 13) rfl (hb hby own_d_jdk_2316_method_16_6) rfl ((if0 _ _).trans (feq (by decide)).2) (by decide) (by decide) k) ?_
  obtain ⟨T1, h1, X1, e1, E1, A1, D1, -, st1⟩ := newO X0 hx hZ hown (hw _ (List.mem_of_getElem? (i := 12) rfl)) (hw _ (List.mem_of_getElem? (i := 13) rfl)) (hw _ (List.mem_of_getElem? (i := 7) rfl)) e0 (g := (mkF m 13 #[.val (.long (1 : Int64)), .second, .val (.int (0 : Int32))] [])) rfl (hb hby own_d_jdk_2316_method_16_13) (by decide) (by decide)
  obtain ⟨d, g1⟩ : ∃ z, z = h0.size := ⟨_, rfl⟩
  rw [← g1] at A1 D1 st1
  refine own_go (S' := (T1.setTop (mkF m 16 #[.val (.long (1 : Int64)), .second, .val (.int (0 : Int32))] [(.ref d)]))) st1 ?_
  have sz_d : h0.size ≤ d := Nat.le_trans (Keep.refl h0 []).1 (Nat.le_of_eq g1.symm)
  have gn_d : n0 ≤ d := Nat.le_trans Z0 sz_d
  have K1 := (Keep.refl h0 []).ext E1
  refine own_go (S' := (T1.setTop (mkF m 17 #[.val (.long (1 : Int64)), .second, .val (.int (0 : Int32))] [(.ref d), (.ref d)]))) (fun _ k => XS.dup X1.here hx rfl (hb hby own_d_jdk_2316_method_16_16) rfl rfl k) ?_
  refine own_go (S' := (T1.setTop (mkF m 18 #[.val (.long (1 : Int64)), .second, .val (.int (0 : Int32))] [(.long (1 : Int64)), (.ref d), (.ref d)]))) (fun _ k => XS.lloadN X1.here hx rfl (hb hby own_d_jdk_2316_method_16_17) rfl  k) ?_
  refine own_go (S' := (T1.setTop (mkF m 19 #[.val (.long (1 : Int64)), .second, .val (.int (0 : Int32))] [(.int (0 : Int32)), (.long (1 : Int64)), (.ref d), (.ref d)]))) (fun _ k => XS.iloadN X1.here hx rfl (hb hby own_d_jdk_2316_method_16_18) rfl  k) ?_
  obtain ⟨_, _, ⟨T3, L3, k3, n3⟩, -, X3, ⟨Lc3, hQ3, l3, y3, z3⟩, st3⟩ := X1.specialBack hx (y := (⟨"java/time/Duration", "<init>", "(JI)V"⟩ : MethodName)) rfl hown (mvT hZ (hw _ (List.mem_of_getElem? (i := 14) rfl))) (mvT hZ (hw _ (List.mem_of_getElem? (i := 15) rfl))) (mvT hZ (hw _ (List.mem_of_getElem? (i := 17) rfl))) (by decide) (backOf (W := 1) (own_dui l Z a0 hw d (1 : Int64) (0 : Int32) h1 n0 (Nat.le_trans Z0 K1.1) A1 (D1 (Or.inr (hw _ (List.mem_of_getElem? (i := 22) rfl))) (ty := .long) (by decide)) (D1 (Or.inr (hw _ (List.mem_of_getElem? (i := 24) rfl))) (ty := .int) (by decide)) gn_d) hZ (hw _ (List.mem_of_getElem? (i := 17) rfl)) (hw _ (List.mem_of_getElem? (i := 7) rfl)) (by decide) (by decide)) (g := (mkF m 19 #[.val (.long (1 : Int64)), .second, .val (.int (0 : Int32))] [(.int (0 : Int32)), (.long (1 : Int64)), (.ref d), (.ref d)])) rfl (by rw [hml]; rfl) (Steps.refl _) (a := d) (argsL := [(.long (1 : Int64)), (.int (0 : Int32))]) (rest := [(.ref d)]) (lenOf own_pd0 rfl) rfl (by show 2 * 0 + _ ≤ _; exact Nat.le_of_eq rfl) (hb hby own_d_jdk_2316_method_16_19) (fun _ _ => ⟨rfl, e1, (by decide : 1 + 0 ≤ _), (by decide : 2 + 0 ≤ _)⟩)
  dsimp only [Pt.U, Pt.locs, Pt.cells, Pt.slots] at X3 l3 y3 z3 st3 hQ3
  subst l3 y3 z3
  obtain ⟨rfl, N3q, Kc3⟩ := hQ3
  have N3 := Fr.app N0 N3q
  refine own_via (S' := (T3.setTop (mkF m 22 #[.val (.long (1 : Int64)), .second, .val (.int (0 : Int32))] [(.ref d)]))) st3 ?_
  have c4_E_d := A1.keep Kc3
  have K3x := K1.trans Kc3 (allS (Or.inr sz_d) all0)
  refine own_retA X3 hx hlk hret rfl rfl (hb hby own_d_jdk_2316_method_16_22) ?_ (by decide) (by decide)
  exact ⟨_, rfl, N3, K3x, c4_E_d, sz_d⟩
set_option maxRecDepth 65536 in
set_option maxHeartbeats 40000000 in
theorem own_os1 (l : Launch) (Z : State) (a0 : Array Value) (hw : ∀ d ∈ tables_1, d.before a0 Z = true)   (h0 : Heap) (n0 : Nat) (Z0 : n0 ≤ h0.size)  :
    own_C l Z (⟨"java/time/Duration", "ofSeconds", "(J)Ljava/time/Duration;"⟩ : MethodName) jdk_2316_method_4_code 2 (some (.object "java/time/Duration")) [] ({ frames := 3, cells := 1, slots := 2, locals := 42 } : Room) #[(.long (1 : Int64))] h0 (own_Qd Z h0 n0) := by
  refine MetFree.of_bodySF (plainFor_of_name own_pn0) hisR ?_
  intro p e s m args below meth c s₁ Bd hml0 hP hK
  obtain ⟨rfl, hZ, hh⟩ := hP
  have hx := Bd.exec
  have hby := Bd.bytes
  have hlk := Bd.notSynchronized
  have hret := Bd.returns
  have hml : c.maxLocals = 2 := hml0
  have hown : s.vm.findClass "java/time/Duration" = some m.cls := findClass_of_methodNamed Bd.named
  have hnm := (name_of_methodNamed Bd.named Bd.method).1
  have X0 : Stand p l e ({ frames := 3, cells := 1, slots := 2, locals := 42 } : Room) s m #[(.long (1 : Int64))] below meth c s₁ [] 0 0 := Stand.of_body Bd
  have e0 : s₁.heap = h0 := by rw [← hh, Bd.state]; rfl
  have N0 := Fr.nil n0
  refine own_open (own_ef3 m ((1 : Int64))) ?_
  refine own_go (S' := (s₁.setTop (mkF m 1 #[.val (.long (1 : Int64)), .second] [(.long (1 : Int64))]))) (fun _ k => XS.lloadN X0.here hx rfl (hb hby own_d_jdk_2316_method_4_0) rfl  k) ?_
  refine own_go (S' := (s₁.setTop (mkF m 2 #[.val (.long (1 : Int64)), .second] [(.int (0 : Int32)), (.long (1 : Int64))]))) (fun _ k => XS.iconst X0.here hx rfl (hb hby own_d_jdk_2316_method_4_1) k) ?_
  obtain ⟨_, _, ⟨T1, L1, k1, n1⟩, -, X1, ⟨Lc1, hQ1, l1, y1, z1⟩, st1⟩ := Jvm.LawKit.callS X0 hx (y := (⟨"java/time/Duration", "create", "(JI)Ljava/time/Duration;"⟩ : MethodName)) hown (mvT hZ (hw _ (List.mem_of_getElem? (i := 9) rfl))) (mvT hZ (hw _ (List.mem_of_getElem? (i := 10) rfl))) (mvT hZ (hw _ (List.mem_of_getElem? (i := 7) rfl))) (mvT hZ (hw _ (List.mem_of_getElem? (i := 11) rfl))) (by decide) (backOf (W := 0) (own_cr1 l Z a0 hw h0 n0 Z0) hZ (hw _ (List.mem_of_getElem? (i := 11) rfl)) (hw _ (List.mem_of_getElem? (i := 7) rfl)) (by decide) (by decide)) (g := (mkF m 2 #[.val (.long (1 : Int64)), .second] [(.int (0 : Int32)), (.long (1 : Int64))])) rfl (by rw [hml]; rfl) (argsL := [(.long (1 : Int64)), (.int (0 : Int32))]) (rest := []) (lenOf own_pd1 rfl) rfl (by show 2 * 0 + _ ≤ _; exact Nat.le_of_eq rfl) (hb hby own_d_jdk_2316_method_4_2) (fun _ _ => ⟨rfl, e0, (by decide : 0 + 1 ≤ _), (by decide : 0 + 2 ≤ _)⟩)
  dsimp only [Pt.U, Pt.locs, Pt.cells, Pt.slots] at X1 l1 y1 z1 st1 hQ1
  subst l1 y1 z1
  obtain ⟨d1, rfl, N1q, Kc1, Ec1, sc1⟩ := hQ1
  have N1 := Fr.app N0 N1q
  refine own_go (S' := (T1.setTop (mkF m 5 #[.val (.long (1 : Int64)), .second] [(.ref d1)]))) st1 ?_
  refine own_retA X1 hx hlk hret rfl rfl (hb hby own_d_jdk_2316_method_4_5) ?_ (by decide) (by decide)
  exact ⟨_, rfl, N1, Kc1, Ec1, sc1⟩
set_option maxRecDepth 65536 in
set_option maxHeartbeats 40000000 in
theorem own_cr2 (l : Launch) (Z : State) (a0 : Array Value) (hw : ∀ d ∈ tables_1, d.before a0 Z = true)   (h0 : Heap) (n0 : Nat) (Z0 : n0 ≤ h0.size)  :
    own_C l Z (⟨"java/time/Duration", "create", "(JI)Ljava/time/Duration;"⟩ : MethodName) jdk_2316_method_16_code 3 (some (.object "java/time/Duration")) [] ({ frames := 2, cells := 1, slots := 2, locals := 28 } : Room) #[(.long (2 : Int64)), (.int (0 : Int32))] h0 (own_Qd Z h0 n0) := by
  refine MetFree.of_bodySF (plainFor_of_name own_pn0) hisR ?_
  intro p e s m args below meth c s₁ Bd hml0 hP hK
  obtain ⟨rfl, hZ, hh⟩ := hP
  have hx := Bd.exec
  have hby := Bd.bytes
  have hlk := Bd.notSynchronized
  have hret := Bd.returns
  have hml : c.maxLocals = 3 := hml0
  have hown : s.vm.findClass "java/time/Duration" = some m.cls := findClass_of_methodNamed Bd.named
  have hnm := (name_of_methodNamed Bd.named Bd.method).1
  have X0 : Stand p l e ({ frames := 2, cells := 1, slots := 2, locals := 28 } : Room) s m #[(.long (2 : Int64)), (.int (0 : Int32))] below meth c s₁ [] 0 0 := Stand.of_body Bd
  have e0 : s₁.heap = h0 := by rw [← hh, Bd.state]; rfl
  have N0 := Fr.nil n0
  refine own_open (own_ef2 m ((2 : Int64)) ((0 : Int32))) ?_
  refine own_go (S' := (s₁.setTop (mkF m 1 #[.val (.long (2 : Int64)), .second, .val (.int (0 : Int32))] [(.long (2 : Int64))]))) (fun _ k => XS.lloadN X0.here hx rfl (hb hby own_d_jdk_2316_method_16_0) rfl  k) ?_
  refine own_go (S' := (s₁.setTop (mkF m 2 #[.val (.long (2 : Int64)), .second, .val (.int (0 : Int32))] [(.int (0 : Int32)), (.long (2 : Int64))]))) (fun _ k => XS.iloadN X0.here hx rfl (hb hby own_d_jdk_2316_method_16_1) rfl  k) ?_
  refine own_go (S' := (s₁.setTop (mkF m 3 #[.val (.long (2 : Int64)), .second, .val (.int (0 : Int32))] [(.long ((0 : Int32).toInt64)), (.long (2 : Int64))]))) (fun _ k => XS.i2l X0.here hx rfl (hb hby own_d_jdk_2316_method_16_2) rfl k) ?_
  refine own_go (S' := (s₁.setTop (mkF m 4 #[.val (.long (2 : Int64)), .second, .val (.int (0 : Int32))] [(.long ((2 : Int64) ||| ((0 : Int32).toInt64)))]))) (fun _ k => XS.lor X0.here hx rfl (hb hby own_d_jdk_2316_method_16_3) rfl k) ?_
  refine own_go (S' := (s₁.setTop (mkF m 5 #[.val (.long (2 : Int64)), .second, .val (.int (0 : Int32))] [(.long (0 : Int64)), (.long ((2 : Int64) ||| ((0 : Int32).toInt64)))]))) (fun _ k => XS.lconst X0.here hx rfl (hb hby own_d_jdk_2316_method_16_4) k) ?_
  refine own_go (S' := (s₁.setTop (mkF m 6 #[.val (.long (2 : Int64)), .second, .val (.int (0 : Int32))] [(.int (lcmpW ((2 : Int64) ||| ((0 : Int32).toInt64)) (0 : Int64)))]))) (fun _ k => XS.lcmp X0.here hx rfl (hb hby own_d_jdk_2316_method_16_5) rfl k) ?_
  refine own_go (S' := (s₁.setTop (mkF m 13 #[.val (.long (2 : Int64)), .second, .val (.int (0 : Int32))] []))) (fun _ k => XS.ifYes X0.here hx rfl (pc0 := 6) (pc' := 13) rfl (hb hby own_d_jdk_2316_method_16_6) rfl ((if0 _ _).trans (feq (by decide)).2) (by decide) (by decide) k) ?_
  obtain ⟨T1, h1, X1, e1, E1, A1, D1, -, st1⟩ := newO X0 hx hZ hown (hw _ (List.mem_of_getElem? (i := 12) rfl)) (hw _ (List.mem_of_getElem? (i := 13) rfl)) (hw _ (List.mem_of_getElem? (i := 7) rfl)) e0 (g := (mkF m 13 #[.val (.long (2 : Int64)), .second, .val (.int (0 : Int32))] [])) rfl (hb hby own_d_jdk_2316_method_16_13) (by decide) (by decide)
  obtain ⟨d, g1⟩ : ∃ z, z = h0.size := ⟨_, rfl⟩
  rw [← g1] at A1 D1 st1
  refine own_go (S' := (T1.setTop (mkF m 16 #[.val (.long (2 : Int64)), .second, .val (.int (0 : Int32))] [(.ref d)]))) st1 ?_
  have sz_d : h0.size ≤ d := Nat.le_trans (Keep.refl h0 []).1 (Nat.le_of_eq g1.symm)
  have gn_d : n0 ≤ d := Nat.le_trans Z0 sz_d
  have K1 := (Keep.refl h0 []).ext E1
  refine own_go (S' := (T1.setTop (mkF m 17 #[.val (.long (2 : Int64)), .second, .val (.int (0 : Int32))] [(.ref d), (.ref d)]))) (fun _ k => XS.dup X1.here hx rfl (hb hby own_d_jdk_2316_method_16_16) rfl rfl k) ?_
  refine own_go (S' := (T1.setTop (mkF m 18 #[.val (.long (2 : Int64)), .second, .val (.int (0 : Int32))] [(.long (2 : Int64)), (.ref d), (.ref d)]))) (fun _ k => XS.lloadN X1.here hx rfl (hb hby own_d_jdk_2316_method_16_17) rfl  k) ?_
  refine own_go (S' := (T1.setTop (mkF m 19 #[.val (.long (2 : Int64)), .second, .val (.int (0 : Int32))] [(.int (0 : Int32)), (.long (2 : Int64)), (.ref d), (.ref d)]))) (fun _ k => XS.iloadN X1.here hx rfl (hb hby own_d_jdk_2316_method_16_18) rfl  k) ?_
  obtain ⟨_, _, ⟨T3, L3, k3, n3⟩, -, X3, ⟨Lc3, hQ3, l3, y3, z3⟩, st3⟩ := X1.specialBack hx (y := (⟨"java/time/Duration", "<init>", "(JI)V"⟩ : MethodName)) rfl hown (mvT hZ (hw _ (List.mem_of_getElem? (i := 14) rfl))) (mvT hZ (hw _ (List.mem_of_getElem? (i := 15) rfl))) (mvT hZ (hw _ (List.mem_of_getElem? (i := 17) rfl))) (by decide) (backOf (W := 1) (own_dui l Z a0 hw d (2 : Int64) (0 : Int32) h1 n0 (Nat.le_trans Z0 K1.1) A1 (D1 (Or.inr (hw _ (List.mem_of_getElem? (i := 22) rfl))) (ty := .long) (by decide)) (D1 (Or.inr (hw _ (List.mem_of_getElem? (i := 24) rfl))) (ty := .int) (by decide)) gn_d) hZ (hw _ (List.mem_of_getElem? (i := 17) rfl)) (hw _ (List.mem_of_getElem? (i := 7) rfl)) (by decide) (by decide)) (g := (mkF m 19 #[.val (.long (2 : Int64)), .second, .val (.int (0 : Int32))] [(.int (0 : Int32)), (.long (2 : Int64)), (.ref d), (.ref d)])) rfl (by rw [hml]; rfl) (Steps.refl _) (a := d) (argsL := [(.long (2 : Int64)), (.int (0 : Int32))]) (rest := [(.ref d)]) (lenOf own_pd0 rfl) rfl (by show 2 * 0 + _ ≤ _; exact Nat.le_of_eq rfl) (hb hby own_d_jdk_2316_method_16_19) (fun _ _ => ⟨rfl, e1, (by decide : 1 + 0 ≤ _), (by decide : 2 + 0 ≤ _)⟩)
  dsimp only [Pt.U, Pt.locs, Pt.cells, Pt.slots] at X3 l3 y3 z3 st3 hQ3
  subst l3 y3 z3
  obtain ⟨rfl, N3q, Kc3⟩ := hQ3
  have N3 := Fr.app N0 N3q
  refine own_via (S' := (T3.setTop (mkF m 22 #[.val (.long (2 : Int64)), .second, .val (.int (0 : Int32))] [(.ref d)]))) st3 ?_
  have c4_E_d := A1.keep Kc3
  have K3x := K1.trans Kc3 (allS (Or.inr sz_d) all0)
  refine own_retA X3 hx hlk hret rfl rfl (hb hby own_d_jdk_2316_method_16_22) ?_ (by decide) (by decide)
  exact ⟨_, rfl, N3, K3x, c4_E_d, sz_d⟩
set_option maxRecDepth 65536 in
set_option maxHeartbeats 40000000 in
theorem own_os2 (l : Launch) (Z : State) (a0 : Array Value) (hw : ∀ d ∈ tables_1, d.before a0 Z = true)   (h0 : Heap) (n0 : Nat) (Z0 : n0 ≤ h0.size)  :
    own_C l Z (⟨"java/time/Duration", "ofSeconds", "(J)Ljava/time/Duration;"⟩ : MethodName) jdk_2316_method_4_code 2 (some (.object "java/time/Duration")) [] ({ frames := 3, cells := 1, slots := 2, locals := 42 } : Room) #[(.long (2 : Int64))] h0 (own_Qd Z h0 n0) := by
  refine MetFree.of_bodySF (plainFor_of_name own_pn0) hisR ?_
  intro p e s m args below meth c s₁ Bd hml0 hP hK
  obtain ⟨rfl, hZ, hh⟩ := hP
  have hx := Bd.exec
  have hby := Bd.bytes
  have hlk := Bd.notSynchronized
  have hret := Bd.returns
  have hml : c.maxLocals = 2 := hml0
  have hown : s.vm.findClass "java/time/Duration" = some m.cls := findClass_of_methodNamed Bd.named
  have hnm := (name_of_methodNamed Bd.named Bd.method).1
  have X0 : Stand p l e ({ frames := 3, cells := 1, slots := 2, locals := 42 } : Room) s m #[(.long (2 : Int64))] below meth c s₁ [] 0 0 := Stand.of_body Bd
  have e0 : s₁.heap = h0 := by rw [← hh, Bd.state]; rfl
  have N0 := Fr.nil n0
  refine own_open (own_ef3 m ((2 : Int64))) ?_
  refine own_go (S' := (s₁.setTop (mkF m 1 #[.val (.long (2 : Int64)), .second] [(.long (2 : Int64))]))) (fun _ k => XS.lloadN X0.here hx rfl (hb hby own_d_jdk_2316_method_4_0) rfl  k) ?_
  refine own_go (S' := (s₁.setTop (mkF m 2 #[.val (.long (2 : Int64)), .second] [(.int (0 : Int32)), (.long (2 : Int64))]))) (fun _ k => XS.iconst X0.here hx rfl (hb hby own_d_jdk_2316_method_4_1) k) ?_
  obtain ⟨_, _, ⟨T1, L1, k1, n1⟩, -, X1, ⟨Lc1, hQ1, l1, y1, z1⟩, st1⟩ := Jvm.LawKit.callS X0 hx (y := (⟨"java/time/Duration", "create", "(JI)Ljava/time/Duration;"⟩ : MethodName)) hown (mvT hZ (hw _ (List.mem_of_getElem? (i := 9) rfl))) (mvT hZ (hw _ (List.mem_of_getElem? (i := 10) rfl))) (mvT hZ (hw _ (List.mem_of_getElem? (i := 7) rfl))) (mvT hZ (hw _ (List.mem_of_getElem? (i := 11) rfl))) (by decide) (backOf (W := 0) (own_cr2 l Z a0 hw h0 n0 Z0) hZ (hw _ (List.mem_of_getElem? (i := 11) rfl)) (hw _ (List.mem_of_getElem? (i := 7) rfl)) (by decide) (by decide)) (g := (mkF m 2 #[.val (.long (2 : Int64)), .second] [(.int (0 : Int32)), (.long (2 : Int64))])) rfl (by rw [hml]; rfl) (argsL := [(.long (2 : Int64)), (.int (0 : Int32))]) (rest := []) (lenOf own_pd1 rfl) rfl (by show 2 * 0 + _ ≤ _; exact Nat.le_of_eq rfl) (hb hby own_d_jdk_2316_method_4_2) (fun _ _ => ⟨rfl, e0, (by decide : 0 + 1 ≤ _), (by decide : 0 + 2 ≤ _)⟩)
  dsimp only [Pt.U, Pt.locs, Pt.cells, Pt.slots] at X1 l1 y1 z1 st1 hQ1
  subst l1 y1 z1
  obtain ⟨d1, rfl, N1q, Kc1, Ec1, sc1⟩ := hQ1
  have N1 := Fr.app N0 N1q
  refine own_go (S' := (T1.setTop (mkF m 5 #[.val (.long (2 : Int64)), .second] [(.ref d1)]))) st1 ?_
  refine own_retA X1 hx hlk hret rfl rfl (hb hby own_d_jdk_2316_method_4_5) ?_ (by decide) (by decide)
  exact ⟨_, rfl, N1, Kc1, Ec1, sc1⟩
set_option maxRecDepth 65536 in
set_option maxHeartbeats 40000000 in
theorem own_cr3 (l : Launch) (Z : State) (a0 : Array Value) (hw : ∀ d ∈ tables_1, d.before a0 Z = true)   (h0 : Heap) (n0 : Nat) (Z0 : n0 ≤ h0.size)  :
    own_C l Z (⟨"java/time/Duration", "create", "(JI)Ljava/time/Duration;"⟩ : MethodName) jdk_2316_method_16_code 3 (some (.object "java/time/Duration")) [] ({ frames := 2, cells := 1, slots := 2, locals := 28 } : Room) #[(.long (3 : Int64)), (.int (0 : Int32))] h0 (own_Qd Z h0 n0) := by
  refine MetFree.of_bodySF (plainFor_of_name own_pn0) hisR ?_
  intro p e s m args below meth c s₁ Bd hml0 hP hK
  obtain ⟨rfl, hZ, hh⟩ := hP
  have hx := Bd.exec
  have hby := Bd.bytes
  have hlk := Bd.notSynchronized
  have hret := Bd.returns
  have hml : c.maxLocals = 3 := hml0
  have hown : s.vm.findClass "java/time/Duration" = some m.cls := findClass_of_methodNamed Bd.named
  have hnm := (name_of_methodNamed Bd.named Bd.method).1
  have X0 : Stand p l e ({ frames := 2, cells := 1, slots := 2, locals := 28 } : Room) s m #[(.long (3 : Int64)), (.int (0 : Int32))] below meth c s₁ [] 0 0 := Stand.of_body Bd
  have e0 : s₁.heap = h0 := by rw [← hh, Bd.state]; rfl
  have N0 := Fr.nil n0
  refine own_open (own_ef2 m ((3 : Int64)) ((0 : Int32))) ?_
  refine own_go (S' := (s₁.setTop (mkF m 1 #[.val (.long (3 : Int64)), .second, .val (.int (0 : Int32))] [(.long (3 : Int64))]))) (fun _ k => XS.lloadN X0.here hx rfl (hb hby own_d_jdk_2316_method_16_0) rfl  k) ?_
  refine own_go (S' := (s₁.setTop (mkF m 2 #[.val (.long (3 : Int64)), .second, .val (.int (0 : Int32))] [(.int (0 : Int32)), (.long (3 : Int64))]))) (fun _ k => XS.iloadN X0.here hx rfl (hb hby own_d_jdk_2316_method_16_1) rfl  k) ?_
  refine own_go (S' := (s₁.setTop (mkF m 3 #[.val (.long (3 : Int64)), .second, .val (.int (0 : Int32))] [(.long ((0 : Int32).toInt64)), (.long (3 : Int64))]))) (fun _ k => XS.i2l X0.here hx rfl (hb hby own_d_jdk_2316_method_16_2) rfl k) ?_
  refine own_go (S' := (s₁.setTop (mkF m 4 #[.val (.long (3 : Int64)), .second, .val (.int (0 : Int32))] [(.long ((3 : Int64) ||| ((0 : Int32).toInt64)))]))) (fun _ k => XS.lor X0.here hx rfl (hb hby own_d_jdk_2316_method_16_3) rfl k) ?_
  refine own_go (S' := (s₁.setTop (mkF m 5 #[.val (.long (3 : Int64)), .second, .val (.int (0 : Int32))] [(.long (0 : Int64)), (.long ((3 : Int64) ||| ((0 : Int32).toInt64)))]))) (fun _ k => XS.lconst X0.here hx rfl (hb hby own_d_jdk_2316_method_16_4) k) ?_
  refine own_go (S' := (s₁.setTop (mkF m 6 #[.val (.long (3 : Int64)), .second, .val (.int (0 : Int32))] [(.int (lcmpW ((3 : Int64) ||| ((0 : Int32).toInt64)) (0 : Int64)))]))) (fun _ k => XS.lcmp X0.here hx rfl (hb hby own_d_jdk_2316_method_16_5) rfl k) ?_
  refine own_go (S' := (s₁.setTop (mkF m 13 #[.val (.long (3 : Int64)), .second, .val (.int (0 : Int32))] []))) (fun _ k => XS.ifYes X0.here hx rfl (pc0 := 6) (pc' := 13) rfl (hb hby own_d_jdk_2316_method_16_6) rfl ((if0 _ _).trans (feq (by decide)).2) (by decide) (by decide) k) ?_
  obtain ⟨T1, h1, X1, e1, E1, A1, D1, -, st1⟩ := newO X0 hx hZ hown (hw _ (List.mem_of_getElem? (i := 12) rfl)) (hw _ (List.mem_of_getElem? (i := 13) rfl)) (hw _ (List.mem_of_getElem? (i := 7) rfl)) e0 (g := (mkF m 13 #[.val (.long (3 : Int64)), .second, .val (.int (0 : Int32))] [])) rfl (hb hby own_d_jdk_2316_method_16_13) (by decide) (by decide)
  obtain ⟨d, g1⟩ : ∃ z, z = h0.size := ⟨_, rfl⟩
  rw [← g1] at A1 D1 st1
  refine own_go (S' := (T1.setTop (mkF m 16 #[.val (.long (3 : Int64)), .second, .val (.int (0 : Int32))] [(.ref d)]))) st1 ?_
  have sz_d : h0.size ≤ d := Nat.le_trans (Keep.refl h0 []).1 (Nat.le_of_eq g1.symm)
  have gn_d : n0 ≤ d := Nat.le_trans Z0 sz_d
  have K1 := (Keep.refl h0 []).ext E1
  refine own_go (S' := (T1.setTop (mkF m 17 #[.val (.long (3 : Int64)), .second, .val (.int (0 : Int32))] [(.ref d), (.ref d)]))) (fun _ k => XS.dup X1.here hx rfl (hb hby own_d_jdk_2316_method_16_16) rfl rfl k) ?_
  refine own_go (S' := (T1.setTop (mkF m 18 #[.val (.long (3 : Int64)), .second, .val (.int (0 : Int32))] [(.long (3 : Int64)), (.ref d), (.ref d)]))) (fun _ k => XS.lloadN X1.here hx rfl (hb hby own_d_jdk_2316_method_16_17) rfl  k) ?_
  refine own_go (S' := (T1.setTop (mkF m 19 #[.val (.long (3 : Int64)), .second, .val (.int (0 : Int32))] [(.int (0 : Int32)), (.long (3 : Int64)), (.ref d), (.ref d)]))) (fun _ k => XS.iloadN X1.here hx rfl (hb hby own_d_jdk_2316_method_16_18) rfl  k) ?_
  obtain ⟨_, _, ⟨T3, L3, k3, n3⟩, -, X3, ⟨Lc3, hQ3, l3, y3, z3⟩, st3⟩ := X1.specialBack hx (y := (⟨"java/time/Duration", "<init>", "(JI)V"⟩ : MethodName)) rfl hown (mvT hZ (hw _ (List.mem_of_getElem? (i := 14) rfl))) (mvT hZ (hw _ (List.mem_of_getElem? (i := 15) rfl))) (mvT hZ (hw _ (List.mem_of_getElem? (i := 17) rfl))) (by decide) (backOf (W := 1) (own_dui l Z a0 hw d (3 : Int64) (0 : Int32) h1 n0 (Nat.le_trans Z0 K1.1) A1 (D1 (Or.inr (hw _ (List.mem_of_getElem? (i := 22) rfl))) (ty := .long) (by decide)) (D1 (Or.inr (hw _ (List.mem_of_getElem? (i := 24) rfl))) (ty := .int) (by decide)) gn_d) hZ (hw _ (List.mem_of_getElem? (i := 17) rfl)) (hw _ (List.mem_of_getElem? (i := 7) rfl)) (by decide) (by decide)) (g := (mkF m 19 #[.val (.long (3 : Int64)), .second, .val (.int (0 : Int32))] [(.int (0 : Int32)), (.long (3 : Int64)), (.ref d), (.ref d)])) rfl (by rw [hml]; rfl) (Steps.refl _) (a := d) (argsL := [(.long (3 : Int64)), (.int (0 : Int32))]) (rest := [(.ref d)]) (lenOf own_pd0 rfl) rfl (by show 2 * 0 + _ ≤ _; exact Nat.le_of_eq rfl) (hb hby own_d_jdk_2316_method_16_19) (fun _ _ => ⟨rfl, e1, (by decide : 1 + 0 ≤ _), (by decide : 2 + 0 ≤ _)⟩)
  dsimp only [Pt.U, Pt.locs, Pt.cells, Pt.slots] at X3 l3 y3 z3 st3 hQ3
  subst l3 y3 z3
  obtain ⟨rfl, N3q, Kc3⟩ := hQ3
  have N3 := Fr.app N0 N3q
  refine own_via (S' := (T3.setTop (mkF m 22 #[.val (.long (3 : Int64)), .second, .val (.int (0 : Int32))] [(.ref d)]))) st3 ?_
  have c4_E_d := A1.keep Kc3
  have K3x := K1.trans Kc3 (allS (Or.inr sz_d) all0)
  refine own_retA X3 hx hlk hret rfl rfl (hb hby own_d_jdk_2316_method_16_22) ?_ (by decide) (by decide)
  exact ⟨_, rfl, N3, K3x, c4_E_d, sz_d⟩
set_option maxRecDepth 65536 in
set_option maxHeartbeats 40000000 in
theorem own_os3 (l : Launch) (Z : State) (a0 : Array Value) (hw : ∀ d ∈ tables_1, d.before a0 Z = true)   (h0 : Heap) (n0 : Nat) (Z0 : n0 ≤ h0.size)  :
    own_C l Z (⟨"java/time/Duration", "ofSeconds", "(J)Ljava/time/Duration;"⟩ : MethodName) jdk_2316_method_4_code 2 (some (.object "java/time/Duration")) [] ({ frames := 3, cells := 1, slots := 2, locals := 42 } : Room) #[(.long (3 : Int64))] h0 (own_Qd Z h0 n0) := by
  refine MetFree.of_bodySF (plainFor_of_name own_pn0) hisR ?_
  intro p e s m args below meth c s₁ Bd hml0 hP hK
  obtain ⟨rfl, hZ, hh⟩ := hP
  have hx := Bd.exec
  have hby := Bd.bytes
  have hlk := Bd.notSynchronized
  have hret := Bd.returns
  have hml : c.maxLocals = 2 := hml0
  have hown : s.vm.findClass "java/time/Duration" = some m.cls := findClass_of_methodNamed Bd.named
  have hnm := (name_of_methodNamed Bd.named Bd.method).1
  have X0 : Stand p l e ({ frames := 3, cells := 1, slots := 2, locals := 42 } : Room) s m #[(.long (3 : Int64))] below meth c s₁ [] 0 0 := Stand.of_body Bd
  have e0 : s₁.heap = h0 := by rw [← hh, Bd.state]; rfl
  have N0 := Fr.nil n0
  refine own_open (own_ef3 m ((3 : Int64))) ?_
  refine own_go (S' := (s₁.setTop (mkF m 1 #[.val (.long (3 : Int64)), .second] [(.long (3 : Int64))]))) (fun _ k => XS.lloadN X0.here hx rfl (hb hby own_d_jdk_2316_method_4_0) rfl  k) ?_
  refine own_go (S' := (s₁.setTop (mkF m 2 #[.val (.long (3 : Int64)), .second] [(.int (0 : Int32)), (.long (3 : Int64))]))) (fun _ k => XS.iconst X0.here hx rfl (hb hby own_d_jdk_2316_method_4_1) k) ?_
  obtain ⟨_, _, ⟨T1, L1, k1, n1⟩, -, X1, ⟨Lc1, hQ1, l1, y1, z1⟩, st1⟩ := Jvm.LawKit.callS X0 hx (y := (⟨"java/time/Duration", "create", "(JI)Ljava/time/Duration;"⟩ : MethodName)) hown (mvT hZ (hw _ (List.mem_of_getElem? (i := 9) rfl))) (mvT hZ (hw _ (List.mem_of_getElem? (i := 10) rfl))) (mvT hZ (hw _ (List.mem_of_getElem? (i := 7) rfl))) (mvT hZ (hw _ (List.mem_of_getElem? (i := 11) rfl))) (by decide) (backOf (W := 0) (own_cr3 l Z a0 hw h0 n0 Z0) hZ (hw _ (List.mem_of_getElem? (i := 11) rfl)) (hw _ (List.mem_of_getElem? (i := 7) rfl)) (by decide) (by decide)) (g := (mkF m 2 #[.val (.long (3 : Int64)), .second] [(.int (0 : Int32)), (.long (3 : Int64))])) rfl (by rw [hml]; rfl) (argsL := [(.long (3 : Int64)), (.int (0 : Int32))]) (rest := []) (lenOf own_pd1 rfl) rfl (by show 2 * 0 + _ ≤ _; exact Nat.le_of_eq rfl) (hb hby own_d_jdk_2316_method_4_2) (fun _ _ => ⟨rfl, e0, (by decide : 0 + 1 ≤ _), (by decide : 0 + 2 ≤ _)⟩)
  dsimp only [Pt.U, Pt.locs, Pt.cells, Pt.slots] at X1 l1 y1 z1 st1 hQ1
  subst l1 y1 z1
  obtain ⟨d1, rfl, N1q, Kc1, Ec1, sc1⟩ := hQ1
  have N1 := Fr.app N0 N1q
  refine own_go (S' := (T1.setTop (mkF m 5 #[.val (.long (3 : Int64)), .second] [(.ref d1)]))) st1 ?_
  refine own_retA X1 hx hlk hret rfl rfl (hb hby own_d_jdk_2316_method_4_5) ?_ (by decide) (by decide)
  exact ⟨_, rfl, N1, Kc1, Ec1, sc1⟩
set_option maxRecDepth 65536 in
set_option maxHeartbeats 40000000 in
theorem own_aci (l : Launch) (Z : State) (a0 : Array Value) (hw : ∀ d ∈ tables_1, d.before a0 Z = true) (a : Addr)  (h0 : Heap) (n0 : Nat) (Z0 : n0 ≤ h0.size)  :
    own_C l Z (⟨"java/util/AbstractCollection", "<init>", "()V"⟩ : MethodName) jdk_22_method_1_code 1 none [] ({ frames := 1, cells := 0, slots := 0, locals := 12 } : Room) #[(.ref a)] h0 (own_Qn h0 n0) := by
  refine MetFree.of_bodySF (plainFor_of_name own_pn1) hisR ?_
  intro p e s m args below meth c s₁ Bd hml0 hP hK
  obtain ⟨rfl, hZ, hh⟩ := hP
  have hx := Bd.exec
  have hby := Bd.bytes
  have hlk := Bd.notSynchronized
  have hret := Bd.returns
  have hml : c.maxLocals = 1 := hml0
  have hown : s.vm.findClass "java/util/AbstractCollection" = some m.cls := findClass_of_methodNamed Bd.named
  have hnm := (name_of_methodNamed Bd.named Bd.method).1
  have X0 : Stand p l e ({ frames := 1, cells := 0, slots := 0, locals := 12 } : Room) s m #[(.ref a)] below meth c s₁ [] 0 0 := Stand.of_body Bd
  have e0 : s₁.heap = h0 := by rw [← hh, Bd.state]; rfl
  have N0 := Fr.nil n0
  refine own_open (own_ef4 m a) ?_
  refine own_go (S' := (s₁.setTop (mkF m 1 #[.val (.ref a)] [(.ref a)]))) (fun _ k => XS.aloadN X0.here hx rfl (hb hby own_d_jdk_22_method_1_0) rfl rfl  k) ?_
  obtain ⟨T1, X1, e1, st1⟩ := initO X0 hx hZ hown (hw _ (List.mem_of_getElem? (i := 45) rfl)) (hw _ (List.mem_of_getElem? (i := 19) rfl)) (hw _ (List.mem_of_getElem? (i := 20) rfl)) e0 (g := (mkF m 1 #[.val (.ref a)] [(.ref a)])) rfl (by rw [hml]; rfl) rfl (hb hby own_d_jdk_22_method_1_1) (by decide) (W := 0) (by show 2 * 0 + _ ≤ _; exact Nat.le_of_eq rfl) (by decide)
  refine own_go (S' := (T1.setTop (mkF m 4 #[.val (.ref a)] []))) st1 ?_
  refine own_retV X1 hx hlk hret (hb hby own_d_jdk_22_method_1_4) ?_ (by decide) (by decide)
  rw [e1]
  exact ⟨rfl, N0, rfl⟩
set_option maxRecDepth 65536 in
set_option maxHeartbeats 40000000 in
theorem own_ali (l : Launch) (Z : State) (a0 : Array Value) (hw : ∀ d ∈ tables_1, d.before a0 Z = true) (a : Addr)  (h0 : Heap) (n0 : Nat) (Z0 : n0 ≤ h0.size) (E_a : Exa Z h0 a "java/util/ArrayList") (Fm : Fld Z h0 a "java/util/AbstractList" "modCount" "I" (.int 0)) (Fe : Fld Z h0 a "java/util/ArrayList" "elementData" "[Ljava/lang/Object;" .null) (Fs : Fld Z h0 a "java/util/ArrayList" "size" "I" (.int 0)) (g : n0 ≤ a) :
    own_C l Z (⟨"java/util/AbstractList", "<init>", "()V"⟩ : MethodName) jdk_39_method_1_code 1 none [] ({ frames := 2, cells := 0, slots := 0, locals := 24 } : Room) #[(.ref a)] h0 (own_Qi Z a h0 n0) := by
  refine MetFree.of_bodySF (plainFor_of_name own_pn2) hisR ?_
  intro p e s m args below meth c s₁ Bd hml0 hP hK
  obtain ⟨rfl, hZ, hh⟩ := hP
  have hx := Bd.exec
  have hby := Bd.bytes
  have hlk := Bd.notSynchronized
  have hret := Bd.returns
  have hml : c.maxLocals = 1 := hml0
  have hown : s.vm.findClass "java/util/AbstractList" = some m.cls := findClass_of_methodNamed Bd.named
  have hnm := (name_of_methodNamed Bd.named Bd.method).1
  have X0 : Stand p l e ({ frames := 2, cells := 0, slots := 0, locals := 24 } : Room) s m #[(.ref a)] below meth c s₁ [] 0 0 := Stand.of_body Bd
  have e0 : s₁.heap = h0 := by rw [← hh, Bd.state]; rfl
  have N0 := Fr.nil n0
  refine own_open (own_ef4 m a) ?_
  refine own_go (S' := (s₁.setTop (mkF m 1 #[.val (.ref a)] [(.ref a)]))) (fun _ k => XS.aloadN X0.here hx rfl (hb hby own_d_jdk_39_method_1_0) rfl rfl  k) ?_
  obtain ⟨_, _, ⟨T1, L1, k1, n1⟩, -, X1, ⟨Lc1, hQ1, l1, y1, z1⟩, st1⟩ := X0.specialBack hx (y := (⟨"java/util/AbstractCollection", "<init>", "()V"⟩ : MethodName)) rfl hown (mvT hZ (hw _ (List.mem_of_getElem? (i := 39) rfl))) (mvT hZ (hw _ (List.mem_of_getElem? (i := 40) rfl))) (mvT hZ (hw _ (List.mem_of_getElem? (i := 44) rfl))) (by decide) (backOf (W := 0) (own_aci l Z a0 hw a h0 n0 Z0) hZ (hw _ (List.mem_of_getElem? (i := 44) rfl)) (hw _ (List.mem_of_getElem? (i := 43) rfl)) (by decide) (by decide)) (g := (mkF m 1 #[.val (.ref a)] [(.ref a)])) rfl (by rw [hml]; rfl) (Steps.refl _) (a := a) (argsL := []) (rest := []) (lenOf own_pd2 rfl) rfl (by show 2 * 0 + _ ≤ _; exact Nat.le_of_eq rfl) (hb hby own_d_jdk_39_method_1_1) (fun _ _ => ⟨rfl, e0, (by decide : 0 + 0 ≤ _), (by decide : 0 + 0 ≤ _)⟩)
  dsimp only [Pt.U, Pt.locs, Pt.cells, Pt.slots] at X1 l1 y1 z1 st1 hQ1
  subst l1 y1 z1
  obtain ⟨rfl, N1q, hh1⟩ := hQ1
  have N1 := Fr.app N0 N1q
  refine own_via (S' := (T1.setTop (mkF m 4 #[.val (.ref a)] []))) st1 ?_
  refine own_go (S' := (T1.setTop (mkF m 5 #[.val (.ref a)] [(.ref a)]))) (fun _ k => XS.aloadN X1.here hx rfl (hb hby own_d_jdk_39_method_1_4) rfl rfl  k) ?_
  refine own_go (S' := (T1.setTop (mkF m 6 #[.val (.ref a)] [(.int (0 : Int32)), (.ref a)]))) (fun _ k => XS.iconst X1.here hx rfl (hb hby own_d_jdk_39_method_1_5) k) ?_
  obtain ⟨T2, h2, X2, e2, W2, st2⟩ := putF X1 hx hZ hown (host := "") (Or.inl (hw _ (List.mem_of_getElem? (i := 46) rfl))) Via.refl hh1 Fm E_a (Or.inl (hw _ (List.mem_of_getElem? (i := 47) rfl))) (hw _ (List.mem_of_getElem? (i := 28) rfl)) (ty := .int) (by decide) rfl rfl (g := (mkF m 6 #[.val (.ref a)] [(.int (0 : Int32)), (.ref a)])) rfl rfl (hb hby own_d_jdk_39_method_1_6)
  have N2 := Fr.snoc X2 N1 g
  refine own_go (S' := (T2.setTop (mkF m 9 #[.val (.ref a)] []))) st2 ?_
  have n2_Fm := Fm.same W2
  have c3_E_a := E_a.wr W2
  have c3_Fe := Fe.other W2 (Or.inr (slot_ne (Or.inl (hw _ (List.mem_of_getElem? (i := 50) rfl))) (Or.inl (hw _ (List.mem_of_getElem? (i := 47) rfl))) (by decide) (t := (.array (.object "java/lang/Object"))) (t' := .int) (by decide) (by decide)))
  have c3_Fs := Fs.other W2 (Or.inr (slot_ne (Or.inl (hw _ (List.mem_of_getElem? (i := 59) rfl))) (Or.inl (hw _ (List.mem_of_getElem? (i := 47) rfl))) (by decide) (t := .int) (t' := .int) (by decide) (by decide)))
  have K2 := (Keep.refl h0 [a]).wr W2 (Or.inl (List.mem_of_getElem? (i := 0) rfl))
  refine own_retV X2 hx hlk hret (hb hby own_d_jdk_39_method_1_9) ?_ (by decide) (by decide)
  rw [e2]
  exact ⟨rfl, N2, K2, c3_E_a, n2_Fm, c3_Fe, c3_Fs⟩
set_option maxRecDepth 65536 in
set_option maxHeartbeats 40000000 in
theorem own_ini (l : Launch) (Z : State) (a0 : Array Value) (hw : ∀ d ∈ tables_1, d.before a0 Z = true) (a : Addr) (dd : Addr) (h0 : Heap) (n0 : Nat) (Z0 : n0 ≤ h0.size) (E_a : Exa Z h0 a "java/util/ArrayList") (Fm : Fld Z h0 a "java/util/AbstractList" "modCount" "I" (.int 0)) (Fe : Fld Z h0 a "java/util/ArrayList" "elementData" "[Ljava/lang/Object;" .null) (Fs : Fld Z h0 a "java/util/ArrayList" "size" "I" (.int 0)) (SD : Sta Z h0 "java/util/ArrayList" "DEFAULTCAPACITY_EMPTY_ELEMENTDATA" "[Ljava/lang/Object;" (.ref dd)) (g : n0 ≤ a) :
    own_C l Z (⟨"java/util/ArrayList", "<init>", "()V"⟩ : MethodName) jdk_38_method_2_code 1 none [] ({ frames := 3, cells := 0, slots := 0, locals := 36 } : Room) #[(.ref a)] h0 (own_Qj Z a dd h0 n0) := by
  refine MetFree.of_bodySF (plainFor_of_name own_pn3) hisR ?_
  intro p e s m args below meth c s₁ Bd hml0 hP hK
  obtain ⟨rfl, hZ, hh⟩ := hP
  have hx := Bd.exec
  have hby := Bd.bytes
  have hlk := Bd.notSynchronized
  have hret := Bd.returns
  have hml : c.maxLocals = 1 := hml0
  have hown : s.vm.findClass "java/util/ArrayList" = some m.cls := findClass_of_methodNamed Bd.named
  have hnm := (name_of_methodNamed Bd.named Bd.method).1
  have X0 : Stand p l e ({ frames := 3, cells := 0, slots := 0, locals := 36 } : Room) s m #[(.ref a)] below meth c s₁ [] 0 0 := Stand.of_body Bd
  have e0 : s₁.heap = h0 := by rw [← hh, Bd.state]; rfl
  have N0 := Fr.nil n0
  refine own_open (own_ef4 m a) ?_
  refine own_go (S' := (s₁.setTop (mkF m 1 #[.val (.ref a)] [(.ref a)]))) (fun _ k => XS.aloadN X0.here hx rfl (hb hby own_d_jdk_38_method_2_0) rfl rfl  k) ?_
  obtain ⟨_, _, ⟨T1, L1, k1, n1⟩, -, X1, ⟨Lc1, hQ1, l1, y1, z1⟩, st1⟩ := X0.specialBack hx (y := (⟨"java/util/AbstractList", "<init>", "()V"⟩ : MethodName)) rfl hown (mvT hZ (hw _ (List.mem_of_getElem? (i := 33) rfl))) (mvT hZ (hw _ (List.mem_of_getElem? (i := 34) rfl))) (mvT hZ (hw _ (List.mem_of_getElem? (i := 38) rfl))) (by decide) (backOf (W := 0) (own_ali l Z a0 hw a h0 n0 Z0 E_a Fm Fe Fs g) hZ (hw _ (List.mem_of_getElem? (i := 38) rfl)) (hw _ (List.mem_of_getElem? (i := 37) rfl)) (by decide) (by decide)) (g := (mkF m 1 #[.val (.ref a)] [(.ref a)])) rfl (by rw [hml]; rfl) (Steps.refl _) (a := a) (argsL := []) (rest := []) (lenOf own_pd2 rfl) rfl (by show 2 * 0 + _ ≤ _; exact Nat.le_of_eq rfl) (hb hby own_d_jdk_38_method_2_1) (fun _ _ => ⟨rfl, e0, (by decide : 0 + 0 ≤ _), (by decide : 0 + 0 ≤ _)⟩)
  dsimp only [Pt.U, Pt.locs, Pt.cells, Pt.slots] at X1 l1 y1 z1 st1 hQ1
  subst l1 y1 z1
  obtain ⟨rfl, N1q, Kc1, E1a, F1m, F1e, F1s⟩ := hQ1
  have N1 := Fr.app N0 N1q
  refine own_via (S' := (T1.setTop (mkF m 4 #[.val (.ref a)] []))) st1 ?_
  have c2_SD := own_Sk SD Kc1 (allS E_a.own_nst all0)
  have K1x := (Keep.refl h0 [a]).trans Kc1 (allS (Or.inl (List.mem_of_getElem? (i := 0) rfl)) all0)
  refine own_go (S' := (T1.setTop (mkF m 5 #[.val (.ref a)] [(.ref a)]))) (fun _ k => XS.aloadN X1.here hx rfl (hb hby own_d_jdk_38_method_2_4) rfl rfl  k) ?_
  obtain ⟨T3, X3, e3, st3⟩ := getS2 X1 hx hZ hown (host := "") (Or.inl (hw _ (List.mem_of_getElem? (i := 48) rfl))) Via.refl rfl c2_SD (g := (mkF m 5 #[.val (.ref a)] [(.ref a)])) rfl (hb hby own_d_jdk_38_method_2_5)
  refine own_go (S' := (T3.setTop (mkF m 8 #[.val (.ref a)] [(.ref dd), (.ref a)]))) st3 ?_
  obtain ⟨T4, h4, X4, e4, W4, st4⟩ := putF X3 hx hZ hown (host := "") (Or.inl (hw _ (List.mem_of_getElem? (i := 49) rfl))) Via.refl e3 F1e E1a (Or.inl (hw _ (List.mem_of_getElem? (i := 50) rfl))) (hw _ (List.mem_of_getElem? (i := 28) rfl)) (ty := (.array (.object "java/lang/Object"))) (by decide) rfl rfl (g := (mkF m 8 #[.val (.ref a)] [(.ref dd), (.ref a)])) rfl rfl (hb hby own_d_jdk_38_method_2_8)
  have N4 := Fr.snoc X4 N1 g
  refine own_go (S' := (T4.setTop (mkF m 11 #[.val (.ref a)] []))) st4 ?_
  have n4_Fe := F1e.same W4
  have c5_SD := c2_SD.wr W4
  have c5_E_a := E1a.wr W4
  have c5_Fm := F1m.other W4 (Or.inr (slot_ne (Or.inl (hw _ (List.mem_of_getElem? (i := 47) rfl))) (Or.inl (hw _ (List.mem_of_getElem? (i := 50) rfl))) (by decide) (t := .int) (t' := (.array (.object "java/lang/Object"))) (by decide) (by decide)))
  have c5_Fs := F1s.other W4 (Or.inr (slot_ne (Or.inl (hw _ (List.mem_of_getElem? (i := 59) rfl))) (Or.inl (hw _ (List.mem_of_getElem? (i := 50) rfl))) (by decide) (t := .int) (t' := (.array (.object "java/lang/Object"))) (by decide) (by decide)))
  have K4 := K1x.wr W4 (Or.inl (List.mem_of_getElem? (i := 0) rfl))
  refine own_retV X4 hx hlk hret (hb hby own_d_jdk_38_method_2_11) ?_ (by decide) (by decide)
  rw [e4]
  exact ⟨rfl, N4, K4, ⟨c5_E_a, c5_Fm, n4_Fe, c5_Fs⟩⟩
set_option maxRecDepth 65536 in
set_option maxHeartbeats 40000000 in
theorem own_gr1 (l : Launch) (Z : State) (a0 : Array Value) (hw : ∀ d ∈ tables_1, d.before a0 Z = true) (a : Addr) (dd : Addr) (kd : ClassId) (mc : Int32) (h0 : Heap) (n0 : Nat) (Z0 : n0 ≤ h0.size) (E_a : Exa Z h0 a "java/util/ArrayList") (Fm : Fld Z h0 a "java/util/AbstractList" "modCount" "I" (.int mc)) (Fe : Fld Z h0 a "java/util/ArrayList" "elementData" "[Ljava/lang/Object;" (.ref dd)) (Fs : Fld Z h0 a "java/util/ArrayList" "size" "I" (.int 0)) (SD : Sta Z h0 "java/util/ArrayList" "DEFAULTCAPACITY_EMPTY_ELEMENTDATA" "[Ljava/lang/Object;" (.ref dd)) (Vd : Arv Z h0 dd kd (.object "java/lang/Object") 0 [] .null) (g : n0 ≤ a) (nd : a ≠ dd) :
    own_C l Z (⟨"java/util/ArrayList", "grow", "(I)[Ljava/lang/Object;"⟩ : MethodName) jdk_38_method_6_code 4 (some (.array (.object "java/lang/Object"))) [] ({ frames := 1, cells := 1, slots := 10, locals := 14 } : Room) #[(.ref a), (.int (1 : Int32))] h0 (own_Qg Z a mc h0 n0) := by
  refine MetFree.of_bodySF (plainFor_of_name own_pn3) hisR ?_
  intro p e s m args below meth c s₁ Bd hml0 hP hK
  obtain ⟨rfl, hZ, hh⟩ := hP
  have hx := Bd.exec
  have hby := Bd.bytes
  have hlk := Bd.notSynchronized
  have hret := Bd.returns
  have hml : c.maxLocals = 4 := hml0
  have hown : s.vm.findClass "java/util/ArrayList" = some m.cls := findClass_of_methodNamed Bd.named
  have hnm := (name_of_methodNamed Bd.named Bd.method).1
  have X0 : Stand p l e ({ frames := 1, cells := 1, slots := 10, locals := 14 } : Room) s m #[(.ref a), (.int (1 : Int32))] below meth c s₁ [] 0 0 := Stand.of_body Bd
  have e0 : s₁.heap = h0 := by rw [← hh, Bd.state]; rfl
  have N0 := Fr.nil n0
  refine own_open (own_ef5 m a ((1 : Int32))) ?_
  refine own_go (S' := (s₁.setTop (mkF m 1 #[.val (.ref a), .val (.int (1 : Int32)), .unset, .unset] [(.ref a)]))) (fun _ k => XS.aloadN X0.here hx rfl (hb hby own_d_jdk_38_method_6_0) rfl rfl  k) ?_
  obtain ⟨T1, X1, e1, st1⟩ := getF X0 hx hZ hown (host := "") (Or.inl (hw _ (List.mem_of_getElem? (i := 49) rfl))) Via.refl e0 Fe (g := (mkF m 1 #[.val (.ref a), .val (.int (1 : Int32)), .unset, .unset] [(.ref a)])) rfl rfl (hb hby own_d_jdk_38_method_6_1)
  refine own_go (S' := (T1.setTop (mkF m 4 #[.val (.ref a), .val (.int (1 : Int32)), .unset, .unset] [(.ref dd)]))) st1 ?_
  have vv2 := Vd
  obtain ⟨cl2, Ar2, qa2, Sz2, Ng2, Ha2, Ga2⟩ := vv2
  refine own_go (S' := (T1.setTop (mkF m 5 #[.val (.ref a), .val (.int (1 : Int32)), .unset, .unset] [(.int cl2.slots.size.toInt32)]))) (fun _ k => X1.arraylength hx (by rw [e1]; exact Ar2.1) (State.isArrayOf_alike hZ.alike Ar2.2.1) (g := (mkF m 4 #[.val (.ref a), .val (.int (1 : Int32)), .unset, .unset] [(.ref dd)])) rfl rfl (hb hby own_d_jdk_38_method_6_4) _ k) ?_
  rw [len_of Sz2 Ng2]
  refine own_go (S' := (T1.setTop (mkF m 6 #[.val (.ref a), .val (.int (1 : Int32)), .val (.int (0 : Int32)), .unset] []))) (fun _ k => XS.istoreN X1.here hx rfl (hb hby own_d_jdk_38_method_6_5) rfl (l' := #[.val (.ref a), .val (.int (1 : Int32)), .val (.int (0 : Int32)), .unset]) rfl k) ?_
  refine own_go (S' := (T1.setTop (mkF m 7 #[.val (.ref a), .val (.int (1 : Int32)), .val (.int (0 : Int32)), .unset] [(.int (0 : Int32))]))) (fun _ k => XS.iloadN X1.here hx rfl (hb hby own_d_jdk_38_method_6_6) rfl  k) ?_
  refine own_go (S' := (T1.setTop (mkF m 10 #[.val (.ref a), .val (.int (1 : Int32)), .val (.int (0 : Int32)), .unset] []))) (fun _ k => XS.ifNo X1.here hx rfl (hb hby own_d_jdk_38_method_6_7) rfl ((if0 _ _).trans (flt (by decide)).2.2.1) k) ?_
  refine own_go (S' := (T1.setTop (mkF m 11 #[.val (.ref a), .val (.int (1 : Int32)), .val (.int (0 : Int32)), .unset] [(.ref a)]))) (fun _ k => XS.aloadN X1.here hx rfl (hb hby own_d_jdk_38_method_6_10) rfl rfl  k) ?_
  obtain ⟨T3, X3, e3, st3⟩ := getF X1 hx hZ hown (host := "") (Or.inl (hw _ (List.mem_of_getElem? (i := 49) rfl))) Via.refl e1 Fe (g := (mkF m 11 #[.val (.ref a), .val (.int (1 : Int32)), .val (.int (0 : Int32)), .unset] [(.ref a)])) rfl rfl (hb hby own_d_jdk_38_method_6_11)
  refine own_go (S' := (T3.setTop (mkF m 14 #[.val (.ref a), .val (.int (1 : Int32)), .val (.int (0 : Int32)), .unset] [(.ref dd)]))) st3 ?_
  obtain ⟨T4, X4, e4, st4⟩ := getS2 X3 hx hZ hown (host := "") (Or.inl (hw _ (List.mem_of_getElem? (i := 48) rfl))) Via.refl e3 SD (g := (mkF m 14 #[.val (.ref a), .val (.int (1 : Int32)), .val (.int (0 : Int32)), .unset] [(.ref dd)])) rfl (hb hby own_d_jdk_38_method_6_14)
  refine own_go (S' := (T4.setTop (mkF m 17 #[.val (.ref a), .val (.int (1 : Int32)), .val (.int (0 : Int32)), .unset] [(.ref dd), (.ref dd)]))) st4 ?_
  refine own_go (S' := (T4.setTop (mkF m 45 #[.val (.ref a), .val (.int (1 : Int32)), .val (.int (0 : Int32)), .unset] []))) (fun _ k => Jvm.RoadKit.acmp (g := (mkF m 17 #[.val (.ref a), .val (.int (1 : Int32)), .val (.int (0 : Int32)), .unset] [(.ref dd), (.ref dd)])) X4 hx rfl rfl rfl (pc0 := 17) (pc' := 45) (same := true) rfl (hb hby own_d_jdk_38_method_6_17) rfl (decide_eq_true rfl) (by decide) (by decide) k) ?_
  refine own_go (S' := (T4.setTop (mkF m 46 #[.val (.ref a), .val (.int (1 : Int32)), .val (.int (0 : Int32)), .unset] [(.ref a)]))) (fun _ k => XS.aloadN X4.here hx rfl (hb hby own_d_jdk_38_method_6_45) rfl rfl  k) ?_
  refine own_go (S' := (T4.setTop (mkF m 48 #[.val (.ref a), .val (.int (1 : Int32)), .val (.int (0 : Int32)), .unset] [(.int (10 : Int32)), (.ref a)]))) (fun _ k => XS.bipush X4.here hx rfl (hb hby own_d_jdk_38_method_6_46) k) ?_
  refine own_go (S' := (T4.setTop (mkF m 49 #[.val (.ref a), .val (.int (1 : Int32)), .val (.int (0 : Int32)), .unset] [(.int (1 : Int32)), (.int (10 : Int32)), (.ref a)]))) (fun _ k => XS.iloadN X4.here hx rfl (hb hby own_d_jdk_38_method_6_48) rfl  k) ?_
  obtain ⟨_, _, ⟨T5, L5, k5, n5⟩, -, X5, ⟨Lc5, hQ5, l5, y5, z5⟩, st5⟩ := Jvm.LawKit.callS X4 hx (y := (⟨"java/lang/Math", "max", "(II)I"⟩ : MethodName)) hown (mvT hZ (hw _ (List.mem_of_getElem? (i := 75) rfl))) (mvT hZ (hw _ (List.mem_of_getElem? (i := 2) rfl))) (mvT hZ (hw _ (List.mem_of_getElem? (i := 3) rfl))) (mvT hZ (hw _ (List.mem_of_getElem? (i := 4) rfl))) (by decide) (backOf (W := 1) (own_max10 l Z a0 hw h0 n0 Z0) hZ (hw _ (List.mem_of_getElem? (i := 4) rfl)) (hw _ (List.mem_of_getElem? (i := 3) rfl)) (by decide) (by decide)) (g := (mkF m 49 #[.val (.ref a), .val (.int (1 : Int32)), .val (.int (0 : Int32)), .unset] [(.int (1 : Int32)), (.int (10 : Int32)), (.ref a)])) rfl (by rw [hml]; rfl) (argsL := [(.int (10 : Int32)), (.int (1 : Int32))]) (rest := [(.ref a)]) (lenOf own_pd3 rfl) rfl (by show 2 * 0 + _ ≤ _; exact Nat.le_of_eq rfl) (hb hby own_d_jdk_38_method_6_49) (fun _ _ => ⟨rfl, e4, (by decide : 0 + 0 ≤ _), (by decide : 0 + 0 ≤ _)⟩)
  dsimp only [Pt.U, Pt.locs, Pt.cells, Pt.slots] at X5 l5 y5 z5 st5 hQ5
  subst l5 y5 z5
  obtain ⟨rfl, N5q, hh5⟩ := hQ5
  have N5 := Fr.app N0 N5q
  refine own_go (S' := (T5.setTop (mkF m 52 #[.val (.ref a), .val (.int (1 : Int32)), .val (.int (0 : Int32)), .unset] [(.int (10 : Int32)), (.ref a)]))) st5 ?_
  obtain ⟨T6, h6, k6, X6, e6, E6, A6, Ex6, O6, st6⟩ := newRE X5 hx hZ hown (hw _ (List.mem_of_getElem? (i := 76) rfl)) (hw _ (List.mem_of_getElem? (i := 77) rfl)) hh5 (g := (mkF m 52 #[.val (.ref a), .val (.int (1 : Int32)), .val (.int (0 : Int32)), .unset] [(.int (10 : Int32)), (.ref a)])) rfl (hb hby own_d_jdk_38_method_6_52) rfl (by decide) (cap := 10) (by decide) (by decide) (by decide) (by decide) (ad := "[Ljava/lang/Object;") (by decide +kernel)
  obtain ⟨ea, g6⟩ : ∃ z, z = h0.size := ⟨_, rfl⟩
  rw [← g6] at A6 Ex6 st6
  have V6 : Arv Z h6 ea k6 (.object "java/lang/Object") (10 : Int32) [.null, .null, .null, .null, .null, .null, .null, .null, .null, .null] .null := (Arv.new A6 (by decide)).pad (pad_rep [] .null 10)
  refine own_go (S' := (T6.setTop (mkF m 55 #[.val (.ref a), .val (.int (1 : Int32)), .val (.int (0 : Int32)), .unset] [(.ref ea), (.ref a)]))) st6 ?_
  have sz_ea : h0.size ≤ ea := Nat.le_trans (Keep.refl h0 [a]).1 (Nat.le_of_eq g6.symm)
  have gn_ea : n0 ≤ ea := Nat.le_trans Z0 sz_ea
  have ne_a_ea : a ≠ ea := Nat.ne_of_lt (Nat.lt_of_lt_of_le E_a.lt (Nat.le_of_eq g6.symm))
  have ne_dd_ea : dd ≠ ea := Nat.ne_of_lt (Nat.lt_of_lt_of_le Vd.lt (Nat.le_of_eq g6.symm))
  have c7_E_a := E_a.ext E6
  have c7_Fm := Fm.ext E6
  have c7_Fe := Fe.ext E6
  have c7_Fs := Fs.ext E6
  have c7_SD := SD.ext E6
  have c7_Vd := Vd.ext E6
  have K6 := (Keep.refl h0 [a]).ext E6
  refine own_go (S' := (T6.setTop (mkF m 56 #[.val (.ref a), .val (.int (1 : Int32)), .val (.int (0 : Int32)), .unset] [(.ref ea), (.ref a), (.ref ea)]))) (fun _ k => XS.dupX1 X6.here hx rfl (hb hby own_d_jdk_38_method_6_55) rfl rfl rfl k) ?_
  obtain ⟨T8, h8, X8, e8, W8, st8⟩ := putF X6 hx hZ hown (host := "") (Or.inl (hw _ (List.mem_of_getElem? (i := 49) rfl))) Via.refl e6 c7_Fe c7_E_a (Or.inl (hw _ (List.mem_of_getElem? (i := 50) rfl))) (hw _ (List.mem_of_getElem? (i := 28) rfl)) (ty := (.array (.object "java/lang/Object"))) (by decide) rfl rfl (g := (mkF m 56 #[.val (.ref a), .val (.int (1 : Int32)), .val (.int (0 : Int32)), .unset] [(.ref ea), (.ref a), (.ref ea)])) rfl rfl (hb hby own_d_jdk_38_method_6_56)
  have N8 := Fr.snoc X8 N5 g
  refine own_go (S' := (T8.setTop (mkF m 59 #[.val (.ref a), .val (.int (1 : Int32)), .val (.int (0 : Int32)), .unset] [(.ref ea)]))) st8 ?_
  have n8_Fe := c7_Fe.same W8
  have c9_E_a := c7_E_a.wr W8
  have c9_Fm := c7_Fm.other W8 (Or.inr (slot_ne (Or.inl (hw _ (List.mem_of_getElem? (i := 47) rfl))) (Or.inl (hw _ (List.mem_of_getElem? (i := 50) rfl))) (by decide) (t := .int) (t' := (.array (.object "java/lang/Object"))) (by decide) (by decide)))
  have c9_Fs := c7_Fs.other W8 (Or.inr (slot_ne (Or.inl (hw _ (List.mem_of_getElem? (i := 59) rfl))) (Or.inl (hw _ (List.mem_of_getElem? (i := 50) rfl))) (by decide) (t := .int) (t' := (.array (.object "java/lang/Object"))) (by decide) (by decide)))
  have c9_SD := c7_SD.wr W8
  have c9_Vd := c7_Vd.other W8 (Ne.symm nd)
  have c9_V := V6.other W8 (Ne.symm ne_a_ea)
  have c9_Ex := Ex6.wr W8
  have K8 := K6.wr W8 (Or.inl (List.mem_of_getElem? (i := 0) rfl))
  refine own_retA X8 hx hlk hret rfl rfl (hb hby own_d_jdk_38_method_6_59) ?_ (by decide) (by decide)
  rw [e8]
  exact ⟨_, _, rfl, N8, K8, ⟨c9_E_a, c9_Fm, n8_Fe, c9_Fs⟩, c9_V, O6, c9_Ex, sz_ea⟩
set_option maxRecDepth 65536 in
set_option maxHeartbeats 40000000 in
theorem own_gr0 (l : Launch) (Z : State) (a0 : Array Value) (hw : ∀ d ∈ tables_1, d.before a0 Z = true) (a : Addr) (dd : Addr) (kd : ClassId) (mc : Int32) (h0 : Heap) (n0 : Nat) (Z0 : n0 ≤ h0.size) (E_a : Exa Z h0 a "java/util/ArrayList") (Fm : Fld Z h0 a "java/util/AbstractList" "modCount" "I" (.int mc)) (Fe : Fld Z h0 a "java/util/ArrayList" "elementData" "[Ljava/lang/Object;" (.ref dd)) (Fs : Fld Z h0 a "java/util/ArrayList" "size" "I" (.int 0)) (SD : Sta Z h0 "java/util/ArrayList" "DEFAULTCAPACITY_EMPTY_ELEMENTDATA" "[Ljava/lang/Object;" (.ref dd)) (Vd : Arv Z h0 dd kd (.object "java/lang/Object") 0 [] .null) (g : n0 ≤ a) (nd : a ≠ dd) :
    own_C l Z (⟨"java/util/ArrayList", "grow", "()[Ljava/lang/Object;"⟩ : MethodName) jdk_38_method_7_code 1 (some (.array (.object "java/lang/Object"))) [] ({ frames := 2, cells := 1, slots := 10, locals := 29 } : Room) #[(.ref a)] h0 (own_Qg Z a mc h0 n0) := by
  refine MetFree.of_bodySF (plainFor_of_name own_pn3) hisR ?_
  intro p e s m args below meth c s₁ Bd hml0 hP hK
  obtain ⟨rfl, hZ, hh⟩ := hP
  have hx := Bd.exec
  have hby := Bd.bytes
  have hlk := Bd.notSynchronized
  have hret := Bd.returns
  have hml : c.maxLocals = 1 := hml0
  have hown : s.vm.findClass "java/util/ArrayList" = some m.cls := findClass_of_methodNamed Bd.named
  have hnm := (name_of_methodNamed Bd.named Bd.method).1
  have X0 : Stand p l e ({ frames := 2, cells := 1, slots := 10, locals := 29 } : Room) s m #[(.ref a)] below meth c s₁ [] 0 0 := Stand.of_body Bd
  have e0 : s₁.heap = h0 := by rw [← hh, Bd.state]; rfl
  have N0 := Fr.nil n0
  refine own_open (own_ef4 m a) ?_
  refine own_go (S' := (s₁.setTop (mkF m 1 #[.val (.ref a)] [(.ref a)]))) (fun _ k => XS.aloadN X0.here hx rfl (hb hby own_d_jdk_38_method_7_0) rfl rfl  k) ?_
  refine own_go (S' := (s₁.setTop (mkF m 2 #[.val (.ref a)] [(.ref a), (.ref a)]))) (fun _ k => XS.aloadN X0.here hx rfl (hb hby own_d_jdk_38_method_7_1) rfl rfl  k) ?_
  obtain ⟨T1, X1, e1, st1⟩ := getF X0 hx hZ hown (host := "") (Or.inl (hw _ (List.mem_of_getElem? (i := 58) rfl))) Via.refl e0 Fs (g := (mkF m 2 #[.val (.ref a)] [(.ref a), (.ref a)])) rfl rfl (hb hby own_d_jdk_38_method_7_2)
  refine own_go (S' := (T1.setTop (mkF m 5 #[.val (.ref a)] [(.int (0 : Int32)), (.ref a)]))) st1 ?_
  refine own_go (S' := (T1.setTop (mkF m 6 #[.val (.ref a)] [(.int (1 : Int32)), (.int (0 : Int32)), (.ref a)]))) (fun _ k => XS.iconst X1.here hx rfl (hb hby own_d_jdk_38_method_7_5) k) ?_
  refine own_go (S' := (T1.setTop (mkF m 7 #[.val (.ref a)] [(.int (1 : Int32)), (.ref a)]))) (fun _ k => XS.iadd X1.here hx rfl (hb hby own_d_jdk_38_method_7_6) rfl k) ?_
  obtain ⟨cq2, q2, q2'⟩ := (E_a).cell
  obtain ⟨_, _, ⟨T2, L2, k2, n2⟩, -, X2, ⟨Lc2, hQ2, l2, y2, z2⟩, st2⟩ := X1.privateBack hx (y := (⟨"java/util/ArrayList", "grow", "(I)[Ljava/lang/Object;"⟩ : MethodName)) hown (mvT hZ (hw _ (List.mem_of_getElem? (i := 70) rfl))) (mvT hZ (hw _ (List.mem_of_getElem? (i := 71) rfl))) (mvT hZ (hw _ (List.mem_of_getElem? (i := 73) rfl))) (Cond.privateMethod_at (mvP hZ (hw _ (List.mem_of_getElem? (i := 72) rfl)) (args := #[]))) (mvT hZ (hw _ (List.mem_of_getElem? (i := 74) rfl))) (by decide) (backOf (W := 0) (own_gr1 l Z a0 hw a dd kd mc h0 n0 Z0 E_a Fm Fe Fs SD Vd g nd) hZ (hw _ (List.mem_of_getElem? (i := 74) rfl)) (hw _ (List.mem_of_getElem? (i := 29) rfl)) (by decide) (by decide)) (g := (mkF m 7 #[.val (.ref a)] [(.int (1 : Int32)), (.ref a)])) rfl (by rw [hml]; rfl) (Steps.refl _) (a := a) (by rw [e1]; exact q2) q2' (argsL := [(.int (1 : Int32))]) (rest := []) (lenOf own_pd4 rfl) rfl (by show 2 * 0 + _ ≤ _; exact Nat.le_of_eq rfl) (hb hby own_d_jdk_38_method_7_7) (fun _ _ => ⟨rfl, e1, (by decide : 0 + 1 ≤ _), (by decide : 0 + 10 ≤ _)⟩)
  dsimp only [Pt.U, Pt.locs, Pt.cells, Pt.slots] at X2 l2 y2 z2 st2 hQ2
  subst l2 y2 z2
  obtain ⟨e2, k2c, rfl, N2q, Kc2, A2c, V2c, O2c, X2c, s2c⟩ := hQ2
  have N2 := Fr.app N0 N2q
  refine own_via (S' := (T2.setTop (mkF m 10 #[.val (.ref a)] [(.ref e2)]))) st2 ?_
  refine own_retA X2 hx hlk hret rfl rfl (hb hby own_d_jdk_38_method_7_10) ?_ (by decide) (by decide)
  exact ⟨_, _, rfl, N2, Kc2, A2c, V2c, O2c, X2c, s2c⟩
set_option maxRecDepth 65536 in
set_option maxHeartbeats 40000000 in
theorem own_ad3f (l : Launch) (Z : State) (a0 : Array Value) (hw : ∀ d ∈ tables_1, d.before a0 Z = true) (a : Addr) (v1 : Addr) (dd : Addr) (kd : ClassId) (mc : Int32) (h0 : Heap) (n0 : Nat) (Z0 : n0 ≤ h0.size) (E_a : Exa Z h0 a "java/util/ArrayList") (Fm : Fld Z h0 a "java/util/AbstractList" "modCount" "I" (.int mc)) (Fe : Fld Z h0 a "java/util/ArrayList" "elementData" "[Ljava/lang/Object;" (.ref dd)) (Fs : Fld Z h0 a "java/util/ArrayList" "size" "I" (.int 0)) (SD : Sta Z h0 "java/util/ArrayList" "DEFAULTCAPACITY_EMPTY_ELEMENTDATA" "[Ljava/lang/Object;" (.ref dd)) (Vd : Arv Z h0 dd kd (.object "java/lang/Object") 0 [] .null) (Ev : Exa Z h0 v1 "java/time/Duration") (g : n0 ≤ a) (nd : a ≠ dd) :
    own_C l Z (⟨"java/util/ArrayList", "add", "(Ljava/lang/Object;[Ljava/lang/Object;I)V"⟩ : MethodName) jdk_38_method_24_code 4 none [] ({ frames := 3, cells := 1, slots := 10, locals := 41 } : Room) #[(.ref a), (.ref v1), (.ref dd), (.int (0 : Int32))] h0 (own_Qf Z none a v1 mc h0 n0) := by
  refine MetFree.of_bodySF (plainFor_of_name own_pn3) hisR ?_
  intro p e s m args below meth c s₁ Bd hml0 hP hK
  obtain ⟨rfl, hZ, hh⟩ := hP
  have hx := Bd.exec
  have hby := Bd.bytes
  have hlk := Bd.notSynchronized
  have hret := Bd.returns
  have hml : c.maxLocals = 4 := hml0
  have hown : s.vm.findClass "java/util/ArrayList" = some m.cls := findClass_of_methodNamed Bd.named
  have hnm := (name_of_methodNamed Bd.named Bd.method).1
  have X0 : Stand p l e ({ frames := 3, cells := 1, slots := 10, locals := 41 } : Room) s m #[(.ref a), (.ref v1), (.ref dd), (.int (0 : Int32))] below meth c s₁ [] 0 0 := Stand.of_body Bd
  have e0 : s₁.heap = h0 := by rw [← hh, Bd.state]; rfl
  have N0 := Fr.nil n0
  refine own_open (own_ef6 m a v1 dd ((0 : Int32))) ?_
  refine own_go (S' := (s₁.setTop (mkF m 1 #[.val (.ref a), .val (.ref v1), .val (.ref dd), .val (.int (0 : Int32))] [(.int (0 : Int32))]))) (fun _ k => XS.iloadN X0.here hx rfl (hb hby own_d_jdk_38_method_24_0) rfl  k) ?_
  refine own_go (S' := (s₁.setTop (mkF m 2 #[.val (.ref a), .val (.ref v1), .val (.ref dd), .val (.int (0 : Int32))] [(.ref dd), (.int (0 : Int32))]))) (fun _ k => XS.aloadN X0.here hx rfl (hb hby own_d_jdk_38_method_24_1) rfl rfl  k) ?_
  have vv1 := Vd
  obtain ⟨cl1, Ar1, qa1, Sz1, Ng1, Ha1, Ga1⟩ := vv1
  refine own_go (S' := (s₁.setTop (mkF m 3 #[.val (.ref a), .val (.ref v1), .val (.ref dd), .val (.int (0 : Int32))] [(.int cl1.slots.size.toInt32), (.int (0 : Int32))]))) (fun _ k => X0.arraylength hx (by rw [e0]; exact Ar1.1) (State.isArrayOf_alike hZ.alike Ar1.2.1) (g := (mkF m 2 #[.val (.ref a), .val (.ref v1), .val (.ref dd), .val (.int (0 : Int32))] [(.ref dd), (.int (0 : Int32))])) rfl rfl (hb hby own_d_jdk_38_method_24_2) _ k) ?_
  rw [len_of Sz1 Ng1]
  refine own_go (S' := (s₁.setTop (mkF m 6 #[.val (.ref a), .val (.ref v1), .val (.ref dd), .val (.int (0 : Int32))] []))) (fun _ k => XS.icmpNo X0.here hx rfl (hb hby own_d_jdk_38_method_24_3) rfl (teq rfl).2 k) ?_
  refine own_go (S' := (s₁.setTop (mkF m 7 #[.val (.ref a), .val (.ref v1), .val (.ref dd), .val (.int (0 : Int32))] [(.ref a)]))) (fun _ k => XS.aloadN X0.here hx rfl (hb hby own_d_jdk_38_method_24_6) rfl rfl  k) ?_
  obtain ⟨cq2, q2, q2'⟩ := (E_a).cell
  obtain ⟨_, _, ⟨T2, L2, k2, n2⟩, -, X2, ⟨Lc2, hQ2, l2, y2, z2⟩, st2⟩ := X0.privateBack hx (y := (⟨"java/util/ArrayList", "grow", "()[Ljava/lang/Object;"⟩ : MethodName)) hown (mvT hZ (hw _ (List.mem_of_getElem? (i := 65) rfl))) (mvT hZ (hw _ (List.mem_of_getElem? (i := 66) rfl))) (mvT hZ (hw _ (List.mem_of_getElem? (i := 68) rfl))) (Cond.privateMethod_at (mvP hZ (hw _ (List.mem_of_getElem? (i := 67) rfl)) (args := #[]))) (mvT hZ (hw _ (List.mem_of_getElem? (i := 69) rfl))) (by decide) (backOf (W := 0) (own_gr0 l Z a0 hw a dd kd mc h0 n0 Z0 E_a Fm Fe Fs SD Vd g nd) hZ (hw _ (List.mem_of_getElem? (i := 69) rfl)) (hw _ (List.mem_of_getElem? (i := 29) rfl)) (by decide) (by decide)) (g := (mkF m 7 #[.val (.ref a), .val (.ref v1), .val (.ref dd), .val (.int (0 : Int32))] [(.ref a)])) rfl (by rw [hml]; rfl) (Steps.refl _) (a := a) (by rw [e0]; exact q2) q2' (argsL := []) (rest := []) (lenOf own_pd5 rfl) rfl (by show 2 * 0 + _ ≤ _; exact Nat.le_of_eq rfl) (hb hby own_d_jdk_38_method_24_7) (fun _ _ => ⟨rfl, e0, (by decide : 0 + 1 ≤ _), (by decide : 0 + 10 ≤ _)⟩)
  dsimp only [Pt.U, Pt.locs, Pt.cells, Pt.slots] at X2 l2 y2 z2 st2 hQ2
  subst l2 y2 z2
  obtain ⟨e2, k2c, rfl, N2q, Kc2, A2c, V2c, O2c, X2c, s2c⟩ := hQ2
  have N2 := Fr.app N0 N2q
  refine own_via (S' := (T2.setTop (mkF m 10 #[.val (.ref a), .val (.ref v1), .val (.ref dd), .val (.int (0 : Int32))] [(.ref e2)]))) st2 ?_
  have ne_a_e2 : a ≠ e2 := Nat.ne_of_lt (Nat.lt_of_lt_of_le E_a.lt s2c)
  have ne_v1_e2 : v1 ≠ e2 := Nat.ne_of_lt (Nat.lt_of_lt_of_le Ev.lt s2c)
  have c3_Ev := Ev.keep Kc2
  have K2x := (Keep.refl h0 [a]).trans Kc2 (allS (Or.inl (List.mem_of_getElem? (i := 0) rfl)) all0)
  obtain ⟨E4a, F4m, F4e, F4s⟩ := A2c
  refine own_go (S' := (T2.setTop (mkF m 11 #[.val (.ref a), .val (.ref v1), .val (.ref e2), .val (.int (0 : Int32))] []))) (fun _ k => XS.astoreN X2.here hx rfl (hb hby own_d_jdk_38_method_24_10) rfl rfl (l' := #[.val (.ref a), .val (.ref v1), .val (.ref e2), .val (.int (0 : Int32))]) rfl k) ?_
  refine own_go (S' := (T2.setTop (mkF m 12 #[.val (.ref a), .val (.ref v1), .val (.ref e2), .val (.int (0 : Int32))] [(.ref e2)]))) (fun _ k => XS.aloadN X2.here hx rfl (hb hby own_d_jdk_38_method_24_11) rfl rfl  k) ?_
  refine own_go (S' := (T2.setTop (mkF m 13 #[.val (.ref a), .val (.ref v1), .val (.ref e2), .val (.int (0 : Int32))] [(.int (0 : Int32)), (.ref e2)]))) (fun _ k => XS.iloadN X2.here hx rfl (hb hby own_d_jdk_38_method_24_12) rfl  k) ?_
  refine own_go (S' := (T2.setTop (mkF m 14 #[.val (.ref a), .val (.ref v1), .val (.ref e2), .val (.int (0 : Int32))] [(.ref v1), (.int (0 : Int32)), (.ref e2)]))) (fun _ k => XS.aloadN X2.here hx rfl (hb hby own_d_jdk_38_method_24_13) rfl rfl  k) ?_
  have vv5 := V2c
  obtain ⟨cl5, Ar5, qa5, Sz5, Ng5, Ha5, Ga5⟩ := vv5
  have hin5 : ¬ ((0 : Int32) < 0 ∨ cl5.slots.size ≤ ((0 : Int32)).toNatClampNeg) := inb_of Sz5 ⟨by decide, by decide⟩
  obtain ⟨T6, h6, X6, e6, W6, st6⟩ := stR X2 hx hZ rfl Ar5 (j := (0 : Int32)) hin5 rfl (Sto.ofV Ar5 qa5 O2c (Ins.of_exa c3_Ev (hw _ (List.mem_of_getElem? (i := 78) rfl)))) (g := (mkF m 14 #[.val (.ref a), .val (.ref v1), .val (.ref e2), .val (.int (0 : Int32))] [(.ref v1), (.int (0 : Int32)), (.ref e2)])) rfl rfl (hb hby own_d_jdk_38_method_24_14)
  have V6 := Arv.set Ar5 qa5 Sz5 Ng5 Ha5 Ga5 (v := (.ref v1)) rfl W6 0 rfl (Nat.le_of_ble_eq_true rfl)
  have N6 := Fr.snoc X6 N2 (Nat.le_trans Z0 s2c)
  refine own_go (S' := (T6.setTop (mkF m 15 #[.val (.ref a), .val (.ref v1), .val (.ref e2), .val (.int (0 : Int32))] []))) st6 ?_
  have c7_Ev := c3_Ev.wr W6
  have c7_E_a := E4a.wr W6
  have c7_Fm := F4m.other W6 (Or.inl ne_a_e2)
  have c7_Fe := F4e.other W6 (Or.inl ne_a_e2)
  have c7_Fs := F4s.other W6 (Or.inl ne_a_e2)
  have c7_Ex := X2c.wr W6
  have K6 := K2x.wr W6 (Or.inr s2c)
  refine own_go (S' := (T6.setTop (mkF m 16 #[.val (.ref a), .val (.ref v1), .val (.ref e2), .val (.int (0 : Int32))] [(.ref a)]))) (fun _ k => XS.aloadN X6.here hx rfl (hb hby own_d_jdk_38_method_24_15) rfl rfl  k) ?_
  refine own_go (S' := (T6.setTop (mkF m 17 #[.val (.ref a), .val (.ref v1), .val (.ref e2), .val (.int (0 : Int32))] [(.int (0 : Int32)), (.ref a)]))) (fun _ k => XS.iloadN X6.here hx rfl (hb hby own_d_jdk_38_method_24_16) rfl  k) ?_
  refine own_go (S' := (T6.setTop (mkF m 18 #[.val (.ref a), .val (.ref v1), .val (.ref e2), .val (.int (0 : Int32))] [(.int (1 : Int32)), (.int (0 : Int32)), (.ref a)]))) (fun _ k => XS.iconst X6.here hx rfl (hb hby own_d_jdk_38_method_24_17) k) ?_
  refine own_go (S' := (T6.setTop (mkF m 19 #[.val (.ref a), .val (.ref v1), .val (.ref e2), .val (.int (0 : Int32))] [(.int (1 : Int32)), (.ref a)]))) (fun _ k => XS.iadd X6.here hx rfl (hb hby own_d_jdk_38_method_24_18) rfl k) ?_
  obtain ⟨T8, h8, X8, e8, W8, st8⟩ := putF X6 hx hZ hown (host := "") (Or.inl (hw _ (List.mem_of_getElem? (i := 58) rfl))) Via.refl e6 c7_Fs c7_E_a (Or.inl (hw _ (List.mem_of_getElem? (i := 59) rfl))) (hw _ (List.mem_of_getElem? (i := 28) rfl)) (ty := .int) (by decide) rfl rfl (g := (mkF m 19 #[.val (.ref a), .val (.ref v1), .val (.ref e2), .val (.int (0 : Int32))] [(.int (1 : Int32)), (.ref a)])) rfl rfl (hb hby own_d_jdk_38_method_24_19)
  have N8 := Fr.snoc X8 N6 g
  refine own_go (S' := (T8.setTop (mkF m 22 #[.val (.ref a), .val (.ref v1), .val (.ref e2), .val (.int (0 : Int32))] []))) st8 ?_
  have n8_Fs := c7_Fs.same W8
  have c9_Ev := c7_Ev.wr W8
  have c9_E_a := c7_E_a.wr W8
  have c9_Fm := c7_Fm.other W8 (Or.inr (slot_ne (Or.inl (hw _ (List.mem_of_getElem? (i := 47) rfl))) (Or.inl (hw _ (List.mem_of_getElem? (i := 59) rfl))) (by decide) (t := .int) (t' := .int) (by decide) (by decide)))
  have c9_Fe := c7_Fe.other W8 (Or.inr (slot_ne (Or.inl (hw _ (List.mem_of_getElem? (i := 50) rfl))) (Or.inl (hw _ (List.mem_of_getElem? (i := 59) rfl))) (by decide) (t := (.array (.object "java/lang/Object"))) (t' := .int) (by decide) (by decide)))
  have c9_Ex := c7_Ex.wr W8
  have c9_V := V6.other W8 (Ne.symm ne_a_e2)
  have K8 := K6.wr W8 (Or.inl (List.mem_of_getElem? (i := 0) rfl))
  refine own_retV X8 hx hlk hret (hb hby own_d_jdk_38_method_24_22) ?_ (by decide) (by decide)
  rw [e8]
  exact ⟨rfl, N8, K8, _, _, ⟨c9_E_a, c9_Fm, c9_Fe, n8_Fs⟩, c9_V, O2c, c9_Ex, s2c⟩
set_option maxRecDepth 65536 in
set_option maxHeartbeats 40000000 in
theorem own_add1 (l : Launch) (Z : State) (a0 : Array Value) (hw : ∀ d ∈ tables_1, d.before a0 Z = true) (a : Addr) (v1 : Addr) (dd : Addr) (kd : ClassId) (h0 : Heap) (n0 : Nat) (Z0 : n0 ≤ h0.size) (E_a : Exa Z h0 a "java/util/ArrayList") (Fm : Fld Z h0 a "java/util/AbstractList" "modCount" "I" (.int 0)) (Fe : Fld Z h0 a "java/util/ArrayList" "elementData" "[Ljava/lang/Object;" (.ref dd)) (Fs : Fld Z h0 a "java/util/ArrayList" "size" "I" (.int 0)) (SD : Sta Z h0 "java/util/ArrayList" "DEFAULTCAPACITY_EMPTY_ELEMENTDATA" "[Ljava/lang/Object;" (.ref dd)) (Vd : Arv Z h0 dd kd (.object "java/lang/Object") 0 [] .null) (Ev : Exa Z h0 v1 "java/time/Duration") (g : n0 ≤ a) (nd : a ≠ dd) :
    own_C l Z (⟨"java/util/ArrayList", "add", "(Ljava/lang/Object;)Z"⟩ : MethodName) jdk_38_method_25_code 2 (some .boolean) [] ({ frames := 4, cells := 1, slots := 10, locals := 56 } : Room) #[(.ref a), (.ref v1)] h0 (own_Qf Z (some (.int 1)) a v1 1 h0 n0) := by
  refine MetFree.of_bodySF (plainFor_of_name own_pn3) hisR ?_
  intro p e s m args below meth c s₁ Bd hml0 hP hK
  obtain ⟨rfl, hZ, hh⟩ := hP
  have hx := Bd.exec
  have hby := Bd.bytes
  have hlk := Bd.notSynchronized
  have hret := Bd.returns
  have hml : c.maxLocals = 2 := hml0
  have hown : s.vm.findClass "java/util/ArrayList" = some m.cls := findClass_of_methodNamed Bd.named
  have hnm := (name_of_methodNamed Bd.named Bd.method).1
  have X0 : Stand p l e ({ frames := 4, cells := 1, slots := 10, locals := 56 } : Room) s m #[(.ref a), (.ref v1)] below meth c s₁ [] 0 0 := Stand.of_body Bd
  have e0 : s₁.heap = h0 := by rw [← hh, Bd.state]; rfl
  have N0 := Fr.nil n0
  refine own_open (own_ef7 m a v1) ?_
  refine own_go (S' := (s₁.setTop (mkF m 1 #[.val (.ref a), .val (.ref v1)] [(.ref a)]))) (fun _ k => XS.aloadN X0.here hx rfl (hb hby own_d_jdk_38_method_25_0) rfl rfl  k) ?_
  refine own_go (S' := (s₁.setTop (mkF m 2 #[.val (.ref a), .val (.ref v1)] [(.ref a), (.ref a)]))) (fun _ k => XS.dup X0.here hx rfl (hb hby own_d_jdk_38_method_25_1) rfl rfl k) ?_
  obtain ⟨T1, X1, e1, st1⟩ := getF X0 hx hZ hown (host := "") (Or.inl (hw _ (List.mem_of_getElem? (i := 56) rfl))) (Via.of (hw _ (List.mem_of_getElem? (i := 57) rfl))) e0 Fm (g := (mkF m 2 #[.val (.ref a), .val (.ref v1)] [(.ref a), (.ref a)])) rfl rfl (hb hby own_d_jdk_38_method_25_2)
  refine own_go (S' := (T1.setTop (mkF m 5 #[.val (.ref a), .val (.ref v1)] [(.int (0 : Int32)), (.ref a)]))) st1 ?_
  refine own_go (S' := (T1.setTop (mkF m 6 #[.val (.ref a), .val (.ref v1)] [(.int (1 : Int32)), (.int (0 : Int32)), (.ref a)]))) (fun _ k => XS.iconst X1.here hx rfl (hb hby own_d_jdk_38_method_25_5) k) ?_
  refine own_go (S' := (T1.setTop (mkF m 7 #[.val (.ref a), .val (.ref v1)] [(.int (1 : Int32)), (.ref a)]))) (fun _ k => XS.iadd X1.here hx rfl (hb hby own_d_jdk_38_method_25_6) rfl k) ?_
  obtain ⟨T2, h2, X2, e2, W2, st2⟩ := putF X1 hx hZ hown (host := "") (Or.inl (hw _ (List.mem_of_getElem? (i := 56) rfl))) (Via.of (hw _ (List.mem_of_getElem? (i := 57) rfl))) e1 Fm E_a (Or.inl (hw _ (List.mem_of_getElem? (i := 47) rfl))) (hw _ (List.mem_of_getElem? (i := 28) rfl)) (ty := .int) (by decide) rfl rfl (g := (mkF m 7 #[.val (.ref a), .val (.ref v1)] [(.int (1 : Int32)), (.ref a)])) rfl rfl (hb hby own_d_jdk_38_method_25_7)
  have N2 := Fr.snoc X2 N0 g
  refine own_go (S' := (T2.setTop (mkF m 10 #[.val (.ref a), .val (.ref v1)] []))) st2 ?_
  have n2_Fm := Fm.same W2
  have c3_E_a := E_a.wr W2
  have c3_Fe := Fe.other W2 (Or.inr (slot_ne (Or.inl (hw _ (List.mem_of_getElem? (i := 50) rfl))) (Or.inl (hw _ (List.mem_of_getElem? (i := 47) rfl))) (by decide) (t := (.array (.object "java/lang/Object"))) (t' := .int) (by decide) (by decide)))
  have c3_Fs := Fs.other W2 (Or.inr (slot_ne (Or.inl (hw _ (List.mem_of_getElem? (i := 59) rfl))) (Or.inl (hw _ (List.mem_of_getElem? (i := 47) rfl))) (by decide) (t := .int) (t' := .int) (by decide) (by decide)))
  have c3_SD := SD.wr W2
  have c3_Vd := Vd.other W2 (Ne.symm nd)
  have c3_Ev := Ev.wr W2
  have K2 := (Keep.refl h0 [a]).wr W2 (Or.inl (List.mem_of_getElem? (i := 0) rfl))
  refine own_go (S' := (T2.setTop (mkF m 11 #[.val (.ref a), .val (.ref v1)] [(.ref a)]))) (fun _ k => XS.aloadN X2.here hx rfl (hb hby own_d_jdk_38_method_25_10) rfl rfl  k) ?_
  refine own_go (S' := (T2.setTop (mkF m 12 #[.val (.ref a), .val (.ref v1)] [(.ref v1), (.ref a)]))) (fun _ k => XS.aloadN X2.here hx rfl (hb hby own_d_jdk_38_method_25_11) rfl rfl  k) ?_
  refine own_go (S' := (T2.setTop (mkF m 13 #[.val (.ref a), .val (.ref v1)] [(.ref a), (.ref v1), (.ref a)]))) (fun _ k => XS.aloadN X2.here hx rfl (hb hby own_d_jdk_38_method_25_12) rfl rfl  k) ?_
  obtain ⟨T4, X4, e4, st4⟩ := getF X2 hx hZ hown (host := "") (Or.inl (hw _ (List.mem_of_getElem? (i := 49) rfl))) Via.refl e2 c3_Fe (g := (mkF m 13 #[.val (.ref a), .val (.ref v1)] [(.ref a), (.ref v1), (.ref a)])) rfl rfl (hb hby own_d_jdk_38_method_25_13)
  refine own_go (S' := (T4.setTop (mkF m 16 #[.val (.ref a), .val (.ref v1)] [(.ref dd), (.ref v1), (.ref a)]))) st4 ?_
  refine own_go (S' := (T4.setTop (mkF m 17 #[.val (.ref a), .val (.ref v1)] [(.ref a), (.ref dd), (.ref v1), (.ref a)]))) (fun _ k => XS.aloadN X4.here hx rfl (hb hby own_d_jdk_38_method_25_16) rfl rfl  k) ?_
  obtain ⟨T5, X5, e5, st5⟩ := getF X4 hx hZ hown (host := "") (Or.inl (hw _ (List.mem_of_getElem? (i := 58) rfl))) Via.refl e4 c3_Fs (g := (mkF m 17 #[.val (.ref a), .val (.ref v1)] [(.ref a), (.ref dd), (.ref v1), (.ref a)])) rfl rfl (hb hby own_d_jdk_38_method_25_17)
  refine own_go (S' := (T5.setTop (mkF m 20 #[.val (.ref a), .val (.ref v1)] [(.int (0 : Int32)), (.ref dd), (.ref v1), (.ref a)]))) st5 ?_
  obtain ⟨cq6, q6, q6'⟩ := (c3_E_a).cell
  obtain ⟨_, _, ⟨T6, L6, k6, n6⟩, -, X6, ⟨Lc6, hQ6, l6, y6, z6⟩, st6⟩ := X5.privateBack hx (y := (⟨"java/util/ArrayList", "add", "(Ljava/lang/Object;[Ljava/lang/Object;I)V"⟩ : MethodName)) hown (mvT hZ (hw _ (List.mem_of_getElem? (i := 60) rfl))) (mvT hZ (hw _ (List.mem_of_getElem? (i := 61) rfl))) (mvT hZ (hw _ (List.mem_of_getElem? (i := 63) rfl))) (Cond.privateMethod_at (mvP hZ (hw _ (List.mem_of_getElem? (i := 62) rfl)) (args := #[]))) (mvT hZ (hw _ (List.mem_of_getElem? (i := 64) rfl))) (by decide) (backOf (W := 0) (own_ad3f l Z a0 hw a v1 dd kd 1 h2 n0 (Nat.le_trans Z0 K2.1) c3_E_a n2_Fm c3_Fe c3_Fs c3_SD c3_Vd c3_Ev g nd) hZ (hw _ (List.mem_of_getElem? (i := 64) rfl)) (hw _ (List.mem_of_getElem? (i := 29) rfl)) (by decide) (by decide)) (g := (mkF m 20 #[.val (.ref a), .val (.ref v1)] [(.int (0 : Int32)), (.ref dd), (.ref v1), (.ref a)])) rfl (by rw [hml]; rfl) (Steps.refl _) (a := a) (by rw [e5]; exact q6) q6' (argsL := [(.ref v1), (.ref dd), (.int (0 : Int32))]) (rest := []) (lenOf own_pd6 rfl) rfl (by show 2 * 0 + _ ≤ _; exact Nat.le_of_eq rfl) (hb hby own_d_jdk_38_method_25_20) (fun _ _ => ⟨rfl, e5, (by decide : 0 + 1 ≤ _), (by decide : 0 + 10 ≤ _)⟩)
  dsimp only [Pt.U, Pt.locs, Pt.cells, Pt.slots] at X6 l6 y6 z6 st6 hQ6
  subst l6 y6 z6
  obtain ⟨rfl, N6q, Kc6, e6, k6c, A6c, V6c, O6c, X6c, s6c⟩ := hQ6
  have N6 := Fr.app N2 N6q
  refine own_via (S' := (T6.setTop (mkF m 23 #[.val (.ref a), .val (.ref v1)] []))) st6 ?_
  have K6x := K2.trans Kc6 (allS (Or.inl (List.mem_of_getElem? (i := 0) rfl)) all0)
  refine own_go (S' := (T6.setTop (mkF m 24 #[.val (.ref a), .val (.ref v1)] [(.int (1 : Int32))]))) (fun _ k => XS.iconst X6.here hx rfl (hb hby own_d_jdk_38_method_25_23) k) ?_
  refine own_retZ X6 hx hlk (t := .boolean) hret (by simp) (hb hby own_d_jdk_38_method_25_24) ?_ (by decide) (by decide)
  exact ⟨rfl, N6, K6x, _, _, A6c, V6c, O6c, X6c, (by have := s6c; have := Wr.size W2; omega)⟩
set_option maxRecDepth 65536 in
set_option maxHeartbeats 40000000 in
theorem own_ad3n1 (l : Launch) (Z : State) (a0 : Array Value) (hw : ∀ d ∈ tables_1, d.before a0 Z = true) (a : Addr) (d2 : Addr) (ea : Addr) (d1 : Addr) (k : ClassId) (mc : Int32) (h0 : Heap) (n0 : Nat) (Z0 : n0 ≤ h0.size) (E_a : Exa Z h0 a "java/util/ArrayList") (Fm : Fld Z h0 a "java/util/AbstractList" "modCount" "I" (.int mc)) (Fe : Fld Z h0 a "java/util/ArrayList" "elementData" "[Ljava/lang/Object;" (.ref ea)) (Fs : Fld Z h0 a "java/util/ArrayList" "size" "I" (.int (1 : Int32))) (V : Arv Z h0 ea k (.object "java/lang/Object") 10 [.ref d1, .null, .null, .null, .null, .null, .null, .null, .null, .null] .null) (Ev : Exa Z h0 d2 "java/time/Duration") (O : Ovr Z k "java/lang/Object") (g : n0 ≤ a) (ge : n0 ≤ ea) (ne : a ≠ ea) :
    own_C l Z (⟨"java/util/ArrayList", "add", "(Ljava/lang/Object;[Ljava/lang/Object;I)V"⟩ : MethodName) jdk_38_method_24_code 4 none [] ({ frames := 0, cells := 0, slots := 0, locals := 0 } : Room) #[(.ref a), (.ref d2), (.ref ea), (.int (1 : Int32))] h0 (own_Qa Z none a ea k mc (2 : Int32) [.ref d1, .ref d2, .null, .null, .null, .null, .null, .null, .null, .null] h0 n0) := by
  refine MetFree.of_bodySF (plainFor_of_name own_pn3) hisR ?_
  intro p e s m args below meth c s₁ Bd hml0 hP hK
  obtain ⟨rfl, hZ, hh⟩ := hP
  have hx := Bd.exec
  have hby := Bd.bytes
  have hlk := Bd.notSynchronized
  have hret := Bd.returns
  have hml : c.maxLocals = 4 := hml0
  have hown : s.vm.findClass "java/util/ArrayList" = some m.cls := findClass_of_methodNamed Bd.named
  have hnm := (name_of_methodNamed Bd.named Bd.method).1
  have X0 : Stand p l e ({ frames := 0, cells := 0, slots := 0, locals := 0 } : Room) s m #[(.ref a), (.ref d2), (.ref ea), (.int (1 : Int32))] below meth c s₁ [] 0 0 := Stand.of_body Bd
  have e0 : s₁.heap = h0 := by rw [← hh, Bd.state]; rfl
  have N0 := Fr.nil n0
  refine own_open (own_ef6 m a d2 ea ((1 : Int32))) ?_
  refine own_go (S' := (s₁.setTop (mkF m 1 #[.val (.ref a), .val (.ref d2), .val (.ref ea), .val (.int (1 : Int32))] [(.int (1 : Int32))]))) (fun _ k => XS.iloadN X0.here hx rfl (hb hby own_d_jdk_38_method_24_0) rfl  k) ?_
  refine own_go (S' := (s₁.setTop (mkF m 2 #[.val (.ref a), .val (.ref d2), .val (.ref ea), .val (.int (1 : Int32))] [(.ref ea), (.int (1 : Int32))]))) (fun _ k => XS.aloadN X0.here hx rfl (hb hby own_d_jdk_38_method_24_1) rfl rfl  k) ?_
  have vv1 := V
  obtain ⟨cl1, Ar1, qa1, Sz1, Ng1, Ha1, Ga1⟩ := vv1
  refine own_go (S' := (s₁.setTop (mkF m 3 #[.val (.ref a), .val (.ref d2), .val (.ref ea), .val (.int (1 : Int32))] [(.int cl1.slots.size.toInt32), (.int (1 : Int32))]))) (fun _ k => X0.arraylength hx (by rw [e0]; exact Ar1.1) (State.isArrayOf_alike hZ.alike Ar1.2.1) (g := (mkF m 2 #[.val (.ref a), .val (.ref d2), .val (.ref ea), .val (.int (1 : Int32))] [(.ref ea), (.int (1 : Int32))])) rfl rfl (hb hby own_d_jdk_38_method_24_2) _ k) ?_
  rw [len_of Sz1 Ng1]
  refine own_go (S' := (s₁.setTop (mkF m 11 #[.val (.ref a), .val (.ref d2), .val (.ref ea), .val (.int (1 : Int32))] []))) (fun _ k => XS.icmpYes X0.here hx rfl (pc0 := 3) (pc' := 11) rfl (hb hby own_d_jdk_38_method_24_3) rfl (feq (by decide)).2 (by decide) (by decide) k) ?_
  refine own_go (S' := (s₁.setTop (mkF m 12 #[.val (.ref a), .val (.ref d2), .val (.ref ea), .val (.int (1 : Int32))] [(.ref ea)]))) (fun _ k => XS.aloadN X0.here hx rfl (hb hby own_d_jdk_38_method_24_11) rfl rfl  k) ?_
  refine own_go (S' := (s₁.setTop (mkF m 13 #[.val (.ref a), .val (.ref d2), .val (.ref ea), .val (.int (1 : Int32))] [(.int (1 : Int32)), (.ref ea)]))) (fun _ k => XS.iloadN X0.here hx rfl (hb hby own_d_jdk_38_method_24_12) rfl  k) ?_
  refine own_go (S' := (s₁.setTop (mkF m 14 #[.val (.ref a), .val (.ref d2), .val (.ref ea), .val (.int (1 : Int32))] [(.ref d2), (.int (1 : Int32)), (.ref ea)]))) (fun _ k => XS.aloadN X0.here hx rfl (hb hby own_d_jdk_38_method_24_13) rfl rfl  k) ?_
  have vv2 := V
  obtain ⟨cl2, Ar2, qa2, Sz2, Ng2, Ha2, Ga2⟩ := vv2
  have hin2 : ¬ ((1 : Int32) < 0 ∨ cl2.slots.size ≤ ((1 : Int32)).toNatClampNeg) := inb_of Sz2 ⟨by decide, by decide⟩
  obtain ⟨T3, h3, X3, e3, W3, st3⟩ := stR X0 hx hZ e0 Ar2 (j := (1 : Int32)) hin2 rfl (Sto.ofV Ar2 qa2 O (Ins.of_exa Ev (hw _ (List.mem_of_getElem? (i := 78) rfl)))) (g := (mkF m 14 #[.val (.ref a), .val (.ref d2), .val (.ref ea), .val (.int (1 : Int32))] [(.ref d2), (.int (1 : Int32)), (.ref ea)])) rfl rfl (hb hby own_d_jdk_38_method_24_14)
  have V3 := Arv.set Ar2 qa2 Sz2 Ng2 Ha2 Ga2 (v := (.ref d2)) rfl W3 1 rfl (Nat.le_of_ble_eq_true rfl)
  have N3 := Fr.snoc X3 N0 ge
  refine own_go (S' := (T3.setTop (mkF m 15 #[.val (.ref a), .val (.ref d2), .val (.ref ea), .val (.int (1 : Int32))] []))) st3 ?_
  have c4_E_a := E_a.wr W3
  have c4_Fm := Fm.other W3 (Or.inl ne)
  have c4_Fe := Fe.other W3 (Or.inl ne)
  have c4_Fs := Fs.other W3 (Or.inl ne)
  have c4_Ev := Ev.wr W3
  have K3 := (Keep.refl h0 [a, ea]).wr W3 (Or.inl (List.mem_of_getElem? (i := 1) rfl))
  refine own_go (S' := (T3.setTop (mkF m 16 #[.val (.ref a), .val (.ref d2), .val (.ref ea), .val (.int (1 : Int32))] [(.ref a)]))) (fun _ k => XS.aloadN X3.here hx rfl (hb hby own_d_jdk_38_method_24_15) rfl rfl  k) ?_
  refine own_go (S' := (T3.setTop (mkF m 17 #[.val (.ref a), .val (.ref d2), .val (.ref ea), .val (.int (1 : Int32))] [(.int (1 : Int32)), (.ref a)]))) (fun _ k => XS.iloadN X3.here hx rfl (hb hby own_d_jdk_38_method_24_16) rfl  k) ?_
  refine own_go (S' := (T3.setTop (mkF m 18 #[.val (.ref a), .val (.ref d2), .val (.ref ea), .val (.int (1 : Int32))] [(.int (1 : Int32)), (.int (1 : Int32)), (.ref a)]))) (fun _ k => XS.iconst X3.here hx rfl (hb hby own_d_jdk_38_method_24_17) k) ?_
  refine own_go (S' := (T3.setTop (mkF m 19 #[.val (.ref a), .val (.ref d2), .val (.ref ea), .val (.int (1 : Int32))] [(.int (2 : Int32)), (.ref a)]))) (fun _ k => XS.iadd X3.here hx rfl (hb hby own_d_jdk_38_method_24_18) rfl k) ?_
  obtain ⟨T5, h5, X5, e5, W5, st5⟩ := putF X3 hx hZ hown (host := "") (Or.inl (hw _ (List.mem_of_getElem? (i := 58) rfl))) Via.refl e3 c4_Fs c4_E_a (Or.inl (hw _ (List.mem_of_getElem? (i := 59) rfl))) (hw _ (List.mem_of_getElem? (i := 28) rfl)) (ty := .int) (by decide) rfl rfl (g := (mkF m 19 #[.val (.ref a), .val (.ref d2), .val (.ref ea), .val (.int (1 : Int32))] [(.int (2 : Int32)), (.ref a)])) rfl rfl (hb hby own_d_jdk_38_method_24_19)
  have N5 := Fr.snoc X5 N3 g
  refine own_go (S' := (T5.setTop (mkF m 22 #[.val (.ref a), .val (.ref d2), .val (.ref ea), .val (.int (1 : Int32))] []))) st5 ?_
  have n5_Fs := c4_Fs.same W5
  have c6_E_a := c4_E_a.wr W5
  have c6_Fm := c4_Fm.other W5 (Or.inr (slot_ne (Or.inl (hw _ (List.mem_of_getElem? (i := 47) rfl))) (Or.inl (hw _ (List.mem_of_getElem? (i := 59) rfl))) (by decide) (t := .int) (t' := .int) (by decide) (by decide)))
  have c6_Fe := c4_Fe.other W5 (Or.inr (slot_ne (Or.inl (hw _ (List.mem_of_getElem? (i := 50) rfl))) (Or.inl (hw _ (List.mem_of_getElem? (i := 59) rfl))) (by decide) (t := (.array (.object "java/lang/Object"))) (t' := .int) (by decide) (by decide)))
  have c6_Ev := c4_Ev.wr W5
  have c6_V := V3.other W5 (Ne.symm ne)
  have K5 := K3.wr W5 (Or.inl (List.mem_of_getElem? (i := 0) rfl))
  refine own_retV X5 hx hlk hret (hb hby own_d_jdk_38_method_24_22) ?_ (by decide) (by decide)
  rw [e5]
  exact ⟨rfl, N5, K5, ⟨c6_E_a, c6_Fm, c6_Fe, n5_Fs⟩, c6_V⟩
set_option maxRecDepth 65536 in
set_option maxHeartbeats 40000000 in
theorem own_addn1 (l : Launch) (Z : State) (a0 : Array Value) (hw : ∀ d ∈ tables_1, d.before a0 Z = true) (a : Addr) (d2 : Addr) (ea : Addr) (d1 : Addr) (k : ClassId) (h0 : Heap) (n0 : Nat) (Z0 : n0 ≤ h0.size) (E_a : Exa Z h0 a "java/util/ArrayList") (Fm : Fld Z h0 a "java/util/AbstractList" "modCount" "I" (.int (1 : Int32))) (Fe : Fld Z h0 a "java/util/ArrayList" "elementData" "[Ljava/lang/Object;" (.ref ea)) (Fs : Fld Z h0 a "java/util/ArrayList" "size" "I" (.int (1 : Int32))) (V : Arv Z h0 ea k (.object "java/lang/Object") 10 [.ref d1, .null, .null, .null, .null, .null, .null, .null, .null, .null] .null) (Ev : Exa Z h0 d2 "java/time/Duration") (O : Ovr Z k "java/lang/Object") (g : n0 ≤ a) (ge : n0 ≤ ea) (ne : a ≠ ea) :
    own_C l Z (⟨"java/util/ArrayList", "add", "(Ljava/lang/Object;)Z"⟩ : MethodName) jdk_38_method_25_code 2 (some .boolean) [] ({ frames := 1, cells := 0, slots := 0, locals := 15 } : Room) #[(.ref a), (.ref d2)] h0 (own_Qa Z (some (.int 1)) a ea k (2 : Int32) (2 : Int32) [.ref d1, .ref d2, .null, .null, .null, .null, .null, .null, .null, .null] h0 n0) := by
  refine MetFree.of_bodySF (plainFor_of_name own_pn3) hisR ?_
  intro p e s m args below meth c s₁ Bd hml0 hP hK
  obtain ⟨rfl, hZ, hh⟩ := hP
  have hx := Bd.exec
  have hby := Bd.bytes
  have hlk := Bd.notSynchronized
  have hret := Bd.returns
  have hml : c.maxLocals = 2 := hml0
  have hown : s.vm.findClass "java/util/ArrayList" = some m.cls := findClass_of_methodNamed Bd.named
  have hnm := (name_of_methodNamed Bd.named Bd.method).1
  have X0 : Stand p l e ({ frames := 1, cells := 0, slots := 0, locals := 15 } : Room) s m #[(.ref a), (.ref d2)] below meth c s₁ [] 0 0 := Stand.of_body Bd
  have e0 : s₁.heap = h0 := by rw [← hh, Bd.state]; rfl
  have N0 := Fr.nil n0
  refine own_open (own_ef7 m a d2) ?_
  refine own_go (S' := (s₁.setTop (mkF m 1 #[.val (.ref a), .val (.ref d2)] [(.ref a)]))) (fun _ k => XS.aloadN X0.here hx rfl (hb hby own_d_jdk_38_method_25_0) rfl rfl  k) ?_
  refine own_go (S' := (s₁.setTop (mkF m 2 #[.val (.ref a), .val (.ref d2)] [(.ref a), (.ref a)]))) (fun _ k => XS.dup X0.here hx rfl (hb hby own_d_jdk_38_method_25_1) rfl rfl k) ?_
  obtain ⟨T1, X1, e1, st1⟩ := getF X0 hx hZ hown (host := "") (Or.inl (hw _ (List.mem_of_getElem? (i := 56) rfl))) (Via.of (hw _ (List.mem_of_getElem? (i := 57) rfl))) e0 Fm (g := (mkF m 2 #[.val (.ref a), .val (.ref d2)] [(.ref a), (.ref a)])) rfl rfl (hb hby own_d_jdk_38_method_25_2)
  refine own_go (S' := (T1.setTop (mkF m 5 #[.val (.ref a), .val (.ref d2)] [(.int (1 : Int32)), (.ref a)]))) st1 ?_
  refine own_go (S' := (T1.setTop (mkF m 6 #[.val (.ref a), .val (.ref d2)] [(.int (1 : Int32)), (.int (1 : Int32)), (.ref a)]))) (fun _ k => XS.iconst X1.here hx rfl (hb hby own_d_jdk_38_method_25_5) k) ?_
  refine own_go (S' := (T1.setTop (mkF m 7 #[.val (.ref a), .val (.ref d2)] [(.int (2 : Int32)), (.ref a)]))) (fun _ k => XS.iadd X1.here hx rfl (hb hby own_d_jdk_38_method_25_6) rfl k) ?_
  obtain ⟨T2, h2, X2, e2, W2, st2⟩ := putF X1 hx hZ hown (host := "") (Or.inl (hw _ (List.mem_of_getElem? (i := 56) rfl))) (Via.of (hw _ (List.mem_of_getElem? (i := 57) rfl))) e1 Fm E_a (Or.inl (hw _ (List.mem_of_getElem? (i := 47) rfl))) (hw _ (List.mem_of_getElem? (i := 28) rfl)) (ty := .int) (by decide) rfl rfl (g := (mkF m 7 #[.val (.ref a), .val (.ref d2)] [(.int (2 : Int32)), (.ref a)])) rfl rfl (hb hby own_d_jdk_38_method_25_7)
  have N2 := Fr.snoc X2 N0 g
  refine own_go (S' := (T2.setTop (mkF m 10 #[.val (.ref a), .val (.ref d2)] []))) st2 ?_
  have n2_Fm := Fm.same W2
  have c3_E_a := E_a.wr W2
  have c3_Fe := Fe.other W2 (Or.inr (slot_ne (Or.inl (hw _ (List.mem_of_getElem? (i := 50) rfl))) (Or.inl (hw _ (List.mem_of_getElem? (i := 47) rfl))) (by decide) (t := (.array (.object "java/lang/Object"))) (t' := .int) (by decide) (by decide)))
  have c3_Fs := Fs.other W2 (Or.inr (slot_ne (Or.inl (hw _ (List.mem_of_getElem? (i := 59) rfl))) (Or.inl (hw _ (List.mem_of_getElem? (i := 47) rfl))) (by decide) (t := .int) (t' := .int) (by decide) (by decide)))
  have c3_V := V.other W2 (Ne.symm ne)
  have c3_Ev := Ev.wr W2
  have K2 := (Keep.refl h0 [a, ea]).wr W2 (Or.inl (List.mem_of_getElem? (i := 0) rfl))
  refine own_go (S' := (T2.setTop (mkF m 11 #[.val (.ref a), .val (.ref d2)] [(.ref a)]))) (fun _ k => XS.aloadN X2.here hx rfl (hb hby own_d_jdk_38_method_25_10) rfl rfl  k) ?_
  refine own_go (S' := (T2.setTop (mkF m 12 #[.val (.ref a), .val (.ref d2)] [(.ref d2), (.ref a)]))) (fun _ k => XS.aloadN X2.here hx rfl (hb hby own_d_jdk_38_method_25_11) rfl rfl  k) ?_
  refine own_go (S' := (T2.setTop (mkF m 13 #[.val (.ref a), .val (.ref d2)] [(.ref a), (.ref d2), (.ref a)]))) (fun _ k => XS.aloadN X2.here hx rfl (hb hby own_d_jdk_38_method_25_12) rfl rfl  k) ?_
  obtain ⟨T4, X4, e4, st4⟩ := getF X2 hx hZ hown (host := "") (Or.inl (hw _ (List.mem_of_getElem? (i := 49) rfl))) Via.refl e2 c3_Fe (g := (mkF m 13 #[.val (.ref a), .val (.ref d2)] [(.ref a), (.ref d2), (.ref a)])) rfl rfl (hb hby own_d_jdk_38_method_25_13)
  refine own_go (S' := (T4.setTop (mkF m 16 #[.val (.ref a), .val (.ref d2)] [(.ref ea), (.ref d2), (.ref a)]))) st4 ?_
  refine own_go (S' := (T4.setTop (mkF m 17 #[.val (.ref a), .val (.ref d2)] [(.ref a), (.ref ea), (.ref d2), (.ref a)]))) (fun _ k => XS.aloadN X4.here hx rfl (hb hby own_d_jdk_38_method_25_16) rfl rfl  k) ?_
  obtain ⟨T5, X5, e5, st5⟩ := getF X4 hx hZ hown (host := "") (Or.inl (hw _ (List.mem_of_getElem? (i := 58) rfl))) Via.refl e4 c3_Fs (g := (mkF m 17 #[.val (.ref a), .val (.ref d2)] [(.ref a), (.ref ea), (.ref d2), (.ref a)])) rfl rfl (hb hby own_d_jdk_38_method_25_17)
  refine own_go (S' := (T5.setTop (mkF m 20 #[.val (.ref a), .val (.ref d2)] [(.int (1 : Int32)), (.ref ea), (.ref d2), (.ref a)]))) st5 ?_
  obtain ⟨cq6, q6, q6'⟩ := (c3_E_a).cell
  obtain ⟨_, _, ⟨T6, L6, k6, n6⟩, -, X6, ⟨Lc6, hQ6, l6, y6, z6⟩, st6⟩ := X5.privateBack hx (y := (⟨"java/util/ArrayList", "add", "(Ljava/lang/Object;[Ljava/lang/Object;I)V"⟩ : MethodName)) hown (mvT hZ (hw _ (List.mem_of_getElem? (i := 60) rfl))) (mvT hZ (hw _ (List.mem_of_getElem? (i := 61) rfl))) (mvT hZ (hw _ (List.mem_of_getElem? (i := 63) rfl))) (Cond.privateMethod_at (mvP hZ (hw _ (List.mem_of_getElem? (i := 62) rfl)) (args := #[]))) (mvT hZ (hw _ (List.mem_of_getElem? (i := 64) rfl))) (by decide) (backOf (W := 0) (own_ad3n1 l Z a0 hw a d2 ea d1 k (2 : Int32) h2 n0 (Nat.le_trans Z0 K2.1) c3_E_a n2_Fm c3_Fe c3_Fs c3_V c3_Ev O g ge ne) hZ (hw _ (List.mem_of_getElem? (i := 64) rfl)) (hw _ (List.mem_of_getElem? (i := 29) rfl)) (by decide) (by decide)) (g := (mkF m 20 #[.val (.ref a), .val (.ref d2)] [(.int (1 : Int32)), (.ref ea), (.ref d2), (.ref a)])) rfl (by rw [hml]; rfl) (Steps.refl _) (a := a) (by rw [e5]; exact q6) q6' (argsL := [(.ref d2), (.ref ea), (.int (1 : Int32))]) (rest := []) (lenOf own_pd6 rfl) rfl (by show 2 * 0 + _ ≤ _; exact Nat.le_of_eq rfl) (hb hby own_d_jdk_38_method_25_20) (fun _ _ => ⟨rfl, e5, (by decide : 0 + 0 ≤ _), (by decide : 0 + 0 ≤ _)⟩)
  dsimp only [Pt.U, Pt.locs, Pt.cells, Pt.slots] at X6 l6 y6 z6 st6 hQ6
  subst l6 y6 z6
  obtain ⟨rfl, N6q, Kc6, A6c, V6c⟩ := hQ6
  have N6 := Fr.app N2 N6q
  refine own_via (S' := (T6.setTop (mkF m 23 #[.val (.ref a), .val (.ref d2)] []))) st6 ?_
  have K6x := K2.trans Kc6 (allS (Or.inl (List.mem_of_getElem? (i := 0) rfl)) (allS (Or.inl (List.mem_of_getElem? (i := 1) rfl)) all0))
  refine own_go (S' := (T6.setTop (mkF m 24 #[.val (.ref a), .val (.ref d2)] [(.int (1 : Int32))]))) (fun _ k => XS.iconst X6.here hx rfl (hb hby own_d_jdk_38_method_25_23) k) ?_
  refine own_retZ X6 hx hlk (t := .boolean) hret (by simp) (hb hby own_d_jdk_38_method_25_24) ?_ (by decide) (by decide)
  exact ⟨rfl, N6, K6x, A6c, V6c⟩
set_option maxRecDepth 65536 in
set_option maxHeartbeats 40000000 in
theorem own_ad3n2 (l : Launch) (Z : State) (a0 : Array Value) (hw : ∀ d ∈ tables_1, d.before a0 Z = true) (a : Addr) (d3 : Addr) (ea : Addr) (d1 d2 : Addr) (k : ClassId) (mc : Int32) (h0 : Heap) (n0 : Nat) (Z0 : n0 ≤ h0.size) (E_a : Exa Z h0 a "java/util/ArrayList") (Fm : Fld Z h0 a "java/util/AbstractList" "modCount" "I" (.int mc)) (Fe : Fld Z h0 a "java/util/ArrayList" "elementData" "[Ljava/lang/Object;" (.ref ea)) (Fs : Fld Z h0 a "java/util/ArrayList" "size" "I" (.int (2 : Int32))) (V : Arv Z h0 ea k (.object "java/lang/Object") 10 [.ref d1, .ref d2, .null, .null, .null, .null, .null, .null, .null, .null] .null) (Ev : Exa Z h0 d3 "java/time/Duration") (O : Ovr Z k "java/lang/Object") (g : n0 ≤ a) (ge : n0 ≤ ea) (ne : a ≠ ea) :
    own_C l Z (⟨"java/util/ArrayList", "add", "(Ljava/lang/Object;[Ljava/lang/Object;I)V"⟩ : MethodName) jdk_38_method_24_code 4 none [] ({ frames := 0, cells := 0, slots := 0, locals := 0 } : Room) #[(.ref a), (.ref d3), (.ref ea), (.int (2 : Int32))] h0 (own_Qa Z none a ea k mc (3 : Int32) [.ref d1, .ref d2, .ref d3, .null, .null, .null, .null, .null, .null, .null] h0 n0) := by
  refine MetFree.of_bodySF (plainFor_of_name own_pn3) hisR ?_
  intro p e s m args below meth c s₁ Bd hml0 hP hK
  obtain ⟨rfl, hZ, hh⟩ := hP
  have hx := Bd.exec
  have hby := Bd.bytes
  have hlk := Bd.notSynchronized
  have hret := Bd.returns
  have hml : c.maxLocals = 4 := hml0
  have hown : s.vm.findClass "java/util/ArrayList" = some m.cls := findClass_of_methodNamed Bd.named
  have hnm := (name_of_methodNamed Bd.named Bd.method).1
  have X0 : Stand p l e ({ frames := 0, cells := 0, slots := 0, locals := 0 } : Room) s m #[(.ref a), (.ref d3), (.ref ea), (.int (2 : Int32))] below meth c s₁ [] 0 0 := Stand.of_body Bd
  have e0 : s₁.heap = h0 := by rw [← hh, Bd.state]; rfl
  have N0 := Fr.nil n0
  refine own_open (own_ef6 m a d3 ea ((2 : Int32))) ?_
  refine own_go (S' := (s₁.setTop (mkF m 1 #[.val (.ref a), .val (.ref d3), .val (.ref ea), .val (.int (2 : Int32))] [(.int (2 : Int32))]))) (fun _ k => XS.iloadN X0.here hx rfl (hb hby own_d_jdk_38_method_24_0) rfl  k) ?_
  refine own_go (S' := (s₁.setTop (mkF m 2 #[.val (.ref a), .val (.ref d3), .val (.ref ea), .val (.int (2 : Int32))] [(.ref ea), (.int (2 : Int32))]))) (fun _ k => XS.aloadN X0.here hx rfl (hb hby own_d_jdk_38_method_24_1) rfl rfl  k) ?_
  have vv1 := V
  obtain ⟨cl1, Ar1, qa1, Sz1, Ng1, Ha1, Ga1⟩ := vv1
  refine own_go (S' := (s₁.setTop (mkF m 3 #[.val (.ref a), .val (.ref d3), .val (.ref ea), .val (.int (2 : Int32))] [(.int cl1.slots.size.toInt32), (.int (2 : Int32))]))) (fun _ k => X0.arraylength hx (by rw [e0]; exact Ar1.1) (State.isArrayOf_alike hZ.alike Ar1.2.1) (g := (mkF m 2 #[.val (.ref a), .val (.ref d3), .val (.ref ea), .val (.int (2 : Int32))] [(.ref ea), (.int (2 : Int32))])) rfl rfl (hb hby own_d_jdk_38_method_24_2) _ k) ?_
  rw [len_of Sz1 Ng1]
  refine own_go (S' := (s₁.setTop (mkF m 11 #[.val (.ref a), .val (.ref d3), .val (.ref ea), .val (.int (2 : Int32))] []))) (fun _ k => XS.icmpYes X0.here hx rfl (pc0 := 3) (pc' := 11) rfl (hb hby own_d_jdk_38_method_24_3) rfl (feq (by decide)).2 (by decide) (by decide) k) ?_
  refine own_go (S' := (s₁.setTop (mkF m 12 #[.val (.ref a), .val (.ref d3), .val (.ref ea), .val (.int (2 : Int32))] [(.ref ea)]))) (fun _ k => XS.aloadN X0.here hx rfl (hb hby own_d_jdk_38_method_24_11) rfl rfl  k) ?_
  refine own_go (S' := (s₁.setTop (mkF m 13 #[.val (.ref a), .val (.ref d3), .val (.ref ea), .val (.int (2 : Int32))] [(.int (2 : Int32)), (.ref ea)]))) (fun _ k => XS.iloadN X0.here hx rfl (hb hby own_d_jdk_38_method_24_12) rfl  k) ?_
  refine own_go (S' := (s₁.setTop (mkF m 14 #[.val (.ref a), .val (.ref d3), .val (.ref ea), .val (.int (2 : Int32))] [(.ref d3), (.int (2 : Int32)), (.ref ea)]))) (fun _ k => XS.aloadN X0.here hx rfl (hb hby own_d_jdk_38_method_24_13) rfl rfl  k) ?_
  have vv2 := V
  obtain ⟨cl2, Ar2, qa2, Sz2, Ng2, Ha2, Ga2⟩ := vv2
  have hin2 : ¬ ((2 : Int32) < 0 ∨ cl2.slots.size ≤ ((2 : Int32)).toNatClampNeg) := inb_of Sz2 ⟨by decide, by decide⟩
  obtain ⟨T3, h3, X3, e3, W3, st3⟩ := stR X0 hx hZ e0 Ar2 (j := (2 : Int32)) hin2 rfl (Sto.ofV Ar2 qa2 O (Ins.of_exa Ev (hw _ (List.mem_of_getElem? (i := 78) rfl)))) (g := (mkF m 14 #[.val (.ref a), .val (.ref d3), .val (.ref ea), .val (.int (2 : Int32))] [(.ref d3), (.int (2 : Int32)), (.ref ea)])) rfl rfl (hb hby own_d_jdk_38_method_24_14)
  have V3 := Arv.set Ar2 qa2 Sz2 Ng2 Ha2 Ga2 (v := (.ref d3)) rfl W3 2 rfl (Nat.le_of_ble_eq_true rfl)
  have N3 := Fr.snoc X3 N0 ge
  refine own_go (S' := (T3.setTop (mkF m 15 #[.val (.ref a), .val (.ref d3), .val (.ref ea), .val (.int (2 : Int32))] []))) st3 ?_
  have c4_E_a := E_a.wr W3
  have c4_Fm := Fm.other W3 (Or.inl ne)
  have c4_Fe := Fe.other W3 (Or.inl ne)
  have c4_Fs := Fs.other W3 (Or.inl ne)
  have c4_Ev := Ev.wr W3
  have K3 := (Keep.refl h0 [a, ea]).wr W3 (Or.inl (List.mem_of_getElem? (i := 1) rfl))
  refine own_go (S' := (T3.setTop (mkF m 16 #[.val (.ref a), .val (.ref d3), .val (.ref ea), .val (.int (2 : Int32))] [(.ref a)]))) (fun _ k => XS.aloadN X3.here hx rfl (hb hby own_d_jdk_38_method_24_15) rfl rfl  k) ?_
  refine own_go (S' := (T3.setTop (mkF m 17 #[.val (.ref a), .val (.ref d3), .val (.ref ea), .val (.int (2 : Int32))] [(.int (2 : Int32)), (.ref a)]))) (fun _ k => XS.iloadN X3.here hx rfl (hb hby own_d_jdk_38_method_24_16) rfl  k) ?_
  refine own_go (S' := (T3.setTop (mkF m 18 #[.val (.ref a), .val (.ref d3), .val (.ref ea), .val (.int (2 : Int32))] [(.int (1 : Int32)), (.int (2 : Int32)), (.ref a)]))) (fun _ k => XS.iconst X3.here hx rfl (hb hby own_d_jdk_38_method_24_17) k) ?_
  refine own_go (S' := (T3.setTop (mkF m 19 #[.val (.ref a), .val (.ref d3), .val (.ref ea), .val (.int (2 : Int32))] [(.int (3 : Int32)), (.ref a)]))) (fun _ k => XS.iadd X3.here hx rfl (hb hby own_d_jdk_38_method_24_18) rfl k) ?_
  obtain ⟨T5, h5, X5, e5, W5, st5⟩ := putF X3 hx hZ hown (host := "") (Or.inl (hw _ (List.mem_of_getElem? (i := 58) rfl))) Via.refl e3 c4_Fs c4_E_a (Or.inl (hw _ (List.mem_of_getElem? (i := 59) rfl))) (hw _ (List.mem_of_getElem? (i := 28) rfl)) (ty := .int) (by decide) rfl rfl (g := (mkF m 19 #[.val (.ref a), .val (.ref d3), .val (.ref ea), .val (.int (2 : Int32))] [(.int (3 : Int32)), (.ref a)])) rfl rfl (hb hby own_d_jdk_38_method_24_19)
  have N5 := Fr.snoc X5 N3 g
  refine own_go (S' := (T5.setTop (mkF m 22 #[.val (.ref a), .val (.ref d3), .val (.ref ea), .val (.int (2 : Int32))] []))) st5 ?_
  have n5_Fs := c4_Fs.same W5
  have c6_E_a := c4_E_a.wr W5
  have c6_Fm := c4_Fm.other W5 (Or.inr (slot_ne (Or.inl (hw _ (List.mem_of_getElem? (i := 47) rfl))) (Or.inl (hw _ (List.mem_of_getElem? (i := 59) rfl))) (by decide) (t := .int) (t' := .int) (by decide) (by decide)))
  have c6_Fe := c4_Fe.other W5 (Or.inr (slot_ne (Or.inl (hw _ (List.mem_of_getElem? (i := 50) rfl))) (Or.inl (hw _ (List.mem_of_getElem? (i := 59) rfl))) (by decide) (t := (.array (.object "java/lang/Object"))) (t' := .int) (by decide) (by decide)))
  have c6_Ev := c4_Ev.wr W5
  have c6_V := V3.other W5 (Ne.symm ne)
  have K5 := K3.wr W5 (Or.inl (List.mem_of_getElem? (i := 0) rfl))
  refine own_retV X5 hx hlk hret (hb hby own_d_jdk_38_method_24_22) ?_ (by decide) (by decide)
  rw [e5]
  exact ⟨rfl, N5, K5, ⟨c6_E_a, c6_Fm, c6_Fe, n5_Fs⟩, c6_V⟩
set_option maxRecDepth 65536 in
set_option maxHeartbeats 40000000 in
theorem own_addn2 (l : Launch) (Z : State) (a0 : Array Value) (hw : ∀ d ∈ tables_1, d.before a0 Z = true) (a : Addr) (d3 : Addr) (ea : Addr) (d1 d2 : Addr) (k : ClassId) (h0 : Heap) (n0 : Nat) (Z0 : n0 ≤ h0.size) (E_a : Exa Z h0 a "java/util/ArrayList") (Fm : Fld Z h0 a "java/util/AbstractList" "modCount" "I" (.int (2 : Int32))) (Fe : Fld Z h0 a "java/util/ArrayList" "elementData" "[Ljava/lang/Object;" (.ref ea)) (Fs : Fld Z h0 a "java/util/ArrayList" "size" "I" (.int (2 : Int32))) (V : Arv Z h0 ea k (.object "java/lang/Object") 10 [.ref d1, .ref d2, .null, .null, .null, .null, .null, .null, .null, .null] .null) (Ev : Exa Z h0 d3 "java/time/Duration") (O : Ovr Z k "java/lang/Object") (g : n0 ≤ a) (ge : n0 ≤ ea) (ne : a ≠ ea) :
    own_C l Z (⟨"java/util/ArrayList", "add", "(Ljava/lang/Object;)Z"⟩ : MethodName) jdk_38_method_25_code 2 (some .boolean) [] ({ frames := 1, cells := 0, slots := 0, locals := 15 } : Room) #[(.ref a), (.ref d3)] h0 (own_Qa Z (some (.int 1)) a ea k (3 : Int32) (3 : Int32) [.ref d1, .ref d2, .ref d3, .null, .null, .null, .null, .null, .null, .null] h0 n0) := by
  refine MetFree.of_bodySF (plainFor_of_name own_pn3) hisR ?_
  intro p e s m args below meth c s₁ Bd hml0 hP hK
  obtain ⟨rfl, hZ, hh⟩ := hP
  have hx := Bd.exec
  have hby := Bd.bytes
  have hlk := Bd.notSynchronized
  have hret := Bd.returns
  have hml : c.maxLocals = 2 := hml0
  have hown : s.vm.findClass "java/util/ArrayList" = some m.cls := findClass_of_methodNamed Bd.named
  have hnm := (name_of_methodNamed Bd.named Bd.method).1
  have X0 : Stand p l e ({ frames := 1, cells := 0, slots := 0, locals := 15 } : Room) s m #[(.ref a), (.ref d3)] below meth c s₁ [] 0 0 := Stand.of_body Bd
  have e0 : s₁.heap = h0 := by rw [← hh, Bd.state]; rfl
  have N0 := Fr.nil n0
  refine own_open (own_ef7 m a d3) ?_
  refine own_go (S' := (s₁.setTop (mkF m 1 #[.val (.ref a), .val (.ref d3)] [(.ref a)]))) (fun _ k => XS.aloadN X0.here hx rfl (hb hby own_d_jdk_38_method_25_0) rfl rfl  k) ?_
  refine own_go (S' := (s₁.setTop (mkF m 2 #[.val (.ref a), .val (.ref d3)] [(.ref a), (.ref a)]))) (fun _ k => XS.dup X0.here hx rfl (hb hby own_d_jdk_38_method_25_1) rfl rfl k) ?_
  obtain ⟨T1, X1, e1, st1⟩ := getF X0 hx hZ hown (host := "") (Or.inl (hw _ (List.mem_of_getElem? (i := 56) rfl))) (Via.of (hw _ (List.mem_of_getElem? (i := 57) rfl))) e0 Fm (g := (mkF m 2 #[.val (.ref a), .val (.ref d3)] [(.ref a), (.ref a)])) rfl rfl (hb hby own_d_jdk_38_method_25_2)
  refine own_go (S' := (T1.setTop (mkF m 5 #[.val (.ref a), .val (.ref d3)] [(.int (2 : Int32)), (.ref a)]))) st1 ?_
  refine own_go (S' := (T1.setTop (mkF m 6 #[.val (.ref a), .val (.ref d3)] [(.int (1 : Int32)), (.int (2 : Int32)), (.ref a)]))) (fun _ k => XS.iconst X1.here hx rfl (hb hby own_d_jdk_38_method_25_5) k) ?_
  refine own_go (S' := (T1.setTop (mkF m 7 #[.val (.ref a), .val (.ref d3)] [(.int (3 : Int32)), (.ref a)]))) (fun _ k => XS.iadd X1.here hx rfl (hb hby own_d_jdk_38_method_25_6) rfl k) ?_
  obtain ⟨T2, h2, X2, e2, W2, st2⟩ := putF X1 hx hZ hown (host := "") (Or.inl (hw _ (List.mem_of_getElem? (i := 56) rfl))) (Via.of (hw _ (List.mem_of_getElem? (i := 57) rfl))) e1 Fm E_a (Or.inl (hw _ (List.mem_of_getElem? (i := 47) rfl))) (hw _ (List.mem_of_getElem? (i := 28) rfl)) (ty := .int) (by decide) rfl rfl (g := (mkF m 7 #[.val (.ref a), .val (.ref d3)] [(.int (3 : Int32)), (.ref a)])) rfl rfl (hb hby own_d_jdk_38_method_25_7)
  have N2 := Fr.snoc X2 N0 g
  refine own_go (S' := (T2.setTop (mkF m 10 #[.val (.ref a), .val (.ref d3)] []))) st2 ?_
  have n2_Fm := Fm.same W2
  have c3_E_a := E_a.wr W2
  have c3_Fe := Fe.other W2 (Or.inr (slot_ne (Or.inl (hw _ (List.mem_of_getElem? (i := 50) rfl))) (Or.inl (hw _ (List.mem_of_getElem? (i := 47) rfl))) (by decide) (t := (.array (.object "java/lang/Object"))) (t' := .int) (by decide) (by decide)))
  have c3_Fs := Fs.other W2 (Or.inr (slot_ne (Or.inl (hw _ (List.mem_of_getElem? (i := 59) rfl))) (Or.inl (hw _ (List.mem_of_getElem? (i := 47) rfl))) (by decide) (t := .int) (t' := .int) (by decide) (by decide)))
  have c3_V := V.other W2 (Ne.symm ne)
  have c3_Ev := Ev.wr W2
  have K2 := (Keep.refl h0 [a, ea]).wr W2 (Or.inl (List.mem_of_getElem? (i := 0) rfl))
  refine own_go (S' := (T2.setTop (mkF m 11 #[.val (.ref a), .val (.ref d3)] [(.ref a)]))) (fun _ k => XS.aloadN X2.here hx rfl (hb hby own_d_jdk_38_method_25_10) rfl rfl  k) ?_
  refine own_go (S' := (T2.setTop (mkF m 12 #[.val (.ref a), .val (.ref d3)] [(.ref d3), (.ref a)]))) (fun _ k => XS.aloadN X2.here hx rfl (hb hby own_d_jdk_38_method_25_11) rfl rfl  k) ?_
  refine own_go (S' := (T2.setTop (mkF m 13 #[.val (.ref a), .val (.ref d3)] [(.ref a), (.ref d3), (.ref a)]))) (fun _ k => XS.aloadN X2.here hx rfl (hb hby own_d_jdk_38_method_25_12) rfl rfl  k) ?_
  obtain ⟨T4, X4, e4, st4⟩ := getF X2 hx hZ hown (host := "") (Or.inl (hw _ (List.mem_of_getElem? (i := 49) rfl))) Via.refl e2 c3_Fe (g := (mkF m 13 #[.val (.ref a), .val (.ref d3)] [(.ref a), (.ref d3), (.ref a)])) rfl rfl (hb hby own_d_jdk_38_method_25_13)
  refine own_go (S' := (T4.setTop (mkF m 16 #[.val (.ref a), .val (.ref d3)] [(.ref ea), (.ref d3), (.ref a)]))) st4 ?_
  refine own_go (S' := (T4.setTop (mkF m 17 #[.val (.ref a), .val (.ref d3)] [(.ref a), (.ref ea), (.ref d3), (.ref a)]))) (fun _ k => XS.aloadN X4.here hx rfl (hb hby own_d_jdk_38_method_25_16) rfl rfl  k) ?_
  obtain ⟨T5, X5, e5, st5⟩ := getF X4 hx hZ hown (host := "") (Or.inl (hw _ (List.mem_of_getElem? (i := 58) rfl))) Via.refl e4 c3_Fs (g := (mkF m 17 #[.val (.ref a), .val (.ref d3)] [(.ref a), (.ref ea), (.ref d3), (.ref a)])) rfl rfl (hb hby own_d_jdk_38_method_25_17)
  refine own_go (S' := (T5.setTop (mkF m 20 #[.val (.ref a), .val (.ref d3)] [(.int (2 : Int32)), (.ref ea), (.ref d3), (.ref a)]))) st5 ?_
  obtain ⟨cq6, q6, q6'⟩ := (c3_E_a).cell
  obtain ⟨_, _, ⟨T6, L6, k6, n6⟩, -, X6, ⟨Lc6, hQ6, l6, y6, z6⟩, st6⟩ := X5.privateBack hx (y := (⟨"java/util/ArrayList", "add", "(Ljava/lang/Object;[Ljava/lang/Object;I)V"⟩ : MethodName)) hown (mvT hZ (hw _ (List.mem_of_getElem? (i := 60) rfl))) (mvT hZ (hw _ (List.mem_of_getElem? (i := 61) rfl))) (mvT hZ (hw _ (List.mem_of_getElem? (i := 63) rfl))) (Cond.privateMethod_at (mvP hZ (hw _ (List.mem_of_getElem? (i := 62) rfl)) (args := #[]))) (mvT hZ (hw _ (List.mem_of_getElem? (i := 64) rfl))) (by decide) (backOf (W := 0) (own_ad3n2 l Z a0 hw a d3 ea d1 d2 k (3 : Int32) h2 n0 (Nat.le_trans Z0 K2.1) c3_E_a n2_Fm c3_Fe c3_Fs c3_V c3_Ev O g ge ne) hZ (hw _ (List.mem_of_getElem? (i := 64) rfl)) (hw _ (List.mem_of_getElem? (i := 29) rfl)) (by decide) (by decide)) (g := (mkF m 20 #[.val (.ref a), .val (.ref d3)] [(.int (2 : Int32)), (.ref ea), (.ref d3), (.ref a)])) rfl (by rw [hml]; rfl) (Steps.refl _) (a := a) (by rw [e5]; exact q6) q6' (argsL := [(.ref d3), (.ref ea), (.int (2 : Int32))]) (rest := []) (lenOf own_pd6 rfl) rfl (by show 2 * 0 + _ ≤ _; exact Nat.le_of_eq rfl) (hb hby own_d_jdk_38_method_25_20) (fun _ _ => ⟨rfl, e5, (by decide : 0 + 0 ≤ _), (by decide : 0 + 0 ≤ _)⟩)
  dsimp only [Pt.U, Pt.locs, Pt.cells, Pt.slots] at X6 l6 y6 z6 st6 hQ6
  subst l6 y6 z6
  obtain ⟨rfl, N6q, Kc6, A6c, V6c⟩ := hQ6
  have N6 := Fr.app N2 N6q
  refine own_via (S' := (T6.setTop (mkF m 23 #[.val (.ref a), .val (.ref d3)] []))) st6 ?_
  have K6x := K2.trans Kc6 (allS (Or.inl (List.mem_of_getElem? (i := 0) rfl)) (allS (Or.inl (List.mem_of_getElem? (i := 1) rfl)) all0))
  refine own_go (S' := (T6.setTop (mkF m 24 #[.val (.ref a), .val (.ref d3)] [(.int (1 : Int32))]))) (fun _ k => XS.iconst X6.here hx rfl (hb hby own_d_jdk_38_method_25_23) k) ?_
  refine own_retZ X6 hx hlk (t := .boolean) hret (by simp) (hb hby own_d_jdk_38_method_25_24) ?_ (by decide) (by decide)
  exact ⟨rfl, N6, K6x, A6c, V6c⟩
set_option maxRecDepth 65536 in
set_option maxHeartbeats 40000000 in
theorem own_ise1 (l : Launch) (Z : State) (a0 : Array Value) (hw : ∀ d ∈ tables_1, d.before a0 Z = true) (a : Addr)  (h0 : Heap) (n0 : Nat) (Z0 : n0 ≤ h0.size) (Fs : Fld Z h0 a "java/util/ArrayList" "size" "I" (.int (1 : Int32))) :
    own_C l Z (⟨"java/util/ArrayList", "isEmpty", "()Z"⟩ : MethodName) jdk_38_method_9_code 1 (some .boolean) [] ({ frames := 0, cells := 0, slots := 0, locals := 0 } : Room) #[(.ref a)] h0 (own_Qz 0 h0 n0) := by
  refine MetFree.of_bodySF (plainFor_of_name own_pn3) hisR ?_
  intro p e s m args below meth c s₁ Bd hml0 hP hK
  obtain ⟨rfl, hZ, hh⟩ := hP
  have hx := Bd.exec
  have hby := Bd.bytes
  have hlk := Bd.notSynchronized
  have hret := Bd.returns
  have hml : c.maxLocals = 1 := hml0
  have hown : s.vm.findClass "java/util/ArrayList" = some m.cls := findClass_of_methodNamed Bd.named
  have hnm := (name_of_methodNamed Bd.named Bd.method).1
  have X0 : Stand p l e ({ frames := 0, cells := 0, slots := 0, locals := 0 } : Room) s m #[(.ref a)] below meth c s₁ [] 0 0 := Stand.of_body Bd
  have e0 : s₁.heap = h0 := by rw [← hh, Bd.state]; rfl
  have N0 := Fr.nil n0
  refine own_open (own_ef4 m a) ?_
  refine own_go (S' := (s₁.setTop (mkF m 1 #[.val (.ref a)] [(.ref a)]))) (fun _ k => XS.aloadN X0.here hx rfl (hb hby own_d_jdk_38_method_9_0) rfl rfl  k) ?_
  obtain ⟨T1, X1, e1, st1⟩ := getF X0 hx hZ hown (host := "") (Or.inl (hw _ (List.mem_of_getElem? (i := 58) rfl))) Via.refl e0 Fs (g := (mkF m 1 #[.val (.ref a)] [(.ref a)])) rfl rfl (hb hby own_d_jdk_38_method_9_1)
  refine own_go (S' := (T1.setTop (mkF m 4 #[.val (.ref a)] [(.int (1 : Int32))]))) st1 ?_
  refine own_go (S' := (T1.setTop (mkF m 11 #[.val (.ref a)] []))) (fun _ k => XS.ifYes X1.here hx rfl (pc0 := 4) (pc' := 11) rfl (hb hby own_d_jdk_38_method_9_4) rfl ((if0 _ _).trans (feq (by decide)).2) (by decide) (by decide) k) ?_
  refine own_go (S' := (T1.setTop (mkF m 12 #[.val (.ref a)] [(.int (0 : Int32))]))) (fun _ k => XS.iconst X1.here hx rfl (hb hby own_d_jdk_38_method_9_11) k) ?_
  refine own_retZ X1 hx hlk (t := .boolean) hret (by simp) (hb hby own_d_jdk_38_method_9_12) ?_ (by decide) (by decide)
  rw [e1]
  exact ⟨rfl, N0, rfl⟩
set_option maxRecDepth 65536 in
set_option maxHeartbeats 40000000 in
theorem own_ise2 (l : Launch) (Z : State) (a0 : Array Value) (hw : ∀ d ∈ tables_1, d.before a0 Z = true) (a : Addr)  (h0 : Heap) (n0 : Nat) (Z0 : n0 ≤ h0.size) (Fs : Fld Z h0 a "java/util/ArrayList" "size" "I" (.int (2 : Int32))) :
    own_C l Z (⟨"java/util/ArrayList", "isEmpty", "()Z"⟩ : MethodName) jdk_38_method_9_code 1 (some .boolean) [] ({ frames := 0, cells := 0, slots := 0, locals := 0 } : Room) #[(.ref a)] h0 (own_Qz 0 h0 n0) := by
  refine MetFree.of_bodySF (plainFor_of_name own_pn3) hisR ?_
  intro p e s m args below meth c s₁ Bd hml0 hP hK
  obtain ⟨rfl, hZ, hh⟩ := hP
  have hx := Bd.exec
  have hby := Bd.bytes
  have hlk := Bd.notSynchronized
  have hret := Bd.returns
  have hml : c.maxLocals = 1 := hml0
  have hown : s.vm.findClass "java/util/ArrayList" = some m.cls := findClass_of_methodNamed Bd.named
  have hnm := (name_of_methodNamed Bd.named Bd.method).1
  have X0 : Stand p l e ({ frames := 0, cells := 0, slots := 0, locals := 0 } : Room) s m #[(.ref a)] below meth c s₁ [] 0 0 := Stand.of_body Bd
  have e0 : s₁.heap = h0 := by rw [← hh, Bd.state]; rfl
  have N0 := Fr.nil n0
  refine own_open (own_ef4 m a) ?_
  refine own_go (S' := (s₁.setTop (mkF m 1 #[.val (.ref a)] [(.ref a)]))) (fun _ k => XS.aloadN X0.here hx rfl (hb hby own_d_jdk_38_method_9_0) rfl rfl  k) ?_
  obtain ⟨T1, X1, e1, st1⟩ := getF X0 hx hZ hown (host := "") (Or.inl (hw _ (List.mem_of_getElem? (i := 58) rfl))) Via.refl e0 Fs (g := (mkF m 1 #[.val (.ref a)] [(.ref a)])) rfl rfl (hb hby own_d_jdk_38_method_9_1)
  refine own_go (S' := (T1.setTop (mkF m 4 #[.val (.ref a)] [(.int (2 : Int32))]))) st1 ?_
  refine own_go (S' := (T1.setTop (mkF m 11 #[.val (.ref a)] []))) (fun _ k => XS.ifYes X1.here hx rfl (pc0 := 4) (pc' := 11) rfl (hb hby own_d_jdk_38_method_9_4) rfl ((if0 _ _).trans (feq (by decide)).2) (by decide) (by decide) k) ?_
  refine own_go (S' := (T1.setTop (mkF m 12 #[.val (.ref a)] [(.int (0 : Int32))]))) (fun _ k => XS.iconst X1.here hx rfl (hb hby own_d_jdk_38_method_9_11) k) ?_
  refine own_retZ X1 hx hlk (t := .boolean) hret (by simp) (hb hby own_d_jdk_38_method_9_12) ?_ (by decide) (by decide)
  rw [e1]
  exact ⟨rfl, N0, rfl⟩
set_option maxRecDepth 65536 in
set_option maxHeartbeats 40000000 in
theorem own_ise3 (l : Launch) (Z : State) (a0 : Array Value) (hw : ∀ d ∈ tables_1, d.before a0 Z = true) (a : Addr)  (h0 : Heap) (n0 : Nat) (Z0 : n0 ≤ h0.size) (Fs : Fld Z h0 a "java/util/ArrayList" "size" "I" (.int (3 : Int32))) :
    own_C l Z (⟨"java/util/ArrayList", "isEmpty", "()Z"⟩ : MethodName) jdk_38_method_9_code 1 (some .boolean) [] ({ frames := 0, cells := 0, slots := 0, locals := 0 } : Room) #[(.ref a)] h0 (own_Qz 0 h0 n0) := by
  refine MetFree.of_bodySF (plainFor_of_name own_pn3) hisR ?_
  intro p e s m args below meth c s₁ Bd hml0 hP hK
  obtain ⟨rfl, hZ, hh⟩ := hP
  have hx := Bd.exec
  have hby := Bd.bytes
  have hlk := Bd.notSynchronized
  have hret := Bd.returns
  have hml : c.maxLocals = 1 := hml0
  have hown : s.vm.findClass "java/util/ArrayList" = some m.cls := findClass_of_methodNamed Bd.named
  have hnm := (name_of_methodNamed Bd.named Bd.method).1
  have X0 : Stand p l e ({ frames := 0, cells := 0, slots := 0, locals := 0 } : Room) s m #[(.ref a)] below meth c s₁ [] 0 0 := Stand.of_body Bd
  have e0 : s₁.heap = h0 := by rw [← hh, Bd.state]; rfl
  have N0 := Fr.nil n0
  refine own_open (own_ef4 m a) ?_
  refine own_go (S' := (s₁.setTop (mkF m 1 #[.val (.ref a)] [(.ref a)]))) (fun _ k => XS.aloadN X0.here hx rfl (hb hby own_d_jdk_38_method_9_0) rfl rfl  k) ?_
  obtain ⟨T1, X1, e1, st1⟩ := getF X0 hx hZ hown (host := "") (Or.inl (hw _ (List.mem_of_getElem? (i := 58) rfl))) Via.refl e0 Fs (g := (mkF m 1 #[.val (.ref a)] [(.ref a)])) rfl rfl (hb hby own_d_jdk_38_method_9_1)
  refine own_go (S' := (T1.setTop (mkF m 4 #[.val (.ref a)] [(.int (3 : Int32))]))) st1 ?_
  refine own_go (S' := (T1.setTop (mkF m 11 #[.val (.ref a)] []))) (fun _ k => XS.ifYes X1.here hx rfl (pc0 := 4) (pc' := 11) rfl (hb hby own_d_jdk_38_method_9_4) rfl ((if0 _ _).trans (feq (by decide)).2) (by decide) (by decide) k) ?_
  refine own_go (S' := (T1.setTop (mkF m 12 #[.val (.ref a)] [(.int (0 : Int32))]))) (fun _ k => XS.iconst X1.here hx rfl (hb hby own_d_jdk_38_method_9_11) k) ?_
  refine own_retZ X1 hx hlk (t := .boolean) hret (by simp) (hb hby own_d_jdk_38_method_9_12) ?_ (by decide) (by decide)
  rw [e1]
  exact ⟨rfl, N0, rfl⟩
set_option maxRecDepth 65536 in
set_option maxHeartbeats 40000000 in
theorem own_rnn (l : Launch) (Z : State) (a0 : Array Value) (hw : ∀ d ∈ tables_1, d.before a0 Z = true) (v1 : Addr)  (h0 : Heap) (n0 : Nat) (Z0 : n0 ≤ h0.size)  :
    own_C l Z (⟨"java/util/Objects", "requireNonNull", "(Ljava/lang/Object;)Ljava/lang/Object;"⟩ : MethodName) jdk_31_method_10_code 1 (some (.object "java/lang/Object")) [] ({ frames := 0, cells := 0, slots := 0, locals := 0 } : Room) #[(.ref v1)] h0 (own_Qr v1 h0 n0) := by
  refine MetFree.of_bodySF (plainFor_of_name own_pn4) hisR ?_
  intro p e s m args below meth c s₁ Bd hml0 hP hK
  obtain ⟨rfl, hZ, hh⟩ := hP
  have hx := Bd.exec
  have hby := Bd.bytes
  have hlk := Bd.notSynchronized
  have hret := Bd.returns
  have hml : c.maxLocals = 1 := hml0
  have hown : s.vm.findClass "java/util/Objects" = some m.cls := findClass_of_methodNamed Bd.named
  have hnm := (name_of_methodNamed Bd.named Bd.method).1
  have X0 : Stand p l e ({ frames := 0, cells := 0, slots := 0, locals := 0 } : Room) s m #[(.ref v1)] below meth c s₁ [] 0 0 := Stand.of_body Bd
  have e0 : s₁.heap = h0 := by rw [← hh, Bd.state]; rfl
  have N0 := Fr.nil n0
  refine own_open (own_ef4 m v1) ?_
  refine own_go (S' := (s₁.setTop (mkF m 1 #[.val (.ref v1)] [(.ref v1)]))) (fun _ k => XS.aloadN X0.here hx rfl (hb hby own_d_jdk_31_method_10_0) rfl rfl  k) ?_
  refine own_go (S' := (s₁.setTop (mkF m 12 #[.val (.ref v1)] []))) (fun _ k => XS.ifnonnullYes X0.here hx rfl (pc0 := 1) (pc' := 12) rfl (hb hby own_d_jdk_31_method_10_1) rfl (by decide) (by decide) k) ?_
  refine own_go (S' := (s₁.setTop (mkF m 13 #[.val (.ref v1)] [(.ref v1)]))) (fun _ k => XS.aloadN X0.here hx rfl (hb hby own_d_jdk_31_method_10_12) rfl rfl  k) ?_
  refine own_retA X0 hx hlk hret rfl rfl (hb hby own_d_jdk_31_method_10_13) ?_ (by decide) (by decide)
  rw [e0]
  exact ⟨rfl, N0, rfl⟩
set_option maxRecDepth 65536 in
set_option maxHeartbeats 40000000 in
theorem own_aic (l : Launch) (Z : State) (a0 : Array Value) (hw : ∀ d ∈ tables_1, d.before a0 Z = true) (a : Addr)  (h0 : Heap) (n0 : Nat) (Z0 : n0 ≤ h0.size)  :
    own_C l Z (⟨"java/util/ImmutableCollections$AbstractImmutableCollection", "<init>", "()V"⟩ : MethodName) jdk_47_method_1_code 1 none [] ({ frames := 2, cells := 0, slots := 0, locals := 24 } : Room) #[(.ref a)] h0 (own_Qn h0 n0) := by
  refine MetFree.of_bodySF (plainFor_of_name own_pn5) hisR ?_
  intro p e s m args below meth c s₁ Bd hml0 hP hK
  obtain ⟨rfl, hZ, hh⟩ := hP
  have hx := Bd.exec
  have hby := Bd.bytes
  have hlk := Bd.notSynchronized
  have hret := Bd.returns
  have hml : c.maxLocals = 1 := hml0
  have hown : s.vm.findClass "java/util/ImmutableCollections$AbstractImmutableCollection" = some m.cls := findClass_of_methodNamed Bd.named
  have hnm := (name_of_methodNamed Bd.named Bd.method).1
  have X0 : Stand p l e ({ frames := 2, cells := 0, slots := 0, locals := 24 } : Room) s m #[(.ref a)] below meth c s₁ [] 0 0 := Stand.of_body Bd
  have e0 : s₁.heap = h0 := by rw [← hh, Bd.state]; rfl
  have N0 := Fr.nil n0
  refine own_open (own_ef4 m a) ?_
  refine own_go (S' := (s₁.setTop (mkF m 1 #[.val (.ref a)] [(.ref a)]))) (fun _ k => XS.aloadN X0.here hx rfl (hb hby own_d_jdk_47_method_1_0) rfl rfl  k) ?_
  obtain ⟨_, _, ⟨T1, L1, k1, n1⟩, -, X1, ⟨Lc1, hQ1, l1, y1, z1⟩, st1⟩ := X0.specialBack hx (y := (⟨"java/util/AbstractCollection", "<init>", "()V"⟩ : MethodName)) rfl hown (mvT hZ (hw _ (List.mem_of_getElem? (i := 166) rfl))) (mvT hZ (hw _ (List.mem_of_getElem? (i := 40) rfl))) (mvT hZ (hw _ (List.mem_of_getElem? (i := 44) rfl))) (by decide) (backOf (W := 0) (own_aci l Z a0 hw a h0 n0 Z0) hZ (hw _ (List.mem_of_getElem? (i := 44) rfl)) (hw _ (List.mem_of_getElem? (i := 43) rfl)) (by decide) (by decide)) (g := (mkF m 1 #[.val (.ref a)] [(.ref a)])) rfl (by rw [hml]; rfl) (Steps.refl _) (a := a) (argsL := []) (rest := []) (lenOf own_pd2 rfl) rfl (by show 2 * 0 + _ ≤ _; exact Nat.le_of_eq rfl) (hb hby own_d_jdk_47_method_1_1) (fun _ _ => ⟨rfl, e0, (by decide : 0 + 0 ≤ _), (by decide : 0 + 0 ≤ _)⟩)
  dsimp only [Pt.U, Pt.locs, Pt.cells, Pt.slots] at X1 l1 y1 z1 st1 hQ1
  subst l1 y1 z1
  obtain ⟨rfl, N1q, hh1⟩ := hQ1
  have N1 := Fr.app N0 N1q
  refine own_via (S' := (T1.setTop (mkF m 4 #[.val (.ref a)] []))) st1 ?_
  refine own_retV X1 hx hlk hret (hb hby own_d_jdk_47_method_1_4) ?_ (by decide) (by decide)
  rw [hh1]
  exact ⟨rfl, N1, rfl⟩
set_option maxRecDepth 65536 in
set_option maxHeartbeats 40000000 in
theorem own_ail (l : Launch) (Z : State) (a0 : Array Value) (hw : ∀ d ∈ tables_1, d.before a0 Z = true) (a : Addr)  (h0 : Heap) (n0 : Nat) (Z0 : n0 ≤ h0.size)  :
    own_C l Z (⟨"java/util/ImmutableCollections$AbstractImmutableList", "<init>", "()V"⟩ : MethodName) jdk_46_method_1_code 1 none [] ({ frames := 3, cells := 0, slots := 0, locals := 36 } : Room) #[(.ref a)] h0 (own_Qn h0 n0) := by
  refine MetFree.of_bodySF (plainFor_of_name own_pn6) hisR ?_
  intro p e s m args below meth c s₁ Bd hml0 hP hK
  obtain ⟨rfl, hZ, hh⟩ := hP
  have hx := Bd.exec
  have hby := Bd.bytes
  have hlk := Bd.notSynchronized
  have hret := Bd.returns
  have hml : c.maxLocals = 1 := hml0
  have hown : s.vm.findClass "java/util/ImmutableCollections$AbstractImmutableList" = some m.cls := findClass_of_methodNamed Bd.named
  have hnm := (name_of_methodNamed Bd.named Bd.method).1
  have X0 : Stand p l e ({ frames := 3, cells := 0, slots := 0, locals := 36 } : Room) s m #[(.ref a)] below meth c s₁ [] 0 0 := Stand.of_body Bd
  have e0 : s₁.heap = h0 := by rw [← hh, Bd.state]; rfl
  have N0 := Fr.nil n0
  refine own_open (own_ef4 m a) ?_
  refine own_go (S' := (s₁.setTop (mkF m 1 #[.val (.ref a)] [(.ref a)]))) (fun _ k => XS.aloadN X0.here hx rfl (hb hby own_d_jdk_46_method_1_0) rfl rfl  k) ?_
  obtain ⟨_, _, ⟨T1, L1, k1, n1⟩, -, X1, ⟨Lc1, hQ1, l1, y1, z1⟩, st1⟩ := X0.specialBack hx (y := (⟨"java/util/ImmutableCollections$AbstractImmutableCollection", "<init>", "()V"⟩ : MethodName)) rfl hown (mvT hZ (hw _ (List.mem_of_getElem? (i := 160) rfl))) (mvT hZ (hw _ (List.mem_of_getElem? (i := 161) rfl))) (mvT hZ (hw _ (List.mem_of_getElem? (i := 165) rfl))) (by decide) (backOf (W := 0) (own_aic l Z a0 hw a h0 n0 Z0) hZ (hw _ (List.mem_of_getElem? (i := 165) rfl)) (hw _ (List.mem_of_getElem? (i := 164) rfl)) (by decide) (by decide)) (g := (mkF m 1 #[.val (.ref a)] [(.ref a)])) rfl (by rw [hml]; rfl) (Steps.refl _) (a := a) (argsL := []) (rest := []) (lenOf own_pd2 rfl) rfl (by show 2 * 0 + _ ≤ _; exact Nat.le_of_eq rfl) (hb hby own_d_jdk_46_method_1_1) (fun _ _ => ⟨rfl, e0, (by decide : 0 + 0 ≤ _), (by decide : 0 + 0 ≤ _)⟩)
  dsimp only [Pt.U, Pt.locs, Pt.cells, Pt.slots] at X1 l1 y1 z1 st1 hQ1
  subst l1 y1 z1
  obtain ⟨rfl, N1q, hh1⟩ := hQ1
  have N1 := Fr.app N0 N1q
  refine own_via (S' := (T1.setTop (mkF m 4 #[.val (.ref a)] []))) st1 ?_
  refine own_retV X1 hx hlk hret (hb hby own_d_jdk_46_method_1_4) ?_ (by decide) (by decide)
  rw [hh1]
  exact ⟨rfl, N1, rfl⟩
set_option maxRecDepth 65536 in
set_option maxHeartbeats 40000000 in
theorem own_l1 (l : Launch) (Z : State) (a0 : Array Value) (hw : ∀ d ∈ tables_1, d.before a0 Z = true) (x : Addr) (v1 : Addr) (em : Addr) (h0 : Heap) (n0 : Nat) (Z0 : n0 ≤ h0.size) (E_x : Exa Z h0 x "java/util/ImmutableCollections$List12") (F0 : Fld Z h0 x "java/util/ImmutableCollections$List12" "e0" "Ljava/lang/Object;" .null) (F1 : Fld Z h0 x "java/util/ImmutableCollections$List12" "e1" "Ljava/lang/Object;" .null) (SE : Sta Z h0 "java/util/ImmutableCollections" "EMPTY" "Ljava/lang/Object;" (.ref em)) (g : n0 ≤ x) :
    own_C l Z (⟨"java/util/ImmutableCollections$List12", "<init>", "(Ljava/lang/Object;)V"⟩ : MethodName) jdk_44_method_1_code 2 none [] ({ frames := 4, cells := 0, slots := 0, locals := 48 } : Room) #[(.ref x), (.ref v1)] h0 (own_Q12 Z x v1 em h0 n0) := by
  refine MetFree.of_bodySF (plainFor_of_name own_pn7) hisR ?_
  intro p e s m args below meth c s₁ Bd hml0 hP hK
  obtain ⟨rfl, hZ, hh⟩ := hP
  have hx := Bd.exec
  have hby := Bd.bytes
  have hlk := Bd.notSynchronized
  have hret := Bd.returns
  have hml : c.maxLocals = 2 := hml0
  have hown : s.vm.findClass "java/util/ImmutableCollections$List12" = some m.cls := findClass_of_methodNamed Bd.named
  have hnm := (name_of_methodNamed Bd.named Bd.method).1
  have X0 : Stand p l e ({ frames := 4, cells := 0, slots := 0, locals := 48 } : Room) s m #[(.ref x), (.ref v1)] below meth c s₁ [] 0 0 := Stand.of_body Bd
  have e0 : s₁.heap = h0 := by rw [← hh, Bd.state]; rfl
  have N0 := Fr.nil n0
  refine own_open (own_ef7 m x v1) ?_
  refine own_go (S' := (s₁.setTop (mkF m 1 #[.val (.ref x), .val (.ref v1)] [(.ref x)]))) (fun _ k => XS.aloadN X0.here hx rfl (hb hby own_d_jdk_44_method_1_0) rfl rfl  k) ?_
  obtain ⟨_, _, ⟨T1, L1, k1, n1⟩, -, X1, ⟨Lc1, hQ1, l1, y1, z1⟩, st1⟩ := X0.specialBack hx (y := (⟨"java/util/ImmutableCollections$AbstractImmutableList", "<init>", "()V"⟩ : MethodName)) rfl hown (mvT hZ (hw _ (List.mem_of_getElem? (i := 154) rfl))) (mvT hZ (hw _ (List.mem_of_getElem? (i := 155) rfl))) (mvT hZ (hw _ (List.mem_of_getElem? (i := 159) rfl))) (by decide) (backOf (W := 0) (own_ail l Z a0 hw x h0 n0 Z0) hZ (hw _ (List.mem_of_getElem? (i := 159) rfl)) (hw _ (List.mem_of_getElem? (i := 158) rfl)) (by decide) (by decide)) (g := (mkF m 1 #[.val (.ref x), .val (.ref v1)] [(.ref x)])) rfl (by rw [hml]; rfl) (Steps.refl _) (a := x) (argsL := []) (rest := []) (lenOf own_pd2 rfl) rfl (by show 2 * 0 + _ ≤ _; exact Nat.le_of_eq rfl) (hb hby own_d_jdk_44_method_1_1) (fun _ _ => ⟨rfl, e0, (by decide : 0 + 0 ≤ _), (by decide : 0 + 0 ≤ _)⟩)
  dsimp only [Pt.U, Pt.locs, Pt.cells, Pt.slots] at X1 l1 y1 z1 st1 hQ1
  subst l1 y1 z1
  obtain ⟨rfl, N1q, hh1⟩ := hQ1
  have N1 := Fr.app N0 N1q
  refine own_via (S' := (T1.setTop (mkF m 4 #[.val (.ref x), .val (.ref v1)] []))) st1 ?_
  refine own_go (S' := (T1.setTop (mkF m 5 #[.val (.ref x), .val (.ref v1)] [(.ref x)]))) (fun _ k => XS.aloadN X1.here hx rfl (hb hby own_d_jdk_44_method_1_4) rfl rfl  k) ?_
  refine own_go (S' := (T1.setTop (mkF m 6 #[.val (.ref x), .val (.ref v1)] [(.ref v1), (.ref x)]))) (fun _ k => XS.aloadN X1.here hx rfl (hb hby own_d_jdk_44_method_1_5) rfl rfl  k) ?_
  obtain ⟨_, _, ⟨T2, L2, k2, n2⟩, -, X2, ⟨Lc2, hQ2, l2, y2, z2⟩, st2⟩ := Jvm.LawKit.callS X1 hx (y := (⟨"java/util/Objects", "requireNonNull", "(Ljava/lang/Object;)Ljava/lang/Object;"⟩ : MethodName)) hown (mvT hZ (hw _ (List.mem_of_getElem? (i := 168) rfl))) (mvT hZ (hw _ (List.mem_of_getElem? (i := 169) rfl))) (mvT hZ (hw _ (List.mem_of_getElem? (i := 170) rfl))) (mvT hZ (hw _ (List.mem_of_getElem? (i := 171) rfl))) (by decide) (backOf (W := 1) (own_rnn l Z a0 hw v1 h0 n0 Z0) hZ (hw _ (List.mem_of_getElem? (i := 171) rfl)) (hw _ (List.mem_of_getElem? (i := 170) rfl)) (by decide) (by decide)) (g := (mkF m 6 #[.val (.ref x), .val (.ref v1)] [(.ref v1), (.ref x)])) rfl (by rw [hml]; rfl) (argsL := [(.ref v1)]) (rest := [(.ref x)]) (lenOf own_pd7 rfl) rfl (by show 2 * 0 + _ ≤ _; exact Nat.le_of_eq rfl) (hb hby own_d_jdk_44_method_1_6) (fun _ _ => ⟨rfl, hh1, (by decide : 0 + 0 ≤ _), (by decide : 0 + 0 ≤ _)⟩)
  dsimp only [Pt.U, Pt.locs, Pt.cells, Pt.slots] at X2 l2 y2 z2 st2 hQ2
  subst l2 y2 z2
  obtain ⟨rfl, N2q, hh2⟩ := hQ2
  have N2 := Fr.app N1 N2q
  refine own_go (S' := (T2.setTop (mkF m 9 #[.val (.ref x), .val (.ref v1)] [(.ref v1), (.ref x)]))) st2 ?_
  obtain ⟨T3, h3, X3, e3, W3, st3⟩ := putF X2 hx hZ hown (host := "") (Or.inl (hw _ (List.mem_of_getElem? (i := 172) rfl))) Via.refl hh2 F0 E_x (Or.inr ⟨(hw _ (List.mem_of_getElem? (i := 173) rfl)), rfl, hnm⟩) (hw _ (List.mem_of_getElem? (i := 148) rfl)) (ty := (.object "java/lang/Object")) (by decide) rfl rfl (g := (mkF m 9 #[.val (.ref x), .val (.ref v1)] [(.ref v1), (.ref x)])) rfl rfl (hb hby own_d_jdk_44_method_1_9)
  have N3 := Fr.snoc X3 N2 g
  refine own_go (S' := (T3.setTop (mkF m 12 #[.val (.ref x), .val (.ref v1)] []))) st3 ?_
  have n3_F0 := F0.same W3
  have c4_E_x := E_x.wr W3
  have c4_F1 := F1.other W3 (Or.inr (slot_ne (Or.inr (hw _ (List.mem_of_getElem? (i := 176) rfl))) (Or.inr (hw _ (List.mem_of_getElem? (i := 173) rfl))) (by decide) (t := (.object "java/lang/Object")) (t' := (.object "java/lang/Object")) (by decide) (by decide)))
  have c4_SE := SE.wr W3
  have K3 := (Keep.refl h0 [x]).wr W3 (Or.inl (List.mem_of_getElem? (i := 0) rfl))
  refine own_go (S' := (T3.setTop (mkF m 13 #[.val (.ref x), .val (.ref v1)] [(.ref x)]))) (fun _ k => XS.aloadN X3.here hx rfl (hb hby own_d_jdk_44_method_1_12) rfl rfl  k) ?_
  obtain ⟨T5, X5, e5, st5⟩ := getS2 X3 hx hZ hown (Or.inr (hw _ (List.mem_of_getElem? (i := 174) rfl))) Via.refl e3 c4_SE (g := (mkF m 13 #[.val (.ref x), .val (.ref v1)] [(.ref x)])) rfl (hb hby own_d_jdk_44_method_1_13)
  refine own_go (S' := (T5.setTop (mkF m 16 #[.val (.ref x), .val (.ref v1)] [(.ref em), (.ref x)]))) st5 ?_
  obtain ⟨T6, h6, X6, e6, W6, st6⟩ := putF X5 hx hZ hown (host := "") (Or.inl (hw _ (List.mem_of_getElem? (i := 175) rfl))) Via.refl e5 c4_F1 c4_E_x (Or.inr ⟨(hw _ (List.mem_of_getElem? (i := 176) rfl)), rfl, hnm⟩) (hw _ (List.mem_of_getElem? (i := 148) rfl)) (ty := (.object "java/lang/Object")) (by decide) rfl rfl (g := (mkF m 16 #[.val (.ref x), .val (.ref v1)] [(.ref em), (.ref x)])) rfl rfl (hb hby own_d_jdk_44_method_1_16)
  have N6 := Fr.snoc X6 N3 g
  refine own_go (S' := (T6.setTop (mkF m 19 #[.val (.ref x), .val (.ref v1)] []))) st6 ?_
  have n6_F1 := c4_F1.same W6
  have c7_E_x := c4_E_x.wr W6
  have c7_SE := c4_SE.wr W6
  have c7_F0 := n3_F0.other W6 (Or.inr (slot_ne (Or.inr (hw _ (List.mem_of_getElem? (i := 173) rfl))) (Or.inr (hw _ (List.mem_of_getElem? (i := 176) rfl))) (by decide) (t := (.object "java/lang/Object")) (t' := (.object "java/lang/Object")) (by decide) (by decide)))
  have K6 := K3.wr W6 (Or.inl (List.mem_of_getElem? (i := 0) rfl))
  refine own_retV X6 hx hlk hret (hb hby own_d_jdk_44_method_1_19) ?_ (by decide) (by decide)
  rw [e6]
  exact ⟨rfl, N6, K6, c7_E_x, c7_F0, n6_F1⟩
set_option maxRecDepth 65536 in
set_option maxHeartbeats 40000000 in
theorem own_l2 (l : Launch) (Z : State) (a0 : Array Value) (hw : ∀ d ∈ tables_1, d.before a0 Z = true) (x : Addr) (v1 : Addr) (v2 : Addr)  (h0 : Heap) (n0 : Nat) (Z0 : n0 ≤ h0.size) (E_x : Exa Z h0 x "java/util/ImmutableCollections$List12") (F0 : Fld Z h0 x "java/util/ImmutableCollections$List12" "e0" "Ljava/lang/Object;" .null) (F1 : Fld Z h0 x "java/util/ImmutableCollections$List12" "e1" "Ljava/lang/Object;" .null) (g : n0 ≤ x) :
    own_C l Z (⟨"java/util/ImmutableCollections$List12", "<init>", "(Ljava/lang/Object;Ljava/lang/Object;)V"⟩ : MethodName) jdk_44_method_2_code 3 none [] ({ frames := 4, cells := 0, slots := 0, locals := 48 } : Room) #[(.ref x), (.ref v1), (.ref v2)] h0 (own_Q12 Z x v1 v2 h0 n0) := by
  refine MetFree.of_bodySF (plainFor_of_name own_pn7) hisR ?_
  intro p e s m args below meth c s₁ Bd hml0 hP hK
  obtain ⟨rfl, hZ, hh⟩ := hP
  have hx := Bd.exec
  have hby := Bd.bytes
  have hlk := Bd.notSynchronized
  have hret := Bd.returns
  have hml : c.maxLocals = 3 := hml0
  have hown : s.vm.findClass "java/util/ImmutableCollections$List12" = some m.cls := findClass_of_methodNamed Bd.named
  have hnm := (name_of_methodNamed Bd.named Bd.method).1
  have X0 : Stand p l e ({ frames := 4, cells := 0, slots := 0, locals := 48 } : Room) s m #[(.ref x), (.ref v1), (.ref v2)] below meth c s₁ [] 0 0 := Stand.of_body Bd
  have e0 : s₁.heap = h0 := by rw [← hh, Bd.state]; rfl
  have N0 := Fr.nil n0
  refine own_open (own_ef8 m x v1 v2) ?_
  refine own_go (S' := (s₁.setTop (mkF m 1 #[.val (.ref x), .val (.ref v1), .val (.ref v2)] [(.ref x)]))) (fun _ k => XS.aloadN X0.here hx rfl (hb hby own_d_jdk_44_method_2_0) rfl rfl  k) ?_
  obtain ⟨_, _, ⟨T1, L1, k1, n1⟩, -, X1, ⟨Lc1, hQ1, l1, y1, z1⟩, st1⟩ := X0.specialBack hx (y := (⟨"java/util/ImmutableCollections$AbstractImmutableList", "<init>", "()V"⟩ : MethodName)) rfl hown (mvT hZ (hw _ (List.mem_of_getElem? (i := 154) rfl))) (mvT hZ (hw _ (List.mem_of_getElem? (i := 155) rfl))) (mvT hZ (hw _ (List.mem_of_getElem? (i := 159) rfl))) (by decide) (backOf (W := 0) (own_ail l Z a0 hw x h0 n0 Z0) hZ (hw _ (List.mem_of_getElem? (i := 159) rfl)) (hw _ (List.mem_of_getElem? (i := 158) rfl)) (by decide) (by decide)) (g := (mkF m 1 #[.val (.ref x), .val (.ref v1), .val (.ref v2)] [(.ref x)])) rfl (by rw [hml]; rfl) (Steps.refl _) (a := x) (argsL := []) (rest := []) (lenOf own_pd2 rfl) rfl (by show 2 * 0 + _ ≤ _; exact Nat.le_of_eq rfl) (hb hby own_d_jdk_44_method_2_1) (fun _ _ => ⟨rfl, e0, (by decide : 0 + 0 ≤ _), (by decide : 0 + 0 ≤ _)⟩)
  dsimp only [Pt.U, Pt.locs, Pt.cells, Pt.slots] at X1 l1 y1 z1 st1 hQ1
  subst l1 y1 z1
  obtain ⟨rfl, N1q, hh1⟩ := hQ1
  have N1 := Fr.app N0 N1q
  refine own_via (S' := (T1.setTop (mkF m 4 #[.val (.ref x), .val (.ref v1), .val (.ref v2)] []))) st1 ?_
  refine own_go (S' := (T1.setTop (mkF m 5 #[.val (.ref x), .val (.ref v1), .val (.ref v2)] [(.ref x)]))) (fun _ k => XS.aloadN X1.here hx rfl (hb hby own_d_jdk_44_method_2_4) rfl rfl  k) ?_
  refine own_go (S' := (T1.setTop (mkF m 6 #[.val (.ref x), .val (.ref v1), .val (.ref v2)] [(.ref v1), (.ref x)]))) (fun _ k => XS.aloadN X1.here hx rfl (hb hby own_d_jdk_44_method_2_5) rfl rfl  k) ?_
  obtain ⟨_, _, ⟨T2, L2, k2, n2⟩, -, X2, ⟨Lc2, hQ2, l2, y2, z2⟩, st2⟩ := Jvm.LawKit.callS X1 hx (y := (⟨"java/util/Objects", "requireNonNull", "(Ljava/lang/Object;)Ljava/lang/Object;"⟩ : MethodName)) hown (mvT hZ (hw _ (List.mem_of_getElem? (i := 168) rfl))) (mvT hZ (hw _ (List.mem_of_getElem? (i := 169) rfl))) (mvT hZ (hw _ (List.mem_of_getElem? (i := 170) rfl))) (mvT hZ (hw _ (List.mem_of_getElem? (i := 171) rfl))) (by decide) (backOf (W := 1) (own_rnn l Z a0 hw v1 h0 n0 Z0) hZ (hw _ (List.mem_of_getElem? (i := 171) rfl)) (hw _ (List.mem_of_getElem? (i := 170) rfl)) (by decide) (by decide)) (g := (mkF m 6 #[.val (.ref x), .val (.ref v1), .val (.ref v2)] [(.ref v1), (.ref x)])) rfl (by rw [hml]; rfl) (argsL := [(.ref v1)]) (rest := [(.ref x)]) (lenOf own_pd7 rfl) rfl (by show 2 * 0 + _ ≤ _; exact Nat.le_of_eq rfl) (hb hby own_d_jdk_44_method_2_6) (fun _ _ => ⟨rfl, hh1, (by decide : 0 + 0 ≤ _), (by decide : 0 + 0 ≤ _)⟩)
  dsimp only [Pt.U, Pt.locs, Pt.cells, Pt.slots] at X2 l2 y2 z2 st2 hQ2
  subst l2 y2 z2
  obtain ⟨rfl, N2q, hh2⟩ := hQ2
  have N2 := Fr.app N1 N2q
  refine own_go (S' := (T2.setTop (mkF m 9 #[.val (.ref x), .val (.ref v1), .val (.ref v2)] [(.ref v1), (.ref x)]))) st2 ?_
  obtain ⟨T3, h3, X3, e3, W3, st3⟩ := putF X2 hx hZ hown (host := "") (Or.inl (hw _ (List.mem_of_getElem? (i := 172) rfl))) Via.refl hh2 F0 E_x (Or.inr ⟨(hw _ (List.mem_of_getElem? (i := 173) rfl)), rfl, hnm⟩) (hw _ (List.mem_of_getElem? (i := 148) rfl)) (ty := (.object "java/lang/Object")) (by decide) rfl rfl (g := (mkF m 9 #[.val (.ref x), .val (.ref v1), .val (.ref v2)] [(.ref v1), (.ref x)])) rfl rfl (hb hby own_d_jdk_44_method_2_9)
  have N3 := Fr.snoc X3 N2 g
  refine own_go (S' := (T3.setTop (mkF m 12 #[.val (.ref x), .val (.ref v1), .val (.ref v2)] []))) st3 ?_
  have n3_F0 := F0.same W3
  have c4_E_x := E_x.wr W3
  have c4_F1 := F1.other W3 (Or.inr (slot_ne (Or.inr (hw _ (List.mem_of_getElem? (i := 176) rfl))) (Or.inr (hw _ (List.mem_of_getElem? (i := 173) rfl))) (by decide) (t := (.object "java/lang/Object")) (t' := (.object "java/lang/Object")) (by decide) (by decide)))
  have K3 := (Keep.refl h0 [x]).wr W3 (Or.inl (List.mem_of_getElem? (i := 0) rfl))
  refine own_go (S' := (T3.setTop (mkF m 13 #[.val (.ref x), .val (.ref v1), .val (.ref v2)] [(.ref x)]))) (fun _ k => XS.aloadN X3.here hx rfl (hb hby own_d_jdk_44_method_2_12) rfl rfl  k) ?_
  refine own_go (S' := (T3.setTop (mkF m 14 #[.val (.ref x), .val (.ref v1), .val (.ref v2)] [(.ref v2), (.ref x)]))) (fun _ k => XS.aloadN X3.here hx rfl (hb hby own_d_jdk_44_method_2_13) rfl rfl  k) ?_
  obtain ⟨_, _, ⟨T5, L5, k5, n5⟩, -, X5, ⟨Lc5, hQ5, l5, y5, z5⟩, st5⟩ := Jvm.LawKit.callS X3 hx (y := (⟨"java/util/Objects", "requireNonNull", "(Ljava/lang/Object;)Ljava/lang/Object;"⟩ : MethodName)) hown (mvT hZ (hw _ (List.mem_of_getElem? (i := 168) rfl))) (mvT hZ (hw _ (List.mem_of_getElem? (i := 169) rfl))) (mvT hZ (hw _ (List.mem_of_getElem? (i := 170) rfl))) (mvT hZ (hw _ (List.mem_of_getElem? (i := 171) rfl))) (by decide) (backOf (W := 1) (own_rnn l Z a0 hw v2 h3 n0 (Nat.le_trans Z0 K3.1)) hZ (hw _ (List.mem_of_getElem? (i := 171) rfl)) (hw _ (List.mem_of_getElem? (i := 170) rfl)) (by decide) (by decide)) (g := (mkF m 14 #[.val (.ref x), .val (.ref v1), .val (.ref v2)] [(.ref v2), (.ref x)])) rfl (by rw [hml]; rfl) (argsL := [(.ref v2)]) (rest := [(.ref x)]) (lenOf own_pd7 rfl) rfl (by show 2 * 0 + _ ≤ _; exact Nat.le_of_eq rfl) (hb hby own_d_jdk_44_method_2_14) (fun _ _ => ⟨rfl, e3, (by decide : 0 + 0 ≤ _), (by decide : 0 + 0 ≤ _)⟩)
  dsimp only [Pt.U, Pt.locs, Pt.cells, Pt.slots] at X5 l5 y5 z5 st5 hQ5
  subst l5 y5 z5
  obtain ⟨rfl, N5q, hh5⟩ := hQ5
  have N5 := Fr.app N3 N5q
  refine own_go (S' := (T5.setTop (mkF m 17 #[.val (.ref x), .val (.ref v1), .val (.ref v2)] [(.ref v2), (.ref x)]))) st5 ?_
  obtain ⟨T6, h6, X6, e6, W6, st6⟩ := putF X5 hx hZ hown (host := "") (Or.inl (hw _ (List.mem_of_getElem? (i := 175) rfl))) Via.refl hh5 c4_F1 c4_E_x (Or.inr ⟨(hw _ (List.mem_of_getElem? (i := 176) rfl)), rfl, hnm⟩) (hw _ (List.mem_of_getElem? (i := 148) rfl)) (ty := (.object "java/lang/Object")) (by decide) rfl rfl (g := (mkF m 17 #[.val (.ref x), .val (.ref v1), .val (.ref v2)] [(.ref v2), (.ref x)])) rfl rfl (hb hby own_d_jdk_44_method_2_17)
  have N6 := Fr.snoc X6 N5 g
  refine own_go (S' := (T6.setTop (mkF m 20 #[.val (.ref x), .val (.ref v1), .val (.ref v2)] []))) st6 ?_
  have n6_F1 := c4_F1.same W6
  have c7_E_x := c4_E_x.wr W6
  have c7_F0 := n3_F0.other W6 (Or.inr (slot_ne (Or.inr (hw _ (List.mem_of_getElem? (i := 173) rfl))) (Or.inr (hw _ (List.mem_of_getElem? (i := 176) rfl))) (by decide) (t := (.object "java/lang/Object")) (t' := (.object "java/lang/Object")) (by decide) (by decide)))
  have K6 := K3.wr W6 (Or.inl (List.mem_of_getElem? (i := 0) rfl))
  refine own_retV X6 hx hlk hret (hb hby own_d_jdk_44_method_2_20) ?_ (by decide) (by decide)
  rw [e6]
  exact ⟨rfl, N6, K6, c7_E_x, c7_F0, n6_F1⟩
set_option maxRecDepth 65536 in
set_option maxHeartbeats 40000000 in
theorem own_ln (l : Launch) (Z : State) (a0 : Array Value) (hw : ∀ d ∈ tables_1, d.before a0 Z = true) (x : Addr) (ar : Addr)  (h0 : Heap) (n0 : Nat) (Z0 : n0 ≤ h0.size) (E_x : Exa Z h0 x "java/util/ImmutableCollections$ListN") (F0 : Fld Z h0 x "java/util/ImmutableCollections$ListN" "elements" "[Ljava/lang/Object;" .null) (F1 : Fld Z h0 x "java/util/ImmutableCollections$ListN" "allowNulls" "Z" (.int 0)) (g : n0 ≤ x) :
    own_C l Z (⟨"java/util/ImmutableCollections$ListN", "<init>", "([Ljava/lang/Object;Z)V"⟩ : MethodName) jdk_45_method_1_code 3 none [] ({ frames := 4, cells := 0, slots := 0, locals := 48 } : Room) #[(.ref x), (.ref ar), (.int (0 : Int32))] h0 (own_QN Z x ar h0 n0) := by
  refine MetFree.of_bodySF (plainFor_of_name own_pn8) hisR ?_
  intro p e s m args below meth c s₁ Bd hml0 hP hK
  obtain ⟨rfl, hZ, hh⟩ := hP
  have hx := Bd.exec
  have hby := Bd.bytes
  have hlk := Bd.notSynchronized
  have hret := Bd.returns
  have hml : c.maxLocals = 3 := hml0
  have hown : s.vm.findClass "java/util/ImmutableCollections$ListN" = some m.cls := findClass_of_methodNamed Bd.named
  have hnm := (name_of_methodNamed Bd.named Bd.method).1
  have X0 : Stand p l e ({ frames := 4, cells := 0, slots := 0, locals := 48 } : Room) s m #[(.ref x), (.ref ar), (.int (0 : Int32))] below meth c s₁ [] 0 0 := Stand.of_body Bd
  have e0 : s₁.heap = h0 := by rw [← hh, Bd.state]; rfl
  have N0 := Fr.nil n0
  refine own_open (own_ef9 m x ar ((0 : Int32))) ?_
  refine own_go (S' := (s₁.setTop (mkF m 1 #[.val (.ref x), .val (.ref ar), .val (.int (0 : Int32))] [(.ref x)]))) (fun _ k => XS.aloadN X0.here hx rfl (hb hby own_d_jdk_45_method_1_0) rfl rfl  k) ?_
  obtain ⟨_, _, ⟨T1, L1, k1, n1⟩, -, X1, ⟨Lc1, hQ1, l1, y1, z1⟩, st1⟩ := X0.specialBack hx (y := (⟨"java/util/ImmutableCollections$AbstractImmutableList", "<init>", "()V"⟩ : MethodName)) rfl hown (mvT hZ (hw _ (List.mem_of_getElem? (i := 214) rfl))) (mvT hZ (hw _ (List.mem_of_getElem? (i := 155) rfl))) (mvT hZ (hw _ (List.mem_of_getElem? (i := 159) rfl))) (by decide) (backOf (W := 0) (own_ail l Z a0 hw x h0 n0 Z0) hZ (hw _ (List.mem_of_getElem? (i := 159) rfl)) (hw _ (List.mem_of_getElem? (i := 158) rfl)) (by decide) (by decide)) (g := (mkF m 1 #[.val (.ref x), .val (.ref ar), .val (.int (0 : Int32))] [(.ref x)])) rfl (by rw [hml]; rfl) (Steps.refl _) (a := x) (argsL := []) (rest := []) (lenOf own_pd2 rfl) rfl (by show 2 * 0 + _ ≤ _; exact Nat.le_of_eq rfl) (hb hby own_d_jdk_45_method_1_1) (fun _ _ => ⟨rfl, e0, (by decide : 0 + 0 ≤ _), (by decide : 0 + 0 ≤ _)⟩)
  dsimp only [Pt.U, Pt.locs, Pt.cells, Pt.slots] at X1 l1 y1 z1 st1 hQ1
  subst l1 y1 z1
  obtain ⟨rfl, N1q, hh1⟩ := hQ1
  have N1 := Fr.app N0 N1q
  refine own_via (S' := (T1.setTop (mkF m 4 #[.val (.ref x), .val (.ref ar), .val (.int (0 : Int32))] []))) st1 ?_
  refine own_go (S' := (T1.setTop (mkF m 5 #[.val (.ref x), .val (.ref ar), .val (.int (0 : Int32))] [(.ref x)]))) (fun _ k => XS.aloadN X1.here hx rfl (hb hby own_d_jdk_45_method_1_4) rfl rfl  k) ?_
  refine own_go (S' := (T1.setTop (mkF m 6 #[.val (.ref x), .val (.ref ar), .val (.int (0 : Int32))] [(.ref ar), (.ref x)]))) (fun _ k => XS.aloadN X1.here hx rfl (hb hby own_d_jdk_45_method_1_5) rfl rfl  k) ?_
  obtain ⟨T2, h2, X2, e2, W2, st2⟩ := putF X1 hx hZ hown (host := "") (Or.inl (hw _ (List.mem_of_getElem? (i := 218) rfl))) Via.refl hh1 F0 E_x (Or.inr ⟨(hw _ (List.mem_of_getElem? (i := 219) rfl)), rfl, hnm⟩) (hw _ (List.mem_of_getElem? (i := 208) rfl)) (ty := (.array (.object "java/lang/Object"))) (by decide) rfl rfl (g := (mkF m 6 #[.val (.ref x), .val (.ref ar), .val (.int (0 : Int32))] [(.ref ar), (.ref x)])) rfl rfl (hb hby own_d_jdk_45_method_1_6)
  have N2 := Fr.snoc X2 N1 g
  refine own_go (S' := (T2.setTop (mkF m 9 #[.val (.ref x), .val (.ref ar), .val (.int (0 : Int32))] []))) st2 ?_
  have n2_F0 := F0.same W2
  have c3_E_x := E_x.wr W2
  have c3_F1 := F1.other W2 (Or.inr (slot_ne (Or.inr (hw _ (List.mem_of_getElem? (i := 221) rfl))) (Or.inr (hw _ (List.mem_of_getElem? (i := 219) rfl))) (by decide) (t := .boolean) (t' := (.array (.object "java/lang/Object"))) (by decide) (by decide)))
  have K2 := (Keep.refl h0 [x]).wr W2 (Or.inl (List.mem_of_getElem? (i := 0) rfl))
  refine own_go (S' := (T2.setTop (mkF m 10 #[.val (.ref x), .val (.ref ar), .val (.int (0 : Int32))] [(.ref x)]))) (fun _ k => XS.aloadN X2.here hx rfl (hb hby own_d_jdk_45_method_1_9) rfl rfl  k) ?_
  refine own_go (S' := (T2.setTop (mkF m 11 #[.val (.ref x), .val (.ref ar), .val (.int (0 : Int32))] [(.int (0 : Int32)), (.ref x)]))) (fun _ k => XS.iloadN X2.here hx rfl (hb hby own_d_jdk_45_method_1_10) rfl  k) ?_
  obtain ⟨T4, h4, X4, e4, W4, st4⟩ := putFN X2 hx hZ hown (hw _ (List.mem_of_getElem? (i := 220) rfl)) Via.refl e2 c3_F1 c3_E_x (Or.inr ⟨(hw _ (List.mem_of_getElem? (i := 221) rfl)), rfl, hnm⟩) (hw _ (List.mem_of_getElem? (i := 208) rfl)) (ty := .boolean) (v' := (.int (0 : Int32))) (by decide) rfl rfl (g := (mkF m 11 #[.val (.ref x), .val (.ref ar), .val (.int (0 : Int32))] [(.int (0 : Int32)), (.ref x)])) rfl rfl (hb hby own_d_jdk_45_method_1_11)
  have N4 := Fr.snoc X4 N2 g
  refine own_go (S' := (T4.setTop (mkF m 14 #[.val (.ref x), .val (.ref ar), .val (.int (0 : Int32))] []))) st4 ?_
  have n4_F1 := c3_F1.same W4
  have c5_E_x := c3_E_x.wr W4
  have c5_F0 := n2_F0.other W4 (Or.inr (slot_ne (Or.inr (hw _ (List.mem_of_getElem? (i := 219) rfl))) (Or.inr (hw _ (List.mem_of_getElem? (i := 221) rfl))) (by decide) (t := (.array (.object "java/lang/Object"))) (t' := .boolean) (by decide) (by decide)))
  have K4 := K2.wr W4 (Or.inl (List.mem_of_getElem? (i := 0) rfl))
  refine own_retV X4 hx hlk hret (hb hby own_d_jdk_45_method_1_14) ?_ (by decide) (by decide)
  rw [e4]
  exact ⟨rfl, N4, K4, c5_E_x, c5_F0⟩
set_option maxRecDepth 65536 in
set_option maxHeartbeats 40000000 in
theorem own_c3_1 (l : Launch) (Z : State) (a0 : Array Value) (hw : ∀ d ∈ tables_1, d.before a0 Z = true) (ea : Addr) (mr : Addr) (d1 : Addr) (k : ClassId) (h0 : Heap) (n0 : Nat) (Z0 : n0 ≤ h0.size) (V : Arv Z h0 ea k (.object "java/lang/Object") 10 [.ref d1, .null, .null, .null, .null, .null, .null, .null, .null, .null] .null) (Ex : Exa Z h0 ea "[Ljava/lang/Object;") (Ed1 : Exa Z h0 d1 "java/time/Duration") (mw : own_Mir Z mr) :
    own_C l Z (⟨"java/util/Arrays", "copyOf", "([Ljava/lang/Object;ILjava/lang/Class;)[Ljava/lang/Object;"⟩ : MethodName) jdk_65_method_120_code 4 (some (.array (.object "java/lang/Object"))) [] ({ frames := 1, cells := 1, slots := 1, locals := 18 } : Room) #[(.ref ea), (.int (1 : Int32)), (.ref mr)] h0 (own_Qt Z (1 : Int32) [.ref d1] h0 n0) := by
  refine MetFree.of_bodySF (plainFor_of_name own_pn9) hisR ?_
  intro p e s m args below meth c s₁ Bd hml0 hP hK
  obtain ⟨rfl, hZ, hh⟩ := hP
  have hx := Bd.exec
  have hby := Bd.bytes
  have hlk := Bd.notSynchronized
  have hret := Bd.returns
  have hml : c.maxLocals = 4 := hml0
  have hown : s.vm.findClass "java/util/Arrays" = some m.cls := findClass_of_methodNamed Bd.named
  have hnm := (name_of_methodNamed Bd.named Bd.method).1
  have X0 : Stand p l e ({ frames := 1, cells := 1, slots := 1, locals := 18 } : Room) s m #[(.ref ea), (.int (1 : Int32)), (.ref mr)] below meth c s₁ [] 0 0 := Stand.of_body Bd
  have e0 : s₁.heap = h0 := by rw [← hh, Bd.state]; rfl
  have N0 := Fr.nil n0
  refine own_open (own_ef10 m ea ((1 : Int32)) mr) ?_
  refine own_go (S' := (s₁.setTop (mkF m 1 #[.val (.ref ea), .val (.int (1 : Int32)), .val (.ref mr), .unset] [(.ref mr)]))) (fun _ k => XS.aloadN X0.here hx rfl (hb hby own_d_jdk_65_method_120_0) rfl rfl  k) ?_
  have mv1 := mw
  obtain ⟨cc1, kc1, mw11, mw21, mw31⟩ := mv1
  obtain ⟨kd1, mq1, ek1⟩ := hZ.alike.2.2 _ _ mw21
  have q1_1 := mw11
  rw [← hZ.alike.findClass] at q1_1
  have q3_1 : kd1.mirror = some mr := by rw [ek1]; exact mw31
  obtain ⟨vm1, X1, st1⟩ := X0.ldcMirror hx hown (mvT hZ (hw _ (List.mem_of_getElem? (i := 135) rfl))) (C := "[Ljava/lang/Object;") (a := mr) (by simp [Term.eval, q1_1, mq1, q3_1]) (g := (mkF m 1 #[.val (.ref ea), .val (.int (1 : Int32)), .val (.ref mr), .unset] [(.ref mr)])) rfl (hb hby own_d_jdk_65_method_120_1)
  have e1 : (s₁.setVm vm1).heap = h0 := e0
  refine own_go (S' := ((s₁.setVm vm1).setTop (mkF m 3 #[.val (.ref ea), .val (.int (1 : Int32)), .val (.ref mr), .unset] [(.ref mr), (.ref mr)]))) st1 ?_
  refine own_go (S' := ((s₁.setVm vm1).setTop (mkF m 6 #[.val (.ref ea), .val (.int (1 : Int32)), .val (.ref mr), .unset] []))) (fun _ k => Jvm.RoadKit.acmp (g := (mkF m 3 #[.val (.ref ea), .val (.int (1 : Int32)), .val (.ref mr), .unset] [(.ref mr), (.ref mr)])) X1 hx rfl rfl rfl (pc0 := 3) (pc' := 6) (same := true) rfl (hb hby own_d_jdk_65_method_120_3) rfl (decide_eq_true rfl) (by decide) (by decide) k) ?_
  refine own_go (S' := ((s₁.setVm vm1).setTop (mkF m 7 #[.val (.ref ea), .val (.int (1 : Int32)), .val (.ref mr), .unset] [(.int (1 : Int32))]))) (fun _ k => XS.iloadN X1.here hx rfl (hb hby own_d_jdk_65_method_120_6) rfl  k) ?_
  obtain ⟨T2, h2, k2, X2, e2, E2, A2, Ex2, O2, st2⟩ := newRE X1 hx hZ hown (hw _ (List.mem_of_getElem? (i := 136) rfl)) (hw _ (List.mem_of_getElem? (i := 77) rfl)) e1 (g := (mkF m 7 #[.val (.ref ea), .val (.int (1 : Int32)), .val (.ref mr), .unset] [(.int (1 : Int32))])) rfl (hb hby own_d_jdk_65_method_120_7) rfl (by decide) (cap := 1) (by decide) (by decide) (by decide) (by decide) (ad := "[Ljava/lang/Object;") (by decide +kernel)
  obtain ⟨r, g2⟩ : ∃ z, z = h0.size := ⟨_, rfl⟩
  rw [← g2] at A2 Ex2 st2
  have V2 : Arv Z h2 r k2 (.object "java/lang/Object") (1 : Int32) [.null] .null := (Arv.new A2 (by decide)).pad (pad_rep [] .null 1)
  refine own_go (S' := (T2.setTop (mkF m 10 #[.val (.ref ea), .val (.int (1 : Int32)), .val (.ref mr), .unset] [(.ref r)]))) st2 ?_
  have sz_r : h0.size ≤ r := Nat.le_trans (Keep.refl h0 []).1 (Nat.le_of_eq g2.symm)
  have gn_r : n0 ≤ r := Nat.le_trans Z0 sz_r
  have ne_ea_r : ea ≠ r := Nat.ne_of_lt (Nat.lt_of_lt_of_le V.lt (Nat.le_of_eq g2.symm))
  have ne_d1_r : d1 ≠ r := Nat.ne_of_lt (Nat.lt_of_lt_of_le Ed1.lt (Nat.le_of_eq g2.symm))
  have c3_V := V.ext E2
  have c3_Ex := Ex.ext E2
  have c3_Ed1 := Ed1.ext E2
  have K2 := (Keep.refl h0 []).ext E2
  refine own_go (S' := (T2.setTop (mkF m 24 #[.val (.ref ea), .val (.int (1 : Int32)), .val (.ref mr), .unset] [(.ref r)]))) (fun _ k => XS.goto X2.here hx rfl (pc0 := 10) (pc' := 24) rfl (hb hby own_d_jdk_65_method_120_10) (by decide) (by decide) k) ?_
  refine own_go (S' := (T2.setTop (mkF m 25 #[.val (.ref ea), .val (.int (1 : Int32)), .val (.ref mr), .val (.ref r)] []))) (fun _ k => XS.astoreN X2.here hx rfl (hb hby own_d_jdk_65_method_120_24) rfl rfl (l' := #[.val (.ref ea), .val (.int (1 : Int32)), .val (.ref mr), .val (.ref r)]) rfl k) ?_
  refine own_go (S' := (T2.setTop (mkF m 26 #[.val (.ref ea), .val (.int (1 : Int32)), .val (.ref mr), .val (.ref r)] [(.ref ea)]))) (fun _ k => XS.aloadN X2.here hx rfl (hb hby own_d_jdk_65_method_120_25) rfl rfl  k) ?_
  refine own_go (S' := (T2.setTop (mkF m 27 #[.val (.ref ea), .val (.int (1 : Int32)), .val (.ref mr), .val (.ref r)] [(.int (0 : Int32)), (.ref ea)]))) (fun _ k => XS.iconst X2.here hx rfl (hb hby own_d_jdk_65_method_120_26) k) ?_
  refine own_go (S' := (T2.setTop (mkF m 28 #[.val (.ref ea), .val (.int (1 : Int32)), .val (.ref mr), .val (.ref r)] [(.ref r), (.int (0 : Int32)), (.ref ea)]))) (fun _ k => XS.aloadN X2.here hx rfl (hb hby own_d_jdk_65_method_120_27) rfl rfl  k) ?_
  refine own_go (S' := (T2.setTop (mkF m 29 #[.val (.ref ea), .val (.int (1 : Int32)), .val (.ref mr), .val (.ref r)] [(.int (0 : Int32)), (.ref r), (.int (0 : Int32)), (.ref ea)]))) (fun _ k => XS.iconst X2.here hx rfl (hb hby own_d_jdk_65_method_120_28) k) ?_
  refine own_go (S' := (T2.setTop (mkF m 30 #[.val (.ref ea), .val (.int (1 : Int32)), .val (.ref mr), .val (.ref r)] [(.ref ea), (.int (0 : Int32)), (.ref r), (.int (0 : Int32)), (.ref ea)]))) (fun _ k => XS.aloadN X2.here hx rfl (hb hby own_d_jdk_65_method_120_29) rfl rfl  k) ?_
  have vv4 := c3_V
  obtain ⟨cl4, Ar4, qa4, Sz4, Ng4, Ha4, Ga4⟩ := vv4
  refine own_go (S' := (T2.setTop (mkF m 31 #[.val (.ref ea), .val (.int (1 : Int32)), .val (.ref mr), .val (.ref r)] [(.int cl4.slots.size.toInt32), (.int (0 : Int32)), (.ref r), (.int (0 : Int32)), (.ref ea)]))) (fun _ k => X2.arraylength hx (by rw [e2]; exact Ar4.1) (State.isArrayOf_alike hZ.alike Ar4.2.1) (g := (mkF m 30 #[.val (.ref ea), .val (.int (1 : Int32)), .val (.ref mr), .val (.ref r)] [(.ref ea), (.int (0 : Int32)), (.ref r), (.int (0 : Int32)), (.ref ea)])) rfl rfl (hb hby own_d_jdk_65_method_120_30) _ k) ?_
  rw [len_of Sz4 Ng4]
  refine own_go (S' := (T2.setTop (mkF m 32 #[.val (.ref ea), .val (.int (1 : Int32)), .val (.ref mr), .val (.ref r)] [(.int (1 : Int32)), (.int (10 : Int32)), (.int (0 : Int32)), (.ref r), (.int (0 : Int32)), (.ref ea)]))) (fun _ k => XS.iloadN X2.here hx rfl (hb hby own_d_jdk_65_method_120_31) rfl  k) ?_
  obtain ⟨_, _, ⟨T5, L5, k5, n5⟩, -, X5, ⟨Lc5, hQ5, l5, y5, z5⟩, st5⟩ := Jvm.LawKit.callS X2 hx (y := (⟨"java/lang/Math", "min", "(II)I"⟩ : MethodName)) hown (mvT hZ (hw _ (List.mem_of_getElem? (i := 137) rfl))) (mvT hZ (hw _ (List.mem_of_getElem? (i := 138) rfl))) (mvT hZ (hw _ (List.mem_of_getElem? (i := 3) rfl))) (mvT hZ (hw _ (List.mem_of_getElem? (i := 139) rfl))) (by decide) (backOf (W := 4) (own_min l Z a0 hw (10 : Int32) (1 : Int32) (1 : Int32) h2 n0 (Nat.le_trans Z0 K2.1) (Or.inr ⟨by decide, rfl⟩)) hZ (hw _ (List.mem_of_getElem? (i := 139) rfl)) (hw _ (List.mem_of_getElem? (i := 3) rfl)) (by decide) (by decide)) (g := (mkF m 32 #[.val (.ref ea), .val (.int (1 : Int32)), .val (.ref mr), .val (.ref r)] [(.int (1 : Int32)), (.int (10 : Int32)), (.int (0 : Int32)), (.ref r), (.int (0 : Int32)), (.ref ea)])) rfl (by rw [hml]; rfl) (argsL := [(.int (10 : Int32)), (.int (1 : Int32))]) (rest := [(.int (0 : Int32)), (.ref r), (.int (0 : Int32)), (.ref ea)]) (lenOf own_pd3 rfl) rfl (by show 2 * 0 + _ ≤ _; exact Nat.le_of_eq rfl) (hb hby own_d_jdk_65_method_120_32) (fun _ _ => ⟨rfl, e2, (by decide : 1 + 0 ≤ _), (by decide : 1 + 0 ≤ _)⟩)
  dsimp only [Pt.U, Pt.locs, Pt.cells, Pt.slots] at X5 l5 y5 z5 st5 hQ5
  subst l5 y5 z5
  obtain ⟨rfl, N5q, hh5⟩ := hQ5
  have N5 := Fr.app N0 N5q
  refine own_go (S' := (T5.setTop (mkF m 35 #[.val (.ref ea), .val (.int (1 : Int32)), .val (.ref mr), .val (.ref r)] [(.int (1 : Int32)), (.int (0 : Int32)), (.ref r), (.int (0 : Int32)), (.ref ea)]))) st5 ?_
  have vv7 := V2
  obtain ⟨cl7, Ar7, qa7, Sz7, Ng7, Ha7, Ga7⟩ := vv7
  have sto6 : StoL Z h2 r [.ref d1] := ⟨Sto.ofV Ar7 qa7 O2 (Ins.of_exa c3_Ed1 (hw _ (List.mem_of_getElem? (i := 78) rfl))), trivial⟩
  obtain ⟨T6, h6, L6, X6, e6, N6, Kc6, V6, st6⟩ := cpA X5 hx hZ hown (hw _ (List.mem_of_getElem? (i := 140) rfl)) (hw _ (List.mem_of_getElem? (i := 143) rfl)) (hw _ (List.mem_of_getElem? (i := 141) rfl)) (hw _ (List.mem_of_getElem? (i := 142) rfl)) hh5 c3_V V2 (us := [.ref d1]) (sp := 0) (dp := 0) (nn := (1 : Int32)) (Or.inr ⟨rfl, rfl, sto6⟩) (by decide) (by decide) (by decide) (by decide) (by decide) rfl (by decide) N5 gn_r (g := (mkF m 35 #[.val (.ref ea), .val (.int (1 : Int32)), .val (.ref mr), .val (.ref r)] [(.int (1 : Int32)), (.int (0 : Int32)), (.ref r), (.int (0 : Int32)), (.ref ea)])) rfl (by rw [hml]; rfl) rfl (hb hby own_d_jdk_65_method_120_35) (by decide) (W := 0) (by show 2 * 0 + _ ≤ _; exact Nat.le_of_eq rfl) (by decide)
  refine own_go (S' := (T6.setTop (mkF m 38 #[.val (.ref ea), .val (.int (1 : Int32)), .val (.ref mr), .val (.ref r)] []))) st6 ?_
  have K6x := K2.trans Kc6 (allS (Or.inr sz_r) all0)
  refine own_go (S' := (T6.setTop (mkF m 39 #[.val (.ref ea), .val (.int (1 : Int32)), .val (.ref mr), .val (.ref r)] [(.ref r)]))) (fun _ k => XS.aloadN X6.here hx rfl (hb hby own_d_jdk_65_method_120_38) rfl rfl  k) ?_
  refine own_retA X6 hx hlk hret rfl rfl (hb hby own_d_jdk_65_method_120_39) ?_ (by decide) (by decide)
  rw [e6]
  exact ⟨_, _, rfl, N6, K6x, V6, sz_r⟩
set_option maxRecDepth 65536 in
set_option maxHeartbeats 40000000 in
theorem own_c2_1 (l : Launch) (Z : State) (a0 : Array Value) (hw : ∀ d ∈ tables_1, d.before a0 Z = true) (ea : Addr) (d1 : Addr) (k : ClassId) (mr : Addr) (h0 : Heap) (n0 : Nat) (Z0 : n0 ≤ h0.size) (V : Arv Z h0 ea k (.object "java/lang/Object") 10 [.ref d1, .null, .null, .null, .null, .null, .null, .null, .null, .null] .null) (Ex : Exa Z h0 ea "[Ljava/lang/Object;") (Ed1 : Exa Z h0 d1 "java/time/Duration") (mw : own_Mir Z mr) :
    own_C l Z (⟨"java/util/Arrays", "copyOf", "([Ljava/lang/Object;I)[Ljava/lang/Object;"⟩ : MethodName) jdk_65_method_119_code 2 (some (.array (.object "java/lang/Object"))) [] ({ frames := 2, cells := 1, slots := 1, locals := 33 } : Room) #[(.ref ea), (.int (1 : Int32))] h0 (own_Qt Z (1 : Int32) [.ref d1] h0 n0) := by
  refine MetFree.of_bodySF (plainFor_of_name own_pn9) hisR ?_
  intro p e s m args below meth c s₁ Bd hml0 hP hK
  obtain ⟨rfl, hZ, hh⟩ := hP
  have hx := Bd.exec
  have hby := Bd.bytes
  have hlk := Bd.notSynchronized
  have hret := Bd.returns
  have hml : c.maxLocals = 2 := hml0
  have hown : s.vm.findClass "java/util/Arrays" = some m.cls := findClass_of_methodNamed Bd.named
  have hnm := (name_of_methodNamed Bd.named Bd.method).1
  have X0 : Stand p l e ({ frames := 2, cells := 1, slots := 1, locals := 33 } : Room) s m #[(.ref ea), (.int (1 : Int32))] below meth c s₁ [] 0 0 := Stand.of_body Bd
  have e0 : s₁.heap = h0 := by rw [← hh, Bd.state]; rfl
  have N0 := Fr.nil n0
  refine own_open (own_ef11 m ea ((1 : Int32))) ?_
  refine own_go (S' := (s₁.setTop (mkF m 1 #[.val (.ref ea), .val (.int (1 : Int32))] [(.ref ea)]))) (fun _ k => XS.aloadN X0.here hx rfl (hb hby own_d_jdk_65_method_119_0) rfl rfl  k) ?_
  refine own_go (S' := (s₁.setTop (mkF m 2 #[.val (.ref ea), .val (.int (1 : Int32))] [(.int (1 : Int32)), (.ref ea)]))) (fun _ k => XS.iloadN X0.here hx rfl (hb hby own_d_jdk_65_method_119_1) rfl  k) ?_
  refine own_go (S' := (s₁.setTop (mkF m 3 #[.val (.ref ea), .val (.int (1 : Int32))] [(.ref ea), (.int (1 : Int32)), (.ref ea)]))) (fun _ k => XS.aloadN X0.here hx rfl (hb hby own_d_jdk_65_method_119_2) rfl rfl  k) ?_
  have mv1 := mw
  obtain ⟨cc1, kc1, mw11, mw21, mw31⟩ := mv1
  obtain ⟨kd1, mq1, ek1⟩ := hZ.alike.2.2 _ _ mw21
  obtain ⟨cB1, kB1, ia1, ib1, ic1⟩ := isOf hZ e0 Ex
  obtain ⟨vm1, X1, st1⟩ := Jvm.Stand.getClassOf X0 hx hown (mvT hZ (hw _ (List.mem_of_getElem? (i := 126) rfl))) (mvT hZ (hw _ (List.mem_of_getElem? (i := 127) rfl))) (nf_top (args := #[]) (mvT hZ (hw _ (List.mem_of_getElem? (i := 107) rfl)))) (mvT hZ (hw _ (List.mem_of_getElem? (i := 129) rfl))) (mvT hZ (hw _ (List.mem_of_getElem? (i := 128) rfl))) (mvT hZ (hw _ (List.mem_of_getElem? (i := 130) rfl))) (by rw [hZ.alike.findClass]; exact mw11) (by have q := ia1; rw [hZ.alike.findClass] at q; cases q.symm.trans mw11; exact ic1) mq1 (by rw [ek1]; exact mw31) (g := (mkF m 3 #[.val (.ref ea), .val (.int (1 : Int32))] [(.ref ea), (.int (1 : Int32)), (.ref ea)])) rfl (by rw [hml]; rfl) rfl (hb hby own_d_jdk_65_method_119_3) (by decide) (by rw [show nativeFrameWords "java/lang/Object" "getClass" 1 = 3 from by decide +kernel]; show 2 * 0 + (1 + (1 + 0)) + (3 + 11) ≤ 33; decide)
  have e1 : (s₁.setVm vm1).heap = h0 := e0
  refine own_go (S' := ((s₁.setVm vm1).setTop (mkF m 6 #[.val (.ref ea), .val (.int (1 : Int32))] [(.ref mr), (.int (1 : Int32)), (.ref ea)]))) st1 ?_
  obtain ⟨_, _, ⟨T2, L2, k2, n2⟩, -, X2, ⟨Lc2, hQ2, l2, y2, z2⟩, st2⟩ := Jvm.LawKit.callS X1 hx (y := (⟨"java/util/Arrays", "copyOf", "([Ljava/lang/Object;ILjava/lang/Class;)[Ljava/lang/Object;"⟩ : MethodName)) hown (mvT hZ (hw _ (List.mem_of_getElem? (i := 132) rfl))) (mvT hZ (hw _ (List.mem_of_getElem? (i := 133) rfl))) (mvT hZ (hw _ (List.mem_of_getElem? (i := 124) rfl))) (mvT hZ (hw _ (List.mem_of_getElem? (i := 134) rfl))) (by decide) (backOf (W := 0) (own_c3_1 l Z a0 hw ea mr d1 k h0 n0 Z0 V Ex Ed1 mw) hZ (hw _ (List.mem_of_getElem? (i := 134) rfl)) (hw _ (List.mem_of_getElem? (i := 124) rfl)) (by decide) (by decide)) (g := (mkF m 6 #[.val (.ref ea), .val (.int (1 : Int32))] [(.ref mr), (.int (1 : Int32)), (.ref ea)])) rfl (by rw [hml]; rfl) (argsL := [(.ref ea), (.int (1 : Int32)), (.ref mr)]) (rest := []) (lenOf own_pd8 rfl) rfl (by show 2 * 0 + _ ≤ _; exact Nat.le_of_eq rfl) (hb hby own_d_jdk_65_method_119_6) (fun _ _ => ⟨rfl, e1, (by decide : 0 + 1 ≤ _), (by decide : 0 + 1 ≤ _)⟩)
  dsimp only [Pt.U, Pt.locs, Pt.cells, Pt.slots] at X2 l2 y2 z2 st2 hQ2
  subst l2 y2 z2
  obtain ⟨r2, k2c, rfl, N2q, Kc2, V2c, s2c⟩ := hQ2
  have N2 := Fr.app N0 N2q
  refine own_go (S' := (T2.setTop (mkF m 9 #[.val (.ref ea), .val (.int (1 : Int32))] [(.ref r2)]))) st2 ?_
  refine own_retA X2 hx hlk hret rfl rfl (hb hby own_d_jdk_65_method_119_9) ?_ (by decide) (by decide)
  exact ⟨_, _, rfl, N2, Kc2, V2c, s2c⟩
set_option maxRecDepth 65536 in
set_option maxHeartbeats 40000000 in
theorem own_ta1 (l : Launch) (Z : State) (a0 : Array Value) (hw : ∀ d ∈ tables_1, d.before a0 Z = true) (a : Addr) (ea : Addr) (d1 : Addr) (k : ClassId) (mr : Addr) (h0 : Heap) (n0 : Nat) (Z0 : n0 ≤ h0.size) (E_a : Exa Z h0 a "java/util/ArrayList") (Fe : Fld Z h0 a "java/util/ArrayList" "elementData" "[Ljava/lang/Object;" (.ref ea)) (Fs : Fld Z h0 a "java/util/ArrayList" "size" "I" (.int (1 : Int32))) (V : Arv Z h0 ea k (.object "java/lang/Object") 10 [.ref d1, .null, .null, .null, .null, .null, .null, .null, .null, .null] .null) (Ex : Exa Z h0 ea "[Ljava/lang/Object;") (Ed1 : Exa Z h0 d1 "java/time/Duration") (mw : own_Mir Z mr) :
    own_C l Z (⟨"java/util/ArrayList", "toArray", "()[Ljava/lang/Object;"⟩ : MethodName) jdk_38_method_16_code 1 (some (.array (.object "java/lang/Object"))) [] ({ frames := 3, cells := 1, slots := 1, locals := 46 } : Room) #[(.ref a)] h0 (own_Qt Z (1 : Int32) [.ref d1] h0 n0) := by
  refine MetFree.of_bodySF (plainFor_of_name own_pn3) hisR ?_
  intro p e s m args below meth c s₁ Bd hml0 hP hK
  obtain ⟨rfl, hZ, hh⟩ := hP
  have hx := Bd.exec
  have hby := Bd.bytes
  have hlk := Bd.notSynchronized
  have hret := Bd.returns
  have hml : c.maxLocals = 1 := hml0
  have hown : s.vm.findClass "java/util/ArrayList" = some m.cls := findClass_of_methodNamed Bd.named
  have hnm := (name_of_methodNamed Bd.named Bd.method).1
  have X0 : Stand p l e ({ frames := 3, cells := 1, slots := 1, locals := 46 } : Room) s m #[(.ref a)] below meth c s₁ [] 0 0 := Stand.of_body Bd
  have e0 : s₁.heap = h0 := by rw [← hh, Bd.state]; rfl
  have N0 := Fr.nil n0
  refine own_open (own_ef4 m a) ?_
  refine own_go (S' := (s₁.setTop (mkF m 1 #[.val (.ref a)] [(.ref a)]))) (fun _ k => XS.aloadN X0.here hx rfl (hb hby own_d_jdk_38_method_16_0) rfl rfl  k) ?_
  obtain ⟨T1, X1, e1, st1⟩ := getF X0 hx hZ hown (host := "") (Or.inl (hw _ (List.mem_of_getElem? (i := 49) rfl))) Via.refl e0 Fe (g := (mkF m 1 #[.val (.ref a)] [(.ref a)])) rfl rfl (hb hby own_d_jdk_38_method_16_1)
  refine own_go (S' := (T1.setTop (mkF m 4 #[.val (.ref a)] [(.ref ea)]))) st1 ?_
  refine own_go (S' := (T1.setTop (mkF m 5 #[.val (.ref a)] [(.ref a), (.ref ea)]))) (fun _ k => XS.aloadN X1.here hx rfl (hb hby own_d_jdk_38_method_16_4) rfl rfl  k) ?_
  obtain ⟨T2, X2, e2, st2⟩ := getF X1 hx hZ hown (host := "") (Or.inl (hw _ (List.mem_of_getElem? (i := 58) rfl))) Via.refl e1 Fs (g := (mkF m 5 #[.val (.ref a)] [(.ref a), (.ref ea)])) rfl rfl (hb hby own_d_jdk_38_method_16_5)
  refine own_go (S' := (T2.setTop (mkF m 8 #[.val (.ref a)] [(.int (1 : Int32)), (.ref ea)]))) st2 ?_
  obtain ⟨_, _, ⟨T3, L3, k3, n3⟩, -, X3, ⟨Lc3, hQ3, l3, y3, z3⟩, st3⟩ := Jvm.LawKit.callS X2 hx (y := (⟨"java/util/Arrays", "copyOf", "([Ljava/lang/Object;I)[Ljava/lang/Object;"⟩ : MethodName)) hown (mvT hZ (hw _ (List.mem_of_getElem? (i := 122) rfl))) (mvT hZ (hw _ (List.mem_of_getElem? (i := 123) rfl))) (mvT hZ (hw _ (List.mem_of_getElem? (i := 124) rfl))) (mvT hZ (hw _ (List.mem_of_getElem? (i := 125) rfl))) (by decide) (backOf (W := 0) (own_c2_1 l Z a0 hw ea d1 k mr h0 n0 Z0 V Ex Ed1 mw) hZ (hw _ (List.mem_of_getElem? (i := 125) rfl)) (hw _ (List.mem_of_getElem? (i := 124) rfl)) (by decide) (by decide)) (g := (mkF m 8 #[.val (.ref a)] [(.int (1 : Int32)), (.ref ea)])) rfl (by rw [hml]; rfl) (argsL := [(.ref ea), (.int (1 : Int32))]) (rest := []) (lenOf own_pd9 rfl) rfl (by show 2 * 0 + _ ≤ _; exact Nat.le_of_eq rfl) (hb hby own_d_jdk_38_method_16_8) (fun _ _ => ⟨rfl, e2, (by decide : 0 + 1 ≤ _), (by decide : 0 + 1 ≤ _)⟩)
  dsimp only [Pt.U, Pt.locs, Pt.cells, Pt.slots] at X3 l3 y3 z3 st3 hQ3
  subst l3 y3 z3
  obtain ⟨r3, k3c, rfl, N3q, Kc3, V3c, s3c⟩ := hQ3
  have N3 := Fr.app N0 N3q
  refine own_go (S' := (T3.setTop (mkF m 11 #[.val (.ref a)] [(.ref r3)]))) st3 ?_
  refine own_retA X3 hx hlk hret rfl rfl (hb hby own_d_jdk_38_method_16_11) ?_ (by decide) (by decide)
  exact ⟨_, _, rfl, N3, Kc3, V3c, s3c⟩
set_option maxRecDepth 65536 in
set_option maxHeartbeats 40000000 in
theorem own_c3_2 (l : Launch) (Z : State) (a0 : Array Value) (hw : ∀ d ∈ tables_1, d.before a0 Z = true) (ea : Addr) (mr : Addr) (d1 d2 : Addr) (k : ClassId) (h0 : Heap) (n0 : Nat) (Z0 : n0 ≤ h0.size) (V : Arv Z h0 ea k (.object "java/lang/Object") 10 [.ref d1, .ref d2, .null, .null, .null, .null, .null, .null, .null, .null] .null) (Ex : Exa Z h0 ea "[Ljava/lang/Object;") (Ed1 : Exa Z h0 d1 "java/time/Duration") (Ed2 : Exa Z h0 d2 "java/time/Duration") (mw : own_Mir Z mr) :
    own_C l Z (⟨"java/util/Arrays", "copyOf", "([Ljava/lang/Object;ILjava/lang/Class;)[Ljava/lang/Object;"⟩ : MethodName) jdk_65_method_120_code 4 (some (.array (.object "java/lang/Object"))) [] ({ frames := 1, cells := 1, slots := 2, locals := 18 } : Room) #[(.ref ea), (.int (2 : Int32)), (.ref mr)] h0 (own_Qt Z (2 : Int32) [.ref d1, .ref d2] h0 n0) := by
  refine MetFree.of_bodySF (plainFor_of_name own_pn9) hisR ?_
  intro p e s m args below meth c s₁ Bd hml0 hP hK
  obtain ⟨rfl, hZ, hh⟩ := hP
  have hx := Bd.exec
  have hby := Bd.bytes
  have hlk := Bd.notSynchronized
  have hret := Bd.returns
  have hml : c.maxLocals = 4 := hml0
  have hown : s.vm.findClass "java/util/Arrays" = some m.cls := findClass_of_methodNamed Bd.named
  have hnm := (name_of_methodNamed Bd.named Bd.method).1
  have X0 : Stand p l e ({ frames := 1, cells := 1, slots := 2, locals := 18 } : Room) s m #[(.ref ea), (.int (2 : Int32)), (.ref mr)] below meth c s₁ [] 0 0 := Stand.of_body Bd
  have e0 : s₁.heap = h0 := by rw [← hh, Bd.state]; rfl
  have N0 := Fr.nil n0
  refine own_open (own_ef10 m ea ((2 : Int32)) mr) ?_
  refine own_go (S' := (s₁.setTop (mkF m 1 #[.val (.ref ea), .val (.int (2 : Int32)), .val (.ref mr), .unset] [(.ref mr)]))) (fun _ k => XS.aloadN X0.here hx rfl (hb hby own_d_jdk_65_method_120_0) rfl rfl  k) ?_
  have mv1 := mw
  obtain ⟨cc1, kc1, mw11, mw21, mw31⟩ := mv1
  obtain ⟨kd1, mq1, ek1⟩ := hZ.alike.2.2 _ _ mw21
  have q1_1 := mw11
  rw [← hZ.alike.findClass] at q1_1
  have q3_1 : kd1.mirror = some mr := by rw [ek1]; exact mw31
  obtain ⟨vm1, X1, st1⟩ := X0.ldcMirror hx hown (mvT hZ (hw _ (List.mem_of_getElem? (i := 135) rfl))) (C := "[Ljava/lang/Object;") (a := mr) (by simp [Term.eval, q1_1, mq1, q3_1]) (g := (mkF m 1 #[.val (.ref ea), .val (.int (2 : Int32)), .val (.ref mr), .unset] [(.ref mr)])) rfl (hb hby own_d_jdk_65_method_120_1)
  have e1 : (s₁.setVm vm1).heap = h0 := e0
  refine own_go (S' := ((s₁.setVm vm1).setTop (mkF m 3 #[.val (.ref ea), .val (.int (2 : Int32)), .val (.ref mr), .unset] [(.ref mr), (.ref mr)]))) st1 ?_
  refine own_go (S' := ((s₁.setVm vm1).setTop (mkF m 6 #[.val (.ref ea), .val (.int (2 : Int32)), .val (.ref mr), .unset] []))) (fun _ k => Jvm.RoadKit.acmp (g := (mkF m 3 #[.val (.ref ea), .val (.int (2 : Int32)), .val (.ref mr), .unset] [(.ref mr), (.ref mr)])) X1 hx rfl rfl rfl (pc0 := 3) (pc' := 6) (same := true) rfl (hb hby own_d_jdk_65_method_120_3) rfl (decide_eq_true rfl) (by decide) (by decide) k) ?_
  refine own_go (S' := ((s₁.setVm vm1).setTop (mkF m 7 #[.val (.ref ea), .val (.int (2 : Int32)), .val (.ref mr), .unset] [(.int (2 : Int32))]))) (fun _ k => XS.iloadN X1.here hx rfl (hb hby own_d_jdk_65_method_120_6) rfl  k) ?_
  obtain ⟨T2, h2, k2, X2, e2, E2, A2, Ex2, O2, st2⟩ := newRE X1 hx hZ hown (hw _ (List.mem_of_getElem? (i := 136) rfl)) (hw _ (List.mem_of_getElem? (i := 77) rfl)) e1 (g := (mkF m 7 #[.val (.ref ea), .val (.int (2 : Int32)), .val (.ref mr), .unset] [(.int (2 : Int32))])) rfl (hb hby own_d_jdk_65_method_120_7) rfl (by decide) (cap := 2) (by decide) (by decide) (by decide) (by decide) (ad := "[Ljava/lang/Object;") (by decide +kernel)
  obtain ⟨r, g2⟩ : ∃ z, z = h0.size := ⟨_, rfl⟩
  rw [← g2] at A2 Ex2 st2
  have V2 : Arv Z h2 r k2 (.object "java/lang/Object") (2 : Int32) [.null, .null] .null := (Arv.new A2 (by decide)).pad (pad_rep [] .null 2)
  refine own_go (S' := (T2.setTop (mkF m 10 #[.val (.ref ea), .val (.int (2 : Int32)), .val (.ref mr), .unset] [(.ref r)]))) st2 ?_
  have sz_r : h0.size ≤ r := Nat.le_trans (Keep.refl h0 []).1 (Nat.le_of_eq g2.symm)
  have gn_r : n0 ≤ r := Nat.le_trans Z0 sz_r
  have ne_ea_r : ea ≠ r := Nat.ne_of_lt (Nat.lt_of_lt_of_le V.lt (Nat.le_of_eq g2.symm))
  have ne_d1_r : d1 ≠ r := Nat.ne_of_lt (Nat.lt_of_lt_of_le Ed1.lt (Nat.le_of_eq g2.symm))
  have ne_d2_r : d2 ≠ r := Nat.ne_of_lt (Nat.lt_of_lt_of_le Ed2.lt (Nat.le_of_eq g2.symm))
  have c3_V := V.ext E2
  have c3_Ex := Ex.ext E2
  have c3_Ed1 := Ed1.ext E2
  have c3_Ed2 := Ed2.ext E2
  have K2 := (Keep.refl h0 []).ext E2
  refine own_go (S' := (T2.setTop (mkF m 24 #[.val (.ref ea), .val (.int (2 : Int32)), .val (.ref mr), .unset] [(.ref r)]))) (fun _ k => XS.goto X2.here hx rfl (pc0 := 10) (pc' := 24) rfl (hb hby own_d_jdk_65_method_120_10) (by decide) (by decide) k) ?_
  refine own_go (S' := (T2.setTop (mkF m 25 #[.val (.ref ea), .val (.int (2 : Int32)), .val (.ref mr), .val (.ref r)] []))) (fun _ k => XS.astoreN X2.here hx rfl (hb hby own_d_jdk_65_method_120_24) rfl rfl (l' := #[.val (.ref ea), .val (.int (2 : Int32)), .val (.ref mr), .val (.ref r)]) rfl k) ?_
  refine own_go (S' := (T2.setTop (mkF m 26 #[.val (.ref ea), .val (.int (2 : Int32)), .val (.ref mr), .val (.ref r)] [(.ref ea)]))) (fun _ k => XS.aloadN X2.here hx rfl (hb hby own_d_jdk_65_method_120_25) rfl rfl  k) ?_
  refine own_go (S' := (T2.setTop (mkF m 27 #[.val (.ref ea), .val (.int (2 : Int32)), .val (.ref mr), .val (.ref r)] [(.int (0 : Int32)), (.ref ea)]))) (fun _ k => XS.iconst X2.here hx rfl (hb hby own_d_jdk_65_method_120_26) k) ?_
  refine own_go (S' := (T2.setTop (mkF m 28 #[.val (.ref ea), .val (.int (2 : Int32)), .val (.ref mr), .val (.ref r)] [(.ref r), (.int (0 : Int32)), (.ref ea)]))) (fun _ k => XS.aloadN X2.here hx rfl (hb hby own_d_jdk_65_method_120_27) rfl rfl  k) ?_
  refine own_go (S' := (T2.setTop (mkF m 29 #[.val (.ref ea), .val (.int (2 : Int32)), .val (.ref mr), .val (.ref r)] [(.int (0 : Int32)), (.ref r), (.int (0 : Int32)), (.ref ea)]))) (fun _ k => XS.iconst X2.here hx rfl (hb hby own_d_jdk_65_method_120_28) k) ?_
  refine own_go (S' := (T2.setTop (mkF m 30 #[.val (.ref ea), .val (.int (2 : Int32)), .val (.ref mr), .val (.ref r)] [(.ref ea), (.int (0 : Int32)), (.ref r), (.int (0 : Int32)), (.ref ea)]))) (fun _ k => XS.aloadN X2.here hx rfl (hb hby own_d_jdk_65_method_120_29) rfl rfl  k) ?_
  have vv4 := c3_V
  obtain ⟨cl4, Ar4, qa4, Sz4, Ng4, Ha4, Ga4⟩ := vv4
  refine own_go (S' := (T2.setTop (mkF m 31 #[.val (.ref ea), .val (.int (2 : Int32)), .val (.ref mr), .val (.ref r)] [(.int cl4.slots.size.toInt32), (.int (0 : Int32)), (.ref r), (.int (0 : Int32)), (.ref ea)]))) (fun _ k => X2.arraylength hx (by rw [e2]; exact Ar4.1) (State.isArrayOf_alike hZ.alike Ar4.2.1) (g := (mkF m 30 #[.val (.ref ea), .val (.int (2 : Int32)), .val (.ref mr), .val (.ref r)] [(.ref ea), (.int (0 : Int32)), (.ref r), (.int (0 : Int32)), (.ref ea)])) rfl rfl (hb hby own_d_jdk_65_method_120_30) _ k) ?_
  rw [len_of Sz4 Ng4]
  refine own_go (S' := (T2.setTop (mkF m 32 #[.val (.ref ea), .val (.int (2 : Int32)), .val (.ref mr), .val (.ref r)] [(.int (2 : Int32)), (.int (10 : Int32)), (.int (0 : Int32)), (.ref r), (.int (0 : Int32)), (.ref ea)]))) (fun _ k => XS.iloadN X2.here hx rfl (hb hby own_d_jdk_65_method_120_31) rfl  k) ?_
  obtain ⟨_, _, ⟨T5, L5, k5, n5⟩, -, X5, ⟨Lc5, hQ5, l5, y5, z5⟩, st5⟩ := Jvm.LawKit.callS X2 hx (y := (⟨"java/lang/Math", "min", "(II)I"⟩ : MethodName)) hown (mvT hZ (hw _ (List.mem_of_getElem? (i := 137) rfl))) (mvT hZ (hw _ (List.mem_of_getElem? (i := 138) rfl))) (mvT hZ (hw _ (List.mem_of_getElem? (i := 3) rfl))) (mvT hZ (hw _ (List.mem_of_getElem? (i := 139) rfl))) (by decide) (backOf (W := 4) (own_min l Z a0 hw (10 : Int32) (2 : Int32) (2 : Int32) h2 n0 (Nat.le_trans Z0 K2.1) (Or.inr ⟨by decide, rfl⟩)) hZ (hw _ (List.mem_of_getElem? (i := 139) rfl)) (hw _ (List.mem_of_getElem? (i := 3) rfl)) (by decide) (by decide)) (g := (mkF m 32 #[.val (.ref ea), .val (.int (2 : Int32)), .val (.ref mr), .val (.ref r)] [(.int (2 : Int32)), (.int (10 : Int32)), (.int (0 : Int32)), (.ref r), (.int (0 : Int32)), (.ref ea)])) rfl (by rw [hml]; rfl) (argsL := [(.int (10 : Int32)), (.int (2 : Int32))]) (rest := [(.int (0 : Int32)), (.ref r), (.int (0 : Int32)), (.ref ea)]) (lenOf own_pd3 rfl) rfl (by show 2 * 0 + _ ≤ _; exact Nat.le_of_eq rfl) (hb hby own_d_jdk_65_method_120_32) (fun _ _ => ⟨rfl, e2, (by decide : 1 + 0 ≤ _), (by decide : 2 + 0 ≤ _)⟩)
  dsimp only [Pt.U, Pt.locs, Pt.cells, Pt.slots] at X5 l5 y5 z5 st5 hQ5
  subst l5 y5 z5
  obtain ⟨rfl, N5q, hh5⟩ := hQ5
  have N5 := Fr.app N0 N5q
  refine own_go (S' := (T5.setTop (mkF m 35 #[.val (.ref ea), .val (.int (2 : Int32)), .val (.ref mr), .val (.ref r)] [(.int (2 : Int32)), (.int (0 : Int32)), (.ref r), (.int (0 : Int32)), (.ref ea)]))) st5 ?_
  have vv7 := V2
  obtain ⟨cl7, Ar7, qa7, Sz7, Ng7, Ha7, Ga7⟩ := vv7
  have sto6 : StoL Z h2 r [.ref d1, .ref d2] := ⟨Sto.ofV Ar7 qa7 O2 (Ins.of_exa c3_Ed1 (hw _ (List.mem_of_getElem? (i := 78) rfl))), Sto.ofV Ar7 qa7 O2 (Ins.of_exa c3_Ed2 (hw _ (List.mem_of_getElem? (i := 78) rfl))), trivial⟩
  obtain ⟨T6, h6, L6, X6, e6, N6, Kc6, V6, st6⟩ := cpA X5 hx hZ hown (hw _ (List.mem_of_getElem? (i := 140) rfl)) (hw _ (List.mem_of_getElem? (i := 143) rfl)) (hw _ (List.mem_of_getElem? (i := 141) rfl)) (hw _ (List.mem_of_getElem? (i := 142) rfl)) hh5 c3_V V2 (us := [.ref d1, .ref d2]) (sp := 0) (dp := 0) (nn := (2 : Int32)) (Or.inr ⟨rfl, rfl, sto6⟩) (by decide) (by decide) (by decide) (by decide) (by decide) rfl (by decide) N5 gn_r (g := (mkF m 35 #[.val (.ref ea), .val (.int (2 : Int32)), .val (.ref mr), .val (.ref r)] [(.int (2 : Int32)), (.int (0 : Int32)), (.ref r), (.int (0 : Int32)), (.ref ea)])) rfl (by rw [hml]; rfl) rfl (hb hby own_d_jdk_65_method_120_35) (by decide) (W := 0) (by show 2 * 0 + _ ≤ _; exact Nat.le_of_eq rfl) (by decide)
  refine own_go (S' := (T6.setTop (mkF m 38 #[.val (.ref ea), .val (.int (2 : Int32)), .val (.ref mr), .val (.ref r)] []))) st6 ?_
  have K6x := K2.trans Kc6 (allS (Or.inr sz_r) all0)
  refine own_go (S' := (T6.setTop (mkF m 39 #[.val (.ref ea), .val (.int (2 : Int32)), .val (.ref mr), .val (.ref r)] [(.ref r)]))) (fun _ k => XS.aloadN X6.here hx rfl (hb hby own_d_jdk_65_method_120_38) rfl rfl  k) ?_
  refine own_retA X6 hx hlk hret rfl rfl (hb hby own_d_jdk_65_method_120_39) ?_ (by decide) (by decide)
  rw [e6]
  exact ⟨_, _, rfl, N6, K6x, V6, sz_r⟩
set_option maxRecDepth 65536 in
set_option maxHeartbeats 40000000 in
theorem own_c2_2 (l : Launch) (Z : State) (a0 : Array Value) (hw : ∀ d ∈ tables_1, d.before a0 Z = true) (ea : Addr) (d1 d2 : Addr) (k : ClassId) (mr : Addr) (h0 : Heap) (n0 : Nat) (Z0 : n0 ≤ h0.size) (V : Arv Z h0 ea k (.object "java/lang/Object") 10 [.ref d1, .ref d2, .null, .null, .null, .null, .null, .null, .null, .null] .null) (Ex : Exa Z h0 ea "[Ljava/lang/Object;") (Ed1 : Exa Z h0 d1 "java/time/Duration") (Ed2 : Exa Z h0 d2 "java/time/Duration") (mw : own_Mir Z mr) :
    own_C l Z (⟨"java/util/Arrays", "copyOf", "([Ljava/lang/Object;I)[Ljava/lang/Object;"⟩ : MethodName) jdk_65_method_119_code 2 (some (.array (.object "java/lang/Object"))) [] ({ frames := 2, cells := 1, slots := 2, locals := 33 } : Room) #[(.ref ea), (.int (2 : Int32))] h0 (own_Qt Z (2 : Int32) [.ref d1, .ref d2] h0 n0) := by
  refine MetFree.of_bodySF (plainFor_of_name own_pn9) hisR ?_
  intro p e s m args below meth c s₁ Bd hml0 hP hK
  obtain ⟨rfl, hZ, hh⟩ := hP
  have hx := Bd.exec
  have hby := Bd.bytes
  have hlk := Bd.notSynchronized
  have hret := Bd.returns
  have hml : c.maxLocals = 2 := hml0
  have hown : s.vm.findClass "java/util/Arrays" = some m.cls := findClass_of_methodNamed Bd.named
  have hnm := (name_of_methodNamed Bd.named Bd.method).1
  have X0 : Stand p l e ({ frames := 2, cells := 1, slots := 2, locals := 33 } : Room) s m #[(.ref ea), (.int (2 : Int32))] below meth c s₁ [] 0 0 := Stand.of_body Bd
  have e0 : s₁.heap = h0 := by rw [← hh, Bd.state]; rfl
  have N0 := Fr.nil n0
  refine own_open (own_ef11 m ea ((2 : Int32))) ?_
  refine own_go (S' := (s₁.setTop (mkF m 1 #[.val (.ref ea), .val (.int (2 : Int32))] [(.ref ea)]))) (fun _ k => XS.aloadN X0.here hx rfl (hb hby own_d_jdk_65_method_119_0) rfl rfl  k) ?_
  refine own_go (S' := (s₁.setTop (mkF m 2 #[.val (.ref ea), .val (.int (2 : Int32))] [(.int (2 : Int32)), (.ref ea)]))) (fun _ k => XS.iloadN X0.here hx rfl (hb hby own_d_jdk_65_method_119_1) rfl  k) ?_
  refine own_go (S' := (s₁.setTop (mkF m 3 #[.val (.ref ea), .val (.int (2 : Int32))] [(.ref ea), (.int (2 : Int32)), (.ref ea)]))) (fun _ k => XS.aloadN X0.here hx rfl (hb hby own_d_jdk_65_method_119_2) rfl rfl  k) ?_
  have mv1 := mw
  obtain ⟨cc1, kc1, mw11, mw21, mw31⟩ := mv1
  obtain ⟨kd1, mq1, ek1⟩ := hZ.alike.2.2 _ _ mw21
  obtain ⟨cB1, kB1, ia1, ib1, ic1⟩ := isOf hZ e0 Ex
  obtain ⟨vm1, X1, st1⟩ := Jvm.Stand.getClassOf X0 hx hown (mvT hZ (hw _ (List.mem_of_getElem? (i := 126) rfl))) (mvT hZ (hw _ (List.mem_of_getElem? (i := 127) rfl))) (nf_top (args := #[]) (mvT hZ (hw _ (List.mem_of_getElem? (i := 107) rfl)))) (mvT hZ (hw _ (List.mem_of_getElem? (i := 129) rfl))) (mvT hZ (hw _ (List.mem_of_getElem? (i := 128) rfl))) (mvT hZ (hw _ (List.mem_of_getElem? (i := 130) rfl))) (by rw [hZ.alike.findClass]; exact mw11) (by have q := ia1; rw [hZ.alike.findClass] at q; cases q.symm.trans mw11; exact ic1) mq1 (by rw [ek1]; exact mw31) (g := (mkF m 3 #[.val (.ref ea), .val (.int (2 : Int32))] [(.ref ea), (.int (2 : Int32)), (.ref ea)])) rfl (by rw [hml]; rfl) rfl (hb hby own_d_jdk_65_method_119_3) (by decide) (by rw [show nativeFrameWords "java/lang/Object" "getClass" 1 = 3 from by decide +kernel]; show 2 * 0 + (1 + (1 + 0)) + (3 + 11) ≤ 33; decide)
  have e1 : (s₁.setVm vm1).heap = h0 := e0
  refine own_go (S' := ((s₁.setVm vm1).setTop (mkF m 6 #[.val (.ref ea), .val (.int (2 : Int32))] [(.ref mr), (.int (2 : Int32)), (.ref ea)]))) st1 ?_
  obtain ⟨_, _, ⟨T2, L2, k2, n2⟩, -, X2, ⟨Lc2, hQ2, l2, y2, z2⟩, st2⟩ := Jvm.LawKit.callS X1 hx (y := (⟨"java/util/Arrays", "copyOf", "([Ljava/lang/Object;ILjava/lang/Class;)[Ljava/lang/Object;"⟩ : MethodName)) hown (mvT hZ (hw _ (List.mem_of_getElem? (i := 132) rfl))) (mvT hZ (hw _ (List.mem_of_getElem? (i := 133) rfl))) (mvT hZ (hw _ (List.mem_of_getElem? (i := 124) rfl))) (mvT hZ (hw _ (List.mem_of_getElem? (i := 134) rfl))) (by decide) (backOf (W := 0) (own_c3_2 l Z a0 hw ea mr d1 d2 k h0 n0 Z0 V Ex Ed1 Ed2 mw) hZ (hw _ (List.mem_of_getElem? (i := 134) rfl)) (hw _ (List.mem_of_getElem? (i := 124) rfl)) (by decide) (by decide)) (g := (mkF m 6 #[.val (.ref ea), .val (.int (2 : Int32))] [(.ref mr), (.int (2 : Int32)), (.ref ea)])) rfl (by rw [hml]; rfl) (argsL := [(.ref ea), (.int (2 : Int32)), (.ref mr)]) (rest := []) (lenOf own_pd8 rfl) rfl (by show 2 * 0 + _ ≤ _; exact Nat.le_of_eq rfl) (hb hby own_d_jdk_65_method_119_6) (fun _ _ => ⟨rfl, e1, (by decide : 0 + 1 ≤ _), (by decide : 0 + 2 ≤ _)⟩)
  dsimp only [Pt.U, Pt.locs, Pt.cells, Pt.slots] at X2 l2 y2 z2 st2 hQ2
  subst l2 y2 z2
  obtain ⟨r2, k2c, rfl, N2q, Kc2, V2c, s2c⟩ := hQ2
  have N2 := Fr.app N0 N2q
  refine own_go (S' := (T2.setTop (mkF m 9 #[.val (.ref ea), .val (.int (2 : Int32))] [(.ref r2)]))) st2 ?_
  refine own_retA X2 hx hlk hret rfl rfl (hb hby own_d_jdk_65_method_119_9) ?_ (by decide) (by decide)
  exact ⟨_, _, rfl, N2, Kc2, V2c, s2c⟩
set_option maxRecDepth 65536 in
set_option maxHeartbeats 40000000 in
theorem own_ta2 (l : Launch) (Z : State) (a0 : Array Value) (hw : ∀ d ∈ tables_1, d.before a0 Z = true) (a : Addr) (ea : Addr) (d1 d2 : Addr) (k : ClassId) (mr : Addr) (h0 : Heap) (n0 : Nat) (Z0 : n0 ≤ h0.size) (E_a : Exa Z h0 a "java/util/ArrayList") (Fe : Fld Z h0 a "java/util/ArrayList" "elementData" "[Ljava/lang/Object;" (.ref ea)) (Fs : Fld Z h0 a "java/util/ArrayList" "size" "I" (.int (2 : Int32))) (V : Arv Z h0 ea k (.object "java/lang/Object") 10 [.ref d1, .ref d2, .null, .null, .null, .null, .null, .null, .null, .null] .null) (Ex : Exa Z h0 ea "[Ljava/lang/Object;") (Ed1 : Exa Z h0 d1 "java/time/Duration") (Ed2 : Exa Z h0 d2 "java/time/Duration") (mw : own_Mir Z mr) :
    own_C l Z (⟨"java/util/ArrayList", "toArray", "()[Ljava/lang/Object;"⟩ : MethodName) jdk_38_method_16_code 1 (some (.array (.object "java/lang/Object"))) [] ({ frames := 3, cells := 1, slots := 2, locals := 46 } : Room) #[(.ref a)] h0 (own_Qt Z (2 : Int32) [.ref d1, .ref d2] h0 n0) := by
  refine MetFree.of_bodySF (plainFor_of_name own_pn3) hisR ?_
  intro p e s m args below meth c s₁ Bd hml0 hP hK
  obtain ⟨rfl, hZ, hh⟩ := hP
  have hx := Bd.exec
  have hby := Bd.bytes
  have hlk := Bd.notSynchronized
  have hret := Bd.returns
  have hml : c.maxLocals = 1 := hml0
  have hown : s.vm.findClass "java/util/ArrayList" = some m.cls := findClass_of_methodNamed Bd.named
  have hnm := (name_of_methodNamed Bd.named Bd.method).1
  have X0 : Stand p l e ({ frames := 3, cells := 1, slots := 2, locals := 46 } : Room) s m #[(.ref a)] below meth c s₁ [] 0 0 := Stand.of_body Bd
  have e0 : s₁.heap = h0 := by rw [← hh, Bd.state]; rfl
  have N0 := Fr.nil n0
  refine own_open (own_ef4 m a) ?_
  refine own_go (S' := (s₁.setTop (mkF m 1 #[.val (.ref a)] [(.ref a)]))) (fun _ k => XS.aloadN X0.here hx rfl (hb hby own_d_jdk_38_method_16_0) rfl rfl  k) ?_
  obtain ⟨T1, X1, e1, st1⟩ := getF X0 hx hZ hown (host := "") (Or.inl (hw _ (List.mem_of_getElem? (i := 49) rfl))) Via.refl e0 Fe (g := (mkF m 1 #[.val (.ref a)] [(.ref a)])) rfl rfl (hb hby own_d_jdk_38_method_16_1)
  refine own_go (S' := (T1.setTop (mkF m 4 #[.val (.ref a)] [(.ref ea)]))) st1 ?_
  refine own_go (S' := (T1.setTop (mkF m 5 #[.val (.ref a)] [(.ref a), (.ref ea)]))) (fun _ k => XS.aloadN X1.here hx rfl (hb hby own_d_jdk_38_method_16_4) rfl rfl  k) ?_
  obtain ⟨T2, X2, e2, st2⟩ := getF X1 hx hZ hown (host := "") (Or.inl (hw _ (List.mem_of_getElem? (i := 58) rfl))) Via.refl e1 Fs (g := (mkF m 5 #[.val (.ref a)] [(.ref a), (.ref ea)])) rfl rfl (hb hby own_d_jdk_38_method_16_5)
  refine own_go (S' := (T2.setTop (mkF m 8 #[.val (.ref a)] [(.int (2 : Int32)), (.ref ea)]))) st2 ?_
  obtain ⟨_, _, ⟨T3, L3, k3, n3⟩, -, X3, ⟨Lc3, hQ3, l3, y3, z3⟩, st3⟩ := Jvm.LawKit.callS X2 hx (y := (⟨"java/util/Arrays", "copyOf", "([Ljava/lang/Object;I)[Ljava/lang/Object;"⟩ : MethodName)) hown (mvT hZ (hw _ (List.mem_of_getElem? (i := 122) rfl))) (mvT hZ (hw _ (List.mem_of_getElem? (i := 123) rfl))) (mvT hZ (hw _ (List.mem_of_getElem? (i := 124) rfl))) (mvT hZ (hw _ (List.mem_of_getElem? (i := 125) rfl))) (by decide) (backOf (W := 0) (own_c2_2 l Z a0 hw ea d1 d2 k mr h0 n0 Z0 V Ex Ed1 Ed2 mw) hZ (hw _ (List.mem_of_getElem? (i := 125) rfl)) (hw _ (List.mem_of_getElem? (i := 124) rfl)) (by decide) (by decide)) (g := (mkF m 8 #[.val (.ref a)] [(.int (2 : Int32)), (.ref ea)])) rfl (by rw [hml]; rfl) (argsL := [(.ref ea), (.int (2 : Int32))]) (rest := []) (lenOf own_pd9 rfl) rfl (by show 2 * 0 + _ ≤ _; exact Nat.le_of_eq rfl) (hb hby own_d_jdk_38_method_16_8) (fun _ _ => ⟨rfl, e2, (by decide : 0 + 1 ≤ _), (by decide : 0 + 2 ≤ _)⟩)
  dsimp only [Pt.U, Pt.locs, Pt.cells, Pt.slots] at X3 l3 y3 z3 st3 hQ3
  subst l3 y3 z3
  obtain ⟨r3, k3c, rfl, N3q, Kc3, V3c, s3c⟩ := hQ3
  have N3 := Fr.app N0 N3q
  refine own_go (S' := (T3.setTop (mkF m 11 #[.val (.ref a)] [(.ref r3)]))) st3 ?_
  refine own_retA X3 hx hlk hret rfl rfl (hb hby own_d_jdk_38_method_16_11) ?_ (by decide) (by decide)
  exact ⟨_, _, rfl, N3, Kc3, V3c, s3c⟩
set_option maxRecDepth 65536 in
set_option maxHeartbeats 40000000 in
theorem own_c3_3 (l : Launch) (Z : State) (a0 : Array Value) (hw : ∀ d ∈ tables_1, d.before a0 Z = true) (ea : Addr) (mr : Addr) (d1 d2 d3 : Addr) (k : ClassId) (h0 : Heap) (n0 : Nat) (Z0 : n0 ≤ h0.size) (V : Arv Z h0 ea k (.object "java/lang/Object") 10 [.ref d1, .ref d2, .ref d3, .null, .null, .null, .null, .null, .null, .null] .null) (Ex : Exa Z h0 ea "[Ljava/lang/Object;") (Ed1 : Exa Z h0 d1 "java/time/Duration") (Ed2 : Exa Z h0 d2 "java/time/Duration") (Ed3 : Exa Z h0 d3 "java/time/Duration") (mw : own_Mir Z mr) :
    own_C l Z (⟨"java/util/Arrays", "copyOf", "([Ljava/lang/Object;ILjava/lang/Class;)[Ljava/lang/Object;"⟩ : MethodName) jdk_65_method_120_code 4 (some (.array (.object "java/lang/Object"))) [] ({ frames := 1, cells := 1, slots := 3, locals := 18 } : Room) #[(.ref ea), (.int (3 : Int32)), (.ref mr)] h0 (own_Qt Z (3 : Int32) [.ref d1, .ref d2, .ref d3] h0 n0) := by
  refine MetFree.of_bodySF (plainFor_of_name own_pn9) hisR ?_
  intro p e s m args below meth c s₁ Bd hml0 hP hK
  obtain ⟨rfl, hZ, hh⟩ := hP
  have hx := Bd.exec
  have hby := Bd.bytes
  have hlk := Bd.notSynchronized
  have hret := Bd.returns
  have hml : c.maxLocals = 4 := hml0
  have hown : s.vm.findClass "java/util/Arrays" = some m.cls := findClass_of_methodNamed Bd.named
  have hnm := (name_of_methodNamed Bd.named Bd.method).1
  have X0 : Stand p l e ({ frames := 1, cells := 1, slots := 3, locals := 18 } : Room) s m #[(.ref ea), (.int (3 : Int32)), (.ref mr)] below meth c s₁ [] 0 0 := Stand.of_body Bd
  have e0 : s₁.heap = h0 := by rw [← hh, Bd.state]; rfl
  have N0 := Fr.nil n0
  refine own_open (own_ef10 m ea ((3 : Int32)) mr) ?_
  refine own_go (S' := (s₁.setTop (mkF m 1 #[.val (.ref ea), .val (.int (3 : Int32)), .val (.ref mr), .unset] [(.ref mr)]))) (fun _ k => XS.aloadN X0.here hx rfl (hb hby own_d_jdk_65_method_120_0) rfl rfl  k) ?_
  have mv1 := mw
  obtain ⟨cc1, kc1, mw11, mw21, mw31⟩ := mv1
  obtain ⟨kd1, mq1, ek1⟩ := hZ.alike.2.2 _ _ mw21
  have q1_1 := mw11
  rw [← hZ.alike.findClass] at q1_1
  have q3_1 : kd1.mirror = some mr := by rw [ek1]; exact mw31
  obtain ⟨vm1, X1, st1⟩ := X0.ldcMirror hx hown (mvT hZ (hw _ (List.mem_of_getElem? (i := 135) rfl))) (C := "[Ljava/lang/Object;") (a := mr) (by simp [Term.eval, q1_1, mq1, q3_1]) (g := (mkF m 1 #[.val (.ref ea), .val (.int (3 : Int32)), .val (.ref mr), .unset] [(.ref mr)])) rfl (hb hby own_d_jdk_65_method_120_1)
  have e1 : (s₁.setVm vm1).heap = h0 := e0
  refine own_go (S' := ((s₁.setVm vm1).setTop (mkF m 3 #[.val (.ref ea), .val (.int (3 : Int32)), .val (.ref mr), .unset] [(.ref mr), (.ref mr)]))) st1 ?_
  refine own_go (S' := ((s₁.setVm vm1).setTop (mkF m 6 #[.val (.ref ea), .val (.int (3 : Int32)), .val (.ref mr), .unset] []))) (fun _ k => Jvm.RoadKit.acmp (g := (mkF m 3 #[.val (.ref ea), .val (.int (3 : Int32)), .val (.ref mr), .unset] [(.ref mr), (.ref mr)])) X1 hx rfl rfl rfl (pc0 := 3) (pc' := 6) (same := true) rfl (hb hby own_d_jdk_65_method_120_3) rfl (decide_eq_true rfl) (by decide) (by decide) k) ?_
  refine own_go (S' := ((s₁.setVm vm1).setTop (mkF m 7 #[.val (.ref ea), .val (.int (3 : Int32)), .val (.ref mr), .unset] [(.int (3 : Int32))]))) (fun _ k => XS.iloadN X1.here hx rfl (hb hby own_d_jdk_65_method_120_6) rfl  k) ?_
  obtain ⟨T2, h2, k2, X2, e2, E2, A2, Ex2, O2, st2⟩ := newRE X1 hx hZ hown (hw _ (List.mem_of_getElem? (i := 136) rfl)) (hw _ (List.mem_of_getElem? (i := 77) rfl)) e1 (g := (mkF m 7 #[.val (.ref ea), .val (.int (3 : Int32)), .val (.ref mr), .unset] [(.int (3 : Int32))])) rfl (hb hby own_d_jdk_65_method_120_7) rfl (by decide) (cap := 3) (by decide) (by decide) (by decide) (by decide) (ad := "[Ljava/lang/Object;") (by decide +kernel)
  obtain ⟨r, g2⟩ : ∃ z, z = h0.size := ⟨_, rfl⟩
  rw [← g2] at A2 Ex2 st2
  have V2 : Arv Z h2 r k2 (.object "java/lang/Object") (3 : Int32) [.null, .null, .null] .null := (Arv.new A2 (by decide)).pad (pad_rep [] .null 3)
  refine own_go (S' := (T2.setTop (mkF m 10 #[.val (.ref ea), .val (.int (3 : Int32)), .val (.ref mr), .unset] [(.ref r)]))) st2 ?_
  have sz_r : h0.size ≤ r := Nat.le_trans (Keep.refl h0 []).1 (Nat.le_of_eq g2.symm)
  have gn_r : n0 ≤ r := Nat.le_trans Z0 sz_r
  have ne_ea_r : ea ≠ r := Nat.ne_of_lt (Nat.lt_of_lt_of_le V.lt (Nat.le_of_eq g2.symm))
  have ne_d1_r : d1 ≠ r := Nat.ne_of_lt (Nat.lt_of_lt_of_le Ed1.lt (Nat.le_of_eq g2.symm))
  have ne_d2_r : d2 ≠ r := Nat.ne_of_lt (Nat.lt_of_lt_of_le Ed2.lt (Nat.le_of_eq g2.symm))
  have ne_d3_r : d3 ≠ r := Nat.ne_of_lt (Nat.lt_of_lt_of_le Ed3.lt (Nat.le_of_eq g2.symm))
  have c3_V := V.ext E2
  have c3_Ex := Ex.ext E2
  have c3_Ed1 := Ed1.ext E2
  have c3_Ed2 := Ed2.ext E2
  have c3_Ed3 := Ed3.ext E2
  have K2 := (Keep.refl h0 []).ext E2
  refine own_go (S' := (T2.setTop (mkF m 24 #[.val (.ref ea), .val (.int (3 : Int32)), .val (.ref mr), .unset] [(.ref r)]))) (fun _ k => XS.goto X2.here hx rfl (pc0 := 10) (pc' := 24) rfl (hb hby own_d_jdk_65_method_120_10) (by decide) (by decide) k) ?_
  refine own_go (S' := (T2.setTop (mkF m 25 #[.val (.ref ea), .val (.int (3 : Int32)), .val (.ref mr), .val (.ref r)] []))) (fun _ k => XS.astoreN X2.here hx rfl (hb hby own_d_jdk_65_method_120_24) rfl rfl (l' := #[.val (.ref ea), .val (.int (3 : Int32)), .val (.ref mr), .val (.ref r)]) rfl k) ?_
  refine own_go (S' := (T2.setTop (mkF m 26 #[.val (.ref ea), .val (.int (3 : Int32)), .val (.ref mr), .val (.ref r)] [(.ref ea)]))) (fun _ k => XS.aloadN X2.here hx rfl (hb hby own_d_jdk_65_method_120_25) rfl rfl  k) ?_
  refine own_go (S' := (T2.setTop (mkF m 27 #[.val (.ref ea), .val (.int (3 : Int32)), .val (.ref mr), .val (.ref r)] [(.int (0 : Int32)), (.ref ea)]))) (fun _ k => XS.iconst X2.here hx rfl (hb hby own_d_jdk_65_method_120_26) k) ?_
  refine own_go (S' := (T2.setTop (mkF m 28 #[.val (.ref ea), .val (.int (3 : Int32)), .val (.ref mr), .val (.ref r)] [(.ref r), (.int (0 : Int32)), (.ref ea)]))) (fun _ k => XS.aloadN X2.here hx rfl (hb hby own_d_jdk_65_method_120_27) rfl rfl  k) ?_
  refine own_go (S' := (T2.setTop (mkF m 29 #[.val (.ref ea), .val (.int (3 : Int32)), .val (.ref mr), .val (.ref r)] [(.int (0 : Int32)), (.ref r), (.int (0 : Int32)), (.ref ea)]))) (fun _ k => XS.iconst X2.here hx rfl (hb hby own_d_jdk_65_method_120_28) k) ?_
  refine own_go (S' := (T2.setTop (mkF m 30 #[.val (.ref ea), .val (.int (3 : Int32)), .val (.ref mr), .val (.ref r)] [(.ref ea), (.int (0 : Int32)), (.ref r), (.int (0 : Int32)), (.ref ea)]))) (fun _ k => XS.aloadN X2.here hx rfl (hb hby own_d_jdk_65_method_120_29) rfl rfl  k) ?_
  have vv4 := c3_V
  obtain ⟨cl4, Ar4, qa4, Sz4, Ng4, Ha4, Ga4⟩ := vv4
  refine own_go (S' := (T2.setTop (mkF m 31 #[.val (.ref ea), .val (.int (3 : Int32)), .val (.ref mr), .val (.ref r)] [(.int cl4.slots.size.toInt32), (.int (0 : Int32)), (.ref r), (.int (0 : Int32)), (.ref ea)]))) (fun _ k => X2.arraylength hx (by rw [e2]; exact Ar4.1) (State.isArrayOf_alike hZ.alike Ar4.2.1) (g := (mkF m 30 #[.val (.ref ea), .val (.int (3 : Int32)), .val (.ref mr), .val (.ref r)] [(.ref ea), (.int (0 : Int32)), (.ref r), (.int (0 : Int32)), (.ref ea)])) rfl rfl (hb hby own_d_jdk_65_method_120_30) _ k) ?_
  rw [len_of Sz4 Ng4]
  refine own_go (S' := (T2.setTop (mkF m 32 #[.val (.ref ea), .val (.int (3 : Int32)), .val (.ref mr), .val (.ref r)] [(.int (3 : Int32)), (.int (10 : Int32)), (.int (0 : Int32)), (.ref r), (.int (0 : Int32)), (.ref ea)]))) (fun _ k => XS.iloadN X2.here hx rfl (hb hby own_d_jdk_65_method_120_31) rfl  k) ?_
  obtain ⟨_, _, ⟨T5, L5, k5, n5⟩, -, X5, ⟨Lc5, hQ5, l5, y5, z5⟩, st5⟩ := Jvm.LawKit.callS X2 hx (y := (⟨"java/lang/Math", "min", "(II)I"⟩ : MethodName)) hown (mvT hZ (hw _ (List.mem_of_getElem? (i := 137) rfl))) (mvT hZ (hw _ (List.mem_of_getElem? (i := 138) rfl))) (mvT hZ (hw _ (List.mem_of_getElem? (i := 3) rfl))) (mvT hZ (hw _ (List.mem_of_getElem? (i := 139) rfl))) (by decide) (backOf (W := 4) (own_min l Z a0 hw (10 : Int32) (3 : Int32) (3 : Int32) h2 n0 (Nat.le_trans Z0 K2.1) (Or.inr ⟨by decide, rfl⟩)) hZ (hw _ (List.mem_of_getElem? (i := 139) rfl)) (hw _ (List.mem_of_getElem? (i := 3) rfl)) (by decide) (by decide)) (g := (mkF m 32 #[.val (.ref ea), .val (.int (3 : Int32)), .val (.ref mr), .val (.ref r)] [(.int (3 : Int32)), (.int (10 : Int32)), (.int (0 : Int32)), (.ref r), (.int (0 : Int32)), (.ref ea)])) rfl (by rw [hml]; rfl) (argsL := [(.int (10 : Int32)), (.int (3 : Int32))]) (rest := [(.int (0 : Int32)), (.ref r), (.int (0 : Int32)), (.ref ea)]) (lenOf own_pd3 rfl) rfl (by show 2 * 0 + _ ≤ _; exact Nat.le_of_eq rfl) (hb hby own_d_jdk_65_method_120_32) (fun _ _ => ⟨rfl, e2, (by decide : 1 + 0 ≤ _), (by decide : 3 + 0 ≤ _)⟩)
  dsimp only [Pt.U, Pt.locs, Pt.cells, Pt.slots] at X5 l5 y5 z5 st5 hQ5
  subst l5 y5 z5
  obtain ⟨rfl, N5q, hh5⟩ := hQ5
  have N5 := Fr.app N0 N5q
  refine own_go (S' := (T5.setTop (mkF m 35 #[.val (.ref ea), .val (.int (3 : Int32)), .val (.ref mr), .val (.ref r)] [(.int (3 : Int32)), (.int (0 : Int32)), (.ref r), (.int (0 : Int32)), (.ref ea)]))) st5 ?_
  have vv7 := V2
  obtain ⟨cl7, Ar7, qa7, Sz7, Ng7, Ha7, Ga7⟩ := vv7
  have sto6 : StoL Z h2 r [.ref d1, .ref d2, .ref d3] := ⟨Sto.ofV Ar7 qa7 O2 (Ins.of_exa c3_Ed1 (hw _ (List.mem_of_getElem? (i := 78) rfl))), Sto.ofV Ar7 qa7 O2 (Ins.of_exa c3_Ed2 (hw _ (List.mem_of_getElem? (i := 78) rfl))), Sto.ofV Ar7 qa7 O2 (Ins.of_exa c3_Ed3 (hw _ (List.mem_of_getElem? (i := 78) rfl))), trivial⟩
  obtain ⟨T6, h6, L6, X6, e6, N6, Kc6, V6, st6⟩ := cpA X5 hx hZ hown (hw _ (List.mem_of_getElem? (i := 140) rfl)) (hw _ (List.mem_of_getElem? (i := 143) rfl)) (hw _ (List.mem_of_getElem? (i := 141) rfl)) (hw _ (List.mem_of_getElem? (i := 142) rfl)) hh5 c3_V V2 (us := [.ref d1, .ref d2, .ref d3]) (sp := 0) (dp := 0) (nn := (3 : Int32)) (Or.inr ⟨rfl, rfl, sto6⟩) (by decide) (by decide) (by decide) (by decide) (by decide) rfl (by decide) N5 gn_r (g := (mkF m 35 #[.val (.ref ea), .val (.int (3 : Int32)), .val (.ref mr), .val (.ref r)] [(.int (3 : Int32)), (.int (0 : Int32)), (.ref r), (.int (0 : Int32)), (.ref ea)])) rfl (by rw [hml]; rfl) rfl (hb hby own_d_jdk_65_method_120_35) (by decide) (W := 0) (by show 2 * 0 + _ ≤ _; exact Nat.le_of_eq rfl) (by decide)
  refine own_go (S' := (T6.setTop (mkF m 38 #[.val (.ref ea), .val (.int (3 : Int32)), .val (.ref mr), .val (.ref r)] []))) st6 ?_
  have K6x := K2.trans Kc6 (allS (Or.inr sz_r) all0)
  refine own_go (S' := (T6.setTop (mkF m 39 #[.val (.ref ea), .val (.int (3 : Int32)), .val (.ref mr), .val (.ref r)] [(.ref r)]))) (fun _ k => XS.aloadN X6.here hx rfl (hb hby own_d_jdk_65_method_120_38) rfl rfl  k) ?_
  refine own_retA X6 hx hlk hret rfl rfl (hb hby own_d_jdk_65_method_120_39) ?_ (by decide) (by decide)
  rw [e6]
  exact ⟨_, _, rfl, N6, K6x, V6, sz_r⟩
set_option maxRecDepth 65536 in
set_option maxHeartbeats 40000000 in
theorem own_c2_3 (l : Launch) (Z : State) (a0 : Array Value) (hw : ∀ d ∈ tables_1, d.before a0 Z = true) (ea : Addr) (d1 d2 d3 : Addr) (k : ClassId) (mr : Addr) (h0 : Heap) (n0 : Nat) (Z0 : n0 ≤ h0.size) (V : Arv Z h0 ea k (.object "java/lang/Object") 10 [.ref d1, .ref d2, .ref d3, .null, .null, .null, .null, .null, .null, .null] .null) (Ex : Exa Z h0 ea "[Ljava/lang/Object;") (Ed1 : Exa Z h0 d1 "java/time/Duration") (Ed2 : Exa Z h0 d2 "java/time/Duration") (Ed3 : Exa Z h0 d3 "java/time/Duration") (mw : own_Mir Z mr) :
    own_C l Z (⟨"java/util/Arrays", "copyOf", "([Ljava/lang/Object;I)[Ljava/lang/Object;"⟩ : MethodName) jdk_65_method_119_code 2 (some (.array (.object "java/lang/Object"))) [] ({ frames := 2, cells := 1, slots := 3, locals := 33 } : Room) #[(.ref ea), (.int (3 : Int32))] h0 (own_Qt Z (3 : Int32) [.ref d1, .ref d2, .ref d3] h0 n0) := by
  refine MetFree.of_bodySF (plainFor_of_name own_pn9) hisR ?_
  intro p e s m args below meth c s₁ Bd hml0 hP hK
  obtain ⟨rfl, hZ, hh⟩ := hP
  have hx := Bd.exec
  have hby := Bd.bytes
  have hlk := Bd.notSynchronized
  have hret := Bd.returns
  have hml : c.maxLocals = 2 := hml0
  have hown : s.vm.findClass "java/util/Arrays" = some m.cls := findClass_of_methodNamed Bd.named
  have hnm := (name_of_methodNamed Bd.named Bd.method).1
  have X0 : Stand p l e ({ frames := 2, cells := 1, slots := 3, locals := 33 } : Room) s m #[(.ref ea), (.int (3 : Int32))] below meth c s₁ [] 0 0 := Stand.of_body Bd
  have e0 : s₁.heap = h0 := by rw [← hh, Bd.state]; rfl
  have N0 := Fr.nil n0
  refine own_open (own_ef11 m ea ((3 : Int32))) ?_
  refine own_go (S' := (s₁.setTop (mkF m 1 #[.val (.ref ea), .val (.int (3 : Int32))] [(.ref ea)]))) (fun _ k => XS.aloadN X0.here hx rfl (hb hby own_d_jdk_65_method_119_0) rfl rfl  k) ?_
  refine own_go (S' := (s₁.setTop (mkF m 2 #[.val (.ref ea), .val (.int (3 : Int32))] [(.int (3 : Int32)), (.ref ea)]))) (fun _ k => XS.iloadN X0.here hx rfl (hb hby own_d_jdk_65_method_119_1) rfl  k) ?_
  refine own_go (S' := (s₁.setTop (mkF m 3 #[.val (.ref ea), .val (.int (3 : Int32))] [(.ref ea), (.int (3 : Int32)), (.ref ea)]))) (fun _ k => XS.aloadN X0.here hx rfl (hb hby own_d_jdk_65_method_119_2) rfl rfl  k) ?_
  have mv1 := mw
  obtain ⟨cc1, kc1, mw11, mw21, mw31⟩ := mv1
  obtain ⟨kd1, mq1, ek1⟩ := hZ.alike.2.2 _ _ mw21
  obtain ⟨cB1, kB1, ia1, ib1, ic1⟩ := isOf hZ e0 Ex
  obtain ⟨vm1, X1, st1⟩ := Jvm.Stand.getClassOf X0 hx hown (mvT hZ (hw _ (List.mem_of_getElem? (i := 126) rfl))) (mvT hZ (hw _ (List.mem_of_getElem? (i := 127) rfl))) (nf_top (args := #[]) (mvT hZ (hw _ (List.mem_of_getElem? (i := 107) rfl)))) (mvT hZ (hw _ (List.mem_of_getElem? (i := 129) rfl))) (mvT hZ (hw _ (List.mem_of_getElem? (i := 128) rfl))) (mvT hZ (hw _ (List.mem_of_getElem? (i := 130) rfl))) (by rw [hZ.alike.findClass]; exact mw11) (by have q := ia1; rw [hZ.alike.findClass] at q; cases q.symm.trans mw11; exact ic1) mq1 (by rw [ek1]; exact mw31) (g := (mkF m 3 #[.val (.ref ea), .val (.int (3 : Int32))] [(.ref ea), (.int (3 : Int32)), (.ref ea)])) rfl (by rw [hml]; rfl) rfl (hb hby own_d_jdk_65_method_119_3) (by decide) (by rw [show nativeFrameWords "java/lang/Object" "getClass" 1 = 3 from by decide +kernel]; show 2 * 0 + (1 + (1 + 0)) + (3 + 11) ≤ 33; decide)
  have e1 : (s₁.setVm vm1).heap = h0 := e0
  refine own_go (S' := ((s₁.setVm vm1).setTop (mkF m 6 #[.val (.ref ea), .val (.int (3 : Int32))] [(.ref mr), (.int (3 : Int32)), (.ref ea)]))) st1 ?_
  obtain ⟨_, _, ⟨T2, L2, k2, n2⟩, -, X2, ⟨Lc2, hQ2, l2, y2, z2⟩, st2⟩ := Jvm.LawKit.callS X1 hx (y := (⟨"java/util/Arrays", "copyOf", "([Ljava/lang/Object;ILjava/lang/Class;)[Ljava/lang/Object;"⟩ : MethodName)) hown (mvT hZ (hw _ (List.mem_of_getElem? (i := 132) rfl))) (mvT hZ (hw _ (List.mem_of_getElem? (i := 133) rfl))) (mvT hZ (hw _ (List.mem_of_getElem? (i := 124) rfl))) (mvT hZ (hw _ (List.mem_of_getElem? (i := 134) rfl))) (by decide) (backOf (W := 0) (own_c3_3 l Z a0 hw ea mr d1 d2 d3 k h0 n0 Z0 V Ex Ed1 Ed2 Ed3 mw) hZ (hw _ (List.mem_of_getElem? (i := 134) rfl)) (hw _ (List.mem_of_getElem? (i := 124) rfl)) (by decide) (by decide)) (g := (mkF m 6 #[.val (.ref ea), .val (.int (3 : Int32))] [(.ref mr), (.int (3 : Int32)), (.ref ea)])) rfl (by rw [hml]; rfl) (argsL := [(.ref ea), (.int (3 : Int32)), (.ref mr)]) (rest := []) (lenOf own_pd8 rfl) rfl (by show 2 * 0 + _ ≤ _; exact Nat.le_of_eq rfl) (hb hby own_d_jdk_65_method_119_6) (fun _ _ => ⟨rfl, e1, (by decide : 0 + 1 ≤ _), (by decide : 0 + 3 ≤ _)⟩)
  dsimp only [Pt.U, Pt.locs, Pt.cells, Pt.slots] at X2 l2 y2 z2 st2 hQ2
  subst l2 y2 z2
  obtain ⟨r2, k2c, rfl, N2q, Kc2, V2c, s2c⟩ := hQ2
  have N2 := Fr.app N0 N2q
  refine own_go (S' := (T2.setTop (mkF m 9 #[.val (.ref ea), .val (.int (3 : Int32))] [(.ref r2)]))) st2 ?_
  refine own_retA X2 hx hlk hret rfl rfl (hb hby own_d_jdk_65_method_119_9) ?_ (by decide) (by decide)
  exact ⟨_, _, rfl, N2, Kc2, V2c, s2c⟩
set_option maxRecDepth 65536 in
set_option maxHeartbeats 40000000 in
theorem own_ta3 (l : Launch) (Z : State) (a0 : Array Value) (hw : ∀ d ∈ tables_1, d.before a0 Z = true) (a : Addr) (ea : Addr) (d1 d2 d3 : Addr) (k : ClassId) (mr : Addr) (h0 : Heap) (n0 : Nat) (Z0 : n0 ≤ h0.size) (E_a : Exa Z h0 a "java/util/ArrayList") (Fe : Fld Z h0 a "java/util/ArrayList" "elementData" "[Ljava/lang/Object;" (.ref ea)) (Fs : Fld Z h0 a "java/util/ArrayList" "size" "I" (.int (3 : Int32))) (V : Arv Z h0 ea k (.object "java/lang/Object") 10 [.ref d1, .ref d2, .ref d3, .null, .null, .null, .null, .null, .null, .null] .null) (Ex : Exa Z h0 ea "[Ljava/lang/Object;") (Ed1 : Exa Z h0 d1 "java/time/Duration") (Ed2 : Exa Z h0 d2 "java/time/Duration") (Ed3 : Exa Z h0 d3 "java/time/Duration") (mw : own_Mir Z mr) :
    own_C l Z (⟨"java/util/ArrayList", "toArray", "()[Ljava/lang/Object;"⟩ : MethodName) jdk_38_method_16_code 1 (some (.array (.object "java/lang/Object"))) [] ({ frames := 3, cells := 1, slots := 3, locals := 46 } : Room) #[(.ref a)] h0 (own_Qt Z (3 : Int32) [.ref d1, .ref d2, .ref d3] h0 n0) := by
  refine MetFree.of_bodySF (plainFor_of_name own_pn3) hisR ?_
  intro p e s m args below meth c s₁ Bd hml0 hP hK
  obtain ⟨rfl, hZ, hh⟩ := hP
  have hx := Bd.exec
  have hby := Bd.bytes
  have hlk := Bd.notSynchronized
  have hret := Bd.returns
  have hml : c.maxLocals = 1 := hml0
  have hown : s.vm.findClass "java/util/ArrayList" = some m.cls := findClass_of_methodNamed Bd.named
  have hnm := (name_of_methodNamed Bd.named Bd.method).1
  have X0 : Stand p l e ({ frames := 3, cells := 1, slots := 3, locals := 46 } : Room) s m #[(.ref a)] below meth c s₁ [] 0 0 := Stand.of_body Bd
  have e0 : s₁.heap = h0 := by rw [← hh, Bd.state]; rfl
  have N0 := Fr.nil n0
  refine own_open (own_ef4 m a) ?_
  refine own_go (S' := (s₁.setTop (mkF m 1 #[.val (.ref a)] [(.ref a)]))) (fun _ k => XS.aloadN X0.here hx rfl (hb hby own_d_jdk_38_method_16_0) rfl rfl  k) ?_
  obtain ⟨T1, X1, e1, st1⟩ := getF X0 hx hZ hown (host := "") (Or.inl (hw _ (List.mem_of_getElem? (i := 49) rfl))) Via.refl e0 Fe (g := (mkF m 1 #[.val (.ref a)] [(.ref a)])) rfl rfl (hb hby own_d_jdk_38_method_16_1)
  refine own_go (S' := (T1.setTop (mkF m 4 #[.val (.ref a)] [(.ref ea)]))) st1 ?_
  refine own_go (S' := (T1.setTop (mkF m 5 #[.val (.ref a)] [(.ref a), (.ref ea)]))) (fun _ k => XS.aloadN X1.here hx rfl (hb hby own_d_jdk_38_method_16_4) rfl rfl  k) ?_
  obtain ⟨T2, X2, e2, st2⟩ := getF X1 hx hZ hown (host := "") (Or.inl (hw _ (List.mem_of_getElem? (i := 58) rfl))) Via.refl e1 Fs (g := (mkF m 5 #[.val (.ref a)] [(.ref a), (.ref ea)])) rfl rfl (hb hby own_d_jdk_38_method_16_5)
  refine own_go (S' := (T2.setTop (mkF m 8 #[.val (.ref a)] [(.int (3 : Int32)), (.ref ea)]))) st2 ?_
  obtain ⟨_, _, ⟨T3, L3, k3, n3⟩, -, X3, ⟨Lc3, hQ3, l3, y3, z3⟩, st3⟩ := Jvm.LawKit.callS X2 hx (y := (⟨"java/util/Arrays", "copyOf", "([Ljava/lang/Object;I)[Ljava/lang/Object;"⟩ : MethodName)) hown (mvT hZ (hw _ (List.mem_of_getElem? (i := 122) rfl))) (mvT hZ (hw _ (List.mem_of_getElem? (i := 123) rfl))) (mvT hZ (hw _ (List.mem_of_getElem? (i := 124) rfl))) (mvT hZ (hw _ (List.mem_of_getElem? (i := 125) rfl))) (by decide) (backOf (W := 0) (own_c2_3 l Z a0 hw ea d1 d2 d3 k mr h0 n0 Z0 V Ex Ed1 Ed2 Ed3 mw) hZ (hw _ (List.mem_of_getElem? (i := 125) rfl)) (hw _ (List.mem_of_getElem? (i := 124) rfl)) (by decide) (by decide)) (g := (mkF m 8 #[.val (.ref a)] [(.int (3 : Int32)), (.ref ea)])) rfl (by rw [hml]; rfl) (argsL := [(.ref ea), (.int (3 : Int32))]) (rest := []) (lenOf own_pd9 rfl) rfl (by show 2 * 0 + _ ≤ _; exact Nat.le_of_eq rfl) (hb hby own_d_jdk_38_method_16_8) (fun _ _ => ⟨rfl, e2, (by decide : 0 + 1 ≤ _), (by decide : 0 + 3 ≤ _)⟩)
  dsimp only [Pt.U, Pt.locs, Pt.cells, Pt.slots] at X3 l3 y3 z3 st3 hQ3
  subst l3 y3 z3
  obtain ⟨r3, k3c, rfl, N3q, Kc3, V3c, s3c⟩ := hQ3
  have N3 := Fr.app N0 N3q
  refine own_go (S' := (T3.setTop (mkF m 11 #[.val (.ref a)] [(.ref r3)]))) st3 ?_
  refine own_retA X3 hx hlk hret rfl rfl (hb hby own_d_jdk_38_method_16_11) ?_ (by decide) (by decide)
  exact ⟨_, _, rfl, N3, Kc3, V3c, s3c⟩
set_option maxRecDepth 65536 in
set_option maxHeartbeats 40000000 in
theorem own_lfa (l : Launch) (Z : State) (a0 : Array Value) (hw : ∀ d ∈ tables_1, d.before a0 Z = true) (r : Addr) (d1 d2 d3 : Addr) (k : ClassId) (h0 : Heap) (n0 : Nat) (Z0 : n0 ≤ h0.size) (V : Arv Z h0 r k (.object "java/lang/Object") (3 : Int32) [.ref d1, .ref d2, .ref d3] .null) (Ed1 : Exa Z h0 d1 "java/time/Duration") (Ed2 : Exa Z h0 d2 "java/time/Duration") (Ed3 : Exa Z h0 d3 "java/time/Duration") :
    own_C l Z (⟨"java/util/ImmutableCollections", "listFromArray", "([Ljava/lang/Object;)Ljava/util/List;"⟩ : MethodName) jdk_56_method_4_code 3 (some (.object "java/util/List")) [] ({ frames := 5, cells := 2, slots := 5, locals := 63 } : Room) #[(.ref r)] h0 (own_Qo (fun h x => own_L3 Z h x d1 d2 d3) h0 n0) := by
  refine MetFree.of_bodySF (plainFor_of_name own_pn10) hisR ?_
  intro p e s m args below meth c s₁ Bd hml0 hP hK
  obtain ⟨rfl, hZ, hh⟩ := hP
  have hx := Bd.exec
  have hby := Bd.bytes
  have hlk := Bd.notSynchronized
  have hret := Bd.returns
  have hml : c.maxLocals = 3 := hml0
  have hown : s.vm.findClass "java/util/ImmutableCollections" = some m.cls := findClass_of_methodNamed Bd.named
  have hnm := (name_of_methodNamed Bd.named Bd.method).1
  have X0 : Stand p l e ({ frames := 5, cells := 2, slots := 5, locals := 63 } : Room) s m #[(.ref r)] below meth c s₁ [] 0 0 := Stand.of_body Bd
  have e0 : s₁.heap = h0 := by rw [← hh, Bd.state]; rfl
  have N0 := Fr.nil n0
  refine own_open (own_ef12 m r) ?_
  refine own_go (S' := (s₁.setTop (mkF m 1 #[.val (.ref r), .unset, .unset] [(.ref r)]))) (fun _ k => XS.aloadN X0.here hx rfl (hb hby own_d_jdk_56_method_4_0) rfl rfl  k) ?_
  have vv1 := V
  obtain ⟨cl1, Ar1, qa1, Sz1, Ng1, Ha1, Ga1⟩ := vv1
  refine own_go (S' := (s₁.setTop (mkF m 2 #[.val (.ref r), .unset, .unset] [(.int cl1.slots.size.toInt32)]))) (fun _ k => X0.arraylength hx (by rw [e0]; exact Ar1.1) (State.isArrayOf_alike hZ.alike Ar1.2.1) (g := (mkF m 1 #[.val (.ref r), .unset, .unset] [(.ref r)])) rfl rfl (hb hby own_d_jdk_56_method_4_1) _ k) ?_
  rw [len_of Sz1 Ng1]
  obtain ⟨T2, h2, k2, X2, e2, E2, A2, Ex2, O2, st2⟩ := newRE X0 hx hZ hown (hw _ (List.mem_of_getElem? (i := 206) rfl)) (hw _ (List.mem_of_getElem? (i := 77) rfl)) e0 (g := (mkF m 2 #[.val (.ref r), .unset, .unset] [(.int (3 : Int32))])) rfl (hb hby own_d_jdk_56_method_4_2) rfl (by decide) (cap := 3) (by decide) (by decide) (by decide) (by decide) (ad := "[Ljava/lang/Object;") (by decide +kernel)
  obtain ⟨ar, g2⟩ : ∃ z, z = h0.size := ⟨_, rfl⟩
  rw [← g2] at A2 Ex2 st2
  have V2 : Arv Z h2 ar k2 (.object "java/lang/Object") (3 : Int32) [.null, .null, .null] .null := (Arv.new A2 (by decide)).pad (pad_rep [] .null 3)
  refine own_go (S' := (T2.setTop (mkF m 5 #[.val (.ref r), .unset, .unset] [(.ref ar)]))) st2 ?_
  have sz_ar : h0.size ≤ ar := Nat.le_trans (Keep.refl h0 []).1 (Nat.le_of_eq g2.symm)
  have gn_ar : n0 ≤ ar := Nat.le_trans Z0 sz_ar
  have ne_r_ar : r ≠ ar := Nat.ne_of_lt (Nat.lt_of_lt_of_le V.lt (Nat.le_of_eq g2.symm))
  have ne_d1_ar : d1 ≠ ar := Nat.ne_of_lt (Nat.lt_of_lt_of_le Ed1.lt (Nat.le_of_eq g2.symm))
  have ne_d2_ar : d2 ≠ ar := Nat.ne_of_lt (Nat.lt_of_lt_of_le Ed2.lt (Nat.le_of_eq g2.symm))
  have ne_d3_ar : d3 ≠ ar := Nat.ne_of_lt (Nat.lt_of_lt_of_le Ed3.lt (Nat.le_of_eq g2.symm))
  have c3_V := V.ext E2
  have c3_Ed1 := Ed1.ext E2
  have c3_Ed2 := Ed2.ext E2
  have c3_Ed3 := Ed3.ext E2
  have K2 := (Keep.refl h0 []).ext E2
  refine own_go (S' := (T2.setTop (mkF m 6 #[.val (.ref r), .val (.ref ar), .unset] []))) (fun _ k => XS.astoreN X2.here hx rfl (hb hby own_d_jdk_56_method_4_5) rfl rfl (l' := #[.val (.ref r), .val (.ref ar), .unset]) rfl k) ?_
  refine own_go (S' := (T2.setTop (mkF m 7 #[.val (.ref r), .val (.ref ar), .unset] [(.int (0 : Int32))]))) (fun _ k => XS.iconst X2.here hx rfl (hb hby own_d_jdk_56_method_4_6) k) ?_
  refine own_go (S' := (T2.setTop (mkF m 8 #[.val (.ref r), .val (.ref ar), .val (.int (0 : Int32))] []))) (fun _ k => XS.istoreN X2.here hx rfl (hb hby own_d_jdk_56_method_4_7) rfl (l' := #[.val (.ref r), .val (.ref ar), .val (.int (0 : Int32))]) rfl k) ?_
  refine own_go (S' := (T2.setTop (mkF m 9 #[.val (.ref r), .val (.ref ar), .val (.int (0 : Int32))] [(.int (0 : Int32))]))) (fun _ k => XS.iloadN X2.here hx rfl (hb hby own_d_jdk_56_method_4_8) rfl  k) ?_
  refine own_go (S' := (T2.setTop (mkF m 10 #[.val (.ref r), .val (.ref ar), .val (.int (0 : Int32))] [(.ref r), (.int (0 : Int32))]))) (fun _ k => XS.aloadN X2.here hx rfl (hb hby own_d_jdk_56_method_4_9) rfl rfl  k) ?_
  have vv4 := c3_V
  obtain ⟨cl4, Ar4, qa4, Sz4, Ng4, Ha4, Ga4⟩ := vv4
  refine own_go (S' := (T2.setTop (mkF m 11 #[.val (.ref r), .val (.ref ar), .val (.int (0 : Int32))] [(.int cl4.slots.size.toInt32), (.int (0 : Int32))]))) (fun _ k => X2.arraylength hx (by rw [e2]; exact Ar4.1) (State.isArrayOf_alike hZ.alike Ar4.2.1) (g := (mkF m 10 #[.val (.ref r), .val (.ref ar), .val (.int (0 : Int32))] [(.ref r), (.int (0 : Int32))])) rfl rfl (hb hby own_d_jdk_56_method_4_10) _ k) ?_
  rw [len_of Sz4 Ng4]
  refine own_go (S' := (T2.setTop (mkF m 14 #[.val (.ref r), .val (.ref ar), .val (.int (0 : Int32))] []))) (fun _ k => XS.icmpNo X2.here hx rfl (hb hby own_d_jdk_56_method_4_11) rfl (tlt (by decide)).2.1 k) ?_
  refine own_go (S' := (T2.setTop (mkF m 15 #[.val (.ref r), .val (.ref ar), .val (.int (0 : Int32))] [(.ref ar)]))) (fun _ k => XS.aloadN X2.here hx rfl (hb hby own_d_jdk_56_method_4_14) rfl rfl  k) ?_
  refine own_go (S' := (T2.setTop (mkF m 16 #[.val (.ref r), .val (.ref ar), .val (.int (0 : Int32))] [(.int (0 : Int32)), (.ref ar)]))) (fun _ k => XS.iloadN X2.here hx rfl (hb hby own_d_jdk_56_method_4_15) rfl  k) ?_
  refine own_go (S' := (T2.setTop (mkF m 17 #[.val (.ref r), .val (.ref ar), .val (.int (0 : Int32))] [(.ref r), (.int (0 : Int32)), (.ref ar)]))) (fun _ k => XS.aloadN X2.here hx rfl (hb hby own_d_jdk_56_method_4_16) rfl rfl  k) ?_
  refine own_go (S' := (T2.setTop (mkF m 18 #[.val (.ref r), .val (.ref ar), .val (.int (0 : Int32))] [(.int (0 : Int32)), (.ref r), (.int (0 : Int32)), (.ref ar)]))) (fun _ k => XS.iloadN X2.here hx rfl (hb hby own_d_jdk_56_method_4_17) rfl  k) ?_
  have vv5 := c3_V
  obtain ⟨cl5, Ar5, qa5, Sz5, Ng5, Ha5, Ga5⟩ := vv5
  have hin5 : ¬ ((0 : Int32) < 0 ∨ cl5.slots.size ≤ ((0 : Int32)).toNatClampNeg) := inb_of Sz5 ⟨by decide, by decide⟩
  refine own_go (S' := (T2.setTop (mkF m 19 #[.val (.ref r), .val (.ref ar), .val (.int (0 : Int32))] [(.ref d1), (.int (0 : Int32)), (.ref ar)]))) (fun _ k => X2.aaload hx (j := (0 : Int32)) (v := (.ref d1)) (by rw [e2]; exact Ar5.1) (State.isArrayOf_alike hZ.alike Ar5.2.1) rfl Ar5.2.2 hin5 (Ha5.at hin5 rfl) (g := (mkF m 18 #[.val (.ref r), .val (.ref ar), .val (.int (0 : Int32))] [(.int (0 : Int32)), (.ref r), (.int (0 : Int32)), (.ref ar)])) rfl rfl (hb hby own_d_jdk_56_method_4_18) _ k) ?_
  obtain ⟨_, _, ⟨T6, L6, k6, n6⟩, -, X6, ⟨Lc6, hQ6, l6, y6, z6⟩, st6⟩ := Jvm.LawKit.callS X2 hx (y := (⟨"java/util/Objects", "requireNonNull", "(Ljava/lang/Object;)Ljava/lang/Object;"⟩ : MethodName)) hown (mvT hZ (hw _ (List.mem_of_getElem? (i := 207) rfl))) (mvT hZ (hw _ (List.mem_of_getElem? (i := 169) rfl))) (mvT hZ (hw _ (List.mem_of_getElem? (i := 170) rfl))) (mvT hZ (hw _ (List.mem_of_getElem? (i := 171) rfl))) (by decide) (backOf (W := 2) (own_rnn l Z a0 hw d1 h2 n0 (Nat.le_trans Z0 K2.1)) hZ (hw _ (List.mem_of_getElem? (i := 171) rfl)) (hw _ (List.mem_of_getElem? (i := 170) rfl)) (by decide) (by decide)) (g := (mkF m 19 #[.val (.ref r), .val (.ref ar), .val (.int (0 : Int32))] [(.ref d1), (.int (0 : Int32)), (.ref ar)])) rfl (by rw [hml]; rfl) (argsL := [(.ref d1)]) (rest := [(.int (0 : Int32)), (.ref ar)]) (lenOf own_pd7 rfl) rfl (by show 2 * 0 + _ ≤ _; exact Nat.le_of_eq rfl) (hb hby own_d_jdk_56_method_4_19) (fun _ _ => ⟨rfl, e2, (by decide : 1 + 0 ≤ _), (by decide : 3 + 0 ≤ _)⟩)
  dsimp only [Pt.U, Pt.locs, Pt.cells, Pt.slots] at X6 l6 y6 z6 st6 hQ6
  subst l6 y6 z6
  obtain ⟨rfl, N6q, hh6⟩ := hQ6
  have N6 := Fr.app N0 N6q
  refine own_go (S' := (T6.setTop (mkF m 22 #[.val (.ref r), .val (.ref ar), .val (.int (0 : Int32))] [(.ref d1), (.int (0 : Int32)), (.ref ar)]))) st6 ?_
  have vv7 := V2
  obtain ⟨cl7, Ar7, qa7, Sz7, Ng7, Ha7, Ga7⟩ := vv7
  have hin7 : ¬ ((0 : Int32) < 0 ∨ cl7.slots.size ≤ ((0 : Int32)).toNatClampNeg) := inb_of Sz7 ⟨by decide, by decide⟩
  obtain ⟨T8, h8, X8, e8, W8, st8⟩ := stR X6 hx hZ hh6 Ar7 (j := (0 : Int32)) hin7 rfl (Sto.ofV Ar7 qa7 O2 (Ins.of_exa c3_Ed1 (hw _ (List.mem_of_getElem? (i := 78) rfl)))) (g := (mkF m 22 #[.val (.ref r), .val (.ref ar), .val (.int (0 : Int32))] [(.ref d1), (.int (0 : Int32)), (.ref ar)])) rfl rfl (hb hby own_d_jdk_56_method_4_22)
  have V8 := Arv.set Ar7 qa7 Sz7 Ng7 Ha7 Ga7 (v := (.ref d1)) rfl W8 0 rfl (Nat.le_of_ble_eq_true rfl)
  have N8 := Fr.snoc X8 N6 gn_ar
  refine own_go (S' := (T8.setTop (mkF m 23 #[.val (.ref r), .val (.ref ar), .val (.int (0 : Int32))] []))) st8 ?_
  have c9_V := c3_V.other W8 ne_r_ar
  have c9_Ed1 := c3_Ed1.wr W8
  have c9_Ed2 := c3_Ed2.wr W8
  have c9_Ed3 := c3_Ed3.wr W8
  have K8 := K2.wr W8 (Or.inr sz_ar)
  refine own_go (S' := (T8.setTop (mkF m 26 #[.val (.ref r), .val (.ref ar), .val (.int (1 : Int32))] []))) (fun _ k => XS.iinc X8.here hx rfl (hb hby own_d_jdk_56_method_4_23) rfl (l' := #[.val (.ref r), .val (.ref ar), .val (.int (1 : Int32))]) rfl k) ?_
  refine own_go (S' := (T8.setTop (mkF m 8 #[.val (.ref r), .val (.ref ar), .val (.int (1 : Int32))] []))) (fun _ k => XS.goto X8.here hx rfl (pc0 := 26) (pc' := 8) rfl (hb hby own_d_jdk_56_method_4_26) (by decide) (by decide) k) ?_
  refine own_go (S' := (T8.setTop (mkF m 9 #[.val (.ref r), .val (.ref ar), .val (.int (1 : Int32))] [(.int (1 : Int32))]))) (fun _ k => XS.iloadN X8.here hx rfl (hb hby own_d_jdk_56_method_4_8) rfl  k) ?_
  refine own_go (S' := (T8.setTop (mkF m 10 #[.val (.ref r), .val (.ref ar), .val (.int (1 : Int32))] [(.ref r), (.int (1 : Int32))]))) (fun _ k => XS.aloadN X8.here hx rfl (hb hby own_d_jdk_56_method_4_9) rfl rfl  k) ?_
  have vv10 := c9_V
  obtain ⟨cl10, Ar10, qa10, Sz10, Ng10, Ha10, Ga10⟩ := vv10
  refine own_go (S' := (T8.setTop (mkF m 11 #[.val (.ref r), .val (.ref ar), .val (.int (1 : Int32))] [(.int cl10.slots.size.toInt32), (.int (1 : Int32))]))) (fun _ k => X8.arraylength hx (by rw [e8]; exact Ar10.1) (State.isArrayOf_alike hZ.alike Ar10.2.1) (g := (mkF m 10 #[.val (.ref r), .val (.ref ar), .val (.int (1 : Int32))] [(.ref r), (.int (1 : Int32))])) rfl rfl (hb hby own_d_jdk_56_method_4_10) _ k) ?_
  rw [len_of Sz10 Ng10]
  refine own_go (S' := (T8.setTop (mkF m 14 #[.val (.ref r), .val (.ref ar), .val (.int (1 : Int32))] []))) (fun _ k => XS.icmpNo X8.here hx rfl (hb hby own_d_jdk_56_method_4_11) rfl (tlt (by decide)).2.1 k) ?_
  refine own_go (S' := (T8.setTop (mkF m 15 #[.val (.ref r), .val (.ref ar), .val (.int (1 : Int32))] [(.ref ar)]))) (fun _ k => XS.aloadN X8.here hx rfl (hb hby own_d_jdk_56_method_4_14) rfl rfl  k) ?_
  refine own_go (S' := (T8.setTop (mkF m 16 #[.val (.ref r), .val (.ref ar), .val (.int (1 : Int32))] [(.int (1 : Int32)), (.ref ar)]))) (fun _ k => XS.iloadN X8.here hx rfl (hb hby own_d_jdk_56_method_4_15) rfl  k) ?_
  refine own_go (S' := (T8.setTop (mkF m 17 #[.val (.ref r), .val (.ref ar), .val (.int (1 : Int32))] [(.ref r), (.int (1 : Int32)), (.ref ar)]))) (fun _ k => XS.aloadN X8.here hx rfl (hb hby own_d_jdk_56_method_4_16) rfl rfl  k) ?_
  refine own_go (S' := (T8.setTop (mkF m 18 #[.val (.ref r), .val (.ref ar), .val (.int (1 : Int32))] [(.int (1 : Int32)), (.ref r), (.int (1 : Int32)), (.ref ar)]))) (fun _ k => XS.iloadN X8.here hx rfl (hb hby own_d_jdk_56_method_4_17) rfl  k) ?_
  have vv11 := c9_V
  obtain ⟨cl11, Ar11, qa11, Sz11, Ng11, Ha11, Ga11⟩ := vv11
  have hin11 : ¬ ((1 : Int32) < 0 ∨ cl11.slots.size ≤ ((1 : Int32)).toNatClampNeg) := inb_of Sz11 ⟨by decide, by decide⟩
  refine own_go (S' := (T8.setTop (mkF m 19 #[.val (.ref r), .val (.ref ar), .val (.int (1 : Int32))] [(.ref d2), (.int (1 : Int32)), (.ref ar)]))) (fun _ k => X8.aaload hx (j := (1 : Int32)) (v := (.ref d2)) (by rw [e8]; exact Ar11.1) (State.isArrayOf_alike hZ.alike Ar11.2.1) rfl Ar11.2.2 hin11 (Ha11.at hin11 rfl) (g := (mkF m 18 #[.val (.ref r), .val (.ref ar), .val (.int (1 : Int32))] [(.int (1 : Int32)), (.ref r), (.int (1 : Int32)), (.ref ar)])) rfl rfl (hb hby own_d_jdk_56_method_4_18) _ k) ?_
  obtain ⟨_, _, ⟨T12, L12, k12, n12⟩, -, X12, ⟨Lc12, hQ12, l12, y12, z12⟩, st12⟩ := Jvm.LawKit.callS X8 hx (y := (⟨"java/util/Objects", "requireNonNull", "(Ljava/lang/Object;)Ljava/lang/Object;"⟩ : MethodName)) hown (mvT hZ (hw _ (List.mem_of_getElem? (i := 207) rfl))) (mvT hZ (hw _ (List.mem_of_getElem? (i := 169) rfl))) (mvT hZ (hw _ (List.mem_of_getElem? (i := 170) rfl))) (mvT hZ (hw _ (List.mem_of_getElem? (i := 171) rfl))) (by decide) (backOf (W := 2) (own_rnn l Z a0 hw d2 h8 n0 (Nat.le_trans Z0 K8.1)) hZ (hw _ (List.mem_of_getElem? (i := 171) rfl)) (hw _ (List.mem_of_getElem? (i := 170) rfl)) (by decide) (by decide)) (g := (mkF m 19 #[.val (.ref r), .val (.ref ar), .val (.int (1 : Int32))] [(.ref d2), (.int (1 : Int32)), (.ref ar)])) rfl (by rw [hml]; rfl) (argsL := [(.ref d2)]) (rest := [(.int (1 : Int32)), (.ref ar)]) (lenOf own_pd7 rfl) rfl (by show 2 * 0 + _ ≤ _; exact Nat.le_of_eq rfl) (hb hby own_d_jdk_56_method_4_19) (fun _ _ => ⟨rfl, e8, (by decide : 1 + 0 ≤ _), (by decide : 3 + 0 ≤ _)⟩)
  dsimp only [Pt.U, Pt.locs, Pt.cells, Pt.slots] at X12 l12 y12 z12 st12 hQ12
  subst l12 y12 z12
  obtain ⟨rfl, N12q, hh12⟩ := hQ12
  have N12 := Fr.app N8 N12q
  refine own_go (S' := (T12.setTop (mkF m 22 #[.val (.ref r), .val (.ref ar), .val (.int (1 : Int32))] [(.ref d2), (.int (1 : Int32)), (.ref ar)]))) st12 ?_
  have vv13 := V8
  obtain ⟨cl13, Ar13, qa13, Sz13, Ng13, Ha13, Ga13⟩ := vv13
  have hin13 : ¬ ((1 : Int32) < 0 ∨ cl13.slots.size ≤ ((1 : Int32)).toNatClampNeg) := inb_of Sz13 ⟨by decide, by decide⟩
  obtain ⟨T14, h14, X14, e14, W14, st14⟩ := stR X12 hx hZ hh12 Ar13 (j := (1 : Int32)) hin13 rfl (Sto.ofV Ar13 qa13 O2 (Ins.of_exa c9_Ed2 (hw _ (List.mem_of_getElem? (i := 78) rfl)))) (g := (mkF m 22 #[.val (.ref r), .val (.ref ar), .val (.int (1 : Int32))] [(.ref d2), (.int (1 : Int32)), (.ref ar)])) rfl rfl (hb hby own_d_jdk_56_method_4_22)
  have V14 := Arv.set Ar13 qa13 Sz13 Ng13 Ha13 Ga13 (v := (.ref d2)) rfl W14 1 rfl (Nat.le_of_ble_eq_true rfl)
  have N14 := Fr.snoc X14 N12 gn_ar
  refine own_go (S' := (T14.setTop (mkF m 23 #[.val (.ref r), .val (.ref ar), .val (.int (1 : Int32))] []))) st14 ?_
  have c15_V := c9_V.other W14 ne_r_ar
  have c15_Ed1 := c9_Ed1.wr W14
  have c15_Ed2 := c9_Ed2.wr W14
  have c15_Ed3 := c9_Ed3.wr W14
  have K14 := K8.wr W14 (Or.inr sz_ar)
  refine own_go (S' := (T14.setTop (mkF m 26 #[.val (.ref r), .val (.ref ar), .val (.int (2 : Int32))] []))) (fun _ k => XS.iinc X14.here hx rfl (hb hby own_d_jdk_56_method_4_23) rfl (l' := #[.val (.ref r), .val (.ref ar), .val (.int (2 : Int32))]) rfl k) ?_
  refine own_go (S' := (T14.setTop (mkF m 8 #[.val (.ref r), .val (.ref ar), .val (.int (2 : Int32))] []))) (fun _ k => XS.goto X14.here hx rfl (pc0 := 26) (pc' := 8) rfl (hb hby own_d_jdk_56_method_4_26) (by decide) (by decide) k) ?_
  refine own_go (S' := (T14.setTop (mkF m 9 #[.val (.ref r), .val (.ref ar), .val (.int (2 : Int32))] [(.int (2 : Int32))]))) (fun _ k => XS.iloadN X14.here hx rfl (hb hby own_d_jdk_56_method_4_8) rfl  k) ?_
  refine own_go (S' := (T14.setTop (mkF m 10 #[.val (.ref r), .val (.ref ar), .val (.int (2 : Int32))] [(.ref r), (.int (2 : Int32))]))) (fun _ k => XS.aloadN X14.here hx rfl (hb hby own_d_jdk_56_method_4_9) rfl rfl  k) ?_
  have vv16 := c15_V
  obtain ⟨cl16, Ar16, qa16, Sz16, Ng16, Ha16, Ga16⟩ := vv16
  refine own_go (S' := (T14.setTop (mkF m 11 #[.val (.ref r), .val (.ref ar), .val (.int (2 : Int32))] [(.int cl16.slots.size.toInt32), (.int (2 : Int32))]))) (fun _ k => X14.arraylength hx (by rw [e14]; exact Ar16.1) (State.isArrayOf_alike hZ.alike Ar16.2.1) (g := (mkF m 10 #[.val (.ref r), .val (.ref ar), .val (.int (2 : Int32))] [(.ref r), (.int (2 : Int32))])) rfl rfl (hb hby own_d_jdk_56_method_4_10) _ k) ?_
  rw [len_of Sz16 Ng16]
  refine own_go (S' := (T14.setTop (mkF m 14 #[.val (.ref r), .val (.ref ar), .val (.int (2 : Int32))] []))) (fun _ k => XS.icmpNo X14.here hx rfl (hb hby own_d_jdk_56_method_4_11) rfl (tlt (by decide)).2.1 k) ?_
  refine own_go (S' := (T14.setTop (mkF m 15 #[.val (.ref r), .val (.ref ar), .val (.int (2 : Int32))] [(.ref ar)]))) (fun _ k => XS.aloadN X14.here hx rfl (hb hby own_d_jdk_56_method_4_14) rfl rfl  k) ?_
  refine own_go (S' := (T14.setTop (mkF m 16 #[.val (.ref r), .val (.ref ar), .val (.int (2 : Int32))] [(.int (2 : Int32)), (.ref ar)]))) (fun _ k => XS.iloadN X14.here hx rfl (hb hby own_d_jdk_56_method_4_15) rfl  k) ?_
  refine own_go (S' := (T14.setTop (mkF m 17 #[.val (.ref r), .val (.ref ar), .val (.int (2 : Int32))] [(.ref r), (.int (2 : Int32)), (.ref ar)]))) (fun _ k => XS.aloadN X14.here hx rfl (hb hby own_d_jdk_56_method_4_16) rfl rfl  k) ?_
  refine own_go (S' := (T14.setTop (mkF m 18 #[.val (.ref r), .val (.ref ar), .val (.int (2 : Int32))] [(.int (2 : Int32)), (.ref r), (.int (2 : Int32)), (.ref ar)]))) (fun _ k => XS.iloadN X14.here hx rfl (hb hby own_d_jdk_56_method_4_17) rfl  k) ?_
  have vv17 := c15_V
  obtain ⟨cl17, Ar17, qa17, Sz17, Ng17, Ha17, Ga17⟩ := vv17
  have hin17 : ¬ ((2 : Int32) < 0 ∨ cl17.slots.size ≤ ((2 : Int32)).toNatClampNeg) := inb_of Sz17 ⟨by decide, by decide⟩
  refine own_go (S' := (T14.setTop (mkF m 19 #[.val (.ref r), .val (.ref ar), .val (.int (2 : Int32))] [(.ref d3), (.int (2 : Int32)), (.ref ar)]))) (fun _ k => X14.aaload hx (j := (2 : Int32)) (v := (.ref d3)) (by rw [e14]; exact Ar17.1) (State.isArrayOf_alike hZ.alike Ar17.2.1) rfl Ar17.2.2 hin17 (Ha17.at hin17 rfl) (g := (mkF m 18 #[.val (.ref r), .val (.ref ar), .val (.int (2 : Int32))] [(.int (2 : Int32)), (.ref r), (.int (2 : Int32)), (.ref ar)])) rfl rfl (hb hby own_d_jdk_56_method_4_18) _ k) ?_
  obtain ⟨_, _, ⟨T18, L18, k18, n18⟩, -, X18, ⟨Lc18, hQ18, l18, y18, z18⟩, st18⟩ := Jvm.LawKit.callS X14 hx (y := (⟨"java/util/Objects", "requireNonNull", "(Ljava/lang/Object;)Ljava/lang/Object;"⟩ : MethodName)) hown (mvT hZ (hw _ (List.mem_of_getElem? (i := 207) rfl))) (mvT hZ (hw _ (List.mem_of_getElem? (i := 169) rfl))) (mvT hZ (hw _ (List.mem_of_getElem? (i := 170) rfl))) (mvT hZ (hw _ (List.mem_of_getElem? (i := 171) rfl))) (by decide) (backOf (W := 2) (own_rnn l Z a0 hw d3 h14 n0 (Nat.le_trans Z0 K14.1)) hZ (hw _ (List.mem_of_getElem? (i := 171) rfl)) (hw _ (List.mem_of_getElem? (i := 170) rfl)) (by decide) (by decide)) (g := (mkF m 19 #[.val (.ref r), .val (.ref ar), .val (.int (2 : Int32))] [(.ref d3), (.int (2 : Int32)), (.ref ar)])) rfl (by rw [hml]; rfl) (argsL := [(.ref d3)]) (rest := [(.int (2 : Int32)), (.ref ar)]) (lenOf own_pd7 rfl) rfl (by show 2 * 0 + _ ≤ _; exact Nat.le_of_eq rfl) (hb hby own_d_jdk_56_method_4_19) (fun _ _ => ⟨rfl, e14, (by decide : 1 + 0 ≤ _), (by decide : 3 + 0 ≤ _)⟩)
  dsimp only [Pt.U, Pt.locs, Pt.cells, Pt.slots] at X18 l18 y18 z18 st18 hQ18
  subst l18 y18 z18
  obtain ⟨rfl, N18q, hh18⟩ := hQ18
  have N18 := Fr.app N14 N18q
  refine own_go (S' := (T18.setTop (mkF m 22 #[.val (.ref r), .val (.ref ar), .val (.int (2 : Int32))] [(.ref d3), (.int (2 : Int32)), (.ref ar)]))) st18 ?_
  have vv19 := V14
  obtain ⟨cl19, Ar19, qa19, Sz19, Ng19, Ha19, Ga19⟩ := vv19
  have hin19 : ¬ ((2 : Int32) < 0 ∨ cl19.slots.size ≤ ((2 : Int32)).toNatClampNeg) := inb_of Sz19 ⟨by decide, by decide⟩
  obtain ⟨T20, h20, X20, e20, W20, st20⟩ := stR X18 hx hZ hh18 Ar19 (j := (2 : Int32)) hin19 rfl (Sto.ofV Ar19 qa19 O2 (Ins.of_exa c15_Ed3 (hw _ (List.mem_of_getElem? (i := 78) rfl)))) (g := (mkF m 22 #[.val (.ref r), .val (.ref ar), .val (.int (2 : Int32))] [(.ref d3), (.int (2 : Int32)), (.ref ar)])) rfl rfl (hb hby own_d_jdk_56_method_4_22)
  have V20 := Arv.set Ar19 qa19 Sz19 Ng19 Ha19 Ga19 (v := (.ref d3)) rfl W20 2 rfl (Nat.le_of_ble_eq_true rfl)
  have N20 := Fr.snoc X20 N18 gn_ar
  refine own_go (S' := (T20.setTop (mkF m 23 #[.val (.ref r), .val (.ref ar), .val (.int (2 : Int32))] []))) st20 ?_
  have c21_V := c15_V.other W20 ne_r_ar
  have c21_Ed1 := c15_Ed1.wr W20
  have c21_Ed2 := c15_Ed2.wr W20
  have c21_Ed3 := c15_Ed3.wr W20
  have K20 := K14.wr W20 (Or.inr sz_ar)
  refine own_go (S' := (T20.setTop (mkF m 26 #[.val (.ref r), .val (.ref ar), .val (.int (3 : Int32))] []))) (fun _ k => XS.iinc X20.here hx rfl (hb hby own_d_jdk_56_method_4_23) rfl (l' := #[.val (.ref r), .val (.ref ar), .val (.int (3 : Int32))]) rfl k) ?_
  refine own_go (S' := (T20.setTop (mkF m 8 #[.val (.ref r), .val (.ref ar), .val (.int (3 : Int32))] []))) (fun _ k => XS.goto X20.here hx rfl (pc0 := 26) (pc' := 8) rfl (hb hby own_d_jdk_56_method_4_26) (by decide) (by decide) k) ?_
  refine own_go (S' := (T20.setTop (mkF m 9 #[.val (.ref r), .val (.ref ar), .val (.int (3 : Int32))] [(.int (3 : Int32))]))) (fun _ k => XS.iloadN X20.here hx rfl (hb hby own_d_jdk_56_method_4_8) rfl  k) ?_
  refine own_go (S' := (T20.setTop (mkF m 10 #[.val (.ref r), .val (.ref ar), .val (.int (3 : Int32))] [(.ref r), (.int (3 : Int32))]))) (fun _ k => XS.aloadN X20.here hx rfl (hb hby own_d_jdk_56_method_4_9) rfl rfl  k) ?_
  have vv22 := c21_V
  obtain ⟨cl22, Ar22, qa22, Sz22, Ng22, Ha22, Ga22⟩ := vv22
  refine own_go (S' := (T20.setTop (mkF m 11 #[.val (.ref r), .val (.ref ar), .val (.int (3 : Int32))] [(.int cl22.slots.size.toInt32), (.int (3 : Int32))]))) (fun _ k => X20.arraylength hx (by rw [e20]; exact Ar22.1) (State.isArrayOf_alike hZ.alike Ar22.2.1) (g := (mkF m 10 #[.val (.ref r), .val (.ref ar), .val (.int (3 : Int32))] [(.ref r), (.int (3 : Int32))])) rfl rfl (hb hby own_d_jdk_56_method_4_10) _ k) ?_
  rw [len_of Sz22 Ng22]
  refine own_go (S' := (T20.setTop (mkF m 29 #[.val (.ref r), .val (.ref ar), .val (.int (3 : Int32))] []))) (fun _ k => XS.icmpYes X20.here hx rfl (pc0 := 11) (pc' := 29) rfl (hb hby own_d_jdk_56_method_4_11) rfl (flt (by decide)).2.1 (by decide) (by decide) k) ?_
  obtain ⟨T23, h23, X23, e23, E23, A23, D23, -, st23⟩ := newO X20 hx hZ hown (hw _ (List.mem_of_getElem? (i := 108) rfl)) (hw _ (List.mem_of_getElem? (i := 208) rfl)) (hw _ (List.mem_of_getElem? (i := 209) rfl)) e20 (g := (mkF m 29 #[.val (.ref r), .val (.ref ar), .val (.int (3 : Int32))] [])) rfl (hb hby own_d_jdk_56_method_4_29) (by decide) (by decide)
  obtain ⟨x, g23⟩ : ∃ z, z = h20.size := ⟨_, rfl⟩
  rw [← g23] at A23 D23 st23
  refine own_go (S' := (T23.setTop (mkF m 32 #[.val (.ref r), .val (.ref ar), .val (.int (3 : Int32))] [(.ref x)]))) st23 ?_
  have sz_x : h0.size ≤ x := Nat.le_trans K20.1 (Nat.le_of_eq g23.symm)
  have gn_x : n0 ≤ x := Nat.le_trans Z0 sz_x
  have ne_r_x : r ≠ x := Nat.ne_of_lt (Nat.lt_of_lt_of_le c21_V.lt (Nat.le_of_eq g23.symm))
  have ne_d1_x : d1 ≠ x := Nat.ne_of_lt (Nat.lt_of_lt_of_le c21_Ed1.lt (Nat.le_of_eq g23.symm))
  have ne_d2_x : d2 ≠ x := Nat.ne_of_lt (Nat.lt_of_lt_of_le c21_Ed2.lt (Nat.le_of_eq g23.symm))
  have ne_d3_x : d3 ≠ x := Nat.ne_of_lt (Nat.lt_of_lt_of_le c21_Ed3.lt (Nat.le_of_eq g23.symm))
  have ne_ar_x : ar ≠ x := Nat.ne_of_lt (Nat.lt_of_lt_of_le V20.lt (Nat.le_of_eq g23.symm))
  have c24_V := c21_V.ext E23
  have c24_Ed1 := c21_Ed1.ext E23
  have c24_Ed2 := c21_Ed2.ext E23
  have c24_Ed3 := c21_Ed3.ext E23
  have c24_Va := V20.ext E23
  have K23 := K20.ext E23
  refine own_go (S' := (T23.setTop (mkF m 33 #[.val (.ref r), .val (.ref ar), .val (.int (3 : Int32))] [(.ref x), (.ref x)]))) (fun _ k => XS.dup X23.here hx rfl (hb hby own_d_jdk_56_method_4_32) rfl rfl k) ?_
  refine own_go (S' := (T23.setTop (mkF m 34 #[.val (.ref r), .val (.ref ar), .val (.int (3 : Int32))] [(.ref ar), (.ref x), (.ref x)]))) (fun _ k => XS.aloadN X23.here hx rfl (hb hby own_d_jdk_56_method_4_33) rfl rfl  k) ?_
  refine own_go (S' := (T23.setTop (mkF m 35 #[.val (.ref r), .val (.ref ar), .val (.int (3 : Int32))] [(.int (0 : Int32)), (.ref ar), (.ref x), (.ref x)]))) (fun _ k => XS.iconst X23.here hx rfl (hb hby own_d_jdk_56_method_4_34) k) ?_
  obtain ⟨_, _, ⟨T25, L25, k25, n25⟩, -, X25, ⟨Lc25, hQ25, l25, y25, z25⟩, st25⟩ := X23.specialBackNest hx (y := (⟨"java/util/ImmutableCollections$ListN", "<init>", "([Ljava/lang/Object;Z)V"⟩ : MethodName)) rfl hown (own_mvM hZ (hw _ (List.mem_of_getElem? (i := 210) rfl))) (mvT hZ (hw _ (List.mem_of_getElem? (i := 211) rfl))) (mvT hZ (hw _ (List.mem_of_getElem? (i := 213) rfl))) (by decide) (backOf (W := 1) (own_ln l Z a0 hw x ar h23 n0 (Nat.le_trans Z0 K23.1) A23 (D23 (Or.inr (hw _ (List.mem_of_getElem? (i := 219) rfl))) (ty := (.array (.object "java/lang/Object"))) (by decide)) (D23 (Or.inr (hw _ (List.mem_of_getElem? (i := 221) rfl))) (ty := .boolean) (by decide)) gn_x) hZ (hw _ (List.mem_of_getElem? (i := 213) rfl)) (hw _ (List.mem_of_getElem? (i := 209) rfl)) (by decide) (by decide)) (g := (mkF m 35 #[.val (.ref r), .val (.ref ar), .val (.int (3 : Int32))] [(.int (0 : Int32)), (.ref ar), (.ref x), (.ref x)])) rfl (by rw [hml]; rfl) (Steps.refl _) (a := x) (argsL := [(.ref ar), (.int (0 : Int32))]) (rest := [(.ref x)]) (lenOf own_pd10 rfl) rfl (by show 2 * 0 + _ ≤ _; exact Nat.le_of_eq rfl) (hb hby own_d_jdk_56_method_4_35) (fun _ _ => ⟨rfl, e23, (by decide : 2 + 0 ≤ _), (by decide : 5 + 0 ≤ _)⟩)
  dsimp only [Pt.U, Pt.locs, Pt.cells, Pt.slots] at X25 l25 y25 z25 st25 hQ25
  subst l25 y25 z25
  obtain ⟨rfl, N25q, Kc25, E25c, F25c⟩ := hQ25
  have N25 := Fr.app N20 N25q
  refine own_via (S' := (T25.setTop (mkF m 38 #[.val (.ref r), .val (.ref ar), .val (.int (3 : Int32))] [(.ref x)]))) st25 ?_
  have c26_V := c24_V.keep Kc25 (ninS ne_r_x nin0)
  have c26_Ed1 := c24_Ed1.keep Kc25
  have c26_Ed2 := c24_Ed2.keep Kc25
  have c26_Ed3 := c24_Ed3.keep Kc25
  have c26_Va := c24_Va.keep Kc25 (ninS ne_ar_x nin0)
  have K25x := K23.trans Kc25 (allS (Or.inr sz_x) all0)
  refine own_retA X25 hx hlk hret rfl rfl (hb hby own_d_jdk_56_method_4_38) ?_ (by decide) (by decide)
  exact ⟨_, rfl, N25, K25x, ⟨_, _, E25c, F25c, c26_Va⟩, sz_x⟩
set_option maxRecDepth 65536 in
set_option maxHeartbeats 40000000 in
theorem own_lo1 (l : Launch) (Z : State) (a0 : Array Value) (hw : ∀ d ∈ tables_1, d.before a0 Z = true) (r : Addr) (d1 : Addr) (k : ClassId) (em : Addr) (h0 : Heap) (n0 : Nat) (Z0 : n0 ≤ h0.size) (V : Arv Z h0 r k (.object "java/lang/Object") (1 : Int32) [.ref d1] .null) (Ed1 : Exa Z h0 d1 "java/time/Duration") (SE : Sta Z h0 "java/util/ImmutableCollections" "EMPTY" "Ljava/lang/Object;" (.ref em)) :
    own_C l Z (⟨"java/util/List", "of", "([Ljava/lang/Object;)Ljava/util/List;"⟩ : MethodName) jdk_40_method_47_code 2 (some (.object "java/util/List")) [] ({ frames := 5, cells := 1, slots := 2, locals := 62 } : Room) #[(.ref r)] h0 (own_Qo (fun h x => own_L2 Z h x d1 em) h0 n0) := by
  refine MetFree.of_bodySF (plainFor_of_name own_pn11) hisR ?_
  intro p e s m args below meth c s₁ Bd hml0 hP hK
  obtain ⟨rfl, hZ, hh⟩ := hP
  have hx := Bd.exec
  have hby := Bd.bytes
  have hlk := Bd.notSynchronized
  have hret := Bd.returns
  have hml : c.maxLocals = 2 := hml0
  have hown : s.vm.findClass "java/util/List" = some m.cls := findClass_of_methodNamed Bd.named
  have hnm := (name_of_methodNamed Bd.named Bd.method).1
  have X0 : Stand p l e ({ frames := 5, cells := 1, slots := 2, locals := 62 } : Room) s m #[(.ref r)] below meth c s₁ [] 0 0 := Stand.of_body Bd
  have e0 : s₁.heap = h0 := by rw [← hh, Bd.state]; rfl
  have N0 := Fr.nil n0
  refine own_open (own_ef13 m r) ?_
  refine own_go (S' := (s₁.setTop (mkF m 1 #[.val (.ref r), .unset] [(.ref r)]))) (fun _ k => XS.aloadN X0.here hx rfl (hb hby own_d_jdk_40_method_47_0) rfl rfl  k) ?_
  have vv1 := V
  obtain ⟨cl1, Ar1, qa1, Sz1, Ng1, Ha1, Ga1⟩ := vv1
  refine own_go (S' := (s₁.setTop (mkF m 2 #[.val (.ref r), .unset] [(.int cl1.slots.size.toInt32)]))) (fun _ k => X0.arraylength hx (by rw [e0]; exact Ar1.1) (State.isArrayOf_alike hZ.alike Ar1.2.1) (g := (mkF m 1 #[.val (.ref r), .unset] [(.ref r)])) rfl rfl (hb hby own_d_jdk_40_method_47_1) _ k) ?_
  rw [len_of Sz1 Ng1]
  refine own_go (S' := (s₁.setTop (mkF m 34 #[.val (.ref r), .unset] []))) (fun _ k => X0.tableswitchIn hx (g := (mkF m 2 #[.val (.ref r), .unset] [(.int (1 : Int32))])) rfl rfl (hb hby own_d_jdk_40_method_47_2) (by decide) (off := 32) (by decide) (show (0 : Int) ≤ ((2 : Nat) : Int) + 32 from by decide) _ k) ?_
  obtain ⟨T2, h2, X2, e2, E2, A2, D2, -, st2⟩ := newO X0 hx hZ hown (hw _ (List.mem_of_getElem? (i := 147) rfl)) (hw _ (List.mem_of_getElem? (i := 148) rfl)) (hw _ (List.mem_of_getElem? (i := 149) rfl)) e0 (g := (mkF m 34 #[.val (.ref r), .unset] [])) rfl (hb hby own_d_jdk_40_method_47_34) (by decide) (by decide)
  obtain ⟨x, g2⟩ : ∃ z, z = h0.size := ⟨_, rfl⟩
  rw [← g2] at A2 D2 st2
  refine own_go (S' := (T2.setTop (mkF m 37 #[.val (.ref r), .unset] [(.ref x)]))) st2 ?_
  have sz_x : h0.size ≤ x := Nat.le_trans (Keep.refl h0 []).1 (Nat.le_of_eq g2.symm)
  have gn_x : n0 ≤ x := Nat.le_trans Z0 sz_x
  have ne_r_x : r ≠ x := Nat.ne_of_lt (Nat.lt_of_lt_of_le V.lt (Nat.le_of_eq g2.symm))
  have ne_d1_x : d1 ≠ x := Nat.ne_of_lt (Nat.lt_of_lt_of_le Ed1.lt (Nat.le_of_eq g2.symm))
  have c3_V := V.ext E2
  have c3_Ed1 := Ed1.ext E2
  have c3_SE := SE.ext E2
  have K2 := (Keep.refl h0 []).ext E2
  refine own_go (S' := (T2.setTop (mkF m 38 #[.val (.ref r), .unset] [(.ref x), (.ref x)]))) (fun _ k => XS.dup X2.here hx rfl (hb hby own_d_jdk_40_method_47_37) rfl rfl k) ?_
  refine own_go (S' := (T2.setTop (mkF m 39 #[.val (.ref r), .unset] [(.ref r), (.ref x), (.ref x)]))) (fun _ k => XS.aloadN X2.here hx rfl (hb hby own_d_jdk_40_method_47_38) rfl rfl  k) ?_
  refine own_go (S' := (T2.setTop (mkF m 40 #[.val (.ref r), .unset] [(.int (0 : Int32)), (.ref r), (.ref x), (.ref x)]))) (fun _ k => XS.iconst X2.here hx rfl (hb hby own_d_jdk_40_method_47_39) k) ?_
  have vv4 := c3_V
  obtain ⟨cl4, Ar4, qa4, Sz4, Ng4, Ha4, Ga4⟩ := vv4
  have hin4 : ¬ ((0 : Int32) < 0 ∨ cl4.slots.size ≤ ((0 : Int32)).toNatClampNeg) := inb_of Sz4 ⟨by decide, by decide⟩
  refine own_go (S' := (T2.setTop (mkF m 41 #[.val (.ref r), .unset] [(.ref d1), (.ref x), (.ref x)]))) (fun _ k => X2.aaload hx (j := (0 : Int32)) (v := (.ref d1)) (by rw [e2]; exact Ar4.1) (State.isArrayOf_alike hZ.alike Ar4.2.1) rfl Ar4.2.2 hin4 (Ha4.at hin4 rfl) (g := (mkF m 40 #[.val (.ref r), .unset] [(.int (0 : Int32)), (.ref r), (.ref x), (.ref x)])) rfl rfl (hb hby own_d_jdk_40_method_47_40) _ k) ?_
  obtain ⟨_, _, ⟨T5, L5, k5, n5⟩, -, X5, ⟨Lc5, hQ5, l5, y5, z5⟩, st5⟩ := X2.specialBack hx (y := (⟨"java/util/ImmutableCollections$List12", "<init>", "(Ljava/lang/Object;)V"⟩ : MethodName)) rfl hown (mvT hZ (hw _ (List.mem_of_getElem? (i := 150) rfl))) (mvT hZ (hw _ (List.mem_of_getElem? (i := 151) rfl))) (mvT hZ (hw _ (List.mem_of_getElem? (i := 153) rfl))) (by decide) (backOf (W := 1) (own_l1 l Z a0 hw x d1 em h2 n0 (Nat.le_trans Z0 K2.1) A2 (D2 (Or.inr (hw _ (List.mem_of_getElem? (i := 173) rfl))) (ty := (.object "java/lang/Object")) (by decide)) (D2 (Or.inr (hw _ (List.mem_of_getElem? (i := 176) rfl))) (ty := (.object "java/lang/Object")) (by decide)) c3_SE gn_x) hZ (hw _ (List.mem_of_getElem? (i := 153) rfl)) (hw _ (List.mem_of_getElem? (i := 149) rfl)) (by decide) (by decide)) (g := (mkF m 41 #[.val (.ref r), .unset] [(.ref d1), (.ref x), (.ref x)])) rfl (by rw [hml]; rfl) (Steps.refl _) (a := x) (argsL := [(.ref d1)]) (rest := [(.ref x)]) (lenOf own_pd11 rfl) rfl (by show 2 * 0 + _ ≤ _; exact Nat.le_of_eq rfl) (hb hby own_d_jdk_40_method_47_41) (fun _ _ => ⟨rfl, e2, (by decide : 1 + 0 ≤ _), (by decide : 2 + 0 ≤ _)⟩)
  dsimp only [Pt.U, Pt.locs, Pt.cells, Pt.slots] at X5 l5 y5 z5 st5 hQ5
  subst l5 y5 z5
  obtain ⟨rfl, N5q, Kc5, E5c, F5c, G5c⟩ := hQ5
  have N5 := Fr.app N0 N5q
  refine own_via (S' := (T5.setTop (mkF m 44 #[.val (.ref r), .unset] [(.ref x)]))) st5 ?_
  have K5x := K2.trans Kc5 (allS (Or.inr sz_x) all0)
  refine own_retA X5 hx hlk hret rfl rfl (hb hby own_d_jdk_40_method_47_44) ?_ (by decide) (by decide)
  exact ⟨_, rfl, N5, K5x, ⟨E5c, F5c, G5c⟩, sz_x⟩
set_option maxRecDepth 65536 in
set_option maxHeartbeats 40000000 in
theorem own_lo2 (l : Launch) (Z : State) (a0 : Array Value) (hw : ∀ d ∈ tables_1, d.before a0 Z = true) (r : Addr) (d1 d2 : Addr) (k : ClassId) (em : Addr) (h0 : Heap) (n0 : Nat) (Z0 : n0 ≤ h0.size) (V : Arv Z h0 r k (.object "java/lang/Object") (2 : Int32) [.ref d1, .ref d2] .null) (Ed1 : Exa Z h0 d1 "java/time/Duration") (Ed2 : Exa Z h0 d2 "java/time/Duration") (SE : Sta Z h0 "java/util/ImmutableCollections" "EMPTY" "Ljava/lang/Object;" (.ref em)) :
    own_C l Z (⟨"java/util/List", "of", "([Ljava/lang/Object;)Ljava/util/List;"⟩ : MethodName) jdk_40_method_47_code 2 (some (.object "java/util/List")) [] ({ frames := 5, cells := 1, slots := 2, locals := 63 } : Room) #[(.ref r)] h0 (own_Qo (fun h x => own_L2 Z h x d1 d2) h0 n0) := by
  refine MetFree.of_bodySF (plainFor_of_name own_pn11) hisR ?_
  intro p e s m args below meth c s₁ Bd hml0 hP hK
  obtain ⟨rfl, hZ, hh⟩ := hP
  have hx := Bd.exec
  have hby := Bd.bytes
  have hlk := Bd.notSynchronized
  have hret := Bd.returns
  have hml : c.maxLocals = 2 := hml0
  have hown : s.vm.findClass "java/util/List" = some m.cls := findClass_of_methodNamed Bd.named
  have hnm := (name_of_methodNamed Bd.named Bd.method).1
  have X0 : Stand p l e ({ frames := 5, cells := 1, slots := 2, locals := 63 } : Room) s m #[(.ref r)] below meth c s₁ [] 0 0 := Stand.of_body Bd
  have e0 : s₁.heap = h0 := by rw [← hh, Bd.state]; rfl
  have N0 := Fr.nil n0
  refine own_open (own_ef13 m r) ?_
  refine own_go (S' := (s₁.setTop (mkF m 1 #[.val (.ref r), .unset] [(.ref r)]))) (fun _ k => XS.aloadN X0.here hx rfl (hb hby own_d_jdk_40_method_47_0) rfl rfl  k) ?_
  have vv1 := V
  obtain ⟨cl1, Ar1, qa1, Sz1, Ng1, Ha1, Ga1⟩ := vv1
  refine own_go (S' := (s₁.setTop (mkF m 2 #[.val (.ref r), .unset] [(.int cl1.slots.size.toInt32)]))) (fun _ k => X0.arraylength hx (by rw [e0]; exact Ar1.1) (State.isArrayOf_alike hZ.alike Ar1.2.1) (g := (mkF m 1 #[.val (.ref r), .unset] [(.ref r)])) rfl rfl (hb hby own_d_jdk_40_method_47_1) _ k) ?_
  rw [len_of Sz1 Ng1]
  refine own_go (S' := (s₁.setTop (mkF m 45 #[.val (.ref r), .unset] []))) (fun _ k => X0.tableswitchIn hx (g := (mkF m 2 #[.val (.ref r), .unset] [(.int (2 : Int32))])) rfl rfl (hb hby own_d_jdk_40_method_47_2) (by decide) (off := 43) (by decide) (show (0 : Int) ≤ ((2 : Nat) : Int) + 43 from by decide) _ k) ?_
  obtain ⟨T2, h2, X2, e2, E2, A2, D2, -, st2⟩ := newO X0 hx hZ hown (hw _ (List.mem_of_getElem? (i := 147) rfl)) (hw _ (List.mem_of_getElem? (i := 148) rfl)) (hw _ (List.mem_of_getElem? (i := 149) rfl)) e0 (g := (mkF m 45 #[.val (.ref r), .unset] [])) rfl (hb hby own_d_jdk_40_method_47_45) (by decide) (by decide)
  obtain ⟨x, g2⟩ : ∃ z, z = h0.size := ⟨_, rfl⟩
  rw [← g2] at A2 D2 st2
  refine own_go (S' := (T2.setTop (mkF m 48 #[.val (.ref r), .unset] [(.ref x)]))) st2 ?_
  have sz_x : h0.size ≤ x := Nat.le_trans (Keep.refl h0 []).1 (Nat.le_of_eq g2.symm)
  have gn_x : n0 ≤ x := Nat.le_trans Z0 sz_x
  have ne_r_x : r ≠ x := Nat.ne_of_lt (Nat.lt_of_lt_of_le V.lt (Nat.le_of_eq g2.symm))
  have ne_d1_x : d1 ≠ x := Nat.ne_of_lt (Nat.lt_of_lt_of_le Ed1.lt (Nat.le_of_eq g2.symm))
  have ne_d2_x : d2 ≠ x := Nat.ne_of_lt (Nat.lt_of_lt_of_le Ed2.lt (Nat.le_of_eq g2.symm))
  have c3_V := V.ext E2
  have c3_Ed1 := Ed1.ext E2
  have c3_Ed2 := Ed2.ext E2
  have c3_SE := SE.ext E2
  have K2 := (Keep.refl h0 []).ext E2
  refine own_go (S' := (T2.setTop (mkF m 49 #[.val (.ref r), .unset] [(.ref x), (.ref x)]))) (fun _ k => XS.dup X2.here hx rfl (hb hby own_d_jdk_40_method_47_48) rfl rfl k) ?_
  refine own_go (S' := (T2.setTop (mkF m 50 #[.val (.ref r), .unset] [(.ref r), (.ref x), (.ref x)]))) (fun _ k => XS.aloadN X2.here hx rfl (hb hby own_d_jdk_40_method_47_49) rfl rfl  k) ?_
  refine own_go (S' := (T2.setTop (mkF m 51 #[.val (.ref r), .unset] [(.int (0 : Int32)), (.ref r), (.ref x), (.ref x)]))) (fun _ k => XS.iconst X2.here hx rfl (hb hby own_d_jdk_40_method_47_50) k) ?_
  have vv4 := c3_V
  obtain ⟨cl4, Ar4, qa4, Sz4, Ng4, Ha4, Ga4⟩ := vv4
  have hin4 : ¬ ((0 : Int32) < 0 ∨ cl4.slots.size ≤ ((0 : Int32)).toNatClampNeg) := inb_of Sz4 ⟨by decide, by decide⟩
  refine own_go (S' := (T2.setTop (mkF m 52 #[.val (.ref r), .unset] [(.ref d1), (.ref x), (.ref x)]))) (fun _ k => X2.aaload hx (j := (0 : Int32)) (v := (.ref d1)) (by rw [e2]; exact Ar4.1) (State.isArrayOf_alike hZ.alike Ar4.2.1) rfl Ar4.2.2 hin4 (Ha4.at hin4 rfl) (g := (mkF m 51 #[.val (.ref r), .unset] [(.int (0 : Int32)), (.ref r), (.ref x), (.ref x)])) rfl rfl (hb hby own_d_jdk_40_method_47_51) _ k) ?_
  refine own_go (S' := (T2.setTop (mkF m 53 #[.val (.ref r), .unset] [(.ref r), (.ref d1), (.ref x), (.ref x)]))) (fun _ k => XS.aloadN X2.here hx rfl (hb hby own_d_jdk_40_method_47_52) rfl rfl  k) ?_
  refine own_go (S' := (T2.setTop (mkF m 54 #[.val (.ref r), .unset] [(.int (1 : Int32)), (.ref r), (.ref d1), (.ref x), (.ref x)]))) (fun _ k => XS.iconst X2.here hx rfl (hb hby own_d_jdk_40_method_47_53) k) ?_
  have vv5 := c3_V
  obtain ⟨cl5, Ar5, qa5, Sz5, Ng5, Ha5, Ga5⟩ := vv5
  have hin5 : ¬ ((1 : Int32) < 0 ∨ cl5.slots.size ≤ ((1 : Int32)).toNatClampNeg) := inb_of Sz5 ⟨by decide, by decide⟩
  refine own_go (S' := (T2.setTop (mkF m 55 #[.val (.ref r), .unset] [(.ref d2), (.ref d1), (.ref x), (.ref x)]))) (fun _ k => X2.aaload hx (j := (1 : Int32)) (v := (.ref d2)) (by rw [e2]; exact Ar5.1) (State.isArrayOf_alike hZ.alike Ar5.2.1) rfl Ar5.2.2 hin5 (Ha5.at hin5 rfl) (g := (mkF m 54 #[.val (.ref r), .unset] [(.int (1 : Int32)), (.ref r), (.ref d1), (.ref x), (.ref x)])) rfl rfl (hb hby own_d_jdk_40_method_47_54) _ k) ?_
  obtain ⟨_, _, ⟨T6, L6, k6, n6⟩, -, X6, ⟨Lc6, hQ6, l6, y6, z6⟩, st6⟩ := X2.specialBack hx (y := (⟨"java/util/ImmutableCollections$List12", "<init>", "(Ljava/lang/Object;Ljava/lang/Object;)V"⟩ : MethodName)) rfl hown (mvT hZ (hw _ (List.mem_of_getElem? (i := 233) rfl))) (mvT hZ (hw _ (List.mem_of_getElem? (i := 234) rfl))) (mvT hZ (hw _ (List.mem_of_getElem? (i := 235) rfl))) (by decide) (backOf (W := 1) (own_l2 l Z a0 hw x d1 d2 h2 n0 (Nat.le_trans Z0 K2.1) A2 (D2 (Or.inr (hw _ (List.mem_of_getElem? (i := 173) rfl))) (ty := (.object "java/lang/Object")) (by decide)) (D2 (Or.inr (hw _ (List.mem_of_getElem? (i := 176) rfl))) (ty := (.object "java/lang/Object")) (by decide)) gn_x) hZ (hw _ (List.mem_of_getElem? (i := 235) rfl)) (hw _ (List.mem_of_getElem? (i := 149) rfl)) (by decide) (by decide)) (g := (mkF m 55 #[.val (.ref r), .unset] [(.ref d2), (.ref d1), (.ref x), (.ref x)])) rfl (by rw [hml]; rfl) (Steps.refl _) (a := x) (argsL := [(.ref d1), (.ref d2)]) (rest := [(.ref x)]) (lenOf own_pd12 rfl) rfl (by show 2 * 0 + _ ≤ _; exact Nat.le_of_eq rfl) (hb hby own_d_jdk_40_method_47_55) (fun _ _ => ⟨rfl, e2, (by decide : 1 + 0 ≤ _), (by decide : 2 + 0 ≤ _)⟩)
  dsimp only [Pt.U, Pt.locs, Pt.cells, Pt.slots] at X6 l6 y6 z6 st6 hQ6
  subst l6 y6 z6
  obtain ⟨rfl, N6q, Kc6, E6c, F6c, G6c⟩ := hQ6
  have N6 := Fr.app N0 N6q
  refine own_via (S' := (T6.setTop (mkF m 58 #[.val (.ref r), .unset] [(.ref x)]))) st6 ?_
  have K6x := K2.trans Kc6 (allS (Or.inr sz_x) all0)
  refine own_retA X6 hx hlk hret rfl rfl (hb hby own_d_jdk_40_method_47_58) ?_ (by decide) (by decide)
  exact ⟨_, rfl, N6, K6x, ⟨E6c, F6c, G6c⟩, sz_x⟩
set_option maxRecDepth 65536 in
set_option maxHeartbeats 40000000 in
theorem own_lo3 (l : Launch) (Z : State) (a0 : Array Value) (hw : ∀ d ∈ tables_1, d.before a0 Z = true) (r : Addr) (d1 d2 d3 : Addr) (k : ClassId) (em : Addr) (h0 : Heap) (n0 : Nat) (Z0 : n0 ≤ h0.size) (V : Arv Z h0 r k (.object "java/lang/Object") (3 : Int32) [.ref d1, .ref d2, .ref d3] .null) (Ed1 : Exa Z h0 d1 "java/time/Duration") (Ed2 : Exa Z h0 d2 "java/time/Duration") (Ed3 : Exa Z h0 d3 "java/time/Duration") (SE : Sta Z h0 "java/util/ImmutableCollections" "EMPTY" "Ljava/lang/Object;" (.ref em)) :
    own_C l Z (⟨"java/util/List", "of", "([Ljava/lang/Object;)Ljava/util/List;"⟩ : MethodName) jdk_40_method_47_code 2 (some (.object "java/util/List")) [] ({ frames := 6, cells := 2, slots := 5, locals := 77 } : Room) #[(.ref r)] h0 (own_Qo (fun h x => own_L3 Z h x d1 d2 d3) h0 n0) := by
  refine MetFree.of_bodySF (plainFor_of_name own_pn11) hisR ?_
  intro p e s m args below meth c s₁ Bd hml0 hP hK
  obtain ⟨rfl, hZ, hh⟩ := hP
  have hx := Bd.exec
  have hby := Bd.bytes
  have hlk := Bd.notSynchronized
  have hret := Bd.returns
  have hml : c.maxLocals = 2 := hml0
  have hown : s.vm.findClass "java/util/List" = some m.cls := findClass_of_methodNamed Bd.named
  have hnm := (name_of_methodNamed Bd.named Bd.method).1
  have X0 : Stand p l e ({ frames := 6, cells := 2, slots := 5, locals := 77 } : Room) s m #[(.ref r)] below meth c s₁ [] 0 0 := Stand.of_body Bd
  have e0 : s₁.heap = h0 := by rw [← hh, Bd.state]; rfl
  have N0 := Fr.nil n0
  refine own_open (own_ef13 m r) ?_
  refine own_go (S' := (s₁.setTop (mkF m 1 #[.val (.ref r), .unset] [(.ref r)]))) (fun _ k => XS.aloadN X0.here hx rfl (hb hby own_d_jdk_40_method_47_0) rfl rfl  k) ?_
  have vv1 := V
  obtain ⟨cl1, Ar1, qa1, Sz1, Ng1, Ha1, Ga1⟩ := vv1
  refine own_go (S' := (s₁.setTop (mkF m 2 #[.val (.ref r), .unset] [(.int cl1.slots.size.toInt32)]))) (fun _ k => X0.arraylength hx (by rw [e0]; exact Ar1.1) (State.isArrayOf_alike hZ.alike Ar1.2.1) (g := (mkF m 1 #[.val (.ref r), .unset] [(.ref r)])) rfl rfl (hb hby own_d_jdk_40_method_47_1) _ k) ?_
  rw [len_of Sz1 Ng1]
  refine own_go (S' := (s₁.setTop (mkF m 59 #[.val (.ref r), .unset] []))) (fun _ k => X0.tableswitchOut hx (g := (mkF m 2 #[.val (.ref r), .unset] [(.int (3 : Int32))])) rfl rfl (hb hby own_d_jdk_40_method_47_2) (by decide) (show (0 : Int) ≤ ((2 : Nat) : Int) + 57 from by decide) _ k) ?_
  refine own_go (S' := (s₁.setTop (mkF m 60 #[.val (.ref r), .unset] [(.ref r)]))) (fun _ k => XS.aloadN X0.here hx rfl (hb hby own_d_jdk_40_method_47_59) rfl rfl  k) ?_
  obtain ⟨_, _, ⟨T2, L2, k2, n2⟩, -, X2, ⟨Lc2, hQ2, l2, y2, z2⟩, st2⟩ := Jvm.LawKit.callS X0 hx (y := (⟨"java/util/ImmutableCollections", "listFromArray", "([Ljava/lang/Object;)Ljava/util/List;"⟩ : MethodName)) hown (mvT hZ (hw _ (List.mem_of_getElem? (i := 203) rfl))) (mvT hZ (hw _ (List.mem_of_getElem? (i := 204) rfl))) (mvT hZ (hw _ (List.mem_of_getElem? (i := 101) rfl))) (mvT hZ (hw _ (List.mem_of_getElem? (i := 205) rfl))) (by decide) (backOf (W := 0) (own_lfa l Z a0 hw r d1 d2 d3 k h0 n0 Z0 V Ed1 Ed2 Ed3) hZ (hw _ (List.mem_of_getElem? (i := 205) rfl)) (hw _ (List.mem_of_getElem? (i := 101) rfl)) (by decide) (by decide)) (g := (mkF m 60 #[.val (.ref r), .unset] [(.ref r)])) rfl (by rw [hml]; rfl) (argsL := [(.ref r)]) (rest := []) (lenOf own_pd13 rfl) rfl (by show 2 * 0 + _ ≤ _; exact Nat.le_of_eq rfl) (hb hby own_d_jdk_40_method_47_60) (fun _ _ => ⟨rfl, e0, (by decide : 0 + 2 ≤ _), (by decide : 0 + 5 ≤ _)⟩)
  dsimp only [Pt.U, Pt.locs, Pt.cells, Pt.slots] at X2 l2 y2 z2 st2 hQ2
  subst l2 y2 z2
  obtain ⟨x2, rfl, N2q, Kc2, P2, s2⟩ := hQ2
  have N2 := Fr.app N0 N2q
  refine own_go (S' := (T2.setTop (mkF m 63 #[.val (.ref r), .unset] [(.ref x2)]))) st2 ?_
  refine own_retA X2 hx hlk hret rfl rfl (hb hby own_d_jdk_40_method_47_63) ?_ (by decide) (by decide)
  exact ⟨_, rfl, N2, Kc2, P2, s2⟩
set_option maxRecDepth 65536 in
set_option maxHeartbeats 40000000 in
theorem own_lc1 (l : Launch) (Z : State) (a0 : Array Value) (hw : ∀ d ∈ tables_1, d.before a0 Z = true) (a : Addr) (ea : Addr) (d1 : Addr) (k : ClassId) (mr em : Addr) (h0 : Heap) (n0 : Nat) (Z0 : n0 ≤ h0.size) (E_a : Exa Z h0 a "java/util/ArrayList") (Fe : Fld Z h0 a "java/util/ArrayList" "elementData" "[Ljava/lang/Object;" (.ref ea)) (Fs : Fld Z h0 a "java/util/ArrayList" "size" "I" (.int (1 : Int32))) (V : Arv Z h0 ea k (.object "java/lang/Object") 10 [.ref d1, .null, .null, .null, .null, .null, .null, .null, .null, .null] .null) (Ex : Exa Z h0 ea "[Ljava/lang/Object;") (Ed1 : Exa Z h0 d1 "java/time/Duration") (SE : Sta Z h0 "java/util/ImmutableCollections" "EMPTY" "Ljava/lang/Object;" (.ref em)) (mw : own_Mir Z mr) :
    own_C l Z (⟨"java/util/ImmutableCollections", "listCopy", "(Ljava/util/Collection;)Ljava/util/List;"⟩ : MethodName) jdk_56_method_3_code 2 (some (.object "java/util/List")) [] ({ frames := 6, cells := 2, slots := 3, locals := 75 } : Room) #[(.ref a)] h0 (own_Qo (fun h x => own_L2 Z h x d1 em) h0 n0) := by
  refine MetFree.of_bodySF (plainFor_of_name own_pn10) hisR ?_
  intro p e s m args below meth c s₁ Bd hml0 hP hK
  obtain ⟨rfl, hZ, hh⟩ := hP
  have hx := Bd.exec
  have hby := Bd.bytes
  have hlk := Bd.notSynchronized
  have hret := Bd.returns
  have hml : c.maxLocals = 2 := hml0
  have hown : s.vm.findClass "java/util/ImmutableCollections" = some m.cls := findClass_of_methodNamed Bd.named
  have hnm := (name_of_methodNamed Bd.named Bd.method).1
  have X0 : Stand p l e ({ frames := 6, cells := 2, slots := 3, locals := 75 } : Room) s m #[(.ref a)] below meth c s₁ [] 0 0 := Stand.of_body Bd
  have e0 : s₁.heap = h0 := by rw [← hh, Bd.state]; rfl
  have N0 := Fr.nil n0
  refine own_open (own_ef13 m a) ?_
  refine own_go (S' := (s₁.setTop (mkF m 1 #[.val (.ref a), .unset] [(.ref a)]))) (fun _ k => XS.aloadN X0.here hx rfl (hb hby own_d_jdk_56_method_3_0) rfl rfl  k) ?_
  obtain ⟨T1, X1, e1, st1⟩ := instNo X0 hx hZ hown (hw _ (List.mem_of_getElem? (i := 103) rfl)) e0 E_a (own_no (hw _ (List.mem_of_getElem? (i := 104) rfl)) (hw _ (List.mem_of_getElem? (i := 148) rfl)) (NS.step (hw _ (List.mem_of_getElem? (i := 104) rfl)) (NS.step (hw _ (List.mem_of_getElem? (i := 105) rfl)) (NS.step (hw _ (List.mem_of_getElem? (i := 106) rfl)) (own_root (hw _ (List.mem_of_getElem? (i := 107) rfl)) (hw _ (List.mem_of_getElem? (i := 148) rfl)) (by decide)) (by decide)) (by decide)) (by decide)) (by decide)) (g := (mkF m 1 #[.val (.ref a), .unset] [(.ref a)])) rfl rfl (hb hby own_d_jdk_56_method_3_1)
  refine own_go (S' := (T1.setTop (mkF m 4 #[.val (.ref a), .unset] [(.int (0 : Int32))]))) st1 ?_
  refine own_go (S' := (T1.setTop (mkF m 7 #[.val (.ref a), .unset] []))) (fun _ k => XS.ifNo X1.here hx rfl (hb hby own_d_jdk_56_method_3_4) rfl ((if0 _ _).trans (teq rfl).2) k) ?_
  refine own_go (S' := (T1.setTop (mkF m 8 #[.val (.ref a), .unset] [(.ref a)]))) (fun _ k => XS.aloadN X1.here hx rfl (hb hby own_d_jdk_56_method_3_7) rfl rfl  k) ?_
  obtain ⟨T2, X2, e2, st2⟩ := instNo X1 hx hZ hown (hw _ (List.mem_of_getElem? (i := 108) rfl)) e1 E_a (own_no (hw _ (List.mem_of_getElem? (i := 104) rfl)) (hw _ (List.mem_of_getElem? (i := 208) rfl)) (NS.step (hw _ (List.mem_of_getElem? (i := 104) rfl)) (NS.step (hw _ (List.mem_of_getElem? (i := 105) rfl)) (NS.step (hw _ (List.mem_of_getElem? (i := 106) rfl)) (own_root (hw _ (List.mem_of_getElem? (i := 107) rfl)) (hw _ (List.mem_of_getElem? (i := 208) rfl)) (by decide)) (by decide)) (by decide)) (by decide)) (by decide)) (g := (mkF m 8 #[.val (.ref a), .unset] [(.ref a)])) rfl rfl (hb hby own_d_jdk_56_method_3_8)
  refine own_go (S' := (T2.setTop (mkF m 11 #[.val (.ref a), .unset] [(.int (0 : Int32))]))) st2 ?_
  refine own_go (S' := (T2.setTop (mkF m 31 #[.val (.ref a), .unset] []))) (fun _ k => XS.ifYes X2.here hx rfl (pc0 := 11) (pc' := 31) rfl (hb hby own_d_jdk_56_method_3_11) rfl ((if0 _ _).trans (teq rfl).1) (by decide) (by decide) k) ?_
  refine own_go (S' := (T2.setTop (mkF m 32 #[.val (.ref a), .unset] [(.ref a)]))) (fun _ k => XS.aloadN X2.here hx rfl (hb hby own_d_jdk_56_method_3_31) rfl rfl  k) ?_
  obtain ⟨cq3, kq3, q3a, q3b, q3c⟩ := isOf hZ e2 (E_a)
  obtain ⟨_, _, ⟨T3, L3, k3, n3⟩, -, X3, ⟨Lc3, hQ3, l3, y3, z3⟩, st3⟩ := X2.interfaceBack hx (xi := (⟨"java/util/Collection", "isEmpty", "()Z"⟩ : MethodName)) (y := (⟨"java/util/ArrayList", "isEmpty", "()Z"⟩ : MethodName)) hown (mvT hZ (hw _ (List.mem_of_getElem? (i := 109) rfl))) (mvT hZ (hw _ (List.mem_of_getElem? (i := 110) rfl))) (mvT hZ (hw _ (List.mem_of_getElem? (i := 111) rfl))) (mvT hZ (hw _ (List.mem_of_getElem? (i := 112) rfl))) (mvT hZ (hw _ (List.mem_of_getElem? (i := 90) rfl))) (mvT hZ (hw _ (List.mem_of_getElem? (i := 91) rfl))) (mvT hZ (hw _ (List.mem_of_getElem? (i := 92) rfl))) (mvT hZ (hw _ (List.mem_of_getElem? (i := 113) rfl))) (by decide) (backOf (W := 0) (own_ise1 l Z a0 hw a h0 n0 Z0 Fs) hZ (hw _ (List.mem_of_getElem? (i := 94) rfl)) (hw _ (List.mem_of_getElem? (i := 29) rfl)) (by decide) (by decide)) q3a q3b q3c (g := (mkF m 32 #[.val (.ref a), .unset] [(.ref a)])) rfl (by rw [hml]; rfl) (Steps.refl _) (argsL := []) (rest := []) (lenOf own_pd14 rfl) rfl (by show 2 * 0 + _ ≤ _; exact Nat.le_of_eq rfl) (hb hby own_d_jdk_56_method_3_32) (fun _ _ => ⟨rfl, e2, (by decide : 0 + 0 ≤ _), (by decide : 0 + 0 ≤ _)⟩)
  dsimp only [Pt.U, Pt.locs, Pt.cells, Pt.slots] at X3 l3 y3 z3 st3 hQ3
  subst l3 y3 z3
  obtain ⟨rfl, N3q, hh3⟩ := hQ3
  have N3 := Fr.app N0 N3q
  refine own_via (S' := (T3.setTop (mkF m 37 #[.val (.ref a), .unset] [(.int (0 : Int32))]))) st3 ?_
  refine own_go (S' := (T3.setTop (mkF m 44 #[.val (.ref a), .unset] []))) (fun _ k => XS.ifYes X3.here hx rfl (pc0 := 37) (pc' := 44) rfl (hb hby own_d_jdk_56_method_3_37) rfl ((if0 _ _).trans (teq rfl).1) (by decide) (by decide) k) ?_
  refine own_go (S' := (T3.setTop (mkF m 45 #[.val (.ref a), .unset] [(.ref a)]))) (fun _ k => XS.aloadN X3.here hx rfl (hb hby own_d_jdk_56_method_3_44) rfl rfl  k) ?_
  obtain ⟨cq4, kq4, q4a, q4b, q4c⟩ := isOf hZ hh3 (E_a)
  obtain ⟨_, _, ⟨T4, L4, k4, n4⟩, -, X4, ⟨Lc4, hQ4, l4, y4, z4⟩, st4⟩ := X3.interfaceBack hx (xi := (⟨"java/util/Collection", "toArray", "()[Ljava/lang/Object;"⟩ : MethodName)) (y := (⟨"java/util/ArrayList", "toArray", "()[Ljava/lang/Object;"⟩ : MethodName)) hown (mvT hZ (hw _ (List.mem_of_getElem? (i := 114) rfl))) (mvT hZ (hw _ (List.mem_of_getElem? (i := 115) rfl))) (mvT hZ (hw _ (List.mem_of_getElem? (i := 116) rfl))) (mvT hZ (hw _ (List.mem_of_getElem? (i := 117) rfl))) (mvT hZ (hw _ (List.mem_of_getElem? (i := 118) rfl))) (mvT hZ (hw _ (List.mem_of_getElem? (i := 119) rfl))) (mvT hZ (hw _ (List.mem_of_getElem? (i := 120) rfl))) (mvT hZ (hw _ (List.mem_of_getElem? (i := 113) rfl))) (by decide) (backOf (W := 0) (own_ta1 l Z a0 hw a ea d1 k mr h0 n0 Z0 E_a Fe Fs V Ex Ed1 mw) hZ (hw _ (List.mem_of_getElem? (i := 121) rfl)) (hw _ (List.mem_of_getElem? (i := 29) rfl)) (by decide) (by decide)) q4a q4b q4c (g := (mkF m 45 #[.val (.ref a), .unset] [(.ref a)])) rfl (by rw [hml]; rfl) (Steps.refl _) (argsL := []) (rest := []) (lenOf own_pd5 rfl) rfl (by show 2 * 0 + _ ≤ _; exact Nat.le_of_eq rfl) (hb hby own_d_jdk_56_method_3_45) (fun _ _ => ⟨rfl, hh3, (by decide : 0 + 1 ≤ _), (by decide : 0 + 1 ≤ _)⟩)
  dsimp only [Pt.U, Pt.locs, Pt.cells, Pt.slots] at X4 l4 y4 z4 st4 hQ4
  subst l4 y4 z4
  obtain ⟨r4, k4c, rfl, N4q, Kc4, V4c, s4c⟩ := hQ4
  have N4 := Fr.app N3 N4q
  refine own_via (S' := (T4.setTop (mkF m 50 #[.val (.ref a), .unset] [(.ref r4)]))) st4 ?_
  have c5_E_a := E_a.keep Kc4
  have c5_Ex := Ex.keep Kc4
  have c5_Ed1 := Ed1.keep Kc4
  have c5_SE := own_Sk SE Kc4 all0
  have K4x := (Keep.refl h0 []).trans Kc4 all0
  obtain ⟨_, _, ⟨T6, L6, k6, n6⟩, -, X6, ⟨Lc6, hQ6, l6, y6, z6⟩, st6⟩ := Jvm.LawKit.callS X4 hx (y := (⟨"java/util/List", "of", "([Ljava/lang/Object;)Ljava/util/List;"⟩ : MethodName)) hown (mvT hZ (hw _ (List.mem_of_getElem? (i := 144) rfl))) (mvT hZ (hw _ (List.mem_of_getElem? (i := 145) rfl))) (mvT hZ (hw _ (List.mem_of_getElem? (i := 97) rfl))) (mvT hZ (hw _ (List.mem_of_getElem? (i := 146) rfl))) (by decide) (backOf (W := 0) (own_lo1 l Z a0 hw r4 d1 k4c em T4.heap n0 (Nat.le_trans Z0 K4x.1) V4c c5_Ed1 c5_SE) hZ (hw _ (List.mem_of_getElem? (i := 146) rfl)) (hw _ (List.mem_of_getElem? (i := 97) rfl)) (by decide) (by decide)) (g := (mkF m 50 #[.val (.ref a), .unset] [(.ref r4)])) rfl (by rw [hml]; rfl) (argsL := [(.ref r4)]) (rest := []) (lenOf own_pd13 rfl) rfl (by show 2 * 0 + _ ≤ _; exact Nat.le_of_eq rfl) (hb hby own_d_jdk_56_method_3_50) (fun _ _ => ⟨rfl, rfl, (by decide : 1 + 1 ≤ _), (by decide : 1 + 2 ≤ _)⟩)
  dsimp only [Pt.U, Pt.locs, Pt.cells, Pt.slots] at X6 l6 y6 z6 st6 hQ6
  subst l6 y6 z6
  obtain ⟨x6, rfl, N6q, Kc6, P6, s6⟩ := hQ6
  have N6 := Fr.app N4 N6q
  refine own_go (S' := (T6.setTop (mkF m 53 #[.val (.ref a), .unset] [(.ref x6)]))) st6 ?_
  have K6x := K4x.trans Kc6 all0
  refine own_retA X6 hx hlk hret rfl rfl (hb hby own_d_jdk_56_method_3_53) ?_ (by decide) (by decide)
  exact ⟨_, rfl, N6, K6x, P6, Nat.le_trans K4x.1 s6⟩
set_option maxRecDepth 65536 in
set_option maxHeartbeats 40000000 in
theorem own_co1 (l : Launch) (Z : State) (a0 : Array Value) (hw : ∀ d ∈ tables_1, d.before a0 Z = true) (a : Addr) (ea : Addr) (d1 : Addr) (k : ClassId) (mr em : Addr) (h0 : Heap) (n0 : Nat) (Z0 : n0 ≤ h0.size) (E_a : Exa Z h0 a "java/util/ArrayList") (Fe : Fld Z h0 a "java/util/ArrayList" "elementData" "[Ljava/lang/Object;" (.ref ea)) (Fs : Fld Z h0 a "java/util/ArrayList" "size" "I" (.int (1 : Int32))) (V : Arv Z h0 ea k (.object "java/lang/Object") 10 [.ref d1, .null, .null, .null, .null, .null, .null, .null, .null, .null] .null) (Ex : Exa Z h0 ea "[Ljava/lang/Object;") (Ed1 : Exa Z h0 d1 "java/time/Duration") (SE : Sta Z h0 "java/util/ImmutableCollections" "EMPTY" "Ljava/lang/Object;" (.ref em)) (mw : own_Mir Z mr) :
    own_C l Z (⟨"java/util/List", "copyOf", "(Ljava/util/Collection;)Ljava/util/List;"⟩ : MethodName) jdk_40_method_48_code 1 (some (.object "java/util/List")) [] ({ frames := 7, cells := 2, slots := 3, locals := 88 } : Room) #[(.ref a)] h0 (own_Qo (fun h x => own_L2 Z h x d1 em) h0 n0) := by
  refine MetFree.of_bodySF (plainFor_of_name own_pn11) hisR ?_
  intro p e s m args below meth c s₁ Bd hml0 hP hK
  obtain ⟨rfl, hZ, hh⟩ := hP
  have hx := Bd.exec
  have hby := Bd.bytes
  have hlk := Bd.notSynchronized
  have hret := Bd.returns
  have hml : c.maxLocals = 1 := hml0
  have hown : s.vm.findClass "java/util/List" = some m.cls := findClass_of_methodNamed Bd.named
  have hnm := (name_of_methodNamed Bd.named Bd.method).1
  have X0 : Stand p l e ({ frames := 7, cells := 2, slots := 3, locals := 88 } : Room) s m #[(.ref a)] below meth c s₁ [] 0 0 := Stand.of_body Bd
  have e0 : s₁.heap = h0 := by rw [← hh, Bd.state]; rfl
  have N0 := Fr.nil n0
  refine own_open (own_ef4 m a) ?_
  refine own_go (S' := (s₁.setTop (mkF m 1 #[.val (.ref a)] [(.ref a)]))) (fun _ k => XS.aloadN X0.here hx rfl (hb hby own_d_jdk_40_method_48_0) rfl rfl  k) ?_
  obtain ⟨_, _, ⟨T1, L1, k1, n1⟩, -, X1, ⟨Lc1, hQ1, l1, y1, z1⟩, st1⟩ := Jvm.LawKit.callS X0 hx (y := (⟨"java/util/ImmutableCollections", "listCopy", "(Ljava/util/Collection;)Ljava/util/List;"⟩ : MethodName)) hown (mvT hZ (hw _ (List.mem_of_getElem? (i := 99) rfl))) (mvT hZ (hw _ (List.mem_of_getElem? (i := 100) rfl))) (mvT hZ (hw _ (List.mem_of_getElem? (i := 101) rfl))) (mvT hZ (hw _ (List.mem_of_getElem? (i := 102) rfl))) (by decide) (backOf (W := 0) (own_lc1 l Z a0 hw a ea d1 k mr em h0 n0 Z0 E_a Fe Fs V Ex Ed1 SE mw) hZ (hw _ (List.mem_of_getElem? (i := 102) rfl)) (hw _ (List.mem_of_getElem? (i := 101) rfl)) (by decide) (by decide)) (g := (mkF m 1 #[.val (.ref a)] [(.ref a)])) rfl (by rw [hml]; rfl) (argsL := [(.ref a)]) (rest := []) (lenOf own_pd15 rfl) rfl (by show 2 * 0 + _ ≤ _; exact Nat.le_of_eq rfl) (hb hby own_d_jdk_40_method_48_1) (fun _ _ => ⟨rfl, e0, (by decide : 0 + 2 ≤ _), (by decide : 0 + 3 ≤ _)⟩)
  dsimp only [Pt.U, Pt.locs, Pt.cells, Pt.slots] at X1 l1 y1 z1 st1 hQ1
  subst l1 y1 z1
  obtain ⟨x1, rfl, N1q, Kc1, P1, s1⟩ := hQ1
  have N1 := Fr.app N0 N1q
  refine own_go (S' := (T1.setTop (mkF m 4 #[.val (.ref a)] [(.ref x1)]))) st1 ?_
  refine own_retA X1 hx hlk hret rfl rfl (hb hby own_d_jdk_40_method_48_4) ?_ (by decide) (by decide)
  exact ⟨_, rfl, N1, Kc1, P1, s1⟩
set_option maxRecDepth 65536 in
set_option maxHeartbeats 40000000 in
theorem own_dl1 (l : Launch) (Z : State) (a0 : Array Value) (hw : ∀ d ∈ tables_1, d.before a0 Z = true) (t : Addr) (a : Addr) (ea : Addr) (d1 : Addr) (k : ClassId) (mr em : Addr) (h0 : Heap) (n0 : Nat) (Z0 : n0 ≤ h0.size) (E_a : Exa Z h0 a "java/util/ArrayList") (Fe : Fld Z h0 a "java/util/ArrayList" "elementData" "[Ljava/lang/Object;" (.ref ea)) (Fs : Fld Z h0 a "java/util/ArrayList" "size" "I" (.int (1 : Int32))) (V : Arv Z h0 ea k (.object "java/lang/Object") 10 [.ref d1, .null, .null, .null, .null, .null, .null, .null, .null, .null] .null) (Ex : Exa Z h0 ea "[Ljava/lang/Object;") (Ed1 : Exa Z h0 d1 "java/time/Duration") (SE : Sta Z h0 "java/util/ImmutableCollections" "EMPTY" "Ljava/lang/Object;" (.ref em)) (E_t : Exa Z h0 t "com/example/topicd/topicd/broker/DelayLevels") (Ft : Fld Z h0 t "com/example/topicd/topicd/broker/DelayLevels" "delays" "Ljava/util/List;" .null) (mw : own_Mir Z mr) (g : n0 ≤ t) :
    own_C l Z (⟨"com/example/topicd/topicd/broker/DelayLevels", "<init>", "(Ljava/util/List;)V"⟩ : MethodName) prog_3_method_1_code 2 none [] ({ frames := 8, cells := 2, slots := 3, locals := 101 } : Room) #[(.ref t), (.ref a)] h0 (own_Qt2 Z (fun h x => own_L2 Z h x d1 em) t h0 n0) := by
  refine MetFree.of_bodySF (plainFor_of_name own_pn12) hisR ?_
  intro p e s m args below meth c s₁ Bd hml0 hP hK
  obtain ⟨rfl, hZ, hh⟩ := hP
  have hx := Bd.exec
  have hby := Bd.bytes
  have hlk := Bd.notSynchronized
  have hret := Bd.returns
  have hml : c.maxLocals = 2 := hml0
  have hown : s.vm.findClass "com/example/topicd/topicd/broker/DelayLevels" = some m.cls := findClass_of_methodNamed Bd.named
  have hnm := (name_of_methodNamed Bd.named Bd.method).1
  have X0 : Stand p l e ({ frames := 8, cells := 2, slots := 3, locals := 101 } : Room) s m #[(.ref t), (.ref a)] below meth c s₁ [] 0 0 := Stand.of_body Bd
  have e0 : s₁.heap = h0 := by rw [← hh, Bd.state]; rfl
  have N0 := Fr.nil n0
  refine own_open (own_ef7 m t a) ?_
  refine own_go (S' := (s₁.setTop (mkF m 1 #[.val (.ref t), .val (.ref a)] [(.ref t)]))) (fun _ k => XS.aloadN X0.here hx rfl (hb hby own_d_prog_3_method_1_0) rfl rfl  k) ?_
  obtain ⟨T1, X1, e1, st1⟩ := initO X0 hx hZ hown (hw _ (List.mem_of_getElem? (i := 85) rfl)) (hw _ (List.mem_of_getElem? (i := 19) rfl)) (hw _ (List.mem_of_getElem? (i := 20) rfl)) e0 (g := (mkF m 1 #[.val (.ref t), .val (.ref a)] [(.ref t)])) rfl (by rw [hml]; rfl) rfl (hb hby own_d_prog_3_method_1_1) (by decide) (W := 0) (by show 2 * 0 + _ ≤ _; exact Nat.le_of_eq rfl) (by decide)
  refine own_go (S' := (T1.setTop (mkF m 4 #[.val (.ref t), .val (.ref a)] []))) st1 ?_
  refine own_go (S' := (T1.setTop (mkF m 5 #[.val (.ref t), .val (.ref a)] [(.ref a)]))) (fun _ k => XS.aloadN X1.here hx rfl (hb hby own_d_prog_3_method_1_4) rfl rfl  k) ?_
  obtain ⟨cq2, kq2, q2a, q2b, q2c⟩ := isOf hZ e1 (E_a)
  obtain ⟨_, _, ⟨T2, L2, k2, n2⟩, -, X2, ⟨Lc2, hQ2, l2, y2, z2⟩, st2⟩ := X1.interfaceBack hx (xi := (⟨"java/util/List", "isEmpty", "()Z"⟩ : MethodName)) (y := (⟨"java/util/ArrayList", "isEmpty", "()Z"⟩ : MethodName)) hown (mvT hZ (hw _ (List.mem_of_getElem? (i := 86) rfl))) (mvT hZ (hw _ (List.mem_of_getElem? (i := 87) rfl))) (mvT hZ (hw _ (List.mem_of_getElem? (i := 88) rfl))) (mvT hZ (hw _ (List.mem_of_getElem? (i := 89) rfl))) (mvT hZ (hw _ (List.mem_of_getElem? (i := 90) rfl))) (mvT hZ (hw _ (List.mem_of_getElem? (i := 91) rfl))) (mvT hZ (hw _ (List.mem_of_getElem? (i := 92) rfl))) (mvT hZ (hw _ (List.mem_of_getElem? (i := 93) rfl))) (by decide) (backOf (W := 0) (own_ise1 l Z a0 hw a h0 n0 Z0 Fs) hZ (hw _ (List.mem_of_getElem? (i := 94) rfl)) (hw _ (List.mem_of_getElem? (i := 29) rfl)) (by decide) (by decide)) q2a q2b q2c (g := (mkF m 5 #[.val (.ref t), .val (.ref a)] [(.ref a)])) rfl (by rw [hml]; rfl) (Steps.refl _) (argsL := []) (rest := []) (lenOf own_pd14 rfl) rfl (by show 2 * 0 + _ ≤ _; exact Nat.le_of_eq rfl) (hb hby own_d_prog_3_method_1_5) (fun _ _ => ⟨rfl, e1, (by decide : 0 + 0 ≤ _), (by decide : 0 + 0 ≤ _)⟩)
  dsimp only [Pt.U, Pt.locs, Pt.cells, Pt.slots] at X2 l2 y2 z2 st2 hQ2
  subst l2 y2 z2
  obtain ⟨rfl, N2q, hh2⟩ := hQ2
  have N2 := Fr.app N0 N2q
  refine own_via (S' := (T2.setTop (mkF m 10 #[.val (.ref t), .val (.ref a)] [(.int (0 : Int32))]))) st2 ?_
  refine own_go (S' := (T2.setTop (mkF m 23 #[.val (.ref t), .val (.ref a)] []))) (fun _ k => XS.ifYes X2.here hx rfl (pc0 := 10) (pc' := 23) rfl (hb hby own_d_prog_3_method_1_10) rfl ((if0 _ _).trans (teq rfl).1) (by decide) (by decide) k) ?_
  refine own_go (S' := (T2.setTop (mkF m 24 #[.val (.ref t), .val (.ref a)] [(.ref t)]))) (fun _ k => XS.aloadN X2.here hx rfl (hb hby own_d_prog_3_method_1_23) rfl rfl  k) ?_
  refine own_go (S' := (T2.setTop (mkF m 25 #[.val (.ref t), .val (.ref a)] [(.ref a), (.ref t)]))) (fun _ k => XS.aloadN X2.here hx rfl (hb hby own_d_prog_3_method_1_24) rfl rfl  k) ?_
  obtain ⟨_, _, ⟨T3, L3, k3, n3⟩, -, X3, ⟨Lc3, hQ3, l3, y3, z3⟩, st3⟩ := Jvm.LawKit.callS X2 hx (y := (⟨"java/util/List", "copyOf", "(Ljava/util/Collection;)Ljava/util/List;"⟩ : MethodName)) hown (mvT hZ (hw _ (List.mem_of_getElem? (i := 95) rfl))) (mvT hZ (hw _ (List.mem_of_getElem? (i := 96) rfl))) (mvT hZ (hw _ (List.mem_of_getElem? (i := 97) rfl))) (mvT hZ (hw _ (List.mem_of_getElem? (i := 98) rfl))) (by decide) (backOf (W := 1) (own_co1 l Z a0 hw a ea d1 k mr em h0 n0 Z0 E_a Fe Fs V Ex Ed1 SE mw) hZ (hw _ (List.mem_of_getElem? (i := 98) rfl)) (hw _ (List.mem_of_getElem? (i := 97) rfl)) (by decide) (by decide)) (g := (mkF m 25 #[.val (.ref t), .val (.ref a)] [(.ref a), (.ref t)])) rfl (by rw [hml]; rfl) (argsL := [(.ref a)]) (rest := [(.ref t)]) (lenOf own_pd15 rfl) rfl (by show 2 * 0 + _ ≤ _; exact Nat.le_of_eq rfl) (hb hby own_d_prog_3_method_1_25) (fun _ _ => ⟨rfl, hh2, (by decide : 0 + 2 ≤ _), (by decide : 0 + 3 ≤ _)⟩)
  dsimp only [Pt.U, Pt.locs, Pt.cells, Pt.slots] at X3 l3 y3 z3 st3 hQ3
  subst l3 y3 z3
  obtain ⟨x3, rfl, N3q, Kc3, P3, s3⟩ := hQ3
  have N3 := Fr.app N2 N3q
  refine own_go (S' := (T3.setTop (mkF m 28 #[.val (.ref t), .val (.ref a)] [(.ref x3), (.ref t)]))) st3 ?_
  have c4_E_a := E_a.keep Kc3
  have c4_Ex := Ex.keep Kc3
  have c4_Ed1 := Ed1.keep Kc3
  have c4_SE := own_Sk SE Kc3 all0
  have c4_E_t := E_t.keep Kc3
  have c4_Ft := Ft.keep Kc3 nin0
  have K3x := (Keep.refl h0 [t]).trans Kc3 all0
  have nx : x3 ≠ t := Ne.symm (Nat.ne_of_lt (Nat.lt_of_lt_of_le E_t.lt s3))
  obtain ⟨T5, h5, X5, e5, W5, st5⟩ := putF X3 hx hZ hown (host := "") (Or.inl (hw _ (List.mem_of_getElem? (i := 177) rfl))) Via.refl rfl c4_Ft c4_E_t (Or.inr ⟨(hw _ (List.mem_of_getElem? (i := 178) rfl)), rfl, hnm⟩) (hw _ (List.mem_of_getElem? (i := 80) rfl)) (ty := (.object "java/util/List")) (by decide) rfl rfl (g := (mkF m 28 #[.val (.ref t), .val (.ref a)] [(.ref x3), (.ref t)])) rfl rfl (hb hby own_d_prog_3_method_1_28)
  have N5 := Fr.snoc X5 N3 g
  refine own_go (S' := (T5.setTop (mkF m 31 #[.val (.ref t), .val (.ref a)] []))) st5 ?_
  have n5_Ft := c4_Ft.same W5
  have c6_E_a := c4_E_a.wr W5
  have c6_Ex := c4_Ex.wr W5
  have c6_Ed1 := c4_Ed1.wr W5
  have c6_SE := c4_SE.wr W5
  have c6_E_t := c4_E_t.wr W5
  have K5 := K3x.wr W5 (Or.inl (List.mem_of_getElem? (i := 0) rfl))
  have P_ : own_L2 Z h5 x3 d1 em := ⟨P3.1.wr W5, P3.2.1.other W5 (Or.inl nx), P3.2.2.other W5 (Or.inl nx)⟩
  refine own_retV X5 hx hlk hret (hb hby own_d_prog_3_method_1_31) ?_ (by decide) (by decide)
  rw [e5]
  exact ⟨rfl, N5, K5, c6_E_t, _, n5_Ft, P_, s3⟩
set_option maxRecDepth 65536 in
set_option maxHeartbeats 40000000 in
theorem own_lc2 (l : Launch) (Z : State) (a0 : Array Value) (hw : ∀ d ∈ tables_1, d.before a0 Z = true) (a : Addr) (ea : Addr) (d1 d2 : Addr) (k : ClassId) (mr em : Addr) (h0 : Heap) (n0 : Nat) (Z0 : n0 ≤ h0.size) (E_a : Exa Z h0 a "java/util/ArrayList") (Fe : Fld Z h0 a "java/util/ArrayList" "elementData" "[Ljava/lang/Object;" (.ref ea)) (Fs : Fld Z h0 a "java/util/ArrayList" "size" "I" (.int (2 : Int32))) (V : Arv Z h0 ea k (.object "java/lang/Object") 10 [.ref d1, .ref d2, .null, .null, .null, .null, .null, .null, .null, .null] .null) (Ex : Exa Z h0 ea "[Ljava/lang/Object;") (Ed1 : Exa Z h0 d1 "java/time/Duration") (Ed2 : Exa Z h0 d2 "java/time/Duration") (SE : Sta Z h0 "java/util/ImmutableCollections" "EMPTY" "Ljava/lang/Object;" (.ref em)) (mw : own_Mir Z mr) :
    own_C l Z (⟨"java/util/ImmutableCollections", "listCopy", "(Ljava/util/Collection;)Ljava/util/List;"⟩ : MethodName) jdk_56_method_3_code 2 (some (.object "java/util/List")) [] ({ frames := 6, cells := 2, slots := 4, locals := 76 } : Room) #[(.ref a)] h0 (own_Qo (fun h x => own_L2 Z h x d1 d2) h0 n0) := by
  refine MetFree.of_bodySF (plainFor_of_name own_pn10) hisR ?_
  intro p e s m args below meth c s₁ Bd hml0 hP hK
  obtain ⟨rfl, hZ, hh⟩ := hP
  have hx := Bd.exec
  have hby := Bd.bytes
  have hlk := Bd.notSynchronized
  have hret := Bd.returns
  have hml : c.maxLocals = 2 := hml0
  have hown : s.vm.findClass "java/util/ImmutableCollections" = some m.cls := findClass_of_methodNamed Bd.named
  have hnm := (name_of_methodNamed Bd.named Bd.method).1
  have X0 : Stand p l e ({ frames := 6, cells := 2, slots := 4, locals := 76 } : Room) s m #[(.ref a)] below meth c s₁ [] 0 0 := Stand.of_body Bd
  have e0 : s₁.heap = h0 := by rw [← hh, Bd.state]; rfl
  have N0 := Fr.nil n0
  refine own_open (own_ef13 m a) ?_
  refine own_go (S' := (s₁.setTop (mkF m 1 #[.val (.ref a), .unset] [(.ref a)]))) (fun _ k => XS.aloadN X0.here hx rfl (hb hby own_d_jdk_56_method_3_0) rfl rfl  k) ?_
  obtain ⟨T1, X1, e1, st1⟩ := instNo X0 hx hZ hown (hw _ (List.mem_of_getElem? (i := 103) rfl)) e0 E_a (own_no (hw _ (List.mem_of_getElem? (i := 104) rfl)) (hw _ (List.mem_of_getElem? (i := 148) rfl)) (NS.step (hw _ (List.mem_of_getElem? (i := 104) rfl)) (NS.step (hw _ (List.mem_of_getElem? (i := 105) rfl)) (NS.step (hw _ (List.mem_of_getElem? (i := 106) rfl)) (own_root (hw _ (List.mem_of_getElem? (i := 107) rfl)) (hw _ (List.mem_of_getElem? (i := 148) rfl)) (by decide)) (by decide)) (by decide)) (by decide)) (by decide)) (g := (mkF m 1 #[.val (.ref a), .unset] [(.ref a)])) rfl rfl (hb hby own_d_jdk_56_method_3_1)
  refine own_go (S' := (T1.setTop (mkF m 4 #[.val (.ref a), .unset] [(.int (0 : Int32))]))) st1 ?_
  refine own_go (S' := (T1.setTop (mkF m 7 #[.val (.ref a), .unset] []))) (fun _ k => XS.ifNo X1.here hx rfl (hb hby own_d_jdk_56_method_3_4) rfl ((if0 _ _).trans (teq rfl).2) k) ?_
  refine own_go (S' := (T1.setTop (mkF m 8 #[.val (.ref a), .unset] [(.ref a)]))) (fun _ k => XS.aloadN X1.here hx rfl (hb hby own_d_jdk_56_method_3_7) rfl rfl  k) ?_
  obtain ⟨T2, X2, e2, st2⟩ := instNo X1 hx hZ hown (hw _ (List.mem_of_getElem? (i := 108) rfl)) e1 E_a (own_no (hw _ (List.mem_of_getElem? (i := 104) rfl)) (hw _ (List.mem_of_getElem? (i := 208) rfl)) (NS.step (hw _ (List.mem_of_getElem? (i := 104) rfl)) (NS.step (hw _ (List.mem_of_getElem? (i := 105) rfl)) (NS.step (hw _ (List.mem_of_getElem? (i := 106) rfl)) (own_root (hw _ (List.mem_of_getElem? (i := 107) rfl)) (hw _ (List.mem_of_getElem? (i := 208) rfl)) (by decide)) (by decide)) (by decide)) (by decide)) (by decide)) (g := (mkF m 8 #[.val (.ref a), .unset] [(.ref a)])) rfl rfl (hb hby own_d_jdk_56_method_3_8)
  refine own_go (S' := (T2.setTop (mkF m 11 #[.val (.ref a), .unset] [(.int (0 : Int32))]))) st2 ?_
  refine own_go (S' := (T2.setTop (mkF m 31 #[.val (.ref a), .unset] []))) (fun _ k => XS.ifYes X2.here hx rfl (pc0 := 11) (pc' := 31) rfl (hb hby own_d_jdk_56_method_3_11) rfl ((if0 _ _).trans (teq rfl).1) (by decide) (by decide) k) ?_
  refine own_go (S' := (T2.setTop (mkF m 32 #[.val (.ref a), .unset] [(.ref a)]))) (fun _ k => XS.aloadN X2.here hx rfl (hb hby own_d_jdk_56_method_3_31) rfl rfl  k) ?_
  obtain ⟨cq3, kq3, q3a, q3b, q3c⟩ := isOf hZ e2 (E_a)
  obtain ⟨_, _, ⟨T3, L3, k3, n3⟩, -, X3, ⟨Lc3, hQ3, l3, y3, z3⟩, st3⟩ := X2.interfaceBack hx (xi := (⟨"java/util/Collection", "isEmpty", "()Z"⟩ : MethodName)) (y := (⟨"java/util/ArrayList", "isEmpty", "()Z"⟩ : MethodName)) hown (mvT hZ (hw _ (List.mem_of_getElem? (i := 109) rfl))) (mvT hZ (hw _ (List.mem_of_getElem? (i := 110) rfl))) (mvT hZ (hw _ (List.mem_of_getElem? (i := 111) rfl))) (mvT hZ (hw _ (List.mem_of_getElem? (i := 112) rfl))) (mvT hZ (hw _ (List.mem_of_getElem? (i := 90) rfl))) (mvT hZ (hw _ (List.mem_of_getElem? (i := 91) rfl))) (mvT hZ (hw _ (List.mem_of_getElem? (i := 92) rfl))) (mvT hZ (hw _ (List.mem_of_getElem? (i := 113) rfl))) (by decide) (backOf (W := 0) (own_ise2 l Z a0 hw a h0 n0 Z0 Fs) hZ (hw _ (List.mem_of_getElem? (i := 94) rfl)) (hw _ (List.mem_of_getElem? (i := 29) rfl)) (by decide) (by decide)) q3a q3b q3c (g := (mkF m 32 #[.val (.ref a), .unset] [(.ref a)])) rfl (by rw [hml]; rfl) (Steps.refl _) (argsL := []) (rest := []) (lenOf own_pd14 rfl) rfl (by show 2 * 0 + _ ≤ _; exact Nat.le_of_eq rfl) (hb hby own_d_jdk_56_method_3_32) (fun _ _ => ⟨rfl, e2, (by decide : 0 + 0 ≤ _), (by decide : 0 + 0 ≤ _)⟩)
  dsimp only [Pt.U, Pt.locs, Pt.cells, Pt.slots] at X3 l3 y3 z3 st3 hQ3
  subst l3 y3 z3
  obtain ⟨rfl, N3q, hh3⟩ := hQ3
  have N3 := Fr.app N0 N3q
  refine own_via (S' := (T3.setTop (mkF m 37 #[.val (.ref a), .unset] [(.int (0 : Int32))]))) st3 ?_
  refine own_go (S' := (T3.setTop (mkF m 44 #[.val (.ref a), .unset] []))) (fun _ k => XS.ifYes X3.here hx rfl (pc0 := 37) (pc' := 44) rfl (hb hby own_d_jdk_56_method_3_37) rfl ((if0 _ _).trans (teq rfl).1) (by decide) (by decide) k) ?_
  refine own_go (S' := (T3.setTop (mkF m 45 #[.val (.ref a), .unset] [(.ref a)]))) (fun _ k => XS.aloadN X3.here hx rfl (hb hby own_d_jdk_56_method_3_44) rfl rfl  k) ?_
  obtain ⟨cq4, kq4, q4a, q4b, q4c⟩ := isOf hZ hh3 (E_a)
  obtain ⟨_, _, ⟨T4, L4, k4, n4⟩, -, X4, ⟨Lc4, hQ4, l4, y4, z4⟩, st4⟩ := X3.interfaceBack hx (xi := (⟨"java/util/Collection", "toArray", "()[Ljava/lang/Object;"⟩ : MethodName)) (y := (⟨"java/util/ArrayList", "toArray", "()[Ljava/lang/Object;"⟩ : MethodName)) hown (mvT hZ (hw _ (List.mem_of_getElem? (i := 114) rfl))) (mvT hZ (hw _ (List.mem_of_getElem? (i := 115) rfl))) (mvT hZ (hw _ (List.mem_of_getElem? (i := 116) rfl))) (mvT hZ (hw _ (List.mem_of_getElem? (i := 117) rfl))) (mvT hZ (hw _ (List.mem_of_getElem? (i := 118) rfl))) (mvT hZ (hw _ (List.mem_of_getElem? (i := 119) rfl))) (mvT hZ (hw _ (List.mem_of_getElem? (i := 120) rfl))) (mvT hZ (hw _ (List.mem_of_getElem? (i := 113) rfl))) (by decide) (backOf (W := 0) (own_ta2 l Z a0 hw a ea d1 d2 k mr h0 n0 Z0 E_a Fe Fs V Ex Ed1 Ed2 mw) hZ (hw _ (List.mem_of_getElem? (i := 121) rfl)) (hw _ (List.mem_of_getElem? (i := 29) rfl)) (by decide) (by decide)) q4a q4b q4c (g := (mkF m 45 #[.val (.ref a), .unset] [(.ref a)])) rfl (by rw [hml]; rfl) (Steps.refl _) (argsL := []) (rest := []) (lenOf own_pd5 rfl) rfl (by show 2 * 0 + _ ≤ _; exact Nat.le_of_eq rfl) (hb hby own_d_jdk_56_method_3_45) (fun _ _ => ⟨rfl, hh3, (by decide : 0 + 1 ≤ _), (by decide : 0 + 2 ≤ _)⟩)
  dsimp only [Pt.U, Pt.locs, Pt.cells, Pt.slots] at X4 l4 y4 z4 st4 hQ4
  subst l4 y4 z4
  obtain ⟨r4, k4c, rfl, N4q, Kc4, V4c, s4c⟩ := hQ4
  have N4 := Fr.app N3 N4q
  refine own_via (S' := (T4.setTop (mkF m 50 #[.val (.ref a), .unset] [(.ref r4)]))) st4 ?_
  have c5_E_a := E_a.keep Kc4
  have c5_Ex := Ex.keep Kc4
  have c5_Ed1 := Ed1.keep Kc4
  have c5_Ed2 := Ed2.keep Kc4
  have c5_SE := own_Sk SE Kc4 all0
  have K4x := (Keep.refl h0 []).trans Kc4 all0
  obtain ⟨_, _, ⟨T6, L6, k6, n6⟩, -, X6, ⟨Lc6, hQ6, l6, y6, z6⟩, st6⟩ := Jvm.LawKit.callS X4 hx (y := (⟨"java/util/List", "of", "([Ljava/lang/Object;)Ljava/util/List;"⟩ : MethodName)) hown (mvT hZ (hw _ (List.mem_of_getElem? (i := 144) rfl))) (mvT hZ (hw _ (List.mem_of_getElem? (i := 145) rfl))) (mvT hZ (hw _ (List.mem_of_getElem? (i := 97) rfl))) (mvT hZ (hw _ (List.mem_of_getElem? (i := 146) rfl))) (by decide) (backOf (W := 0) (own_lo2 l Z a0 hw r4 d1 d2 k4c em T4.heap n0 (Nat.le_trans Z0 K4x.1) V4c c5_Ed1 c5_Ed2 c5_SE) hZ (hw _ (List.mem_of_getElem? (i := 146) rfl)) (hw _ (List.mem_of_getElem? (i := 97) rfl)) (by decide) (by decide)) (g := (mkF m 50 #[.val (.ref a), .unset] [(.ref r4)])) rfl (by rw [hml]; rfl) (argsL := [(.ref r4)]) (rest := []) (lenOf own_pd13 rfl) rfl (by show 2 * 0 + _ ≤ _; exact Nat.le_of_eq rfl) (hb hby own_d_jdk_56_method_3_50) (fun _ _ => ⟨rfl, rfl, (by decide : 1 + 1 ≤ _), (by decide : 2 + 2 ≤ _)⟩)
  dsimp only [Pt.U, Pt.locs, Pt.cells, Pt.slots] at X6 l6 y6 z6 st6 hQ6
  subst l6 y6 z6
  obtain ⟨x6, rfl, N6q, Kc6, P6, s6⟩ := hQ6
  have N6 := Fr.app N4 N6q
  refine own_go (S' := (T6.setTop (mkF m 53 #[.val (.ref a), .unset] [(.ref x6)]))) st6 ?_
  have K6x := K4x.trans Kc6 all0
  refine own_retA X6 hx hlk hret rfl rfl (hb hby own_d_jdk_56_method_3_53) ?_ (by decide) (by decide)
  exact ⟨_, rfl, N6, K6x, P6, Nat.le_trans K4x.1 s6⟩
set_option maxRecDepth 65536 in
set_option maxHeartbeats 40000000 in
theorem own_co2 (l : Launch) (Z : State) (a0 : Array Value) (hw : ∀ d ∈ tables_1, d.before a0 Z = true) (a : Addr) (ea : Addr) (d1 d2 : Addr) (k : ClassId) (mr em : Addr) (h0 : Heap) (n0 : Nat) (Z0 : n0 ≤ h0.size) (E_a : Exa Z h0 a "java/util/ArrayList") (Fe : Fld Z h0 a "java/util/ArrayList" "elementData" "[Ljava/lang/Object;" (.ref ea)) (Fs : Fld Z h0 a "java/util/ArrayList" "size" "I" (.int (2 : Int32))) (V : Arv Z h0 ea k (.object "java/lang/Object") 10 [.ref d1, .ref d2, .null, .null, .null, .null, .null, .null, .null, .null] .null) (Ex : Exa Z h0 ea "[Ljava/lang/Object;") (Ed1 : Exa Z h0 d1 "java/time/Duration") (Ed2 : Exa Z h0 d2 "java/time/Duration") (SE : Sta Z h0 "java/util/ImmutableCollections" "EMPTY" "Ljava/lang/Object;" (.ref em)) (mw : own_Mir Z mr) :
    own_C l Z (⟨"java/util/List", "copyOf", "(Ljava/util/Collection;)Ljava/util/List;"⟩ : MethodName) jdk_40_method_48_code 1 (some (.object "java/util/List")) [] ({ frames := 7, cells := 2, slots := 4, locals := 89 } : Room) #[(.ref a)] h0 (own_Qo (fun h x => own_L2 Z h x d1 d2) h0 n0) := by
  refine MetFree.of_bodySF (plainFor_of_name own_pn11) hisR ?_
  intro p e s m args below meth c s₁ Bd hml0 hP hK
  obtain ⟨rfl, hZ, hh⟩ := hP
  have hx := Bd.exec
  have hby := Bd.bytes
  have hlk := Bd.notSynchronized
  have hret := Bd.returns
  have hml : c.maxLocals = 1 := hml0
  have hown : s.vm.findClass "java/util/List" = some m.cls := findClass_of_methodNamed Bd.named
  have hnm := (name_of_methodNamed Bd.named Bd.method).1
  have X0 : Stand p l e ({ frames := 7, cells := 2, slots := 4, locals := 89 } : Room) s m #[(.ref a)] below meth c s₁ [] 0 0 := Stand.of_body Bd
  have e0 : s₁.heap = h0 := by rw [← hh, Bd.state]; rfl
  have N0 := Fr.nil n0
  refine own_open (own_ef4 m a) ?_
  refine own_go (S' := (s₁.setTop (mkF m 1 #[.val (.ref a)] [(.ref a)]))) (fun _ k => XS.aloadN X0.here hx rfl (hb hby own_d_jdk_40_method_48_0) rfl rfl  k) ?_
  obtain ⟨_, _, ⟨T1, L1, k1, n1⟩, -, X1, ⟨Lc1, hQ1, l1, y1, z1⟩, st1⟩ := Jvm.LawKit.callS X0 hx (y := (⟨"java/util/ImmutableCollections", "listCopy", "(Ljava/util/Collection;)Ljava/util/List;"⟩ : MethodName)) hown (mvT hZ (hw _ (List.mem_of_getElem? (i := 99) rfl))) (mvT hZ (hw _ (List.mem_of_getElem? (i := 100) rfl))) (mvT hZ (hw _ (List.mem_of_getElem? (i := 101) rfl))) (mvT hZ (hw _ (List.mem_of_getElem? (i := 102) rfl))) (by decide) (backOf (W := 0) (own_lc2 l Z a0 hw a ea d1 d2 k mr em h0 n0 Z0 E_a Fe Fs V Ex Ed1 Ed2 SE mw) hZ (hw _ (List.mem_of_getElem? (i := 102) rfl)) (hw _ (List.mem_of_getElem? (i := 101) rfl)) (by decide) (by decide)) (g := (mkF m 1 #[.val (.ref a)] [(.ref a)])) rfl (by rw [hml]; rfl) (argsL := [(.ref a)]) (rest := []) (lenOf own_pd15 rfl) rfl (by show 2 * 0 + _ ≤ _; exact Nat.le_of_eq rfl) (hb hby own_d_jdk_40_method_48_1) (fun _ _ => ⟨rfl, e0, (by decide : 0 + 2 ≤ _), (by decide : 0 + 4 ≤ _)⟩)
  dsimp only [Pt.U, Pt.locs, Pt.cells, Pt.slots] at X1 l1 y1 z1 st1 hQ1
  subst l1 y1 z1
  obtain ⟨x1, rfl, N1q, Kc1, P1, s1⟩ := hQ1
  have N1 := Fr.app N0 N1q
  refine own_go (S' := (T1.setTop (mkF m 4 #[.val (.ref a)] [(.ref x1)]))) st1 ?_
  refine own_retA X1 hx hlk hret rfl rfl (hb hby own_d_jdk_40_method_48_4) ?_ (by decide) (by decide)
  exact ⟨_, rfl, N1, Kc1, P1, s1⟩
set_option maxRecDepth 65536 in
set_option maxHeartbeats 40000000 in
theorem own_dl2 (l : Launch) (Z : State) (a0 : Array Value) (hw : ∀ d ∈ tables_1, d.before a0 Z = true) (t : Addr) (a : Addr) (ea : Addr) (d1 d2 : Addr) (k : ClassId) (mr em : Addr) (h0 : Heap) (n0 : Nat) (Z0 : n0 ≤ h0.size) (E_a : Exa Z h0 a "java/util/ArrayList") (Fe : Fld Z h0 a "java/util/ArrayList" "elementData" "[Ljava/lang/Object;" (.ref ea)) (Fs : Fld Z h0 a "java/util/ArrayList" "size" "I" (.int (2 : Int32))) (V : Arv Z h0 ea k (.object "java/lang/Object") 10 [.ref d1, .ref d2, .null, .null, .null, .null, .null, .null, .null, .null] .null) (Ex : Exa Z h0 ea "[Ljava/lang/Object;") (Ed1 : Exa Z h0 d1 "java/time/Duration") (Ed2 : Exa Z h0 d2 "java/time/Duration") (SE : Sta Z h0 "java/util/ImmutableCollections" "EMPTY" "Ljava/lang/Object;" (.ref em)) (E_t : Exa Z h0 t "com/example/topicd/topicd/broker/DelayLevels") (Ft : Fld Z h0 t "com/example/topicd/topicd/broker/DelayLevels" "delays" "Ljava/util/List;" .null) (mw : own_Mir Z mr) (g : n0 ≤ t) :
    own_C l Z (⟨"com/example/topicd/topicd/broker/DelayLevels", "<init>", "(Ljava/util/List;)V"⟩ : MethodName) prog_3_method_1_code 2 none [] ({ frames := 8, cells := 2, slots := 4, locals := 102 } : Room) #[(.ref t), (.ref a)] h0 (own_Qt2 Z (fun h x => own_L2 Z h x d1 d2) t h0 n0) := by
  refine MetFree.of_bodySF (plainFor_of_name own_pn12) hisR ?_
  intro p e s m args below meth c s₁ Bd hml0 hP hK
  obtain ⟨rfl, hZ, hh⟩ := hP
  have hx := Bd.exec
  have hby := Bd.bytes
  have hlk := Bd.notSynchronized
  have hret := Bd.returns
  have hml : c.maxLocals = 2 := hml0
  have hown : s.vm.findClass "com/example/topicd/topicd/broker/DelayLevels" = some m.cls := findClass_of_methodNamed Bd.named
  have hnm := (name_of_methodNamed Bd.named Bd.method).1
  have X0 : Stand p l e ({ frames := 8, cells := 2, slots := 4, locals := 102 } : Room) s m #[(.ref t), (.ref a)] below meth c s₁ [] 0 0 := Stand.of_body Bd
  have e0 : s₁.heap = h0 := by rw [← hh, Bd.state]; rfl
  have N0 := Fr.nil n0
  refine own_open (own_ef7 m t a) ?_
  refine own_go (S' := (s₁.setTop (mkF m 1 #[.val (.ref t), .val (.ref a)] [(.ref t)]))) (fun _ k => XS.aloadN X0.here hx rfl (hb hby own_d_prog_3_method_1_0) rfl rfl  k) ?_
  obtain ⟨T1, X1, e1, st1⟩ := initO X0 hx hZ hown (hw _ (List.mem_of_getElem? (i := 85) rfl)) (hw _ (List.mem_of_getElem? (i := 19) rfl)) (hw _ (List.mem_of_getElem? (i := 20) rfl)) e0 (g := (mkF m 1 #[.val (.ref t), .val (.ref a)] [(.ref t)])) rfl (by rw [hml]; rfl) rfl (hb hby own_d_prog_3_method_1_1) (by decide) (W := 0) (by show 2 * 0 + _ ≤ _; exact Nat.le_of_eq rfl) (by decide)
  refine own_go (S' := (T1.setTop (mkF m 4 #[.val (.ref t), .val (.ref a)] []))) st1 ?_
  refine own_go (S' := (T1.setTop (mkF m 5 #[.val (.ref t), .val (.ref a)] [(.ref a)]))) (fun _ k => XS.aloadN X1.here hx rfl (hb hby own_d_prog_3_method_1_4) rfl rfl  k) ?_
  obtain ⟨cq2, kq2, q2a, q2b, q2c⟩ := isOf hZ e1 (E_a)
  obtain ⟨_, _, ⟨T2, L2, k2, n2⟩, -, X2, ⟨Lc2, hQ2, l2, y2, z2⟩, st2⟩ := X1.interfaceBack hx (xi := (⟨"java/util/List", "isEmpty", "()Z"⟩ : MethodName)) (y := (⟨"java/util/ArrayList", "isEmpty", "()Z"⟩ : MethodName)) hown (mvT hZ (hw _ (List.mem_of_getElem? (i := 86) rfl))) (mvT hZ (hw _ (List.mem_of_getElem? (i := 87) rfl))) (mvT hZ (hw _ (List.mem_of_getElem? (i := 88) rfl))) (mvT hZ (hw _ (List.mem_of_getElem? (i := 89) rfl))) (mvT hZ (hw _ (List.mem_of_getElem? (i := 90) rfl))) (mvT hZ (hw _ (List.mem_of_getElem? (i := 91) rfl))) (mvT hZ (hw _ (List.mem_of_getElem? (i := 92) rfl))) (mvT hZ (hw _ (List.mem_of_getElem? (i := 93) rfl))) (by decide) (backOf (W := 0) (own_ise2 l Z a0 hw a h0 n0 Z0 Fs) hZ (hw _ (List.mem_of_getElem? (i := 94) rfl)) (hw _ (List.mem_of_getElem? (i := 29) rfl)) (by decide) (by decide)) q2a q2b q2c (g := (mkF m 5 #[.val (.ref t), .val (.ref a)] [(.ref a)])) rfl (by rw [hml]; rfl) (Steps.refl _) (argsL := []) (rest := []) (lenOf own_pd14 rfl) rfl (by show 2 * 0 + _ ≤ _; exact Nat.le_of_eq rfl) (hb hby own_d_prog_3_method_1_5) (fun _ _ => ⟨rfl, e1, (by decide : 0 + 0 ≤ _), (by decide : 0 + 0 ≤ _)⟩)
  dsimp only [Pt.U, Pt.locs, Pt.cells, Pt.slots] at X2 l2 y2 z2 st2 hQ2
  subst l2 y2 z2
  obtain ⟨rfl, N2q, hh2⟩ := hQ2
  have N2 := Fr.app N0 N2q
  refine own_via (S' := (T2.setTop (mkF m 10 #[.val (.ref t), .val (.ref a)] [(.int (0 : Int32))]))) st2 ?_
  refine own_go (S' := (T2.setTop (mkF m 23 #[.val (.ref t), .val (.ref a)] []))) (fun _ k => XS.ifYes X2.here hx rfl (pc0 := 10) (pc' := 23) rfl (hb hby own_d_prog_3_method_1_10) rfl ((if0 _ _).trans (teq rfl).1) (by decide) (by decide) k) ?_
  refine own_go (S' := (T2.setTop (mkF m 24 #[.val (.ref t), .val (.ref a)] [(.ref t)]))) (fun _ k => XS.aloadN X2.here hx rfl (hb hby own_d_prog_3_method_1_23) rfl rfl  k) ?_
  refine own_go (S' := (T2.setTop (mkF m 25 #[.val (.ref t), .val (.ref a)] [(.ref a), (.ref t)]))) (fun _ k => XS.aloadN X2.here hx rfl (hb hby own_d_prog_3_method_1_24) rfl rfl  k) ?_
  obtain ⟨_, _, ⟨T3, L3, k3, n3⟩, -, X3, ⟨Lc3, hQ3, l3, y3, z3⟩, st3⟩ := Jvm.LawKit.callS X2 hx (y := (⟨"java/util/List", "copyOf", "(Ljava/util/Collection;)Ljava/util/List;"⟩ : MethodName)) hown (mvT hZ (hw _ (List.mem_of_getElem? (i := 95) rfl))) (mvT hZ (hw _ (List.mem_of_getElem? (i := 96) rfl))) (mvT hZ (hw _ (List.mem_of_getElem? (i := 97) rfl))) (mvT hZ (hw _ (List.mem_of_getElem? (i := 98) rfl))) (by decide) (backOf (W := 1) (own_co2 l Z a0 hw a ea d1 d2 k mr em h0 n0 Z0 E_a Fe Fs V Ex Ed1 Ed2 SE mw) hZ (hw _ (List.mem_of_getElem? (i := 98) rfl)) (hw _ (List.mem_of_getElem? (i := 97) rfl)) (by decide) (by decide)) (g := (mkF m 25 #[.val (.ref t), .val (.ref a)] [(.ref a), (.ref t)])) rfl (by rw [hml]; rfl) (argsL := [(.ref a)]) (rest := [(.ref t)]) (lenOf own_pd15 rfl) rfl (by show 2 * 0 + _ ≤ _; exact Nat.le_of_eq rfl) (hb hby own_d_prog_3_method_1_25) (fun _ _ => ⟨rfl, hh2, (by decide : 0 + 2 ≤ _), (by decide : 0 + 4 ≤ _)⟩)
  dsimp only [Pt.U, Pt.locs, Pt.cells, Pt.slots] at X3 l3 y3 z3 st3 hQ3
  subst l3 y3 z3
  obtain ⟨x3, rfl, N3q, Kc3, P3, s3⟩ := hQ3
  have N3 := Fr.app N2 N3q
  refine own_go (S' := (T3.setTop (mkF m 28 #[.val (.ref t), .val (.ref a)] [(.ref x3), (.ref t)]))) st3 ?_
  have c4_E_a := E_a.keep Kc3
  have c4_Ex := Ex.keep Kc3
  have c4_Ed1 := Ed1.keep Kc3
  have c4_Ed2 := Ed2.keep Kc3
  have c4_SE := own_Sk SE Kc3 all0
  have c4_E_t := E_t.keep Kc3
  have c4_Ft := Ft.keep Kc3 nin0
  have K3x := (Keep.refl h0 [t]).trans Kc3 all0
  have nx : x3 ≠ t := Ne.symm (Nat.ne_of_lt (Nat.lt_of_lt_of_le E_t.lt s3))
  obtain ⟨T5, h5, X5, e5, W5, st5⟩ := putF X3 hx hZ hown (host := "") (Or.inl (hw _ (List.mem_of_getElem? (i := 177) rfl))) Via.refl rfl c4_Ft c4_E_t (Or.inr ⟨(hw _ (List.mem_of_getElem? (i := 178) rfl)), rfl, hnm⟩) (hw _ (List.mem_of_getElem? (i := 80) rfl)) (ty := (.object "java/util/List")) (by decide) rfl rfl (g := (mkF m 28 #[.val (.ref t), .val (.ref a)] [(.ref x3), (.ref t)])) rfl rfl (hb hby own_d_prog_3_method_1_28)
  have N5 := Fr.snoc X5 N3 g
  refine own_go (S' := (T5.setTop (mkF m 31 #[.val (.ref t), .val (.ref a)] []))) st5 ?_
  have n5_Ft := c4_Ft.same W5
  have c6_E_a := c4_E_a.wr W5
  have c6_Ex := c4_Ex.wr W5
  have c6_Ed1 := c4_Ed1.wr W5
  have c6_Ed2 := c4_Ed2.wr W5
  have c6_SE := c4_SE.wr W5
  have c6_E_t := c4_E_t.wr W5
  have K5 := K3x.wr W5 (Or.inl (List.mem_of_getElem? (i := 0) rfl))
  have P_ : own_L2 Z h5 x3 d1 d2 := ⟨P3.1.wr W5, P3.2.1.other W5 (Or.inl nx), P3.2.2.other W5 (Or.inl nx)⟩
  refine own_retV X5 hx hlk hret (hb hby own_d_prog_3_method_1_31) ?_ (by decide) (by decide)
  rw [e5]
  exact ⟨rfl, N5, K5, c6_E_t, _, n5_Ft, P_, s3⟩
set_option maxRecDepth 65536 in
set_option maxHeartbeats 40000000 in
theorem own_lc3 (l : Launch) (Z : State) (a0 : Array Value) (hw : ∀ d ∈ tables_1, d.before a0 Z = true) (a : Addr) (ea : Addr) (d1 d2 d3 : Addr) (k : ClassId) (mr em : Addr) (h0 : Heap) (n0 : Nat) (Z0 : n0 ≤ h0.size) (E_a : Exa Z h0 a "java/util/ArrayList") (Fe : Fld Z h0 a "java/util/ArrayList" "elementData" "[Ljava/lang/Object;" (.ref ea)) (Fs : Fld Z h0 a "java/util/ArrayList" "size" "I" (.int (3 : Int32))) (V : Arv Z h0 ea k (.object "java/lang/Object") 10 [.ref d1, .ref d2, .ref d3, .null, .null, .null, .null, .null, .null, .null] .null) (Ex : Exa Z h0 ea "[Ljava/lang/Object;") (Ed1 : Exa Z h0 d1 "java/time/Duration") (Ed2 : Exa Z h0 d2 "java/time/Duration") (Ed3 : Exa Z h0 d3 "java/time/Duration") (SE : Sta Z h0 "java/util/ImmutableCollections" "EMPTY" "Ljava/lang/Object;" (.ref em)) (mw : own_Mir Z mr) :
    own_C l Z (⟨"java/util/ImmutableCollections", "listCopy", "(Ljava/util/Collection;)Ljava/util/List;"⟩ : MethodName) jdk_56_method_3_code 2 (some (.object "java/util/List")) [] ({ frames := 7, cells := 3, slots := 8, locals := 90 } : Room) #[(.ref a)] h0 (own_Qo (fun h x => own_L3 Z h x d1 d2 d3) h0 n0) := by
  refine MetFree.of_bodySF (plainFor_of_name own_pn10) hisR ?_
  intro p e s m args below meth c s₁ Bd hml0 hP hK
  obtain ⟨rfl, hZ, hh⟩ := hP
  have hx := Bd.exec
  have hby := Bd.bytes
  have hlk := Bd.notSynchronized
  have hret := Bd.returns
  have hml : c.maxLocals = 2 := hml0
  have hown : s.vm.findClass "java/util/ImmutableCollections" = some m.cls := findClass_of_methodNamed Bd.named
  have hnm := (name_of_methodNamed Bd.named Bd.method).1
  have X0 : Stand p l e ({ frames := 7, cells := 3, slots := 8, locals := 90 } : Room) s m #[(.ref a)] below meth c s₁ [] 0 0 := Stand.of_body Bd
  have e0 : s₁.heap = h0 := by rw [← hh, Bd.state]; rfl
  have N0 := Fr.nil n0
  refine own_open (own_ef13 m a) ?_
  refine own_go (S' := (s₁.setTop (mkF m 1 #[.val (.ref a), .unset] [(.ref a)]))) (fun _ k => XS.aloadN X0.here hx rfl (hb hby own_d_jdk_56_method_3_0) rfl rfl  k) ?_
  obtain ⟨T1, X1, e1, st1⟩ := instNo X0 hx hZ hown (hw _ (List.mem_of_getElem? (i := 103) rfl)) e0 E_a (own_no (hw _ (List.mem_of_getElem? (i := 104) rfl)) (hw _ (List.mem_of_getElem? (i := 148) rfl)) (NS.step (hw _ (List.mem_of_getElem? (i := 104) rfl)) (NS.step (hw _ (List.mem_of_getElem? (i := 105) rfl)) (NS.step (hw _ (List.mem_of_getElem? (i := 106) rfl)) (own_root (hw _ (List.mem_of_getElem? (i := 107) rfl)) (hw _ (List.mem_of_getElem? (i := 148) rfl)) (by decide)) (by decide)) (by decide)) (by decide)) (by decide)) (g := (mkF m 1 #[.val (.ref a), .unset] [(.ref a)])) rfl rfl (hb hby own_d_jdk_56_method_3_1)
  refine own_go (S' := (T1.setTop (mkF m 4 #[.val (.ref a), .unset] [(.int (0 : Int32))]))) st1 ?_
  refine own_go (S' := (T1.setTop (mkF m 7 #[.val (.ref a), .unset] []))) (fun _ k => XS.ifNo X1.here hx rfl (hb hby own_d_jdk_56_method_3_4) rfl ((if0 _ _).trans (teq rfl).2) k) ?_
  refine own_go (S' := (T1.setTop (mkF m 8 #[.val (.ref a), .unset] [(.ref a)]))) (fun _ k => XS.aloadN X1.here hx rfl (hb hby own_d_jdk_56_method_3_7) rfl rfl  k) ?_
  obtain ⟨T2, X2, e2, st2⟩ := instNo X1 hx hZ hown (hw _ (List.mem_of_getElem? (i := 108) rfl)) e1 E_a (own_no (hw _ (List.mem_of_getElem? (i := 104) rfl)) (hw _ (List.mem_of_getElem? (i := 208) rfl)) (NS.step (hw _ (List.mem_of_getElem? (i := 104) rfl)) (NS.step (hw _ (List.mem_of_getElem? (i := 105) rfl)) (NS.step (hw _ (List.mem_of_getElem? (i := 106) rfl)) (own_root (hw _ (List.mem_of_getElem? (i := 107) rfl)) (hw _ (List.mem_of_getElem? (i := 208) rfl)) (by decide)) (by decide)) (by decide)) (by decide)) (by decide)) (g := (mkF m 8 #[.val (.ref a), .unset] [(.ref a)])) rfl rfl (hb hby own_d_jdk_56_method_3_8)
  refine own_go (S' := (T2.setTop (mkF m 11 #[.val (.ref a), .unset] [(.int (0 : Int32))]))) st2 ?_
  refine own_go (S' := (T2.setTop (mkF m 31 #[.val (.ref a), .unset] []))) (fun _ k => XS.ifYes X2.here hx rfl (pc0 := 11) (pc' := 31) rfl (hb hby own_d_jdk_56_method_3_11) rfl ((if0 _ _).trans (teq rfl).1) (by decide) (by decide) k) ?_
  refine own_go (S' := (T2.setTop (mkF m 32 #[.val (.ref a), .unset] [(.ref a)]))) (fun _ k => XS.aloadN X2.here hx rfl (hb hby own_d_jdk_56_method_3_31) rfl rfl  k) ?_
  obtain ⟨cq3, kq3, q3a, q3b, q3c⟩ := isOf hZ e2 (E_a)
  obtain ⟨_, _, ⟨T3, L3, k3, n3⟩, -, X3, ⟨Lc3, hQ3, l3, y3, z3⟩, st3⟩ := X2.interfaceBack hx (xi := (⟨"java/util/Collection", "isEmpty", "()Z"⟩ : MethodName)) (y := (⟨"java/util/ArrayList", "isEmpty", "()Z"⟩ : MethodName)) hown (mvT hZ (hw _ (List.mem_of_getElem? (i := 109) rfl))) (mvT hZ (hw _ (List.mem_of_getElem? (i := 110) rfl))) (mvT hZ (hw _ (List.mem_of_getElem? (i := 111) rfl))) (mvT hZ (hw _ (List.mem_of_getElem? (i := 112) rfl))) (mvT hZ (hw _ (List.mem_of_getElem? (i := 90) rfl))) (mvT hZ (hw _ (List.mem_of_getElem? (i := 91) rfl))) (mvT hZ (hw _ (List.mem_of_getElem? (i := 92) rfl))) (mvT hZ (hw _ (List.mem_of_getElem? (i := 113) rfl))) (by decide) (backOf (W := 0) (own_ise3 l Z a0 hw a h0 n0 Z0 Fs) hZ (hw _ (List.mem_of_getElem? (i := 94) rfl)) (hw _ (List.mem_of_getElem? (i := 29) rfl)) (by decide) (by decide)) q3a q3b q3c (g := (mkF m 32 #[.val (.ref a), .unset] [(.ref a)])) rfl (by rw [hml]; rfl) (Steps.refl _) (argsL := []) (rest := []) (lenOf own_pd14 rfl) rfl (by show 2 * 0 + _ ≤ _; exact Nat.le_of_eq rfl) (hb hby own_d_jdk_56_method_3_32) (fun _ _ => ⟨rfl, e2, (by decide : 0 + 0 ≤ _), (by decide : 0 + 0 ≤ _)⟩)
  dsimp only [Pt.U, Pt.locs, Pt.cells, Pt.slots] at X3 l3 y3 z3 st3 hQ3
  subst l3 y3 z3
  obtain ⟨rfl, N3q, hh3⟩ := hQ3
  have N3 := Fr.app N0 N3q
  refine own_via (S' := (T3.setTop (mkF m 37 #[.val (.ref a), .unset] [(.int (0 : Int32))]))) st3 ?_
  refine own_go (S' := (T3.setTop (mkF m 44 #[.val (.ref a), .unset] []))) (fun _ k => XS.ifYes X3.here hx rfl (pc0 := 37) (pc' := 44) rfl (hb hby own_d_jdk_56_method_3_37) rfl ((if0 _ _).trans (teq rfl).1) (by decide) (by decide) k) ?_
  refine own_go (S' := (T3.setTop (mkF m 45 #[.val (.ref a), .unset] [(.ref a)]))) (fun _ k => XS.aloadN X3.here hx rfl (hb hby own_d_jdk_56_method_3_44) rfl rfl  k) ?_
  obtain ⟨cq4, kq4, q4a, q4b, q4c⟩ := isOf hZ hh3 (E_a)
  obtain ⟨_, _, ⟨T4, L4, k4, n4⟩, -, X4, ⟨Lc4, hQ4, l4, y4, z4⟩, st4⟩ := X3.interfaceBack hx (xi := (⟨"java/util/Collection", "toArray", "()[Ljava/lang/Object;"⟩ : MethodName)) (y := (⟨"java/util/ArrayList", "toArray", "()[Ljava/lang/Object;"⟩ : MethodName)) hown (mvT hZ (hw _ (List.mem_of_getElem? (i := 114) rfl))) (mvT hZ (hw _ (List.mem_of_getElem? (i := 115) rfl))) (mvT hZ (hw _ (List.mem_of_getElem? (i := 116) rfl))) (mvT hZ (hw _ (List.mem_of_getElem? (i := 117) rfl))) (mvT hZ (hw _ (List.mem_of_getElem? (i := 118) rfl))) (mvT hZ (hw _ (List.mem_of_getElem? (i := 119) rfl))) (mvT hZ (hw _ (List.mem_of_getElem? (i := 120) rfl))) (mvT hZ (hw _ (List.mem_of_getElem? (i := 113) rfl))) (by decide) (backOf (W := 0) (own_ta3 l Z a0 hw a ea d1 d2 d3 k mr h0 n0 Z0 E_a Fe Fs V Ex Ed1 Ed2 Ed3 mw) hZ (hw _ (List.mem_of_getElem? (i := 121) rfl)) (hw _ (List.mem_of_getElem? (i := 29) rfl)) (by decide) (by decide)) q4a q4b q4c (g := (mkF m 45 #[.val (.ref a), .unset] [(.ref a)])) rfl (by rw [hml]; rfl) (Steps.refl _) (argsL := []) (rest := []) (lenOf own_pd5 rfl) rfl (by show 2 * 0 + _ ≤ _; exact Nat.le_of_eq rfl) (hb hby own_d_jdk_56_method_3_45) (fun _ _ => ⟨rfl, hh3, (by decide : 0 + 1 ≤ _), (by decide : 0 + 3 ≤ _)⟩)
  dsimp only [Pt.U, Pt.locs, Pt.cells, Pt.slots] at X4 l4 y4 z4 st4 hQ4
  subst l4 y4 z4
  obtain ⟨r4, k4c, rfl, N4q, Kc4, V4c, s4c⟩ := hQ4
  have N4 := Fr.app N3 N4q
  refine own_via (S' := (T4.setTop (mkF m 50 #[.val (.ref a), .unset] [(.ref r4)]))) st4 ?_
  have c5_E_a := E_a.keep Kc4
  have c5_Ex := Ex.keep Kc4
  have c5_Ed1 := Ed1.keep Kc4
  have c5_Ed2 := Ed2.keep Kc4
  have c5_Ed3 := Ed3.keep Kc4
  have c5_SE := own_Sk SE Kc4 all0
  have K4x := (Keep.refl h0 []).trans Kc4 all0
  obtain ⟨_, _, ⟨T6, L6, k6, n6⟩, -, X6, ⟨Lc6, hQ6, l6, y6, z6⟩, st6⟩ := Jvm.LawKit.callS X4 hx (y := (⟨"java/util/List", "of", "([Ljava/lang/Object;)Ljava/util/List;"⟩ : MethodName)) hown (mvT hZ (hw _ (List.mem_of_getElem? (i := 144) rfl))) (mvT hZ (hw _ (List.mem_of_getElem? (i := 145) rfl))) (mvT hZ (hw _ (List.mem_of_getElem? (i := 97) rfl))) (mvT hZ (hw _ (List.mem_of_getElem? (i := 146) rfl))) (by decide) (backOf (W := 0) (own_lo3 l Z a0 hw r4 d1 d2 d3 k4c em T4.heap n0 (Nat.le_trans Z0 K4x.1) V4c c5_Ed1 c5_Ed2 c5_Ed3 c5_SE) hZ (hw _ (List.mem_of_getElem? (i := 146) rfl)) (hw _ (List.mem_of_getElem? (i := 97) rfl)) (by decide) (by decide)) (g := (mkF m 50 #[.val (.ref a), .unset] [(.ref r4)])) rfl (by rw [hml]; rfl) (argsL := [(.ref r4)]) (rest := []) (lenOf own_pd13 rfl) rfl (by show 2 * 0 + _ ≤ _; exact Nat.le_of_eq rfl) (hb hby own_d_jdk_56_method_3_50) (fun _ _ => ⟨rfl, rfl, (by decide : 1 + 2 ≤ _), (by decide : 3 + 5 ≤ _)⟩)
  dsimp only [Pt.U, Pt.locs, Pt.cells, Pt.slots] at X6 l6 y6 z6 st6 hQ6
  subst l6 y6 z6
  obtain ⟨x6, rfl, N6q, Kc6, P6, s6⟩ := hQ6
  have N6 := Fr.app N4 N6q
  refine own_go (S' := (T6.setTop (mkF m 53 #[.val (.ref a), .unset] [(.ref x6)]))) st6 ?_
  have K6x := K4x.trans Kc6 all0
  refine own_retA X6 hx hlk hret rfl rfl (hb hby own_d_jdk_56_method_3_53) ?_ (by decide) (by decide)
  exact ⟨_, rfl, N6, K6x, P6, Nat.le_trans K4x.1 s6⟩
set_option maxRecDepth 65536 in
set_option maxHeartbeats 40000000 in
theorem own_co3 (l : Launch) (Z : State) (a0 : Array Value) (hw : ∀ d ∈ tables_1, d.before a0 Z = true) (a : Addr) (ea : Addr) (d1 d2 d3 : Addr) (k : ClassId) (mr em : Addr) (h0 : Heap) (n0 : Nat) (Z0 : n0 ≤ h0.size) (E_a : Exa Z h0 a "java/util/ArrayList") (Fe : Fld Z h0 a "java/util/ArrayList" "elementData" "[Ljava/lang/Object;" (.ref ea)) (Fs : Fld Z h0 a "java/util/ArrayList" "size" "I" (.int (3 : Int32))) (V : Arv Z h0 ea k (.object "java/lang/Object") 10 [.ref d1, .ref d2, .ref d3, .null, .null, .null, .null, .null, .null, .null] .null) (Ex : Exa Z h0 ea "[Ljava/lang/Object;") (Ed1 : Exa Z h0 d1 "java/time/Duration") (Ed2 : Exa Z h0 d2 "java/time/Duration") (Ed3 : Exa Z h0 d3 "java/time/Duration") (SE : Sta Z h0 "java/util/ImmutableCollections" "EMPTY" "Ljava/lang/Object;" (.ref em)) (mw : own_Mir Z mr) :
    own_C l Z (⟨"java/util/List", "copyOf", "(Ljava/util/Collection;)Ljava/util/List;"⟩ : MethodName) jdk_40_method_48_code 1 (some (.object "java/util/List")) [] ({ frames := 8, cells := 3, slots := 8, locals := 103 } : Room) #[(.ref a)] h0 (own_Qo (fun h x => own_L3 Z h x d1 d2 d3) h0 n0) := by
  refine MetFree.of_bodySF (plainFor_of_name own_pn11) hisR ?_
  intro p e s m args below meth c s₁ Bd hml0 hP hK
  obtain ⟨rfl, hZ, hh⟩ := hP
  have hx := Bd.exec
  have hby := Bd.bytes
  have hlk := Bd.notSynchronized
  have hret := Bd.returns
  have hml : c.maxLocals = 1 := hml0
  have hown : s.vm.findClass "java/util/List" = some m.cls := findClass_of_methodNamed Bd.named
  have hnm := (name_of_methodNamed Bd.named Bd.method).1
  have X0 : Stand p l e ({ frames := 8, cells := 3, slots := 8, locals := 103 } : Room) s m #[(.ref a)] below meth c s₁ [] 0 0 := Stand.of_body Bd
  have e0 : s₁.heap = h0 := by rw [← hh, Bd.state]; rfl
  have N0 := Fr.nil n0
  refine own_open (own_ef4 m a) ?_
  refine own_go (S' := (s₁.setTop (mkF m 1 #[.val (.ref a)] [(.ref a)]))) (fun _ k => XS.aloadN X0.here hx rfl (hb hby own_d_jdk_40_method_48_0) rfl rfl  k) ?_
  obtain ⟨_, _, ⟨T1, L1, k1, n1⟩, -, X1, ⟨Lc1, hQ1, l1, y1, z1⟩, st1⟩ := Jvm.LawKit.callS X0 hx (y := (⟨"java/util/ImmutableCollections", "listCopy", "(Ljava/util/Collection;)Ljava/util/List;"⟩ : MethodName)) hown (mvT hZ (hw _ (List.mem_of_getElem? (i := 99) rfl))) (mvT hZ (hw _ (List.mem_of_getElem? (i := 100) rfl))) (mvT hZ (hw _ (List.mem_of_getElem? (i := 101) rfl))) (mvT hZ (hw _ (List.mem_of_getElem? (i := 102) rfl))) (by decide) (backOf (W := 0) (own_lc3 l Z a0 hw a ea d1 d2 d3 k mr em h0 n0 Z0 E_a Fe Fs V Ex Ed1 Ed2 Ed3 SE mw) hZ (hw _ (List.mem_of_getElem? (i := 102) rfl)) (hw _ (List.mem_of_getElem? (i := 101) rfl)) (by decide) (by decide)) (g := (mkF m 1 #[.val (.ref a)] [(.ref a)])) rfl (by rw [hml]; rfl) (argsL := [(.ref a)]) (rest := []) (lenOf own_pd15 rfl) rfl (by show 2 * 0 + _ ≤ _; exact Nat.le_of_eq rfl) (hb hby own_d_jdk_40_method_48_1) (fun _ _ => ⟨rfl, e0, (by decide : 0 + 3 ≤ _), (by decide : 0 + 8 ≤ _)⟩)
  dsimp only [Pt.U, Pt.locs, Pt.cells, Pt.slots] at X1 l1 y1 z1 st1 hQ1
  subst l1 y1 z1
  obtain ⟨x1, rfl, N1q, Kc1, P1, s1⟩ := hQ1
  have N1 := Fr.app N0 N1q
  refine own_go (S' := (T1.setTop (mkF m 4 #[.val (.ref a)] [(.ref x1)]))) st1 ?_
  refine own_retA X1 hx hlk hret rfl rfl (hb hby own_d_jdk_40_method_48_4) ?_ (by decide) (by decide)
  exact ⟨_, rfl, N1, Kc1, P1, s1⟩
set_option maxRecDepth 65536 in
set_option maxHeartbeats 40000000 in
theorem own_dl3 (l : Launch) (Z : State) (a0 : Array Value) (hw : ∀ d ∈ tables_1, d.before a0 Z = true) (t : Addr) (a : Addr) (ea : Addr) (d1 d2 d3 : Addr) (k : ClassId) (mr em : Addr) (h0 : Heap) (n0 : Nat) (Z0 : n0 ≤ h0.size) (E_a : Exa Z h0 a "java/util/ArrayList") (Fe : Fld Z h0 a "java/util/ArrayList" "elementData" "[Ljava/lang/Object;" (.ref ea)) (Fs : Fld Z h0 a "java/util/ArrayList" "size" "I" (.int (3 : Int32))) (V : Arv Z h0 ea k (.object "java/lang/Object") 10 [.ref d1, .ref d2, .ref d3, .null, .null, .null, .null, .null, .null, .null] .null) (Ex : Exa Z h0 ea "[Ljava/lang/Object;") (Ed1 : Exa Z h0 d1 "java/time/Duration") (Ed2 : Exa Z h0 d2 "java/time/Duration") (Ed3 : Exa Z h0 d3 "java/time/Duration") (SE : Sta Z h0 "java/util/ImmutableCollections" "EMPTY" "Ljava/lang/Object;" (.ref em)) (E_t : Exa Z h0 t "com/example/topicd/topicd/broker/DelayLevels") (Ft : Fld Z h0 t "com/example/topicd/topicd/broker/DelayLevels" "delays" "Ljava/util/List;" .null) (mw : own_Mir Z mr) (g : n0 ≤ t) :
    own_C l Z (⟨"com/example/topicd/topicd/broker/DelayLevels", "<init>", "(Ljava/util/List;)V"⟩ : MethodName) prog_3_method_1_code 2 none [] ({ frames := 9, cells := 3, slots := 8, locals := 116 } : Room) #[(.ref t), (.ref a)] h0 (own_Qt2 Z (fun h x => own_L3 Z h x d1 d2 d3) t h0 n0) := by
  refine MetFree.of_bodySF (plainFor_of_name own_pn12) hisR ?_
  intro p e s m args below meth c s₁ Bd hml0 hP hK
  obtain ⟨rfl, hZ, hh⟩ := hP
  have hx := Bd.exec
  have hby := Bd.bytes
  have hlk := Bd.notSynchronized
  have hret := Bd.returns
  have hml : c.maxLocals = 2 := hml0
  have hown : s.vm.findClass "com/example/topicd/topicd/broker/DelayLevels" = some m.cls := findClass_of_methodNamed Bd.named
  have hnm := (name_of_methodNamed Bd.named Bd.method).1
  have X0 : Stand p l e ({ frames := 9, cells := 3, slots := 8, locals := 116 } : Room) s m #[(.ref t), (.ref a)] below meth c s₁ [] 0 0 := Stand.of_body Bd
  have e0 : s₁.heap = h0 := by rw [← hh, Bd.state]; rfl
  have N0 := Fr.nil n0
  refine own_open (own_ef7 m t a) ?_
  refine own_go (S' := (s₁.setTop (mkF m 1 #[.val (.ref t), .val (.ref a)] [(.ref t)]))) (fun _ k => XS.aloadN X0.here hx rfl (hb hby own_d_prog_3_method_1_0) rfl rfl  k) ?_
  obtain ⟨T1, X1, e1, st1⟩ := initO X0 hx hZ hown (hw _ (List.mem_of_getElem? (i := 85) rfl)) (hw _ (List.mem_of_getElem? (i := 19) rfl)) (hw _ (List.mem_of_getElem? (i := 20) rfl)) e0 (g := (mkF m 1 #[.val (.ref t), .val (.ref a)] [(.ref t)])) rfl (by rw [hml]; rfl) rfl (hb hby own_d_prog_3_method_1_1) (by decide) (W := 0) (by show 2 * 0 + _ ≤ _; exact Nat.le_of_eq rfl) (by decide)
  refine own_go (S' := (T1.setTop (mkF m 4 #[.val (.ref t), .val (.ref a)] []))) st1 ?_
  refine own_go (S' := (T1.setTop (mkF m 5 #[.val (.ref t), .val (.ref a)] [(.ref a)]))) (fun _ k => XS.aloadN X1.here hx rfl (hb hby own_d_prog_3_method_1_4) rfl rfl  k) ?_
  obtain ⟨cq2, kq2, q2a, q2b, q2c⟩ := isOf hZ e1 (E_a)
  obtain ⟨_, _, ⟨T2, L2, k2, n2⟩, -, X2, ⟨Lc2, hQ2, l2, y2, z2⟩, st2⟩ := X1.interfaceBack hx (xi := (⟨"java/util/List", "isEmpty", "()Z"⟩ : MethodName)) (y := (⟨"java/util/ArrayList", "isEmpty", "()Z"⟩ : MethodName)) hown (mvT hZ (hw _ (List.mem_of_getElem? (i := 86) rfl))) (mvT hZ (hw _ (List.mem_of_getElem? (i := 87) rfl))) (mvT hZ (hw _ (List.mem_of_getElem? (i := 88) rfl))) (mvT hZ (hw _ (List.mem_of_getElem? (i := 89) rfl))) (mvT hZ (hw _ (List.mem_of_getElem? (i := 90) rfl))) (mvT hZ (hw _ (List.mem_of_getElem? (i := 91) rfl))) (mvT hZ (hw _ (List.mem_of_getElem? (i := 92) rfl))) (mvT hZ (hw _ (List.mem_of_getElem? (i := 93) rfl))) (by decide) (backOf (W := 0) (own_ise3 l Z a0 hw a h0 n0 Z0 Fs) hZ (hw _ (List.mem_of_getElem? (i := 94) rfl)) (hw _ (List.mem_of_getElem? (i := 29) rfl)) (by decide) (by decide)) q2a q2b q2c (g := (mkF m 5 #[.val (.ref t), .val (.ref a)] [(.ref a)])) rfl (by rw [hml]; rfl) (Steps.refl _) (argsL := []) (rest := []) (lenOf own_pd14 rfl) rfl (by show 2 * 0 + _ ≤ _; exact Nat.le_of_eq rfl) (hb hby own_d_prog_3_method_1_5) (fun _ _ => ⟨rfl, e1, (by decide : 0 + 0 ≤ _), (by decide : 0 + 0 ≤ _)⟩)
  dsimp only [Pt.U, Pt.locs, Pt.cells, Pt.slots] at X2 l2 y2 z2 st2 hQ2
  subst l2 y2 z2
  obtain ⟨rfl, N2q, hh2⟩ := hQ2
  have N2 := Fr.app N0 N2q
  refine own_via (S' := (T2.setTop (mkF m 10 #[.val (.ref t), .val (.ref a)] [(.int (0 : Int32))]))) st2 ?_
  refine own_go (S' := (T2.setTop (mkF m 23 #[.val (.ref t), .val (.ref a)] []))) (fun _ k => XS.ifYes X2.here hx rfl (pc0 := 10) (pc' := 23) rfl (hb hby own_d_prog_3_method_1_10) rfl ((if0 _ _).trans (teq rfl).1) (by decide) (by decide) k) ?_
  refine own_go (S' := (T2.setTop (mkF m 24 #[.val (.ref t), .val (.ref a)] [(.ref t)]))) (fun _ k => XS.aloadN X2.here hx rfl (hb hby own_d_prog_3_method_1_23) rfl rfl  k) ?_
  refine own_go (S' := (T2.setTop (mkF m 25 #[.val (.ref t), .val (.ref a)] [(.ref a), (.ref t)]))) (fun _ k => XS.aloadN X2.here hx rfl (hb hby own_d_prog_3_method_1_24) rfl rfl  k) ?_
  obtain ⟨_, _, ⟨T3, L3, k3, n3⟩, -, X3, ⟨Lc3, hQ3, l3, y3, z3⟩, st3⟩ := Jvm.LawKit.callS X2 hx (y := (⟨"java/util/List", "copyOf", "(Ljava/util/Collection;)Ljava/util/List;"⟩ : MethodName)) hown (mvT hZ (hw _ (List.mem_of_getElem? (i := 95) rfl))) (mvT hZ (hw _ (List.mem_of_getElem? (i := 96) rfl))) (mvT hZ (hw _ (List.mem_of_getElem? (i := 97) rfl))) (mvT hZ (hw _ (List.mem_of_getElem? (i := 98) rfl))) (by decide) (backOf (W := 1) (own_co3 l Z a0 hw a ea d1 d2 d3 k mr em h0 n0 Z0 E_a Fe Fs V Ex Ed1 Ed2 Ed3 SE mw) hZ (hw _ (List.mem_of_getElem? (i := 98) rfl)) (hw _ (List.mem_of_getElem? (i := 97) rfl)) (by decide) (by decide)) (g := (mkF m 25 #[.val (.ref t), .val (.ref a)] [(.ref a), (.ref t)])) rfl (by rw [hml]; rfl) (argsL := [(.ref a)]) (rest := [(.ref t)]) (lenOf own_pd15 rfl) rfl (by show 2 * 0 + _ ≤ _; exact Nat.le_of_eq rfl) (hb hby own_d_prog_3_method_1_25) (fun _ _ => ⟨rfl, hh2, (by decide : 0 + 3 ≤ _), (by decide : 0 + 8 ≤ _)⟩)
  dsimp only [Pt.U, Pt.locs, Pt.cells, Pt.slots] at X3 l3 y3 z3 st3 hQ3
  subst l3 y3 z3
  obtain ⟨x3, rfl, N3q, Kc3, P3, s3⟩ := hQ3
  have N3 := Fr.app N2 N3q
  refine own_go (S' := (T3.setTop (mkF m 28 #[.val (.ref t), .val (.ref a)] [(.ref x3), (.ref t)]))) st3 ?_
  have c4_E_a := E_a.keep Kc3
  have c4_Ex := Ex.keep Kc3
  have c4_Ed1 := Ed1.keep Kc3
  have c4_Ed2 := Ed2.keep Kc3
  have c4_Ed3 := Ed3.keep Kc3
  have c4_SE := own_Sk SE Kc3 all0
  have c4_E_t := E_t.keep Kc3
  have c4_Ft := Ft.keep Kc3 nin0
  have K3x := (Keep.refl h0 [t]).trans Kc3 all0
  have nx : x3 ≠ t := Ne.symm (Nat.ne_of_lt (Nat.lt_of_lt_of_le E_t.lt s3))
  obtain ⟨T5, h5, X5, e5, W5, st5⟩ := putF X3 hx hZ hown (host := "") (Or.inl (hw _ (List.mem_of_getElem? (i := 177) rfl))) Via.refl rfl c4_Ft c4_E_t (Or.inr ⟨(hw _ (List.mem_of_getElem? (i := 178) rfl)), rfl, hnm⟩) (hw _ (List.mem_of_getElem? (i := 80) rfl)) (ty := (.object "java/util/List")) (by decide) rfl rfl (g := (mkF m 28 #[.val (.ref t), .val (.ref a)] [(.ref x3), (.ref t)])) rfl rfl (hb hby own_d_prog_3_method_1_28)
  have N5 := Fr.snoc X5 N3 g
  refine own_go (S' := (T5.setTop (mkF m 31 #[.val (.ref t), .val (.ref a)] []))) st5 ?_
  have n5_Ft := c4_Ft.same W5
  have c6_E_a := c4_E_a.wr W5
  have c6_Ex := c4_Ex.wr W5
  have c6_Ed1 := c4_Ed1.wr W5
  have c6_Ed2 := c4_Ed2.wr W5
  have c6_Ed3 := c4_Ed3.wr W5
  have c6_SE := c4_SE.wr W5
  have c6_E_t := c4_E_t.wr W5
  have K5 := K3x.wr W5 (Or.inl (List.mem_of_getElem? (i := 0) rfl))
  obtain ⟨ar_, k_, pa, pb, pc⟩ := P3
  have P_ : own_L3 Z h5 x3 d1 d2 d3 := ⟨ar_, k_, pa.wr W5, pb.other W5 (Or.inl nx), pc.other W5 (fun q => own_nex (E_t.keep Kc3) pc q (hw _ (List.mem_of_getElem? (i := 80) rfl)))⟩
  refine own_retV X5 hx hlk hret (hb hby own_d_prog_3_method_1_31) ?_ (by decide) (by decide)
  rw [e5]
  exact ⟨rfl, N5, K5, c6_E_t, _, n5_Ft, P_, s3⟩
set_option maxRecDepth 65536 in
set_option maxHeartbeats 40000000 in
theorem own_sz1 (l : Launch) (Z : State) (a0 : Array Value) (hw : ∀ d ∈ tables_1, d.before a0 Z = true) (x : Addr) (d1 em : Addr) (h0 : Heap) (n0 : Nat) (Z0 : n0 ≤ h0.size) (E_x : Exa Z h0 x "java/util/ImmutableCollections$List12") (F0 : Fld Z h0 x "java/util/ImmutableCollections$List12" "e0" "Ljava/lang/Object;" (.ref d1)) (F1 : Fld Z h0 x "java/util/ImmutableCollections$List12" "e1" "Ljava/lang/Object;" (.ref em)) (SE : Sta Z h0 "java/util/ImmutableCollections" "EMPTY" "Ljava/lang/Object;" (.ref em)) :
    own_C l Z (⟨"java/util/ImmutableCollections$List12", "size", "()I"⟩ : MethodName) jdk_44_method_3_code 1 (some .int) [] ({ frames := 0, cells := 0, slots := 0, locals := 0 } : Room) #[(.ref x)] h0 (own_Qz (1 : Int32) h0 n0) := by
  refine MetFree.of_bodySF (plainFor_of_name own_pn7) hisR ?_
  intro p e s m args below meth c s₁ Bd hml0 hP hK
  obtain ⟨rfl, hZ, hh⟩ := hP
  have hx := Bd.exec
  have hby := Bd.bytes
  have hlk := Bd.notSynchronized
  have hret := Bd.returns
  have hml : c.maxLocals = 1 := hml0
  have hown : s.vm.findClass "java/util/ImmutableCollections$List12" = some m.cls := findClass_of_methodNamed Bd.named
  have hnm := (name_of_methodNamed Bd.named Bd.method).1
  have X0 : Stand p l e ({ frames := 0, cells := 0, slots := 0, locals := 0 } : Room) s m #[(.ref x)] below meth c s₁ [] 0 0 := Stand.of_body Bd
  have e0 : s₁.heap = h0 := by rw [← hh, Bd.state]; rfl
  have N0 := Fr.nil n0
  refine own_open (own_ef4 m x) ?_
  refine own_go (S' := (s₁.setTop (mkF m 1 #[.val (.ref x)] [(.ref x)]))) (fun _ k => XS.aloadN X0.here hx rfl (hb hby own_d_jdk_44_method_3_0) rfl rfl  k) ?_
  obtain ⟨T1, X1, e1, st1⟩ := getF X0 hx hZ hown (host := "") (Or.inl (hw _ (List.mem_of_getElem? (i := 175) rfl))) Via.refl e0 F1 (g := (mkF m 1 #[.val (.ref x)] [(.ref x)])) rfl rfl (hb hby own_d_jdk_44_method_3_1)
  refine own_go (S' := (T1.setTop (mkF m 4 #[.val (.ref x)] [(.ref em)]))) st1 ?_
  obtain ⟨T2, X2, e2, st2⟩ := getS2 X1 hx hZ hown (Or.inr (hw _ (List.mem_of_getElem? (i := 174) rfl))) Via.refl e1 SE (g := (mkF m 4 #[.val (.ref x)] [(.ref em)])) rfl (hb hby own_d_jdk_44_method_3_4)
  refine own_go (S' := (T2.setTop (mkF m 7 #[.val (.ref x)] [(.ref em), (.ref em)]))) st2 ?_
  refine own_go (S' := (T2.setTop (mkF m 14 #[.val (.ref x)] []))) (fun _ k => Jvm.RoadKit.acmp (g := (mkF m 7 #[.val (.ref x)] [(.ref em), (.ref em)])) X2 hx rfl rfl rfl (pc0 := 7) (pc' := 14) (same := true) rfl (hb hby own_d_jdk_44_method_3_7) rfl (decide_eq_true rfl) (by decide) (by decide) k) ?_
  refine own_go (S' := (T2.setTop (mkF m 15 #[.val (.ref x)] [(.int (1 : Int32))]))) (fun _ k => XS.iconst X2.here hx rfl (hb hby own_d_jdk_44_method_3_14) k) ?_
  refine own_retI X2 hx hlk hret (hb hby own_d_jdk_44_method_3_15) ?_ (by decide) (by decide)
  rw [e2]
  exact ⟨rfl, N0, rfl⟩
set_option maxRecDepth 65536 in
set_option maxHeartbeats 40000000 in
theorem own_gt11 (l : Launch) (Z : State) (a0 : Array Value) (hw : ∀ d ∈ tables_1, d.before a0 Z = true) (x : Addr) (d1 em : Addr) (h0 : Heap) (n0 : Nat) (Z0 : n0 ≤ h0.size) (E_x : Exa Z h0 x "java/util/ImmutableCollections$List12") (F0 : Fld Z h0 x "java/util/ImmutableCollections$List12" "e0" "Ljava/lang/Object;" (.ref d1)) (F1 : Fld Z h0 x "java/util/ImmutableCollections$List12" "e1" "Ljava/lang/Object;" (.ref em)) (SE : Sta Z h0 "java/util/ImmutableCollections" "EMPTY" "Ljava/lang/Object;" (.ref em)) :
    own_C l Z (⟨"java/util/ImmutableCollections$List12", "get", "(I)Ljava/lang/Object;"⟩ : MethodName) jdk_44_method_5_code 2 (some (.object "java/lang/Object")) [] ({ frames := 0, cells := 0, slots := 0, locals := 0 } : Room) #[(.ref x), (.int (0 : Int32))] h0 (own_Qr d1 h0 n0) := by
  refine MetFree.of_bodySF (plainFor_of_name own_pn7) hisR ?_
  intro p e s m args below meth c s₁ Bd hml0 hP hK
  obtain ⟨rfl, hZ, hh⟩ := hP
  have hx := Bd.exec
  have hby := Bd.bytes
  have hlk := Bd.notSynchronized
  have hret := Bd.returns
  have hml : c.maxLocals = 2 := hml0
  have hown : s.vm.findClass "java/util/ImmutableCollections$List12" = some m.cls := findClass_of_methodNamed Bd.named
  have hnm := (name_of_methodNamed Bd.named Bd.method).1
  have X0 : Stand p l e ({ frames := 0, cells := 0, slots := 0, locals := 0 } : Room) s m #[(.ref x), (.int (0 : Int32))] below meth c s₁ [] 0 0 := Stand.of_body Bd
  have e0 : s₁.heap = h0 := by rw [← hh, Bd.state]; rfl
  have N0 := Fr.nil n0
  refine own_open (own_ef11 m x ((0 : Int32))) ?_
  refine own_go (S' := (s₁.setTop (mkF m 1 #[.val (.ref x), .val (.int (0 : Int32))] [(.int (0 : Int32))]))) (fun _ k => XS.iloadN X0.here hx rfl (hb hby own_d_jdk_44_method_5_0) rfl  k) ?_
  refine own_go (S' := (s₁.setTop (mkF m 4 #[.val (.ref x), .val (.int (0 : Int32))] []))) (fun _ k => XS.ifNo X0.here hx rfl (hb hby own_d_jdk_44_method_5_1) rfl ((if0 _ _).trans (teq rfl).2) k) ?_
  refine own_go (S' := (s₁.setTop (mkF m 5 #[.val (.ref x), .val (.int (0 : Int32))] [(.ref x)]))) (fun _ k => XS.aloadN X0.here hx rfl (hb hby own_d_jdk_44_method_5_4) rfl rfl  k) ?_
  obtain ⟨T1, X1, e1, st1⟩ := getF X0 hx hZ hown (host := "") (Or.inl (hw _ (List.mem_of_getElem? (i := 172) rfl))) Via.refl e0 F0 (g := (mkF m 5 #[.val (.ref x), .val (.int (0 : Int32))] [(.ref x)])) rfl rfl (hb hby own_d_jdk_44_method_5_5)
  refine own_go (S' := (T1.setTop (mkF m 8 #[.val (.ref x), .val (.int (0 : Int32))] [(.ref d1)]))) st1 ?_
  refine own_retA X1 hx hlk hret rfl rfl (hb hby own_d_jdk_44_method_5_8) ?_ (by decide) (by decide)
  rw [e1]
  exact ⟨rfl, N0, rfl⟩
set_option maxRecDepth 65536 in
set_option maxHeartbeats 40000000 in
theorem own_de11 (l : Launch) (Z : State) (a0 : Array Value) (hw : ∀ d ∈ tables_1, d.before a0 Z = true) (t : Addr) (lv : Int32) (x : Addr) (d1 em : Addr) (h0 : Heap) (n0 : Nat) (Z0 : n0 ≤ h0.size) (Ft : Fld Z h0 t "com/example/topicd/topicd/broker/DelayLevels" "delays" "Ljava/util/List;" (.ref x)) (Ed : Exa Z h0 d1 "java/time/Duration") (E_x : Exa Z h0 x "java/util/ImmutableCollections$List12") (F0 : Fld Z h0 x "java/util/ImmutableCollections$List12" "e0" "Ljava/lang/Object;" (.ref d1)) (F1 : Fld Z h0 x "java/util/ImmutableCollections$List12" "e1" "Ljava/lang/Object;" (.ref em)) (SE : Sta Z h0 "java/util/ImmutableCollections" "EMPTY" "Ljava/lang/Object;" (.ref em)) (hz : (¬ (1 : Int32) < lv ∧ lv = (1 : Int32)) ∨ ((1 : Int32) < lv ∧ (1 : Int32) = (1 : Int32))) :
    own_C l Z (⟨"com/example/topicd/topicd/broker/DelayLevels", "delay", "(I)Ljava/time/Duration;"⟩ : MethodName) prog_3_method_4_code 2 (some (.object "java/time/Duration")) [] ({ frames := 1, cells := 0, slots := 0, locals := 14 } : Room) #[(.ref t), (.int lv)] h0 (own_Qr d1 h0 n0) := by
  refine MetFree.of_bodySF (plainFor_of_name own_pn12) hisR ?_
  intro p e s m args below meth c s₁ Bd hml0 hP hK
  obtain ⟨rfl, hZ, hh⟩ := hP
  have hx := Bd.exec
  have hby := Bd.bytes
  have hlk := Bd.notSynchronized
  have hret := Bd.returns
  have hml : c.maxLocals = 2 := hml0
  have hown : s.vm.findClass "com/example/topicd/topicd/broker/DelayLevels" = some m.cls := findClass_of_methodNamed Bd.named
  have hnm := (name_of_methodNamed Bd.named Bd.method).1
  have X0 : Stand p l e ({ frames := 1, cells := 0, slots := 0, locals := 14 } : Room) s m #[(.ref t), (.int lv)] below meth c s₁ [] 0 0 := Stand.of_body Bd
  have e0 : s₁.heap = h0 := by rw [← hh, Bd.state]; rfl
  have N0 := Fr.nil n0
  refine own_open (own_ef11 m t lv) ?_
  refine own_go (S' := (s₁.setTop (mkF m 1 #[.val (.ref t), .val (.int lv)] [(.ref t)]))) (fun _ k => XS.aloadN X0.here hx rfl (hb hby own_d_prog_3_method_4_0) rfl rfl  k) ?_
  obtain ⟨T1, X1, e1, st1⟩ := getF X0 hx hZ hown (host := "") (Or.inl (hw _ (List.mem_of_getElem? (i := 177) rfl))) Via.refl e0 Ft (g := (mkF m 1 #[.val (.ref t), .val (.int lv)] [(.ref t)])) rfl rfl (hb hby own_d_prog_3_method_4_1)
  refine own_go (S' := (T1.setTop (mkF m 4 #[.val (.ref t), .val (.int lv)] [(.ref x)]))) st1 ?_
  refine own_go (S' := (T1.setTop (mkF m 5 #[.val (.ref t), .val (.int lv)] [(.int lv), (.ref x)]))) (fun _ k => XS.iloadN X1.here hx rfl (hb hby own_d_prog_3_method_4_4) rfl  k) ?_
  refine own_go (S' := (T1.setTop (mkF m 6 #[.val (.ref t), .val (.int lv)] [(.ref t), (.int lv), (.ref x)]))) (fun _ k => XS.aloadN X1.here hx rfl (hb hby own_d_prog_3_method_4_5) rfl rfl  k) ?_
  obtain ⟨T2, X2, e2, st2⟩ := getF X1 hx hZ hown (host := "") (Or.inl (hw _ (List.mem_of_getElem? (i := 177) rfl))) Via.refl e1 Ft (g := (mkF m 6 #[.val (.ref t), .val (.int lv)] [(.ref t), (.int lv), (.ref x)])) rfl rfl (hb hby own_d_prog_3_method_4_6)
  refine own_go (S' := (T2.setTop (mkF m 9 #[.val (.ref t), .val (.int lv)] [(.ref x), (.int lv), (.ref x)]))) st2 ?_
  obtain ⟨cq3, kq3, q3a, q3b, q3c⟩ := isOf hZ e2 (E_x)
  obtain ⟨_, _, ⟨T3, L3, k3, n3⟩, -, X3, ⟨Lc3, hQ3, l3, y3, z3⟩, st3⟩ := X2.interfaceBack hx (xi := (⟨"java/util/List", "size", "()I"⟩ : MethodName)) (y := (⟨"java/util/ImmutableCollections$List12", "size", "()I"⟩ : MethodName)) hown (mvT hZ (hw _ (List.mem_of_getElem? (i := 184) rfl))) (mvT hZ (hw _ (List.mem_of_getElem? (i := 185) rfl))) (mvT hZ (hw _ (List.mem_of_getElem? (i := 186) rfl))) (mvT hZ (hw _ (List.mem_of_getElem? (i := 187) rfl))) (mvT hZ (hw _ (List.mem_of_getElem? (i := 188) rfl))) (mvT hZ (hw _ (List.mem_of_getElem? (i := 189) rfl))) (mvT hZ (hw _ (List.mem_of_getElem? (i := 190) rfl))) (mvT hZ (hw _ (List.mem_of_getElem? (i := 191) rfl))) (by decide) (backOf (W := 2) (own_sz1 l Z a0 hw x d1 em h0 n0 Z0 E_x F0 F1 SE) hZ (hw _ (List.mem_of_getElem? (i := 192) rfl)) (hw _ (List.mem_of_getElem? (i := 149) rfl)) (by decide) (by decide)) q3a q3b q3c (g := (mkF m 9 #[.val (.ref t), .val (.int lv)] [(.ref x), (.int lv), (.ref x)])) rfl (by rw [hml]; rfl) (Steps.refl _) (argsL := []) (rest := [(.int lv), (.ref x)]) (lenOf own_pd16 rfl) rfl (by show 2 * 0 + _ ≤ _; exact Nat.le_of_eq rfl) (hb hby own_d_prog_3_method_4_9) (fun _ _ => ⟨rfl, e2, (by decide : 0 + 0 ≤ _), (by decide : 0 + 0 ≤ _)⟩)
  dsimp only [Pt.U, Pt.locs, Pt.cells, Pt.slots] at X3 l3 y3 z3 st3 hQ3
  subst l3 y3 z3
  obtain ⟨rfl, N3q, hh3⟩ := hQ3
  have N3 := Fr.app N0 N3q
  refine own_via (S' := (T3.setTop (mkF m 14 #[.val (.ref t), .val (.int lv)] [(.int (1 : Int32)), (.int lv), (.ref x)]))) st3 ?_
  obtain ⟨_, _, ⟨T4, L4, k4, n4⟩, -, X4, ⟨Lc4, hQ4, l4, y4, z4⟩, st4⟩ := Jvm.LawKit.callS X3 hx (y := (⟨"java/lang/Math", "min", "(II)I"⟩ : MethodName)) hown (mvT hZ (hw _ (List.mem_of_getElem? (i := 193) rfl))) (mvT hZ (hw _ (List.mem_of_getElem? (i := 138) rfl))) (mvT hZ (hw _ (List.mem_of_getElem? (i := 3) rfl))) (mvT hZ (hw _ (List.mem_of_getElem? (i := 139) rfl))) (by decide) (backOf (W := 1) (own_min l Z a0 hw lv (1 : Int32) (1 : Int32) h0 n0 Z0 hz) hZ (hw _ (List.mem_of_getElem? (i := 139) rfl)) (hw _ (List.mem_of_getElem? (i := 3) rfl)) (by decide) (by decide)) (g := (mkF m 14 #[.val (.ref t), .val (.int lv)] [(.int (1 : Int32)), (.int lv), (.ref x)])) rfl (by rw [hml]; rfl) (argsL := [(.int lv), (.int (1 : Int32))]) (rest := [(.ref x)]) (lenOf own_pd3 rfl) rfl (by show 2 * 0 + _ ≤ _; exact Nat.le_of_eq rfl) (hb hby own_d_prog_3_method_4_14) (fun _ _ => ⟨rfl, hh3, (by decide : 0 + 0 ≤ _), (by decide : 0 + 0 ≤ _)⟩)
  dsimp only [Pt.U, Pt.locs, Pt.cells, Pt.slots] at X4 l4 y4 z4 st4 hQ4
  subst l4 y4 z4
  obtain ⟨rfl, N4q, hh4⟩ := hQ4
  have N4 := Fr.app N3 N4q
  refine own_go (S' := (T4.setTop (mkF m 17 #[.val (.ref t), .val (.int lv)] [(.int (1 : Int32)), (.ref x)]))) st4 ?_
  refine own_go (S' := (T4.setTop (mkF m 18 #[.val (.ref t), .val (.int lv)] [(.int (1 : Int32)), (.int (1 : Int32)), (.ref x)]))) (fun _ k => XS.iconst X4.here hx rfl (hb hby own_d_prog_3_method_4_17) k) ?_
  refine own_go (S' := (T4.setTop (mkF m 19 #[.val (.ref t), .val (.int lv)] [(.int (0 : Int32)), (.ref x)]))) (fun _ k => XS.isub X4.here hx rfl (hb hby own_d_prog_3_method_4_18) rfl k) ?_
  obtain ⟨cq5, kq5, q5a, q5b, q5c⟩ := isOf hZ hh4 (E_x)
  obtain ⟨_, _, ⟨T5, L5, k5, n5⟩, -, X5, ⟨Lc5, hQ5, l5, y5, z5⟩, st5⟩ := X4.interfaceBack hx (xi := (⟨"java/util/List", "get", "(I)Ljava/lang/Object;"⟩ : MethodName)) (y := (⟨"java/util/ImmutableCollections$List12", "get", "(I)Ljava/lang/Object;"⟩ : MethodName)) hown (mvT hZ (hw _ (List.mem_of_getElem? (i := 194) rfl))) (mvT hZ (hw _ (List.mem_of_getElem? (i := 195) rfl))) (mvT hZ (hw _ (List.mem_of_getElem? (i := 196) rfl))) (mvT hZ (hw _ (List.mem_of_getElem? (i := 197) rfl))) (mvT hZ (hw _ (List.mem_of_getElem? (i := 198) rfl))) (mvT hZ (hw _ (List.mem_of_getElem? (i := 199) rfl))) (mvT hZ (hw _ (List.mem_of_getElem? (i := 200) rfl))) (mvT hZ (hw _ (List.mem_of_getElem? (i := 191) rfl))) (by decide) (backOf (W := 0) (own_gt11 l Z a0 hw x d1 em h0 n0 Z0 E_x F0 F1 SE) hZ (hw _ (List.mem_of_getElem? (i := 201) rfl)) (hw _ (List.mem_of_getElem? (i := 149) rfl)) (by decide) (by decide)) q5a q5b q5c (g := (mkF m 19 #[.val (.ref t), .val (.int lv)] [(.int (0 : Int32)), (.ref x)])) rfl (by rw [hml]; rfl) (Steps.refl _) (argsL := [(.int (0 : Int32))]) (rest := []) (lenOf own_pd17 rfl) rfl (by show 2 * 0 + _ ≤ _; exact Nat.le_of_eq rfl) (hb hby own_d_prog_3_method_4_19) (fun _ _ => ⟨rfl, hh4, (by decide : 0 + 0 ≤ _), (by decide : 0 + 0 ≤ _)⟩)
  dsimp only [Pt.U, Pt.locs, Pt.cells, Pt.slots] at X5 l5 y5 z5 st5 hQ5
  subst l5 y5 z5
  obtain ⟨rfl, N5q, hh5⟩ := hQ5
  have N5 := Fr.app N4 N5q
  refine own_via (S' := (T5.setTop (mkF m 24 #[.val (.ref t), .val (.int lv)] [(.ref d1)]))) st5 ?_
  obtain ⟨T6, X6, e6, st6⟩ := castY X5 hx hZ hown (hw _ (List.mem_of_getElem? (i := 202) rfl)) hh5 (Ins.self Ed) (g := (mkF m 24 #[.val (.ref t), .val (.int lv)] [(.ref d1)])) rfl rfl (hb hby own_d_prog_3_method_4_24)
  refine own_go (S' := (T6.setTop (mkF m 27 #[.val (.ref t), .val (.int lv)] [(.ref d1)]))) st6 ?_
  refine own_retA X6 hx hlk hret rfl rfl (hb hby own_d_prog_3_method_4_27) ?_ (by decide) (by decide)
  rw [e6]
  exact ⟨rfl, N5, rfl⟩
set_option maxRecDepth 65536 in
set_option maxHeartbeats 40000000 in
theorem own_sz2 (l : Launch) (Z : State) (a0 : Array Value) (hw : ∀ d ∈ tables_1, d.before a0 Z = true) (x : Addr) (d1 d2 em : Addr) (h0 : Heap) (n0 : Nat) (Z0 : n0 ≤ h0.size) (E_x : Exa Z h0 x "java/util/ImmutableCollections$List12") (F0 : Fld Z h0 x "java/util/ImmutableCollections$List12" "e0" "Ljava/lang/Object;" (.ref d1)) (F1 : Fld Z h0 x "java/util/ImmutableCollections$List12" "e1" "Ljava/lang/Object;" (.ref d2)) (SE : Sta Z h0 "java/util/ImmutableCollections" "EMPTY" "Ljava/lang/Object;" (.ref em)) (nm : ¬ d2 = em) :
    own_C l Z (⟨"java/util/ImmutableCollections$List12", "size", "()I"⟩ : MethodName) jdk_44_method_3_code 1 (some .int) [] ({ frames := 0, cells := 0, slots := 0, locals := 0 } : Room) #[(.ref x)] h0 (own_Qz (2 : Int32) h0 n0) := by
  refine MetFree.of_bodySF (plainFor_of_name own_pn7) hisR ?_
  intro p e s m args below meth c s₁ Bd hml0 hP hK
  obtain ⟨rfl, hZ, hh⟩ := hP
  have hx := Bd.exec
  have hby := Bd.bytes
  have hlk := Bd.notSynchronized
  have hret := Bd.returns
  have hml : c.maxLocals = 1 := hml0
  have hown : s.vm.findClass "java/util/ImmutableCollections$List12" = some m.cls := findClass_of_methodNamed Bd.named
  have hnm := (name_of_methodNamed Bd.named Bd.method).1
  have X0 : Stand p l e ({ frames := 0, cells := 0, slots := 0, locals := 0 } : Room) s m #[(.ref x)] below meth c s₁ [] 0 0 := Stand.of_body Bd
  have e0 : s₁.heap = h0 := by rw [← hh, Bd.state]; rfl
  have N0 := Fr.nil n0
  refine own_open (own_ef4 m x) ?_
  refine own_go (S' := (s₁.setTop (mkF m 1 #[.val (.ref x)] [(.ref x)]))) (fun _ k => XS.aloadN X0.here hx rfl (hb hby own_d_jdk_44_method_3_0) rfl rfl  k) ?_
  obtain ⟨T1, X1, e1, st1⟩ := getF X0 hx hZ hown (host := "") (Or.inl (hw _ (List.mem_of_getElem? (i := 175) rfl))) Via.refl e0 F1 (g := (mkF m 1 #[.val (.ref x)] [(.ref x)])) rfl rfl (hb hby own_d_jdk_44_method_3_1)
  refine own_go (S' := (T1.setTop (mkF m 4 #[.val (.ref x)] [(.ref d2)]))) st1 ?_
  obtain ⟨T2, X2, e2, st2⟩ := getS2 X1 hx hZ hown (Or.inr (hw _ (List.mem_of_getElem? (i := 174) rfl))) Via.refl e1 SE (g := (mkF m 4 #[.val (.ref x)] [(.ref d2)])) rfl (hb hby own_d_jdk_44_method_3_4)
  refine own_go (S' := (T2.setTop (mkF m 7 #[.val (.ref x)] [(.ref em), (.ref d2)]))) st2 ?_
  refine own_go (S' := (T2.setTop (mkF m 10 #[.val (.ref x)] []))) (fun _ k => Jvm.RoadKit.acmp (g := (mkF m 7 #[.val (.ref x)] [(.ref em), (.ref d2)])) X2 hx rfl rfl rfl (pc0 := 7) (pc' := 10) (same := false) rfl (hb hby own_d_jdk_44_method_3_7) rfl (decide_eq_false (fun q => nm (Value.ref.inj q))) (by decide) (by decide) k) ?_
  refine own_go (S' := (T2.setTop (mkF m 11 #[.val (.ref x)] [(.int (2 : Int32))]))) (fun _ k => XS.iconst X2.here hx rfl (hb hby own_d_jdk_44_method_3_10) k) ?_
  refine own_go (S' := (T2.setTop (mkF m 15 #[.val (.ref x)] [(.int (2 : Int32))]))) (fun _ k => XS.goto X2.here hx rfl (pc0 := 11) (pc' := 15) rfl (hb hby own_d_jdk_44_method_3_11) (by decide) (by decide) k) ?_
  refine own_retI X2 hx hlk hret (hb hby own_d_jdk_44_method_3_15) ?_ (by decide) (by decide)
  rw [e2]
  exact ⟨rfl, N0, rfl⟩
set_option maxRecDepth 65536 in
set_option maxHeartbeats 40000000 in
theorem own_gt21 (l : Launch) (Z : State) (a0 : Array Value) (hw : ∀ d ∈ tables_1, d.before a0 Z = true) (x : Addr) (d1 d2 em : Addr) (h0 : Heap) (n0 : Nat) (Z0 : n0 ≤ h0.size) (E_x : Exa Z h0 x "java/util/ImmutableCollections$List12") (F0 : Fld Z h0 x "java/util/ImmutableCollections$List12" "e0" "Ljava/lang/Object;" (.ref d1)) (F1 : Fld Z h0 x "java/util/ImmutableCollections$List12" "e1" "Ljava/lang/Object;" (.ref d2)) (SE : Sta Z h0 "java/util/ImmutableCollections" "EMPTY" "Ljava/lang/Object;" (.ref em)) (nm : ¬ d2 = em) :
    own_C l Z (⟨"java/util/ImmutableCollections$List12", "get", "(I)Ljava/lang/Object;"⟩ : MethodName) jdk_44_method_5_code 2 (some (.object "java/lang/Object")) [] ({ frames := 0, cells := 0, slots := 0, locals := 0 } : Room) #[(.ref x), (.int (0 : Int32))] h0 (own_Qr d1 h0 n0) := by
  refine MetFree.of_bodySF (plainFor_of_name own_pn7) hisR ?_
  intro p e s m args below meth c s₁ Bd hml0 hP hK
  obtain ⟨rfl, hZ, hh⟩ := hP
  have hx := Bd.exec
  have hby := Bd.bytes
  have hlk := Bd.notSynchronized
  have hret := Bd.returns
  have hml : c.maxLocals = 2 := hml0
  have hown : s.vm.findClass "java/util/ImmutableCollections$List12" = some m.cls := findClass_of_methodNamed Bd.named
  have hnm := (name_of_methodNamed Bd.named Bd.method).1
  have X0 : Stand p l e ({ frames := 0, cells := 0, slots := 0, locals := 0 } : Room) s m #[(.ref x), (.int (0 : Int32))] below meth c s₁ [] 0 0 := Stand.of_body Bd
  have e0 : s₁.heap = h0 := by rw [← hh, Bd.state]; rfl
  have N0 := Fr.nil n0
  refine own_open (own_ef11 m x ((0 : Int32))) ?_
  refine own_go (S' := (s₁.setTop (mkF m 1 #[.val (.ref x), .val (.int (0 : Int32))] [(.int (0 : Int32))]))) (fun _ k => XS.iloadN X0.here hx rfl (hb hby own_d_jdk_44_method_5_0) rfl  k) ?_
  refine own_go (S' := (s₁.setTop (mkF m 4 #[.val (.ref x), .val (.int (0 : Int32))] []))) (fun _ k => XS.ifNo X0.here hx rfl (hb hby own_d_jdk_44_method_5_1) rfl ((if0 _ _).trans (teq rfl).2) k) ?_
  refine own_go (S' := (s₁.setTop (mkF m 5 #[.val (.ref x), .val (.int (0 : Int32))] [(.ref x)]))) (fun _ k => XS.aloadN X0.here hx rfl (hb hby own_d_jdk_44_method_5_4) rfl rfl  k) ?_
  obtain ⟨T1, X1, e1, st1⟩ := getF X0 hx hZ hown (host := "") (Or.inl (hw _ (List.mem_of_getElem? (i := 172) rfl))) Via.refl e0 F0 (g := (mkF m 5 #[.val (.ref x), .val (.int (0 : Int32))] [(.ref x)])) rfl rfl (hb hby own_d_jdk_44_method_5_5)
  refine own_go (S' := (T1.setTop (mkF m 8 #[.val (.ref x), .val (.int (0 : Int32))] [(.ref d1)]))) st1 ?_
  refine own_retA X1 hx hlk hret rfl rfl (hb hby own_d_jdk_44_method_5_8) ?_ (by decide) (by decide)
  rw [e1]
  exact ⟨rfl, N0, rfl⟩
set_option maxRecDepth 65536 in
set_option maxHeartbeats 40000000 in
theorem own_de21 (l : Launch) (Z : State) (a0 : Array Value) (hw : ∀ d ∈ tables_1, d.before a0 Z = true) (t : Addr) (lv : Int32) (x : Addr) (d1 d2 em : Addr) (h0 : Heap) (n0 : Nat) (Z0 : n0 ≤ h0.size) (Ft : Fld Z h0 t "com/example/topicd/topicd/broker/DelayLevels" "delays" "Ljava/util/List;" (.ref x)) (Ed : Exa Z h0 d1 "java/time/Duration") (E_x : Exa Z h0 x "java/util/ImmutableCollections$List12") (F0 : Fld Z h0 x "java/util/ImmutableCollections$List12" "e0" "Ljava/lang/Object;" (.ref d1)) (F1 : Fld Z h0 x "java/util/ImmutableCollections$List12" "e1" "Ljava/lang/Object;" (.ref d2)) (SE : Sta Z h0 "java/util/ImmutableCollections" "EMPTY" "Ljava/lang/Object;" (.ref em)) (nm : ¬ d2 = em) (hz : (¬ (2 : Int32) < lv ∧ lv = (1 : Int32)) ∨ ((2 : Int32) < lv ∧ (2 : Int32) = (1 : Int32))) :
    own_C l Z (⟨"com/example/topicd/topicd/broker/DelayLevels", "delay", "(I)Ljava/time/Duration;"⟩ : MethodName) prog_3_method_4_code 2 (some (.object "java/time/Duration")) [] ({ frames := 1, cells := 0, slots := 0, locals := 14 } : Room) #[(.ref t), (.int lv)] h0 (own_Qr d1 h0 n0) := by
  refine MetFree.of_bodySF (plainFor_of_name own_pn12) hisR ?_
  intro p e s m args below meth c s₁ Bd hml0 hP hK
  obtain ⟨rfl, hZ, hh⟩ := hP
  have hx := Bd.exec
  have hby := Bd.bytes
  have hlk := Bd.notSynchronized
  have hret := Bd.returns
  have hml : c.maxLocals = 2 := hml0
  have hown : s.vm.findClass "com/example/topicd/topicd/broker/DelayLevels" = some m.cls := findClass_of_methodNamed Bd.named
  have hnm := (name_of_methodNamed Bd.named Bd.method).1
  have X0 : Stand p l e ({ frames := 1, cells := 0, slots := 0, locals := 14 } : Room) s m #[(.ref t), (.int lv)] below meth c s₁ [] 0 0 := Stand.of_body Bd
  have e0 : s₁.heap = h0 := by rw [← hh, Bd.state]; rfl
  have N0 := Fr.nil n0
  refine own_open (own_ef11 m t lv) ?_
  refine own_go (S' := (s₁.setTop (mkF m 1 #[.val (.ref t), .val (.int lv)] [(.ref t)]))) (fun _ k => XS.aloadN X0.here hx rfl (hb hby own_d_prog_3_method_4_0) rfl rfl  k) ?_
  obtain ⟨T1, X1, e1, st1⟩ := getF X0 hx hZ hown (host := "") (Or.inl (hw _ (List.mem_of_getElem? (i := 177) rfl))) Via.refl e0 Ft (g := (mkF m 1 #[.val (.ref t), .val (.int lv)] [(.ref t)])) rfl rfl (hb hby own_d_prog_3_method_4_1)
  refine own_go (S' := (T1.setTop (mkF m 4 #[.val (.ref t), .val (.int lv)] [(.ref x)]))) st1 ?_
  refine own_go (S' := (T1.setTop (mkF m 5 #[.val (.ref t), .val (.int lv)] [(.int lv), (.ref x)]))) (fun _ k => XS.iloadN X1.here hx rfl (hb hby own_d_prog_3_method_4_4) rfl  k) ?_
  refine own_go (S' := (T1.setTop (mkF m 6 #[.val (.ref t), .val (.int lv)] [(.ref t), (.int lv), (.ref x)]))) (fun _ k => XS.aloadN X1.here hx rfl (hb hby own_d_prog_3_method_4_5) rfl rfl  k) ?_
  obtain ⟨T2, X2, e2, st2⟩ := getF X1 hx hZ hown (host := "") (Or.inl (hw _ (List.mem_of_getElem? (i := 177) rfl))) Via.refl e1 Ft (g := (mkF m 6 #[.val (.ref t), .val (.int lv)] [(.ref t), (.int lv), (.ref x)])) rfl rfl (hb hby own_d_prog_3_method_4_6)
  refine own_go (S' := (T2.setTop (mkF m 9 #[.val (.ref t), .val (.int lv)] [(.ref x), (.int lv), (.ref x)]))) st2 ?_
  obtain ⟨cq3, kq3, q3a, q3b, q3c⟩ := isOf hZ e2 (E_x)
  obtain ⟨_, _, ⟨T3, L3, k3, n3⟩, -, X3, ⟨Lc3, hQ3, l3, y3, z3⟩, st3⟩ := X2.interfaceBack hx (xi := (⟨"java/util/List", "size", "()I"⟩ : MethodName)) (y := (⟨"java/util/ImmutableCollections$List12", "size", "()I"⟩ : MethodName)) hown (mvT hZ (hw _ (List.mem_of_getElem? (i := 184) rfl))) (mvT hZ (hw _ (List.mem_of_getElem? (i := 185) rfl))) (mvT hZ (hw _ (List.mem_of_getElem? (i := 186) rfl))) (mvT hZ (hw _ (List.mem_of_getElem? (i := 187) rfl))) (mvT hZ (hw _ (List.mem_of_getElem? (i := 188) rfl))) (mvT hZ (hw _ (List.mem_of_getElem? (i := 189) rfl))) (mvT hZ (hw _ (List.mem_of_getElem? (i := 190) rfl))) (mvT hZ (hw _ (List.mem_of_getElem? (i := 191) rfl))) (by decide) (backOf (W := 2) (own_sz2 l Z a0 hw x d1 d2 em h0 n0 Z0 E_x F0 F1 SE nm) hZ (hw _ (List.mem_of_getElem? (i := 192) rfl)) (hw _ (List.mem_of_getElem? (i := 149) rfl)) (by decide) (by decide)) q3a q3b q3c (g := (mkF m 9 #[.val (.ref t), .val (.int lv)] [(.ref x), (.int lv), (.ref x)])) rfl (by rw [hml]; rfl) (Steps.refl _) (argsL := []) (rest := [(.int lv), (.ref x)]) (lenOf own_pd16 rfl) rfl (by show 2 * 0 + _ ≤ _; exact Nat.le_of_eq rfl) (hb hby own_d_prog_3_method_4_9) (fun _ _ => ⟨rfl, e2, (by decide : 0 + 0 ≤ _), (by decide : 0 + 0 ≤ _)⟩)
  dsimp only [Pt.U, Pt.locs, Pt.cells, Pt.slots] at X3 l3 y3 z3 st3 hQ3
  subst l3 y3 z3
  obtain ⟨rfl, N3q, hh3⟩ := hQ3
  have N3 := Fr.app N0 N3q
  refine own_via (S' := (T3.setTop (mkF m 14 #[.val (.ref t), .val (.int lv)] [(.int (2 : Int32)), (.int lv), (.ref x)]))) st3 ?_
  obtain ⟨_, _, ⟨T4, L4, k4, n4⟩, -, X4, ⟨Lc4, hQ4, l4, y4, z4⟩, st4⟩ := Jvm.LawKit.callS X3 hx (y := (⟨"java/lang/Math", "min", "(II)I"⟩ : MethodName)) hown (mvT hZ (hw _ (List.mem_of_getElem? (i := 193) rfl))) (mvT hZ (hw _ (List.mem_of_getElem? (i := 138) rfl))) (mvT hZ (hw _ (List.mem_of_getElem? (i := 3) rfl))) (mvT hZ (hw _ (List.mem_of_getElem? (i := 139) rfl))) (by decide) (backOf (W := 1) (own_min l Z a0 hw lv (2 : Int32) (1 : Int32) h0 n0 Z0 hz) hZ (hw _ (List.mem_of_getElem? (i := 139) rfl)) (hw _ (List.mem_of_getElem? (i := 3) rfl)) (by decide) (by decide)) (g := (mkF m 14 #[.val (.ref t), .val (.int lv)] [(.int (2 : Int32)), (.int lv), (.ref x)])) rfl (by rw [hml]; rfl) (argsL := [(.int lv), (.int (2 : Int32))]) (rest := [(.ref x)]) (lenOf own_pd3 rfl) rfl (by show 2 * 0 + _ ≤ _; exact Nat.le_of_eq rfl) (hb hby own_d_prog_3_method_4_14) (fun _ _ => ⟨rfl, hh3, (by decide : 0 + 0 ≤ _), (by decide : 0 + 0 ≤ _)⟩)
  dsimp only [Pt.U, Pt.locs, Pt.cells, Pt.slots] at X4 l4 y4 z4 st4 hQ4
  subst l4 y4 z4
  obtain ⟨rfl, N4q, hh4⟩ := hQ4
  have N4 := Fr.app N3 N4q
  refine own_go (S' := (T4.setTop (mkF m 17 #[.val (.ref t), .val (.int lv)] [(.int (1 : Int32)), (.ref x)]))) st4 ?_
  refine own_go (S' := (T4.setTop (mkF m 18 #[.val (.ref t), .val (.int lv)] [(.int (1 : Int32)), (.int (1 : Int32)), (.ref x)]))) (fun _ k => XS.iconst X4.here hx rfl (hb hby own_d_prog_3_method_4_17) k) ?_
  refine own_go (S' := (T4.setTop (mkF m 19 #[.val (.ref t), .val (.int lv)] [(.int (0 : Int32)), (.ref x)]))) (fun _ k => XS.isub X4.here hx rfl (hb hby own_d_prog_3_method_4_18) rfl k) ?_
  obtain ⟨cq5, kq5, q5a, q5b, q5c⟩ := isOf hZ hh4 (E_x)
  obtain ⟨_, _, ⟨T5, L5, k5, n5⟩, -, X5, ⟨Lc5, hQ5, l5, y5, z5⟩, st5⟩ := X4.interfaceBack hx (xi := (⟨"java/util/List", "get", "(I)Ljava/lang/Object;"⟩ : MethodName)) (y := (⟨"java/util/ImmutableCollections$List12", "get", "(I)Ljava/lang/Object;"⟩ : MethodName)) hown (mvT hZ (hw _ (List.mem_of_getElem? (i := 194) rfl))) (mvT hZ (hw _ (List.mem_of_getElem? (i := 195) rfl))) (mvT hZ (hw _ (List.mem_of_getElem? (i := 196) rfl))) (mvT hZ (hw _ (List.mem_of_getElem? (i := 197) rfl))) (mvT hZ (hw _ (List.mem_of_getElem? (i := 198) rfl))) (mvT hZ (hw _ (List.mem_of_getElem? (i := 199) rfl))) (mvT hZ (hw _ (List.mem_of_getElem? (i := 200) rfl))) (mvT hZ (hw _ (List.mem_of_getElem? (i := 191) rfl))) (by decide) (backOf (W := 0) (own_gt21 l Z a0 hw x d1 d2 em h0 n0 Z0 E_x F0 F1 SE nm) hZ (hw _ (List.mem_of_getElem? (i := 201) rfl)) (hw _ (List.mem_of_getElem? (i := 149) rfl)) (by decide) (by decide)) q5a q5b q5c (g := (mkF m 19 #[.val (.ref t), .val (.int lv)] [(.int (0 : Int32)), (.ref x)])) rfl (by rw [hml]; rfl) (Steps.refl _) (argsL := [(.int (0 : Int32))]) (rest := []) (lenOf own_pd17 rfl) rfl (by show 2 * 0 + _ ≤ _; exact Nat.le_of_eq rfl) (hb hby own_d_prog_3_method_4_19) (fun _ _ => ⟨rfl, hh4, (by decide : 0 + 0 ≤ _), (by decide : 0 + 0 ≤ _)⟩)
  dsimp only [Pt.U, Pt.locs, Pt.cells, Pt.slots] at X5 l5 y5 z5 st5 hQ5
  subst l5 y5 z5
  obtain ⟨rfl, N5q, hh5⟩ := hQ5
  have N5 := Fr.app N4 N5q
  refine own_via (S' := (T5.setTop (mkF m 24 #[.val (.ref t), .val (.int lv)] [(.ref d1)]))) st5 ?_
  obtain ⟨T6, X6, e6, st6⟩ := castY X5 hx hZ hown (hw _ (List.mem_of_getElem? (i := 202) rfl)) hh5 (Ins.self Ed) (g := (mkF m 24 #[.val (.ref t), .val (.int lv)] [(.ref d1)])) rfl rfl (hb hby own_d_prog_3_method_4_24)
  refine own_go (S' := (T6.setTop (mkF m 27 #[.val (.ref t), .val (.int lv)] [(.ref d1)]))) st6 ?_
  refine own_retA X6 hx hlk hret rfl rfl (hb hby own_d_prog_3_method_4_27) ?_ (by decide) (by decide)
  rw [e6]
  exact ⟨rfl, N5, rfl⟩
set_option maxRecDepth 65536 in
set_option maxHeartbeats 40000000 in
theorem own_gt22 (l : Launch) (Z : State) (a0 : Array Value) (hw : ∀ d ∈ tables_1, d.before a0 Z = true) (x : Addr) (d1 d2 em : Addr) (h0 : Heap) (n0 : Nat) (Z0 : n0 ≤ h0.size) (E_x : Exa Z h0 x "java/util/ImmutableCollections$List12") (F0 : Fld Z h0 x "java/util/ImmutableCollections$List12" "e0" "Ljava/lang/Object;" (.ref d1)) (F1 : Fld Z h0 x "java/util/ImmutableCollections$List12" "e1" "Ljava/lang/Object;" (.ref d2)) (SE : Sta Z h0 "java/util/ImmutableCollections" "EMPTY" "Ljava/lang/Object;" (.ref em)) (nm : ¬ d2 = em) :
    own_C l Z (⟨"java/util/ImmutableCollections$List12", "get", "(I)Ljava/lang/Object;"⟩ : MethodName) jdk_44_method_5_code 2 (some (.object "java/lang/Object")) [] ({ frames := 0, cells := 0, slots := 0, locals := 0 } : Room) #[(.ref x), (.int (1 : Int32))] h0 (own_Qr d2 h0 n0) := by
  refine MetFree.of_bodySF (plainFor_of_name own_pn7) hisR ?_
  intro p e s m args below meth c s₁ Bd hml0 hP hK
  obtain ⟨rfl, hZ, hh⟩ := hP
  have hx := Bd.exec
  have hby := Bd.bytes
  have hlk := Bd.notSynchronized
  have hret := Bd.returns
  have hml : c.maxLocals = 2 := hml0
  have hown : s.vm.findClass "java/util/ImmutableCollections$List12" = some m.cls := findClass_of_methodNamed Bd.named
  have hnm := (name_of_methodNamed Bd.named Bd.method).1
  have X0 : Stand p l e ({ frames := 0, cells := 0, slots := 0, locals := 0 } : Room) s m #[(.ref x), (.int (1 : Int32))] below meth c s₁ [] 0 0 := Stand.of_body Bd
  have e0 : s₁.heap = h0 := by rw [← hh, Bd.state]; rfl
  have N0 := Fr.nil n0
  refine own_open (own_ef11 m x ((1 : Int32))) ?_
  refine own_go (S' := (s₁.setTop (mkF m 1 #[.val (.ref x), .val (.int (1 : Int32))] [(.int (1 : Int32))]))) (fun _ k => XS.iloadN X0.here hx rfl (hb hby own_d_jdk_44_method_5_0) rfl  k) ?_
  refine own_go (S' := (s₁.setTop (mkF m 9 #[.val (.ref x), .val (.int (1 : Int32))] []))) (fun _ k => XS.ifYes X0.here hx rfl (pc0 := 1) (pc' := 9) rfl (hb hby own_d_jdk_44_method_5_1) rfl ((if0 _ _).trans (feq (by decide)).2) (by decide) (by decide) k) ?_
  refine own_go (S' := (s₁.setTop (mkF m 10 #[.val (.ref x), .val (.int (1 : Int32))] [(.int (1 : Int32))]))) (fun _ k => XS.iloadN X0.here hx rfl (hb hby own_d_jdk_44_method_5_9) rfl  k) ?_
  refine own_go (S' := (s₁.setTop (mkF m 11 #[.val (.ref x), .val (.int (1 : Int32))] [(.int (1 : Int32)), (.int (1 : Int32))]))) (fun _ k => XS.iconst X0.here hx rfl (hb hby own_d_jdk_44_method_5_10) k) ?_
  refine own_go (S' := (s₁.setTop (mkF m 14 #[.val (.ref x), .val (.int (1 : Int32))] []))) (fun _ k => XS.icmpNo X0.here hx rfl (hb hby own_d_jdk_44_method_5_11) rfl (teq rfl).2 k) ?_
  refine own_go (S' := (s₁.setTop (mkF m 15 #[.val (.ref x), .val (.int (1 : Int32))] [(.ref x)]))) (fun _ k => XS.aloadN X0.here hx rfl (hb hby own_d_jdk_44_method_5_14) rfl rfl  k) ?_
  obtain ⟨T1, X1, e1, st1⟩ := getF X0 hx hZ hown (host := "") (Or.inl (hw _ (List.mem_of_getElem? (i := 175) rfl))) Via.refl e0 F1 (g := (mkF m 15 #[.val (.ref x), .val (.int (1 : Int32))] [(.ref x)])) rfl rfl (hb hby own_d_jdk_44_method_5_15)
  refine own_go (S' := (T1.setTop (mkF m 18 #[.val (.ref x), .val (.int (1 : Int32))] [(.ref d2)]))) st1 ?_
  obtain ⟨T2, X2, e2, st2⟩ := getS2 X1 hx hZ hown (Or.inr (hw _ (List.mem_of_getElem? (i := 174) rfl))) Via.refl e1 SE (g := (mkF m 18 #[.val (.ref x), .val (.int (1 : Int32))] [(.ref d2)])) rfl (hb hby own_d_jdk_44_method_5_18)
  refine own_go (S' := (T2.setTop (mkF m 21 #[.val (.ref x), .val (.int (1 : Int32))] [(.ref em), (.ref d2)]))) st2 ?_
  refine own_go (S' := (T2.setTop (mkF m 24 #[.val (.ref x), .val (.int (1 : Int32))] []))) (fun _ k => Jvm.RoadKit.acmp (g := (mkF m 21 #[.val (.ref x), .val (.int (1 : Int32))] [(.ref em), (.ref d2)])) X2 hx rfl rfl rfl (pc0 := 21) (pc' := 24) (same := false) rfl (hb hby own_d_jdk_44_method_5_21) rfl (decide_eq_false (fun q => nm (Value.ref.inj q))) (by decide) (by decide) k) ?_
  refine own_go (S' := (T2.setTop (mkF m 25 #[.val (.ref x), .val (.int (1 : Int32))] [(.ref x)]))) (fun _ k => XS.aloadN X2.here hx rfl (hb hby own_d_jdk_44_method_5_24) rfl rfl  k) ?_
  obtain ⟨T3, X3, e3, st3⟩ := getF X2 hx hZ hown (host := "") (Or.inl (hw _ (List.mem_of_getElem? (i := 175) rfl))) Via.refl e2 F1 (g := (mkF m 25 #[.val (.ref x), .val (.int (1 : Int32))] [(.ref x)])) rfl rfl (hb hby own_d_jdk_44_method_5_25)
  refine own_go (S' := (T3.setTop (mkF m 28 #[.val (.ref x), .val (.int (1 : Int32))] [(.ref d2)]))) st3 ?_
  refine own_retA X3 hx hlk hret rfl rfl (hb hby own_d_jdk_44_method_5_28) ?_ (by decide) (by decide)
  rw [e3]
  exact ⟨rfl, N0, rfl⟩
set_option maxRecDepth 65536 in
set_option maxHeartbeats 40000000 in
theorem own_de22 (l : Launch) (Z : State) (a0 : Array Value) (hw : ∀ d ∈ tables_1, d.before a0 Z = true) (t : Addr) (lv : Int32) (x : Addr) (d1 d2 em : Addr) (h0 : Heap) (n0 : Nat) (Z0 : n0 ≤ h0.size) (Ft : Fld Z h0 t "com/example/topicd/topicd/broker/DelayLevels" "delays" "Ljava/util/List;" (.ref x)) (Ed : Exa Z h0 d2 "java/time/Duration") (E_x : Exa Z h0 x "java/util/ImmutableCollections$List12") (F0 : Fld Z h0 x "java/util/ImmutableCollections$List12" "e0" "Ljava/lang/Object;" (.ref d1)) (F1 : Fld Z h0 x "java/util/ImmutableCollections$List12" "e1" "Ljava/lang/Object;" (.ref d2)) (SE : Sta Z h0 "java/util/ImmutableCollections" "EMPTY" "Ljava/lang/Object;" (.ref em)) (nm : ¬ d2 = em) (hz : (¬ (2 : Int32) < lv ∧ lv = (2 : Int32)) ∨ ((2 : Int32) < lv ∧ (2 : Int32) = (2 : Int32))) :
    own_C l Z (⟨"com/example/topicd/topicd/broker/DelayLevels", "delay", "(I)Ljava/time/Duration;"⟩ : MethodName) prog_3_method_4_code 2 (some (.object "java/time/Duration")) [] ({ frames := 1, cells := 0, slots := 0, locals := 14 } : Room) #[(.ref t), (.int lv)] h0 (own_Qr d2 h0 n0) := by
  refine MetFree.of_bodySF (plainFor_of_name own_pn12) hisR ?_
  intro p e s m args below meth c s₁ Bd hml0 hP hK
  obtain ⟨rfl, hZ, hh⟩ := hP
  have hx := Bd.exec
  have hby := Bd.bytes
  have hlk := Bd.notSynchronized
  have hret := Bd.returns
  have hml : c.maxLocals = 2 := hml0
  have hown : s.vm.findClass "com/example/topicd/topicd/broker/DelayLevels" = some m.cls := findClass_of_methodNamed Bd.named
  have hnm := (name_of_methodNamed Bd.named Bd.method).1
  have X0 : Stand p l e ({ frames := 1, cells := 0, slots := 0, locals := 14 } : Room) s m #[(.ref t), (.int lv)] below meth c s₁ [] 0 0 := Stand.of_body Bd
  have e0 : s₁.heap = h0 := by rw [← hh, Bd.state]; rfl
  have N0 := Fr.nil n0
  refine own_open (own_ef11 m t lv) ?_
  refine own_go (S' := (s₁.setTop (mkF m 1 #[.val (.ref t), .val (.int lv)] [(.ref t)]))) (fun _ k => XS.aloadN X0.here hx rfl (hb hby own_d_prog_3_method_4_0) rfl rfl  k) ?_
  obtain ⟨T1, X1, e1, st1⟩ := getF X0 hx hZ hown (host := "") (Or.inl (hw _ (List.mem_of_getElem? (i := 177) rfl))) Via.refl e0 Ft (g := (mkF m 1 #[.val (.ref t), .val (.int lv)] [(.ref t)])) rfl rfl (hb hby own_d_prog_3_method_4_1)
  refine own_go (S' := (T1.setTop (mkF m 4 #[.val (.ref t), .val (.int lv)] [(.ref x)]))) st1 ?_
  refine own_go (S' := (T1.setTop (mkF m 5 #[.val (.ref t), .val (.int lv)] [(.int lv), (.ref x)]))) (fun _ k => XS.iloadN X1.here hx rfl (hb hby own_d_prog_3_method_4_4) rfl  k) ?_
  refine own_go (S' := (T1.setTop (mkF m 6 #[.val (.ref t), .val (.int lv)] [(.ref t), (.int lv), (.ref x)]))) (fun _ k => XS.aloadN X1.here hx rfl (hb hby own_d_prog_3_method_4_5) rfl rfl  k) ?_
  obtain ⟨T2, X2, e2, st2⟩ := getF X1 hx hZ hown (host := "") (Or.inl (hw _ (List.mem_of_getElem? (i := 177) rfl))) Via.refl e1 Ft (g := (mkF m 6 #[.val (.ref t), .val (.int lv)] [(.ref t), (.int lv), (.ref x)])) rfl rfl (hb hby own_d_prog_3_method_4_6)
  refine own_go (S' := (T2.setTop (mkF m 9 #[.val (.ref t), .val (.int lv)] [(.ref x), (.int lv), (.ref x)]))) st2 ?_
  obtain ⟨cq3, kq3, q3a, q3b, q3c⟩ := isOf hZ e2 (E_x)
  obtain ⟨_, _, ⟨T3, L3, k3, n3⟩, -, X3, ⟨Lc3, hQ3, l3, y3, z3⟩, st3⟩ := X2.interfaceBack hx (xi := (⟨"java/util/List", "size", "()I"⟩ : MethodName)) (y := (⟨"java/util/ImmutableCollections$List12", "size", "()I"⟩ : MethodName)) hown (mvT hZ (hw _ (List.mem_of_getElem? (i := 184) rfl))) (mvT hZ (hw _ (List.mem_of_getElem? (i := 185) rfl))) (mvT hZ (hw _ (List.mem_of_getElem? (i := 186) rfl))) (mvT hZ (hw _ (List.mem_of_getElem? (i := 187) rfl))) (mvT hZ (hw _ (List.mem_of_getElem? (i := 188) rfl))) (mvT hZ (hw _ (List.mem_of_getElem? (i := 189) rfl))) (mvT hZ (hw _ (List.mem_of_getElem? (i := 190) rfl))) (mvT hZ (hw _ (List.mem_of_getElem? (i := 191) rfl))) (by decide) (backOf (W := 2) (own_sz2 l Z a0 hw x d1 d2 em h0 n0 Z0 E_x F0 F1 SE nm) hZ (hw _ (List.mem_of_getElem? (i := 192) rfl)) (hw _ (List.mem_of_getElem? (i := 149) rfl)) (by decide) (by decide)) q3a q3b q3c (g := (mkF m 9 #[.val (.ref t), .val (.int lv)] [(.ref x), (.int lv), (.ref x)])) rfl (by rw [hml]; rfl) (Steps.refl _) (argsL := []) (rest := [(.int lv), (.ref x)]) (lenOf own_pd16 rfl) rfl (by show 2 * 0 + _ ≤ _; exact Nat.le_of_eq rfl) (hb hby own_d_prog_3_method_4_9) (fun _ _ => ⟨rfl, e2, (by decide : 0 + 0 ≤ _), (by decide : 0 + 0 ≤ _)⟩)
  dsimp only [Pt.U, Pt.locs, Pt.cells, Pt.slots] at X3 l3 y3 z3 st3 hQ3
  subst l3 y3 z3
  obtain ⟨rfl, N3q, hh3⟩ := hQ3
  have N3 := Fr.app N0 N3q
  refine own_via (S' := (T3.setTop (mkF m 14 #[.val (.ref t), .val (.int lv)] [(.int (2 : Int32)), (.int lv), (.ref x)]))) st3 ?_
  obtain ⟨_, _, ⟨T4, L4, k4, n4⟩, -, X4, ⟨Lc4, hQ4, l4, y4, z4⟩, st4⟩ := Jvm.LawKit.callS X3 hx (y := (⟨"java/lang/Math", "min", "(II)I"⟩ : MethodName)) hown (mvT hZ (hw _ (List.mem_of_getElem? (i := 193) rfl))) (mvT hZ (hw _ (List.mem_of_getElem? (i := 138) rfl))) (mvT hZ (hw _ (List.mem_of_getElem? (i := 3) rfl))) (mvT hZ (hw _ (List.mem_of_getElem? (i := 139) rfl))) (by decide) (backOf (W := 1) (own_min l Z a0 hw lv (2 : Int32) (2 : Int32) h0 n0 Z0 hz) hZ (hw _ (List.mem_of_getElem? (i := 139) rfl)) (hw _ (List.mem_of_getElem? (i := 3) rfl)) (by decide) (by decide)) (g := (mkF m 14 #[.val (.ref t), .val (.int lv)] [(.int (2 : Int32)), (.int lv), (.ref x)])) rfl (by rw [hml]; rfl) (argsL := [(.int lv), (.int (2 : Int32))]) (rest := [(.ref x)]) (lenOf own_pd3 rfl) rfl (by show 2 * 0 + _ ≤ _; exact Nat.le_of_eq rfl) (hb hby own_d_prog_3_method_4_14) (fun _ _ => ⟨rfl, hh3, (by decide : 0 + 0 ≤ _), (by decide : 0 + 0 ≤ _)⟩)
  dsimp only [Pt.U, Pt.locs, Pt.cells, Pt.slots] at X4 l4 y4 z4 st4 hQ4
  subst l4 y4 z4
  obtain ⟨rfl, N4q, hh4⟩ := hQ4
  have N4 := Fr.app N3 N4q
  refine own_go (S' := (T4.setTop (mkF m 17 #[.val (.ref t), .val (.int lv)] [(.int (2 : Int32)), (.ref x)]))) st4 ?_
  refine own_go (S' := (T4.setTop (mkF m 18 #[.val (.ref t), .val (.int lv)] [(.int (1 : Int32)), (.int (2 : Int32)), (.ref x)]))) (fun _ k => XS.iconst X4.here hx rfl (hb hby own_d_prog_3_method_4_17) k) ?_
  refine own_go (S' := (T4.setTop (mkF m 19 #[.val (.ref t), .val (.int lv)] [(.int (1 : Int32)), (.ref x)]))) (fun _ k => XS.isub X4.here hx rfl (hb hby own_d_prog_3_method_4_18) rfl k) ?_
  obtain ⟨cq5, kq5, q5a, q5b, q5c⟩ := isOf hZ hh4 (E_x)
  obtain ⟨_, _, ⟨T5, L5, k5, n5⟩, -, X5, ⟨Lc5, hQ5, l5, y5, z5⟩, st5⟩ := X4.interfaceBack hx (xi := (⟨"java/util/List", "get", "(I)Ljava/lang/Object;"⟩ : MethodName)) (y := (⟨"java/util/ImmutableCollections$List12", "get", "(I)Ljava/lang/Object;"⟩ : MethodName)) hown (mvT hZ (hw _ (List.mem_of_getElem? (i := 194) rfl))) (mvT hZ (hw _ (List.mem_of_getElem? (i := 195) rfl))) (mvT hZ (hw _ (List.mem_of_getElem? (i := 196) rfl))) (mvT hZ (hw _ (List.mem_of_getElem? (i := 197) rfl))) (mvT hZ (hw _ (List.mem_of_getElem? (i := 198) rfl))) (mvT hZ (hw _ (List.mem_of_getElem? (i := 199) rfl))) (mvT hZ (hw _ (List.mem_of_getElem? (i := 200) rfl))) (mvT hZ (hw _ (List.mem_of_getElem? (i := 191) rfl))) (by decide) (backOf (W := 0) (own_gt22 l Z a0 hw x d1 d2 em h0 n0 Z0 E_x F0 F1 SE nm) hZ (hw _ (List.mem_of_getElem? (i := 201) rfl)) (hw _ (List.mem_of_getElem? (i := 149) rfl)) (by decide) (by decide)) q5a q5b q5c (g := (mkF m 19 #[.val (.ref t), .val (.int lv)] [(.int (1 : Int32)), (.ref x)])) rfl (by rw [hml]; rfl) (Steps.refl _) (argsL := [(.int (1 : Int32))]) (rest := []) (lenOf own_pd17 rfl) rfl (by show 2 * 0 + _ ≤ _; exact Nat.le_of_eq rfl) (hb hby own_d_prog_3_method_4_19) (fun _ _ => ⟨rfl, hh4, (by decide : 0 + 0 ≤ _), (by decide : 0 + 0 ≤ _)⟩)
  dsimp only [Pt.U, Pt.locs, Pt.cells, Pt.slots] at X5 l5 y5 z5 st5 hQ5
  subst l5 y5 z5
  obtain ⟨rfl, N5q, hh5⟩ := hQ5
  have N5 := Fr.app N4 N5q
  refine own_via (S' := (T5.setTop (mkF m 24 #[.val (.ref t), .val (.int lv)] [(.ref d2)]))) st5 ?_
  obtain ⟨T6, X6, e6, st6⟩ := castY X5 hx hZ hown (hw _ (List.mem_of_getElem? (i := 202) rfl)) hh5 (Ins.self Ed) (g := (mkF m 24 #[.val (.ref t), .val (.int lv)] [(.ref d2)])) rfl rfl (hb hby own_d_prog_3_method_4_24)
  refine own_go (S' := (T6.setTop (mkF m 27 #[.val (.ref t), .val (.int lv)] [(.ref d2)]))) st6 ?_
  refine own_retA X6 hx hlk hret rfl rfl (hb hby own_d_prog_3_method_4_27) ?_ (by decide) (by decide)
  rw [e6]
  exact ⟨rfl, N5, rfl⟩
set_option maxRecDepth 65536 in
set_option maxHeartbeats 40000000 in
theorem own_sz3 (l : Launch) (Z : State) (a0 : Array Value) (hw : ∀ d ∈ tables_1, d.before a0 Z = true) (x : Addr) (d1 d2 d3 ar : Addr) (k : ClassId) (em : Addr) (h0 : Heap) (n0 : Nat) (Z0 : n0 ≤ h0.size) (E_x : Exa Z h0 x "java/util/ImmutableCollections$ListN") (F0 : Fld Z h0 x "java/util/ImmutableCollections$ListN" "elements" "[Ljava/lang/Object;" (.ref ar)) (V : Arv Z h0 ar k (.object "java/lang/Object") 3 [.ref d1, .ref d2, .ref d3] .null) (SE : Sta Z h0 "java/util/ImmutableCollections" "EMPTY" "Ljava/lang/Object;" (.ref em)) :
    own_C l Z (⟨"java/util/ImmutableCollections$ListN", "size", "()I"⟩ : MethodName) jdk_45_method_3_code 1 (some .int) [] ({ frames := 0, cells := 0, slots := 0, locals := 0 } : Room) #[(.ref x)] h0 (own_Qz (3 : Int32) h0 n0) := by
  refine MetFree.of_bodySF (plainFor_of_name own_pn8) hisR ?_
  intro p e s m args below meth c s₁ Bd hml0 hP hK
  obtain ⟨rfl, hZ, hh⟩ := hP
  have hx := Bd.exec
  have hby := Bd.bytes
  have hlk := Bd.notSynchronized
  have hret := Bd.returns
  have hml : c.maxLocals = 1 := hml0
  have hown : s.vm.findClass "java/util/ImmutableCollections$ListN" = some m.cls := findClass_of_methodNamed Bd.named
  have hnm := (name_of_methodNamed Bd.named Bd.method).1
  have X0 : Stand p l e ({ frames := 0, cells := 0, slots := 0, locals := 0 } : Room) s m #[(.ref x)] below meth c s₁ [] 0 0 := Stand.of_body Bd
  have e0 : s₁.heap = h0 := by rw [← hh, Bd.state]; rfl
  have N0 := Fr.nil n0
  refine own_open (own_ef4 m x) ?_
  refine own_go (S' := (s₁.setTop (mkF m 1 #[.val (.ref x)] [(.ref x)]))) (fun _ k => XS.aloadN X0.here hx rfl (hb hby own_d_jdk_45_method_3_0) rfl rfl  k) ?_
  obtain ⟨T1, X1, e1, st1⟩ := getF X0 hx hZ hown (host := "") (Or.inl (hw _ (List.mem_of_getElem? (i := 218) rfl))) Via.refl e0 F0 (g := (mkF m 1 #[.val (.ref x)] [(.ref x)])) rfl rfl (hb hby own_d_jdk_45_method_3_1)
  refine own_go (S' := (T1.setTop (mkF m 4 #[.val (.ref x)] [(.ref ar)]))) st1 ?_
  have vv2 := V
  obtain ⟨cl2, Ar2, qa2, Sz2, Ng2, Ha2, Ga2⟩ := vv2
  refine own_go (S' := (T1.setTop (mkF m 5 #[.val (.ref x)] [(.int cl2.slots.size.toInt32)]))) (fun _ k => X1.arraylength hx (by rw [e1]; exact Ar2.1) (State.isArrayOf_alike hZ.alike Ar2.2.1) (g := (mkF m 4 #[.val (.ref x)] [(.ref ar)])) rfl rfl (hb hby own_d_jdk_45_method_3_4) _ k) ?_
  rw [len_of Sz2 Ng2]
  refine own_retI X1 hx hlk hret (hb hby own_d_jdk_45_method_3_5) ?_ (by decide) (by decide)
  rw [e1]
  exact ⟨rfl, N0, rfl⟩
set_option maxRecDepth 65536 in
set_option maxHeartbeats 40000000 in
theorem own_gt31 (l : Launch) (Z : State) (a0 : Array Value) (hw : ∀ d ∈ tables_1, d.before a0 Z = true) (x : Addr) (d1 d2 d3 ar : Addr) (k : ClassId) (em : Addr) (h0 : Heap) (n0 : Nat) (Z0 : n0 ≤ h0.size) (E_x : Exa Z h0 x "java/util/ImmutableCollections$ListN") (F0 : Fld Z h0 x "java/util/ImmutableCollections$ListN" "elements" "[Ljava/lang/Object;" (.ref ar)) (V : Arv Z h0 ar k (.object "java/lang/Object") 3 [.ref d1, .ref d2, .ref d3] .null) (SE : Sta Z h0 "java/util/ImmutableCollections" "EMPTY" "Ljava/lang/Object;" (.ref em)) :
    own_C l Z (⟨"java/util/ImmutableCollections$ListN", "get", "(I)Ljava/lang/Object;"⟩ : MethodName) jdk_45_method_4_code 2 (some (.object "java/lang/Object")) [] ({ frames := 0, cells := 0, slots := 0, locals := 0 } : Room) #[(.ref x), (.int (0 : Int32))] h0 (own_Qr d1 h0 n0) := by
  refine MetFree.of_bodySF (plainFor_of_name own_pn8) hisR ?_
  intro p e s m args below meth c s₁ Bd hml0 hP hK
  obtain ⟨rfl, hZ, hh⟩ := hP
  have hx := Bd.exec
  have hby := Bd.bytes
  have hlk := Bd.notSynchronized
  have hret := Bd.returns
  have hml : c.maxLocals = 2 := hml0
  have hown : s.vm.findClass "java/util/ImmutableCollections$ListN" = some m.cls := findClass_of_methodNamed Bd.named
  have hnm := (name_of_methodNamed Bd.named Bd.method).1
  have X0 : Stand p l e ({ frames := 0, cells := 0, slots := 0, locals := 0 } : Room) s m #[(.ref x), (.int (0 : Int32))] below meth c s₁ [] 0 0 := Stand.of_body Bd
  have e0 : s₁.heap = h0 := by rw [← hh, Bd.state]; rfl
  have N0 := Fr.nil n0
  refine own_open (own_ef11 m x ((0 : Int32))) ?_
  refine own_go (S' := (s₁.setTop (mkF m 1 #[.val (.ref x), .val (.int (0 : Int32))] [(.ref x)]))) (fun _ k => XS.aloadN X0.here hx rfl (hb hby own_d_jdk_45_method_4_0) rfl rfl  k) ?_
  obtain ⟨T1, X1, e1, st1⟩ := getF X0 hx hZ hown (host := "") (Or.inl (hw _ (List.mem_of_getElem? (i := 218) rfl))) Via.refl e0 F0 (g := (mkF m 1 #[.val (.ref x), .val (.int (0 : Int32))] [(.ref x)])) rfl rfl (hb hby own_d_jdk_45_method_4_1)
  refine own_go (S' := (T1.setTop (mkF m 4 #[.val (.ref x), .val (.int (0 : Int32))] [(.ref ar)]))) st1 ?_
  refine own_go (S' := (T1.setTop (mkF m 5 #[.val (.ref x), .val (.int (0 : Int32))] [(.int (0 : Int32)), (.ref ar)]))) (fun _ k => XS.iloadN X1.here hx rfl (hb hby own_d_jdk_45_method_4_4) rfl  k) ?_
  have vv2 := V
  obtain ⟨cl2, Ar2, qa2, Sz2, Ng2, Ha2, Ga2⟩ := vv2
  have hin2 : ¬ ((0 : Int32) < 0 ∨ cl2.slots.size ≤ ((0 : Int32)).toNatClampNeg) := inb_of Sz2 ⟨by decide, by decide⟩
  refine own_go (S' := (T1.setTop (mkF m 6 #[.val (.ref x), .val (.int (0 : Int32))] [(.ref d1)]))) (fun _ k => X1.aaload hx (j := (0 : Int32)) (v := (.ref d1)) (by rw [e1]; exact Ar2.1) (State.isArrayOf_alike hZ.alike Ar2.2.1) rfl Ar2.2.2 hin2 (Ha2.at hin2 rfl) (g := (mkF m 5 #[.val (.ref x), .val (.int (0 : Int32))] [(.int (0 : Int32)), (.ref ar)])) rfl rfl (hb hby own_d_jdk_45_method_4_5) _ k) ?_
  refine own_retA X1 hx hlk hret rfl rfl (hb hby own_d_jdk_45_method_4_6) ?_ (by decide) (by decide)
  rw [e1]
  exact ⟨rfl, N0, rfl⟩
set_option maxRecDepth 65536 in
set_option maxHeartbeats 40000000 in
theorem own_de31 (l : Launch) (Z : State) (a0 : Array Value) (hw : ∀ d ∈ tables_1, d.before a0 Z = true) (t : Addr) (lv : Int32) (x : Addr) (d1 d2 d3 ar : Addr) (k : ClassId) (em : Addr) (h0 : Heap) (n0 : Nat) (Z0 : n0 ≤ h0.size) (Ft : Fld Z h0 t "com/example/topicd/topicd/broker/DelayLevels" "delays" "Ljava/util/List;" (.ref x)) (Ed : Exa Z h0 d1 "java/time/Duration") (E_x : Exa Z h0 x "java/util/ImmutableCollections$ListN") (F0 : Fld Z h0 x "java/util/ImmutableCollections$ListN" "elements" "[Ljava/lang/Object;" (.ref ar)) (V : Arv Z h0 ar k (.object "java/lang/Object") 3 [.ref d1, .ref d2, .ref d3] .null) (SE : Sta Z h0 "java/util/ImmutableCollections" "EMPTY" "Ljava/lang/Object;" (.ref em)) (hz : (¬ (3 : Int32) < lv ∧ lv = (1 : Int32)) ∨ ((3 : Int32) < lv ∧ (3 : Int32) = (1 : Int32))) :
    own_C l Z (⟨"com/example/topicd/topicd/broker/DelayLevels", "delay", "(I)Ljava/time/Duration;"⟩ : MethodName) prog_3_method_4_code 2 (some (.object "java/time/Duration")) [] ({ frames := 1, cells := 0, slots := 0, locals := 14 } : Room) #[(.ref t), (.int lv)] h0 (own_Qr d1 h0 n0) := by
  refine MetFree.of_bodySF (plainFor_of_name own_pn12) hisR ?_
  intro p e s m args below meth c s₁ Bd hml0 hP hK
  obtain ⟨rfl, hZ, hh⟩ := hP
  have hx := Bd.exec
  have hby := Bd.bytes
  have hlk := Bd.notSynchronized
  have hret := Bd.returns
  have hml : c.maxLocals = 2 := hml0
  have hown : s.vm.findClass "com/example/topicd/topicd/broker/DelayLevels" = some m.cls := findClass_of_methodNamed Bd.named
  have hnm := (name_of_methodNamed Bd.named Bd.method).1
  have X0 : Stand p l e ({ frames := 1, cells := 0, slots := 0, locals := 14 } : Room) s m #[(.ref t), (.int lv)] below meth c s₁ [] 0 0 := Stand.of_body Bd
  have e0 : s₁.heap = h0 := by rw [← hh, Bd.state]; rfl
  have N0 := Fr.nil n0
  refine own_open (own_ef11 m t lv) ?_
  refine own_go (S' := (s₁.setTop (mkF m 1 #[.val (.ref t), .val (.int lv)] [(.ref t)]))) (fun _ k => XS.aloadN X0.here hx rfl (hb hby own_d_prog_3_method_4_0) rfl rfl  k) ?_
  obtain ⟨T1, X1, e1, st1⟩ := getF X0 hx hZ hown (host := "") (Or.inl (hw _ (List.mem_of_getElem? (i := 177) rfl))) Via.refl e0 Ft (g := (mkF m 1 #[.val (.ref t), .val (.int lv)] [(.ref t)])) rfl rfl (hb hby own_d_prog_3_method_4_1)
  refine own_go (S' := (T1.setTop (mkF m 4 #[.val (.ref t), .val (.int lv)] [(.ref x)]))) st1 ?_
  refine own_go (S' := (T1.setTop (mkF m 5 #[.val (.ref t), .val (.int lv)] [(.int lv), (.ref x)]))) (fun _ k => XS.iloadN X1.here hx rfl (hb hby own_d_prog_3_method_4_4) rfl  k) ?_
  refine own_go (S' := (T1.setTop (mkF m 6 #[.val (.ref t), .val (.int lv)] [(.ref t), (.int lv), (.ref x)]))) (fun _ k => XS.aloadN X1.here hx rfl (hb hby own_d_prog_3_method_4_5) rfl rfl  k) ?_
  obtain ⟨T2, X2, e2, st2⟩ := getF X1 hx hZ hown (host := "") (Or.inl (hw _ (List.mem_of_getElem? (i := 177) rfl))) Via.refl e1 Ft (g := (mkF m 6 #[.val (.ref t), .val (.int lv)] [(.ref t), (.int lv), (.ref x)])) rfl rfl (hb hby own_d_prog_3_method_4_6)
  refine own_go (S' := (T2.setTop (mkF m 9 #[.val (.ref t), .val (.int lv)] [(.ref x), (.int lv), (.ref x)]))) st2 ?_
  obtain ⟨cq3, kq3, q3a, q3b, q3c⟩ := isOf hZ e2 (E_x)
  obtain ⟨_, _, ⟨T3, L3, k3, n3⟩, -, X3, ⟨Lc3, hQ3, l3, y3, z3⟩, st3⟩ := X2.interfaceBack hx (xi := (⟨"java/util/List", "size", "()I"⟩ : MethodName)) (y := (⟨"java/util/ImmutableCollections$ListN", "size", "()I"⟩ : MethodName)) hown (mvT hZ (hw _ (List.mem_of_getElem? (i := 184) rfl))) (mvT hZ (hw _ (List.mem_of_getElem? (i := 185) rfl))) (mvT hZ (hw _ (List.mem_of_getElem? (i := 186) rfl))) (mvT hZ (hw _ (List.mem_of_getElem? (i := 222) rfl))) (mvT hZ (hw _ (List.mem_of_getElem? (i := 223) rfl))) (mvT hZ (hw _ (List.mem_of_getElem? (i := 224) rfl))) (mvT hZ (hw _ (List.mem_of_getElem? (i := 225) rfl))) (mvT hZ (hw _ (List.mem_of_getElem? (i := 226) rfl))) (by decide) (backOf (W := 2) (own_sz3 l Z a0 hw x d1 d2 d3 ar k em h0 n0 Z0 E_x F0 V SE) hZ (hw _ (List.mem_of_getElem? (i := 227) rfl)) (hw _ (List.mem_of_getElem? (i := 209) rfl)) (by decide) (by decide)) q3a q3b q3c (g := (mkF m 9 #[.val (.ref t), .val (.int lv)] [(.ref x), (.int lv), (.ref x)])) rfl (by rw [hml]; rfl) (Steps.refl _) (argsL := []) (rest := [(.int lv), (.ref x)]) (lenOf own_pd16 rfl) rfl (by show 2 * 0 + _ ≤ _; exact Nat.le_of_eq rfl) (hb hby own_d_prog_3_method_4_9) (fun _ _ => ⟨rfl, e2, (by decide : 0 + 0 ≤ _), (by decide : 0 + 0 ≤ _)⟩)
  dsimp only [Pt.U, Pt.locs, Pt.cells, Pt.slots] at X3 l3 y3 z3 st3 hQ3
  subst l3 y3 z3
  obtain ⟨rfl, N3q, hh3⟩ := hQ3
  have N3 := Fr.app N0 N3q
  refine own_via (S' := (T3.setTop (mkF m 14 #[.val (.ref t), .val (.int lv)] [(.int (3 : Int32)), (.int lv), (.ref x)]))) st3 ?_
  obtain ⟨_, _, ⟨T4, L4, k4, n4⟩, -, X4, ⟨Lc4, hQ4, l4, y4, z4⟩, st4⟩ := Jvm.LawKit.callS X3 hx (y := (⟨"java/lang/Math", "min", "(II)I"⟩ : MethodName)) hown (mvT hZ (hw _ (List.mem_of_getElem? (i := 193) rfl))) (mvT hZ (hw _ (List.mem_of_getElem? (i := 138) rfl))) (mvT hZ (hw _ (List.mem_of_getElem? (i := 3) rfl))) (mvT hZ (hw _ (List.mem_of_getElem? (i := 139) rfl))) (by decide) (backOf (W := 1) (own_min l Z a0 hw lv (3 : Int32) (1 : Int32) h0 n0 Z0 hz) hZ (hw _ (List.mem_of_getElem? (i := 139) rfl)) (hw _ (List.mem_of_getElem? (i := 3) rfl)) (by decide) (by decide)) (g := (mkF m 14 #[.val (.ref t), .val (.int lv)] [(.int (3 : Int32)), (.int lv), (.ref x)])) rfl (by rw [hml]; rfl) (argsL := [(.int lv), (.int (3 : Int32))]) (rest := [(.ref x)]) (lenOf own_pd3 rfl) rfl (by show 2 * 0 + _ ≤ _; exact Nat.le_of_eq rfl) (hb hby own_d_prog_3_method_4_14) (fun _ _ => ⟨rfl, hh3, (by decide : 0 + 0 ≤ _), (by decide : 0 + 0 ≤ _)⟩)
  dsimp only [Pt.U, Pt.locs, Pt.cells, Pt.slots] at X4 l4 y4 z4 st4 hQ4
  subst l4 y4 z4
  obtain ⟨rfl, N4q, hh4⟩ := hQ4
  have N4 := Fr.app N3 N4q
  refine own_go (S' := (T4.setTop (mkF m 17 #[.val (.ref t), .val (.int lv)] [(.int (1 : Int32)), (.ref x)]))) st4 ?_
  refine own_go (S' := (T4.setTop (mkF m 18 #[.val (.ref t), .val (.int lv)] [(.int (1 : Int32)), (.int (1 : Int32)), (.ref x)]))) (fun _ k => XS.iconst X4.here hx rfl (hb hby own_d_prog_3_method_4_17) k) ?_
  refine own_go (S' := (T4.setTop (mkF m 19 #[.val (.ref t), .val (.int lv)] [(.int (0 : Int32)), (.ref x)]))) (fun _ k => XS.isub X4.here hx rfl (hb hby own_d_prog_3_method_4_18) rfl k) ?_
  obtain ⟨cq5, kq5, q5a, q5b, q5c⟩ := isOf hZ hh4 (E_x)
  obtain ⟨_, _, ⟨T5, L5, k5, n5⟩, -, X5, ⟨Lc5, hQ5, l5, y5, z5⟩, st5⟩ := X4.interfaceBack hx (xi := (⟨"java/util/List", "get", "(I)Ljava/lang/Object;"⟩ : MethodName)) (y := (⟨"java/util/ImmutableCollections$ListN", "get", "(I)Ljava/lang/Object;"⟩ : MethodName)) hown (mvT hZ (hw _ (List.mem_of_getElem? (i := 194) rfl))) (mvT hZ (hw _ (List.mem_of_getElem? (i := 195) rfl))) (mvT hZ (hw _ (List.mem_of_getElem? (i := 196) rfl))) (mvT hZ (hw _ (List.mem_of_getElem? (i := 228) rfl))) (mvT hZ (hw _ (List.mem_of_getElem? (i := 229) rfl))) (mvT hZ (hw _ (List.mem_of_getElem? (i := 230) rfl))) (mvT hZ (hw _ (List.mem_of_getElem? (i := 231) rfl))) (mvT hZ (hw _ (List.mem_of_getElem? (i := 226) rfl))) (by decide) (backOf (W := 0) (own_gt31 l Z a0 hw x d1 d2 d3 ar k em h0 n0 Z0 E_x F0 V SE) hZ (hw _ (List.mem_of_getElem? (i := 232) rfl)) (hw _ (List.mem_of_getElem? (i := 209) rfl)) (by decide) (by decide)) q5a q5b q5c (g := (mkF m 19 #[.val (.ref t), .val (.int lv)] [(.int (0 : Int32)), (.ref x)])) rfl (by rw [hml]; rfl) (Steps.refl _) (argsL := [(.int (0 : Int32))]) (rest := []) (lenOf own_pd17 rfl) rfl (by show 2 * 0 + _ ≤ _; exact Nat.le_of_eq rfl) (hb hby own_d_prog_3_method_4_19) (fun _ _ => ⟨rfl, hh4, (by decide : 0 + 0 ≤ _), (by decide : 0 + 0 ≤ _)⟩)
  dsimp only [Pt.U, Pt.locs, Pt.cells, Pt.slots] at X5 l5 y5 z5 st5 hQ5
  subst l5 y5 z5
  obtain ⟨rfl, N5q, hh5⟩ := hQ5
  have N5 := Fr.app N4 N5q
  refine own_via (S' := (T5.setTop (mkF m 24 #[.val (.ref t), .val (.int lv)] [(.ref d1)]))) st5 ?_
  obtain ⟨T6, X6, e6, st6⟩ := castY X5 hx hZ hown (hw _ (List.mem_of_getElem? (i := 202) rfl)) hh5 (Ins.self Ed) (g := (mkF m 24 #[.val (.ref t), .val (.int lv)] [(.ref d1)])) rfl rfl (hb hby own_d_prog_3_method_4_24)
  refine own_go (S' := (T6.setTop (mkF m 27 #[.val (.ref t), .val (.int lv)] [(.ref d1)]))) st6 ?_
  refine own_retA X6 hx hlk hret rfl rfl (hb hby own_d_prog_3_method_4_27) ?_ (by decide) (by decide)
  rw [e6]
  exact ⟨rfl, N5, rfl⟩
set_option maxRecDepth 65536 in
set_option maxHeartbeats 40000000 in
theorem own_gt32 (l : Launch) (Z : State) (a0 : Array Value) (hw : ∀ d ∈ tables_1, d.before a0 Z = true) (x : Addr) (d1 d2 d3 ar : Addr) (k : ClassId) (em : Addr) (h0 : Heap) (n0 : Nat) (Z0 : n0 ≤ h0.size) (E_x : Exa Z h0 x "java/util/ImmutableCollections$ListN") (F0 : Fld Z h0 x "java/util/ImmutableCollections$ListN" "elements" "[Ljava/lang/Object;" (.ref ar)) (V : Arv Z h0 ar k (.object "java/lang/Object") 3 [.ref d1, .ref d2, .ref d3] .null) (SE : Sta Z h0 "java/util/ImmutableCollections" "EMPTY" "Ljava/lang/Object;" (.ref em)) :
    own_C l Z (⟨"java/util/ImmutableCollections$ListN", "get", "(I)Ljava/lang/Object;"⟩ : MethodName) jdk_45_method_4_code 2 (some (.object "java/lang/Object")) [] ({ frames := 0, cells := 0, slots := 0, locals := 0 } : Room) #[(.ref x), (.int (1 : Int32))] h0 (own_Qr d2 h0 n0) := by
  refine MetFree.of_bodySF (plainFor_of_name own_pn8) hisR ?_
  intro p e s m args below meth c s₁ Bd hml0 hP hK
  obtain ⟨rfl, hZ, hh⟩ := hP
  have hx := Bd.exec
  have hby := Bd.bytes
  have hlk := Bd.notSynchronized
  have hret := Bd.returns
  have hml : c.maxLocals = 2 := hml0
  have hown : s.vm.findClass "java/util/ImmutableCollections$ListN" = some m.cls := findClass_of_methodNamed Bd.named
  have hnm := (name_of_methodNamed Bd.named Bd.method).1
  have X0 : Stand p l e ({ frames := 0, cells := 0, slots := 0, locals := 0 } : Room) s m #[(.ref x), (.int (1 : Int32))] below meth c s₁ [] 0 0 := Stand.of_body Bd
  have e0 : s₁.heap = h0 := by rw [← hh, Bd.state]; rfl
  have N0 := Fr.nil n0
  refine own_open (own_ef11 m x ((1 : Int32))) ?_
  refine own_go (S' := (s₁.setTop (mkF m 1 #[.val (.ref x), .val (.int (1 : Int32))] [(.ref x)]))) (fun _ k => XS.aloadN X0.here hx rfl (hb hby own_d_jdk_45_method_4_0) rfl rfl  k) ?_
  obtain ⟨T1, X1, e1, st1⟩ := getF X0 hx hZ hown (host := "") (Or.inl (hw _ (List.mem_of_getElem? (i := 218) rfl))) Via.refl e0 F0 (g := (mkF m 1 #[.val (.ref x), .val (.int (1 : Int32))] [(.ref x)])) rfl rfl (hb hby own_d_jdk_45_method_4_1)
  refine own_go (S' := (T1.setTop (mkF m 4 #[.val (.ref x), .val (.int (1 : Int32))] [(.ref ar)]))) st1 ?_
  refine own_go (S' := (T1.setTop (mkF m 5 #[.val (.ref x), .val (.int (1 : Int32))] [(.int (1 : Int32)), (.ref ar)]))) (fun _ k => XS.iloadN X1.here hx rfl (hb hby own_d_jdk_45_method_4_4) rfl  k) ?_
  have vv2 := V
  obtain ⟨cl2, Ar2, qa2, Sz2, Ng2, Ha2, Ga2⟩ := vv2
  have hin2 : ¬ ((1 : Int32) < 0 ∨ cl2.slots.size ≤ ((1 : Int32)).toNatClampNeg) := inb_of Sz2 ⟨by decide, by decide⟩
  refine own_go (S' := (T1.setTop (mkF m 6 #[.val (.ref x), .val (.int (1 : Int32))] [(.ref d2)]))) (fun _ k => X1.aaload hx (j := (1 : Int32)) (v := (.ref d2)) (by rw [e1]; exact Ar2.1) (State.isArrayOf_alike hZ.alike Ar2.2.1) rfl Ar2.2.2 hin2 (Ha2.at hin2 rfl) (g := (mkF m 5 #[.val (.ref x), .val (.int (1 : Int32))] [(.int (1 : Int32)), (.ref ar)])) rfl rfl (hb hby own_d_jdk_45_method_4_5) _ k) ?_
  refine own_retA X1 hx hlk hret rfl rfl (hb hby own_d_jdk_45_method_4_6) ?_ (by decide) (by decide)
  rw [e1]
  exact ⟨rfl, N0, rfl⟩
set_option maxRecDepth 65536 in
set_option maxHeartbeats 40000000 in
theorem own_de32 (l : Launch) (Z : State) (a0 : Array Value) (hw : ∀ d ∈ tables_1, d.before a0 Z = true) (t : Addr) (lv : Int32) (x : Addr) (d1 d2 d3 ar : Addr) (k : ClassId) (em : Addr) (h0 : Heap) (n0 : Nat) (Z0 : n0 ≤ h0.size) (Ft : Fld Z h0 t "com/example/topicd/topicd/broker/DelayLevels" "delays" "Ljava/util/List;" (.ref x)) (Ed : Exa Z h0 d2 "java/time/Duration") (E_x : Exa Z h0 x "java/util/ImmutableCollections$ListN") (F0 : Fld Z h0 x "java/util/ImmutableCollections$ListN" "elements" "[Ljava/lang/Object;" (.ref ar)) (V : Arv Z h0 ar k (.object "java/lang/Object") 3 [.ref d1, .ref d2, .ref d3] .null) (SE : Sta Z h0 "java/util/ImmutableCollections" "EMPTY" "Ljava/lang/Object;" (.ref em)) (hz : (¬ (3 : Int32) < lv ∧ lv = (2 : Int32)) ∨ ((3 : Int32) < lv ∧ (3 : Int32) = (2 : Int32))) :
    own_C l Z (⟨"com/example/topicd/topicd/broker/DelayLevels", "delay", "(I)Ljava/time/Duration;"⟩ : MethodName) prog_3_method_4_code 2 (some (.object "java/time/Duration")) [] ({ frames := 1, cells := 0, slots := 0, locals := 14 } : Room) #[(.ref t), (.int lv)] h0 (own_Qr d2 h0 n0) := by
  refine MetFree.of_bodySF (plainFor_of_name own_pn12) hisR ?_
  intro p e s m args below meth c s₁ Bd hml0 hP hK
  obtain ⟨rfl, hZ, hh⟩ := hP
  have hx := Bd.exec
  have hby := Bd.bytes
  have hlk := Bd.notSynchronized
  have hret := Bd.returns
  have hml : c.maxLocals = 2 := hml0
  have hown : s.vm.findClass "com/example/topicd/topicd/broker/DelayLevels" = some m.cls := findClass_of_methodNamed Bd.named
  have hnm := (name_of_methodNamed Bd.named Bd.method).1
  have X0 : Stand p l e ({ frames := 1, cells := 0, slots := 0, locals := 14 } : Room) s m #[(.ref t), (.int lv)] below meth c s₁ [] 0 0 := Stand.of_body Bd
  have e0 : s₁.heap = h0 := by rw [← hh, Bd.state]; rfl
  have N0 := Fr.nil n0
  refine own_open (own_ef11 m t lv) ?_
  refine own_go (S' := (s₁.setTop (mkF m 1 #[.val (.ref t), .val (.int lv)] [(.ref t)]))) (fun _ k => XS.aloadN X0.here hx rfl (hb hby own_d_prog_3_method_4_0) rfl rfl  k) ?_
  obtain ⟨T1, X1, e1, st1⟩ := getF X0 hx hZ hown (host := "") (Or.inl (hw _ (List.mem_of_getElem? (i := 177) rfl))) Via.refl e0 Ft (g := (mkF m 1 #[.val (.ref t), .val (.int lv)] [(.ref t)])) rfl rfl (hb hby own_d_prog_3_method_4_1)
  refine own_go (S' := (T1.setTop (mkF m 4 #[.val (.ref t), .val (.int lv)] [(.ref x)]))) st1 ?_
  refine own_go (S' := (T1.setTop (mkF m 5 #[.val (.ref t), .val (.int lv)] [(.int lv), (.ref x)]))) (fun _ k => XS.iloadN X1.here hx rfl (hb hby own_d_prog_3_method_4_4) rfl  k) ?_
  refine own_go (S' := (T1.setTop (mkF m 6 #[.val (.ref t), .val (.int lv)] [(.ref t), (.int lv), (.ref x)]))) (fun _ k => XS.aloadN X1.here hx rfl (hb hby own_d_prog_3_method_4_5) rfl rfl  k) ?_
  obtain ⟨T2, X2, e2, st2⟩ := getF X1 hx hZ hown (host := "") (Or.inl (hw _ (List.mem_of_getElem? (i := 177) rfl))) Via.refl e1 Ft (g := (mkF m 6 #[.val (.ref t), .val (.int lv)] [(.ref t), (.int lv), (.ref x)])) rfl rfl (hb hby own_d_prog_3_method_4_6)
  refine own_go (S' := (T2.setTop (mkF m 9 #[.val (.ref t), .val (.int lv)] [(.ref x), (.int lv), (.ref x)]))) st2 ?_
  obtain ⟨cq3, kq3, q3a, q3b, q3c⟩ := isOf hZ e2 (E_x)
  obtain ⟨_, _, ⟨T3, L3, k3, n3⟩, -, X3, ⟨Lc3, hQ3, l3, y3, z3⟩, st3⟩ := X2.interfaceBack hx (xi := (⟨"java/util/List", "size", "()I"⟩ : MethodName)) (y := (⟨"java/util/ImmutableCollections$ListN", "size", "()I"⟩ : MethodName)) hown (mvT hZ (hw _ (List.mem_of_getElem? (i := 184) rfl))) (mvT hZ (hw _ (List.mem_of_getElem? (i := 185) rfl))) (mvT hZ (hw _ (List.mem_of_getElem? (i := 186) rfl))) (mvT hZ (hw _ (List.mem_of_getElem? (i := 222) rfl))) (mvT hZ (hw _ (List.mem_of_getElem? (i := 223) rfl))) (mvT hZ (hw _ (List.mem_of_getElem? (i := 224) rfl))) (mvT hZ (hw _ (List.mem_of_getElem? (i := 225) rfl))) (mvT hZ (hw _ (List.mem_of_getElem? (i := 226) rfl))) (by decide) (backOf (W := 2) (own_sz3 l Z a0 hw x d1 d2 d3 ar k em h0 n0 Z0 E_x F0 V SE) hZ (hw _ (List.mem_of_getElem? (i := 227) rfl)) (hw _ (List.mem_of_getElem? (i := 209) rfl)) (by decide) (by decide)) q3a q3b q3c (g := (mkF m 9 #[.val (.ref t), .val (.int lv)] [(.ref x), (.int lv), (.ref x)])) rfl (by rw [hml]; rfl) (Steps.refl _) (argsL := []) (rest := [(.int lv), (.ref x)]) (lenOf own_pd16 rfl) rfl (by show 2 * 0 + _ ≤ _; exact Nat.le_of_eq rfl) (hb hby own_d_prog_3_method_4_9) (fun _ _ => ⟨rfl, e2, (by decide : 0 + 0 ≤ _), (by decide : 0 + 0 ≤ _)⟩)
  dsimp only [Pt.U, Pt.locs, Pt.cells, Pt.slots] at X3 l3 y3 z3 st3 hQ3
  subst l3 y3 z3
  obtain ⟨rfl, N3q, hh3⟩ := hQ3
  have N3 := Fr.app N0 N3q
  refine own_via (S' := (T3.setTop (mkF m 14 #[.val (.ref t), .val (.int lv)] [(.int (3 : Int32)), (.int lv), (.ref x)]))) st3 ?_
  obtain ⟨_, _, ⟨T4, L4, k4, n4⟩, -, X4, ⟨Lc4, hQ4, l4, y4, z4⟩, st4⟩ := Jvm.LawKit.callS X3 hx (y := (⟨"java/lang/Math", "min", "(II)I"⟩ : MethodName)) hown (mvT hZ (hw _ (List.mem_of_getElem? (i := 193) rfl))) (mvT hZ (hw _ (List.mem_of_getElem? (i := 138) rfl))) (mvT hZ (hw _ (List.mem_of_getElem? (i := 3) rfl))) (mvT hZ (hw _ (List.mem_of_getElem? (i := 139) rfl))) (by decide) (backOf (W := 1) (own_min l Z a0 hw lv (3 : Int32) (2 : Int32) h0 n0 Z0 hz) hZ (hw _ (List.mem_of_getElem? (i := 139) rfl)) (hw _ (List.mem_of_getElem? (i := 3) rfl)) (by decide) (by decide)) (g := (mkF m 14 #[.val (.ref t), .val (.int lv)] [(.int (3 : Int32)), (.int lv), (.ref x)])) rfl (by rw [hml]; rfl) (argsL := [(.int lv), (.int (3 : Int32))]) (rest := [(.ref x)]) (lenOf own_pd3 rfl) rfl (by show 2 * 0 + _ ≤ _; exact Nat.le_of_eq rfl) (hb hby own_d_prog_3_method_4_14) (fun _ _ => ⟨rfl, hh3, (by decide : 0 + 0 ≤ _), (by decide : 0 + 0 ≤ _)⟩)
  dsimp only [Pt.U, Pt.locs, Pt.cells, Pt.slots] at X4 l4 y4 z4 st4 hQ4
  subst l4 y4 z4
  obtain ⟨rfl, N4q, hh4⟩ := hQ4
  have N4 := Fr.app N3 N4q
  refine own_go (S' := (T4.setTop (mkF m 17 #[.val (.ref t), .val (.int lv)] [(.int (2 : Int32)), (.ref x)]))) st4 ?_
  refine own_go (S' := (T4.setTop (mkF m 18 #[.val (.ref t), .val (.int lv)] [(.int (1 : Int32)), (.int (2 : Int32)), (.ref x)]))) (fun _ k => XS.iconst X4.here hx rfl (hb hby own_d_prog_3_method_4_17) k) ?_
  refine own_go (S' := (T4.setTop (mkF m 19 #[.val (.ref t), .val (.int lv)] [(.int (1 : Int32)), (.ref x)]))) (fun _ k => XS.isub X4.here hx rfl (hb hby own_d_prog_3_method_4_18) rfl k) ?_
  obtain ⟨cq5, kq5, q5a, q5b, q5c⟩ := isOf hZ hh4 (E_x)
  obtain ⟨_, _, ⟨T5, L5, k5, n5⟩, -, X5, ⟨Lc5, hQ5, l5, y5, z5⟩, st5⟩ := X4.interfaceBack hx (xi := (⟨"java/util/List", "get", "(I)Ljava/lang/Object;"⟩ : MethodName)) (y := (⟨"java/util/ImmutableCollections$ListN", "get", "(I)Ljava/lang/Object;"⟩ : MethodName)) hown (mvT hZ (hw _ (List.mem_of_getElem? (i := 194) rfl))) (mvT hZ (hw _ (List.mem_of_getElem? (i := 195) rfl))) (mvT hZ (hw _ (List.mem_of_getElem? (i := 196) rfl))) (mvT hZ (hw _ (List.mem_of_getElem? (i := 228) rfl))) (mvT hZ (hw _ (List.mem_of_getElem? (i := 229) rfl))) (mvT hZ (hw _ (List.mem_of_getElem? (i := 230) rfl))) (mvT hZ (hw _ (List.mem_of_getElem? (i := 231) rfl))) (mvT hZ (hw _ (List.mem_of_getElem? (i := 226) rfl))) (by decide) (backOf (W := 0) (own_gt32 l Z a0 hw x d1 d2 d3 ar k em h0 n0 Z0 E_x F0 V SE) hZ (hw _ (List.mem_of_getElem? (i := 232) rfl)) (hw _ (List.mem_of_getElem? (i := 209) rfl)) (by decide) (by decide)) q5a q5b q5c (g := (mkF m 19 #[.val (.ref t), .val (.int lv)] [(.int (1 : Int32)), (.ref x)])) rfl (by rw [hml]; rfl) (Steps.refl _) (argsL := [(.int (1 : Int32))]) (rest := []) (lenOf own_pd17 rfl) rfl (by show 2 * 0 + _ ≤ _; exact Nat.le_of_eq rfl) (hb hby own_d_prog_3_method_4_19) (fun _ _ => ⟨rfl, hh4, (by decide : 0 + 0 ≤ _), (by decide : 0 + 0 ≤ _)⟩)
  dsimp only [Pt.U, Pt.locs, Pt.cells, Pt.slots] at X5 l5 y5 z5 st5 hQ5
  subst l5 y5 z5
  obtain ⟨rfl, N5q, hh5⟩ := hQ5
  have N5 := Fr.app N4 N5q
  refine own_via (S' := (T5.setTop (mkF m 24 #[.val (.ref t), .val (.int lv)] [(.ref d2)]))) st5 ?_
  obtain ⟨T6, X6, e6, st6⟩ := castY X5 hx hZ hown (hw _ (List.mem_of_getElem? (i := 202) rfl)) hh5 (Ins.self Ed) (g := (mkF m 24 #[.val (.ref t), .val (.int lv)] [(.ref d2)])) rfl rfl (hb hby own_d_prog_3_method_4_24)
  refine own_go (S' := (T6.setTop (mkF m 27 #[.val (.ref t), .val (.int lv)] [(.ref d2)]))) st6 ?_
  refine own_retA X6 hx hlk hret rfl rfl (hb hby own_d_prog_3_method_4_27) ?_ (by decide) (by decide)
  rw [e6]
  exact ⟨rfl, N5, rfl⟩
set_option maxRecDepth 65536 in
set_option maxHeartbeats 40000000 in
theorem own_gt33 (l : Launch) (Z : State) (a0 : Array Value) (hw : ∀ d ∈ tables_1, d.before a0 Z = true) (x : Addr) (d1 d2 d3 ar : Addr) (k : ClassId) (em : Addr) (h0 : Heap) (n0 : Nat) (Z0 : n0 ≤ h0.size) (E_x : Exa Z h0 x "java/util/ImmutableCollections$ListN") (F0 : Fld Z h0 x "java/util/ImmutableCollections$ListN" "elements" "[Ljava/lang/Object;" (.ref ar)) (V : Arv Z h0 ar k (.object "java/lang/Object") 3 [.ref d1, .ref d2, .ref d3] .null) (SE : Sta Z h0 "java/util/ImmutableCollections" "EMPTY" "Ljava/lang/Object;" (.ref em)) :
    own_C l Z (⟨"java/util/ImmutableCollections$ListN", "get", "(I)Ljava/lang/Object;"⟩ : MethodName) jdk_45_method_4_code 2 (some (.object "java/lang/Object")) [] ({ frames := 0, cells := 0, slots := 0, locals := 0 } : Room) #[(.ref x), (.int (2 : Int32))] h0 (own_Qr d3 h0 n0) := by
  refine MetFree.of_bodySF (plainFor_of_name own_pn8) hisR ?_
  intro p e s m args below meth c s₁ Bd hml0 hP hK
  obtain ⟨rfl, hZ, hh⟩ := hP
  have hx := Bd.exec
  have hby := Bd.bytes
  have hlk := Bd.notSynchronized
  have hret := Bd.returns
  have hml : c.maxLocals = 2 := hml0
  have hown : s.vm.findClass "java/util/ImmutableCollections$ListN" = some m.cls := findClass_of_methodNamed Bd.named
  have hnm := (name_of_methodNamed Bd.named Bd.method).1
  have X0 : Stand p l e ({ frames := 0, cells := 0, slots := 0, locals := 0 } : Room) s m #[(.ref x), (.int (2 : Int32))] below meth c s₁ [] 0 0 := Stand.of_body Bd
  have e0 : s₁.heap = h0 := by rw [← hh, Bd.state]; rfl
  have N0 := Fr.nil n0
  refine own_open (own_ef11 m x ((2 : Int32))) ?_
  refine own_go (S' := (s₁.setTop (mkF m 1 #[.val (.ref x), .val (.int (2 : Int32))] [(.ref x)]))) (fun _ k => XS.aloadN X0.here hx rfl (hb hby own_d_jdk_45_method_4_0) rfl rfl  k) ?_
  obtain ⟨T1, X1, e1, st1⟩ := getF X0 hx hZ hown (host := "") (Or.inl (hw _ (List.mem_of_getElem? (i := 218) rfl))) Via.refl e0 F0 (g := (mkF m 1 #[.val (.ref x), .val (.int (2 : Int32))] [(.ref x)])) rfl rfl (hb hby own_d_jdk_45_method_4_1)
  refine own_go (S' := (T1.setTop (mkF m 4 #[.val (.ref x), .val (.int (2 : Int32))] [(.ref ar)]))) st1 ?_
  refine own_go (S' := (T1.setTop (mkF m 5 #[.val (.ref x), .val (.int (2 : Int32))] [(.int (2 : Int32)), (.ref ar)]))) (fun _ k => XS.iloadN X1.here hx rfl (hb hby own_d_jdk_45_method_4_4) rfl  k) ?_
  have vv2 := V
  obtain ⟨cl2, Ar2, qa2, Sz2, Ng2, Ha2, Ga2⟩ := vv2
  have hin2 : ¬ ((2 : Int32) < 0 ∨ cl2.slots.size ≤ ((2 : Int32)).toNatClampNeg) := inb_of Sz2 ⟨by decide, by decide⟩
  refine own_go (S' := (T1.setTop (mkF m 6 #[.val (.ref x), .val (.int (2 : Int32))] [(.ref d3)]))) (fun _ k => X1.aaload hx (j := (2 : Int32)) (v := (.ref d3)) (by rw [e1]; exact Ar2.1) (State.isArrayOf_alike hZ.alike Ar2.2.1) rfl Ar2.2.2 hin2 (Ha2.at hin2 rfl) (g := (mkF m 5 #[.val (.ref x), .val (.int (2 : Int32))] [(.int (2 : Int32)), (.ref ar)])) rfl rfl (hb hby own_d_jdk_45_method_4_5) _ k) ?_
  refine own_retA X1 hx hlk hret rfl rfl (hb hby own_d_jdk_45_method_4_6) ?_ (by decide) (by decide)
  rw [e1]
  exact ⟨rfl, N0, rfl⟩
set_option maxRecDepth 65536 in
set_option maxHeartbeats 40000000 in
theorem own_de33 (l : Launch) (Z : State) (a0 : Array Value) (hw : ∀ d ∈ tables_1, d.before a0 Z = true) (t : Addr) (lv : Int32) (x : Addr) (d1 d2 d3 ar : Addr) (k : ClassId) (em : Addr) (h0 : Heap) (n0 : Nat) (Z0 : n0 ≤ h0.size) (Ft : Fld Z h0 t "com/example/topicd/topicd/broker/DelayLevels" "delays" "Ljava/util/List;" (.ref x)) (Ed : Exa Z h0 d3 "java/time/Duration") (E_x : Exa Z h0 x "java/util/ImmutableCollections$ListN") (F0 : Fld Z h0 x "java/util/ImmutableCollections$ListN" "elements" "[Ljava/lang/Object;" (.ref ar)) (V : Arv Z h0 ar k (.object "java/lang/Object") 3 [.ref d1, .ref d2, .ref d3] .null) (SE : Sta Z h0 "java/util/ImmutableCollections" "EMPTY" "Ljava/lang/Object;" (.ref em)) (hz : (¬ (3 : Int32) < lv ∧ lv = (3 : Int32)) ∨ ((3 : Int32) < lv ∧ (3 : Int32) = (3 : Int32))) :
    own_C l Z (⟨"com/example/topicd/topicd/broker/DelayLevels", "delay", "(I)Ljava/time/Duration;"⟩ : MethodName) prog_3_method_4_code 2 (some (.object "java/time/Duration")) [] ({ frames := 1, cells := 0, slots := 0, locals := 14 } : Room) #[(.ref t), (.int lv)] h0 (own_Qr d3 h0 n0) := by
  refine MetFree.of_bodySF (plainFor_of_name own_pn12) hisR ?_
  intro p e s m args below meth c s₁ Bd hml0 hP hK
  obtain ⟨rfl, hZ, hh⟩ := hP
  have hx := Bd.exec
  have hby := Bd.bytes
  have hlk := Bd.notSynchronized
  have hret := Bd.returns
  have hml : c.maxLocals = 2 := hml0
  have hown : s.vm.findClass "com/example/topicd/topicd/broker/DelayLevels" = some m.cls := findClass_of_methodNamed Bd.named
  have hnm := (name_of_methodNamed Bd.named Bd.method).1
  have X0 : Stand p l e ({ frames := 1, cells := 0, slots := 0, locals := 14 } : Room) s m #[(.ref t), (.int lv)] below meth c s₁ [] 0 0 := Stand.of_body Bd
  have e0 : s₁.heap = h0 := by rw [← hh, Bd.state]; rfl
  have N0 := Fr.nil n0
  refine own_open (own_ef11 m t lv) ?_
  refine own_go (S' := (s₁.setTop (mkF m 1 #[.val (.ref t), .val (.int lv)] [(.ref t)]))) (fun _ k => XS.aloadN X0.here hx rfl (hb hby own_d_prog_3_method_4_0) rfl rfl  k) ?_
  obtain ⟨T1, X1, e1, st1⟩ := getF X0 hx hZ hown (host := "") (Or.inl (hw _ (List.mem_of_getElem? (i := 177) rfl))) Via.refl e0 Ft (g := (mkF m 1 #[.val (.ref t), .val (.int lv)] [(.ref t)])) rfl rfl (hb hby own_d_prog_3_method_4_1)
  refine own_go (S' := (T1.setTop (mkF m 4 #[.val (.ref t), .val (.int lv)] [(.ref x)]))) st1 ?_
  refine own_go (S' := (T1.setTop (mkF m 5 #[.val (.ref t), .val (.int lv)] [(.int lv), (.ref x)]))) (fun _ k => XS.iloadN X1.here hx rfl (hb hby own_d_prog_3_method_4_4) rfl  k) ?_
  refine own_go (S' := (T1.setTop (mkF m 6 #[.val (.ref t), .val (.int lv)] [(.ref t), (.int lv), (.ref x)]))) (fun _ k => XS.aloadN X1.here hx rfl (hb hby own_d_prog_3_method_4_5) rfl rfl  k) ?_
  obtain ⟨T2, X2, e2, st2⟩ := getF X1 hx hZ hown (host := "") (Or.inl (hw _ (List.mem_of_getElem? (i := 177) rfl))) Via.refl e1 Ft (g := (mkF m 6 #[.val (.ref t), .val (.int lv)] [(.ref t), (.int lv), (.ref x)])) rfl rfl (hb hby own_d_prog_3_method_4_6)
  refine own_go (S' := (T2.setTop (mkF m 9 #[.val (.ref t), .val (.int lv)] [(.ref x), (.int lv), (.ref x)]))) st2 ?_
  obtain ⟨cq3, kq3, q3a, q3b, q3c⟩ := isOf hZ e2 (E_x)
  obtain ⟨_, _, ⟨T3, L3, k3, n3⟩, -, X3, ⟨Lc3, hQ3, l3, y3, z3⟩, st3⟩ := X2.interfaceBack hx (xi := (⟨"java/util/List", "size", "()I"⟩ : MethodName)) (y := (⟨"java/util/ImmutableCollections$ListN", "size", "()I"⟩ : MethodName)) hown (mvT hZ (hw _ (List.mem_of_getElem? (i := 184) rfl))) (mvT hZ (hw _ (List.mem_of_getElem? (i := 185) rfl))) (mvT hZ (hw _ (List.mem_of_getElem? (i := 186) rfl))) (mvT hZ (hw _ (List.mem_of_getElem? (i := 222) rfl))) (mvT hZ (hw _ (List.mem_of_getElem? (i := 223) rfl))) (mvT hZ (hw _ (List.mem_of_getElem? (i := 224) rfl))) (mvT hZ (hw _ (List.mem_of_getElem? (i := 225) rfl))) (mvT hZ (hw _ (List.mem_of_getElem? (i := 226) rfl))) (by decide) (backOf (W := 2) (own_sz3 l Z a0 hw x d1 d2 d3 ar k em h0 n0 Z0 E_x F0 V SE) hZ (hw _ (List.mem_of_getElem? (i := 227) rfl)) (hw _ (List.mem_of_getElem? (i := 209) rfl)) (by decide) (by decide)) q3a q3b q3c (g := (mkF m 9 #[.val (.ref t), .val (.int lv)] [(.ref x), (.int lv), (.ref x)])) rfl (by rw [hml]; rfl) (Steps.refl _) (argsL := []) (rest := [(.int lv), (.ref x)]) (lenOf own_pd16 rfl) rfl (by show 2 * 0 + _ ≤ _; exact Nat.le_of_eq rfl) (hb hby own_d_prog_3_method_4_9) (fun _ _ => ⟨rfl, e2, (by decide : 0 + 0 ≤ _), (by decide : 0 + 0 ≤ _)⟩)
  dsimp only [Pt.U, Pt.locs, Pt.cells, Pt.slots] at X3 l3 y3 z3 st3 hQ3
  subst l3 y3 z3
  obtain ⟨rfl, N3q, hh3⟩ := hQ3
  have N3 := Fr.app N0 N3q
  refine own_via (S' := (T3.setTop (mkF m 14 #[.val (.ref t), .val (.int lv)] [(.int (3 : Int32)), (.int lv), (.ref x)]))) st3 ?_
  obtain ⟨_, _, ⟨T4, L4, k4, n4⟩, -, X4, ⟨Lc4, hQ4, l4, y4, z4⟩, st4⟩ := Jvm.LawKit.callS X3 hx (y := (⟨"java/lang/Math", "min", "(II)I"⟩ : MethodName)) hown (mvT hZ (hw _ (List.mem_of_getElem? (i := 193) rfl))) (mvT hZ (hw _ (List.mem_of_getElem? (i := 138) rfl))) (mvT hZ (hw _ (List.mem_of_getElem? (i := 3) rfl))) (mvT hZ (hw _ (List.mem_of_getElem? (i := 139) rfl))) (by decide) (backOf (W := 1) (own_min l Z a0 hw lv (3 : Int32) (3 : Int32) h0 n0 Z0 hz) hZ (hw _ (List.mem_of_getElem? (i := 139) rfl)) (hw _ (List.mem_of_getElem? (i := 3) rfl)) (by decide) (by decide)) (g := (mkF m 14 #[.val (.ref t), .val (.int lv)] [(.int (3 : Int32)), (.int lv), (.ref x)])) rfl (by rw [hml]; rfl) (argsL := [(.int lv), (.int (3 : Int32))]) (rest := [(.ref x)]) (lenOf own_pd3 rfl) rfl (by show 2 * 0 + _ ≤ _; exact Nat.le_of_eq rfl) (hb hby own_d_prog_3_method_4_14) (fun _ _ => ⟨rfl, hh3, (by decide : 0 + 0 ≤ _), (by decide : 0 + 0 ≤ _)⟩)
  dsimp only [Pt.U, Pt.locs, Pt.cells, Pt.slots] at X4 l4 y4 z4 st4 hQ4
  subst l4 y4 z4
  obtain ⟨rfl, N4q, hh4⟩ := hQ4
  have N4 := Fr.app N3 N4q
  refine own_go (S' := (T4.setTop (mkF m 17 #[.val (.ref t), .val (.int lv)] [(.int (3 : Int32)), (.ref x)]))) st4 ?_
  refine own_go (S' := (T4.setTop (mkF m 18 #[.val (.ref t), .val (.int lv)] [(.int (1 : Int32)), (.int (3 : Int32)), (.ref x)]))) (fun _ k => XS.iconst X4.here hx rfl (hb hby own_d_prog_3_method_4_17) k) ?_
  refine own_go (S' := (T4.setTop (mkF m 19 #[.val (.ref t), .val (.int lv)] [(.int (2 : Int32)), (.ref x)]))) (fun _ k => XS.isub X4.here hx rfl (hb hby own_d_prog_3_method_4_18) rfl k) ?_
  obtain ⟨cq5, kq5, q5a, q5b, q5c⟩ := isOf hZ hh4 (E_x)
  obtain ⟨_, _, ⟨T5, L5, k5, n5⟩, -, X5, ⟨Lc5, hQ5, l5, y5, z5⟩, st5⟩ := X4.interfaceBack hx (xi := (⟨"java/util/List", "get", "(I)Ljava/lang/Object;"⟩ : MethodName)) (y := (⟨"java/util/ImmutableCollections$ListN", "get", "(I)Ljava/lang/Object;"⟩ : MethodName)) hown (mvT hZ (hw _ (List.mem_of_getElem? (i := 194) rfl))) (mvT hZ (hw _ (List.mem_of_getElem? (i := 195) rfl))) (mvT hZ (hw _ (List.mem_of_getElem? (i := 196) rfl))) (mvT hZ (hw _ (List.mem_of_getElem? (i := 228) rfl))) (mvT hZ (hw _ (List.mem_of_getElem? (i := 229) rfl))) (mvT hZ (hw _ (List.mem_of_getElem? (i := 230) rfl))) (mvT hZ (hw _ (List.mem_of_getElem? (i := 231) rfl))) (mvT hZ (hw _ (List.mem_of_getElem? (i := 226) rfl))) (by decide) (backOf (W := 0) (own_gt33 l Z a0 hw x d1 d2 d3 ar k em h0 n0 Z0 E_x F0 V SE) hZ (hw _ (List.mem_of_getElem? (i := 232) rfl)) (hw _ (List.mem_of_getElem? (i := 209) rfl)) (by decide) (by decide)) q5a q5b q5c (g := (mkF m 19 #[.val (.ref t), .val (.int lv)] [(.int (2 : Int32)), (.ref x)])) rfl (by rw [hml]; rfl) (Steps.refl _) (argsL := [(.int (2 : Int32))]) (rest := []) (lenOf own_pd17 rfl) rfl (by show 2 * 0 + _ ≤ _; exact Nat.le_of_eq rfl) (hb hby own_d_prog_3_method_4_19) (fun _ _ => ⟨rfl, hh4, (by decide : 0 + 0 ≤ _), (by decide : 0 + 0 ≤ _)⟩)
  dsimp only [Pt.U, Pt.locs, Pt.cells, Pt.slots] at X5 l5 y5 z5 st5 hQ5
  subst l5 y5 z5
  obtain ⟨rfl, N5q, hh5⟩ := hQ5
  have N5 := Fr.app N4 N5q
  refine own_via (S' := (T5.setTop (mkF m 24 #[.val (.ref t), .val (.int lv)] [(.ref d3)]))) st5 ?_
  obtain ⟨T6, X6, e6, st6⟩ := castY X5 hx hZ hown (hw _ (List.mem_of_getElem? (i := 202) rfl)) hh5 (Ins.self Ed) (g := (mkF m 24 #[.val (.ref t), .val (.int lv)] [(.ref d3)])) rfl rfl (hb hby own_d_prog_3_method_4_24)
  refine own_go (S' := (T6.setTop (mkF m 27 #[.val (.ref t), .val (.int lv)] [(.ref d3)]))) st6 ?_
  refine own_retA X6 hx hlk hret rfl rfl (hb hby own_d_prog_3_method_4_27) ?_ (by decide) (by decide)
  rw [e6]
  exact ⟨rfl, N5, rfl⟩
set_option maxRecDepth 65536 in
set_option maxHeartbeats 40000000 in
theorem own_rm0 (l : Launch) (Z : State) (a0 : Array Value) (hw : ∀ d ∈ tables_1, d.before a0 Z = true) (sz : Int32) (lv : Int32) (dd em mr : Addr) (kd : ClassId) (h0 : Heap) (n0 : Nat) (Z0 : n0 ≤ h0.size) (SD : Sta Z h0 "java/util/ArrayList" "DEFAULTCAPACITY_EMPTY_ELEMENTDATA" "[Ljava/lang/Object;" (.ref dd)) (SE : Sta Z h0 "java/util/ImmutableCollections" "EMPTY" "Ljava/lang/Object;" (.ref em)) (Vd : Arv Z h0 dd kd (.object "java/lang/Object") 0 [] .null) (Em : Exa Z h0 em "java/lang/Object") (mw : own_Mir Z mr) :
    own_C l Z x code maxLocals ret tables_1 room_1 #[(.int sz), (.int lv)] h0 (own_Q0 n0) := by
  refine MetFree.of_bodySF (plainFor_of_name own_pn13) hisR ?_
  intro p e s m args below meth c s₁ Bd hml0 hP hK
  obtain ⟨rfl, hZ, hh⟩ := hP
  have hx := Bd.exec
  have hby := Bd.bytes
  have hlk := Bd.notSynchronized
  have hret := Bd.returns
  have hml : c.maxLocals = 12 := hml0
  have hown : s.vm.findClass "com/example/topicd/topicd/broker/DelayLevelsDelayPinLaw" = some m.cls := findClass_of_methodNamed Bd.named
  have hnm := (name_of_methodNamed Bd.named Bd.method).1
  have X0 : Stand p l e room_1 s m #[(.int sz), (.int lv)] below meth c s₁ [] 0 0 := Stand.of_body Bd
  have e0 : s₁.heap = h0 := by rw [← hh, Bd.state]; rfl
  have N0 := Fr.nil n0
  refine own_open (own_ef14 m sz lv) ?_
  refine own_go (S' := (s₁.setTop (mkF m 1 #[.val (.int sz), .val (.int lv), .unset, .unset, .unset, .unset, .unset, .unset, .unset, .unset, .unset, .unset] [(.int (1 : Int32))]))) (fun _ k => XS.iconst X0.here hx rfl (hb hby at_0) k) ?_
  refine own_go (S' := (s₁.setTop (mkF m 2 #[.val (.int sz), .val (.int lv), .unset, .unset, .unset, .unset, .unset, .unset, .unset, .unset, .unset, .unset] [(.int sz), (.int (1 : Int32))]))) (fun _ k => XS.iloadN X0.here hx rfl (hb hby at_1) rfl  k) ?_
  refine own_go (S' := (s₁.setTop (mkF m 4 #[.val (.int sz), .val (.int lv), .unset, .unset, .unset, .unset, .unset, .unset, .unset, .unset, .unset, .unset] [(.int (2147483647 : Int32)), (.int sz), (.int (1 : Int32))]))) (fun _ k => X0.ldcInt hx hown (mvT hZ (hw _ (List.mem_of_getElem? (i := 0) rfl))) (g := (mkF m 2 #[.val (.int sz), .val (.int lv), .unset, .unset, .unset, .unset, .unset, .unset, .unset, .unset, .unset, .unset] [(.int sz), (.int (1 : Int32))])) rfl (hb hby at_2) _ k) ?_
  refine own_go (S' := (s₁.setTop (mkF m 5 #[.val (.int sz), .val (.int lv), .unset, .unset, .unset, .unset, .unset, .unset, .unset, .unset, .unset, .unset] [(.int (sz &&& (2147483647 : Int32))), (.int (1 : Int32))]))) (fun _ k => XS.iand X0.here hx rfl (hb hby at_4) rfl k) ?_
  refine own_go (S' := (s₁.setTop (mkF m 6 #[.val (.int sz), .val (.int lv), .unset, .unset, .unset, .unset, .unset, .unset, .unset, .unset, .unset, .unset] [(.int (3 : Int32)), (.int (sz &&& (2147483647 : Int32))), (.int (1 : Int32))]))) (fun _ k => XS.iconst X0.here hx rfl (hb hby at_5) k) ?_
  refine own_go (S' := (s₁.setTop (mkF m 7 #[.val (.int sz), .val (.int lv), .unset, .unset, .unset, .unset, .unset, .unset, .unset, .unset, .unset, .unset] [(.int ((sz &&& (2147483647 : Int32)) % (3 : Int32))), (.int (1 : Int32))]))) (fun _ k => iremM X0 hx rfl (hb hby at_6) rfl (by decide) k) ?_
  refine own_go (S' := (s₁.setTop (mkF m 8 #[.val (.int sz), .val (.int lv), .unset, .unset, .unset, .unset, .unset, .unset, .unset, .unset, .unset, .unset] [(.int ((1 : Int32) + ((sz &&& (2147483647 : Int32)) % (3 : Int32))))]))) (fun _ k => XS.iadd X0.here hx rfl (hb hby at_7) rfl k) ?_
  refine own_go (S' := (s₁.setTop (mkF m 9 #[.val (.int sz), .val (.int lv), .val (.int ((1 : Int32) + ((sz &&& (2147483647 : Int32)) % (3 : Int32)))), .unset, .unset, .unset, .unset, .unset, .unset, .unset, .unset, .unset] []))) (fun _ k => XS.istoreN X0.here hx rfl (hb hby at_8) rfl (l' := #[.val (.int sz), .val (.int lv), .val (.int ((1 : Int32) + ((sz &&& (2147483647 : Int32)) % (3 : Int32)))), .unset, .unset, .unset, .unset, .unset, .unset, .unset, .unset, .unset]) rfl k) ?_
  rcases own_n3 sz with q | q | q <;> rw [q]
  · skip
    refine own_go (S' := (s₁.setTop (mkF m 10 #[.val (.int sz), .val (.int lv), .val (.int (1 : Int32)), .unset, .unset, .unset, .unset, .unset, .unset, .unset, .unset, .unset] [(.int (1 : Int32))]))) (fun _ k => XS.iconst X0.here hx rfl (hb hby at_9) k) ?_
    refine own_go (S' := (s₁.setTop (mkF m 11 #[.val (.int sz), .val (.int lv), .val (.int (1 : Int32)), .unset, .unset, .unset, .unset, .unset, .unset, .unset, .unset, .unset] [(.int lv), (.int (1 : Int32))]))) (fun _ k => XS.iloadN X0.here hx rfl (hb hby at_10) rfl  k) ?_
    refine own_go (S' := (s₁.setTop (mkF m 13 #[.val (.int sz), .val (.int lv), .val (.int (1 : Int32)), .unset, .unset, .unset, .unset, .unset, .unset, .unset, .unset, .unset] [(.int (2147483647 : Int32)), (.int lv), (.int (1 : Int32))]))) (fun _ k => X0.ldcInt hx hown (mvT hZ (hw _ (List.mem_of_getElem? (i := 0) rfl))) (g := (mkF m 11 #[.val (.int sz), .val (.int lv), .val (.int (1 : Int32)), .unset, .unset, .unset, .unset, .unset, .unset, .unset, .unset, .unset] [(.int lv), (.int (1 : Int32))])) rfl (hb hby at_11) _ k) ?_
    refine own_go (S' := (s₁.setTop (mkF m 14 #[.val (.int sz), .val (.int lv), .val (.int (1 : Int32)), .unset, .unset, .unset, .unset, .unset, .unset, .unset, .unset, .unset] [(.int (lv &&& (2147483647 : Int32))), (.int (1 : Int32))]))) (fun _ k => XS.iand X0.here hx rfl (hb hby at_13) rfl k) ?_
    obtain ⟨_, _, ⟨T1, L1, k1, n1⟩, -, X1, ⟨Lc1, hQ1, l1, y1, z1⟩, st1⟩ := Jvm.LawKit.callS X0 hx (y := (⟨"java/lang/Math", "max", "(II)I"⟩ : MethodName)) hown (mvT hZ (hw _ (List.mem_of_getElem? (i := 1) rfl))) (mvT hZ (hw _ (List.mem_of_getElem? (i := 2) rfl))) (mvT hZ (hw _ (List.mem_of_getElem? (i := 3) rfl))) (mvT hZ (hw _ (List.mem_of_getElem? (i := 4) rfl))) (by decide) (backOf (W := 0) (own_max l Z a0 hw (lv &&& (2147483647 : Int32)) h0 n0 Z0) hZ (hw _ (List.mem_of_getElem? (i := 4) rfl)) (hw _ (List.mem_of_getElem? (i := 3) rfl)) (by decide) (by decide)) (g := (mkF m 14 #[.val (.int sz), .val (.int lv), .val (.int (1 : Int32)), .unset, .unset, .unset, .unset, .unset, .unset, .unset, .unset, .unset] [(.int (lv &&& (2147483647 : Int32))), (.int (1 : Int32))])) rfl (by rw [hml]; rfl) (argsL := [(.int (1 : Int32)), (.int (lv &&& (2147483647 : Int32)))]) (rest := []) (lenOf own_pd3 rfl) rfl (by show 2 * 0 + _ ≤ _; exact Nat.le_of_eq rfl) (hb hby at_14) (fun _ _ => ⟨rfl, e0, (by decide : 0 + 0 ≤ _), (by decide : 0 + 0 ≤ _)⟩)
    dsimp only [Pt.U, Pt.locs, Pt.cells, Pt.slots] at X1 l1 y1 z1 st1 hQ1
    subst l1 y1 z1
    obtain ⟨z1, rfl, N1q, hh1, hz1⟩ := hQ1
    have N1 := Fr.app N0 N1q
    refine own_go (S' := (T1.setTop (mkF m 17 #[.val (.int sz), .val (.int lv), .val (.int (1 : Int32)), .unset, .unset, .unset, .unset, .unset, .unset, .unset, .unset, .unset] [(.int z1)]))) st1 ?_
    refine own_go (S' := (T1.setTop (mkF m 18 #[.val (.int sz), .val (.int lv), .val (.int (1 : Int32)), .val (.int z1), .unset, .unset, .unset, .unset, .unset, .unset, .unset, .unset] []))) (fun _ k => XS.istoreN X1.here hx rfl (hb hby at_17) rfl (l' := #[.val (.int sz), .val (.int lv), .val (.int (1 : Int32)), .val (.int z1), .unset, .unset, .unset, .unset, .unset, .unset, .unset, .unset]) rfl k) ?_
    refine own_go (S' := (T1.setTop (mkF m 19 #[.val (.int sz), .val (.int lv), .val (.int (1 : Int32)), .val (.int z1), .unset, .unset, .unset, .unset, .unset, .unset, .unset, .unset] [(.long (1 : Int64))]))) (fun _ k => XS.lconst X1.here hx rfl (hb hby at_18) k) ?_
    obtain ⟨_, _, ⟨T2, L2, k2, n2⟩, -, X2, ⟨Lc2, hQ2, l2, y2, z2⟩, st2⟩ := Jvm.LawKit.callS X1 hx (y := (⟨"java/time/Duration", "ofSeconds", "(J)Ljava/time/Duration;"⟩ : MethodName)) hown (mvT hZ (hw _ (List.mem_of_getElem? (i := 5) rfl))) (mvT hZ (hw _ (List.mem_of_getElem? (i := 6) rfl))) (mvT hZ (hw _ (List.mem_of_getElem? (i := 7) rfl))) (mvT hZ (hw _ (List.mem_of_getElem? (i := 8) rfl))) (by decide) (backOf (W := 0) (own_os1 l Z a0 hw h0 n0 (Nat.le_trans Z0 (Keep.refl h0 []).1)) hZ (hw _ (List.mem_of_getElem? (i := 8) rfl)) (hw _ (List.mem_of_getElem? (i := 7) rfl)) (by decide) (by decide)) (g := (mkF m 19 #[.val (.int sz), .val (.int lv), .val (.int (1 : Int32)), .val (.int z1), .unset, .unset, .unset, .unset, .unset, .unset, .unset, .unset] [(.long (1 : Int64))])) rfl (by rw [hml]; rfl) (argsL := [(.long (1 : Int64))]) (rest := []) (lenOf own_pd18 rfl) rfl (by show 2 * 0 + _ ≤ _; exact Nat.le_of_eq rfl) (hb hby at_19) (fun _ _ => ⟨rfl, hh1, (by decide : 0 + 1 ≤ _), (by decide : 0 + 2 ≤ _)⟩)
    dsimp only [Pt.U, Pt.locs, Pt.cells, Pt.slots] at X2 l2 y2 z2 st2 hQ2
    subst l2 y2 z2
    obtain ⟨d1, rfl, N2q, Kc2, Ec2, sc2⟩ := hQ2
    have N2 := Fr.app N1 N2q
    refine own_go (S' := (T2.setTop (mkF m 22 #[.val (.int sz), .val (.int lv), .val (.int (1 : Int32)), .val (.int z1), .unset, .unset, .unset, .unset, .unset, .unset, .unset, .unset] [(.ref d1)]))) st2 ?_
    have c3_SD := own_Sk SD Kc2 all0
    have c3_SE := own_Sk SE Kc2 all0
    have c3_Vd := Vd.keep Kc2 nin0
    have c3_Em := Em.keep Kc2
    have K2x := (Keep.refl h0 []).trans Kc2 all0
    refine own_go (S' := (T2.setTop (mkF m 24 #[.val (.int sz), .val (.int lv), .val (.int (1 : Int32)), .val (.int z1), .val (.ref d1), .unset, .unset, .unset, .unset, .unset, .unset, .unset] []))) (fun _ k => XS.astore X2.here hx rfl (hb hby at_22) rfl rfl (l' := #[.val (.int sz), .val (.int lv), .val (.int (1 : Int32)), .val (.int z1), .val (.ref d1), .unset, .unset, .unset, .unset, .unset, .unset, .unset]) rfl k) ?_
    refine own_go (S' := (T2.setTop (mkF m 27 #[.val (.int sz), .val (.int lv), .val (.int (1 : Int32)), .val (.int z1), .val (.ref d1), .unset, .unset, .unset, .unset, .unset, .unset, .unset] [(.long (2 : Int64))]))) (fun _ k => X2.ldc2Long hx hown (mvT hZ (hw _ (List.mem_of_getElem? (i := 25) rfl))) (g := (mkF m 24 #[.val (.int sz), .val (.int lv), .val (.int (1 : Int32)), .val (.int z1), .val (.ref d1), .unset, .unset, .unset, .unset, .unset, .unset, .unset] [])) rfl (hb hby at_24) _ k) ?_
    obtain ⟨_, _, ⟨T4, L4, k4, n4⟩, -, X4, ⟨Lc4, hQ4, l4, y4, z4⟩, st4⟩ := Jvm.LawKit.callS X2 hx (y := (⟨"java/time/Duration", "ofSeconds", "(J)Ljava/time/Duration;"⟩ : MethodName)) hown (mvT hZ (hw _ (List.mem_of_getElem? (i := 5) rfl))) (mvT hZ (hw _ (List.mem_of_getElem? (i := 6) rfl))) (mvT hZ (hw _ (List.mem_of_getElem? (i := 7) rfl))) (mvT hZ (hw _ (List.mem_of_getElem? (i := 8) rfl))) (by decide) (backOf (W := 0) (own_os2 l Z a0 hw T2.heap n0 (Nat.le_trans Z0 K2x.1)) hZ (hw _ (List.mem_of_getElem? (i := 8) rfl)) (hw _ (List.mem_of_getElem? (i := 7) rfl)) (by decide) (by decide)) (g := (mkF m 27 #[.val (.int sz), .val (.int lv), .val (.int (1 : Int32)), .val (.int z1), .val (.ref d1), .unset, .unset, .unset, .unset, .unset, .unset, .unset] [(.long (2 : Int64))])) rfl (by rw [hml]; rfl) (argsL := [(.long (2 : Int64))]) (rest := []) (lenOf own_pd18 rfl) rfl (by show 2 * 0 + _ ≤ _; exact Nat.le_of_eq rfl) (hb hby at_27) (fun _ _ => ⟨rfl, rfl, (by decide : 1 + 1 ≤ _), (by decide : 2 + 2 ≤ _)⟩)
    dsimp only [Pt.U, Pt.locs, Pt.cells, Pt.slots] at X4 l4 y4 z4 st4 hQ4
    subst l4 y4 z4
    obtain ⟨d2, rfl, N4q, Kc4, Ec4, sc4⟩ := hQ4
    have N4 := Fr.app N2 N4q
    refine own_go (S' := (T4.setTop (mkF m 30 #[.val (.int sz), .val (.int lv), .val (.int (1 : Int32)), .val (.int z1), .val (.ref d1), .unset, .unset, .unset, .unset, .unset, .unset, .unset] [(.ref d2)]))) st4 ?_
    have nm : ¬ d2 = em := Ne.symm (Nat.ne_of_lt (Nat.lt_of_lt_of_le c3_Em.lt sc4))
    have c5_SD := own_Sk c3_SD Kc4 all0
    have c5_SE := own_Sk c3_SE Kc4 all0
    have c5_Vd := c3_Vd.keep Kc4 nin0
    have c5_Em := c3_Em.keep Kc4
    have c5_Ed1 := Ec2.keep Kc4
    have K4x := K2x.trans Kc4 all0
    refine own_go (S' := (T4.setTop (mkF m 32 #[.val (.int sz), .val (.int lv), .val (.int (1 : Int32)), .val (.int z1), .val (.ref d1), .val (.ref d2), .unset, .unset, .unset, .unset, .unset, .unset] []))) (fun _ k => XS.astore X4.here hx rfl (hb hby at_30) rfl rfl (l' := #[.val (.int sz), .val (.int lv), .val (.int (1 : Int32)), .val (.int z1), .val (.ref d1), .val (.ref d2), .unset, .unset, .unset, .unset, .unset, .unset]) rfl k) ?_
    refine own_go (S' := (T4.setTop (mkF m 35 #[.val (.int sz), .val (.int lv), .val (.int (1 : Int32)), .val (.int z1), .val (.ref d1), .val (.ref d2), .unset, .unset, .unset, .unset, .unset, .unset] [(.long (3 : Int64))]))) (fun _ k => X4.ldc2Long hx hown (mvT hZ (hw _ (List.mem_of_getElem? (i := 26) rfl))) (g := (mkF m 32 #[.val (.int sz), .val (.int lv), .val (.int (1 : Int32)), .val (.int z1), .val (.ref d1), .val (.ref d2), .unset, .unset, .unset, .unset, .unset, .unset] [])) rfl (hb hby at_32) _ k) ?_
    obtain ⟨_, _, ⟨T6, L6, k6, n6⟩, -, X6, ⟨Lc6, hQ6, l6, y6, z6⟩, st6⟩ := Jvm.LawKit.callS X4 hx (y := (⟨"java/time/Duration", "ofSeconds", "(J)Ljava/time/Duration;"⟩ : MethodName)) hown (mvT hZ (hw _ (List.mem_of_getElem? (i := 5) rfl))) (mvT hZ (hw _ (List.mem_of_getElem? (i := 6) rfl))) (mvT hZ (hw _ (List.mem_of_getElem? (i := 7) rfl))) (mvT hZ (hw _ (List.mem_of_getElem? (i := 8) rfl))) (by decide) (backOf (W := 0) (own_os3 l Z a0 hw T4.heap n0 (Nat.le_trans Z0 K4x.1)) hZ (hw _ (List.mem_of_getElem? (i := 8) rfl)) (hw _ (List.mem_of_getElem? (i := 7) rfl)) (by decide) (by decide)) (g := (mkF m 35 #[.val (.int sz), .val (.int lv), .val (.int (1 : Int32)), .val (.int z1), .val (.ref d1), .val (.ref d2), .unset, .unset, .unset, .unset, .unset, .unset] [(.long (3 : Int64))])) rfl (by rw [hml]; rfl) (argsL := [(.long (3 : Int64))]) (rest := []) (lenOf own_pd18 rfl) rfl (by show 2 * 0 + _ ≤ _; exact Nat.le_of_eq rfl) (hb hby at_35) (fun _ _ => ⟨rfl, rfl, (by decide : 2 + 1 ≤ _), (by decide : 4 + 2 ≤ _)⟩)
    dsimp only [Pt.U, Pt.locs, Pt.cells, Pt.slots] at X6 l6 y6 z6 st6 hQ6
    subst l6 y6 z6
    obtain ⟨d3, rfl, N6q, Kc6, Ec6, sc6⟩ := hQ6
    have N6 := Fr.app N4 N6q
    refine own_go (S' := (T6.setTop (mkF m 38 #[.val (.int sz), .val (.int lv), .val (.int (1 : Int32)), .val (.int z1), .val (.ref d1), .val (.ref d2), .unset, .unset, .unset, .unset, .unset, .unset] [(.ref d3)]))) st6 ?_
    have c7_SD := own_Sk c5_SD Kc6 all0
    have c7_SE := own_Sk c5_SE Kc6 all0
    have c7_Vd := c5_Vd.keep Kc6 nin0
    have c7_Em := c5_Em.keep Kc6
    have c7_Ed1 := c5_Ed1.keep Kc6
    have c7_Ed2 := Ec4.keep Kc6
    have K6x := K4x.trans Kc6 all0
    refine own_go (S' := (T6.setTop (mkF m 40 #[.val (.int sz), .val (.int lv), .val (.int (1 : Int32)), .val (.int z1), .val (.ref d1), .val (.ref d2), .val (.ref d3), .unset, .unset, .unset, .unset, .unset] []))) (fun _ k => XS.astore X6.here hx rfl (hb hby at_38) rfl rfl (l' := #[.val (.int sz), .val (.int lv), .val (.int (1 : Int32)), .val (.int z1), .val (.ref d1), .val (.ref d2), .val (.ref d3), .unset, .unset, .unset, .unset, .unset]) rfl k) ?_
    obtain ⟨T8, h8, X8, e8, E8, A8, D8, -, st8⟩ := newO X6 hx hZ hown (hw _ (List.mem_of_getElem? (i := 27) rfl)) (hw _ (List.mem_of_getElem? (i := 28) rfl)) (hw _ (List.mem_of_getElem? (i := 29) rfl)) rfl (g := (mkF m 40 #[.val (.int sz), .val (.int lv), .val (.int (1 : Int32)), .val (.int z1), .val (.ref d1), .val (.ref d2), .val (.ref d3), .unset, .unset, .unset, .unset, .unset] [])) rfl (hb hby at_40) (by decide) (by decide)
    obtain ⟨a, g8⟩ : ∃ z, z = T6.heap.size := ⟨_, rfl⟩
    rw [← g8] at A8 D8 st8
    refine own_go (S' := (T8.setTop (mkF m 43 #[.val (.int sz), .val (.int lv), .val (.int (1 : Int32)), .val (.int z1), .val (.ref d1), .val (.ref d2), .val (.ref d3), .unset, .unset, .unset, .unset, .unset] [(.ref a)]))) st8 ?_
    have sz_a : h0.size ≤ a := Nat.le_trans K6x.1 (Nat.le_of_eq g8.symm)
    have gn_a : n0 ≤ a := Nat.le_trans Z0 sz_a
    have ne_dd_a : dd ≠ a := Nat.ne_of_lt (Nat.lt_of_lt_of_le c7_Vd.lt (Nat.le_of_eq g8.symm))
    have ne_em_a : em ≠ a := Nat.ne_of_lt (Nat.lt_of_lt_of_le c7_Em.lt (Nat.le_of_eq g8.symm))
    have ne_d1_a : d1 ≠ a := Nat.ne_of_lt (Nat.lt_of_lt_of_le c7_Ed1.lt (Nat.le_of_eq g8.symm))
    have ne_d2_a : d2 ≠ a := Nat.ne_of_lt (Nat.lt_of_lt_of_le c7_Ed2.lt (Nat.le_of_eq g8.symm))
    have ne_d3_a : d3 ≠ a := Nat.ne_of_lt (Nat.lt_of_lt_of_le Ec6.lt (Nat.le_of_eq g8.symm))
    have c9_SD := c7_SD.ext E8
    have c9_SE := c7_SE.ext E8
    have c9_Vd := c7_Vd.ext E8
    have c9_Em := c7_Em.ext E8
    have c9_Ed1 := c7_Ed1.ext E8
    have c9_Ed2 := c7_Ed2.ext E8
    have c9_Ed3 := Ec6.ext E8
    have K8 := K6x.ext E8
    refine own_go (S' := (T8.setTop (mkF m 44 #[.val (.int sz), .val (.int lv), .val (.int (1 : Int32)), .val (.int z1), .val (.ref d1), .val (.ref d2), .val (.ref d3), .unset, .unset, .unset, .unset, .unset] [(.ref a), (.ref a)]))) (fun _ k => XS.dup X8.here hx rfl (hb hby at_43) rfl rfl k) ?_
    obtain ⟨_, _, ⟨T10, L10, k10, n10⟩, -, X10, ⟨Lc10, hQ10, l10, y10, z10⟩, st10⟩ := X8.specialBack hx (y := (⟨"java/util/ArrayList", "<init>", "()V"⟩ : MethodName)) rfl hown (mvT hZ (hw _ (List.mem_of_getElem? (i := 30) rfl))) (mvT hZ (hw _ (List.mem_of_getElem? (i := 31) rfl))) (mvT hZ (hw _ (List.mem_of_getElem? (i := 32) rfl))) (by decide) (backOf (W := 1) (own_ini l Z a0 hw a dd h8 n0 (Nat.le_trans Z0 K8.1) A8 (D8 (Or.inl (hw _ (List.mem_of_getElem? (i := 47) rfl))) (ty := .int) (by decide)) (D8 (Or.inl (hw _ (List.mem_of_getElem? (i := 50) rfl))) (ty := (.array (.object "java/lang/Object"))) (by decide)) (D8 (Or.inl (hw _ (List.mem_of_getElem? (i := 59) rfl))) (ty := .int) (by decide)) c9_SD gn_a) hZ (hw _ (List.mem_of_getElem? (i := 32) rfl)) (hw _ (List.mem_of_getElem? (i := 29) rfl)) (by decide) (by decide)) (g := (mkF m 44 #[.val (.int sz), .val (.int lv), .val (.int (1 : Int32)), .val (.int z1), .val (.ref d1), .val (.ref d2), .val (.ref d3), .unset, .unset, .unset, .unset, .unset] [(.ref a), (.ref a)])) rfl (by rw [hml]; rfl) (Steps.refl _) (a := a) (argsL := []) (rest := [(.ref a)]) (lenOf own_pd2 rfl) rfl (by show 2 * 0 + _ ≤ _; exact Nat.le_of_eq rfl) (hb hby at_44) (fun _ _ => ⟨rfl, e8, (by decide : 4 + 0 ≤ _), (by decide : 9 + 0 ≤ _)⟩)
    dsimp only [Pt.U, Pt.locs, Pt.cells, Pt.slots] at X10 l10 y10 z10 st10 hQ10
    subst l10 y10 z10
    obtain ⟨rfl, N10q, Kc10, A10c⟩ := hQ10
    have N10 := Fr.app N6 N10q
    refine own_via (S' := (T10.setTop (mkF m 47 #[.val (.int sz), .val (.int lv), .val (.int (1 : Int32)), .val (.int z1), .val (.ref d1), .val (.ref d2), .val (.ref d3), .unset, .unset, .unset, .unset, .unset] [(.ref a)]))) st10 ?_
    have c11_SD := own_Sk c9_SD Kc10 (allS A8.own_nst all0)
    have c11_SE := own_Sk c9_SE Kc10 (allS A8.own_nst all0)
    have c11_Vd := c9_Vd.keep Kc10 (ninS ne_dd_a nin0)
    have c11_Em := c9_Em.keep Kc10
    have c11_Ed1 := c9_Ed1.keep Kc10
    have c11_Ed2 := c9_Ed2.keep Kc10
    have c11_Ed3 := c9_Ed3.keep Kc10
    have K10x := K8.trans Kc10 (allS (Or.inr sz_a) all0)
    obtain ⟨E12a, F12m, F12e, F12s⟩ := A10c
    refine own_go (S' := (T10.setTop (mkF m 49 #[.val (.int sz), .val (.int lv), .val (.int (1 : Int32)), .val (.int z1), .val (.ref d1), .val (.ref d2), .val (.ref d3), .val (.ref a), .unset, .unset, .unset, .unset] []))) (fun _ k => XS.astore X10.here hx rfl (hb hby at_47) rfl rfl (l' := #[.val (.int sz), .val (.int lv), .val (.int (1 : Int32)), .val (.int z1), .val (.ref d1), .val (.ref d2), .val (.ref d3), .val (.ref a), .unset, .unset, .unset, .unset]) rfl k) ?_
    refine own_go (S' := (T10.setTop (mkF m 51 #[.val (.int sz), .val (.int lv), .val (.int (1 : Int32)), .val (.int z1), .val (.ref d1), .val (.ref d2), .val (.ref d3), .val (.ref a), .unset, .unset, .unset, .unset] [(.ref a)]))) (fun _ k => XS.aload X10.here hx rfl (hb hby at_49) rfl rfl  k) ?_
    refine own_go (S' := (T10.setTop (mkF m 53 #[.val (.int sz), .val (.int lv), .val (.int (1 : Int32)), .val (.int z1), .val (.ref d1), .val (.ref d2), .val (.ref d3), .val (.ref a), .unset, .unset, .unset, .unset] [(.ref d1), (.ref a)]))) (fun _ k => XS.aload X10.here hx rfl (hb hby at_51) rfl rfl  k) ?_
    obtain ⟨cq13, kq13, q13a, q13b, q13c⟩ := isOf hZ rfl (E12a)
    obtain ⟨_, _, ⟨T13, L13, k13, n13⟩, -, X13, ⟨Lc13, hQ13, l13, y13, z13⟩, st13⟩ := X10.virtualBack hx (y := (⟨"java/util/ArrayList", "add", "(Ljava/lang/Object;)Z"⟩ : MethodName)) (z := (⟨"java/util/ArrayList", "add", "(Ljava/lang/Object;)Z"⟩ : MethodName)) hown (mvT hZ (hw _ (List.mem_of_getElem? (i := 51) rfl))) (mvT hZ (hw _ (List.mem_of_getElem? (i := 52) rfl))) (notFace_of_selects (args := #[]) (mvT hZ (hw _ (List.mem_of_getElem? (i := 54) rfl)))) (mvT hZ (hw _ (List.mem_of_getElem? (i := 54) rfl))) (mvT hZ (hw _ (List.mem_of_getElem? (i := 53) rfl))) (by decide) (backOf (W := 0) (own_add1 l Z a0 hw a d1 dd kd T10.heap n0 (Nat.le_trans Z0 K10x.1) E12a F12m F12e F12s c11_SD c11_Vd c11_Ed1 gn_a (Ne.symm ne_dd_a)) hZ (hw _ (List.mem_of_getElem? (i := 55) rfl)) (hw _ (List.mem_of_getElem? (i := 29) rfl)) (by decide) (by decide)) q13a q13c (g := (mkF m 53 #[.val (.int sz), .val (.int lv), .val (.int (1 : Int32)), .val (.int z1), .val (.ref d1), .val (.ref d2), .val (.ref d3), .val (.ref a), .unset, .unset, .unset, .unset] [(.ref d1), (.ref a)])) rfl (by rw [hml]; rfl) (Steps.refl _) (argsL := [(.ref d1)]) (rest := []) (lenOf own_pd19 rfl) rfl (by show 2 * 0 + _ ≤ _; exact Nat.le_of_eq rfl) (hb hby at_53) (fun _ _ => ⟨rfl, rfl, (by decide : 4 + 1 ≤ _), (by decide : 9 + 10 ≤ _)⟩)
    dsimp only [Pt.U, Pt.locs, Pt.cells, Pt.slots] at X13 l13 y13 z13 st13 hQ13
    subst l13 y13 z13
    obtain ⟨rfl, N13q, Kc13, ea, ke, A13c, V13c, O13c, X13c, s13c⟩ := hQ13
    have N13 := Fr.app N10 N13q
    refine own_via (S' := (T13.setTop (mkF m 56 #[.val (.int sz), .val (.int lv), .val (.int (1 : Int32)), .val (.int z1), .val (.ref d1), .val (.ref d2), .val (.ref d3), .val (.ref a), .unset, .unset, .unset, .unset] [(.int (1 : Int32))]))) st13 ?_
    have sz_ea : h0.size ≤ ea := Nat.le_trans K10x.1 s13c
    have ne_a_ea : a ≠ ea := Nat.ne_of_lt (Nat.lt_of_lt_of_le E12a.lt s13c)
    have c14_SE := own_Sk c11_SE Kc13 (allS E12a.own_nst all0)
    have c14_Em := c11_Em.keep Kc13
    have c14_Ed1 := c11_Ed1.keep Kc13
    have c14_Ed2 := c11_Ed2.keep Kc13
    have c14_Ed3 := c11_Ed3.keep Kc13
    have K13x := K10x.trans Kc13 (allS (Or.inr sz_a) all0)
    obtain ⟨E15a, F15m, F15e, F15s⟩ := A13c
    refine own_go (S' := (T13.setTop (mkF m 57 #[.val (.int sz), .val (.int lv), .val (.int (1 : Int32)), .val (.int z1), .val (.ref d1), .val (.ref d2), .val (.ref d3), .val (.ref a), .unset, .unset, .unset, .unset] []))) (fun _ k => XS.pop X13.here hx rfl (hb hby at_56) rfl rfl k) ?_
    refine own_go (S' := (T13.setTop (mkF m 58 #[.val (.int sz), .val (.int lv), .val (.int (1 : Int32)), .val (.int z1), .val (.ref d1), .val (.ref d2), .val (.ref d3), .val (.ref a), .unset, .unset, .unset, .unset] [(.int (1 : Int32))]))) (fun _ k => XS.iloadN X13.here hx rfl (hb hby at_57) rfl  k) ?_
    refine own_go (S' := (T13.setTop (mkF m 59 #[.val (.int sz), .val (.int lv), .val (.int (1 : Int32)), .val (.int z1), .val (.ref d1), .val (.ref d2), .val (.ref d3), .val (.ref a), .unset, .unset, .unset, .unset] [(.int (2 : Int32)), (.int (1 : Int32))]))) (fun _ k => XS.iconst X13.here hx rfl (hb hby at_58) k) ?_
    refine own_go (S' := (T13.setTop (mkF m 70 #[.val (.int sz), .val (.int lv), .val (.int (1 : Int32)), .val (.int z1), .val (.ref d1), .val (.ref d2), .val (.ref d3), .val (.ref a), .unset, .unset, .unset, .unset] []))) (fun _ k => XS.icmpYes X13.here hx rfl (pc0 := 59) (pc' := 70) rfl (hb hby at_59) rfl (tlt (by decide)).1 (by decide) (by decide) k) ?_
    refine own_go (S' := (T13.setTop (mkF m 71 #[.val (.int sz), .val (.int lv), .val (.int (1 : Int32)), .val (.int z1), .val (.ref d1), .val (.ref d2), .val (.ref d3), .val (.ref a), .unset, .unset, .unset, .unset] [(.int (1 : Int32))]))) (fun _ k => XS.iloadN X13.here hx rfl (hb hby at_70) rfl  k) ?_
    refine own_go (S' := (T13.setTop (mkF m 72 #[.val (.int sz), .val (.int lv), .val (.int (1 : Int32)), .val (.int z1), .val (.ref d1), .val (.ref d2), .val (.ref d3), .val (.ref a), .unset, .unset, .unset, .unset] [(.int (3 : Int32)), (.int (1 : Int32))]))) (fun _ k => XS.iconst X13.here hx rfl (hb hby at_71) k) ?_
    refine own_go (S' := (T13.setTop (mkF m 83 #[.val (.int sz), .val (.int lv), .val (.int (1 : Int32)), .val (.int z1), .val (.ref d1), .val (.ref d2), .val (.ref d3), .val (.ref a), .unset, .unset, .unset, .unset] []))) (fun _ k => XS.icmpYes X13.here hx rfl (pc0 := 72) (pc' := 83) rfl (hb hby at_72) rfl (tlt (by decide)).1 (by decide) (by decide) k) ?_
    obtain ⟨T16, h16, X16, e16, E16, A16, D16, -, st16⟩ := newO X13 hx hZ hown (hw _ (List.mem_of_getElem? (i := 79) rfl)) (hw _ (List.mem_of_getElem? (i := 80) rfl)) (hw _ (List.mem_of_getElem? (i := 81) rfl)) rfl (g := (mkF m 83 #[.val (.int sz), .val (.int lv), .val (.int (1 : Int32)), .val (.int z1), .val (.ref d1), .val (.ref d2), .val (.ref d3), .val (.ref a), .unset, .unset, .unset, .unset] [])) rfl (hb hby at_83) (by decide) (by decide)
    obtain ⟨t, g16⟩ : ∃ z, z = T13.heap.size := ⟨_, rfl⟩
    rw [← g16] at A16 D16 st16
    refine own_go (S' := (T16.setTop (mkF m 86 #[.val (.int sz), .val (.int lv), .val (.int (1 : Int32)), .val (.int z1), .val (.ref d1), .val (.ref d2), .val (.ref d3), .val (.ref a), .unset, .unset, .unset, .unset] [(.ref t)]))) st16 ?_
    have sz_t : h0.size ≤ t := Nat.le_trans K13x.1 (Nat.le_of_eq g16.symm)
    have gn_t : n0 ≤ t := Nat.le_trans Z0 sz_t
    have ne_em_t : em ≠ t := Nat.ne_of_lt (Nat.lt_of_lt_of_le c14_Em.lt (Nat.le_of_eq g16.symm))
    have ne_d1_t : d1 ≠ t := Nat.ne_of_lt (Nat.lt_of_lt_of_le c14_Ed1.lt (Nat.le_of_eq g16.symm))
    have ne_d2_t : d2 ≠ t := Nat.ne_of_lt (Nat.lt_of_lt_of_le c14_Ed2.lt (Nat.le_of_eq g16.symm))
    have ne_d3_t : d3 ≠ t := Nat.ne_of_lt (Nat.lt_of_lt_of_le c14_Ed3.lt (Nat.le_of_eq g16.symm))
    have ne_a_t : a ≠ t := Nat.ne_of_lt (Nat.lt_of_lt_of_le E15a.lt (Nat.le_of_eq g16.symm))
    have ne_ea_t : ea ≠ t := Nat.ne_of_lt (Nat.lt_of_lt_of_le V13c.lt (Nat.le_of_eq g16.symm))
    have c17_SE := c14_SE.ext E16
    have c17_Em := c14_Em.ext E16
    have c17_Ed1 := c14_Ed1.ext E16
    have c17_Ed2 := c14_Ed2.ext E16
    have c17_Ed3 := c14_Ed3.ext E16
    have c17_E_a := E15a.ext E16
    have c17_Fm := F15m.ext E16
    have c17_Fe := F15e.ext E16
    have c17_Fs := F15s.ext E16
    have c17_V := V13c.ext E16
    have c17_Ex := X13c.ext E16
    have K16 := K13x.ext E16
    refine own_go (S' := (T16.setTop (mkF m 87 #[.val (.int sz), .val (.int lv), .val (.int (1 : Int32)), .val (.int z1), .val (.ref d1), .val (.ref d2), .val (.ref d3), .val (.ref a), .unset, .unset, .unset, .unset] [(.ref t), (.ref t)]))) (fun _ k => XS.dup X16.here hx rfl (hb hby at_86) rfl rfl k) ?_
    refine own_go (S' := (T16.setTop (mkF m 89 #[.val (.int sz), .val (.int lv), .val (.int (1 : Int32)), .val (.int z1), .val (.ref d1), .val (.ref d2), .val (.ref d3), .val (.ref a), .unset, .unset, .unset, .unset] [(.ref a), (.ref t), (.ref t)]))) (fun _ k => XS.aload X16.here hx rfl (hb hby at_87) rfl rfl  k) ?_
    obtain ⟨_, _, ⟨T18, L18, k18, n18⟩, -, X18, ⟨Lc18, hQ18, l18, y18, z18⟩, st18⟩ := X16.specialBack hx (y := (⟨"com/example/topicd/topicd/broker/DelayLevels", "<init>", "(Ljava/util/List;)V"⟩ : MethodName)) rfl hown (mvT hZ (hw _ (List.mem_of_getElem? (i := 82) rfl))) (mvT hZ (hw _ (List.mem_of_getElem? (i := 83) rfl))) (mvT hZ (hw _ (List.mem_of_getElem? (i := 84) rfl))) (by decide) (backOf (W := 1) (own_dl1 l Z a0 hw t a ea d1 ke mr em h16 n0 (Nat.le_trans Z0 K16.1) c17_E_a c17_Fe c17_Fs c17_V c17_Ex c17_Ed1 c17_SE A16 (D16 (Or.inr (hw _ (List.mem_of_getElem? (i := 178) rfl))) (ty := (.object "java/util/List")) (by decide)) mw gn_t) hZ (hw _ (List.mem_of_getElem? (i := 84) rfl)) (hw _ (List.mem_of_getElem? (i := 81) rfl)) (by decide) (by decide)) (g := (mkF m 89 #[.val (.int sz), .val (.int lv), .val (.int (1 : Int32)), .val (.int z1), .val (.ref d1), .val (.ref d2), .val (.ref d3), .val (.ref a), .unset, .unset, .unset, .unset] [(.ref a), (.ref t), (.ref t)])) rfl (by rw [hml]; rfl) (Steps.refl _) (a := t) (argsL := [(.ref a)]) (rest := [(.ref t)]) (lenOf own_pd20 rfl) rfl (by show 2 * 0 + _ ≤ _; exact Nat.le_of_eq rfl) (hb hby at_89) (fun _ _ => ⟨rfl, e16, (by decide : 6 + 2 ≤ _), (by decide : 20 + 3 ≤ _)⟩)
    dsimp only [Pt.U, Pt.locs, Pt.cells, Pt.slots] at X18 l18 y18 z18 st18 hQ18
    subst l18 y18 z18
    obtain ⟨rfl, N18q, Kc18, E18c, x18, F18c, P18, s18⟩ := hQ18
    have N18 := Fr.app N13 N18q
    refine own_via (S' := (T18.setTop (mkF m 92 #[.val (.int sz), .val (.int lv), .val (.int (1 : Int32)), .val (.int z1), .val (.ref d1), .val (.ref d2), .val (.ref d3), .val (.ref a), .unset, .unset, .unset, .unset] [(.ref t)]))) st18 ?_
    have c19_SE := own_Sk c17_SE Kc18 (allS A16.own_nst all0)
    have c19_Em := c17_Em.keep Kc18
    have c19_Ed1 := c17_Ed1.keep Kc18
    have c19_Ed2 := c17_Ed2.keep Kc18
    have c19_Ed3 := c17_Ed3.keep Kc18
    have K18x := K16.trans Kc18 (allS (Or.inr sz_t) all0)
    refine own_go (S' := (T18.setTop (mkF m 94 #[.val (.int sz), .val (.int lv), .val (.int (1 : Int32)), .val (.int z1), .val (.ref d1), .val (.ref d2), .val (.ref d3), .val (.ref a), .val (.ref t), .unset, .unset, .unset] []))) (fun _ k => XS.astore X18.here hx rfl (hb hby at_92) rfl rfl (l' := #[.val (.int sz), .val (.int lv), .val (.int (1 : Int32)), .val (.int z1), .val (.ref d1), .val (.ref d2), .val (.ref d3), .val (.ref a), .val (.ref t), .unset, .unset, .unset]) rfl k) ?_
    refine own_go (S' := (T18.setTop (mkF m 96 #[.val (.int sz), .val (.int lv), .val (.int (1 : Int32)), .val (.int z1), .val (.ref d1), .val (.ref d2), .val (.ref d3), .val (.ref a), .val (.ref t), .unset, .unset, .unset] [(.ref t)]))) (fun _ k => XS.aload X18.here hx rfl (hb hby at_94) rfl rfl  k) ?_
    refine own_go (S' := (T18.setTop (mkF m 97 #[.val (.int sz), .val (.int lv), .val (.int (1 : Int32)), .val (.int z1), .val (.ref d1), .val (.ref d2), .val (.ref d3), .val (.ref a), .val (.ref t), .unset, .unset, .unset] [(.int z1), (.ref t)]))) (fun _ k => XS.iloadN X18.here hx rfl (hb hby at_96) rfl  k) ?_
    by_cases hn : (1 : Int32) < z1
    · skip
      obtain ⟨cq20, kq20, q20a, q20b, q20c⟩ := isOf hZ rfl (E18c)
      obtain ⟨_, _, ⟨T20, L20, k20, n20⟩, -, X20, ⟨Lc20, hQ20, l20, y20, z20⟩, st20⟩ := X18.virtualBack hx (y := (⟨"com/example/topicd/topicd/broker/DelayLevels", "delay", "(I)Ljava/time/Duration;"⟩ : MethodName)) (z := (⟨"com/example/topicd/topicd/broker/DelayLevels", "delay", "(I)Ljava/time/Duration;"⟩ : MethodName)) hown (mvT hZ (hw _ (List.mem_of_getElem? (i := 179) rfl))) (mvT hZ (hw _ (List.mem_of_getElem? (i := 180) rfl))) (notFace_of_selects (args := #[]) (mvT hZ (hw _ (List.mem_of_getElem? (i := 182) rfl)))) (mvT hZ (hw _ (List.mem_of_getElem? (i := 182) rfl))) (mvT hZ (hw _ (List.mem_of_getElem? (i := 181) rfl))) (by decide) (backOf (W := 0) (own_de11 l Z a0 hw t z1 x18 d1 em T18.heap n0 (Nat.le_trans Z0 K18x.1) F18c c19_Ed1 P18.1 P18.2.1 P18.2.2 c19_SE (Or.inr ⟨hn, rfl⟩)) hZ (hw _ (List.mem_of_getElem? (i := 183) rfl)) (hw _ (List.mem_of_getElem? (i := 81) rfl)) (by decide) (by decide)) q20a q20c (g := (mkF m 97 #[.val (.int sz), .val (.int lv), .val (.int (1 : Int32)), .val (.int z1), .val (.ref d1), .val (.ref d2), .val (.ref d3), .val (.ref a), .val (.ref t), .unset, .unset, .unset] [(.int z1), (.ref t)])) rfl (by rw [hml]; rfl) (Steps.refl _) (argsL := [(.int z1)]) (rest := []) (lenOf own_pd21 rfl) rfl (by show 2 * 0 + _ ≤ _; exact Nat.le_of_eq rfl) (hb hby at_97) (fun _ _ => ⟨rfl, rfl, (by decide : 8 + 0 ≤ _), (by decide : 23 + 0 ≤ _)⟩)
      dsimp only [Pt.U, Pt.locs, Pt.cells, Pt.slots] at X20 l20 y20 z20 st20 hQ20
      subst l20 y20 z20
      obtain ⟨rfl, N20q, hh20⟩ := hQ20
      have N20 := Fr.app N18 N20q
      refine own_via (S' := (T20.setTop (mkF m 100 #[.val (.int sz), .val (.int lv), .val (.int (1 : Int32)), .val (.int z1), .val (.ref d1), .val (.ref d2), .val (.ref d3), .val (.ref a), .val (.ref t), .unset, .unset, .unset] [(.ref d1)]))) st20 ?_
      refine own_go (S' := (T20.setTop (mkF m 102 #[.val (.int sz), .val (.int lv), .val (.int (1 : Int32)), .val (.int z1), .val (.ref d1), .val (.ref d2), .val (.ref d3), .val (.ref a), .val (.ref t), .val (.ref d1), .unset, .unset] []))) (fun _ k => XS.astore X20.here hx rfl (hb hby at_100) rfl rfl (l' := #[.val (.int sz), .val (.int lv), .val (.int (1 : Int32)), .val (.int z1), .val (.ref d1), .val (.ref d2), .val (.ref d3), .val (.ref a), .val (.ref t), .val (.ref d1), .unset, .unset]) rfl k) ?_
      refine own_go (S' := (T20.setTop (mkF m 103 #[.val (.int sz), .val (.int lv), .val (.int (1 : Int32)), .val (.int z1), .val (.ref d1), .val (.ref d2), .val (.ref d3), .val (.ref a), .val (.ref t), .val (.ref d1), .unset, .unset] [(.int z1)]))) (fun _ k => XS.iloadN X20.here hx rfl (hb hby at_102) rfl  k) ?_
      refine own_go (S' := (T20.setTop (mkF m 104 #[.val (.int sz), .val (.int lv), .val (.int (1 : Int32)), .val (.int z1), .val (.ref d1), .val (.ref d2), .val (.ref d3), .val (.ref a), .val (.ref t), .val (.ref d1), .unset, .unset] [(.int (1 : Int32)), (.int z1)]))) (fun _ k => XS.iloadN X20.here hx rfl (hb hby at_103) rfl  k) ?_
      refine own_go (S' := (T20.setTop (mkF m 107 #[.val (.int sz), .val (.int lv), .val (.int (1 : Int32)), .val (.int z1), .val (.ref d1), .val (.ref d2), .val (.ref d3), .val (.ref a), .val (.ref t), .val (.ref d1), .unset, .unset] []))) (fun _ k => XS.icmpNo X20.here hx rfl (hb hby at_104) rfl (tlt hn).2.2.2 k) ?_
      refine own_go (S' := (T20.setTop (mkF m 108 #[.val (.int sz), .val (.int lv), .val (.int (1 : Int32)), .val (.int z1), .val (.ref d1), .val (.ref d2), .val (.ref d3), .val (.ref a), .val (.ref t), .val (.ref d1), .unset, .unset] [(.int (1 : Int32))]))) (fun _ k => XS.iloadN X20.here hx rfl (hb hby at_107) rfl  k) ?_
      refine own_go (S' := (T20.setTop (mkF m 112 #[.val (.int sz), .val (.int lv), .val (.int (1 : Int32)), .val (.int z1), .val (.ref d1), .val (.ref d2), .val (.ref d3), .val (.ref a), .val (.ref t), .val (.ref d1), .unset, .unset] [(.int (1 : Int32))]))) (fun _ k => XS.goto X20.here hx rfl (pc0 := 108) (pc' := 112) rfl (hb hby at_108) (by decide) (by decide) k) ?_
      refine own_go (S' := (T20.setTop (mkF m 114 #[.val (.int sz), .val (.int lv), .val (.int (1 : Int32)), .val (.int z1), .val (.ref d1), .val (.ref d2), .val (.ref d3), .val (.ref a), .val (.ref t), .val (.ref d1), .val (.int (1 : Int32)), .unset] []))) (fun _ k => XS.istore X20.here hx rfl (hb hby at_112) rfl (l' := #[.val (.int sz), .val (.int lv), .val (.int (1 : Int32)), .val (.int z1), .val (.ref d1), .val (.ref d2), .val (.ref d3), .val (.ref a), .val (.ref t), .val (.ref d1), .val (.int (1 : Int32)), .unset]) rfl k) ?_
      refine own_go (S' := (T20.setTop (mkF m 116 #[.val (.int sz), .val (.int lv), .val (.int (1 : Int32)), .val (.int z1), .val (.ref d1), .val (.ref d2), .val (.ref d3), .val (.ref a), .val (.ref t), .val (.ref d1), .val (.int (1 : Int32)), .unset] [(.int (1 : Int32))]))) (fun _ k => XS.iload X20.here hx rfl (hb hby at_114) rfl  k) ?_
      refine own_go (S' := (T20.setTop (mkF m 117 #[.val (.int sz), .val (.int lv), .val (.int (1 : Int32)), .val (.int z1), .val (.ref d1), .val (.ref d2), .val (.ref d3), .val (.ref a), .val (.ref t), .val (.ref d1), .val (.int (1 : Int32)), .unset] [(.int (1 : Int32)), (.int (1 : Int32))]))) (fun _ k => XS.iconst X20.here hx rfl (hb hby at_116) k) ?_
      refine own_go (S' := (T20.setTop (mkF m 120 #[.val (.int sz), .val (.int lv), .val (.int (1 : Int32)), .val (.int z1), .val (.ref d1), .val (.ref d2), .val (.ref d3), .val (.ref a), .val (.ref t), .val (.ref d1), .val (.int (1 : Int32)), .unset] []))) (fun _ k => XS.icmpNo X20.here hx rfl (hb hby at_117) rfl (teq rfl).2 k) ?_
      refine own_go (S' := (T20.setTop (mkF m 122 #[.val (.int sz), .val (.int lv), .val (.int (1 : Int32)), .val (.int z1), .val (.ref d1), .val (.ref d2), .val (.ref d3), .val (.ref a), .val (.ref t), .val (.ref d1), .val (.int (1 : Int32)), .unset] [(.ref d1)]))) (fun _ k => XS.aload X20.here hx rfl (hb hby at_120) rfl rfl  k) ?_
      refine own_go (S' := (T20.setTop (mkF m 138 #[.val (.int sz), .val (.int lv), .val (.int (1 : Int32)), .val (.int z1), .val (.ref d1), .val (.ref d2), .val (.ref d3), .val (.ref a), .val (.ref t), .val (.ref d1), .val (.int (1 : Int32)), .unset] [(.ref d1)]))) (fun _ k => XS.goto X20.here hx rfl (pc0 := 122) (pc' := 138) rfl (hb hby at_122) (by decide) (by decide) k) ?_
      refine own_go (S' := (T20.setTop (mkF m 140 #[.val (.int sz), .val (.int lv), .val (.int (1 : Int32)), .val (.int z1), .val (.ref d1), .val (.ref d2), .val (.ref d3), .val (.ref a), .val (.ref t), .val (.ref d1), .val (.int (1 : Int32)), .val (.ref d1)] []))) (fun _ k => XS.astore X20.here hx rfl (hb hby at_138) rfl rfl (l' := #[.val (.int sz), .val (.int lv), .val (.int (1 : Int32)), .val (.int z1), .val (.ref d1), .val (.ref d2), .val (.ref d3), .val (.ref a), .val (.ref t), .val (.ref d1), .val (.int (1 : Int32)), .val (.ref d1)]) rfl k) ?_
      refine own_go (S' := (T20.setTop (mkF m 142 #[.val (.int sz), .val (.int lv), .val (.int (1 : Int32)), .val (.int z1), .val (.ref d1), .val (.ref d2), .val (.ref d3), .val (.ref a), .val (.ref t), .val (.ref d1), .val (.int (1 : Int32)), .val (.ref d1)] [(.ref d1)]))) (fun _ k => XS.aload X20.here hx rfl (hb hby at_140) rfl rfl  k) ?_
      refine own_go (S' := (T20.setTop (mkF m 144 #[.val (.int sz), .val (.int lv), .val (.int (1 : Int32)), .val (.int z1), .val (.ref d1), .val (.ref d2), .val (.ref d3), .val (.ref a), .val (.ref t), .val (.ref d1), .val (.int (1 : Int32)), .val (.ref d1)] [(.ref d1), (.ref d1)]))) (fun _ k => XS.aload X20.here hx rfl (hb hby at_142) rfl rfl  k) ?_
      refine own_go (S' := (T20.setTop (mkF m 147 #[.val (.int sz), .val (.int lv), .val (.int (1 : Int32)), .val (.int z1), .val (.ref d1), .val (.ref d2), .val (.ref d3), .val (.ref a), .val (.ref t), .val (.ref d1), .val (.int (1 : Int32)), .val (.ref d1)] []))) (fun _ k => Jvm.RoadKit.acmp (g := (mkF m 144 #[.val (.int sz), .val (.int lv), .val (.int (1 : Int32)), .val (.int z1), .val (.ref d1), .val (.ref d2), .val (.ref d3), .val (.ref a), .val (.ref t), .val (.ref d1), .val (.int (1 : Int32)), .val (.ref d1)] [(.ref d1), (.ref d1)])) X20 hx rfl rfl rfl (pc0 := 144) (pc' := 147) (same := true) rfl (hb hby at_144) rfl (decide_eq_true rfl) (by decide) (by decide) k) ?_
      refine own_go (S' := (T20.setTop (mkF m 148 #[.val (.int sz), .val (.int lv), .val (.int (1 : Int32)), .val (.int z1), .val (.ref d1), .val (.ref d2), .val (.ref d3), .val (.ref a), .val (.ref t), .val (.ref d1), .val (.int (1 : Int32)), .val (.ref d1)] [(.int (1 : Int32))]))) (fun _ k => XS.iconst X20.here hx rfl (hb hby at_147) k) ?_
      refine own_go (S' := (T20.setTop (mkF m 152 #[.val (.int sz), .val (.int lv), .val (.int (1 : Int32)), .val (.int z1), .val (.ref d1), .val (.ref d2), .val (.ref d3), .val (.ref a), .val (.ref t), .val (.ref d1), .val (.int (1 : Int32)), .val (.ref d1)] [(.int (1 : Int32))]))) (fun _ k => XS.goto X20.here hx rfl (pc0 := 148) (pc' := 152) rfl (hb hby at_148) (by decide) (by decide) k) ?_
      refine own_retZ X20 hx hlk (t := .boolean) hret (by simp) (hb hby at_152) ?_ (by decide) (by decide)
      rw [hh20]
      exact ⟨rfl, N20⟩
    · skip
      obtain rfl := own_z1 hz1 hn
      obtain ⟨cq21, kq21, q21a, q21b, q21c⟩ := isOf hZ rfl (E18c)
      obtain ⟨_, _, ⟨T21, L21, k21, n21⟩, -, X21, ⟨Lc21, hQ21, l21, y21, z21⟩, st21⟩ := X18.virtualBack hx (y := (⟨"com/example/topicd/topicd/broker/DelayLevels", "delay", "(I)Ljava/time/Duration;"⟩ : MethodName)) (z := (⟨"com/example/topicd/topicd/broker/DelayLevels", "delay", "(I)Ljava/time/Duration;"⟩ : MethodName)) hown (mvT hZ (hw _ (List.mem_of_getElem? (i := 179) rfl))) (mvT hZ (hw _ (List.mem_of_getElem? (i := 180) rfl))) (notFace_of_selects (args := #[]) (mvT hZ (hw _ (List.mem_of_getElem? (i := 182) rfl)))) (mvT hZ (hw _ (List.mem_of_getElem? (i := 182) rfl))) (mvT hZ (hw _ (List.mem_of_getElem? (i := 181) rfl))) (by decide) (backOf (W := 0) (own_de11 l Z a0 hw t (1 : Int32) x18 d1 em T18.heap n0 (Nat.le_trans Z0 K18x.1) F18c c19_Ed1 P18.1 P18.2.1 P18.2.2 c19_SE (Or.inl ⟨by decide, rfl⟩)) hZ (hw _ (List.mem_of_getElem? (i := 183) rfl)) (hw _ (List.mem_of_getElem? (i := 81) rfl)) (by decide) (by decide)) q21a q21c (g := (mkF m 97 #[.val (.int sz), .val (.int lv), .val (.int (1 : Int32)), .val (.int (1 : Int32)), .val (.ref d1), .val (.ref d2), .val (.ref d3), .val (.ref a), .val (.ref t), .unset, .unset, .unset] [(.int (1 : Int32)), (.ref t)])) rfl (by rw [hml]; rfl) (Steps.refl _) (argsL := [(.int (1 : Int32))]) (rest := []) (lenOf own_pd21 rfl) rfl (by show 2 * 0 + _ ≤ _; exact Nat.le_of_eq rfl) (hb hby at_97) (fun _ _ => ⟨rfl, rfl, (by decide : 8 + 0 ≤ _), (by decide : 23 + 0 ≤ _)⟩)
      dsimp only [Pt.U, Pt.locs, Pt.cells, Pt.slots] at X21 l21 y21 z21 st21 hQ21
      subst l21 y21 z21
      obtain ⟨rfl, N21q, hh21⟩ := hQ21
      have N21 := Fr.app N18 N21q
      refine own_via (S' := (T21.setTop (mkF m 100 #[.val (.int sz), .val (.int lv), .val (.int (1 : Int32)), .val (.int (1 : Int32)), .val (.ref d1), .val (.ref d2), .val (.ref d3), .val (.ref a), .val (.ref t), .unset, .unset, .unset] [(.ref d1)]))) st21 ?_
      refine own_go (S' := (T21.setTop (mkF m 102 #[.val (.int sz), .val (.int lv), .val (.int (1 : Int32)), .val (.int (1 : Int32)), .val (.ref d1), .val (.ref d2), .val (.ref d3), .val (.ref a), .val (.ref t), .val (.ref d1), .unset, .unset] []))) (fun _ k => XS.astore X21.here hx rfl (hb hby at_100) rfl rfl (l' := #[.val (.int sz), .val (.int lv), .val (.int (1 : Int32)), .val (.int (1 : Int32)), .val (.ref d1), .val (.ref d2), .val (.ref d3), .val (.ref a), .val (.ref t), .val (.ref d1), .unset, .unset]) rfl k) ?_
      refine own_go (S' := (T21.setTop (mkF m 103 #[.val (.int sz), .val (.int lv), .val (.int (1 : Int32)), .val (.int (1 : Int32)), .val (.ref d1), .val (.ref d2), .val (.ref d3), .val (.ref a), .val (.ref t), .val (.ref d1), .unset, .unset] [(.int (1 : Int32))]))) (fun _ k => XS.iloadN X21.here hx rfl (hb hby at_102) rfl  k) ?_
      refine own_go (S' := (T21.setTop (mkF m 104 #[.val (.int sz), .val (.int lv), .val (.int (1 : Int32)), .val (.int (1 : Int32)), .val (.ref d1), .val (.ref d2), .val (.ref d3), .val (.ref a), .val (.ref t), .val (.ref d1), .unset, .unset] [(.int (1 : Int32)), (.int (1 : Int32))]))) (fun _ k => XS.iloadN X21.here hx rfl (hb hby at_103) rfl  k) ?_
      refine own_go (S' := (T21.setTop (mkF m 111 #[.val (.int sz), .val (.int lv), .val (.int (1 : Int32)), .val (.int (1 : Int32)), .val (.ref d1), .val (.ref d2), .val (.ref d3), .val (.ref a), .val (.ref t), .val (.ref d1), .unset, .unset] []))) (fun _ k => XS.icmpYes X21.here hx rfl (pc0 := 104) (pc' := 111) rfl (hb hby at_104) rfl (flt (by decide)).2.2.2 (by decide) (by decide) k) ?_
      refine own_go (S' := (T21.setTop (mkF m 112 #[.val (.int sz), .val (.int lv), .val (.int (1 : Int32)), .val (.int (1 : Int32)), .val (.ref d1), .val (.ref d2), .val (.ref d3), .val (.ref a), .val (.ref t), .val (.ref d1), .unset, .unset] [(.int (1 : Int32))]))) (fun _ k => XS.iloadN X21.here hx rfl (hb hby at_111) rfl  k) ?_
      refine own_go (S' := (T21.setTop (mkF m 114 #[.val (.int sz), .val (.int lv), .val (.int (1 : Int32)), .val (.int (1 : Int32)), .val (.ref d1), .val (.ref d2), .val (.ref d3), .val (.ref a), .val (.ref t), .val (.ref d1), .val (.int (1 : Int32)), .unset] []))) (fun _ k => XS.istore X21.here hx rfl (hb hby at_112) rfl (l' := #[.val (.int sz), .val (.int lv), .val (.int (1 : Int32)), .val (.int (1 : Int32)), .val (.ref d1), .val (.ref d2), .val (.ref d3), .val (.ref a), .val (.ref t), .val (.ref d1), .val (.int (1 : Int32)), .unset]) rfl k) ?_
      refine own_go (S' := (T21.setTop (mkF m 116 #[.val (.int sz), .val (.int lv), .val (.int (1 : Int32)), .val (.int (1 : Int32)), .val (.ref d1), .val (.ref d2), .val (.ref d3), .val (.ref a), .val (.ref t), .val (.ref d1), .val (.int (1 : Int32)), .unset] [(.int (1 : Int32))]))) (fun _ k => XS.iload X21.here hx rfl (hb hby at_114) rfl  k) ?_
      refine own_go (S' := (T21.setTop (mkF m 117 #[.val (.int sz), .val (.int lv), .val (.int (1 : Int32)), .val (.int (1 : Int32)), .val (.ref d1), .val (.ref d2), .val (.ref d3), .val (.ref a), .val (.ref t), .val (.ref d1), .val (.int (1 : Int32)), .unset] [(.int (1 : Int32)), (.int (1 : Int32))]))) (fun _ k => XS.iconst X21.here hx rfl (hb hby at_116) k) ?_
      refine own_go (S' := (T21.setTop (mkF m 120 #[.val (.int sz), .val (.int lv), .val (.int (1 : Int32)), .val (.int (1 : Int32)), .val (.ref d1), .val (.ref d2), .val (.ref d3), .val (.ref a), .val (.ref t), .val (.ref d1), .val (.int (1 : Int32)), .unset] []))) (fun _ k => XS.icmpNo X21.here hx rfl (hb hby at_117) rfl (teq rfl).2 k) ?_
      refine own_go (S' := (T21.setTop (mkF m 122 #[.val (.int sz), .val (.int lv), .val (.int (1 : Int32)), .val (.int (1 : Int32)), .val (.ref d1), .val (.ref d2), .val (.ref d3), .val (.ref a), .val (.ref t), .val (.ref d1), .val (.int (1 : Int32)), .unset] [(.ref d1)]))) (fun _ k => XS.aload X21.here hx rfl (hb hby at_120) rfl rfl  k) ?_
      refine own_go (S' := (T21.setTop (mkF m 138 #[.val (.int sz), .val (.int lv), .val (.int (1 : Int32)), .val (.int (1 : Int32)), .val (.ref d1), .val (.ref d2), .val (.ref d3), .val (.ref a), .val (.ref t), .val (.ref d1), .val (.int (1 : Int32)), .unset] [(.ref d1)]))) (fun _ k => XS.goto X21.here hx rfl (pc0 := 122) (pc' := 138) rfl (hb hby at_122) (by decide) (by decide) k) ?_
      refine own_go (S' := (T21.setTop (mkF m 140 #[.val (.int sz), .val (.int lv), .val (.int (1 : Int32)), .val (.int (1 : Int32)), .val (.ref d1), .val (.ref d2), .val (.ref d3), .val (.ref a), .val (.ref t), .val (.ref d1), .val (.int (1 : Int32)), .val (.ref d1)] []))) (fun _ k => XS.astore X21.here hx rfl (hb hby at_138) rfl rfl (l' := #[.val (.int sz), .val (.int lv), .val (.int (1 : Int32)), .val (.int (1 : Int32)), .val (.ref d1), .val (.ref d2), .val (.ref d3), .val (.ref a), .val (.ref t), .val (.ref d1), .val (.int (1 : Int32)), .val (.ref d1)]) rfl k) ?_
      refine own_go (S' := (T21.setTop (mkF m 142 #[.val (.int sz), .val (.int lv), .val (.int (1 : Int32)), .val (.int (1 : Int32)), .val (.ref d1), .val (.ref d2), .val (.ref d3), .val (.ref a), .val (.ref t), .val (.ref d1), .val (.int (1 : Int32)), .val (.ref d1)] [(.ref d1)]))) (fun _ k => XS.aload X21.here hx rfl (hb hby at_140) rfl rfl  k) ?_
      refine own_go (S' := (T21.setTop (mkF m 144 #[.val (.int sz), .val (.int lv), .val (.int (1 : Int32)), .val (.int (1 : Int32)), .val (.ref d1), .val (.ref d2), .val (.ref d3), .val (.ref a), .val (.ref t), .val (.ref d1), .val (.int (1 : Int32)), .val (.ref d1)] [(.ref d1), (.ref d1)]))) (fun _ k => XS.aload X21.here hx rfl (hb hby at_142) rfl rfl  k) ?_
      refine own_go (S' := (T21.setTop (mkF m 147 #[.val (.int sz), .val (.int lv), .val (.int (1 : Int32)), .val (.int (1 : Int32)), .val (.ref d1), .val (.ref d2), .val (.ref d3), .val (.ref a), .val (.ref t), .val (.ref d1), .val (.int (1 : Int32)), .val (.ref d1)] []))) (fun _ k => Jvm.RoadKit.acmp (g := (mkF m 144 #[.val (.int sz), .val (.int lv), .val (.int (1 : Int32)), .val (.int (1 : Int32)), .val (.ref d1), .val (.ref d2), .val (.ref d3), .val (.ref a), .val (.ref t), .val (.ref d1), .val (.int (1 : Int32)), .val (.ref d1)] [(.ref d1), (.ref d1)])) X21 hx rfl rfl rfl (pc0 := 144) (pc' := 147) (same := true) rfl (hb hby at_144) rfl (decide_eq_true rfl) (by decide) (by decide) k) ?_
      refine own_go (S' := (T21.setTop (mkF m 148 #[.val (.int sz), .val (.int lv), .val (.int (1 : Int32)), .val (.int (1 : Int32)), .val (.ref d1), .val (.ref d2), .val (.ref d3), .val (.ref a), .val (.ref t), .val (.ref d1), .val (.int (1 : Int32)), .val (.ref d1)] [(.int (1 : Int32))]))) (fun _ k => XS.iconst X21.here hx rfl (hb hby at_147) k) ?_
      refine own_go (S' := (T21.setTop (mkF m 152 #[.val (.int sz), .val (.int lv), .val (.int (1 : Int32)), .val (.int (1 : Int32)), .val (.ref d1), .val (.ref d2), .val (.ref d3), .val (.ref a), .val (.ref t), .val (.ref d1), .val (.int (1 : Int32)), .val (.ref d1)] [(.int (1 : Int32))]))) (fun _ k => XS.goto X21.here hx rfl (pc0 := 148) (pc' := 152) rfl (hb hby at_148) (by decide) (by decide) k) ?_
      refine own_retZ X21 hx hlk (t := .boolean) hret (by simp) (hb hby at_152) ?_ (by decide) (by decide)
      rw [hh21]
      exact ⟨rfl, N21⟩
  · skip
    refine own_go (S' := (s₁.setTop (mkF m 10 #[.val (.int sz), .val (.int lv), .val (.int (2 : Int32)), .unset, .unset, .unset, .unset, .unset, .unset, .unset, .unset, .unset] [(.int (1 : Int32))]))) (fun _ k => XS.iconst X0.here hx rfl (hb hby at_9) k) ?_
    refine own_go (S' := (s₁.setTop (mkF m 11 #[.val (.int sz), .val (.int lv), .val (.int (2 : Int32)), .unset, .unset, .unset, .unset, .unset, .unset, .unset, .unset, .unset] [(.int lv), (.int (1 : Int32))]))) (fun _ k => XS.iloadN X0.here hx rfl (hb hby at_10) rfl  k) ?_
    refine own_go (S' := (s₁.setTop (mkF m 13 #[.val (.int sz), .val (.int lv), .val (.int (2 : Int32)), .unset, .unset, .unset, .unset, .unset, .unset, .unset, .unset, .unset] [(.int (2147483647 : Int32)), (.int lv), (.int (1 : Int32))]))) (fun _ k => X0.ldcInt hx hown (mvT hZ (hw _ (List.mem_of_getElem? (i := 0) rfl))) (g := (mkF m 11 #[.val (.int sz), .val (.int lv), .val (.int (2 : Int32)), .unset, .unset, .unset, .unset, .unset, .unset, .unset, .unset, .unset] [(.int lv), (.int (1 : Int32))])) rfl (hb hby at_11) _ k) ?_
    refine own_go (S' := (s₁.setTop (mkF m 14 #[.val (.int sz), .val (.int lv), .val (.int (2 : Int32)), .unset, .unset, .unset, .unset, .unset, .unset, .unset, .unset, .unset] [(.int (lv &&& (2147483647 : Int32))), (.int (1 : Int32))]))) (fun _ k => XS.iand X0.here hx rfl (hb hby at_13) rfl k) ?_
    obtain ⟨_, _, ⟨T22, L22, k22, n22⟩, -, X22, ⟨Lc22, hQ22, l22, y22, z22⟩, st22⟩ := Jvm.LawKit.callS X0 hx (y := (⟨"java/lang/Math", "max", "(II)I"⟩ : MethodName)) hown (mvT hZ (hw _ (List.mem_of_getElem? (i := 1) rfl))) (mvT hZ (hw _ (List.mem_of_getElem? (i := 2) rfl))) (mvT hZ (hw _ (List.mem_of_getElem? (i := 3) rfl))) (mvT hZ (hw _ (List.mem_of_getElem? (i := 4) rfl))) (by decide) (backOf (W := 0) (own_max l Z a0 hw (lv &&& (2147483647 : Int32)) h0 n0 Z0) hZ (hw _ (List.mem_of_getElem? (i := 4) rfl)) (hw _ (List.mem_of_getElem? (i := 3) rfl)) (by decide) (by decide)) (g := (mkF m 14 #[.val (.int sz), .val (.int lv), .val (.int (2 : Int32)), .unset, .unset, .unset, .unset, .unset, .unset, .unset, .unset, .unset] [(.int (lv &&& (2147483647 : Int32))), (.int (1 : Int32))])) rfl (by rw [hml]; rfl) (argsL := [(.int (1 : Int32)), (.int (lv &&& (2147483647 : Int32)))]) (rest := []) (lenOf own_pd3 rfl) rfl (by show 2 * 0 + _ ≤ _; exact Nat.le_of_eq rfl) (hb hby at_14) (fun _ _ => ⟨rfl, e0, (by decide : 0 + 0 ≤ _), (by decide : 0 + 0 ≤ _)⟩)
    dsimp only [Pt.U, Pt.locs, Pt.cells, Pt.slots] at X22 l22 y22 z22 st22 hQ22
    subst l22 y22 z22
    obtain ⟨z22, rfl, N22q, hh22, hz22⟩ := hQ22
    have N22 := Fr.app N0 N22q
    refine own_go (S' := (T22.setTop (mkF m 17 #[.val (.int sz), .val (.int lv), .val (.int (2 : Int32)), .unset, .unset, .unset, .unset, .unset, .unset, .unset, .unset, .unset] [(.int z22)]))) st22 ?_
    refine own_go (S' := (T22.setTop (mkF m 18 #[.val (.int sz), .val (.int lv), .val (.int (2 : Int32)), .val (.int z22), .unset, .unset, .unset, .unset, .unset, .unset, .unset, .unset] []))) (fun _ k => XS.istoreN X22.here hx rfl (hb hby at_17) rfl (l' := #[.val (.int sz), .val (.int lv), .val (.int (2 : Int32)), .val (.int z22), .unset, .unset, .unset, .unset, .unset, .unset, .unset, .unset]) rfl k) ?_
    refine own_go (S' := (T22.setTop (mkF m 19 #[.val (.int sz), .val (.int lv), .val (.int (2 : Int32)), .val (.int z22), .unset, .unset, .unset, .unset, .unset, .unset, .unset, .unset] [(.long (1 : Int64))]))) (fun _ k => XS.lconst X22.here hx rfl (hb hby at_18) k) ?_
    obtain ⟨_, _, ⟨T23, L23, k23, n23⟩, -, X23, ⟨Lc23, hQ23, l23, y23, z23⟩, st23⟩ := Jvm.LawKit.callS X22 hx (y := (⟨"java/time/Duration", "ofSeconds", "(J)Ljava/time/Duration;"⟩ : MethodName)) hown (mvT hZ (hw _ (List.mem_of_getElem? (i := 5) rfl))) (mvT hZ (hw _ (List.mem_of_getElem? (i := 6) rfl))) (mvT hZ (hw _ (List.mem_of_getElem? (i := 7) rfl))) (mvT hZ (hw _ (List.mem_of_getElem? (i := 8) rfl))) (by decide) (backOf (W := 0) (own_os1 l Z a0 hw h0 n0 (Nat.le_trans Z0 (Keep.refl h0 []).1)) hZ (hw _ (List.mem_of_getElem? (i := 8) rfl)) (hw _ (List.mem_of_getElem? (i := 7) rfl)) (by decide) (by decide)) (g := (mkF m 19 #[.val (.int sz), .val (.int lv), .val (.int (2 : Int32)), .val (.int z22), .unset, .unset, .unset, .unset, .unset, .unset, .unset, .unset] [(.long (1 : Int64))])) rfl (by rw [hml]; rfl) (argsL := [(.long (1 : Int64))]) (rest := []) (lenOf own_pd18 rfl) rfl (by show 2 * 0 + _ ≤ _; exact Nat.le_of_eq rfl) (hb hby at_19) (fun _ _ => ⟨rfl, hh22, (by decide : 0 + 1 ≤ _), (by decide : 0 + 2 ≤ _)⟩)
    dsimp only [Pt.U, Pt.locs, Pt.cells, Pt.slots] at X23 l23 y23 z23 st23 hQ23
    subst l23 y23 z23
    obtain ⟨d1, rfl, N23q, Kc23, Ec23, sc23⟩ := hQ23
    have N23 := Fr.app N22 N23q
    refine own_go (S' := (T23.setTop (mkF m 22 #[.val (.int sz), .val (.int lv), .val (.int (2 : Int32)), .val (.int z22), .unset, .unset, .unset, .unset, .unset, .unset, .unset, .unset] [(.ref d1)]))) st23 ?_
    have c24_SD := own_Sk SD Kc23 all0
    have c24_SE := own_Sk SE Kc23 all0
    have c24_Vd := Vd.keep Kc23 nin0
    have c24_Em := Em.keep Kc23
    have K23x := (Keep.refl h0 []).trans Kc23 all0
    refine own_go (S' := (T23.setTop (mkF m 24 #[.val (.int sz), .val (.int lv), .val (.int (2 : Int32)), .val (.int z22), .val (.ref d1), .unset, .unset, .unset, .unset, .unset, .unset, .unset] []))) (fun _ k => XS.astore X23.here hx rfl (hb hby at_22) rfl rfl (l' := #[.val (.int sz), .val (.int lv), .val (.int (2 : Int32)), .val (.int z22), .val (.ref d1), .unset, .unset, .unset, .unset, .unset, .unset, .unset]) rfl k) ?_
    refine own_go (S' := (T23.setTop (mkF m 27 #[.val (.int sz), .val (.int lv), .val (.int (2 : Int32)), .val (.int z22), .val (.ref d1), .unset, .unset, .unset, .unset, .unset, .unset, .unset] [(.long (2 : Int64))]))) (fun _ k => X23.ldc2Long hx hown (mvT hZ (hw _ (List.mem_of_getElem? (i := 25) rfl))) (g := (mkF m 24 #[.val (.int sz), .val (.int lv), .val (.int (2 : Int32)), .val (.int z22), .val (.ref d1), .unset, .unset, .unset, .unset, .unset, .unset, .unset] [])) rfl (hb hby at_24) _ k) ?_
    obtain ⟨_, _, ⟨T25, L25, k25, n25⟩, -, X25, ⟨Lc25, hQ25, l25, y25, z25⟩, st25⟩ := Jvm.LawKit.callS X23 hx (y := (⟨"java/time/Duration", "ofSeconds", "(J)Ljava/time/Duration;"⟩ : MethodName)) hown (mvT hZ (hw _ (List.mem_of_getElem? (i := 5) rfl))) (mvT hZ (hw _ (List.mem_of_getElem? (i := 6) rfl))) (mvT hZ (hw _ (List.mem_of_getElem? (i := 7) rfl))) (mvT hZ (hw _ (List.mem_of_getElem? (i := 8) rfl))) (by decide) (backOf (W := 0) (own_os2 l Z a0 hw T23.heap n0 (Nat.le_trans Z0 K23x.1)) hZ (hw _ (List.mem_of_getElem? (i := 8) rfl)) (hw _ (List.mem_of_getElem? (i := 7) rfl)) (by decide) (by decide)) (g := (mkF m 27 #[.val (.int sz), .val (.int lv), .val (.int (2 : Int32)), .val (.int z22), .val (.ref d1), .unset, .unset, .unset, .unset, .unset, .unset, .unset] [(.long (2 : Int64))])) rfl (by rw [hml]; rfl) (argsL := [(.long (2 : Int64))]) (rest := []) (lenOf own_pd18 rfl) rfl (by show 2 * 0 + _ ≤ _; exact Nat.le_of_eq rfl) (hb hby at_27) (fun _ _ => ⟨rfl, rfl, (by decide : 1 + 1 ≤ _), (by decide : 2 + 2 ≤ _)⟩)
    dsimp only [Pt.U, Pt.locs, Pt.cells, Pt.slots] at X25 l25 y25 z25 st25 hQ25
    subst l25 y25 z25
    obtain ⟨d2, rfl, N25q, Kc25, Ec25, sc25⟩ := hQ25
    have N25 := Fr.app N23 N25q
    refine own_go (S' := (T25.setTop (mkF m 30 #[.val (.int sz), .val (.int lv), .val (.int (2 : Int32)), .val (.int z22), .val (.ref d1), .unset, .unset, .unset, .unset, .unset, .unset, .unset] [(.ref d2)]))) st25 ?_
    have nm : ¬ d2 = em := Ne.symm (Nat.ne_of_lt (Nat.lt_of_lt_of_le c24_Em.lt sc25))
    have c26_SD := own_Sk c24_SD Kc25 all0
    have c26_SE := own_Sk c24_SE Kc25 all0
    have c26_Vd := c24_Vd.keep Kc25 nin0
    have c26_Em := c24_Em.keep Kc25
    have c26_Ed1 := Ec23.keep Kc25
    have K25x := K23x.trans Kc25 all0
    refine own_go (S' := (T25.setTop (mkF m 32 #[.val (.int sz), .val (.int lv), .val (.int (2 : Int32)), .val (.int z22), .val (.ref d1), .val (.ref d2), .unset, .unset, .unset, .unset, .unset, .unset] []))) (fun _ k => XS.astore X25.here hx rfl (hb hby at_30) rfl rfl (l' := #[.val (.int sz), .val (.int lv), .val (.int (2 : Int32)), .val (.int z22), .val (.ref d1), .val (.ref d2), .unset, .unset, .unset, .unset, .unset, .unset]) rfl k) ?_
    refine own_go (S' := (T25.setTop (mkF m 35 #[.val (.int sz), .val (.int lv), .val (.int (2 : Int32)), .val (.int z22), .val (.ref d1), .val (.ref d2), .unset, .unset, .unset, .unset, .unset, .unset] [(.long (3 : Int64))]))) (fun _ k => X25.ldc2Long hx hown (mvT hZ (hw _ (List.mem_of_getElem? (i := 26) rfl))) (g := (mkF m 32 #[.val (.int sz), .val (.int lv), .val (.int (2 : Int32)), .val (.int z22), .val (.ref d1), .val (.ref d2), .unset, .unset, .unset, .unset, .unset, .unset] [])) rfl (hb hby at_32) _ k) ?_
    obtain ⟨_, _, ⟨T27, L27, k27, n27⟩, -, X27, ⟨Lc27, hQ27, l27, y27, z27⟩, st27⟩ := Jvm.LawKit.callS X25 hx (y := (⟨"java/time/Duration", "ofSeconds", "(J)Ljava/time/Duration;"⟩ : MethodName)) hown (mvT hZ (hw _ (List.mem_of_getElem? (i := 5) rfl))) (mvT hZ (hw _ (List.mem_of_getElem? (i := 6) rfl))) (mvT hZ (hw _ (List.mem_of_getElem? (i := 7) rfl))) (mvT hZ (hw _ (List.mem_of_getElem? (i := 8) rfl))) (by decide) (backOf (W := 0) (own_os3 l Z a0 hw T25.heap n0 (Nat.le_trans Z0 K25x.1)) hZ (hw _ (List.mem_of_getElem? (i := 8) rfl)) (hw _ (List.mem_of_getElem? (i := 7) rfl)) (by decide) (by decide)) (g := (mkF m 35 #[.val (.int sz), .val (.int lv), .val (.int (2 : Int32)), .val (.int z22), .val (.ref d1), .val (.ref d2), .unset, .unset, .unset, .unset, .unset, .unset] [(.long (3 : Int64))])) rfl (by rw [hml]; rfl) (argsL := [(.long (3 : Int64))]) (rest := []) (lenOf own_pd18 rfl) rfl (by show 2 * 0 + _ ≤ _; exact Nat.le_of_eq rfl) (hb hby at_35) (fun _ _ => ⟨rfl, rfl, (by decide : 2 + 1 ≤ _), (by decide : 4 + 2 ≤ _)⟩)
    dsimp only [Pt.U, Pt.locs, Pt.cells, Pt.slots] at X27 l27 y27 z27 st27 hQ27
    subst l27 y27 z27
    obtain ⟨d3, rfl, N27q, Kc27, Ec27, sc27⟩ := hQ27
    have N27 := Fr.app N25 N27q
    refine own_go (S' := (T27.setTop (mkF m 38 #[.val (.int sz), .val (.int lv), .val (.int (2 : Int32)), .val (.int z22), .val (.ref d1), .val (.ref d2), .unset, .unset, .unset, .unset, .unset, .unset] [(.ref d3)]))) st27 ?_
    have c28_SD := own_Sk c26_SD Kc27 all0
    have c28_SE := own_Sk c26_SE Kc27 all0
    have c28_Vd := c26_Vd.keep Kc27 nin0
    have c28_Em := c26_Em.keep Kc27
    have c28_Ed1 := c26_Ed1.keep Kc27
    have c28_Ed2 := Ec25.keep Kc27
    have K27x := K25x.trans Kc27 all0
    refine own_go (S' := (T27.setTop (mkF m 40 #[.val (.int sz), .val (.int lv), .val (.int (2 : Int32)), .val (.int z22), .val (.ref d1), .val (.ref d2), .val (.ref d3), .unset, .unset, .unset, .unset, .unset] []))) (fun _ k => XS.astore X27.here hx rfl (hb hby at_38) rfl rfl (l' := #[.val (.int sz), .val (.int lv), .val (.int (2 : Int32)), .val (.int z22), .val (.ref d1), .val (.ref d2), .val (.ref d3), .unset, .unset, .unset, .unset, .unset]) rfl k) ?_
    obtain ⟨T29, h29, X29, e29, E29, A29, D29, -, st29⟩ := newO X27 hx hZ hown (hw _ (List.mem_of_getElem? (i := 27) rfl)) (hw _ (List.mem_of_getElem? (i := 28) rfl)) (hw _ (List.mem_of_getElem? (i := 29) rfl)) rfl (g := (mkF m 40 #[.val (.int sz), .val (.int lv), .val (.int (2 : Int32)), .val (.int z22), .val (.ref d1), .val (.ref d2), .val (.ref d3), .unset, .unset, .unset, .unset, .unset] [])) rfl (hb hby at_40) (by decide) (by decide)
    obtain ⟨a, g29⟩ : ∃ z, z = T27.heap.size := ⟨_, rfl⟩
    rw [← g29] at A29 D29 st29
    refine own_go (S' := (T29.setTop (mkF m 43 #[.val (.int sz), .val (.int lv), .val (.int (2 : Int32)), .val (.int z22), .val (.ref d1), .val (.ref d2), .val (.ref d3), .unset, .unset, .unset, .unset, .unset] [(.ref a)]))) st29 ?_
    have sz_a : h0.size ≤ a := Nat.le_trans K27x.1 (Nat.le_of_eq g29.symm)
    have gn_a : n0 ≤ a := Nat.le_trans Z0 sz_a
    have ne_dd_a : dd ≠ a := Nat.ne_of_lt (Nat.lt_of_lt_of_le c28_Vd.lt (Nat.le_of_eq g29.symm))
    have ne_em_a : em ≠ a := Nat.ne_of_lt (Nat.lt_of_lt_of_le c28_Em.lt (Nat.le_of_eq g29.symm))
    have ne_d1_a : d1 ≠ a := Nat.ne_of_lt (Nat.lt_of_lt_of_le c28_Ed1.lt (Nat.le_of_eq g29.symm))
    have ne_d2_a : d2 ≠ a := Nat.ne_of_lt (Nat.lt_of_lt_of_le c28_Ed2.lt (Nat.le_of_eq g29.symm))
    have ne_d3_a : d3 ≠ a := Nat.ne_of_lt (Nat.lt_of_lt_of_le Ec27.lt (Nat.le_of_eq g29.symm))
    have c30_SD := c28_SD.ext E29
    have c30_SE := c28_SE.ext E29
    have c30_Vd := c28_Vd.ext E29
    have c30_Em := c28_Em.ext E29
    have c30_Ed1 := c28_Ed1.ext E29
    have c30_Ed2 := c28_Ed2.ext E29
    have c30_Ed3 := Ec27.ext E29
    have K29 := K27x.ext E29
    refine own_go (S' := (T29.setTop (mkF m 44 #[.val (.int sz), .val (.int lv), .val (.int (2 : Int32)), .val (.int z22), .val (.ref d1), .val (.ref d2), .val (.ref d3), .unset, .unset, .unset, .unset, .unset] [(.ref a), (.ref a)]))) (fun _ k => XS.dup X29.here hx rfl (hb hby at_43) rfl rfl k) ?_
    obtain ⟨_, _, ⟨T31, L31, k31, n31⟩, -, X31, ⟨Lc31, hQ31, l31, y31, z31⟩, st31⟩ := X29.specialBack hx (y := (⟨"java/util/ArrayList", "<init>", "()V"⟩ : MethodName)) rfl hown (mvT hZ (hw _ (List.mem_of_getElem? (i := 30) rfl))) (mvT hZ (hw _ (List.mem_of_getElem? (i := 31) rfl))) (mvT hZ (hw _ (List.mem_of_getElem? (i := 32) rfl))) (by decide) (backOf (W := 1) (own_ini l Z a0 hw a dd h29 n0 (Nat.le_trans Z0 K29.1) A29 (D29 (Or.inl (hw _ (List.mem_of_getElem? (i := 47) rfl))) (ty := .int) (by decide)) (D29 (Or.inl (hw _ (List.mem_of_getElem? (i := 50) rfl))) (ty := (.array (.object "java/lang/Object"))) (by decide)) (D29 (Or.inl (hw _ (List.mem_of_getElem? (i := 59) rfl))) (ty := .int) (by decide)) c30_SD gn_a) hZ (hw _ (List.mem_of_getElem? (i := 32) rfl)) (hw _ (List.mem_of_getElem? (i := 29) rfl)) (by decide) (by decide)) (g := (mkF m 44 #[.val (.int sz), .val (.int lv), .val (.int (2 : Int32)), .val (.int z22), .val (.ref d1), .val (.ref d2), .val (.ref d3), .unset, .unset, .unset, .unset, .unset] [(.ref a), (.ref a)])) rfl (by rw [hml]; rfl) (Steps.refl _) (a := a) (argsL := []) (rest := [(.ref a)]) (lenOf own_pd2 rfl) rfl (by show 2 * 0 + _ ≤ _; exact Nat.le_of_eq rfl) (hb hby at_44) (fun _ _ => ⟨rfl, e29, (by decide : 4 + 0 ≤ _), (by decide : 9 + 0 ≤ _)⟩)
    dsimp only [Pt.U, Pt.locs, Pt.cells, Pt.slots] at X31 l31 y31 z31 st31 hQ31
    subst l31 y31 z31
    obtain ⟨rfl, N31q, Kc31, A31c⟩ := hQ31
    have N31 := Fr.app N27 N31q
    refine own_via (S' := (T31.setTop (mkF m 47 #[.val (.int sz), .val (.int lv), .val (.int (2 : Int32)), .val (.int z22), .val (.ref d1), .val (.ref d2), .val (.ref d3), .unset, .unset, .unset, .unset, .unset] [(.ref a)]))) st31 ?_
    have c32_SD := own_Sk c30_SD Kc31 (allS A29.own_nst all0)
    have c32_SE := own_Sk c30_SE Kc31 (allS A29.own_nst all0)
    have c32_Vd := c30_Vd.keep Kc31 (ninS ne_dd_a nin0)
    have c32_Em := c30_Em.keep Kc31
    have c32_Ed1 := c30_Ed1.keep Kc31
    have c32_Ed2 := c30_Ed2.keep Kc31
    have c32_Ed3 := c30_Ed3.keep Kc31
    have K31x := K29.trans Kc31 (allS (Or.inr sz_a) all0)
    obtain ⟨E33a, F33m, F33e, F33s⟩ := A31c
    refine own_go (S' := (T31.setTop (mkF m 49 #[.val (.int sz), .val (.int lv), .val (.int (2 : Int32)), .val (.int z22), .val (.ref d1), .val (.ref d2), .val (.ref d3), .val (.ref a), .unset, .unset, .unset, .unset] []))) (fun _ k => XS.astore X31.here hx rfl (hb hby at_47) rfl rfl (l' := #[.val (.int sz), .val (.int lv), .val (.int (2 : Int32)), .val (.int z22), .val (.ref d1), .val (.ref d2), .val (.ref d3), .val (.ref a), .unset, .unset, .unset, .unset]) rfl k) ?_
    refine own_go (S' := (T31.setTop (mkF m 51 #[.val (.int sz), .val (.int lv), .val (.int (2 : Int32)), .val (.int z22), .val (.ref d1), .val (.ref d2), .val (.ref d3), .val (.ref a), .unset, .unset, .unset, .unset] [(.ref a)]))) (fun _ k => XS.aload X31.here hx rfl (hb hby at_49) rfl rfl  k) ?_
    refine own_go (S' := (T31.setTop (mkF m 53 #[.val (.int sz), .val (.int lv), .val (.int (2 : Int32)), .val (.int z22), .val (.ref d1), .val (.ref d2), .val (.ref d3), .val (.ref a), .unset, .unset, .unset, .unset] [(.ref d1), (.ref a)]))) (fun _ k => XS.aload X31.here hx rfl (hb hby at_51) rfl rfl  k) ?_
    obtain ⟨cq34, kq34, q34a, q34b, q34c⟩ := isOf hZ rfl (E33a)
    obtain ⟨_, _, ⟨T34, L34, k34, n34⟩, -, X34, ⟨Lc34, hQ34, l34, y34, z34⟩, st34⟩ := X31.virtualBack hx (y := (⟨"java/util/ArrayList", "add", "(Ljava/lang/Object;)Z"⟩ : MethodName)) (z := (⟨"java/util/ArrayList", "add", "(Ljava/lang/Object;)Z"⟩ : MethodName)) hown (mvT hZ (hw _ (List.mem_of_getElem? (i := 51) rfl))) (mvT hZ (hw _ (List.mem_of_getElem? (i := 52) rfl))) (notFace_of_selects (args := #[]) (mvT hZ (hw _ (List.mem_of_getElem? (i := 54) rfl)))) (mvT hZ (hw _ (List.mem_of_getElem? (i := 54) rfl))) (mvT hZ (hw _ (List.mem_of_getElem? (i := 53) rfl))) (by decide) (backOf (W := 0) (own_add1 l Z a0 hw a d1 dd kd T31.heap n0 (Nat.le_trans Z0 K31x.1) E33a F33m F33e F33s c32_SD c32_Vd c32_Ed1 gn_a (Ne.symm ne_dd_a)) hZ (hw _ (List.mem_of_getElem? (i := 55) rfl)) (hw _ (List.mem_of_getElem? (i := 29) rfl)) (by decide) (by decide)) q34a q34c (g := (mkF m 53 #[.val (.int sz), .val (.int lv), .val (.int (2 : Int32)), .val (.int z22), .val (.ref d1), .val (.ref d2), .val (.ref d3), .val (.ref a), .unset, .unset, .unset, .unset] [(.ref d1), (.ref a)])) rfl (by rw [hml]; rfl) (Steps.refl _) (argsL := [(.ref d1)]) (rest := []) (lenOf own_pd19 rfl) rfl (by show 2 * 0 + _ ≤ _; exact Nat.le_of_eq rfl) (hb hby at_53) (fun _ _ => ⟨rfl, rfl, (by decide : 4 + 1 ≤ _), (by decide : 9 + 10 ≤ _)⟩)
    dsimp only [Pt.U, Pt.locs, Pt.cells, Pt.slots] at X34 l34 y34 z34 st34 hQ34
    subst l34 y34 z34
    obtain ⟨rfl, N34q, Kc34, ea, ke, A34c, V34c, O34c, X34c, s34c⟩ := hQ34
    have N34 := Fr.app N31 N34q
    refine own_via (S' := (T34.setTop (mkF m 56 #[.val (.int sz), .val (.int lv), .val (.int (2 : Int32)), .val (.int z22), .val (.ref d1), .val (.ref d2), .val (.ref d3), .val (.ref a), .unset, .unset, .unset, .unset] [(.int (1 : Int32))]))) st34 ?_
    have sz_ea : h0.size ≤ ea := Nat.le_trans K31x.1 s34c
    have ne_a_ea : a ≠ ea := Nat.ne_of_lt (Nat.lt_of_lt_of_le E33a.lt s34c)
    have c35_SE := own_Sk c32_SE Kc34 (allS E33a.own_nst all0)
    have c35_Em := c32_Em.keep Kc34
    have c35_Ed1 := c32_Ed1.keep Kc34
    have c35_Ed2 := c32_Ed2.keep Kc34
    have c35_Ed3 := c32_Ed3.keep Kc34
    have K34x := K31x.trans Kc34 (allS (Or.inr sz_a) all0)
    obtain ⟨E36a, F36m, F36e, F36s⟩ := A34c
    refine own_go (S' := (T34.setTop (mkF m 57 #[.val (.int sz), .val (.int lv), .val (.int (2 : Int32)), .val (.int z22), .val (.ref d1), .val (.ref d2), .val (.ref d3), .val (.ref a), .unset, .unset, .unset, .unset] []))) (fun _ k => XS.pop X34.here hx rfl (hb hby at_56) rfl rfl k) ?_
    refine own_go (S' := (T34.setTop (mkF m 58 #[.val (.int sz), .val (.int lv), .val (.int (2 : Int32)), .val (.int z22), .val (.ref d1), .val (.ref d2), .val (.ref d3), .val (.ref a), .unset, .unset, .unset, .unset] [(.int (2 : Int32))]))) (fun _ k => XS.iloadN X34.here hx rfl (hb hby at_57) rfl  k) ?_
    refine own_go (S' := (T34.setTop (mkF m 59 #[.val (.int sz), .val (.int lv), .val (.int (2 : Int32)), .val (.int z22), .val (.ref d1), .val (.ref d2), .val (.ref d3), .val (.ref a), .unset, .unset, .unset, .unset] [(.int (2 : Int32)), (.int (2 : Int32))]))) (fun _ k => XS.iconst X34.here hx rfl (hb hby at_58) k) ?_
    refine own_go (S' := (T34.setTop (mkF m 62 #[.val (.int sz), .val (.int lv), .val (.int (2 : Int32)), .val (.int z22), .val (.ref d1), .val (.ref d2), .val (.ref d3), .val (.ref a), .unset, .unset, .unset, .unset] []))) (fun _ k => XS.icmpNo X34.here hx rfl (hb hby at_59) rfl (flt (by decide)).1 k) ?_
    refine own_go (S' := (T34.setTop (mkF m 64 #[.val (.int sz), .val (.int lv), .val (.int (2 : Int32)), .val (.int z22), .val (.ref d1), .val (.ref d2), .val (.ref d3), .val (.ref a), .unset, .unset, .unset, .unset] [(.ref a)]))) (fun _ k => XS.aload X34.here hx rfl (hb hby at_62) rfl rfl  k) ?_
    refine own_go (S' := (T34.setTop (mkF m 66 #[.val (.int sz), .val (.int lv), .val (.int (2 : Int32)), .val (.int z22), .val (.ref d1), .val (.ref d2), .val (.ref d3), .val (.ref a), .unset, .unset, .unset, .unset] [(.ref d2), (.ref a)]))) (fun _ k => XS.aload X34.here hx rfl (hb hby at_64) rfl rfl  k) ?_
    obtain ⟨cq37, kq37, q37a, q37b, q37c⟩ := isOf hZ rfl (E36a)
    obtain ⟨_, _, ⟨T37, L37, k37, n37⟩, -, X37, ⟨Lc37, hQ37, l37, y37, z37⟩, st37⟩ := X34.virtualBack hx (y := (⟨"java/util/ArrayList", "add", "(Ljava/lang/Object;)Z"⟩ : MethodName)) (z := (⟨"java/util/ArrayList", "add", "(Ljava/lang/Object;)Z"⟩ : MethodName)) hown (mvT hZ (hw _ (List.mem_of_getElem? (i := 51) rfl))) (mvT hZ (hw _ (List.mem_of_getElem? (i := 52) rfl))) (notFace_of_selects (args := #[]) (mvT hZ (hw _ (List.mem_of_getElem? (i := 54) rfl)))) (mvT hZ (hw _ (List.mem_of_getElem? (i := 54) rfl))) (mvT hZ (hw _ (List.mem_of_getElem? (i := 53) rfl))) (by decide) (backOf (W := 0) (own_addn1 l Z a0 hw a d2 ea d1 ke T34.heap n0 (Nat.le_trans Z0 K34x.1) E36a F36m F36e F36s V34c c35_Ed2 O34c gn_a (Nat.le_trans Z0 sz_ea) ne_a_ea) hZ (hw _ (List.mem_of_getElem? (i := 55) rfl)) (hw _ (List.mem_of_getElem? (i := 29) rfl)) (by decide) (by decide)) q37a q37c (g := (mkF m 66 #[.val (.int sz), .val (.int lv), .val (.int (2 : Int32)), .val (.int z22), .val (.ref d1), .val (.ref d2), .val (.ref d3), .val (.ref a), .unset, .unset, .unset, .unset] [(.ref d2), (.ref a)])) rfl (by rw [hml]; rfl) (Steps.refl _) (argsL := [(.ref d2)]) (rest := []) (lenOf own_pd19 rfl) rfl (by show 2 * 0 + _ ≤ _; exact Nat.le_of_eq rfl) (hb hby at_66) (fun _ _ => ⟨rfl, rfl, (by decide : 5 + 0 ≤ _), (by decide : 19 + 0 ≤ _)⟩)
    dsimp only [Pt.U, Pt.locs, Pt.cells, Pt.slots] at X37 l37 y37 z37 st37 hQ37
    subst l37 y37 z37
    obtain ⟨rfl, N37q, Kc37, A37c, V37c⟩ := hQ37
    have N37 := Fr.app N34 N37q
    refine own_via (S' := (T37.setTop (mkF m 69 #[.val (.int sz), .val (.int lv), .val (.int (2 : Int32)), .val (.int z22), .val (.ref d1), .val (.ref d2), .val (.ref d3), .val (.ref a), .unset, .unset, .unset, .unset] [(.int (1 : Int32))]))) st37 ?_
    have c38_SE := own_Sk c35_SE Kc37 (allS E36a.own_nst (allS V34c.own_nst all0))
    have c38_Em := c35_Em.keep Kc37
    have c38_Ed1 := c35_Ed1.keep Kc37
    have c38_Ed2 := c35_Ed2.keep Kc37
    have c38_Ed3 := c35_Ed3.keep Kc37
    have c38_Ex := X34c.keep Kc37
    have K37x := K34x.trans Kc37 (allS (Or.inr sz_a) (allS (Or.inr sz_ea) all0))
    obtain ⟨E39a, F39m, F39e, F39s⟩ := A37c
    refine own_go (S' := (T37.setTop (mkF m 70 #[.val (.int sz), .val (.int lv), .val (.int (2 : Int32)), .val (.int z22), .val (.ref d1), .val (.ref d2), .val (.ref d3), .val (.ref a), .unset, .unset, .unset, .unset] []))) (fun _ k => XS.pop X37.here hx rfl (hb hby at_69) rfl rfl k) ?_
    refine own_go (S' := (T37.setTop (mkF m 71 #[.val (.int sz), .val (.int lv), .val (.int (2 : Int32)), .val (.int z22), .val (.ref d1), .val (.ref d2), .val (.ref d3), .val (.ref a), .unset, .unset, .unset, .unset] [(.int (2 : Int32))]))) (fun _ k => XS.iloadN X37.here hx rfl (hb hby at_70) rfl  k) ?_
    refine own_go (S' := (T37.setTop (mkF m 72 #[.val (.int sz), .val (.int lv), .val (.int (2 : Int32)), .val (.int z22), .val (.ref d1), .val (.ref d2), .val (.ref d3), .val (.ref a), .unset, .unset, .unset, .unset] [(.int (3 : Int32)), (.int (2 : Int32))]))) (fun _ k => XS.iconst X37.here hx rfl (hb hby at_71) k) ?_
    refine own_go (S' := (T37.setTop (mkF m 83 #[.val (.int sz), .val (.int lv), .val (.int (2 : Int32)), .val (.int z22), .val (.ref d1), .val (.ref d2), .val (.ref d3), .val (.ref a), .unset, .unset, .unset, .unset] []))) (fun _ k => XS.icmpYes X37.here hx rfl (pc0 := 72) (pc' := 83) rfl (hb hby at_72) rfl (tlt (by decide)).1 (by decide) (by decide) k) ?_
    obtain ⟨T40, h40, X40, e40, E40, A40, D40, -, st40⟩ := newO X37 hx hZ hown (hw _ (List.mem_of_getElem? (i := 79) rfl)) (hw _ (List.mem_of_getElem? (i := 80) rfl)) (hw _ (List.mem_of_getElem? (i := 81) rfl)) rfl (g := (mkF m 83 #[.val (.int sz), .val (.int lv), .val (.int (2 : Int32)), .val (.int z22), .val (.ref d1), .val (.ref d2), .val (.ref d3), .val (.ref a), .unset, .unset, .unset, .unset] [])) rfl (hb hby at_83) (by decide) (by decide)
    obtain ⟨t, g40⟩ : ∃ z, z = T37.heap.size := ⟨_, rfl⟩
    rw [← g40] at A40 D40 st40
    refine own_go (S' := (T40.setTop (mkF m 86 #[.val (.int sz), .val (.int lv), .val (.int (2 : Int32)), .val (.int z22), .val (.ref d1), .val (.ref d2), .val (.ref d3), .val (.ref a), .unset, .unset, .unset, .unset] [(.ref t)]))) st40 ?_
    have sz_t : h0.size ≤ t := Nat.le_trans K37x.1 (Nat.le_of_eq g40.symm)
    have gn_t : n0 ≤ t := Nat.le_trans Z0 sz_t
    have ne_em_t : em ≠ t := Nat.ne_of_lt (Nat.lt_of_lt_of_le c38_Em.lt (Nat.le_of_eq g40.symm))
    have ne_d1_t : d1 ≠ t := Nat.ne_of_lt (Nat.lt_of_lt_of_le c38_Ed1.lt (Nat.le_of_eq g40.symm))
    have ne_d2_t : d2 ≠ t := Nat.ne_of_lt (Nat.lt_of_lt_of_le c38_Ed2.lt (Nat.le_of_eq g40.symm))
    have ne_d3_t : d3 ≠ t := Nat.ne_of_lt (Nat.lt_of_lt_of_le c38_Ed3.lt (Nat.le_of_eq g40.symm))
    have ne_ea_t : ea ≠ t := Nat.ne_of_lt (Nat.lt_of_lt_of_le c38_Ex.lt (Nat.le_of_eq g40.symm))
    have ne_a_t : a ≠ t := Nat.ne_of_lt (Nat.lt_of_lt_of_le E39a.lt (Nat.le_of_eq g40.symm))
    have c41_SE := c38_SE.ext E40
    have c41_Em := c38_Em.ext E40
    have c41_Ed1 := c38_Ed1.ext E40
    have c41_Ed2 := c38_Ed2.ext E40
    have c41_Ed3 := c38_Ed3.ext E40
    have c41_Ex := c38_Ex.ext E40
    have c41_E_a := E39a.ext E40
    have c41_Fm := F39m.ext E40
    have c41_Fe := F39e.ext E40
    have c41_Fs := F39s.ext E40
    have c41_V := V37c.ext E40
    have K40 := K37x.ext E40
    refine own_go (S' := (T40.setTop (mkF m 87 #[.val (.int sz), .val (.int lv), .val (.int (2 : Int32)), .val (.int z22), .val (.ref d1), .val (.ref d2), .val (.ref d3), .val (.ref a), .unset, .unset, .unset, .unset] [(.ref t), (.ref t)]))) (fun _ k => XS.dup X40.here hx rfl (hb hby at_86) rfl rfl k) ?_
    refine own_go (S' := (T40.setTop (mkF m 89 #[.val (.int sz), .val (.int lv), .val (.int (2 : Int32)), .val (.int z22), .val (.ref d1), .val (.ref d2), .val (.ref d3), .val (.ref a), .unset, .unset, .unset, .unset] [(.ref a), (.ref t), (.ref t)]))) (fun _ k => XS.aload X40.here hx rfl (hb hby at_87) rfl rfl  k) ?_
    obtain ⟨_, _, ⟨T42, L42, k42, n42⟩, -, X42, ⟨Lc42, hQ42, l42, y42, z42⟩, st42⟩ := X40.specialBack hx (y := (⟨"com/example/topicd/topicd/broker/DelayLevels", "<init>", "(Ljava/util/List;)V"⟩ : MethodName)) rfl hown (mvT hZ (hw _ (List.mem_of_getElem? (i := 82) rfl))) (mvT hZ (hw _ (List.mem_of_getElem? (i := 83) rfl))) (mvT hZ (hw _ (List.mem_of_getElem? (i := 84) rfl))) (by decide) (backOf (W := 1) (own_dl2 l Z a0 hw t a ea d1 d2 ke mr em h40 n0 (Nat.le_trans Z0 K40.1) c41_E_a c41_Fe c41_Fs c41_V c41_Ex c41_Ed1 c41_Ed2 c41_SE A40 (D40 (Or.inr (hw _ (List.mem_of_getElem? (i := 178) rfl))) (ty := (.object "java/util/List")) (by decide)) mw gn_t) hZ (hw _ (List.mem_of_getElem? (i := 84) rfl)) (hw _ (List.mem_of_getElem? (i := 81) rfl)) (by decide) (by decide)) (g := (mkF m 89 #[.val (.int sz), .val (.int lv), .val (.int (2 : Int32)), .val (.int z22), .val (.ref d1), .val (.ref d2), .val (.ref d3), .val (.ref a), .unset, .unset, .unset, .unset] [(.ref a), (.ref t), (.ref t)])) rfl (by rw [hml]; rfl) (Steps.refl _) (a := t) (argsL := [(.ref a)]) (rest := [(.ref t)]) (lenOf own_pd20 rfl) rfl (by show 2 * 0 + _ ≤ _; exact Nat.le_of_eq rfl) (hb hby at_89) (fun _ _ => ⟨rfl, e40, (by decide : 6 + 2 ≤ _), (by decide : 20 + 4 ≤ _)⟩)
    dsimp only [Pt.U, Pt.locs, Pt.cells, Pt.slots] at X42 l42 y42 z42 st42 hQ42
    subst l42 y42 z42
    obtain ⟨rfl, N42q, Kc42, E42c, x42, F42c, P42, s42⟩ := hQ42
    have N42 := Fr.app N37 N42q
    refine own_via (S' := (T42.setTop (mkF m 92 #[.val (.int sz), .val (.int lv), .val (.int (2 : Int32)), .val (.int z22), .val (.ref d1), .val (.ref d2), .val (.ref d3), .val (.ref a), .unset, .unset, .unset, .unset] [(.ref t)]))) st42 ?_
    have c43_SE := own_Sk c41_SE Kc42 (allS A40.own_nst all0)
    have c43_Em := c41_Em.keep Kc42
    have c43_Ed1 := c41_Ed1.keep Kc42
    have c43_Ed2 := c41_Ed2.keep Kc42
    have c43_Ed3 := c41_Ed3.keep Kc42
    have K42x := K40.trans Kc42 (allS (Or.inr sz_t) all0)
    refine own_go (S' := (T42.setTop (mkF m 94 #[.val (.int sz), .val (.int lv), .val (.int (2 : Int32)), .val (.int z22), .val (.ref d1), .val (.ref d2), .val (.ref d3), .val (.ref a), .val (.ref t), .unset, .unset, .unset] []))) (fun _ k => XS.astore X42.here hx rfl (hb hby at_92) rfl rfl (l' := #[.val (.int sz), .val (.int lv), .val (.int (2 : Int32)), .val (.int z22), .val (.ref d1), .val (.ref d2), .val (.ref d3), .val (.ref a), .val (.ref t), .unset, .unset, .unset]) rfl k) ?_
    refine own_go (S' := (T42.setTop (mkF m 96 #[.val (.int sz), .val (.int lv), .val (.int (2 : Int32)), .val (.int z22), .val (.ref d1), .val (.ref d2), .val (.ref d3), .val (.ref a), .val (.ref t), .unset, .unset, .unset] [(.ref t)]))) (fun _ k => XS.aload X42.here hx rfl (hb hby at_94) rfl rfl  k) ?_
    refine own_go (S' := (T42.setTop (mkF m 97 #[.val (.int sz), .val (.int lv), .val (.int (2 : Int32)), .val (.int z22), .val (.ref d1), .val (.ref d2), .val (.ref d3), .val (.ref a), .val (.ref t), .unset, .unset, .unset] [(.int z22), (.ref t)]))) (fun _ k => XS.iloadN X42.here hx rfl (hb hby at_96) rfl  k) ?_
    by_cases hn : (2 : Int32) < z22
    · skip
      obtain ⟨cq44, kq44, q44a, q44b, q44c⟩ := isOf hZ rfl (E42c)
      obtain ⟨_, _, ⟨T44, L44, k44, n44⟩, -, X44, ⟨Lc44, hQ44, l44, y44, z44⟩, st44⟩ := X42.virtualBack hx (y := (⟨"com/example/topicd/topicd/broker/DelayLevels", "delay", "(I)Ljava/time/Duration;"⟩ : MethodName)) (z := (⟨"com/example/topicd/topicd/broker/DelayLevels", "delay", "(I)Ljava/time/Duration;"⟩ : MethodName)) hown (mvT hZ (hw _ (List.mem_of_getElem? (i := 179) rfl))) (mvT hZ (hw _ (List.mem_of_getElem? (i := 180) rfl))) (notFace_of_selects (args := #[]) (mvT hZ (hw _ (List.mem_of_getElem? (i := 182) rfl)))) (mvT hZ (hw _ (List.mem_of_getElem? (i := 182) rfl))) (mvT hZ (hw _ (List.mem_of_getElem? (i := 181) rfl))) (by decide) (backOf (W := 0) (own_de22 l Z a0 hw t z22 x42 d1 d2 em T42.heap n0 (Nat.le_trans Z0 K42x.1) F42c c43_Ed2 P42.1 P42.2.1 P42.2.2 c43_SE nm (Or.inr ⟨hn, rfl⟩)) hZ (hw _ (List.mem_of_getElem? (i := 183) rfl)) (hw _ (List.mem_of_getElem? (i := 81) rfl)) (by decide) (by decide)) q44a q44c (g := (mkF m 97 #[.val (.int sz), .val (.int lv), .val (.int (2 : Int32)), .val (.int z22), .val (.ref d1), .val (.ref d2), .val (.ref d3), .val (.ref a), .val (.ref t), .unset, .unset, .unset] [(.int z22), (.ref t)])) rfl (by rw [hml]; rfl) (Steps.refl _) (argsL := [(.int z22)]) (rest := []) (lenOf own_pd21 rfl) rfl (by show 2 * 0 + _ ≤ _; exact Nat.le_of_eq rfl) (hb hby at_97) (fun _ _ => ⟨rfl, rfl, (by decide : 8 + 0 ≤ _), (by decide : 24 + 0 ≤ _)⟩)
      dsimp only [Pt.U, Pt.locs, Pt.cells, Pt.slots] at X44 l44 y44 z44 st44 hQ44
      subst l44 y44 z44
      obtain ⟨rfl, N44q, hh44⟩ := hQ44
      have N44 := Fr.app N42 N44q
      refine own_via (S' := (T44.setTop (mkF m 100 #[.val (.int sz), .val (.int lv), .val (.int (2 : Int32)), .val (.int z22), .val (.ref d1), .val (.ref d2), .val (.ref d3), .val (.ref a), .val (.ref t), .unset, .unset, .unset] [(.ref d2)]))) st44 ?_
      refine own_go (S' := (T44.setTop (mkF m 102 #[.val (.int sz), .val (.int lv), .val (.int (2 : Int32)), .val (.int z22), .val (.ref d1), .val (.ref d2), .val (.ref d3), .val (.ref a), .val (.ref t), .val (.ref d2), .unset, .unset] []))) (fun _ k => XS.astore X44.here hx rfl (hb hby at_100) rfl rfl (l' := #[.val (.int sz), .val (.int lv), .val (.int (2 : Int32)), .val (.int z22), .val (.ref d1), .val (.ref d2), .val (.ref d3), .val (.ref a), .val (.ref t), .val (.ref d2), .unset, .unset]) rfl k) ?_
      refine own_go (S' := (T44.setTop (mkF m 103 #[.val (.int sz), .val (.int lv), .val (.int (2 : Int32)), .val (.int z22), .val (.ref d1), .val (.ref d2), .val (.ref d3), .val (.ref a), .val (.ref t), .val (.ref d2), .unset, .unset] [(.int z22)]))) (fun _ k => XS.iloadN X44.here hx rfl (hb hby at_102) rfl  k) ?_
      refine own_go (S' := (T44.setTop (mkF m 104 #[.val (.int sz), .val (.int lv), .val (.int (2 : Int32)), .val (.int z22), .val (.ref d1), .val (.ref d2), .val (.ref d3), .val (.ref a), .val (.ref t), .val (.ref d2), .unset, .unset] [(.int (2 : Int32)), (.int z22)]))) (fun _ k => XS.iloadN X44.here hx rfl (hb hby at_103) rfl  k) ?_
      refine own_go (S' := (T44.setTop (mkF m 107 #[.val (.int sz), .val (.int lv), .val (.int (2 : Int32)), .val (.int z22), .val (.ref d1), .val (.ref d2), .val (.ref d3), .val (.ref a), .val (.ref t), .val (.ref d2), .unset, .unset] []))) (fun _ k => XS.icmpNo X44.here hx rfl (hb hby at_104) rfl (tlt hn).2.2.2 k) ?_
      refine own_go (S' := (T44.setTop (mkF m 108 #[.val (.int sz), .val (.int lv), .val (.int (2 : Int32)), .val (.int z22), .val (.ref d1), .val (.ref d2), .val (.ref d3), .val (.ref a), .val (.ref t), .val (.ref d2), .unset, .unset] [(.int (2 : Int32))]))) (fun _ k => XS.iloadN X44.here hx rfl (hb hby at_107) rfl  k) ?_
      refine own_go (S' := (T44.setTop (mkF m 112 #[.val (.int sz), .val (.int lv), .val (.int (2 : Int32)), .val (.int z22), .val (.ref d1), .val (.ref d2), .val (.ref d3), .val (.ref a), .val (.ref t), .val (.ref d2), .unset, .unset] [(.int (2 : Int32))]))) (fun _ k => XS.goto X44.here hx rfl (pc0 := 108) (pc' := 112) rfl (hb hby at_108) (by decide) (by decide) k) ?_
      refine own_go (S' := (T44.setTop (mkF m 114 #[.val (.int sz), .val (.int lv), .val (.int (2 : Int32)), .val (.int z22), .val (.ref d1), .val (.ref d2), .val (.ref d3), .val (.ref a), .val (.ref t), .val (.ref d2), .val (.int (2 : Int32)), .unset] []))) (fun _ k => XS.istore X44.here hx rfl (hb hby at_112) rfl (l' := #[.val (.int sz), .val (.int lv), .val (.int (2 : Int32)), .val (.int z22), .val (.ref d1), .val (.ref d2), .val (.ref d3), .val (.ref a), .val (.ref t), .val (.ref d2), .val (.int (2 : Int32)), .unset]) rfl k) ?_
      refine own_go (S' := (T44.setTop (mkF m 116 #[.val (.int sz), .val (.int lv), .val (.int (2 : Int32)), .val (.int z22), .val (.ref d1), .val (.ref d2), .val (.ref d3), .val (.ref a), .val (.ref t), .val (.ref d2), .val (.int (2 : Int32)), .unset] [(.int (2 : Int32))]))) (fun _ k => XS.iload X44.here hx rfl (hb hby at_114) rfl  k) ?_
      refine own_go (S' := (T44.setTop (mkF m 117 #[.val (.int sz), .val (.int lv), .val (.int (2 : Int32)), .val (.int z22), .val (.ref d1), .val (.ref d2), .val (.ref d3), .val (.ref a), .val (.ref t), .val (.ref d2), .val (.int (2 : Int32)), .unset] [(.int (1 : Int32)), (.int (2 : Int32))]))) (fun _ k => XS.iconst X44.here hx rfl (hb hby at_116) k) ?_
      refine own_go (S' := (T44.setTop (mkF m 125 #[.val (.int sz), .val (.int lv), .val (.int (2 : Int32)), .val (.int z22), .val (.ref d1), .val (.ref d2), .val (.ref d3), .val (.ref a), .val (.ref t), .val (.ref d2), .val (.int (2 : Int32)), .unset] []))) (fun _ k => XS.icmpYes X44.here hx rfl (pc0 := 117) (pc' := 125) rfl (hb hby at_117) rfl (feq (by decide)).2 (by decide) (by decide) k) ?_
      refine own_go (S' := (T44.setTop (mkF m 127 #[.val (.int sz), .val (.int lv), .val (.int (2 : Int32)), .val (.int z22), .val (.ref d1), .val (.ref d2), .val (.ref d3), .val (.ref a), .val (.ref t), .val (.ref d2), .val (.int (2 : Int32)), .unset] [(.int (2 : Int32))]))) (fun _ k => XS.iload X44.here hx rfl (hb hby at_125) rfl  k) ?_
      refine own_go (S' := (T44.setTop (mkF m 128 #[.val (.int sz), .val (.int lv), .val (.int (2 : Int32)), .val (.int z22), .val (.ref d1), .val (.ref d2), .val (.ref d3), .val (.ref a), .val (.ref t), .val (.ref d2), .val (.int (2 : Int32)), .unset] [(.int (2 : Int32)), (.int (2 : Int32))]))) (fun _ k => XS.iconst X44.here hx rfl (hb hby at_127) k) ?_
      refine own_go (S' := (T44.setTop (mkF m 131 #[.val (.int sz), .val (.int lv), .val (.int (2 : Int32)), .val (.int z22), .val (.ref d1), .val (.ref d2), .val (.ref d3), .val (.ref a), .val (.ref t), .val (.ref d2), .val (.int (2 : Int32)), .unset] []))) (fun _ k => XS.icmpNo X44.here hx rfl (hb hby at_128) rfl (teq rfl).2 k) ?_
      refine own_go (S' := (T44.setTop (mkF m 133 #[.val (.int sz), .val (.int lv), .val (.int (2 : Int32)), .val (.int z22), .val (.ref d1), .val (.ref d2), .val (.ref d3), .val (.ref a), .val (.ref t), .val (.ref d2), .val (.int (2 : Int32)), .unset] [(.ref d2)]))) (fun _ k => XS.aload X44.here hx rfl (hb hby at_131) rfl rfl  k) ?_
      refine own_go (S' := (T44.setTop (mkF m 138 #[.val (.int sz), .val (.int lv), .val (.int (2 : Int32)), .val (.int z22), .val (.ref d1), .val (.ref d2), .val (.ref d3), .val (.ref a), .val (.ref t), .val (.ref d2), .val (.int (2 : Int32)), .unset] [(.ref d2)]))) (fun _ k => XS.goto X44.here hx rfl (pc0 := 133) (pc' := 138) rfl (hb hby at_133) (by decide) (by decide) k) ?_
      refine own_go (S' := (T44.setTop (mkF m 140 #[.val (.int sz), .val (.int lv), .val (.int (2 : Int32)), .val (.int z22), .val (.ref d1), .val (.ref d2), .val (.ref d3), .val (.ref a), .val (.ref t), .val (.ref d2), .val (.int (2 : Int32)), .val (.ref d2)] []))) (fun _ k => XS.astore X44.here hx rfl (hb hby at_138) rfl rfl (l' := #[.val (.int sz), .val (.int lv), .val (.int (2 : Int32)), .val (.int z22), .val (.ref d1), .val (.ref d2), .val (.ref d3), .val (.ref a), .val (.ref t), .val (.ref d2), .val (.int (2 : Int32)), .val (.ref d2)]) rfl k) ?_
      refine own_go (S' := (T44.setTop (mkF m 142 #[.val (.int sz), .val (.int lv), .val (.int (2 : Int32)), .val (.int z22), .val (.ref d1), .val (.ref d2), .val (.ref d3), .val (.ref a), .val (.ref t), .val (.ref d2), .val (.int (2 : Int32)), .val (.ref d2)] [(.ref d2)]))) (fun _ k => XS.aload X44.here hx rfl (hb hby at_140) rfl rfl  k) ?_
      refine own_go (S' := (T44.setTop (mkF m 144 #[.val (.int sz), .val (.int lv), .val (.int (2 : Int32)), .val (.int z22), .val (.ref d1), .val (.ref d2), .val (.ref d3), .val (.ref a), .val (.ref t), .val (.ref d2), .val (.int (2 : Int32)), .val (.ref d2)] [(.ref d2), (.ref d2)]))) (fun _ k => XS.aload X44.here hx rfl (hb hby at_142) rfl rfl  k) ?_
      refine own_go (S' := (T44.setTop (mkF m 147 #[.val (.int sz), .val (.int lv), .val (.int (2 : Int32)), .val (.int z22), .val (.ref d1), .val (.ref d2), .val (.ref d3), .val (.ref a), .val (.ref t), .val (.ref d2), .val (.int (2 : Int32)), .val (.ref d2)] []))) (fun _ k => Jvm.RoadKit.acmp (g := (mkF m 144 #[.val (.int sz), .val (.int lv), .val (.int (2 : Int32)), .val (.int z22), .val (.ref d1), .val (.ref d2), .val (.ref d3), .val (.ref a), .val (.ref t), .val (.ref d2), .val (.int (2 : Int32)), .val (.ref d2)] [(.ref d2), (.ref d2)])) X44 hx rfl rfl rfl (pc0 := 144) (pc' := 147) (same := true) rfl (hb hby at_144) rfl (decide_eq_true rfl) (by decide) (by decide) k) ?_
      refine own_go (S' := (T44.setTop (mkF m 148 #[.val (.int sz), .val (.int lv), .val (.int (2 : Int32)), .val (.int z22), .val (.ref d1), .val (.ref d2), .val (.ref d3), .val (.ref a), .val (.ref t), .val (.ref d2), .val (.int (2 : Int32)), .val (.ref d2)] [(.int (1 : Int32))]))) (fun _ k => XS.iconst X44.here hx rfl (hb hby at_147) k) ?_
      refine own_go (S' := (T44.setTop (mkF m 152 #[.val (.int sz), .val (.int lv), .val (.int (2 : Int32)), .val (.int z22), .val (.ref d1), .val (.ref d2), .val (.ref d3), .val (.ref a), .val (.ref t), .val (.ref d2), .val (.int (2 : Int32)), .val (.ref d2)] [(.int (1 : Int32))]))) (fun _ k => XS.goto X44.here hx rfl (pc0 := 148) (pc' := 152) rfl (hb hby at_148) (by decide) (by decide) k) ?_
      refine own_retZ X44 hx hlk (t := .boolean) hret (by simp) (hb hby at_152) ?_ (by decide) (by decide)
      rw [hh44]
      exact ⟨rfl, N44⟩
    · skip
      rcases own_z2 hz22 hn with rfl | rfl
      · skip
        obtain ⟨cq45, kq45, q45a, q45b, q45c⟩ := isOf hZ rfl (E42c)
        obtain ⟨_, _, ⟨T45, L45, k45, n45⟩, -, X45, ⟨Lc45, hQ45, l45, y45, z45⟩, st45⟩ := X42.virtualBack hx (y := (⟨"com/example/topicd/topicd/broker/DelayLevels", "delay", "(I)Ljava/time/Duration;"⟩ : MethodName)) (z := (⟨"com/example/topicd/topicd/broker/DelayLevels", "delay", "(I)Ljava/time/Duration;"⟩ : MethodName)) hown (mvT hZ (hw _ (List.mem_of_getElem? (i := 179) rfl))) (mvT hZ (hw _ (List.mem_of_getElem? (i := 180) rfl))) (notFace_of_selects (args := #[]) (mvT hZ (hw _ (List.mem_of_getElem? (i := 182) rfl)))) (mvT hZ (hw _ (List.mem_of_getElem? (i := 182) rfl))) (mvT hZ (hw _ (List.mem_of_getElem? (i := 181) rfl))) (by decide) (backOf (W := 0) (own_de21 l Z a0 hw t (1 : Int32) x42 d1 d2 em T42.heap n0 (Nat.le_trans Z0 K42x.1) F42c c43_Ed1 P42.1 P42.2.1 P42.2.2 c43_SE nm (Or.inl ⟨by decide, rfl⟩)) hZ (hw _ (List.mem_of_getElem? (i := 183) rfl)) (hw _ (List.mem_of_getElem? (i := 81) rfl)) (by decide) (by decide)) q45a q45c (g := (mkF m 97 #[.val (.int sz), .val (.int lv), .val (.int (2 : Int32)), .val (.int (1 : Int32)), .val (.ref d1), .val (.ref d2), .val (.ref d3), .val (.ref a), .val (.ref t), .unset, .unset, .unset] [(.int (1 : Int32)), (.ref t)])) rfl (by rw [hml]; rfl) (Steps.refl _) (argsL := [(.int (1 : Int32))]) (rest := []) (lenOf own_pd21 rfl) rfl (by show 2 * 0 + _ ≤ _; exact Nat.le_of_eq rfl) (hb hby at_97) (fun _ _ => ⟨rfl, rfl, (by decide : 8 + 0 ≤ _), (by decide : 24 + 0 ≤ _)⟩)
        dsimp only [Pt.U, Pt.locs, Pt.cells, Pt.slots] at X45 l45 y45 z45 st45 hQ45
        subst l45 y45 z45
        obtain ⟨rfl, N45q, hh45⟩ := hQ45
        have N45 := Fr.app N42 N45q
        refine own_via (S' := (T45.setTop (mkF m 100 #[.val (.int sz), .val (.int lv), .val (.int (2 : Int32)), .val (.int (1 : Int32)), .val (.ref d1), .val (.ref d2), .val (.ref d3), .val (.ref a), .val (.ref t), .unset, .unset, .unset] [(.ref d1)]))) st45 ?_
        refine own_go (S' := (T45.setTop (mkF m 102 #[.val (.int sz), .val (.int lv), .val (.int (2 : Int32)), .val (.int (1 : Int32)), .val (.ref d1), .val (.ref d2), .val (.ref d3), .val (.ref a), .val (.ref t), .val (.ref d1), .unset, .unset] []))) (fun _ k => XS.astore X45.here hx rfl (hb hby at_100) rfl rfl (l' := #[.val (.int sz), .val (.int lv), .val (.int (2 : Int32)), .val (.int (1 : Int32)), .val (.ref d1), .val (.ref d2), .val (.ref d3), .val (.ref a), .val (.ref t), .val (.ref d1), .unset, .unset]) rfl k) ?_
        refine own_go (S' := (T45.setTop (mkF m 103 #[.val (.int sz), .val (.int lv), .val (.int (2 : Int32)), .val (.int (1 : Int32)), .val (.ref d1), .val (.ref d2), .val (.ref d3), .val (.ref a), .val (.ref t), .val (.ref d1), .unset, .unset] [(.int (1 : Int32))]))) (fun _ k => XS.iloadN X45.here hx rfl (hb hby at_102) rfl  k) ?_
        refine own_go (S' := (T45.setTop (mkF m 104 #[.val (.int sz), .val (.int lv), .val (.int (2 : Int32)), .val (.int (1 : Int32)), .val (.ref d1), .val (.ref d2), .val (.ref d3), .val (.ref a), .val (.ref t), .val (.ref d1), .unset, .unset] [(.int (2 : Int32)), (.int (1 : Int32))]))) (fun _ k => XS.iloadN X45.here hx rfl (hb hby at_103) rfl  k) ?_
        refine own_go (S' := (T45.setTop (mkF m 111 #[.val (.int sz), .val (.int lv), .val (.int (2 : Int32)), .val (.int (1 : Int32)), .val (.ref d1), .val (.ref d2), .val (.ref d3), .val (.ref a), .val (.ref t), .val (.ref d1), .unset, .unset] []))) (fun _ k => XS.icmpYes X45.here hx rfl (pc0 := 104) (pc' := 111) rfl (hb hby at_104) rfl (flt (by decide)).2.2.2 (by decide) (by decide) k) ?_
        refine own_go (S' := (T45.setTop (mkF m 112 #[.val (.int sz), .val (.int lv), .val (.int (2 : Int32)), .val (.int (1 : Int32)), .val (.ref d1), .val (.ref d2), .val (.ref d3), .val (.ref a), .val (.ref t), .val (.ref d1), .unset, .unset] [(.int (1 : Int32))]))) (fun _ k => XS.iloadN X45.here hx rfl (hb hby at_111) rfl  k) ?_
        refine own_go (S' := (T45.setTop (mkF m 114 #[.val (.int sz), .val (.int lv), .val (.int (2 : Int32)), .val (.int (1 : Int32)), .val (.ref d1), .val (.ref d2), .val (.ref d3), .val (.ref a), .val (.ref t), .val (.ref d1), .val (.int (1 : Int32)), .unset] []))) (fun _ k => XS.istore X45.here hx rfl (hb hby at_112) rfl (l' := #[.val (.int sz), .val (.int lv), .val (.int (2 : Int32)), .val (.int (1 : Int32)), .val (.ref d1), .val (.ref d2), .val (.ref d3), .val (.ref a), .val (.ref t), .val (.ref d1), .val (.int (1 : Int32)), .unset]) rfl k) ?_
        refine own_go (S' := (T45.setTop (mkF m 116 #[.val (.int sz), .val (.int lv), .val (.int (2 : Int32)), .val (.int (1 : Int32)), .val (.ref d1), .val (.ref d2), .val (.ref d3), .val (.ref a), .val (.ref t), .val (.ref d1), .val (.int (1 : Int32)), .unset] [(.int (1 : Int32))]))) (fun _ k => XS.iload X45.here hx rfl (hb hby at_114) rfl  k) ?_
        refine own_go (S' := (T45.setTop (mkF m 117 #[.val (.int sz), .val (.int lv), .val (.int (2 : Int32)), .val (.int (1 : Int32)), .val (.ref d1), .val (.ref d2), .val (.ref d3), .val (.ref a), .val (.ref t), .val (.ref d1), .val (.int (1 : Int32)), .unset] [(.int (1 : Int32)), (.int (1 : Int32))]))) (fun _ k => XS.iconst X45.here hx rfl (hb hby at_116) k) ?_
        refine own_go (S' := (T45.setTop (mkF m 120 #[.val (.int sz), .val (.int lv), .val (.int (2 : Int32)), .val (.int (1 : Int32)), .val (.ref d1), .val (.ref d2), .val (.ref d3), .val (.ref a), .val (.ref t), .val (.ref d1), .val (.int (1 : Int32)), .unset] []))) (fun _ k => XS.icmpNo X45.here hx rfl (hb hby at_117) rfl (teq rfl).2 k) ?_
        refine own_go (S' := (T45.setTop (mkF m 122 #[.val (.int sz), .val (.int lv), .val (.int (2 : Int32)), .val (.int (1 : Int32)), .val (.ref d1), .val (.ref d2), .val (.ref d3), .val (.ref a), .val (.ref t), .val (.ref d1), .val (.int (1 : Int32)), .unset] [(.ref d1)]))) (fun _ k => XS.aload X45.here hx rfl (hb hby at_120) rfl rfl  k) ?_
        refine own_go (S' := (T45.setTop (mkF m 138 #[.val (.int sz), .val (.int lv), .val (.int (2 : Int32)), .val (.int (1 : Int32)), .val (.ref d1), .val (.ref d2), .val (.ref d3), .val (.ref a), .val (.ref t), .val (.ref d1), .val (.int (1 : Int32)), .unset] [(.ref d1)]))) (fun _ k => XS.goto X45.here hx rfl (pc0 := 122) (pc' := 138) rfl (hb hby at_122) (by decide) (by decide) k) ?_
        refine own_go (S' := (T45.setTop (mkF m 140 #[.val (.int sz), .val (.int lv), .val (.int (2 : Int32)), .val (.int (1 : Int32)), .val (.ref d1), .val (.ref d2), .val (.ref d3), .val (.ref a), .val (.ref t), .val (.ref d1), .val (.int (1 : Int32)), .val (.ref d1)] []))) (fun _ k => XS.astore X45.here hx rfl (hb hby at_138) rfl rfl (l' := #[.val (.int sz), .val (.int lv), .val (.int (2 : Int32)), .val (.int (1 : Int32)), .val (.ref d1), .val (.ref d2), .val (.ref d3), .val (.ref a), .val (.ref t), .val (.ref d1), .val (.int (1 : Int32)), .val (.ref d1)]) rfl k) ?_
        refine own_go (S' := (T45.setTop (mkF m 142 #[.val (.int sz), .val (.int lv), .val (.int (2 : Int32)), .val (.int (1 : Int32)), .val (.ref d1), .val (.ref d2), .val (.ref d3), .val (.ref a), .val (.ref t), .val (.ref d1), .val (.int (1 : Int32)), .val (.ref d1)] [(.ref d1)]))) (fun _ k => XS.aload X45.here hx rfl (hb hby at_140) rfl rfl  k) ?_
        refine own_go (S' := (T45.setTop (mkF m 144 #[.val (.int sz), .val (.int lv), .val (.int (2 : Int32)), .val (.int (1 : Int32)), .val (.ref d1), .val (.ref d2), .val (.ref d3), .val (.ref a), .val (.ref t), .val (.ref d1), .val (.int (1 : Int32)), .val (.ref d1)] [(.ref d1), (.ref d1)]))) (fun _ k => XS.aload X45.here hx rfl (hb hby at_142) rfl rfl  k) ?_
        refine own_go (S' := (T45.setTop (mkF m 147 #[.val (.int sz), .val (.int lv), .val (.int (2 : Int32)), .val (.int (1 : Int32)), .val (.ref d1), .val (.ref d2), .val (.ref d3), .val (.ref a), .val (.ref t), .val (.ref d1), .val (.int (1 : Int32)), .val (.ref d1)] []))) (fun _ k => Jvm.RoadKit.acmp (g := (mkF m 144 #[.val (.int sz), .val (.int lv), .val (.int (2 : Int32)), .val (.int (1 : Int32)), .val (.ref d1), .val (.ref d2), .val (.ref d3), .val (.ref a), .val (.ref t), .val (.ref d1), .val (.int (1 : Int32)), .val (.ref d1)] [(.ref d1), (.ref d1)])) X45 hx rfl rfl rfl (pc0 := 144) (pc' := 147) (same := true) rfl (hb hby at_144) rfl (decide_eq_true rfl) (by decide) (by decide) k) ?_
        refine own_go (S' := (T45.setTop (mkF m 148 #[.val (.int sz), .val (.int lv), .val (.int (2 : Int32)), .val (.int (1 : Int32)), .val (.ref d1), .val (.ref d2), .val (.ref d3), .val (.ref a), .val (.ref t), .val (.ref d1), .val (.int (1 : Int32)), .val (.ref d1)] [(.int (1 : Int32))]))) (fun _ k => XS.iconst X45.here hx rfl (hb hby at_147) k) ?_
        refine own_go (S' := (T45.setTop (mkF m 152 #[.val (.int sz), .val (.int lv), .val (.int (2 : Int32)), .val (.int (1 : Int32)), .val (.ref d1), .val (.ref d2), .val (.ref d3), .val (.ref a), .val (.ref t), .val (.ref d1), .val (.int (1 : Int32)), .val (.ref d1)] [(.int (1 : Int32))]))) (fun _ k => XS.goto X45.here hx rfl (pc0 := 148) (pc' := 152) rfl (hb hby at_148) (by decide) (by decide) k) ?_
        refine own_retZ X45 hx hlk (t := .boolean) hret (by simp) (hb hby at_152) ?_ (by decide) (by decide)
        rw [hh45]
        exact ⟨rfl, N45⟩
      · skip
        obtain ⟨cq46, kq46, q46a, q46b, q46c⟩ := isOf hZ rfl (E42c)
        obtain ⟨_, _, ⟨T46, L46, k46, n46⟩, -, X46, ⟨Lc46, hQ46, l46, y46, z46⟩, st46⟩ := X42.virtualBack hx (y := (⟨"com/example/topicd/topicd/broker/DelayLevels", "delay", "(I)Ljava/time/Duration;"⟩ : MethodName)) (z := (⟨"com/example/topicd/topicd/broker/DelayLevels", "delay", "(I)Ljava/time/Duration;"⟩ : MethodName)) hown (mvT hZ (hw _ (List.mem_of_getElem? (i := 179) rfl))) (mvT hZ (hw _ (List.mem_of_getElem? (i := 180) rfl))) (notFace_of_selects (args := #[]) (mvT hZ (hw _ (List.mem_of_getElem? (i := 182) rfl)))) (mvT hZ (hw _ (List.mem_of_getElem? (i := 182) rfl))) (mvT hZ (hw _ (List.mem_of_getElem? (i := 181) rfl))) (by decide) (backOf (W := 0) (own_de22 l Z a0 hw t (2 : Int32) x42 d1 d2 em T42.heap n0 (Nat.le_trans Z0 K42x.1) F42c c43_Ed2 P42.1 P42.2.1 P42.2.2 c43_SE nm (Or.inl ⟨by decide, rfl⟩)) hZ (hw _ (List.mem_of_getElem? (i := 183) rfl)) (hw _ (List.mem_of_getElem? (i := 81) rfl)) (by decide) (by decide)) q46a q46c (g := (mkF m 97 #[.val (.int sz), .val (.int lv), .val (.int (2 : Int32)), .val (.int (2 : Int32)), .val (.ref d1), .val (.ref d2), .val (.ref d3), .val (.ref a), .val (.ref t), .unset, .unset, .unset] [(.int (2 : Int32)), (.ref t)])) rfl (by rw [hml]; rfl) (Steps.refl _) (argsL := [(.int (2 : Int32))]) (rest := []) (lenOf own_pd21 rfl) rfl (by show 2 * 0 + _ ≤ _; exact Nat.le_of_eq rfl) (hb hby at_97) (fun _ _ => ⟨rfl, rfl, (by decide : 8 + 0 ≤ _), (by decide : 24 + 0 ≤ _)⟩)
        dsimp only [Pt.U, Pt.locs, Pt.cells, Pt.slots] at X46 l46 y46 z46 st46 hQ46
        subst l46 y46 z46
        obtain ⟨rfl, N46q, hh46⟩ := hQ46
        have N46 := Fr.app N42 N46q
        refine own_via (S' := (T46.setTop (mkF m 100 #[.val (.int sz), .val (.int lv), .val (.int (2 : Int32)), .val (.int (2 : Int32)), .val (.ref d1), .val (.ref d2), .val (.ref d3), .val (.ref a), .val (.ref t), .unset, .unset, .unset] [(.ref d2)]))) st46 ?_
        refine own_go (S' := (T46.setTop (mkF m 102 #[.val (.int sz), .val (.int lv), .val (.int (2 : Int32)), .val (.int (2 : Int32)), .val (.ref d1), .val (.ref d2), .val (.ref d3), .val (.ref a), .val (.ref t), .val (.ref d2), .unset, .unset] []))) (fun _ k => XS.astore X46.here hx rfl (hb hby at_100) rfl rfl (l' := #[.val (.int sz), .val (.int lv), .val (.int (2 : Int32)), .val (.int (2 : Int32)), .val (.ref d1), .val (.ref d2), .val (.ref d3), .val (.ref a), .val (.ref t), .val (.ref d2), .unset, .unset]) rfl k) ?_
        refine own_go (S' := (T46.setTop (mkF m 103 #[.val (.int sz), .val (.int lv), .val (.int (2 : Int32)), .val (.int (2 : Int32)), .val (.ref d1), .val (.ref d2), .val (.ref d3), .val (.ref a), .val (.ref t), .val (.ref d2), .unset, .unset] [(.int (2 : Int32))]))) (fun _ k => XS.iloadN X46.here hx rfl (hb hby at_102) rfl  k) ?_
        refine own_go (S' := (T46.setTop (mkF m 104 #[.val (.int sz), .val (.int lv), .val (.int (2 : Int32)), .val (.int (2 : Int32)), .val (.ref d1), .val (.ref d2), .val (.ref d3), .val (.ref a), .val (.ref t), .val (.ref d2), .unset, .unset] [(.int (2 : Int32)), (.int (2 : Int32))]))) (fun _ k => XS.iloadN X46.here hx rfl (hb hby at_103) rfl  k) ?_
        refine own_go (S' := (T46.setTop (mkF m 111 #[.val (.int sz), .val (.int lv), .val (.int (2 : Int32)), .val (.int (2 : Int32)), .val (.ref d1), .val (.ref d2), .val (.ref d3), .val (.ref a), .val (.ref t), .val (.ref d2), .unset, .unset] []))) (fun _ k => XS.icmpYes X46.here hx rfl (pc0 := 104) (pc' := 111) rfl (hb hby at_104) rfl (flt (by decide)).2.2.2 (by decide) (by decide) k) ?_
        refine own_go (S' := (T46.setTop (mkF m 112 #[.val (.int sz), .val (.int lv), .val (.int (2 : Int32)), .val (.int (2 : Int32)), .val (.ref d1), .val (.ref d2), .val (.ref d3), .val (.ref a), .val (.ref t), .val (.ref d2), .unset, .unset] [(.int (2 : Int32))]))) (fun _ k => XS.iloadN X46.here hx rfl (hb hby at_111) rfl  k) ?_
        refine own_go (S' := (T46.setTop (mkF m 114 #[.val (.int sz), .val (.int lv), .val (.int (2 : Int32)), .val (.int (2 : Int32)), .val (.ref d1), .val (.ref d2), .val (.ref d3), .val (.ref a), .val (.ref t), .val (.ref d2), .val (.int (2 : Int32)), .unset] []))) (fun _ k => XS.istore X46.here hx rfl (hb hby at_112) rfl (l' := #[.val (.int sz), .val (.int lv), .val (.int (2 : Int32)), .val (.int (2 : Int32)), .val (.ref d1), .val (.ref d2), .val (.ref d3), .val (.ref a), .val (.ref t), .val (.ref d2), .val (.int (2 : Int32)), .unset]) rfl k) ?_
        refine own_go (S' := (T46.setTop (mkF m 116 #[.val (.int sz), .val (.int lv), .val (.int (2 : Int32)), .val (.int (2 : Int32)), .val (.ref d1), .val (.ref d2), .val (.ref d3), .val (.ref a), .val (.ref t), .val (.ref d2), .val (.int (2 : Int32)), .unset] [(.int (2 : Int32))]))) (fun _ k => XS.iload X46.here hx rfl (hb hby at_114) rfl  k) ?_
        refine own_go (S' := (T46.setTop (mkF m 117 #[.val (.int sz), .val (.int lv), .val (.int (2 : Int32)), .val (.int (2 : Int32)), .val (.ref d1), .val (.ref d2), .val (.ref d3), .val (.ref a), .val (.ref t), .val (.ref d2), .val (.int (2 : Int32)), .unset] [(.int (1 : Int32)), (.int (2 : Int32))]))) (fun _ k => XS.iconst X46.here hx rfl (hb hby at_116) k) ?_
        refine own_go (S' := (T46.setTop (mkF m 125 #[.val (.int sz), .val (.int lv), .val (.int (2 : Int32)), .val (.int (2 : Int32)), .val (.ref d1), .val (.ref d2), .val (.ref d3), .val (.ref a), .val (.ref t), .val (.ref d2), .val (.int (2 : Int32)), .unset] []))) (fun _ k => XS.icmpYes X46.here hx rfl (pc0 := 117) (pc' := 125) rfl (hb hby at_117) rfl (feq (by decide)).2 (by decide) (by decide) k) ?_
        refine own_go (S' := (T46.setTop (mkF m 127 #[.val (.int sz), .val (.int lv), .val (.int (2 : Int32)), .val (.int (2 : Int32)), .val (.ref d1), .val (.ref d2), .val (.ref d3), .val (.ref a), .val (.ref t), .val (.ref d2), .val (.int (2 : Int32)), .unset] [(.int (2 : Int32))]))) (fun _ k => XS.iload X46.here hx rfl (hb hby at_125) rfl  k) ?_
        refine own_go (S' := (T46.setTop (mkF m 128 #[.val (.int sz), .val (.int lv), .val (.int (2 : Int32)), .val (.int (2 : Int32)), .val (.ref d1), .val (.ref d2), .val (.ref d3), .val (.ref a), .val (.ref t), .val (.ref d2), .val (.int (2 : Int32)), .unset] [(.int (2 : Int32)), (.int (2 : Int32))]))) (fun _ k => XS.iconst X46.here hx rfl (hb hby at_127) k) ?_
        refine own_go (S' := (T46.setTop (mkF m 131 #[.val (.int sz), .val (.int lv), .val (.int (2 : Int32)), .val (.int (2 : Int32)), .val (.ref d1), .val (.ref d2), .val (.ref d3), .val (.ref a), .val (.ref t), .val (.ref d2), .val (.int (2 : Int32)), .unset] []))) (fun _ k => XS.icmpNo X46.here hx rfl (hb hby at_128) rfl (teq rfl).2 k) ?_
        refine own_go (S' := (T46.setTop (mkF m 133 #[.val (.int sz), .val (.int lv), .val (.int (2 : Int32)), .val (.int (2 : Int32)), .val (.ref d1), .val (.ref d2), .val (.ref d3), .val (.ref a), .val (.ref t), .val (.ref d2), .val (.int (2 : Int32)), .unset] [(.ref d2)]))) (fun _ k => XS.aload X46.here hx rfl (hb hby at_131) rfl rfl  k) ?_
        refine own_go (S' := (T46.setTop (mkF m 138 #[.val (.int sz), .val (.int lv), .val (.int (2 : Int32)), .val (.int (2 : Int32)), .val (.ref d1), .val (.ref d2), .val (.ref d3), .val (.ref a), .val (.ref t), .val (.ref d2), .val (.int (2 : Int32)), .unset] [(.ref d2)]))) (fun _ k => XS.goto X46.here hx rfl (pc0 := 133) (pc' := 138) rfl (hb hby at_133) (by decide) (by decide) k) ?_
        refine own_go (S' := (T46.setTop (mkF m 140 #[.val (.int sz), .val (.int lv), .val (.int (2 : Int32)), .val (.int (2 : Int32)), .val (.ref d1), .val (.ref d2), .val (.ref d3), .val (.ref a), .val (.ref t), .val (.ref d2), .val (.int (2 : Int32)), .val (.ref d2)] []))) (fun _ k => XS.astore X46.here hx rfl (hb hby at_138) rfl rfl (l' := #[.val (.int sz), .val (.int lv), .val (.int (2 : Int32)), .val (.int (2 : Int32)), .val (.ref d1), .val (.ref d2), .val (.ref d3), .val (.ref a), .val (.ref t), .val (.ref d2), .val (.int (2 : Int32)), .val (.ref d2)]) rfl k) ?_
        refine own_go (S' := (T46.setTop (mkF m 142 #[.val (.int sz), .val (.int lv), .val (.int (2 : Int32)), .val (.int (2 : Int32)), .val (.ref d1), .val (.ref d2), .val (.ref d3), .val (.ref a), .val (.ref t), .val (.ref d2), .val (.int (2 : Int32)), .val (.ref d2)] [(.ref d2)]))) (fun _ k => XS.aload X46.here hx rfl (hb hby at_140) rfl rfl  k) ?_
        refine own_go (S' := (T46.setTop (mkF m 144 #[.val (.int sz), .val (.int lv), .val (.int (2 : Int32)), .val (.int (2 : Int32)), .val (.ref d1), .val (.ref d2), .val (.ref d3), .val (.ref a), .val (.ref t), .val (.ref d2), .val (.int (2 : Int32)), .val (.ref d2)] [(.ref d2), (.ref d2)]))) (fun _ k => XS.aload X46.here hx rfl (hb hby at_142) rfl rfl  k) ?_
        refine own_go (S' := (T46.setTop (mkF m 147 #[.val (.int sz), .val (.int lv), .val (.int (2 : Int32)), .val (.int (2 : Int32)), .val (.ref d1), .val (.ref d2), .val (.ref d3), .val (.ref a), .val (.ref t), .val (.ref d2), .val (.int (2 : Int32)), .val (.ref d2)] []))) (fun _ k => Jvm.RoadKit.acmp (g := (mkF m 144 #[.val (.int sz), .val (.int lv), .val (.int (2 : Int32)), .val (.int (2 : Int32)), .val (.ref d1), .val (.ref d2), .val (.ref d3), .val (.ref a), .val (.ref t), .val (.ref d2), .val (.int (2 : Int32)), .val (.ref d2)] [(.ref d2), (.ref d2)])) X46 hx rfl rfl rfl (pc0 := 144) (pc' := 147) (same := true) rfl (hb hby at_144) rfl (decide_eq_true rfl) (by decide) (by decide) k) ?_
        refine own_go (S' := (T46.setTop (mkF m 148 #[.val (.int sz), .val (.int lv), .val (.int (2 : Int32)), .val (.int (2 : Int32)), .val (.ref d1), .val (.ref d2), .val (.ref d3), .val (.ref a), .val (.ref t), .val (.ref d2), .val (.int (2 : Int32)), .val (.ref d2)] [(.int (1 : Int32))]))) (fun _ k => XS.iconst X46.here hx rfl (hb hby at_147) k) ?_
        refine own_go (S' := (T46.setTop (mkF m 152 #[.val (.int sz), .val (.int lv), .val (.int (2 : Int32)), .val (.int (2 : Int32)), .val (.ref d1), .val (.ref d2), .val (.ref d3), .val (.ref a), .val (.ref t), .val (.ref d2), .val (.int (2 : Int32)), .val (.ref d2)] [(.int (1 : Int32))]))) (fun _ k => XS.goto X46.here hx rfl (pc0 := 148) (pc' := 152) rfl (hb hby at_148) (by decide) (by decide) k) ?_
        refine own_retZ X46 hx hlk (t := .boolean) hret (by simp) (hb hby at_152) ?_ (by decide) (by decide)
        rw [hh46]
        exact ⟨rfl, N46⟩
  · skip
    refine own_go (S' := (s₁.setTop (mkF m 10 #[.val (.int sz), .val (.int lv), .val (.int (3 : Int32)), .unset, .unset, .unset, .unset, .unset, .unset, .unset, .unset, .unset] [(.int (1 : Int32))]))) (fun _ k => XS.iconst X0.here hx rfl (hb hby at_9) k) ?_
    refine own_go (S' := (s₁.setTop (mkF m 11 #[.val (.int sz), .val (.int lv), .val (.int (3 : Int32)), .unset, .unset, .unset, .unset, .unset, .unset, .unset, .unset, .unset] [(.int lv), (.int (1 : Int32))]))) (fun _ k => XS.iloadN X0.here hx rfl (hb hby at_10) rfl  k) ?_
    refine own_go (S' := (s₁.setTop (mkF m 13 #[.val (.int sz), .val (.int lv), .val (.int (3 : Int32)), .unset, .unset, .unset, .unset, .unset, .unset, .unset, .unset, .unset] [(.int (2147483647 : Int32)), (.int lv), (.int (1 : Int32))]))) (fun _ k => X0.ldcInt hx hown (mvT hZ (hw _ (List.mem_of_getElem? (i := 0) rfl))) (g := (mkF m 11 #[.val (.int sz), .val (.int lv), .val (.int (3 : Int32)), .unset, .unset, .unset, .unset, .unset, .unset, .unset, .unset, .unset] [(.int lv), (.int (1 : Int32))])) rfl (hb hby at_11) _ k) ?_
    refine own_go (S' := (s₁.setTop (mkF m 14 #[.val (.int sz), .val (.int lv), .val (.int (3 : Int32)), .unset, .unset, .unset, .unset, .unset, .unset, .unset, .unset, .unset] [(.int (lv &&& (2147483647 : Int32))), (.int (1 : Int32))]))) (fun _ k => XS.iand X0.here hx rfl (hb hby at_13) rfl k) ?_
    obtain ⟨_, _, ⟨T47, L47, k47, n47⟩, -, X47, ⟨Lc47, hQ47, l47, y47, z47⟩, st47⟩ := Jvm.LawKit.callS X0 hx (y := (⟨"java/lang/Math", "max", "(II)I"⟩ : MethodName)) hown (mvT hZ (hw _ (List.mem_of_getElem? (i := 1) rfl))) (mvT hZ (hw _ (List.mem_of_getElem? (i := 2) rfl))) (mvT hZ (hw _ (List.mem_of_getElem? (i := 3) rfl))) (mvT hZ (hw _ (List.mem_of_getElem? (i := 4) rfl))) (by decide) (backOf (W := 0) (own_max l Z a0 hw (lv &&& (2147483647 : Int32)) h0 n0 Z0) hZ (hw _ (List.mem_of_getElem? (i := 4) rfl)) (hw _ (List.mem_of_getElem? (i := 3) rfl)) (by decide) (by decide)) (g := (mkF m 14 #[.val (.int sz), .val (.int lv), .val (.int (3 : Int32)), .unset, .unset, .unset, .unset, .unset, .unset, .unset, .unset, .unset] [(.int (lv &&& (2147483647 : Int32))), (.int (1 : Int32))])) rfl (by rw [hml]; rfl) (argsL := [(.int (1 : Int32)), (.int (lv &&& (2147483647 : Int32)))]) (rest := []) (lenOf own_pd3 rfl) rfl (by show 2 * 0 + _ ≤ _; exact Nat.le_of_eq rfl) (hb hby at_14) (fun _ _ => ⟨rfl, e0, (by decide : 0 + 0 ≤ _), (by decide : 0 + 0 ≤ _)⟩)
    dsimp only [Pt.U, Pt.locs, Pt.cells, Pt.slots] at X47 l47 y47 z47 st47 hQ47
    subst l47 y47 z47
    obtain ⟨z47, rfl, N47q, hh47, hz47⟩ := hQ47
    have N47 := Fr.app N0 N47q
    refine own_go (S' := (T47.setTop (mkF m 17 #[.val (.int sz), .val (.int lv), .val (.int (3 : Int32)), .unset, .unset, .unset, .unset, .unset, .unset, .unset, .unset, .unset] [(.int z47)]))) st47 ?_
    refine own_go (S' := (T47.setTop (mkF m 18 #[.val (.int sz), .val (.int lv), .val (.int (3 : Int32)), .val (.int z47), .unset, .unset, .unset, .unset, .unset, .unset, .unset, .unset] []))) (fun _ k => XS.istoreN X47.here hx rfl (hb hby at_17) rfl (l' := #[.val (.int sz), .val (.int lv), .val (.int (3 : Int32)), .val (.int z47), .unset, .unset, .unset, .unset, .unset, .unset, .unset, .unset]) rfl k) ?_
    refine own_go (S' := (T47.setTop (mkF m 19 #[.val (.int sz), .val (.int lv), .val (.int (3 : Int32)), .val (.int z47), .unset, .unset, .unset, .unset, .unset, .unset, .unset, .unset] [(.long (1 : Int64))]))) (fun _ k => XS.lconst X47.here hx rfl (hb hby at_18) k) ?_
    obtain ⟨_, _, ⟨T48, L48, k48, n48⟩, -, X48, ⟨Lc48, hQ48, l48, y48, z48⟩, st48⟩ := Jvm.LawKit.callS X47 hx (y := (⟨"java/time/Duration", "ofSeconds", "(J)Ljava/time/Duration;"⟩ : MethodName)) hown (mvT hZ (hw _ (List.mem_of_getElem? (i := 5) rfl))) (mvT hZ (hw _ (List.mem_of_getElem? (i := 6) rfl))) (mvT hZ (hw _ (List.mem_of_getElem? (i := 7) rfl))) (mvT hZ (hw _ (List.mem_of_getElem? (i := 8) rfl))) (by decide) (backOf (W := 0) (own_os1 l Z a0 hw h0 n0 (Nat.le_trans Z0 (Keep.refl h0 []).1)) hZ (hw _ (List.mem_of_getElem? (i := 8) rfl)) (hw _ (List.mem_of_getElem? (i := 7) rfl)) (by decide) (by decide)) (g := (mkF m 19 #[.val (.int sz), .val (.int lv), .val (.int (3 : Int32)), .val (.int z47), .unset, .unset, .unset, .unset, .unset, .unset, .unset, .unset] [(.long (1 : Int64))])) rfl (by rw [hml]; rfl) (argsL := [(.long (1 : Int64))]) (rest := []) (lenOf own_pd18 rfl) rfl (by show 2 * 0 + _ ≤ _; exact Nat.le_of_eq rfl) (hb hby at_19) (fun _ _ => ⟨rfl, hh47, (by decide : 0 + 1 ≤ _), (by decide : 0 + 2 ≤ _)⟩)
    dsimp only [Pt.U, Pt.locs, Pt.cells, Pt.slots] at X48 l48 y48 z48 st48 hQ48
    subst l48 y48 z48
    obtain ⟨d1, rfl, N48q, Kc48, Ec48, sc48⟩ := hQ48
    have N48 := Fr.app N47 N48q
    refine own_go (S' := (T48.setTop (mkF m 22 #[.val (.int sz), .val (.int lv), .val (.int (3 : Int32)), .val (.int z47), .unset, .unset, .unset, .unset, .unset, .unset, .unset, .unset] [(.ref d1)]))) st48 ?_
    have c49_SD := own_Sk SD Kc48 all0
    have c49_SE := own_Sk SE Kc48 all0
    have c49_Vd := Vd.keep Kc48 nin0
    have c49_Em := Em.keep Kc48
    have K48x := (Keep.refl h0 []).trans Kc48 all0
    refine own_go (S' := (T48.setTop (mkF m 24 #[.val (.int sz), .val (.int lv), .val (.int (3 : Int32)), .val (.int z47), .val (.ref d1), .unset, .unset, .unset, .unset, .unset, .unset, .unset] []))) (fun _ k => XS.astore X48.here hx rfl (hb hby at_22) rfl rfl (l' := #[.val (.int sz), .val (.int lv), .val (.int (3 : Int32)), .val (.int z47), .val (.ref d1), .unset, .unset, .unset, .unset, .unset, .unset, .unset]) rfl k) ?_
    refine own_go (S' := (T48.setTop (mkF m 27 #[.val (.int sz), .val (.int lv), .val (.int (3 : Int32)), .val (.int z47), .val (.ref d1), .unset, .unset, .unset, .unset, .unset, .unset, .unset] [(.long (2 : Int64))]))) (fun _ k => X48.ldc2Long hx hown (mvT hZ (hw _ (List.mem_of_getElem? (i := 25) rfl))) (g := (mkF m 24 #[.val (.int sz), .val (.int lv), .val (.int (3 : Int32)), .val (.int z47), .val (.ref d1), .unset, .unset, .unset, .unset, .unset, .unset, .unset] [])) rfl (hb hby at_24) _ k) ?_
    obtain ⟨_, _, ⟨T50, L50, k50, n50⟩, -, X50, ⟨Lc50, hQ50, l50, y50, z50⟩, st50⟩ := Jvm.LawKit.callS X48 hx (y := (⟨"java/time/Duration", "ofSeconds", "(J)Ljava/time/Duration;"⟩ : MethodName)) hown (mvT hZ (hw _ (List.mem_of_getElem? (i := 5) rfl))) (mvT hZ (hw _ (List.mem_of_getElem? (i := 6) rfl))) (mvT hZ (hw _ (List.mem_of_getElem? (i := 7) rfl))) (mvT hZ (hw _ (List.mem_of_getElem? (i := 8) rfl))) (by decide) (backOf (W := 0) (own_os2 l Z a0 hw T48.heap n0 (Nat.le_trans Z0 K48x.1)) hZ (hw _ (List.mem_of_getElem? (i := 8) rfl)) (hw _ (List.mem_of_getElem? (i := 7) rfl)) (by decide) (by decide)) (g := (mkF m 27 #[.val (.int sz), .val (.int lv), .val (.int (3 : Int32)), .val (.int z47), .val (.ref d1), .unset, .unset, .unset, .unset, .unset, .unset, .unset] [(.long (2 : Int64))])) rfl (by rw [hml]; rfl) (argsL := [(.long (2 : Int64))]) (rest := []) (lenOf own_pd18 rfl) rfl (by show 2 * 0 + _ ≤ _; exact Nat.le_of_eq rfl) (hb hby at_27) (fun _ _ => ⟨rfl, rfl, (by decide : 1 + 1 ≤ _), (by decide : 2 + 2 ≤ _)⟩)
    dsimp only [Pt.U, Pt.locs, Pt.cells, Pt.slots] at X50 l50 y50 z50 st50 hQ50
    subst l50 y50 z50
    obtain ⟨d2, rfl, N50q, Kc50, Ec50, sc50⟩ := hQ50
    have N50 := Fr.app N48 N50q
    refine own_go (S' := (T50.setTop (mkF m 30 #[.val (.int sz), .val (.int lv), .val (.int (3 : Int32)), .val (.int z47), .val (.ref d1), .unset, .unset, .unset, .unset, .unset, .unset, .unset] [(.ref d2)]))) st50 ?_
    have nm : ¬ d2 = em := Ne.symm (Nat.ne_of_lt (Nat.lt_of_lt_of_le c49_Em.lt sc50))
    have c51_SD := own_Sk c49_SD Kc50 all0
    have c51_SE := own_Sk c49_SE Kc50 all0
    have c51_Vd := c49_Vd.keep Kc50 nin0
    have c51_Em := c49_Em.keep Kc50
    have c51_Ed1 := Ec48.keep Kc50
    have K50x := K48x.trans Kc50 all0
    refine own_go (S' := (T50.setTop (mkF m 32 #[.val (.int sz), .val (.int lv), .val (.int (3 : Int32)), .val (.int z47), .val (.ref d1), .val (.ref d2), .unset, .unset, .unset, .unset, .unset, .unset] []))) (fun _ k => XS.astore X50.here hx rfl (hb hby at_30) rfl rfl (l' := #[.val (.int sz), .val (.int lv), .val (.int (3 : Int32)), .val (.int z47), .val (.ref d1), .val (.ref d2), .unset, .unset, .unset, .unset, .unset, .unset]) rfl k) ?_
    refine own_go (S' := (T50.setTop (mkF m 35 #[.val (.int sz), .val (.int lv), .val (.int (3 : Int32)), .val (.int z47), .val (.ref d1), .val (.ref d2), .unset, .unset, .unset, .unset, .unset, .unset] [(.long (3 : Int64))]))) (fun _ k => X50.ldc2Long hx hown (mvT hZ (hw _ (List.mem_of_getElem? (i := 26) rfl))) (g := (mkF m 32 #[.val (.int sz), .val (.int lv), .val (.int (3 : Int32)), .val (.int z47), .val (.ref d1), .val (.ref d2), .unset, .unset, .unset, .unset, .unset, .unset] [])) rfl (hb hby at_32) _ k) ?_
    obtain ⟨_, _, ⟨T52, L52, k52, n52⟩, -, X52, ⟨Lc52, hQ52, l52, y52, z52⟩, st52⟩ := Jvm.LawKit.callS X50 hx (y := (⟨"java/time/Duration", "ofSeconds", "(J)Ljava/time/Duration;"⟩ : MethodName)) hown (mvT hZ (hw _ (List.mem_of_getElem? (i := 5) rfl))) (mvT hZ (hw _ (List.mem_of_getElem? (i := 6) rfl))) (mvT hZ (hw _ (List.mem_of_getElem? (i := 7) rfl))) (mvT hZ (hw _ (List.mem_of_getElem? (i := 8) rfl))) (by decide) (backOf (W := 0) (own_os3 l Z a0 hw T50.heap n0 (Nat.le_trans Z0 K50x.1)) hZ (hw _ (List.mem_of_getElem? (i := 8) rfl)) (hw _ (List.mem_of_getElem? (i := 7) rfl)) (by decide) (by decide)) (g := (mkF m 35 #[.val (.int sz), .val (.int lv), .val (.int (3 : Int32)), .val (.int z47), .val (.ref d1), .val (.ref d2), .unset, .unset, .unset, .unset, .unset, .unset] [(.long (3 : Int64))])) rfl (by rw [hml]; rfl) (argsL := [(.long (3 : Int64))]) (rest := []) (lenOf own_pd18 rfl) rfl (by show 2 * 0 + _ ≤ _; exact Nat.le_of_eq rfl) (hb hby at_35) (fun _ _ => ⟨rfl, rfl, (by decide : 2 + 1 ≤ _), (by decide : 4 + 2 ≤ _)⟩)
    dsimp only [Pt.U, Pt.locs, Pt.cells, Pt.slots] at X52 l52 y52 z52 st52 hQ52
    subst l52 y52 z52
    obtain ⟨d3, rfl, N52q, Kc52, Ec52, sc52⟩ := hQ52
    have N52 := Fr.app N50 N52q
    refine own_go (S' := (T52.setTop (mkF m 38 #[.val (.int sz), .val (.int lv), .val (.int (3 : Int32)), .val (.int z47), .val (.ref d1), .val (.ref d2), .unset, .unset, .unset, .unset, .unset, .unset] [(.ref d3)]))) st52 ?_
    have c53_SD := own_Sk c51_SD Kc52 all0
    have c53_SE := own_Sk c51_SE Kc52 all0
    have c53_Vd := c51_Vd.keep Kc52 nin0
    have c53_Em := c51_Em.keep Kc52
    have c53_Ed1 := c51_Ed1.keep Kc52
    have c53_Ed2 := Ec50.keep Kc52
    have K52x := K50x.trans Kc52 all0
    refine own_go (S' := (T52.setTop (mkF m 40 #[.val (.int sz), .val (.int lv), .val (.int (3 : Int32)), .val (.int z47), .val (.ref d1), .val (.ref d2), .val (.ref d3), .unset, .unset, .unset, .unset, .unset] []))) (fun _ k => XS.astore X52.here hx rfl (hb hby at_38) rfl rfl (l' := #[.val (.int sz), .val (.int lv), .val (.int (3 : Int32)), .val (.int z47), .val (.ref d1), .val (.ref d2), .val (.ref d3), .unset, .unset, .unset, .unset, .unset]) rfl k) ?_
    obtain ⟨T54, h54, X54, e54, E54, A54, D54, -, st54⟩ := newO X52 hx hZ hown (hw _ (List.mem_of_getElem? (i := 27) rfl)) (hw _ (List.mem_of_getElem? (i := 28) rfl)) (hw _ (List.mem_of_getElem? (i := 29) rfl)) rfl (g := (mkF m 40 #[.val (.int sz), .val (.int lv), .val (.int (3 : Int32)), .val (.int z47), .val (.ref d1), .val (.ref d2), .val (.ref d3), .unset, .unset, .unset, .unset, .unset] [])) rfl (hb hby at_40) (by decide) (by decide)
    obtain ⟨a, g54⟩ : ∃ z, z = T52.heap.size := ⟨_, rfl⟩
    rw [← g54] at A54 D54 st54
    refine own_go (S' := (T54.setTop (mkF m 43 #[.val (.int sz), .val (.int lv), .val (.int (3 : Int32)), .val (.int z47), .val (.ref d1), .val (.ref d2), .val (.ref d3), .unset, .unset, .unset, .unset, .unset] [(.ref a)]))) st54 ?_
    have sz_a : h0.size ≤ a := Nat.le_trans K52x.1 (Nat.le_of_eq g54.symm)
    have gn_a : n0 ≤ a := Nat.le_trans Z0 sz_a
    have ne_dd_a : dd ≠ a := Nat.ne_of_lt (Nat.lt_of_lt_of_le c53_Vd.lt (Nat.le_of_eq g54.symm))
    have ne_em_a : em ≠ a := Nat.ne_of_lt (Nat.lt_of_lt_of_le c53_Em.lt (Nat.le_of_eq g54.symm))
    have ne_d1_a : d1 ≠ a := Nat.ne_of_lt (Nat.lt_of_lt_of_le c53_Ed1.lt (Nat.le_of_eq g54.symm))
    have ne_d2_a : d2 ≠ a := Nat.ne_of_lt (Nat.lt_of_lt_of_le c53_Ed2.lt (Nat.le_of_eq g54.symm))
    have ne_d3_a : d3 ≠ a := Nat.ne_of_lt (Nat.lt_of_lt_of_le Ec52.lt (Nat.le_of_eq g54.symm))
    have c55_SD := c53_SD.ext E54
    have c55_SE := c53_SE.ext E54
    have c55_Vd := c53_Vd.ext E54
    have c55_Em := c53_Em.ext E54
    have c55_Ed1 := c53_Ed1.ext E54
    have c55_Ed2 := c53_Ed2.ext E54
    have c55_Ed3 := Ec52.ext E54
    have K54 := K52x.ext E54
    refine own_go (S' := (T54.setTop (mkF m 44 #[.val (.int sz), .val (.int lv), .val (.int (3 : Int32)), .val (.int z47), .val (.ref d1), .val (.ref d2), .val (.ref d3), .unset, .unset, .unset, .unset, .unset] [(.ref a), (.ref a)]))) (fun _ k => XS.dup X54.here hx rfl (hb hby at_43) rfl rfl k) ?_
    obtain ⟨_, _, ⟨T56, L56, k56, n56⟩, -, X56, ⟨Lc56, hQ56, l56, y56, z56⟩, st56⟩ := X54.specialBack hx (y := (⟨"java/util/ArrayList", "<init>", "()V"⟩ : MethodName)) rfl hown (mvT hZ (hw _ (List.mem_of_getElem? (i := 30) rfl))) (mvT hZ (hw _ (List.mem_of_getElem? (i := 31) rfl))) (mvT hZ (hw _ (List.mem_of_getElem? (i := 32) rfl))) (by decide) (backOf (W := 1) (own_ini l Z a0 hw a dd h54 n0 (Nat.le_trans Z0 K54.1) A54 (D54 (Or.inl (hw _ (List.mem_of_getElem? (i := 47) rfl))) (ty := .int) (by decide)) (D54 (Or.inl (hw _ (List.mem_of_getElem? (i := 50) rfl))) (ty := (.array (.object "java/lang/Object"))) (by decide)) (D54 (Or.inl (hw _ (List.mem_of_getElem? (i := 59) rfl))) (ty := .int) (by decide)) c55_SD gn_a) hZ (hw _ (List.mem_of_getElem? (i := 32) rfl)) (hw _ (List.mem_of_getElem? (i := 29) rfl)) (by decide) (by decide)) (g := (mkF m 44 #[.val (.int sz), .val (.int lv), .val (.int (3 : Int32)), .val (.int z47), .val (.ref d1), .val (.ref d2), .val (.ref d3), .unset, .unset, .unset, .unset, .unset] [(.ref a), (.ref a)])) rfl (by rw [hml]; rfl) (Steps.refl _) (a := a) (argsL := []) (rest := [(.ref a)]) (lenOf own_pd2 rfl) rfl (by show 2 * 0 + _ ≤ _; exact Nat.le_of_eq rfl) (hb hby at_44) (fun _ _ => ⟨rfl, e54, (by decide : 4 + 0 ≤ _), (by decide : 9 + 0 ≤ _)⟩)
    dsimp only [Pt.U, Pt.locs, Pt.cells, Pt.slots] at X56 l56 y56 z56 st56 hQ56
    subst l56 y56 z56
    obtain ⟨rfl, N56q, Kc56, A56c⟩ := hQ56
    have N56 := Fr.app N52 N56q
    refine own_via (S' := (T56.setTop (mkF m 47 #[.val (.int sz), .val (.int lv), .val (.int (3 : Int32)), .val (.int z47), .val (.ref d1), .val (.ref d2), .val (.ref d3), .unset, .unset, .unset, .unset, .unset] [(.ref a)]))) st56 ?_
    have c57_SD := own_Sk c55_SD Kc56 (allS A54.own_nst all0)
    have c57_SE := own_Sk c55_SE Kc56 (allS A54.own_nst all0)
    have c57_Vd := c55_Vd.keep Kc56 (ninS ne_dd_a nin0)
    have c57_Em := c55_Em.keep Kc56
    have c57_Ed1 := c55_Ed1.keep Kc56
    have c57_Ed2 := c55_Ed2.keep Kc56
    have c57_Ed3 := c55_Ed3.keep Kc56
    have K56x := K54.trans Kc56 (allS (Or.inr sz_a) all0)
    obtain ⟨E58a, F58m, F58e, F58s⟩ := A56c
    refine own_go (S' := (T56.setTop (mkF m 49 #[.val (.int sz), .val (.int lv), .val (.int (3 : Int32)), .val (.int z47), .val (.ref d1), .val (.ref d2), .val (.ref d3), .val (.ref a), .unset, .unset, .unset, .unset] []))) (fun _ k => XS.astore X56.here hx rfl (hb hby at_47) rfl rfl (l' := #[.val (.int sz), .val (.int lv), .val (.int (3 : Int32)), .val (.int z47), .val (.ref d1), .val (.ref d2), .val (.ref d3), .val (.ref a), .unset, .unset, .unset, .unset]) rfl k) ?_
    refine own_go (S' := (T56.setTop (mkF m 51 #[.val (.int sz), .val (.int lv), .val (.int (3 : Int32)), .val (.int z47), .val (.ref d1), .val (.ref d2), .val (.ref d3), .val (.ref a), .unset, .unset, .unset, .unset] [(.ref a)]))) (fun _ k => XS.aload X56.here hx rfl (hb hby at_49) rfl rfl  k) ?_
    refine own_go (S' := (T56.setTop (mkF m 53 #[.val (.int sz), .val (.int lv), .val (.int (3 : Int32)), .val (.int z47), .val (.ref d1), .val (.ref d2), .val (.ref d3), .val (.ref a), .unset, .unset, .unset, .unset] [(.ref d1), (.ref a)]))) (fun _ k => XS.aload X56.here hx rfl (hb hby at_51) rfl rfl  k) ?_
    obtain ⟨cq59, kq59, q59a, q59b, q59c⟩ := isOf hZ rfl (E58a)
    obtain ⟨_, _, ⟨T59, L59, k59, n59⟩, -, X59, ⟨Lc59, hQ59, l59, y59, z59⟩, st59⟩ := X56.virtualBack hx (y := (⟨"java/util/ArrayList", "add", "(Ljava/lang/Object;)Z"⟩ : MethodName)) (z := (⟨"java/util/ArrayList", "add", "(Ljava/lang/Object;)Z"⟩ : MethodName)) hown (mvT hZ (hw _ (List.mem_of_getElem? (i := 51) rfl))) (mvT hZ (hw _ (List.mem_of_getElem? (i := 52) rfl))) (notFace_of_selects (args := #[]) (mvT hZ (hw _ (List.mem_of_getElem? (i := 54) rfl)))) (mvT hZ (hw _ (List.mem_of_getElem? (i := 54) rfl))) (mvT hZ (hw _ (List.mem_of_getElem? (i := 53) rfl))) (by decide) (backOf (W := 0) (own_add1 l Z a0 hw a d1 dd kd T56.heap n0 (Nat.le_trans Z0 K56x.1) E58a F58m F58e F58s c57_SD c57_Vd c57_Ed1 gn_a (Ne.symm ne_dd_a)) hZ (hw _ (List.mem_of_getElem? (i := 55) rfl)) (hw _ (List.mem_of_getElem? (i := 29) rfl)) (by decide) (by decide)) q59a q59c (g := (mkF m 53 #[.val (.int sz), .val (.int lv), .val (.int (3 : Int32)), .val (.int z47), .val (.ref d1), .val (.ref d2), .val (.ref d3), .val (.ref a), .unset, .unset, .unset, .unset] [(.ref d1), (.ref a)])) rfl (by rw [hml]; rfl) (Steps.refl _) (argsL := [(.ref d1)]) (rest := []) (lenOf own_pd19 rfl) rfl (by show 2 * 0 + _ ≤ _; exact Nat.le_of_eq rfl) (hb hby at_53) (fun _ _ => ⟨rfl, rfl, (by decide : 4 + 1 ≤ _), (by decide : 9 + 10 ≤ _)⟩)
    dsimp only [Pt.U, Pt.locs, Pt.cells, Pt.slots] at X59 l59 y59 z59 st59 hQ59
    subst l59 y59 z59
    obtain ⟨rfl, N59q, Kc59, ea, ke, A59c, V59c, O59c, X59c, s59c⟩ := hQ59
    have N59 := Fr.app N56 N59q
    refine own_via (S' := (T59.setTop (mkF m 56 #[.val (.int sz), .val (.int lv), .val (.int (3 : Int32)), .val (.int z47), .val (.ref d1), .val (.ref d2), .val (.ref d3), .val (.ref a), .unset, .unset, .unset, .unset] [(.int (1 : Int32))]))) st59 ?_
    have sz_ea : h0.size ≤ ea := Nat.le_trans K56x.1 s59c
    have ne_a_ea : a ≠ ea := Nat.ne_of_lt (Nat.lt_of_lt_of_le E58a.lt s59c)
    have c60_SE := own_Sk c57_SE Kc59 (allS E58a.own_nst all0)
    have c60_Em := c57_Em.keep Kc59
    have c60_Ed1 := c57_Ed1.keep Kc59
    have c60_Ed2 := c57_Ed2.keep Kc59
    have c60_Ed3 := c57_Ed3.keep Kc59
    have K59x := K56x.trans Kc59 (allS (Or.inr sz_a) all0)
    obtain ⟨E61a, F61m, F61e, F61s⟩ := A59c
    refine own_go (S' := (T59.setTop (mkF m 57 #[.val (.int sz), .val (.int lv), .val (.int (3 : Int32)), .val (.int z47), .val (.ref d1), .val (.ref d2), .val (.ref d3), .val (.ref a), .unset, .unset, .unset, .unset] []))) (fun _ k => XS.pop X59.here hx rfl (hb hby at_56) rfl rfl k) ?_
    refine own_go (S' := (T59.setTop (mkF m 58 #[.val (.int sz), .val (.int lv), .val (.int (3 : Int32)), .val (.int z47), .val (.ref d1), .val (.ref d2), .val (.ref d3), .val (.ref a), .unset, .unset, .unset, .unset] [(.int (3 : Int32))]))) (fun _ k => XS.iloadN X59.here hx rfl (hb hby at_57) rfl  k) ?_
    refine own_go (S' := (T59.setTop (mkF m 59 #[.val (.int sz), .val (.int lv), .val (.int (3 : Int32)), .val (.int z47), .val (.ref d1), .val (.ref d2), .val (.ref d3), .val (.ref a), .unset, .unset, .unset, .unset] [(.int (2 : Int32)), (.int (3 : Int32))]))) (fun _ k => XS.iconst X59.here hx rfl (hb hby at_58) k) ?_
    refine own_go (S' := (T59.setTop (mkF m 62 #[.val (.int sz), .val (.int lv), .val (.int (3 : Int32)), .val (.int z47), .val (.ref d1), .val (.ref d2), .val (.ref d3), .val (.ref a), .unset, .unset, .unset, .unset] []))) (fun _ k => XS.icmpNo X59.here hx rfl (hb hby at_59) rfl (flt (by decide)).1 k) ?_
    refine own_go (S' := (T59.setTop (mkF m 64 #[.val (.int sz), .val (.int lv), .val (.int (3 : Int32)), .val (.int z47), .val (.ref d1), .val (.ref d2), .val (.ref d3), .val (.ref a), .unset, .unset, .unset, .unset] [(.ref a)]))) (fun _ k => XS.aload X59.here hx rfl (hb hby at_62) rfl rfl  k) ?_
    refine own_go (S' := (T59.setTop (mkF m 66 #[.val (.int sz), .val (.int lv), .val (.int (3 : Int32)), .val (.int z47), .val (.ref d1), .val (.ref d2), .val (.ref d3), .val (.ref a), .unset, .unset, .unset, .unset] [(.ref d2), (.ref a)]))) (fun _ k => XS.aload X59.here hx rfl (hb hby at_64) rfl rfl  k) ?_
    obtain ⟨cq62, kq62, q62a, q62b, q62c⟩ := isOf hZ rfl (E61a)
    obtain ⟨_, _, ⟨T62, L62, k62, n62⟩, -, X62, ⟨Lc62, hQ62, l62, y62, z62⟩, st62⟩ := X59.virtualBack hx (y := (⟨"java/util/ArrayList", "add", "(Ljava/lang/Object;)Z"⟩ : MethodName)) (z := (⟨"java/util/ArrayList", "add", "(Ljava/lang/Object;)Z"⟩ : MethodName)) hown (mvT hZ (hw _ (List.mem_of_getElem? (i := 51) rfl))) (mvT hZ (hw _ (List.mem_of_getElem? (i := 52) rfl))) (notFace_of_selects (args := #[]) (mvT hZ (hw _ (List.mem_of_getElem? (i := 54) rfl)))) (mvT hZ (hw _ (List.mem_of_getElem? (i := 54) rfl))) (mvT hZ (hw _ (List.mem_of_getElem? (i := 53) rfl))) (by decide) (backOf (W := 0) (own_addn1 l Z a0 hw a d2 ea d1 ke T59.heap n0 (Nat.le_trans Z0 K59x.1) E61a F61m F61e F61s V59c c60_Ed2 O59c gn_a (Nat.le_trans Z0 sz_ea) ne_a_ea) hZ (hw _ (List.mem_of_getElem? (i := 55) rfl)) (hw _ (List.mem_of_getElem? (i := 29) rfl)) (by decide) (by decide)) q62a q62c (g := (mkF m 66 #[.val (.int sz), .val (.int lv), .val (.int (3 : Int32)), .val (.int z47), .val (.ref d1), .val (.ref d2), .val (.ref d3), .val (.ref a), .unset, .unset, .unset, .unset] [(.ref d2), (.ref a)])) rfl (by rw [hml]; rfl) (Steps.refl _) (argsL := [(.ref d2)]) (rest := []) (lenOf own_pd19 rfl) rfl (by show 2 * 0 + _ ≤ _; exact Nat.le_of_eq rfl) (hb hby at_66) (fun _ _ => ⟨rfl, rfl, (by decide : 5 + 0 ≤ _), (by decide : 19 + 0 ≤ _)⟩)
    dsimp only [Pt.U, Pt.locs, Pt.cells, Pt.slots] at X62 l62 y62 z62 st62 hQ62
    subst l62 y62 z62
    obtain ⟨rfl, N62q, Kc62, A62c, V62c⟩ := hQ62
    have N62 := Fr.app N59 N62q
    refine own_via (S' := (T62.setTop (mkF m 69 #[.val (.int sz), .val (.int lv), .val (.int (3 : Int32)), .val (.int z47), .val (.ref d1), .val (.ref d2), .val (.ref d3), .val (.ref a), .unset, .unset, .unset, .unset] [(.int (1 : Int32))]))) st62 ?_
    have c63_SE := own_Sk c60_SE Kc62 (allS E61a.own_nst (allS V59c.own_nst all0))
    have c63_Em := c60_Em.keep Kc62
    have c63_Ed1 := c60_Ed1.keep Kc62
    have c63_Ed2 := c60_Ed2.keep Kc62
    have c63_Ed3 := c60_Ed3.keep Kc62
    have c63_Ex := X59c.keep Kc62
    have K62x := K59x.trans Kc62 (allS (Or.inr sz_a) (allS (Or.inr sz_ea) all0))
    obtain ⟨E64a, F64m, F64e, F64s⟩ := A62c
    refine own_go (S' := (T62.setTop (mkF m 70 #[.val (.int sz), .val (.int lv), .val (.int (3 : Int32)), .val (.int z47), .val (.ref d1), .val (.ref d2), .val (.ref d3), .val (.ref a), .unset, .unset, .unset, .unset] []))) (fun _ k => XS.pop X62.here hx rfl (hb hby at_69) rfl rfl k) ?_
    refine own_go (S' := (T62.setTop (mkF m 71 #[.val (.int sz), .val (.int lv), .val (.int (3 : Int32)), .val (.int z47), .val (.ref d1), .val (.ref d2), .val (.ref d3), .val (.ref a), .unset, .unset, .unset, .unset] [(.int (3 : Int32))]))) (fun _ k => XS.iloadN X62.here hx rfl (hb hby at_70) rfl  k) ?_
    refine own_go (S' := (T62.setTop (mkF m 72 #[.val (.int sz), .val (.int lv), .val (.int (3 : Int32)), .val (.int z47), .val (.ref d1), .val (.ref d2), .val (.ref d3), .val (.ref a), .unset, .unset, .unset, .unset] [(.int (3 : Int32)), (.int (3 : Int32))]))) (fun _ k => XS.iconst X62.here hx rfl (hb hby at_71) k) ?_
    refine own_go (S' := (T62.setTop (mkF m 75 #[.val (.int sz), .val (.int lv), .val (.int (3 : Int32)), .val (.int z47), .val (.ref d1), .val (.ref d2), .val (.ref d3), .val (.ref a), .unset, .unset, .unset, .unset] []))) (fun _ k => XS.icmpNo X62.here hx rfl (hb hby at_72) rfl (flt (by decide)).1 k) ?_
    refine own_go (S' := (T62.setTop (mkF m 77 #[.val (.int sz), .val (.int lv), .val (.int (3 : Int32)), .val (.int z47), .val (.ref d1), .val (.ref d2), .val (.ref d3), .val (.ref a), .unset, .unset, .unset, .unset] [(.ref a)]))) (fun _ k => XS.aload X62.here hx rfl (hb hby at_75) rfl rfl  k) ?_
    refine own_go (S' := (T62.setTop (mkF m 79 #[.val (.int sz), .val (.int lv), .val (.int (3 : Int32)), .val (.int z47), .val (.ref d1), .val (.ref d2), .val (.ref d3), .val (.ref a), .unset, .unset, .unset, .unset] [(.ref d3), (.ref a)]))) (fun _ k => XS.aload X62.here hx rfl (hb hby at_77) rfl rfl  k) ?_
    obtain ⟨cq65, kq65, q65a, q65b, q65c⟩ := isOf hZ rfl (E64a)
    obtain ⟨_, _, ⟨T65, L65, k65, n65⟩, -, X65, ⟨Lc65, hQ65, l65, y65, z65⟩, st65⟩ := X62.virtualBack hx (y := (⟨"java/util/ArrayList", "add", "(Ljava/lang/Object;)Z"⟩ : MethodName)) (z := (⟨"java/util/ArrayList", "add", "(Ljava/lang/Object;)Z"⟩ : MethodName)) hown (mvT hZ (hw _ (List.mem_of_getElem? (i := 51) rfl))) (mvT hZ (hw _ (List.mem_of_getElem? (i := 52) rfl))) (notFace_of_selects (args := #[]) (mvT hZ (hw _ (List.mem_of_getElem? (i := 54) rfl)))) (mvT hZ (hw _ (List.mem_of_getElem? (i := 54) rfl))) (mvT hZ (hw _ (List.mem_of_getElem? (i := 53) rfl))) (by decide) (backOf (W := 0) (own_addn2 l Z a0 hw a d3 ea d1 d2 ke T62.heap n0 (Nat.le_trans Z0 K62x.1) E64a F64m F64e F64s V62c c63_Ed3 O59c gn_a (Nat.le_trans Z0 sz_ea) ne_a_ea) hZ (hw _ (List.mem_of_getElem? (i := 55) rfl)) (hw _ (List.mem_of_getElem? (i := 29) rfl)) (by decide) (by decide)) q65a q65c (g := (mkF m 79 #[.val (.int sz), .val (.int lv), .val (.int (3 : Int32)), .val (.int z47), .val (.ref d1), .val (.ref d2), .val (.ref d3), .val (.ref a), .unset, .unset, .unset, .unset] [(.ref d3), (.ref a)])) rfl (by rw [hml]; rfl) (Steps.refl _) (argsL := [(.ref d3)]) (rest := []) (lenOf own_pd19 rfl) rfl (by show 2 * 0 + _ ≤ _; exact Nat.le_of_eq rfl) (hb hby at_79) (fun _ _ => ⟨rfl, rfl, (by decide : 5 + 0 ≤ _), (by decide : 19 + 0 ≤ _)⟩)
    dsimp only [Pt.U, Pt.locs, Pt.cells, Pt.slots] at X65 l65 y65 z65 st65 hQ65
    subst l65 y65 z65
    obtain ⟨rfl, N65q, Kc65, A65c, V65c⟩ := hQ65
    have N65 := Fr.app N62 N65q
    refine own_via (S' := (T65.setTop (mkF m 82 #[.val (.int sz), .val (.int lv), .val (.int (3 : Int32)), .val (.int z47), .val (.ref d1), .val (.ref d2), .val (.ref d3), .val (.ref a), .unset, .unset, .unset, .unset] [(.int (1 : Int32))]))) st65 ?_
    have c66_SE := own_Sk c63_SE Kc65 (allS E64a.own_nst (allS c63_Ex.own_nst all0))
    have c66_Em := c63_Em.keep Kc65
    have c66_Ed1 := c63_Ed1.keep Kc65
    have c66_Ed2 := c63_Ed2.keep Kc65
    have c66_Ed3 := c63_Ed3.keep Kc65
    have c66_Ex := c63_Ex.keep Kc65
    have K65x := K62x.trans Kc65 (allS (Or.inr sz_a) (allS (Or.inr sz_ea) all0))
    obtain ⟨E67a, F67m, F67e, F67s⟩ := A65c
    refine own_go (S' := (T65.setTop (mkF m 83 #[.val (.int sz), .val (.int lv), .val (.int (3 : Int32)), .val (.int z47), .val (.ref d1), .val (.ref d2), .val (.ref d3), .val (.ref a), .unset, .unset, .unset, .unset] []))) (fun _ k => XS.pop X65.here hx rfl (hb hby at_82) rfl rfl k) ?_
    obtain ⟨T68, h68, X68, e68, E68, A68, D68, -, st68⟩ := newO X65 hx hZ hown (hw _ (List.mem_of_getElem? (i := 79) rfl)) (hw _ (List.mem_of_getElem? (i := 80) rfl)) (hw _ (List.mem_of_getElem? (i := 81) rfl)) rfl (g := (mkF m 83 #[.val (.int sz), .val (.int lv), .val (.int (3 : Int32)), .val (.int z47), .val (.ref d1), .val (.ref d2), .val (.ref d3), .val (.ref a), .unset, .unset, .unset, .unset] [])) rfl (hb hby at_83) (by decide) (by decide)
    obtain ⟨t, g68⟩ : ∃ z, z = T65.heap.size := ⟨_, rfl⟩
    rw [← g68] at A68 D68 st68
    refine own_go (S' := (T68.setTop (mkF m 86 #[.val (.int sz), .val (.int lv), .val (.int (3 : Int32)), .val (.int z47), .val (.ref d1), .val (.ref d2), .val (.ref d3), .val (.ref a), .unset, .unset, .unset, .unset] [(.ref t)]))) st68 ?_
    have sz_t : h0.size ≤ t := Nat.le_trans K65x.1 (Nat.le_of_eq g68.symm)
    have gn_t : n0 ≤ t := Nat.le_trans Z0 sz_t
    have ne_em_t : em ≠ t := Nat.ne_of_lt (Nat.lt_of_lt_of_le c66_Em.lt (Nat.le_of_eq g68.symm))
    have ne_d1_t : d1 ≠ t := Nat.ne_of_lt (Nat.lt_of_lt_of_le c66_Ed1.lt (Nat.le_of_eq g68.symm))
    have ne_d2_t : d2 ≠ t := Nat.ne_of_lt (Nat.lt_of_lt_of_le c66_Ed2.lt (Nat.le_of_eq g68.symm))
    have ne_d3_t : d3 ≠ t := Nat.ne_of_lt (Nat.lt_of_lt_of_le c66_Ed3.lt (Nat.le_of_eq g68.symm))
    have ne_ea_t : ea ≠ t := Nat.ne_of_lt (Nat.lt_of_lt_of_le c66_Ex.lt (Nat.le_of_eq g68.symm))
    have ne_a_t : a ≠ t := Nat.ne_of_lt (Nat.lt_of_lt_of_le E67a.lt (Nat.le_of_eq g68.symm))
    have c69_SE := c66_SE.ext E68
    have c69_Em := c66_Em.ext E68
    have c69_Ed1 := c66_Ed1.ext E68
    have c69_Ed2 := c66_Ed2.ext E68
    have c69_Ed3 := c66_Ed3.ext E68
    have c69_Ex := c66_Ex.ext E68
    have c69_E_a := E67a.ext E68
    have c69_Fm := F67m.ext E68
    have c69_Fe := F67e.ext E68
    have c69_Fs := F67s.ext E68
    have c69_V := V65c.ext E68
    have K68 := K65x.ext E68
    refine own_go (S' := (T68.setTop (mkF m 87 #[.val (.int sz), .val (.int lv), .val (.int (3 : Int32)), .val (.int z47), .val (.ref d1), .val (.ref d2), .val (.ref d3), .val (.ref a), .unset, .unset, .unset, .unset] [(.ref t), (.ref t)]))) (fun _ k => XS.dup X68.here hx rfl (hb hby at_86) rfl rfl k) ?_
    refine own_go (S' := (T68.setTop (mkF m 89 #[.val (.int sz), .val (.int lv), .val (.int (3 : Int32)), .val (.int z47), .val (.ref d1), .val (.ref d2), .val (.ref d3), .val (.ref a), .unset, .unset, .unset, .unset] [(.ref a), (.ref t), (.ref t)]))) (fun _ k => XS.aload X68.here hx rfl (hb hby at_87) rfl rfl  k) ?_
    obtain ⟨_, _, ⟨T70, L70, k70, n70⟩, -, X70, ⟨Lc70, hQ70, l70, y70, z70⟩, st70⟩ := X68.specialBack hx (y := (⟨"com/example/topicd/topicd/broker/DelayLevels", "<init>", "(Ljava/util/List;)V"⟩ : MethodName)) rfl hown (mvT hZ (hw _ (List.mem_of_getElem? (i := 82) rfl))) (mvT hZ (hw _ (List.mem_of_getElem? (i := 83) rfl))) (mvT hZ (hw _ (List.mem_of_getElem? (i := 84) rfl))) (by decide) (backOf (W := 1) (own_dl3 l Z a0 hw t a ea d1 d2 d3 ke mr em h68 n0 (Nat.le_trans Z0 K68.1) c69_E_a c69_Fe c69_Fs c69_V c69_Ex c69_Ed1 c69_Ed2 c69_Ed3 c69_SE A68 (D68 (Or.inr (hw _ (List.mem_of_getElem? (i := 178) rfl))) (ty := (.object "java/util/List")) (by decide)) mw gn_t) hZ (hw _ (List.mem_of_getElem? (i := 84) rfl)) (hw _ (List.mem_of_getElem? (i := 81) rfl)) (by decide) (by decide)) (g := (mkF m 89 #[.val (.int sz), .val (.int lv), .val (.int (3 : Int32)), .val (.int z47), .val (.ref d1), .val (.ref d2), .val (.ref d3), .val (.ref a), .unset, .unset, .unset, .unset] [(.ref a), (.ref t), (.ref t)])) rfl (by rw [hml]; rfl) (Steps.refl _) (a := t) (argsL := [(.ref a)]) (rest := [(.ref t)]) (lenOf own_pd20 rfl) rfl (by show 2 * 0 + _ ≤ _; exact Nat.le_of_eq rfl) (hb hby at_89) (fun _ _ => ⟨rfl, e68, (by decide : 6 + 3 ≤ _), (by decide : 20 + 8 ≤ _)⟩)
    dsimp only [Pt.U, Pt.locs, Pt.cells, Pt.slots] at X70 l70 y70 z70 st70 hQ70
    subst l70 y70 z70
    obtain ⟨rfl, N70q, Kc70, E70c, x70, F70c, P70, s70⟩ := hQ70
    have N70 := Fr.app N65 N70q
    refine own_via (S' := (T70.setTop (mkF m 92 #[.val (.int sz), .val (.int lv), .val (.int (3 : Int32)), .val (.int z47), .val (.ref d1), .val (.ref d2), .val (.ref d3), .val (.ref a), .unset, .unset, .unset, .unset] [(.ref t)]))) st70 ?_
    have c71_SE := own_Sk c69_SE Kc70 (allS A68.own_nst all0)
    have c71_Em := c69_Em.keep Kc70
    have c71_Ed1 := c69_Ed1.keep Kc70
    have c71_Ed2 := c69_Ed2.keep Kc70
    have c71_Ed3 := c69_Ed3.keep Kc70
    have K70x := K68.trans Kc70 (allS (Or.inr sz_t) all0)
    obtain ⟨ar, k3, pa, pb, pc⟩ := P70
    refine own_go (S' := (T70.setTop (mkF m 94 #[.val (.int sz), .val (.int lv), .val (.int (3 : Int32)), .val (.int z47), .val (.ref d1), .val (.ref d2), .val (.ref d3), .val (.ref a), .val (.ref t), .unset, .unset, .unset] []))) (fun _ k => XS.astore X70.here hx rfl (hb hby at_92) rfl rfl (l' := #[.val (.int sz), .val (.int lv), .val (.int (3 : Int32)), .val (.int z47), .val (.ref d1), .val (.ref d2), .val (.ref d3), .val (.ref a), .val (.ref t), .unset, .unset, .unset]) rfl k) ?_
    refine own_go (S' := (T70.setTop (mkF m 96 #[.val (.int sz), .val (.int lv), .val (.int (3 : Int32)), .val (.int z47), .val (.ref d1), .val (.ref d2), .val (.ref d3), .val (.ref a), .val (.ref t), .unset, .unset, .unset] [(.ref t)]))) (fun _ k => XS.aload X70.here hx rfl (hb hby at_94) rfl rfl  k) ?_
    refine own_go (S' := (T70.setTop (mkF m 97 #[.val (.int sz), .val (.int lv), .val (.int (3 : Int32)), .val (.int z47), .val (.ref d1), .val (.ref d2), .val (.ref d3), .val (.ref a), .val (.ref t), .unset, .unset, .unset] [(.int z47), (.ref t)]))) (fun _ k => XS.iloadN X70.here hx rfl (hb hby at_96) rfl  k) ?_
    by_cases hn : (3 : Int32) < z47
    · skip
      obtain ⟨cq72, kq72, q72a, q72b, q72c⟩ := isOf hZ rfl (E70c)
      obtain ⟨_, _, ⟨T72, L72, k72, n72⟩, -, X72, ⟨Lc72, hQ72, l72, y72, z72⟩, st72⟩ := X70.virtualBack hx (y := (⟨"com/example/topicd/topicd/broker/DelayLevels", "delay", "(I)Ljava/time/Duration;"⟩ : MethodName)) (z := (⟨"com/example/topicd/topicd/broker/DelayLevels", "delay", "(I)Ljava/time/Duration;"⟩ : MethodName)) hown (mvT hZ (hw _ (List.mem_of_getElem? (i := 179) rfl))) (mvT hZ (hw _ (List.mem_of_getElem? (i := 180) rfl))) (notFace_of_selects (args := #[]) (mvT hZ (hw _ (List.mem_of_getElem? (i := 182) rfl)))) (mvT hZ (hw _ (List.mem_of_getElem? (i := 182) rfl))) (mvT hZ (hw _ (List.mem_of_getElem? (i := 181) rfl))) (by decide) (backOf (W := 0) (own_de33 l Z a0 hw t z47 x70 d1 d2 d3 ar k3 em T70.heap n0 (Nat.le_trans Z0 K70x.1) F70c c71_Ed3 pa pb pc c71_SE (Or.inr ⟨hn, rfl⟩)) hZ (hw _ (List.mem_of_getElem? (i := 183) rfl)) (hw _ (List.mem_of_getElem? (i := 81) rfl)) (by decide) (by decide)) q72a q72c (g := (mkF m 97 #[.val (.int sz), .val (.int lv), .val (.int (3 : Int32)), .val (.int z47), .val (.ref d1), .val (.ref d2), .val (.ref d3), .val (.ref a), .val (.ref t), .unset, .unset, .unset] [(.int z47), (.ref t)])) rfl (by rw [hml]; rfl) (Steps.refl _) (argsL := [(.int z47)]) (rest := []) (lenOf own_pd21 rfl) rfl (by show 2 * 0 + _ ≤ _; exact Nat.le_of_eq rfl) (hb hby at_97) (fun _ _ => ⟨rfl, rfl, (by decide : 9 + 0 ≤ _), (by decide : 28 + 0 ≤ _)⟩)
      dsimp only [Pt.U, Pt.locs, Pt.cells, Pt.slots] at X72 l72 y72 z72 st72 hQ72
      subst l72 y72 z72
      obtain ⟨rfl, N72q, hh72⟩ := hQ72
      have N72 := Fr.app N70 N72q
      refine own_via (S' := (T72.setTop (mkF m 100 #[.val (.int sz), .val (.int lv), .val (.int (3 : Int32)), .val (.int z47), .val (.ref d1), .val (.ref d2), .val (.ref d3), .val (.ref a), .val (.ref t), .unset, .unset, .unset] [(.ref d3)]))) st72 ?_
      refine own_go (S' := (T72.setTop (mkF m 102 #[.val (.int sz), .val (.int lv), .val (.int (3 : Int32)), .val (.int z47), .val (.ref d1), .val (.ref d2), .val (.ref d3), .val (.ref a), .val (.ref t), .val (.ref d3), .unset, .unset] []))) (fun _ k => XS.astore X72.here hx rfl (hb hby at_100) rfl rfl (l' := #[.val (.int sz), .val (.int lv), .val (.int (3 : Int32)), .val (.int z47), .val (.ref d1), .val (.ref d2), .val (.ref d3), .val (.ref a), .val (.ref t), .val (.ref d3), .unset, .unset]) rfl k) ?_
      refine own_go (S' := (T72.setTop (mkF m 103 #[.val (.int sz), .val (.int lv), .val (.int (3 : Int32)), .val (.int z47), .val (.ref d1), .val (.ref d2), .val (.ref d3), .val (.ref a), .val (.ref t), .val (.ref d3), .unset, .unset] [(.int z47)]))) (fun _ k => XS.iloadN X72.here hx rfl (hb hby at_102) rfl  k) ?_
      refine own_go (S' := (T72.setTop (mkF m 104 #[.val (.int sz), .val (.int lv), .val (.int (3 : Int32)), .val (.int z47), .val (.ref d1), .val (.ref d2), .val (.ref d3), .val (.ref a), .val (.ref t), .val (.ref d3), .unset, .unset] [(.int (3 : Int32)), (.int z47)]))) (fun _ k => XS.iloadN X72.here hx rfl (hb hby at_103) rfl  k) ?_
      refine own_go (S' := (T72.setTop (mkF m 107 #[.val (.int sz), .val (.int lv), .val (.int (3 : Int32)), .val (.int z47), .val (.ref d1), .val (.ref d2), .val (.ref d3), .val (.ref a), .val (.ref t), .val (.ref d3), .unset, .unset] []))) (fun _ k => XS.icmpNo X72.here hx rfl (hb hby at_104) rfl (tlt hn).2.2.2 k) ?_
      refine own_go (S' := (T72.setTop (mkF m 108 #[.val (.int sz), .val (.int lv), .val (.int (3 : Int32)), .val (.int z47), .val (.ref d1), .val (.ref d2), .val (.ref d3), .val (.ref a), .val (.ref t), .val (.ref d3), .unset, .unset] [(.int (3 : Int32))]))) (fun _ k => XS.iloadN X72.here hx rfl (hb hby at_107) rfl  k) ?_
      refine own_go (S' := (T72.setTop (mkF m 112 #[.val (.int sz), .val (.int lv), .val (.int (3 : Int32)), .val (.int z47), .val (.ref d1), .val (.ref d2), .val (.ref d3), .val (.ref a), .val (.ref t), .val (.ref d3), .unset, .unset] [(.int (3 : Int32))]))) (fun _ k => XS.goto X72.here hx rfl (pc0 := 108) (pc' := 112) rfl (hb hby at_108) (by decide) (by decide) k) ?_
      refine own_go (S' := (T72.setTop (mkF m 114 #[.val (.int sz), .val (.int lv), .val (.int (3 : Int32)), .val (.int z47), .val (.ref d1), .val (.ref d2), .val (.ref d3), .val (.ref a), .val (.ref t), .val (.ref d3), .val (.int (3 : Int32)), .unset] []))) (fun _ k => XS.istore X72.here hx rfl (hb hby at_112) rfl (l' := #[.val (.int sz), .val (.int lv), .val (.int (3 : Int32)), .val (.int z47), .val (.ref d1), .val (.ref d2), .val (.ref d3), .val (.ref a), .val (.ref t), .val (.ref d3), .val (.int (3 : Int32)), .unset]) rfl k) ?_
      refine own_go (S' := (T72.setTop (mkF m 116 #[.val (.int sz), .val (.int lv), .val (.int (3 : Int32)), .val (.int z47), .val (.ref d1), .val (.ref d2), .val (.ref d3), .val (.ref a), .val (.ref t), .val (.ref d3), .val (.int (3 : Int32)), .unset] [(.int (3 : Int32))]))) (fun _ k => XS.iload X72.here hx rfl (hb hby at_114) rfl  k) ?_
      refine own_go (S' := (T72.setTop (mkF m 117 #[.val (.int sz), .val (.int lv), .val (.int (3 : Int32)), .val (.int z47), .val (.ref d1), .val (.ref d2), .val (.ref d3), .val (.ref a), .val (.ref t), .val (.ref d3), .val (.int (3 : Int32)), .unset] [(.int (1 : Int32)), (.int (3 : Int32))]))) (fun _ k => XS.iconst X72.here hx rfl (hb hby at_116) k) ?_
      refine own_go (S' := (T72.setTop (mkF m 125 #[.val (.int sz), .val (.int lv), .val (.int (3 : Int32)), .val (.int z47), .val (.ref d1), .val (.ref d2), .val (.ref d3), .val (.ref a), .val (.ref t), .val (.ref d3), .val (.int (3 : Int32)), .unset] []))) (fun _ k => XS.icmpYes X72.here hx rfl (pc0 := 117) (pc' := 125) rfl (hb hby at_117) rfl (feq (by decide)).2 (by decide) (by decide) k) ?_
      refine own_go (S' := (T72.setTop (mkF m 127 #[.val (.int sz), .val (.int lv), .val (.int (3 : Int32)), .val (.int z47), .val (.ref d1), .val (.ref d2), .val (.ref d3), .val (.ref a), .val (.ref t), .val (.ref d3), .val (.int (3 : Int32)), .unset] [(.int (3 : Int32))]))) (fun _ k => XS.iload X72.here hx rfl (hb hby at_125) rfl  k) ?_
      refine own_go (S' := (T72.setTop (mkF m 128 #[.val (.int sz), .val (.int lv), .val (.int (3 : Int32)), .val (.int z47), .val (.ref d1), .val (.ref d2), .val (.ref d3), .val (.ref a), .val (.ref t), .val (.ref d3), .val (.int (3 : Int32)), .unset] [(.int (2 : Int32)), (.int (3 : Int32))]))) (fun _ k => XS.iconst X72.here hx rfl (hb hby at_127) k) ?_
      refine own_go (S' := (T72.setTop (mkF m 136 #[.val (.int sz), .val (.int lv), .val (.int (3 : Int32)), .val (.int z47), .val (.ref d1), .val (.ref d2), .val (.ref d3), .val (.ref a), .val (.ref t), .val (.ref d3), .val (.int (3 : Int32)), .unset] []))) (fun _ k => XS.icmpYes X72.here hx rfl (pc0 := 128) (pc' := 136) rfl (hb hby at_128) rfl (feq (by decide)).2 (by decide) (by decide) k) ?_
      refine own_go (S' := (T72.setTop (mkF m 138 #[.val (.int sz), .val (.int lv), .val (.int (3 : Int32)), .val (.int z47), .val (.ref d1), .val (.ref d2), .val (.ref d3), .val (.ref a), .val (.ref t), .val (.ref d3), .val (.int (3 : Int32)), .unset] [(.ref d3)]))) (fun _ k => XS.aload X72.here hx rfl (hb hby at_136) rfl rfl  k) ?_
      refine own_go (S' := (T72.setTop (mkF m 140 #[.val (.int sz), .val (.int lv), .val (.int (3 : Int32)), .val (.int z47), .val (.ref d1), .val (.ref d2), .val (.ref d3), .val (.ref a), .val (.ref t), .val (.ref d3), .val (.int (3 : Int32)), .val (.ref d3)] []))) (fun _ k => XS.astore X72.here hx rfl (hb hby at_138) rfl rfl (l' := #[.val (.int sz), .val (.int lv), .val (.int (3 : Int32)), .val (.int z47), .val (.ref d1), .val (.ref d2), .val (.ref d3), .val (.ref a), .val (.ref t), .val (.ref d3), .val (.int (3 : Int32)), .val (.ref d3)]) rfl k) ?_
      refine own_go (S' := (T72.setTop (mkF m 142 #[.val (.int sz), .val (.int lv), .val (.int (3 : Int32)), .val (.int z47), .val (.ref d1), .val (.ref d2), .val (.ref d3), .val (.ref a), .val (.ref t), .val (.ref d3), .val (.int (3 : Int32)), .val (.ref d3)] [(.ref d3)]))) (fun _ k => XS.aload X72.here hx rfl (hb hby at_140) rfl rfl  k) ?_
      refine own_go (S' := (T72.setTop (mkF m 144 #[.val (.int sz), .val (.int lv), .val (.int (3 : Int32)), .val (.int z47), .val (.ref d1), .val (.ref d2), .val (.ref d3), .val (.ref a), .val (.ref t), .val (.ref d3), .val (.int (3 : Int32)), .val (.ref d3)] [(.ref d3), (.ref d3)]))) (fun _ k => XS.aload X72.here hx rfl (hb hby at_142) rfl rfl  k) ?_
      refine own_go (S' := (T72.setTop (mkF m 147 #[.val (.int sz), .val (.int lv), .val (.int (3 : Int32)), .val (.int z47), .val (.ref d1), .val (.ref d2), .val (.ref d3), .val (.ref a), .val (.ref t), .val (.ref d3), .val (.int (3 : Int32)), .val (.ref d3)] []))) (fun _ k => Jvm.RoadKit.acmp (g := (mkF m 144 #[.val (.int sz), .val (.int lv), .val (.int (3 : Int32)), .val (.int z47), .val (.ref d1), .val (.ref d2), .val (.ref d3), .val (.ref a), .val (.ref t), .val (.ref d3), .val (.int (3 : Int32)), .val (.ref d3)] [(.ref d3), (.ref d3)])) X72 hx rfl rfl rfl (pc0 := 144) (pc' := 147) (same := true) rfl (hb hby at_144) rfl (decide_eq_true rfl) (by decide) (by decide) k) ?_
      refine own_go (S' := (T72.setTop (mkF m 148 #[.val (.int sz), .val (.int lv), .val (.int (3 : Int32)), .val (.int z47), .val (.ref d1), .val (.ref d2), .val (.ref d3), .val (.ref a), .val (.ref t), .val (.ref d3), .val (.int (3 : Int32)), .val (.ref d3)] [(.int (1 : Int32))]))) (fun _ k => XS.iconst X72.here hx rfl (hb hby at_147) k) ?_
      refine own_go (S' := (T72.setTop (mkF m 152 #[.val (.int sz), .val (.int lv), .val (.int (3 : Int32)), .val (.int z47), .val (.ref d1), .val (.ref d2), .val (.ref d3), .val (.ref a), .val (.ref t), .val (.ref d3), .val (.int (3 : Int32)), .val (.ref d3)] [(.int (1 : Int32))]))) (fun _ k => XS.goto X72.here hx rfl (pc0 := 148) (pc' := 152) rfl (hb hby at_148) (by decide) (by decide) k) ?_
      refine own_retZ X72 hx hlk (t := .boolean) hret (by simp) (hb hby at_152) ?_ (by decide) (by decide)
      rw [hh72]
      exact ⟨rfl, N72⟩
    · skip
      rcases own_z3 hz47 hn with rfl | rfl | rfl
      · skip
        obtain ⟨cq73, kq73, q73a, q73b, q73c⟩ := isOf hZ rfl (E70c)
        obtain ⟨_, _, ⟨T73, L73, k73, n73⟩, -, X73, ⟨Lc73, hQ73, l73, y73, z73⟩, st73⟩ := X70.virtualBack hx (y := (⟨"com/example/topicd/topicd/broker/DelayLevels", "delay", "(I)Ljava/time/Duration;"⟩ : MethodName)) (z := (⟨"com/example/topicd/topicd/broker/DelayLevels", "delay", "(I)Ljava/time/Duration;"⟩ : MethodName)) hown (mvT hZ (hw _ (List.mem_of_getElem? (i := 179) rfl))) (mvT hZ (hw _ (List.mem_of_getElem? (i := 180) rfl))) (notFace_of_selects (args := #[]) (mvT hZ (hw _ (List.mem_of_getElem? (i := 182) rfl)))) (mvT hZ (hw _ (List.mem_of_getElem? (i := 182) rfl))) (mvT hZ (hw _ (List.mem_of_getElem? (i := 181) rfl))) (by decide) (backOf (W := 0) (own_de31 l Z a0 hw t (1 : Int32) x70 d1 d2 d3 ar k3 em T70.heap n0 (Nat.le_trans Z0 K70x.1) F70c c71_Ed1 pa pb pc c71_SE (Or.inl ⟨by decide, rfl⟩)) hZ (hw _ (List.mem_of_getElem? (i := 183) rfl)) (hw _ (List.mem_of_getElem? (i := 81) rfl)) (by decide) (by decide)) q73a q73c (g := (mkF m 97 #[.val (.int sz), .val (.int lv), .val (.int (3 : Int32)), .val (.int (1 : Int32)), .val (.ref d1), .val (.ref d2), .val (.ref d3), .val (.ref a), .val (.ref t), .unset, .unset, .unset] [(.int (1 : Int32)), (.ref t)])) rfl (by rw [hml]; rfl) (Steps.refl _) (argsL := [(.int (1 : Int32))]) (rest := []) (lenOf own_pd21 rfl) rfl (by show 2 * 0 + _ ≤ _; exact Nat.le_of_eq rfl) (hb hby at_97) (fun _ _ => ⟨rfl, rfl, (by decide : 9 + 0 ≤ _), (by decide : 28 + 0 ≤ _)⟩)
        dsimp only [Pt.U, Pt.locs, Pt.cells, Pt.slots] at X73 l73 y73 z73 st73 hQ73
        subst l73 y73 z73
        obtain ⟨rfl, N73q, hh73⟩ := hQ73
        have N73 := Fr.app N70 N73q
        refine own_via (S' := (T73.setTop (mkF m 100 #[.val (.int sz), .val (.int lv), .val (.int (3 : Int32)), .val (.int (1 : Int32)), .val (.ref d1), .val (.ref d2), .val (.ref d3), .val (.ref a), .val (.ref t), .unset, .unset, .unset] [(.ref d1)]))) st73 ?_
        refine own_go (S' := (T73.setTop (mkF m 102 #[.val (.int sz), .val (.int lv), .val (.int (3 : Int32)), .val (.int (1 : Int32)), .val (.ref d1), .val (.ref d2), .val (.ref d3), .val (.ref a), .val (.ref t), .val (.ref d1), .unset, .unset] []))) (fun _ k => XS.astore X73.here hx rfl (hb hby at_100) rfl rfl (l' := #[.val (.int sz), .val (.int lv), .val (.int (3 : Int32)), .val (.int (1 : Int32)), .val (.ref d1), .val (.ref d2), .val (.ref d3), .val (.ref a), .val (.ref t), .val (.ref d1), .unset, .unset]) rfl k) ?_
        refine own_go (S' := (T73.setTop (mkF m 103 #[.val (.int sz), .val (.int lv), .val (.int (3 : Int32)), .val (.int (1 : Int32)), .val (.ref d1), .val (.ref d2), .val (.ref d3), .val (.ref a), .val (.ref t), .val (.ref d1), .unset, .unset] [(.int (1 : Int32))]))) (fun _ k => XS.iloadN X73.here hx rfl (hb hby at_102) rfl  k) ?_
        refine own_go (S' := (T73.setTop (mkF m 104 #[.val (.int sz), .val (.int lv), .val (.int (3 : Int32)), .val (.int (1 : Int32)), .val (.ref d1), .val (.ref d2), .val (.ref d3), .val (.ref a), .val (.ref t), .val (.ref d1), .unset, .unset] [(.int (3 : Int32)), (.int (1 : Int32))]))) (fun _ k => XS.iloadN X73.here hx rfl (hb hby at_103) rfl  k) ?_
        refine own_go (S' := (T73.setTop (mkF m 111 #[.val (.int sz), .val (.int lv), .val (.int (3 : Int32)), .val (.int (1 : Int32)), .val (.ref d1), .val (.ref d2), .val (.ref d3), .val (.ref a), .val (.ref t), .val (.ref d1), .unset, .unset] []))) (fun _ k => XS.icmpYes X73.here hx rfl (pc0 := 104) (pc' := 111) rfl (hb hby at_104) rfl (flt (by decide)).2.2.2 (by decide) (by decide) k) ?_
        refine own_go (S' := (T73.setTop (mkF m 112 #[.val (.int sz), .val (.int lv), .val (.int (3 : Int32)), .val (.int (1 : Int32)), .val (.ref d1), .val (.ref d2), .val (.ref d3), .val (.ref a), .val (.ref t), .val (.ref d1), .unset, .unset] [(.int (1 : Int32))]))) (fun _ k => XS.iloadN X73.here hx rfl (hb hby at_111) rfl  k) ?_
        refine own_go (S' := (T73.setTop (mkF m 114 #[.val (.int sz), .val (.int lv), .val (.int (3 : Int32)), .val (.int (1 : Int32)), .val (.ref d1), .val (.ref d2), .val (.ref d3), .val (.ref a), .val (.ref t), .val (.ref d1), .val (.int (1 : Int32)), .unset] []))) (fun _ k => XS.istore X73.here hx rfl (hb hby at_112) rfl (l' := #[.val (.int sz), .val (.int lv), .val (.int (3 : Int32)), .val (.int (1 : Int32)), .val (.ref d1), .val (.ref d2), .val (.ref d3), .val (.ref a), .val (.ref t), .val (.ref d1), .val (.int (1 : Int32)), .unset]) rfl k) ?_
        refine own_go (S' := (T73.setTop (mkF m 116 #[.val (.int sz), .val (.int lv), .val (.int (3 : Int32)), .val (.int (1 : Int32)), .val (.ref d1), .val (.ref d2), .val (.ref d3), .val (.ref a), .val (.ref t), .val (.ref d1), .val (.int (1 : Int32)), .unset] [(.int (1 : Int32))]))) (fun _ k => XS.iload X73.here hx rfl (hb hby at_114) rfl  k) ?_
        refine own_go (S' := (T73.setTop (mkF m 117 #[.val (.int sz), .val (.int lv), .val (.int (3 : Int32)), .val (.int (1 : Int32)), .val (.ref d1), .val (.ref d2), .val (.ref d3), .val (.ref a), .val (.ref t), .val (.ref d1), .val (.int (1 : Int32)), .unset] [(.int (1 : Int32)), (.int (1 : Int32))]))) (fun _ k => XS.iconst X73.here hx rfl (hb hby at_116) k) ?_
        refine own_go (S' := (T73.setTop (mkF m 120 #[.val (.int sz), .val (.int lv), .val (.int (3 : Int32)), .val (.int (1 : Int32)), .val (.ref d1), .val (.ref d2), .val (.ref d3), .val (.ref a), .val (.ref t), .val (.ref d1), .val (.int (1 : Int32)), .unset] []))) (fun _ k => XS.icmpNo X73.here hx rfl (hb hby at_117) rfl (teq rfl).2 k) ?_
        refine own_go (S' := (T73.setTop (mkF m 122 #[.val (.int sz), .val (.int lv), .val (.int (3 : Int32)), .val (.int (1 : Int32)), .val (.ref d1), .val (.ref d2), .val (.ref d3), .val (.ref a), .val (.ref t), .val (.ref d1), .val (.int (1 : Int32)), .unset] [(.ref d1)]))) (fun _ k => XS.aload X73.here hx rfl (hb hby at_120) rfl rfl  k) ?_
        refine own_go (S' := (T73.setTop (mkF m 138 #[.val (.int sz), .val (.int lv), .val (.int (3 : Int32)), .val (.int (1 : Int32)), .val (.ref d1), .val (.ref d2), .val (.ref d3), .val (.ref a), .val (.ref t), .val (.ref d1), .val (.int (1 : Int32)), .unset] [(.ref d1)]))) (fun _ k => XS.goto X73.here hx rfl (pc0 := 122) (pc' := 138) rfl (hb hby at_122) (by decide) (by decide) k) ?_
        refine own_go (S' := (T73.setTop (mkF m 140 #[.val (.int sz), .val (.int lv), .val (.int (3 : Int32)), .val (.int (1 : Int32)), .val (.ref d1), .val (.ref d2), .val (.ref d3), .val (.ref a), .val (.ref t), .val (.ref d1), .val (.int (1 : Int32)), .val (.ref d1)] []))) (fun _ k => XS.astore X73.here hx rfl (hb hby at_138) rfl rfl (l' := #[.val (.int sz), .val (.int lv), .val (.int (3 : Int32)), .val (.int (1 : Int32)), .val (.ref d1), .val (.ref d2), .val (.ref d3), .val (.ref a), .val (.ref t), .val (.ref d1), .val (.int (1 : Int32)), .val (.ref d1)]) rfl k) ?_
        refine own_go (S' := (T73.setTop (mkF m 142 #[.val (.int sz), .val (.int lv), .val (.int (3 : Int32)), .val (.int (1 : Int32)), .val (.ref d1), .val (.ref d2), .val (.ref d3), .val (.ref a), .val (.ref t), .val (.ref d1), .val (.int (1 : Int32)), .val (.ref d1)] [(.ref d1)]))) (fun _ k => XS.aload X73.here hx rfl (hb hby at_140) rfl rfl  k) ?_
        refine own_go (S' := (T73.setTop (mkF m 144 #[.val (.int sz), .val (.int lv), .val (.int (3 : Int32)), .val (.int (1 : Int32)), .val (.ref d1), .val (.ref d2), .val (.ref d3), .val (.ref a), .val (.ref t), .val (.ref d1), .val (.int (1 : Int32)), .val (.ref d1)] [(.ref d1), (.ref d1)]))) (fun _ k => XS.aload X73.here hx rfl (hb hby at_142) rfl rfl  k) ?_
        refine own_go (S' := (T73.setTop (mkF m 147 #[.val (.int sz), .val (.int lv), .val (.int (3 : Int32)), .val (.int (1 : Int32)), .val (.ref d1), .val (.ref d2), .val (.ref d3), .val (.ref a), .val (.ref t), .val (.ref d1), .val (.int (1 : Int32)), .val (.ref d1)] []))) (fun _ k => Jvm.RoadKit.acmp (g := (mkF m 144 #[.val (.int sz), .val (.int lv), .val (.int (3 : Int32)), .val (.int (1 : Int32)), .val (.ref d1), .val (.ref d2), .val (.ref d3), .val (.ref a), .val (.ref t), .val (.ref d1), .val (.int (1 : Int32)), .val (.ref d1)] [(.ref d1), (.ref d1)])) X73 hx rfl rfl rfl (pc0 := 144) (pc' := 147) (same := true) rfl (hb hby at_144) rfl (decide_eq_true rfl) (by decide) (by decide) k) ?_
        refine own_go (S' := (T73.setTop (mkF m 148 #[.val (.int sz), .val (.int lv), .val (.int (3 : Int32)), .val (.int (1 : Int32)), .val (.ref d1), .val (.ref d2), .val (.ref d3), .val (.ref a), .val (.ref t), .val (.ref d1), .val (.int (1 : Int32)), .val (.ref d1)] [(.int (1 : Int32))]))) (fun _ k => XS.iconst X73.here hx rfl (hb hby at_147) k) ?_
        refine own_go (S' := (T73.setTop (mkF m 152 #[.val (.int sz), .val (.int lv), .val (.int (3 : Int32)), .val (.int (1 : Int32)), .val (.ref d1), .val (.ref d2), .val (.ref d3), .val (.ref a), .val (.ref t), .val (.ref d1), .val (.int (1 : Int32)), .val (.ref d1)] [(.int (1 : Int32))]))) (fun _ k => XS.goto X73.here hx rfl (pc0 := 148) (pc' := 152) rfl (hb hby at_148) (by decide) (by decide) k) ?_
        refine own_retZ X73 hx hlk (t := .boolean) hret (by simp) (hb hby at_152) ?_ (by decide) (by decide)
        rw [hh73]
        exact ⟨rfl, N73⟩
      · skip
        obtain ⟨cq74, kq74, q74a, q74b, q74c⟩ := isOf hZ rfl (E70c)
        obtain ⟨_, _, ⟨T74, L74, k74, n74⟩, -, X74, ⟨Lc74, hQ74, l74, y74, z74⟩, st74⟩ := X70.virtualBack hx (y := (⟨"com/example/topicd/topicd/broker/DelayLevels", "delay", "(I)Ljava/time/Duration;"⟩ : MethodName)) (z := (⟨"com/example/topicd/topicd/broker/DelayLevels", "delay", "(I)Ljava/time/Duration;"⟩ : MethodName)) hown (mvT hZ (hw _ (List.mem_of_getElem? (i := 179) rfl))) (mvT hZ (hw _ (List.mem_of_getElem? (i := 180) rfl))) (notFace_of_selects (args := #[]) (mvT hZ (hw _ (List.mem_of_getElem? (i := 182) rfl)))) (mvT hZ (hw _ (List.mem_of_getElem? (i := 182) rfl))) (mvT hZ (hw _ (List.mem_of_getElem? (i := 181) rfl))) (by decide) (backOf (W := 0) (own_de32 l Z a0 hw t (2 : Int32) x70 d1 d2 d3 ar k3 em T70.heap n0 (Nat.le_trans Z0 K70x.1) F70c c71_Ed2 pa pb pc c71_SE (Or.inl ⟨by decide, rfl⟩)) hZ (hw _ (List.mem_of_getElem? (i := 183) rfl)) (hw _ (List.mem_of_getElem? (i := 81) rfl)) (by decide) (by decide)) q74a q74c (g := (mkF m 97 #[.val (.int sz), .val (.int lv), .val (.int (3 : Int32)), .val (.int (2 : Int32)), .val (.ref d1), .val (.ref d2), .val (.ref d3), .val (.ref a), .val (.ref t), .unset, .unset, .unset] [(.int (2 : Int32)), (.ref t)])) rfl (by rw [hml]; rfl) (Steps.refl _) (argsL := [(.int (2 : Int32))]) (rest := []) (lenOf own_pd21 rfl) rfl (by show 2 * 0 + _ ≤ _; exact Nat.le_of_eq rfl) (hb hby at_97) (fun _ _ => ⟨rfl, rfl, (by decide : 9 + 0 ≤ _), (by decide : 28 + 0 ≤ _)⟩)
        dsimp only [Pt.U, Pt.locs, Pt.cells, Pt.slots] at X74 l74 y74 z74 st74 hQ74
        subst l74 y74 z74
        obtain ⟨rfl, N74q, hh74⟩ := hQ74
        have N74 := Fr.app N70 N74q
        refine own_via (S' := (T74.setTop (mkF m 100 #[.val (.int sz), .val (.int lv), .val (.int (3 : Int32)), .val (.int (2 : Int32)), .val (.ref d1), .val (.ref d2), .val (.ref d3), .val (.ref a), .val (.ref t), .unset, .unset, .unset] [(.ref d2)]))) st74 ?_
        refine own_go (S' := (T74.setTop (mkF m 102 #[.val (.int sz), .val (.int lv), .val (.int (3 : Int32)), .val (.int (2 : Int32)), .val (.ref d1), .val (.ref d2), .val (.ref d3), .val (.ref a), .val (.ref t), .val (.ref d2), .unset, .unset] []))) (fun _ k => XS.astore X74.here hx rfl (hb hby at_100) rfl rfl (l' := #[.val (.int sz), .val (.int lv), .val (.int (3 : Int32)), .val (.int (2 : Int32)), .val (.ref d1), .val (.ref d2), .val (.ref d3), .val (.ref a), .val (.ref t), .val (.ref d2), .unset, .unset]) rfl k) ?_
        refine own_go (S' := (T74.setTop (mkF m 103 #[.val (.int sz), .val (.int lv), .val (.int (3 : Int32)), .val (.int (2 : Int32)), .val (.ref d1), .val (.ref d2), .val (.ref d3), .val (.ref a), .val (.ref t), .val (.ref d2), .unset, .unset] [(.int (2 : Int32))]))) (fun _ k => XS.iloadN X74.here hx rfl (hb hby at_102) rfl  k) ?_
        refine own_go (S' := (T74.setTop (mkF m 104 #[.val (.int sz), .val (.int lv), .val (.int (3 : Int32)), .val (.int (2 : Int32)), .val (.ref d1), .val (.ref d2), .val (.ref d3), .val (.ref a), .val (.ref t), .val (.ref d2), .unset, .unset] [(.int (3 : Int32)), (.int (2 : Int32))]))) (fun _ k => XS.iloadN X74.here hx rfl (hb hby at_103) rfl  k) ?_
        refine own_go (S' := (T74.setTop (mkF m 111 #[.val (.int sz), .val (.int lv), .val (.int (3 : Int32)), .val (.int (2 : Int32)), .val (.ref d1), .val (.ref d2), .val (.ref d3), .val (.ref a), .val (.ref t), .val (.ref d2), .unset, .unset] []))) (fun _ k => XS.icmpYes X74.here hx rfl (pc0 := 104) (pc' := 111) rfl (hb hby at_104) rfl (flt (by decide)).2.2.2 (by decide) (by decide) k) ?_
        refine own_go (S' := (T74.setTop (mkF m 112 #[.val (.int sz), .val (.int lv), .val (.int (3 : Int32)), .val (.int (2 : Int32)), .val (.ref d1), .val (.ref d2), .val (.ref d3), .val (.ref a), .val (.ref t), .val (.ref d2), .unset, .unset] [(.int (2 : Int32))]))) (fun _ k => XS.iloadN X74.here hx rfl (hb hby at_111) rfl  k) ?_
        refine own_go (S' := (T74.setTop (mkF m 114 #[.val (.int sz), .val (.int lv), .val (.int (3 : Int32)), .val (.int (2 : Int32)), .val (.ref d1), .val (.ref d2), .val (.ref d3), .val (.ref a), .val (.ref t), .val (.ref d2), .val (.int (2 : Int32)), .unset] []))) (fun _ k => XS.istore X74.here hx rfl (hb hby at_112) rfl (l' := #[.val (.int sz), .val (.int lv), .val (.int (3 : Int32)), .val (.int (2 : Int32)), .val (.ref d1), .val (.ref d2), .val (.ref d3), .val (.ref a), .val (.ref t), .val (.ref d2), .val (.int (2 : Int32)), .unset]) rfl k) ?_
        refine own_go (S' := (T74.setTop (mkF m 116 #[.val (.int sz), .val (.int lv), .val (.int (3 : Int32)), .val (.int (2 : Int32)), .val (.ref d1), .val (.ref d2), .val (.ref d3), .val (.ref a), .val (.ref t), .val (.ref d2), .val (.int (2 : Int32)), .unset] [(.int (2 : Int32))]))) (fun _ k => XS.iload X74.here hx rfl (hb hby at_114) rfl  k) ?_
        refine own_go (S' := (T74.setTop (mkF m 117 #[.val (.int sz), .val (.int lv), .val (.int (3 : Int32)), .val (.int (2 : Int32)), .val (.ref d1), .val (.ref d2), .val (.ref d3), .val (.ref a), .val (.ref t), .val (.ref d2), .val (.int (2 : Int32)), .unset] [(.int (1 : Int32)), (.int (2 : Int32))]))) (fun _ k => XS.iconst X74.here hx rfl (hb hby at_116) k) ?_
        refine own_go (S' := (T74.setTop (mkF m 125 #[.val (.int sz), .val (.int lv), .val (.int (3 : Int32)), .val (.int (2 : Int32)), .val (.ref d1), .val (.ref d2), .val (.ref d3), .val (.ref a), .val (.ref t), .val (.ref d2), .val (.int (2 : Int32)), .unset] []))) (fun _ k => XS.icmpYes X74.here hx rfl (pc0 := 117) (pc' := 125) rfl (hb hby at_117) rfl (feq (by decide)).2 (by decide) (by decide) k) ?_
        refine own_go (S' := (T74.setTop (mkF m 127 #[.val (.int sz), .val (.int lv), .val (.int (3 : Int32)), .val (.int (2 : Int32)), .val (.ref d1), .val (.ref d2), .val (.ref d3), .val (.ref a), .val (.ref t), .val (.ref d2), .val (.int (2 : Int32)), .unset] [(.int (2 : Int32))]))) (fun _ k => XS.iload X74.here hx rfl (hb hby at_125) rfl  k) ?_
        refine own_go (S' := (T74.setTop (mkF m 128 #[.val (.int sz), .val (.int lv), .val (.int (3 : Int32)), .val (.int (2 : Int32)), .val (.ref d1), .val (.ref d2), .val (.ref d3), .val (.ref a), .val (.ref t), .val (.ref d2), .val (.int (2 : Int32)), .unset] [(.int (2 : Int32)), (.int (2 : Int32))]))) (fun _ k => XS.iconst X74.here hx rfl (hb hby at_127) k) ?_
        refine own_go (S' := (T74.setTop (mkF m 131 #[.val (.int sz), .val (.int lv), .val (.int (3 : Int32)), .val (.int (2 : Int32)), .val (.ref d1), .val (.ref d2), .val (.ref d3), .val (.ref a), .val (.ref t), .val (.ref d2), .val (.int (2 : Int32)), .unset] []))) (fun _ k => XS.icmpNo X74.here hx rfl (hb hby at_128) rfl (teq rfl).2 k) ?_
        refine own_go (S' := (T74.setTop (mkF m 133 #[.val (.int sz), .val (.int lv), .val (.int (3 : Int32)), .val (.int (2 : Int32)), .val (.ref d1), .val (.ref d2), .val (.ref d3), .val (.ref a), .val (.ref t), .val (.ref d2), .val (.int (2 : Int32)), .unset] [(.ref d2)]))) (fun _ k => XS.aload X74.here hx rfl (hb hby at_131) rfl rfl  k) ?_
        refine own_go (S' := (T74.setTop (mkF m 138 #[.val (.int sz), .val (.int lv), .val (.int (3 : Int32)), .val (.int (2 : Int32)), .val (.ref d1), .val (.ref d2), .val (.ref d3), .val (.ref a), .val (.ref t), .val (.ref d2), .val (.int (2 : Int32)), .unset] [(.ref d2)]))) (fun _ k => XS.goto X74.here hx rfl (pc0 := 133) (pc' := 138) rfl (hb hby at_133) (by decide) (by decide) k) ?_
        refine own_go (S' := (T74.setTop (mkF m 140 #[.val (.int sz), .val (.int lv), .val (.int (3 : Int32)), .val (.int (2 : Int32)), .val (.ref d1), .val (.ref d2), .val (.ref d3), .val (.ref a), .val (.ref t), .val (.ref d2), .val (.int (2 : Int32)), .val (.ref d2)] []))) (fun _ k => XS.astore X74.here hx rfl (hb hby at_138) rfl rfl (l' := #[.val (.int sz), .val (.int lv), .val (.int (3 : Int32)), .val (.int (2 : Int32)), .val (.ref d1), .val (.ref d2), .val (.ref d3), .val (.ref a), .val (.ref t), .val (.ref d2), .val (.int (2 : Int32)), .val (.ref d2)]) rfl k) ?_
        refine own_go (S' := (T74.setTop (mkF m 142 #[.val (.int sz), .val (.int lv), .val (.int (3 : Int32)), .val (.int (2 : Int32)), .val (.ref d1), .val (.ref d2), .val (.ref d3), .val (.ref a), .val (.ref t), .val (.ref d2), .val (.int (2 : Int32)), .val (.ref d2)] [(.ref d2)]))) (fun _ k => XS.aload X74.here hx rfl (hb hby at_140) rfl rfl  k) ?_
        refine own_go (S' := (T74.setTop (mkF m 144 #[.val (.int sz), .val (.int lv), .val (.int (3 : Int32)), .val (.int (2 : Int32)), .val (.ref d1), .val (.ref d2), .val (.ref d3), .val (.ref a), .val (.ref t), .val (.ref d2), .val (.int (2 : Int32)), .val (.ref d2)] [(.ref d2), (.ref d2)]))) (fun _ k => XS.aload X74.here hx rfl (hb hby at_142) rfl rfl  k) ?_
        refine own_go (S' := (T74.setTop (mkF m 147 #[.val (.int sz), .val (.int lv), .val (.int (3 : Int32)), .val (.int (2 : Int32)), .val (.ref d1), .val (.ref d2), .val (.ref d3), .val (.ref a), .val (.ref t), .val (.ref d2), .val (.int (2 : Int32)), .val (.ref d2)] []))) (fun _ k => Jvm.RoadKit.acmp (g := (mkF m 144 #[.val (.int sz), .val (.int lv), .val (.int (3 : Int32)), .val (.int (2 : Int32)), .val (.ref d1), .val (.ref d2), .val (.ref d3), .val (.ref a), .val (.ref t), .val (.ref d2), .val (.int (2 : Int32)), .val (.ref d2)] [(.ref d2), (.ref d2)])) X74 hx rfl rfl rfl (pc0 := 144) (pc' := 147) (same := true) rfl (hb hby at_144) rfl (decide_eq_true rfl) (by decide) (by decide) k) ?_
        refine own_go (S' := (T74.setTop (mkF m 148 #[.val (.int sz), .val (.int lv), .val (.int (3 : Int32)), .val (.int (2 : Int32)), .val (.ref d1), .val (.ref d2), .val (.ref d3), .val (.ref a), .val (.ref t), .val (.ref d2), .val (.int (2 : Int32)), .val (.ref d2)] [(.int (1 : Int32))]))) (fun _ k => XS.iconst X74.here hx rfl (hb hby at_147) k) ?_
        refine own_go (S' := (T74.setTop (mkF m 152 #[.val (.int sz), .val (.int lv), .val (.int (3 : Int32)), .val (.int (2 : Int32)), .val (.ref d1), .val (.ref d2), .val (.ref d3), .val (.ref a), .val (.ref t), .val (.ref d2), .val (.int (2 : Int32)), .val (.ref d2)] [(.int (1 : Int32))]))) (fun _ k => XS.goto X74.here hx rfl (pc0 := 148) (pc' := 152) rfl (hb hby at_148) (by decide) (by decide) k) ?_
        refine own_retZ X74 hx hlk (t := .boolean) hret (by simp) (hb hby at_152) ?_ (by decide) (by decide)
        rw [hh74]
        exact ⟨rfl, N74⟩
      · skip
        obtain ⟨cq75, kq75, q75a, q75b, q75c⟩ := isOf hZ rfl (E70c)
        obtain ⟨_, _, ⟨T75, L75, k75, n75⟩, -, X75, ⟨Lc75, hQ75, l75, y75, z75⟩, st75⟩ := X70.virtualBack hx (y := (⟨"com/example/topicd/topicd/broker/DelayLevels", "delay", "(I)Ljava/time/Duration;"⟩ : MethodName)) (z := (⟨"com/example/topicd/topicd/broker/DelayLevels", "delay", "(I)Ljava/time/Duration;"⟩ : MethodName)) hown (mvT hZ (hw _ (List.mem_of_getElem? (i := 179) rfl))) (mvT hZ (hw _ (List.mem_of_getElem? (i := 180) rfl))) (notFace_of_selects (args := #[]) (mvT hZ (hw _ (List.mem_of_getElem? (i := 182) rfl)))) (mvT hZ (hw _ (List.mem_of_getElem? (i := 182) rfl))) (mvT hZ (hw _ (List.mem_of_getElem? (i := 181) rfl))) (by decide) (backOf (W := 0) (own_de33 l Z a0 hw t (3 : Int32) x70 d1 d2 d3 ar k3 em T70.heap n0 (Nat.le_trans Z0 K70x.1) F70c c71_Ed3 pa pb pc c71_SE (Or.inl ⟨by decide, rfl⟩)) hZ (hw _ (List.mem_of_getElem? (i := 183) rfl)) (hw _ (List.mem_of_getElem? (i := 81) rfl)) (by decide) (by decide)) q75a q75c (g := (mkF m 97 #[.val (.int sz), .val (.int lv), .val (.int (3 : Int32)), .val (.int (3 : Int32)), .val (.ref d1), .val (.ref d2), .val (.ref d3), .val (.ref a), .val (.ref t), .unset, .unset, .unset] [(.int (3 : Int32)), (.ref t)])) rfl (by rw [hml]; rfl) (Steps.refl _) (argsL := [(.int (3 : Int32))]) (rest := []) (lenOf own_pd21 rfl) rfl (by show 2 * 0 + _ ≤ _; exact Nat.le_of_eq rfl) (hb hby at_97) (fun _ _ => ⟨rfl, rfl, (by decide : 9 + 0 ≤ _), (by decide : 28 + 0 ≤ _)⟩)
        dsimp only [Pt.U, Pt.locs, Pt.cells, Pt.slots] at X75 l75 y75 z75 st75 hQ75
        subst l75 y75 z75
        obtain ⟨rfl, N75q, hh75⟩ := hQ75
        have N75 := Fr.app N70 N75q
        refine own_via (S' := (T75.setTop (mkF m 100 #[.val (.int sz), .val (.int lv), .val (.int (3 : Int32)), .val (.int (3 : Int32)), .val (.ref d1), .val (.ref d2), .val (.ref d3), .val (.ref a), .val (.ref t), .unset, .unset, .unset] [(.ref d3)]))) st75 ?_
        refine own_go (S' := (T75.setTop (mkF m 102 #[.val (.int sz), .val (.int lv), .val (.int (3 : Int32)), .val (.int (3 : Int32)), .val (.ref d1), .val (.ref d2), .val (.ref d3), .val (.ref a), .val (.ref t), .val (.ref d3), .unset, .unset] []))) (fun _ k => XS.astore X75.here hx rfl (hb hby at_100) rfl rfl (l' := #[.val (.int sz), .val (.int lv), .val (.int (3 : Int32)), .val (.int (3 : Int32)), .val (.ref d1), .val (.ref d2), .val (.ref d3), .val (.ref a), .val (.ref t), .val (.ref d3), .unset, .unset]) rfl k) ?_
        refine own_go (S' := (T75.setTop (mkF m 103 #[.val (.int sz), .val (.int lv), .val (.int (3 : Int32)), .val (.int (3 : Int32)), .val (.ref d1), .val (.ref d2), .val (.ref d3), .val (.ref a), .val (.ref t), .val (.ref d3), .unset, .unset] [(.int (3 : Int32))]))) (fun _ k => XS.iloadN X75.here hx rfl (hb hby at_102) rfl  k) ?_
        refine own_go (S' := (T75.setTop (mkF m 104 #[.val (.int sz), .val (.int lv), .val (.int (3 : Int32)), .val (.int (3 : Int32)), .val (.ref d1), .val (.ref d2), .val (.ref d3), .val (.ref a), .val (.ref t), .val (.ref d3), .unset, .unset] [(.int (3 : Int32)), (.int (3 : Int32))]))) (fun _ k => XS.iloadN X75.here hx rfl (hb hby at_103) rfl  k) ?_
        refine own_go (S' := (T75.setTop (mkF m 111 #[.val (.int sz), .val (.int lv), .val (.int (3 : Int32)), .val (.int (3 : Int32)), .val (.ref d1), .val (.ref d2), .val (.ref d3), .val (.ref a), .val (.ref t), .val (.ref d3), .unset, .unset] []))) (fun _ k => XS.icmpYes X75.here hx rfl (pc0 := 104) (pc' := 111) rfl (hb hby at_104) rfl (flt (by decide)).2.2.2 (by decide) (by decide) k) ?_
        refine own_go (S' := (T75.setTop (mkF m 112 #[.val (.int sz), .val (.int lv), .val (.int (3 : Int32)), .val (.int (3 : Int32)), .val (.ref d1), .val (.ref d2), .val (.ref d3), .val (.ref a), .val (.ref t), .val (.ref d3), .unset, .unset] [(.int (3 : Int32))]))) (fun _ k => XS.iloadN X75.here hx rfl (hb hby at_111) rfl  k) ?_
        refine own_go (S' := (T75.setTop (mkF m 114 #[.val (.int sz), .val (.int lv), .val (.int (3 : Int32)), .val (.int (3 : Int32)), .val (.ref d1), .val (.ref d2), .val (.ref d3), .val (.ref a), .val (.ref t), .val (.ref d3), .val (.int (3 : Int32)), .unset] []))) (fun _ k => XS.istore X75.here hx rfl (hb hby at_112) rfl (l' := #[.val (.int sz), .val (.int lv), .val (.int (3 : Int32)), .val (.int (3 : Int32)), .val (.ref d1), .val (.ref d2), .val (.ref d3), .val (.ref a), .val (.ref t), .val (.ref d3), .val (.int (3 : Int32)), .unset]) rfl k) ?_
        refine own_go (S' := (T75.setTop (mkF m 116 #[.val (.int sz), .val (.int lv), .val (.int (3 : Int32)), .val (.int (3 : Int32)), .val (.ref d1), .val (.ref d2), .val (.ref d3), .val (.ref a), .val (.ref t), .val (.ref d3), .val (.int (3 : Int32)), .unset] [(.int (3 : Int32))]))) (fun _ k => XS.iload X75.here hx rfl (hb hby at_114) rfl  k) ?_
        refine own_go (S' := (T75.setTop (mkF m 117 #[.val (.int sz), .val (.int lv), .val (.int (3 : Int32)), .val (.int (3 : Int32)), .val (.ref d1), .val (.ref d2), .val (.ref d3), .val (.ref a), .val (.ref t), .val (.ref d3), .val (.int (3 : Int32)), .unset] [(.int (1 : Int32)), (.int (3 : Int32))]))) (fun _ k => XS.iconst X75.here hx rfl (hb hby at_116) k) ?_
        refine own_go (S' := (T75.setTop (mkF m 125 #[.val (.int sz), .val (.int lv), .val (.int (3 : Int32)), .val (.int (3 : Int32)), .val (.ref d1), .val (.ref d2), .val (.ref d3), .val (.ref a), .val (.ref t), .val (.ref d3), .val (.int (3 : Int32)), .unset] []))) (fun _ k => XS.icmpYes X75.here hx rfl (pc0 := 117) (pc' := 125) rfl (hb hby at_117) rfl (feq (by decide)).2 (by decide) (by decide) k) ?_
        refine own_go (S' := (T75.setTop (mkF m 127 #[.val (.int sz), .val (.int lv), .val (.int (3 : Int32)), .val (.int (3 : Int32)), .val (.ref d1), .val (.ref d2), .val (.ref d3), .val (.ref a), .val (.ref t), .val (.ref d3), .val (.int (3 : Int32)), .unset] [(.int (3 : Int32))]))) (fun _ k => XS.iload X75.here hx rfl (hb hby at_125) rfl  k) ?_
        refine own_go (S' := (T75.setTop (mkF m 128 #[.val (.int sz), .val (.int lv), .val (.int (3 : Int32)), .val (.int (3 : Int32)), .val (.ref d1), .val (.ref d2), .val (.ref d3), .val (.ref a), .val (.ref t), .val (.ref d3), .val (.int (3 : Int32)), .unset] [(.int (2 : Int32)), (.int (3 : Int32))]))) (fun _ k => XS.iconst X75.here hx rfl (hb hby at_127) k) ?_
        refine own_go (S' := (T75.setTop (mkF m 136 #[.val (.int sz), .val (.int lv), .val (.int (3 : Int32)), .val (.int (3 : Int32)), .val (.ref d1), .val (.ref d2), .val (.ref d3), .val (.ref a), .val (.ref t), .val (.ref d3), .val (.int (3 : Int32)), .unset] []))) (fun _ k => XS.icmpYes X75.here hx rfl (pc0 := 128) (pc' := 136) rfl (hb hby at_128) rfl (feq (by decide)).2 (by decide) (by decide) k) ?_
        refine own_go (S' := (T75.setTop (mkF m 138 #[.val (.int sz), .val (.int lv), .val (.int (3 : Int32)), .val (.int (3 : Int32)), .val (.ref d1), .val (.ref d2), .val (.ref d3), .val (.ref a), .val (.ref t), .val (.ref d3), .val (.int (3 : Int32)), .unset] [(.ref d3)]))) (fun _ k => XS.aload X75.here hx rfl (hb hby at_136) rfl rfl  k) ?_
        refine own_go (S' := (T75.setTop (mkF m 140 #[.val (.int sz), .val (.int lv), .val (.int (3 : Int32)), .val (.int (3 : Int32)), .val (.ref d1), .val (.ref d2), .val (.ref d3), .val (.ref a), .val (.ref t), .val (.ref d3), .val (.int (3 : Int32)), .val (.ref d3)] []))) (fun _ k => XS.astore X75.here hx rfl (hb hby at_138) rfl rfl (l' := #[.val (.int sz), .val (.int lv), .val (.int (3 : Int32)), .val (.int (3 : Int32)), .val (.ref d1), .val (.ref d2), .val (.ref d3), .val (.ref a), .val (.ref t), .val (.ref d3), .val (.int (3 : Int32)), .val (.ref d3)]) rfl k) ?_
        refine own_go (S' := (T75.setTop (mkF m 142 #[.val (.int sz), .val (.int lv), .val (.int (3 : Int32)), .val (.int (3 : Int32)), .val (.ref d1), .val (.ref d2), .val (.ref d3), .val (.ref a), .val (.ref t), .val (.ref d3), .val (.int (3 : Int32)), .val (.ref d3)] [(.ref d3)]))) (fun _ k => XS.aload X75.here hx rfl (hb hby at_140) rfl rfl  k) ?_
        refine own_go (S' := (T75.setTop (mkF m 144 #[.val (.int sz), .val (.int lv), .val (.int (3 : Int32)), .val (.int (3 : Int32)), .val (.ref d1), .val (.ref d2), .val (.ref d3), .val (.ref a), .val (.ref t), .val (.ref d3), .val (.int (3 : Int32)), .val (.ref d3)] [(.ref d3), (.ref d3)]))) (fun _ k => XS.aload X75.here hx rfl (hb hby at_142) rfl rfl  k) ?_
        refine own_go (S' := (T75.setTop (mkF m 147 #[.val (.int sz), .val (.int lv), .val (.int (3 : Int32)), .val (.int (3 : Int32)), .val (.ref d1), .val (.ref d2), .val (.ref d3), .val (.ref a), .val (.ref t), .val (.ref d3), .val (.int (3 : Int32)), .val (.ref d3)] []))) (fun _ k => Jvm.RoadKit.acmp (g := (mkF m 144 #[.val (.int sz), .val (.int lv), .val (.int (3 : Int32)), .val (.int (3 : Int32)), .val (.ref d1), .val (.ref d2), .val (.ref d3), .val (.ref a), .val (.ref t), .val (.ref d3), .val (.int (3 : Int32)), .val (.ref d3)] [(.ref d3), (.ref d3)])) X75 hx rfl rfl rfl (pc0 := 144) (pc' := 147) (same := true) rfl (hb hby at_144) rfl (decide_eq_true rfl) (by decide) (by decide) k) ?_
        refine own_go (S' := (T75.setTop (mkF m 148 #[.val (.int sz), .val (.int lv), .val (.int (3 : Int32)), .val (.int (3 : Int32)), .val (.ref d1), .val (.ref d2), .val (.ref d3), .val (.ref a), .val (.ref t), .val (.ref d3), .val (.int (3 : Int32)), .val (.ref d3)] [(.int (1 : Int32))]))) (fun _ k => XS.iconst X75.here hx rfl (hb hby at_147) k) ?_
        refine own_go (S' := (T75.setTop (mkF m 152 #[.val (.int sz), .val (.int lv), .val (.int (3 : Int32)), .val (.int (3 : Int32)), .val (.ref d1), .val (.ref d2), .val (.ref d3), .val (.ref a), .val (.ref t), .val (.ref d3), .val (.int (3 : Int32)), .val (.ref d3)] [(.int (1 : Int32))]))) (fun _ k => XS.goto X75.here hx rfl (pc0 := 148) (pc' := 152) rfl (hb hby at_148) (by decide) (by decide) k) ?_
        refine own_retZ X75 hx hlk (t := .boolean) hret (by simp) (hb hby at_152) ?_ (by decide) (by decide)
        rw [hh75]
        exact ⟨rfl, N75⟩
set_option maxRecDepth 65536 in
set_option maxHeartbeats 40000000 in
theorem comes_1 {Post : Tables → Env → Array Value → State → Outcome → State → Prop} (hpost : ∀ tb e args s v u, (limb_1_1.after args s (.returned v) u = true ∧ limb_1_2.after args s (.returned v) u = true ∧ True) → FrameEnd s (.returned v) u (Jvm.fieldLocs frame_1_writes args s ++ Jvm.arrayLocs frame_1_arrays args s ++ Jvm.staticLocs frame_1_statics s) 32 128 → Post tb e args s (.returned v) u) :
    ArmFor flags0 classFile x code maxLocals ret World_1 tables_1 room_1 Calls_1 rest_1 Pre_1 Post := by
  intro l hfl _ _ p e ha hc hk s m args below hf hA hF happ hP
  obtain ⟨hcalls, hrest, hpre⟩ := hP
  obtain ⟨-, -, -, hnamed, -, -, -, hat⟩ := (Spec.applies_iff hf).mp happ
  obtain ⟨hg, hn⟩ := and_e (Cond.before_iff.mp (show (Jvm.Cond.and given_1 narrow_1).before args s = true from hpre))
  obtain ⟨g0, gg0⟩ := and_e hg
  obtain ⟨w0, w1, rfl⟩ : ∃ w0 w1 : Value, args = #[w0, w1] := by
    have hs : args.size = 2 := by simpa [Cond.value, given_1] using g0
    obtain ⟨L⟩ := args
    match L, hs with
    | [w0, w1], _ => exact ⟨w0, w1, rfl⟩
  have hw := fun d (hd : d ∈ tables_1) => atoms_spec (ws := Jvm.Cond.code x code maxLocals ret :: tables_1) hat d (List.mem_cons_of_mem _ hd)
  obtain ⟨gi0, gg1⟩ := and_e gg0
  obtain ⟨i0, ei0⟩ := is_v gi0
  obtain rfl : w0 = (.int i0) := Option.some.inj ei0
  obtain ⟨i1, ei1⟩ := is_v gg1
  obtain rfl : w1 = (.int i1) := Option.some.inj ei1
  obtain ⟨hsets, hown0⟩ := atoms_of _ (rest_1_c_eq ▸ (show rest_1_c.before _ s = true from hrest))
  have hfit : Fit s := fun {y c} hc i hi => by
    obtain ⟨ha, rfl⟩ := Array.getElem?_eq_some_iff.mp hc
    have q := List.all_eq_true.mp ((Array.all_eq_true_iff_forall_mem.mp hF) _ (Array.getElem_mem ha)) i (List.mem_range.mpr hi)
    simpa [Array.getElem?_eq_getElem hi] using q
  obtain ⟨dd, edd⟩ := exa_v (Cond.before_iff.mp (hsets _ (List.mem_of_getElem? (i := 7) rfl)))
  have SD := Sta.start edd (Or.inr ⟨(hw _ (List.mem_of_getElem? (i := 29) rfl)), (hsets _ (List.mem_of_getElem? (i := 2) rfl))⟩)
  obtain ⟨cld, Ad⟩ := Arr.start edd (Cond.before_iff.mp (hsets _ (List.mem_of_getElem? (i := 6) rfl)))
  have Vd := own_len0 hfit edd Ad (Cond.before_iff.mp (hsets _ (List.mem_of_getElem? (i := 8) rfl))) .null
  obtain ⟨em, eem⟩ := exa_v (Cond.before_iff.mp (hsets _ (List.mem_of_getElem? (i := 11) rfl)))
  have SE := Sta.start eem (Or.inl (hsets _ (List.mem_of_getElem? (i := 10) rfl)))
  have Em := Exa.start eem (Cond.before_iff.mp (hsets _ (List.mem_of_getElem? (i := 11) rfl)))
  obtain ⟨⟨cm, km, mr, m1, m2, m3, -⟩, -⟩ := hcalls
  obtain ⟨n, o, h1, h2, h3, _, L, rfl, ⟨rfl, N⟩, hq⟩ := own_rm0 l s _ hw i0 i1 dd em mr cld.cls s.heap s.heap.size (Nat.le_refl _) SD SE Vd Em ⟨cm, km, m1, m2, m3⟩ p e ha hc hk s m _ below hf ((Spec.applies_iff_loose hf).mp happ).1 ⟨rfl, State.Warmed39.refl s, rfl⟩ trivial
  refine ⟨n, _, h1, h2, h3, hpost _ _ _ _ _ _ ⟨Cond.after_iff.mpr rfl, Cond.after_iff.mpr (eq_i res_at (Term.int_eval (1)) rfl), trivial⟩ ⟨hq.1, hq.2.1, (hq.2.2.sift fun y hy => Or.inr (N y hy)).mono (by decide) (by decide)⟩⟩
theorem main_1_1 : Claimed_1_1 := comes_1 fun _ _ _ _ _ _ h hF => ⟨h.1, hF⟩
theorem main_1_2 : Claimed_1_2 := comes_1 fun _ _ _ _ _ _ h hF => ⟨h.2.1, hF⟩
end Jvm.Pilot.@@N@@
namespace Jvm.Pilot.@@N@@
open Jvm Jvm.ClassFile Sem Op Lib Jvm.Free Jvm.Stand Jvm.Pilot.@@N@@.Jvm.D
/-! MADE BY PROGRAM (witnessworld.py) out of the Statement's table words and the real class files: 31 classes; the members and pool entries that the words name. The judged class is class 1, her method 1. -/
namespace start1
open Jvm.ClassFile
def u (s : String) : CpInfo := .utf8 (stringToUtf16 s)
/-- a pool by its gaps: so many unusable entries, then the entry; so many at the end -/
def gap : Nat → List CpInfo → List CpInfo
  | 0, r => r
  | n + 1, r => .unusable :: gap n r
def poolList (es : List (Nat × CpInfo)) (last : Nat) : List CpInfo := es.foldr (fun e r => gap e.1 (e.2 :: r)) (gap last [])
def pool (es : List (Nat × CpInfo)) (last : Nat) : Array CpInfo := ⟨poolList es last⟩
def fileOf (pool : Array CpInfo) (this : Nat) (attrs : Array Attribute := #[]) (ms : Array MethodInfo := #[]) (fl : Nat := 33) (sup : Nat := 0) (ifs : Array Nat := #[]) (fds : Array FieldInfo := #[]) : ClassFile where
  minorVersion := 0
  majorVersion := 65
  constantPool := pool
  accessFlags := fl
  thisClass := this
  superClass := sup
  interfaces := ifs
  fields := fds
  methods := ms
  attributes := attrs
def plain (name : String) (sup : Option ClassId) : Class where
  name := name
  kind := .ordinary
  loader := none
  accessFlags := 33
  super := sup
  interfaces := #[]
  cf := none
  fields := #[]
  methods := #[]
  instanceTypes := #[]
  staticTypes := #[]
  resolved := #[]
  callSites := []
  init := .initialized
  statics := none
  mirror := none

def pool0 : Array CpInfo := pool [(5, u "<init>"), (0, u "()V"), (1, .class_ 10), (1, u "java/lang/Object"), (0, u "getClass"), (0, u "()Ljava/lang/Class;")] 111

def k0c0 : Code := { maxStack := 0, maxLocals := 1, code := object_method_1_code, exceptionTable := #[], attributes := #[] }
def k0m0 : Method := { name := "<init>", desc := "()V", sig := { parameters := [], returnType := none }, accessFlags := 1, code := some k0c0 }
def k0m1 : Method := { name := "getClass", desc := "()Ljava/lang/Class;", sig := { parameters := [], returnType := some (.object "java/lang/Class") }, accessFlags := 273, code := none }
/-- java/lang/Object -/
def k0 : Class := { plain "java/lang/Object" none with
  accessFlags := 33
  interfaces := #[]
  cf := some (fileOf pool0 8 #[] #[{ accessFlags := 1, nameIndex := 5, descriptorIndex := 6, attributes := #[] }, { accessFlags := 273, nameIndex := 11, descriptorIndex := 12, attributes := #[] }] 33 0 #[] #[])
  fields := #[]
  methods := #[k0m0, k0m1]
  instanceTypes := #[]
  staticTypes := #[]
  resolved := Array.replicate 124 none
  statics := none }

def pool1 : Array CpInfo := pool [(2, .class_ 4), (0, .nameAndType 5 6), (0, u "java/lang/Object"), (0, u "<init>"), (0, u "()V"), (0, .integer 2147483647), (0, .methodref 9 10), (0, .class_ 11), (0, .nameAndType 12 13), (0, u "java/lang/Math"), (0, u "max"), (0, u "(II)I"), (0, .methodref 15 16), (0, .class_ 17), (0, .nameAndType 18 19), (0, u "java/time/Duration"), (0, u "ofSeconds"), (0, u "(J)Ljava/time/Duration;"), (0, .long 2), (1, .long 3), (1, .class_ 25), (0, u "java/util/ArrayList"), (0, .methodref 24 3), (0, .methodref 24 28), (0, .nameAndType 29 30), (0, u "add"), (0, u "(Ljava/lang/Object;)Z"), (0, .class_ 32), (0, u "com/example/topicd/topicd/broker/DelayLevels"), (0, .methodref 31 34), (0, .nameAndType 5 35), (0, u "(Ljava/util/List;)V"), (0, .methodref 31 37), (0, .nameAndType 38 39), (0, u "delay"), (0, u "(I)Ljava/time/Duration;"), (0, .class_ 41), (0, u "com/example/topicd/topicd/broker/DelayLevelsDelayPinLaw"), (2, u "law"), (0, u "(II)Z")] 3

def k1m0 : Method := { name := "<init>", desc := "()V", sig := { parameters := [], returnType := none }, accessFlags := 1, code := none }
def k1c1 : Code := { maxStack := 3, maxLocals := 12, code := code, exceptionTable := #[], attributes := #[] }
def k1m1 : Method := { name := "law", desc := "(II)Z", sig := { parameters := [.int, .int], returnType := some .boolean }, accessFlags := 9, code := some k1c1 }
/-- com/example/topicd/topicd/broker/DelayLevelsDelayPinLaw -/
def k1 : Class := { plain "com/example/topicd/topicd/broker/DelayLevelsDelayPinLaw" (some 0) with
  accessFlags := 49
  interfaces := #[]
  cf := some (fileOf pool1 40 #[] #[{ accessFlags := 1, nameIndex := 5, descriptorIndex := 6, attributes := #[] }, { accessFlags := 9, nameIndex := 44, descriptorIndex := 45, attributes := #[] }] 49 2 #[] #[])
  fields := #[]
  methods := #[k1m0, k1m1]
  instanceTypes := #[]
  staticTypes := #[]
  resolved := Array.replicate 49 none
  statics := none }

def pool2 : Array CpInfo := pool [(1, .class_ 2), (0, u "java/lang/Math"), (1, .class_ 6), (1, u "java/lang/Object"), (0, u "<init>"), (0, u "()V"), (89, .class_ 100), (1, u "java/lang/Math$RandomNumberGeneratorHolder"), (71, u "negativeZeroFloatBits"), (0, u "J"), (2, u "negativeZeroDoubleBits"), (21, u "max"), (2, u "min"), (43, u "$assertionsDisabled"), (0, u "Z"), (88, u "(II)I"), (2, u "twoToTheDoubleScaleDown"), (0, u "D"), (4, u "twoToTheDoubleScaleUp"), (9, u "E"), (3, u "PI"), (2, u "TAU"), (2, u "DEGREES_TO_RADIANS"), (0, u "RADIANS_TO_DEGREES")] 94

def k2m0 : Method := { name := "<init>", desc := "()V", sig := { parameters := [], returnType := none }, accessFlags := 2, code := none }
def k2c1 : Code := { maxStack := 2, maxLocals := 2, code := jdk_29_method_65_code, exceptionTable := #[], attributes := #[] }
def k2m1 : Method := { name := "max", desc := "(II)I", sig := { parameters := [.int, .int], returnType := some .int }, accessFlags := 9, code := some k2c1 }
def k2c2 : Code := { maxStack := 2, maxLocals := 2, code := jdk_29_method_69_code, exceptionTable := #[], attributes := #[] }
def k2m2 : Method := { name := "min", desc := "(II)I", sig := { parameters := [.int, .int], returnType := some .int }, accessFlags := 9, code := some k2c2 }
/-- java/lang/Math -/
def k2 : Class := { plain "java/lang/Math" (some 0) with
  accessFlags := 49
  interfaces := #[]
  cf := some (fileOf pool2 1 #[.nestMembers #[98]] #[{ accessFlags := 2, nameIndex := 7, descriptorIndex := 8, attributes := #[] }, { accessFlags := 9, nameIndex := 198, descriptorIndex := 335, attributes := #[] }, { accessFlags := 9, nameIndex := 201, descriptorIndex := 335, attributes := #[] }] 49 4 #[] #[{ accessFlags := 25, nameIndex := 354, descriptorIndex := 339, attributes := #[] }, { accessFlags := 25, nameIndex := 358, descriptorIndex := 339, attributes := #[] }, { accessFlags := 25, nameIndex := 361, descriptorIndex := 339, attributes := #[] }, { accessFlags := 26, nameIndex := 364, descriptorIndex := 339, attributes := #[] }, { accessFlags := 26, nameIndex := 365, descriptorIndex := 339, attributes := #[] }, { accessFlags := 26, nameIndex := 172, descriptorIndex := 173, attributes := #[] }, { accessFlags := 26, nameIndex := 176, descriptorIndex := 173, attributes := #[] }, { accessFlags := 8, nameIndex := 344, descriptorIndex := 339, attributes := #[] }, { accessFlags := 8, nameIndex := 338, descriptorIndex := 339, attributes := #[] }, { accessFlags := 4120, nameIndex := 245, descriptorIndex := 246, attributes := #[] }])
  fields := #[{ name := "E", type := .double, accessFlags := 25, slot := 0, constantValue := 0 }, { name := "PI", type := .double, accessFlags := 25, slot := 1, constantValue := 0 }, { name := "TAU", type := .double, accessFlags := 25, slot := 2, constantValue := 0 }, { name := "DEGREES_TO_RADIANS", type := .double, accessFlags := 26, slot := 3, constantValue := 0 }, { name := "RADIANS_TO_DEGREES", type := .double, accessFlags := 26, slot := 4, constantValue := 0 }, { name := "negativeZeroFloatBits", type := .long, accessFlags := 26, slot := 5, constantValue := 0 }, { name := "negativeZeroDoubleBits", type := .long, accessFlags := 26, slot := 6, constantValue := 0 }, { name := "twoToTheDoubleScaleUp", type := .double, accessFlags := 8, slot := 7, constantValue := 0 }, { name := "twoToTheDoubleScaleDown", type := .double, accessFlags := 8, slot := 8, constantValue := 0 }, { name := "$assertionsDisabled", type := .boolean, accessFlags := 4120, slot := 9, constantValue := 0 }]
  methods := #[k2m0, k2m1, k2m2]
  instanceTypes := #[]
  staticTypes := #[.double, .double, .double, .double, .double, .long, .long, .double, .double, .boolean]
  resolved := Array.replicate 460 none
  statics := none }

def pool3 : Array CpInfo := pool [(1, .class_ 2), (0, u "java/time/temporal/TemporalAmount"), (0, .class_ 4), (0, u "java/lang/Object")] 11

/-- java/time/temporal/TemporalAmount -/
def k3 : Class := { plain "java/time/temporal/TemporalAmount" (some 0) with
  accessFlags := 1537
  interfaces := #[]
  cf := some (fileOf pool3 1 #[] #[] 1537 3 #[] #[])
  fields := #[]
  methods := #[]
  instanceTypes := #[]
  staticTypes := #[]
  resolved := Array.replicate 16 none
  statics := none }

def pool4 : Array CpInfo := pool [(1, .class_ 2), (0, u "java/lang/Comparable"), (0, .class_ 4), (0, u "java/lang/Object")] 7

/-- java/lang/Comparable -/
def k4 : Class := { plain "java/lang/Comparable" (some 0) with
  accessFlags := 1537
  interfaces := #[]
  cf := some (fileOf pool4 1 #[] #[] 1537 3 #[] #[])
  fields := #[]
  methods := #[]
  instanceTypes := #[]
  staticTypes := #[]
  resolved := Array.replicate 12 none
  statics := none }

def pool5 : Array CpInfo := pool [(1, .class_ 2), (0, u "java/io/Serializable"), (0, .class_ 4), (0, u "java/lang/Object")] 2

/-- java/io/Serializable -/
def k5 : Class := { plain "java/io/Serializable" (some 0) with
  accessFlags := 1537
  interfaces := #[]
  cf := some (fileOf pool5 1 #[] #[] 1537 3 #[] #[])
  fields := #[]
  methods := #[]
  instanceTypes := #[]
  staticTypes := #[]
  resolved := Array.replicate 7 none
  statics := none }

def pool6 : Array CpInfo := pool [(10, .methodref 11 12), (0, .class_ 13), (0, .nameAndType 14 15), (0, u "java/time/Duration"), (0, u "create"), (0, u "(JI)Ljava/time/Duration;"), (18, u "ZERO"), (0, u "Ljava/time/Duration;"), (13, .class_ 51), (1, u "java/time/temporal/TemporalAmount"), (27, .class_ 81), (1, u "java/time/Duration$Lazy"), (35, u "seconds"), (21, u "<init>"), (17, .nameAndType 139 158), (0, u "()V"), (19, u "ofSeconds"), (20, u "(J)Ljava/time/Duration;"), (15, .methodref 11 216), (0, .nameAndType 139 217), (0, u "(JI)V"), (0, .methodref 219 157), (0, .class_ 220), (0, u "java/lang/Object"), (0, .fieldref 11 222), (0, .nameAndType 117 223), (0, u "J"), (0, .fieldref 11 225), (0, .nameAndType 226 227), (0, u "nanos"), (0, u "I"), (11, .class_ 241), (1, u "java/time/Duration$DurationUnits"), (27, .class_ 271), (1, u "java/time/Duration$1"), (91, u "BI_NANOS_PER_SECOND"), (0, u "Ljava/math/BigInteger;"), (120, .class_ 486), (0, u "java/lang/Comparable"), (0, .class_ 488), (0, u "java/io/Serializable"), (0, u "serialVersionUID")] 166

def k6c0 : Code := { maxStack := 3, maxLocals := 2, code := jdk_2316_method_4_code, exceptionTable := #[], attributes := #[] }
def k6m0 : Method := { name := "ofSeconds", desc := "(J)Ljava/time/Duration;", sig := { parameters := [.long], returnType := some (.object "java/time/Duration") }, accessFlags := 9, code := some k6c0 }
def k6c1 : Code := { maxStack := 5, maxLocals := 3, code := jdk_2316_method_16_code, exceptionTable := #[], attributes := #[] }
def k6m1 : Method := { name := "create", desc := "(JI)Ljava/time/Duration;", sig := { parameters := [.long, .int], returnType := some (.object "java/time/Duration") }, accessFlags := 10, code := some k6c1 }
def k6c2 : Code := { maxStack := 3, maxLocals := 4, code := jdk_2316_method_17_code, exceptionTable := #[], attributes := #[] }
def k6m2 : Method := { name := "<init>", desc := "(JI)V", sig := { parameters := [.long, .int], returnType := none }, accessFlags := 2, code := some k6c2 }
/-- java/time/Duration -/
def k6 : Class := { plain "java/time/Duration" (some 0) with
  accessFlags := 49
  interfaces := #[3, 4, 5]
  cf := some (fileOf pool6 11 #[.nestMembers #[269, 239, 79]] #[{ accessFlags := 9, nameIndex := 178, descriptorIndex := 199, attributes := #[] }, { accessFlags := 10, nameIndex := 14, descriptorIndex := 15, attributes := #[] }, { accessFlags := 2, nameIndex := 139, descriptorIndex := 217, attributes := #[] }] 49 219 #[49, 485, 487] #[{ accessFlags := 25, nameIndex := 34, descriptorIndex := 35, attributes := #[] }, { accessFlags := 26, nameIndex := 489, descriptorIndex := 223, attributes := #[] }, { accessFlags := 26, nameIndex := 363, descriptorIndex := 364, attributes := #[] }, { accessFlags := 18, nameIndex := 117, descriptorIndex := 223, attributes := #[] }, { accessFlags := 18, nameIndex := 226, descriptorIndex := 227, attributes := #[] }])
  fields := #[{ name := "ZERO", type := (.object "java/time/Duration"), accessFlags := 25, slot := 0, constantValue := 0 }, { name := "serialVersionUID", type := .long, accessFlags := 26, slot := 1, constantValue := 0 }, { name := "BI_NANOS_PER_SECOND", type := (.object "java/math/BigInteger"), accessFlags := 26, slot := 2, constantValue := 0 }, { name := "seconds", type := .long, accessFlags := 18, slot := 0, constantValue := 0 }, { name := "nanos", type := .int, accessFlags := 18, slot := 1, constantValue := 0 }]
  methods := #[k6m0, k6m1, k6m2]
  instanceTypes := #[.long, .int]
  staticTypes := #[(.object "java/time/Duration"), .long, (.object "java/math/BigInteger")]
  resolved := Array.replicate 656 none
  statics := none }

def pool7 : Array CpInfo := pool [(8, .class_ 10), (1, u "java/lang/Iterable"), (24, .class_ 36), (0, u "java/lang/Object")] 25

/-- java/lang/Iterable -/
def k7 : Class := { plain "java/lang/Iterable" (some 0) with
  accessFlags := 1537
  interfaces := #[]
  cf := some (fileOf pool7 8 #[] #[] 1537 35 #[] #[])
  fields := #[]
  methods := #[]
  instanceTypes := #[]
  staticTypes := #[]
  resolved := Array.replicate 62 none
  statics := none }

def pool8 : Array CpInfo := pool [(10, .class_ 12), (1, u "java/util/Collection"), (0, u "toArray"), (16, u "()Z"), (29, .class_ 61), (0, u "java/lang/Object"), (0, .class_ 63), (0, u "java/lang/Iterable"), (2, u "isEmpty"), (3, u "()[Ljava/lang/Object;")] 44

def k8m0 : Method := { name := "isEmpty", desc := "()Z", sig := { parameters := [], returnType := some .boolean }, accessFlags := 1025, code := none }
def k8m1 : Method := { name := "toArray", desc := "()[Ljava/lang/Object;", sig := { parameters := [], returnType := some (.array (.object "java/lang/Object")) }, accessFlags := 1025, code := none }
/-- java/util/Collection -/
def k8 : Class := { plain "java/util/Collection" (some 0) with
  accessFlags := 1537
  interfaces := #[7]
  cf := some (fileOf pool8 10 #[] #[{ accessFlags := 1025, nameIndex := 66, descriptorIndex := 30, attributes := #[] }, { accessFlags := 1025, nameIndex := 13, descriptorIndex := 70, attributes := #[] }] 1537 60 #[62] #[])
  fields := #[]
  methods := #[k8m0, k8m1]
  instanceTypes := #[]
  staticTypes := #[]
  resolved := Array.replicate 115 none
  statics := none }

def pool9 : Array CpInfo := pool [(1, .methodref 2 3), (0, .class_ 4), (0, .nameAndType 5 6), (0, u "java/lang/Object"), (0, u "<init>"), (0, u "()V"), (1, .class_ 10), (1, u "java/util/AbstractCollection"), (66, .class_ 78), (0, u "java/util/Collection")] 81

def k9c0 : Code := { maxStack := 1, maxLocals := 1, code := jdk_22_method_1_code, exceptionTable := #[], attributes := #[] }
def k9m0 : Method := { name := "<init>", desc := "()V", sig := { parameters := [], returnType := none }, accessFlags := 4, code := some k9c0 }
/-- java/util/AbstractCollection -/
def k9 : Class := { plain "java/util/AbstractCollection" (some 0) with
  accessFlags := 1057
  interfaces := #[8]
  cf := some (fileOf pool9 8 #[] #[{ accessFlags := 4, nameIndex := 5, descriptorIndex := 6, attributes := #[] }] 1057 2 #[77] #[])
  fields := #[]
  methods := #[k9m0]
  instanceTypes := #[]
  staticTypes := #[]
  resolved := Array.replicate 160 none
  statics := none }

def pool10 : Array CpInfo := pool [(8, .class_ 10), (1, u "java/util/SequencedCollection"), (15, .class_ 27), (0, u "java/lang/Object"), (0, .class_ 29), (0, u "java/util/Collection")] 27

/-- java/util/SequencedCollection -/
def k10 : Class := { plain "java/util/SequencedCollection" (some 0) with
  accessFlags := 1537
  interfaces := #[8]
  cf := some (fileOf pool10 8 #[] #[] 1537 26 #[28] #[])
  fields := #[]
  methods := #[]
  instanceTypes := #[]
  staticTypes := #[]
  resolved := Array.replicate 57 none
  statics := none }

def pool11 : Array CpInfo := pool [(8, .class_ 10), (1, u "java/util/List"), (7, u "()Z"), (12, u "(Ljava/lang/Object;)V"), (16, u "<init>"), (18, u "isEmpty"), (7, u "get"), (0, u "(I)Ljava/lang/Object;"), (2, u "size"), (0, u "()I"), (7, u "of"), (2, .class_ 93), (1, u "java/util/ImmutableCollections"), (2, .class_ 97), (0, u "java/util/ImmutableCollections$List12"), (0, .methodref 96 99), (0, .nameAndType 48 31), (0, .methodref 96 101), (0, .nameAndType 48 102), (0, u "(Ljava/lang/Object;Ljava/lang/Object;)V"), (0, .class_ 104), (0, u "java/lang/Object"), (3, u "([Ljava/lang/Object;)Ljava/util/List;"), (0, .methodref 91 110), (0, .nameAndType 111 108), (0, u "listFromArray"), (0, .methodref 91 113), (0, .nameAndType 114 115), (0, u "listCopy"), (0, u "(Ljava/util/Collection;)Ljava/util/List;"), (4, .class_ 121), (0, u "java/util/SequencedCollection"), (112, u "copyOf")] 16

def k11m0 : Method := { name := "size", desc := "()I", sig := { parameters := [], returnType := some .int }, accessFlags := 1025, code := none }
def k11m1 : Method := { name := "isEmpty", desc := "()Z", sig := { parameters := [], returnType := some .boolean }, accessFlags := 1025, code := none }
def k11m2 : Method := { name := "get", desc := "(I)Ljava/lang/Object;", sig := { parameters := [.int], returnType := some (.object "java/lang/Object") }, accessFlags := 1025, code := none }
def k11c3 : Code := { maxStack := 5, maxLocals := 2, code := jdk_40_method_47_code, exceptionTable := #[], attributes := #[] }
def k11m3 : Method := { name := "of", desc := "([Ljava/lang/Object;)Ljava/util/List;", sig := { parameters := [(.array (.object "java/lang/Object"))], returnType := some (.object "java/util/List") }, accessFlags := 137, code := some k11c3 }
def k11c4 : Code := { maxStack := 1, maxLocals := 1, code := jdk_40_method_48_code, exceptionTable := #[], attributes := #[] }
def k11m4 : Method := { name := "copyOf", desc := "(Ljava/util/Collection;)Ljava/util/List;", sig := { parameters := [(.object "java/util/Collection")], returnType := some (.object "java/util/List") }, accessFlags := 9, code := some k11c4 }
/-- java/util/List -/
def k11 : Class := { plain "java/util/List" (some 0) with
  accessFlags := 1537
  interfaces := #[10]
  cf := some (fileOf pool11 8 #[] #[{ accessFlags := 1025, nameIndex := 79, descriptorIndex := 80, attributes := #[] }, { accessFlags := 1025, nameIndex := 67, descriptorIndex := 18, attributes := #[] }, { accessFlags := 1025, nameIndex := 75, descriptorIndex := 76, attributes := #[] }, { accessFlags := 137, nameIndex := 88, descriptorIndex := 108, attributes := #[] }, { accessFlags := 9, nameIndex := 234, descriptorIndex := 115, attributes := #[] }] 1537 103 #[120] #[])
  fields := #[]
  methods := #[k11m0, k11m1, k11m2, k11m3, k11m4]
  instanceTypes := #[]
  staticTypes := #[]
  resolved := Array.replicate 251 none
  statics := none }

def pool12 : Array CpInfo := pool [(1, .methodref 2 3), (0, .class_ 4), (0, .nameAndType 5 6), (0, u "java/util/AbstractCollection"), (0, u "<init>"), (0, u "()V"), (0, .fieldref 8 9), (0, .class_ 10), (0, .nameAndType 11 12), (0, u "java/util/AbstractList"), (0, u "modCount"), (0, u "I"), (64, .class_ 78), (0, u "java/util/AbstractList$Itr"), (3, .class_ 83), (0, u "java/util/AbstractList$ListItr"), (9, .class_ 94), (0, u "java/util/AbstractList$RandomAccessSubList"), (3, .class_ 99), (0, u "java/util/AbstractList$SubList"), (33, .class_ 134), (0, u "java/util/List"), (73, .class_ 209), (0, u "java/util/AbstractList$SubList$1"), (0, .class_ 211), (0, u "java/util/AbstractList$RandomAccessSpliterator")] 6

def k12c0 : Code := { maxStack := 2, maxLocals := 1, code := jdk_39_method_1_code, exceptionTable := #[], attributes := #[] }
def k12m0 : Method := { name := "<init>", desc := "()V", sig := { parameters := [], returnType := none }, accessFlags := 4, code := some k12c0 }
/-- java/util/AbstractList -/
def k12 : Class := { plain "java/util/AbstractList" (some 9) with
  accessFlags := 1057
  interfaces := #[11]
  cf := some (fileOf pool12 8 #[.nestMembers #[93, 98, 208, 210, 82, 77]] #[{ accessFlags := 4, nameIndex := 5, descriptorIndex := 6, attributes := #[] }] 1057 2 #[133] #[{ accessFlags := 132, nameIndex := 11, descriptorIndex := 12, attributes := #[] }])
  fields := #[{ name := "modCount", type := .int, accessFlags := 132, slot := 0, constantValue := 0 }]
  methods := #[k12m0]
  instanceTypes := #[.int]
  staticTypes := #[]
  resolved := Array.replicate 218 none
  statics := none }

def pool13 : Array CpInfo := pool [(1, .class_ 2), (0, u "java/util/RandomAccess"), (0, .class_ 4), (0, u "java/lang/Object")] 2

/-- java/util/RandomAccess -/
def k13 : Class := { plain "java/util/RandomAccess" (some 0) with
  accessFlags := 1537
  interfaces := #[]
  cf := some (fileOf pool13 1 #[] #[] 1537 3 #[] #[])
  fields := #[]
  methods := #[]
  instanceTypes := #[]
  staticTypes := #[]
  resolved := Array.replicate 7 none
  statics := none }

def pool14 : Array CpInfo := pool [(1, .class_ 2), (0, u "java/lang/Cloneable"), (0, .class_ 4), (0, u "java/lang/Object")] 2

/-- java/lang/Cloneable -/
def k14 : Class := { plain "java/lang/Cloneable" (some 0) with
  accessFlags := 1537
  interfaces := #[]
  cf := some (fileOf pool14 1 #[] #[] 1537 3 #[] #[])
  fields := #[]
  methods := #[]
  instanceTypes := #[]
  staticTypes := #[]
  resolved := Array.replicate 7 none
  statics := none }

def pool15 : Array CpInfo := pool [(1, .methodref 2 3), (0, .class_ 4), (0, .nameAndType 5 6), (0, u "java/util/AbstractList"), (0, u "<init>"), (0, u "()V"), (0, .class_ 8), (0, u "java/lang/Object"), (0, .fieldref 10 11), (0, .class_ 12), (0, .nameAndType 13 14), (0, u "java/util/ArrayList"), (0, u "elementData"), (0, u "[Ljava/lang/Object;"), (2, u "EMPTY_ELEMENTDATA"), (21, .fieldref 10 40), (0, .nameAndType 41 14), (0, u "DEFAULTCAPACITY_EMPTY_ELEMENTDATA"), (4, u "toArray"), (0, u "()[Ljava/lang/Object;"), (0, .fieldref 10 49), (0, .nameAndType 50 51), (0, u "size"), (0, u "I"), (6, .class_ 60), (1, u "java/util/Arrays"), (0, u "copyOf"), (1, .fieldref 10 64), (0, .nameAndType 65 51), (0, u "modCount"), (0, .methodref 58 67), (0, .nameAndType 61 68), (0, u "([Ljava/lang/Object;I)[Ljava/lang/Object;"), (0, .methodref 10 70), (0, .nameAndType 71 72), (0, u "grow"), (0, u "(I)[Ljava/lang/Object;"), (6, .methodref 80 81), (0, .class_ 82), (0, .nameAndType 83 84), (0, u "java/lang/Math"), (0, u "max"), (0, u "(II)I"), (11, u "(Ljava/lang/Object;)Z"), (32, .methodref 10 130), (0, .nameAndType 71 47), (0, .methodref 10 132), (0, .nameAndType 133 134), (0, u "add"), (0, u "(Ljava/lang/Object;[Ljava/lang/Object;I)V"), (13, .class_ 149), (0, u "java/util/List"), (23, u "()Z"), (88, .class_ 263), (0, u "java/util/ArrayList$ListItr"), (3, .class_ 268), (0, u "java/util/ArrayList$Itr"), (7, .class_ 277), (0, u "java/util/ArrayList$SubList"), (12, .class_ 291), (0, u "java/util/ArrayList$ArrayListSpliterator"), (37, .class_ 330), (0, u "java/util/RandomAccess"), (0, .class_ 332), (0, u "java/lang/Cloneable"), (0, .class_ 334), (0, u "java/io/Serializable"), (0, u "serialVersionUID"), (0, u "J"), (3, u "DEFAULT_CAPACITY"), (22, u "isEmpty"), (136, .class_ 501), (0, u "java/util/ArrayList$SubList$2"), (0, .class_ 503), (0, u "java/util/ArrayList$SubList$1")] 5

def k15c0 : Code := { maxStack := 2, maxLocals := 1, code := jdk_38_method_2_code, exceptionTable := #[], attributes := #[] }
def k15m0 : Method := { name := "<init>", desc := "()V", sig := { parameters := [], returnType := none }, accessFlags := 1, code := some k15c0 }
def k15c1 : Code := { maxStack := 4, maxLocals := 4, code := jdk_38_method_6_code, exceptionTable := #[], attributes := #[] }
def k15m1 : Method := { name := "grow", desc := "(I)[Ljava/lang/Object;", sig := { parameters := [.int], returnType := some (.array (.object "java/lang/Object")) }, accessFlags := 2, code := some k15c1 }
def k15c2 : Code := { maxStack := 3, maxLocals := 1, code := jdk_38_method_7_code, exceptionTable := #[], attributes := #[] }
def k15m2 : Method := { name := "grow", desc := "()[Ljava/lang/Object;", sig := { parameters := [], returnType := some (.array (.object "java/lang/Object")) }, accessFlags := 2, code := some k15c2 }
def k15c3 : Code := { maxStack := 1, maxLocals := 1, code := jdk_38_method_9_code, exceptionTable := #[], attributes := #[] }
def k15m3 : Method := { name := "isEmpty", desc := "()Z", sig := { parameters := [], returnType := some .boolean }, accessFlags := 1, code := some k15c3 }
def k15c4 : Code := { maxStack := 2, maxLocals := 1, code := jdk_38_method_16_code, exceptionTable := #[], attributes := #[] }
def k15m4 : Method := { name := "toArray", desc := "()[Ljava/lang/Object;", sig := { parameters := [], returnType := some (.array (.object "java/lang/Object")) }, accessFlags := 1, code := some k15c4 }
def k15c5 : Code := { maxStack := 3, maxLocals := 4, code := jdk_38_method_24_code, exceptionTable := #[], attributes := #[] }
def k15m5 : Method := { name := "add", desc := "(Ljava/lang/Object;[Ljava/lang/Object;I)V", sig := { parameters := [(.object "java/lang/Object"), (.array (.object "java/lang/Object")), .int], returnType := none }, accessFlags := 2, code := some k15c5 }
def k15c6 : Code := { maxStack := 4, maxLocals := 2, code := jdk_38_method_25_code, exceptionTable := #[], attributes := #[] }
def k15m6 : Method := { name := "add", desc := "(Ljava/lang/Object;)Z", sig := { parameters := [(.object "java/lang/Object")], returnType := some .boolean }, accessFlags := 1, code := some k15c6 }
/-- java/util/ArrayList -/
def k15 : Class := { plain "java/util/ArrayList" (some 12) with
  accessFlags := 33
  interfaces := #[11, 13, 14, 5]
  cf := some (fileOf pool15 10 #[.nestMembers #[290, 276, 500, 502, 262, 267]] #[{ accessFlags := 1, nameIndex := 5, descriptorIndex := 6, attributes := #[] }, { accessFlags := 2, nameIndex := 71, descriptorIndex := 72, attributes := #[] }, { accessFlags := 2, nameIndex := 71, descriptorIndex := 47, attributes := #[] }, { accessFlags := 1, nameIndex := 363, descriptorIndex := 173, attributes := #[] }, { accessFlags := 1, nameIndex := 46, descriptorIndex := 47, attributes := #[] }, { accessFlags := 2, nameIndex := 133, descriptorIndex := 134, attributes := #[] }, { accessFlags := 1, nameIndex := 133, descriptorIndex := 96, attributes := #[] }] 33 2 #[148, 329, 331, 333] #[{ accessFlags := 26, nameIndex := 335, descriptorIndex := 336, attributes := #[] }, { accessFlags := 26, nameIndex := 340, descriptorIndex := 51, attributes := #[] }, { accessFlags := 26, nameIndex := 17, descriptorIndex := 14, attributes := #[] }, { accessFlags := 26, nameIndex := 41, descriptorIndex := 14, attributes := #[] }, { accessFlags := 128, nameIndex := 13, descriptorIndex := 14, attributes := #[] }, { accessFlags := 2, nameIndex := 50, descriptorIndex := 51, attributes := #[] }])
  fields := #[{ name := "serialVersionUID", type := .long, accessFlags := 26, slot := 0, constantValue := 0 }, { name := "DEFAULT_CAPACITY", type := .int, accessFlags := 26, slot := 1, constantValue := 0 }, { name := "EMPTY_ELEMENTDATA", type := (.array (.object "java/lang/Object")), accessFlags := 26, slot := 2, constantValue := 0 }, { name := "DEFAULTCAPACITY_EMPTY_ELEMENTDATA", type := (.array (.object "java/lang/Object")), accessFlags := 26, slot := 3, constantValue := 0 }, { name := "elementData", type := (.array (.object "java/lang/Object")), accessFlags := 128, slot := 1, constantValue := 0 }, { name := "size", type := .int, accessFlags := 2, slot := 2, constantValue := 0 }]
  methods := #[k15m0, k15m1, k15m2, k15m3, k15m4, k15m5, k15m6]
  instanceTypes := #[.int, (.array (.object "java/lang/Object")), .int]
  staticTypes := #[.long, .int, (.array (.object "java/lang/Object")), (.array (.object "java/lang/Object"))]
  resolved := Array.replicate 509 none
  statics := some 0 }

def pool16 : Array CpInfo := pool [(1, .methodref 2 3), (0, .class_ 4), (0, .nameAndType 5 6), (0, u "java/lang/Object"), (0, u "<init>"), (0, u "()V"), (0, .interfaceMethodref 8 9), (0, .class_ 10), (0, .nameAndType 11 12), (0, u "java/util/List"), (0, u "isEmpty"), (0, u "()Z"), (7, .interfaceMethodref 8 21), (0, .nameAndType 22 23), (0, u "copyOf"), (0, u "(Ljava/util/Collection;)Ljava/util/List;"), (0, .fieldref 25 26), (0, .class_ 27), (0, .nameAndType 28 29), (0, u "com/example/topicd/topicd/broker/DelayLevels"), (0, u "delays"), (0, u "Ljava/util/List;"), (17, u "DELAY"), (0, u "Ljava/util/regex/Pattern;"), (27, u "UNITS"), (0, u "Ljava/util/Map;"), (4, u "get"), (4, .class_ 89), (1, u "java/time/Duration"), (8, u "(Ljava/util/List;)V"), (0, .interfaceMethodref 8 100), (0, .nameAndType 101 102), (0, u "size"), (0, u "()I"), (0, .methodref 104 105), (0, .class_ 106), (0, .nameAndType 107 108), (0, u "java/lang/Math"), (0, u "min"), (0, u "(II)I"), (0, .interfaceMethodref 8 110), (0, .nameAndType 82 111), (0, u "(I)Ljava/lang/Object;"), (32, u "DEFAULT"), (0, u "Ljava/lang/String;"), (15, u "delay"), (0, u "(I)Ljava/time/Duration;")] 18

def k16c0 : Code := { maxStack := 3, maxLocals := 2, code := prog_3_method_1_code, exceptionTable := #[], attributes := #[] }
def k16m0 : Method := { name := "<init>", desc := "(Ljava/util/List;)V", sig := { parameters := [(.object "java/util/List")], returnType := none }, accessFlags := 0, code := some k16c0 }
def k16c1 : Code := { maxStack := 3, maxLocals := 2, code := prog_3_method_4_code, exceptionTable := #[], attributes := #[] }
def k16m1 : Method := { name := "delay", desc := "(I)Ljava/time/Duration;", sig := { parameters := [.int], returnType := some (.object "java/time/Duration") }, accessFlags := 0, code := some k16c1 }
/-- com/example/topicd/topicd/broker/DelayLevels -/
def k16 : Class := { plain "com/example/topicd/topicd/broker/DelayLevels" (some 0) with
  accessFlags := 33
  interfaces := #[]
  cf := some (fileOf pool16 25 #[] #[{ accessFlags := 0, nameIndex := 5, descriptorIndex := 98, attributes := #[] }, { accessFlags := 0, nameIndex := 161, descriptorIndex := 162, attributes := #[] }] 33 2 #[] #[{ accessFlags := 25, nameIndex := 144, descriptorIndex := 145, attributes := #[] }, { accessFlags := 26, nameIndex := 47, descriptorIndex := 48, attributes := #[] }, { accessFlags := 26, nameIndex := 76, descriptorIndex := 77, attributes := #[] }, { accessFlags := 18, nameIndex := 28, descriptorIndex := 29, attributes := #[] }])
  fields := #[{ name := "DEFAULT", type := (.object "java/lang/String"), accessFlags := 25, slot := 0, constantValue := 0 }, { name := "DELAY", type := (.object "java/util/regex/Pattern"), accessFlags := 26, slot := 1, constantValue := 0 }, { name := "UNITS", type := (.object "java/util/Map"), accessFlags := 26, slot := 2, constantValue := 0 }, { name := "delays", type := (.object "java/util/List"), accessFlags := 18, slot := 0, constantValue := 0 }]
  methods := #[k16m0, k16m1]
  instanceTypes := #[(.object "java/util/List")]
  staticTypes := #[(.object "java/lang/String"), (.object "java/util/regex/Pattern"), (.object "java/util/Map")]
  resolved := Array.replicate 181 none
  statics := none }

def pool17 : Array CpInfo := pool [(2, .class_ 4), (1, u "java/lang/Object"), (0, u "<init>"), (0, u "()V"), (3, .class_ 11), (0, u "java/util/ImmutableCollections$List12"), (0, .class_ 13), (0, u "java/util/ImmutableCollections$ListN"), (3, u "Z"), (0, .class_ 19), (0, u "java/util/List"), (0, .interfaceMethodref 21 22), (0, .class_ 23), (0, .nameAndType 24 25), (0, u "java/util/Collection"), (0, u "isEmpty"), (0, u "()Z"), (2, u "of"), (1, .interfaceMethodref 21 31), (0, .nameAndType 32 33), (0, u "toArray"), (0, u "()[Ljava/lang/Object;"), (0, .interfaceMethodref 18 35), (0, .nameAndType 28 36), (0, u "([Ljava/lang/Object;)Ljava/util/List;"), (0, .methodref 38 39), (0, .class_ 40), (0, .nameAndType 41 42), (0, u "java/util/Objects"), (0, u "requireNonNull"), (0, u "(Ljava/lang/Object;)Ljava/lang/Object;"), (0, .methodref 12 44), (0, .nameAndType 5 45), (0, u "([Ljava/lang/Object;Z)V"), (1, .class_ 49), (1, u "java/util/ImmutableCollections"), (0, u "$assertionsDisabled"), (5, u "[Ljava/lang/Object;"), (5, u "EMPTY_LIST"), (0, u "Ljava/util/ImmutableCollections$ListN;"), (8, u "EMPTY_LIST_NULLS"), (22, u "SALT32L"), (0, u "J"), (2, u "REVERSE"), (6, u "archivedObjects"), (2, u "EMPTY"), (0, u "Ljava/lang/Object;"), (0, .class_ 112), (0, u "java/util/ImmutableCollections$SetN"), (5, u "EMPTY_SET"), (0, u "Ljava/util/ImmutableCollections$SetN;"), (0, .class_ 121), (0, u "java/util/ImmutableCollections$MapN"), (3, u "EMPTY_MAP"), (0, u "Ljava/util/ImmutableCollections$MapN;"), (4, u "EXPAND_FACTOR"), (0, u "I"), (9, u "listCopy"), (0, u "(Ljava/util/Collection;)Ljava/util/List;"), (7, u "listFromArray"), (17, .class_ 170), (0, u "java/util/ImmutableCollections$MapN$MapNIterator"), (0, .class_ 172), (0, u "java/util/ImmutableCollections$MapN$1"), (0, .class_ 174), (0, u "java/util/ImmutableCollections$Map1"), (0, .class_ 176), (0, u "java/util/ImmutableCollections$AbstractImmutableMap"), (0, .class_ 178), (0, u "java/util/ImmutableCollections$SetN$SetNIterator"), (0, .class_ 180), (0, u "java/util/ImmutableCollections$Set12"), (0, .class_ 182), (0, u "java/util/ImmutableCollections$Set12$1"), (0, .class_ 184), (0, u "java/util/ImmutableCollections$AbstractImmutableSet"), (0, .class_ 186), (0, u "java/util/ImmutableCollections$SubList"), (0, .class_ 188), (0, u "java/util/ImmutableCollections$ListItr"), (0, .class_ 190), (0, u "java/util/ImmutableCollections$AbstractImmutableList"), (0, .class_ 192), (0, u "java/util/ImmutableCollections$AbstractImmutableCollection"), (0, .class_ 194), (0, u "java/util/ImmutableCollections$Access"), (0, .class_ 196), (0, u "java/util/ImmutableCollections$Access$1")] 16

def k17m0 : Method := { name := "<init>", desc := "()V", sig := { parameters := [], returnType := none }, accessFlags := 2, code := none }
def k17c1 : Code := { maxStack := 1, maxLocals := 2, code := jdk_56_method_3_code, exceptionTable := #[], attributes := #[] }
def k17m1 : Method := { name := "listCopy", desc := "(Ljava/util/Collection;)Ljava/util/List;", sig := { parameters := [(.object "java/util/Collection")], returnType := some (.object "java/util/List") }, accessFlags := 8, code := some k17c1 }
def k17c2 : Code := { maxStack := 4, maxLocals := 3, code := jdk_56_method_4_code, exceptionTable := #[], attributes := #[] }
def k17m2 : Method := { name := "listFromArray", desc := "([Ljava/lang/Object;)Ljava/util/List;", sig := { parameters := [(.array (.object "java/lang/Object"))], returnType := some (.object "java/util/List") }, accessFlags := 136, code := some k17c2 }
/-- java/util/ImmutableCollections -/
def k17 : Class := { plain "java/util/ImmutableCollections" (some 0) with
  accessFlags := 32
  interfaces := #[]
  cf := some (fileOf pool17 47 #[.nestMembers #[120, 169, 171, 173, 175, 111, 177, 179, 181, 183, 12, 10, 185, 187, 189, 191, 193, 195]] #[{ accessFlags := 2, nameIndex := 5, descriptorIndex := 6, attributes := #[] }, { accessFlags := 8, nameIndex := 142, descriptorIndex := 143, attributes := #[] }, { accessFlags := 136, nameIndex := 151, descriptorIndex := 36, attributes := #[] }] 32 2 #[] #[{ accessFlags := 26, nameIndex := 95, descriptorIndex := 96, attributes := #[] }, { accessFlags := 26, nameIndex := 99, descriptorIndex := 17, attributes := #[] }, { accessFlags := 10, nameIndex := 106, descriptorIndex := 56, attributes := #[] }, { accessFlags := 26, nameIndex := 109, descriptorIndex := 110, attributes := #[] }, { accessFlags := 24, nameIndex := 62, descriptorIndex := 63, attributes := #[] }, { accessFlags := 24, nameIndex := 72, descriptorIndex := 63, attributes := #[] }, { accessFlags := 24, nameIndex := 118, descriptorIndex := 119, attributes := #[] }, { accessFlags := 24, nameIndex := 125, descriptorIndex := 126, attributes := #[] }, { accessFlags := 24, nameIndex := 131, descriptorIndex := 132, attributes := #[] }, { accessFlags := 4120, nameIndex := 50, descriptorIndex := 17, attributes := #[] }])
  fields := #[{ name := "SALT32L", type := .long, accessFlags := 26, slot := 0, constantValue := 0 }, { name := "REVERSE", type := .boolean, accessFlags := 26, slot := 1, constantValue := 0 }, { name := "archivedObjects", type := (.array (.object "java/lang/Object")), accessFlags := 10, slot := 2, constantValue := 0 }, { name := "EMPTY", type := (.object "java/lang/Object"), accessFlags := 26, slot := 3, constantValue := 0 }, { name := "EMPTY_LIST", type := (.object "java/util/ImmutableCollections$ListN"), accessFlags := 24, slot := 4, constantValue := 0 }, { name := "EMPTY_LIST_NULLS", type := (.object "java/util/ImmutableCollections$ListN"), accessFlags := 24, slot := 5, constantValue := 0 }, { name := "EMPTY_SET", type := (.object "java/util/ImmutableCollections$SetN"), accessFlags := 24, slot := 6, constantValue := 0 }, { name := "EMPTY_MAP", type := (.object "java/util/ImmutableCollections$MapN"), accessFlags := 24, slot := 7, constantValue := 0 }, { name := "EXPAND_FACTOR", type := .int, accessFlags := 24, slot := 8, constantValue := 0 }, { name := "$assertionsDisabled", type := .boolean, accessFlags := 4120, slot := 9, constantValue := 0 }]
  methods := #[k17m0, k17m1, k17m2]
  instanceTypes := #[]
  staticTypes := #[.long, .boolean, (.array (.object "java/lang/Object")), (.object "java/lang/Object"), (.object "java/util/ImmutableCollections$ListN"), (.object "java/util/ImmutableCollections$ListN"), (.object "java/util/ImmutableCollections$SetN"), (.object "java/util/ImmutableCollections$MapN"), .int, .boolean]
  resolved := Array.replicate 213 none
  statics := some 1 }

def pool18 : Array CpInfo := pool [(1, .methodref 2 3), (0, .class_ 4), (0, .nameAndType 5 6), (0, u "java/util/AbstractCollection"), (0, u "<init>"), (0, u "()V"), (1, .class_ 10), (1, u "java/util/ImmutableCollections"), (2, .class_ 14), (0, u "java/util/ImmutableCollections$AbstractImmutableCollection")] 41

def k18c0 : Code := { maxStack := 1, maxLocals := 1, code := jdk_47_method_1_code, exceptionTable := #[], attributes := #[] }
def k18m0 : Method := { name := "<init>", desc := "()V", sig := { parameters := [], returnType := none }, accessFlags := 0, code := some k18c0 }
/-- java/util/ImmutableCollections$AbstractImmutableCollection -/
def k18 : Class := { plain "java/util/ImmutableCollections$AbstractImmutableCollection" (some 9) with
  accessFlags := 1056
  interfaces := #[]
  cf := some (fileOf pool18 13 #[.nestHost 8] #[{ accessFlags := 0, nameIndex := 5, descriptorIndex := 6, attributes := #[] }] 1056 2 #[] #[])
  fields := #[]
  methods := #[k18m0]
  instanceTypes := #[]
  staticTypes := #[]
  resolved := Array.replicate 56 none
  statics := none }

def pool19 : Array CpInfo := pool [(1, .methodref 2 3), (0, .class_ 4), (0, .nameAndType 5 6), (0, u "java/util/ImmutableCollections$AbstractImmutableCollection"), (0, u "<init>"), (0, u "()V"), (1, .class_ 10), (1, u "java/util/ImmutableCollections"), (3, .class_ 16), (1, u "java/util/ImmutableCollections$AbstractImmutableList"), (60, .class_ 78), (0, u "java/util/List"), (45, .class_ 125), (0, u "java/util/RandomAccess")] 70

def k19c0 : Code := { maxStack := 1, maxLocals := 1, code := jdk_46_method_1_code, exceptionTable := #[], attributes := #[] }
def k19m0 : Method := { name := "<init>", desc := "()V", sig := { parameters := [], returnType := none }, accessFlags := 0, code := some k19c0 }
/-- java/util/ImmutableCollections$AbstractImmutableList -/
def k19 : Class := { plain "java/util/ImmutableCollections$AbstractImmutableList" (some 18) with
  accessFlags := 1056
  interfaces := #[11, 13]
  cf := some (fileOf pool19 14 #[.nestHost 8] #[{ accessFlags := 0, nameIndex := 5, descriptorIndex := 6, attributes := #[] }] 1056 2 #[77, 124] #[])
  fields := #[]
  methods := #[k19m0]
  instanceTypes := #[]
  staticTypes := #[]
  resolved := Array.replicate 196 none
  statics := none }

def pool20 : Array CpInfo := pool [(1, .methodref 2 3), (0, .class_ 4), (0, .nameAndType 5 6), (0, u "java/util/ImmutableCollections$AbstractImmutableList"), (0, u "<init>"), (0, u "()V"), (0, .methodref 8 9), (0, .class_ 10), (0, .nameAndType 11 12), (0, u "java/util/Objects"), (0, u "requireNonNull"), (0, u "(Ljava/lang/Object;)Ljava/lang/Object;"), (0, .fieldref 14 15), (0, .class_ 16), (0, .nameAndType 17 18), (0, u "java/util/ImmutableCollections$List12"), (0, u "e0"), (0, u "Ljava/lang/Object;"), (0, .fieldref 20 21), (0, .class_ 22), (0, .nameAndType 23 18), (0, u "java/util/ImmutableCollections"), (0, u "EMPTY"), (0, .fieldref 14 25), (0, .nameAndType 26 18), (0, u "e1"), (24, u "size"), (0, u "()I"), (17, .class_ 71), (0, u "java/io/Serializable"), (4, u "(Ljava/lang/Object;)V"), (8, u "(Ljava/lang/Object;Ljava/lang/Object;)V"), (4, u "get"), (0, u "(I)Ljava/lang/Object;")] 33

def k20c0 : Code := { maxStack := 2, maxLocals := 2, code := jdk_44_method_1_code, exceptionTable := #[], attributes := #[] }
def k20m0 : Method := { name := "<init>", desc := "(Ljava/lang/Object;)V", sig := { parameters := [(.object "java/lang/Object")], returnType := none }, accessFlags := 0, code := some k20c0 }
def k20c1 : Code := { maxStack := 2, maxLocals := 3, code := jdk_44_method_2_code, exceptionTable := #[], attributes := #[] }
def k20m1 : Method := { name := "<init>", desc := "(Ljava/lang/Object;Ljava/lang/Object;)V", sig := { parameters := [(.object "java/lang/Object"), (.object "java/lang/Object")], returnType := none }, accessFlags := 0, code := some k20c1 }
def k20c2 : Code := { maxStack := 2, maxLocals := 1, code := jdk_44_method_3_code, exceptionTable := #[], attributes := #[] }
def k20m2 : Method := { name := "size", desc := "()I", sig := { parameters := [], returnType := some .int }, accessFlags := 1, code := some k20c2 }
def k20c3 : Code := { maxStack := 2, maxLocals := 2, code := jdk_44_method_5_code, exceptionTable := #[], attributes := #[] }
def k20m3 : Method := { name := "get", desc := "(I)Ljava/lang/Object;", sig := { parameters := [.int], returnType := some (.object "java/lang/Object") }, accessFlags := 1, code := some k20c3 }
/-- java/util/ImmutableCollections$List12 -/
def k20 : Class := { plain "java/util/ImmutableCollections$List12" (some 19) with
  accessFlags := 48
  interfaces := #[5]
  cf := some (fileOf pool20 14 #[.nestHost 20] #[{ accessFlags := 0, nameIndex := 5, descriptorIndex := 76, attributes := #[] }, { accessFlags := 0, nameIndex := 5, descriptorIndex := 85, attributes := #[] }, { accessFlags := 1, nameIndex := 51, descriptorIndex := 52, attributes := #[] }, { accessFlags := 1, nameIndex := 90, descriptorIndex := 91, attributes := #[] }] 48 2 #[70] #[{ accessFlags := 18, nameIndex := 17, descriptorIndex := 18, attributes := #[] }, { accessFlags := 18, nameIndex := 26, descriptorIndex := 18, attributes := #[] }])
  fields := #[{ name := "e0", type := (.object "java/lang/Object"), accessFlags := 18, slot := 0, constantValue := 0 }, { name := "e1", type := (.object "java/lang/Object"), accessFlags := 18, slot := 1, constantValue := 0 }]
  methods := #[k20m0, k20m1, k20m2, k20m3]
  instanceTypes := #[(.object "java/lang/Object"), (.object "java/lang/Object")]
  staticTypes := #[]
  resolved := Array.replicate 125 none
  statics := none }

def pool21 : Array CpInfo := pool [(1, .methodref 2 3), (0, .class_ 4), (0, .nameAndType 5 6), (0, u "java/util/ImmutableCollections$AbstractImmutableList"), (0, u "<init>"), (0, u "()V"), (0, .fieldref 8 9), (0, .class_ 10), (0, .nameAndType 11 12), (0, u "java/util/ImmutableCollections$ListN"), (0, u "elements"), (0, u "[Ljava/lang/Object;"), (0, .fieldref 8 14), (0, .nameAndType 15 16), (0, u "allowNulls"), (0, u "Z"), (42, .class_ 60), (0, u "java/io/Serializable"), (4, u "([Ljava/lang/Object;Z)V"), (11, u "size"), (0, u "()I"), (0, u "get"), (0, u "(I)Ljava/lang/Object;"), (33, .class_ 115), (0, u "java/util/ImmutableCollections")] 3

def k21c0 : Code := { maxStack := 2, maxLocals := 3, code := jdk_45_method_1_code, exceptionTable := #[], attributes := #[] }
def k21m0 : Method := { name := "<init>", desc := "([Ljava/lang/Object;Z)V", sig := { parameters := [(.array (.object "java/lang/Object")), .boolean], returnType := none }, accessFlags := 2, code := some k21c0 }
def k21c1 : Code := { maxStack := 1, maxLocals := 1, code := jdk_45_method_3_code, exceptionTable := #[], attributes := #[] }
def k21m1 : Method := { name := "size", desc := "()I", sig := { parameters := [], returnType := some .int }, accessFlags := 1, code := some k21c1 }
def k21c2 : Code := { maxStack := 2, maxLocals := 2, code := jdk_45_method_4_code, exceptionTable := #[], attributes := #[] }
def k21m2 : Method := { name := "get", desc := "(I)Ljava/lang/Object;", sig := { parameters := [.int], returnType := some (.object "java/lang/Object") }, accessFlags := 1, code := some k21c2 }
/-- java/util/ImmutableCollections$ListN -/
def k21 : Class := { plain "java/util/ImmutableCollections$ListN" (some 19) with
  accessFlags := 48
  interfaces := #[5]
  cf := some (fileOf pool21 8 #[.nestHost 114] #[{ accessFlags := 2, nameIndex := 5, descriptorIndex := 65, attributes := #[] }, { accessFlags := 1, nameIndex := 77, descriptorIndex := 78, attributes := #[] }, { accessFlags := 1, nameIndex := 79, descriptorIndex := 80, attributes := #[] }] 48 2 #[59] #[{ accessFlags := 18, nameIndex := 11, descriptorIndex := 12, attributes := #[] }, { accessFlags := 18, nameIndex := 15, descriptorIndex := 16, attributes := #[] }])
  fields := #[{ name := "elements", type := (.array (.object "java/lang/Object")), accessFlags := 18, slot := 0, constantValue := 0 }, { name := "allowNulls", type := .boolean, accessFlags := 18, slot := 1, constantValue := 0 }]
  methods := #[k21m0, k21m1, k21m2]
  instanceTypes := #[(.array (.object "java/lang/Object")), .boolean]
  staticTypes := #[]
  resolved := Array.replicate 119 none
  statics := none }

def pool22 : Array CpInfo := pool [(2, .class_ 4), (1, u "java/lang/Object"), (0, u "<init>"), (0, u "()V"), (7, .class_ 16), (1, u "java/util/Arrays"), (57, .class_ 76), (1, u "java/util/Arrays$NaturalOrder"), (9, .methodref 2 87), (0, .nameAndType 88 89), (0, u "getClass"), (0, u "()Ljava/lang/Class;"), (20, .class_ 111), (0, u "[Ljava/lang/Object;"), (1, .class_ 115), (1, u "java/util/Arrays$LegacyMergeSort"), (1, u "Z"), (32, .methodref 151 152), (0, .class_ 153), (0, .nameAndType 154 155), (0, u "java/lang/System"), (0, u "arraycopy"), (0, u "(Ljava/lang/Object;ILjava/lang/Object;II)V"), (144, .methodref 14 301), (0, .nameAndType 302 303), (0, u "copyOf"), (0, u "([Ljava/lang/Object;ILjava/lang/Class;)[Ljava/lang/Object;"), (0, .methodref 305 306), (0, .class_ 307), (0, .nameAndType 308 309), (0, u "java/lang/Math"), (0, u "min"), (0, u "(II)I"), (65, .class_ 376), (0, u "java/util/Arrays$ArrayList"), (68, u "$assertionsDisabled"), (269, u "MIN_ARRAY_SORT_GRAN"), (0, u "I"), (2, u "INSERTIONSORT_THRESHOLD"), (140, u "([Ljava/lang/Object;I)[Ljava/lang/Object;"), (114, .class_ 976), (0, u "java/util/Arrays$ArrayItr")] 52

def k22m0 : Method := { name := "<init>", desc := "()V", sig := { parameters := [], returnType := none }, accessFlags := 2, code := none }
def k22c1 : Code := { maxStack := 3, maxLocals := 2, code := jdk_65_method_119_code, exceptionTable := #[], attributes := #[] }
def k22m1 : Method := { name := "copyOf", desc := "([Ljava/lang/Object;I)[Ljava/lang/Object;", sig := { parameters := [(.array (.object "java/lang/Object")), .int], returnType := some (.array (.object "java/lang/Object")) }, accessFlags := 9, code := some k22c1 }
def k22c2 : Code := { maxStack := 6, maxLocals := 4, code := jdk_65_method_120_code, exceptionTable := #[], attributes := #[] }
def k22m2 : Method := { name := "copyOf", desc := "([Ljava/lang/Object;ILjava/lang/Class;)[Ljava/lang/Object;", sig := { parameters := [(.array (.object "java/lang/Object")), .int, (.object "java/lang/Class")], returnType := some (.array (.object "java/lang/Object")) }, accessFlags := 9, code := some k22c2 }
/-- java/util/Arrays -/
def k22 : Class := { plain "java/util/Arrays" (some 0) with
  accessFlags := 49
  interfaces := #[]
  cf := some (fileOf pool22 14 #[.nestMembers #[975, 375, 113, 74]] #[{ accessFlags := 2, nameIndex := 5, descriptorIndex := 6, attributes := #[] }, { accessFlags := 9, nameIndex := 302, descriptorIndex := 860, attributes := #[] }, { accessFlags := 9, nameIndex := 302, descriptorIndex := 303, attributes := #[] }] 49 2 #[] #[{ accessFlags := 26, nameIndex := 715, descriptorIndex := 716, attributes := #[] }, { accessFlags := 26, nameIndex := 719, descriptorIndex := 716, attributes := #[] }, { accessFlags := 4120, nameIndex := 445, descriptorIndex := 117, attributes := #[] }])
  fields := #[{ name := "MIN_ARRAY_SORT_GRAN", type := .int, accessFlags := 26, slot := 0, constantValue := 0 }, { name := "INSERTIONSORT_THRESHOLD", type := .int, accessFlags := 26, slot := 1, constantValue := 0 }, { name := "$assertionsDisabled", type := .boolean, accessFlags := 4120, slot := 2, constantValue := 0 }]
  methods := #[k22m0, k22m1, k22m2]
  instanceTypes := #[]
  staticTypes := #[.int, .int, .boolean]
  resolved := Array.replicate 1029 none
  statics := none }

def pool23 : Array CpInfo := pool [(2, .class_ 4), (1, u "java/lang/Object"), (0, u "<init>"), (0, u "()V"), (1, .class_ 10), (1, u "java/lang/System"), (0, u "allowSecurityManager"), (0, u "I"), (16, u "cons"), (0, u "Ljava/io/Console;"), (77, .class_ 110), (1, u "java/lang/System$CallersHolder"), (43, u "initialErrStream"), (0, u "Ljava/io/PrintStream;"), (19, u "security"), (0, u "Ljava/lang/SecurityManager;"), (31, .class_ 209), (0, u "java/lang/System$1"), (7, u "props"), (0, u "Ljava/util/Properties;"), (2, u "lineSeparator"), (0, u "Ljava/lang/String;"), (96, .class_ 321), (1, u "java/lang/System$LoggerFinder"), (5, .class_ 328), (0, u "java/lang/System$Logger"), (67, u "err"), (2, u "out"), (91, u "notSupportedJnuEncoding"), (15, u "in"), (17, u "initialIn"), (0, u "Ljava/io/InputStream;"), (35, u "bootLayer"), (0, u "Ljava/lang/ModuleLayer;"), (99, .class_ 664), (0, u "java/lang/System$2"), (9, u "NEVER"), (2, u "MAYBE"), (49, u "arraycopy"), (0, u "(Ljava/lang/Object;ILjava/lang/Object;II)V"), (72, .class_ 802), (0, u "java/lang/System$Logger$Level")] 31

def k23m0 : Method := { name := "<init>", desc := "()V", sig := { parameters := [], returnType := none }, accessFlags := 2, code := none }
def k23m1 : Method := { name := "arraycopy", desc := "(Ljava/lang/Object;ILjava/lang/Object;II)V", sig := { parameters := [(.object "java/lang/Object"), .int, (.object "java/lang/Object"), .int, .int], returnType := none }, accessFlags := 265, code := none }
/-- java/lang/System -/
def k23 : Class := { plain "java/lang/System" (some 0) with
  accessFlags := 49
  interfaces := #[]
  cf := some (fileOf pool23 8 #[.nestMembers #[319, 327, 801, 108, 663, 208]] #[{ accessFlags := 2, nameIndex := 5, descriptorIndex := 6, attributes := #[] }, { accessFlags := 265, nameIndex := 727, descriptorIndex := 728, attributes := #[] }] 49 2 #[] #[{ accessFlags := 25, nameIndex := 507, descriptorIndex := 526, attributes := #[] }, { accessFlags := 25, nameIndex := 399, descriptorIndex := 155, attributes := #[] }, { accessFlags := 25, nameIndex := 396, descriptorIndex := 155, attributes := #[] }, { accessFlags := 10, nameIndex := 525, descriptorIndex := 526, attributes := #[] }, { accessFlags := 26, nameIndex := 674, descriptorIndex := 12, attributes := #[] }, { accessFlags := 26, nameIndex := 677, descriptorIndex := 12, attributes := #[] }, { accessFlags := 10, nameIndex := 11, descriptorIndex := 12, attributes := #[] }, { accessFlags := 74, nameIndex := 175, descriptorIndex := 176, attributes := #[] }, { accessFlags := 10, nameIndex := 491, descriptorIndex := 222, attributes := #[] }, { accessFlags := 74, nameIndex := 29, descriptorIndex := 30, attributes := #[] }, { accessFlags := 74, nameIndex := 154, descriptorIndex := 155, attributes := #[] }, { accessFlags := 10, nameIndex := 217, descriptorIndex := 218, attributes := #[] }, { accessFlags := 10, nameIndex := 221, descriptorIndex := 222, attributes := #[] }, { accessFlags := 8, nameIndex := 562, descriptorIndex := 563, attributes := #[] }])
  fields := #[{ name := "in", type := (.object "java/io/InputStream"), accessFlags := 25, slot := 0, constantValue := 0 }, { name := "out", type := (.object "java/io/PrintStream"), accessFlags := 25, slot := 1, constantValue := 0 }, { name := "err", type := (.object "java/io/PrintStream"), accessFlags := 25, slot := 2, constantValue := 0 }, { name := "initialIn", type := (.object "java/io/InputStream"), accessFlags := 10, slot := 3, constantValue := 0 }, { name := "NEVER", type := .int, accessFlags := 26, slot := 4, constantValue := 0 }, { name := "MAYBE", type := .int, accessFlags := 26, slot := 5, constantValue := 0 }, { name := "allowSecurityManager", type := .int, accessFlags := 10, slot := 6, constantValue := 0 }, { name := "security", type := (.object "java/lang/SecurityManager"), accessFlags := 74, slot := 7, constantValue := 0 }, { name := "notSupportedJnuEncoding", type := (.object "java/lang/String"), accessFlags := 10, slot := 8, constantValue := 0 }, { name := "cons", type := (.object "java/io/Console"), accessFlags := 74, slot := 9, constantValue := 0 }, { name := "initialErrStream", type := (.object "java/io/PrintStream"), accessFlags := 74, slot := 10, constantValue := 0 }, { name := "props", type := (.object "java/util/Properties"), accessFlags := 10, slot := 11, constantValue := 0 }, { name := "lineSeparator", type := (.object "java/lang/String"), accessFlags := 10, slot := 12, constantValue := 0 }, { name := "bootLayer", type := (.object "java/lang/ModuleLayer"), accessFlags := 8, slot := 13, constantValue := 0 }]
  methods := #[k23m0, k23m1]
  instanceTypes := #[]
  staticTypes := #[(.object "java/io/InputStream"), (.object "java/io/PrintStream"), (.object "java/io/PrintStream"), (.object "java/io/InputStream"), .int, .int, .int, (.object "java/lang/SecurityManager"), (.object "java/lang/String"), (.object "java/io/Console"), (.object "java/io/PrintStream"), (.object "java/util/Properties"), (.object "java/lang/String"), (.object "java/lang/ModuleLayer")]
  resolved := Array.replicate 834 none
  statics := none }

def pool24 : Array CpInfo := pool [(2, .class_ 4), (1, u "java/lang/Object"), (0, u "<init>"), (0, u "()V"), (35, .class_ 44), (1, u "java/util/Objects"), (0, u "requireNonNull"), (0, u "(Ljava/lang/Object;)Ljava/lang/Object;")] 137

def k24m0 : Method := { name := "<init>", desc := "()V", sig := { parameters := [], returnType := none }, accessFlags := 2, code := none }
def k24c1 : Code := { maxStack := 2, maxLocals := 1, code := jdk_31_method_10_code, exceptionTable := #[], attributes := #[] }
def k24m1 : Method := { name := "requireNonNull", desc := "(Ljava/lang/Object;)Ljava/lang/Object;", sig := { parameters := [(.object "java/lang/Object")], returnType := some (.object "java/lang/Object") }, accessFlags := 9, code := some k24c1 }
/-- java/util/Objects -/
def k24 : Class := { plain "java/util/Objects" (some 0) with
  accessFlags := 49
  interfaces := #[]
  cf := some (fileOf pool24 42 #[] #[{ accessFlags := 2, nameIndex := 5, descriptorIndex := 6, attributes := #[] }, { accessFlags := 9, nameIndex := 45, descriptorIndex := 46, attributes := #[] }] 49 2 #[] #[])
  fields := #[]
  methods := #[k24m0, k24m1]
  instanceTypes := #[]
  staticTypes := #[]
  resolved := Array.replicate 184 none
  statics := none }

def pool25 : Array CpInfo := pool [(1, u "java/lang/Class"), (0, .class_ 1), (0, u "java/lang/Object"), (0, .class_ 3)] 0

/-- java/lang/Class -/
def k25 : Class := { plain "java/lang/Class" (some 0) with
  accessFlags := 49
  interfaces := #[]
  cf := some (fileOf pool25 2 #[] #[] 49 4 #[] #[])
  fields := #[]
  methods := #[]
  instanceTypes := #[]
  staticTypes := #[]
  resolved := Array.replicate 5 none
  statics := none }

/-- the primitive byte -/
def k26 : Class := { plain "byte" none with kind := .primitive 'B', accessFlags := 0x411 }
/-- [B -/
def k27 : Class := { plain "[B" (some 0) with kind := .array 26 .byte, interfaces := #[14, 5], accessFlags := 1041 }

/-- the primitive int -/
def k28 : Class := { plain "int" none with kind := .primitive 'I', accessFlags := 0x411 }
/-- [I -/
def k29 : Class := { plain "[I" (some 0) with kind := .array 28 .int, interfaces := #[14, 5], accessFlags := 1041 }

/-- [Ljava/lang/Object; -/
def k30 : Class := { plain "[Ljava/lang/Object;" (some 0) with mirror := some 2, kind := .array 0 (.object "java/lang/Object"), interfaces := #[14, 5], accessFlags := 1041 }

def heap : Heap := #[{ cls := 15, slots := #[.long 0, .int 0, .ref 3, .ref 4], vm := .statics 15 },
  { cls := 17, slots := #[.long 0, .int 0, .null, .ref 5, .ref 6, .null, .null, .null, .int 0, .int 1], vm := .statics 17 },
  { cls := 25, slots := #[], vm := .mirror 30 },
  { cls := 30, slots := #[], vm := .none },
  { cls := 30, slots := #[], vm := .none },
  { cls := 0, slots := #[], vm := .none },
  { cls := 21, slots := #[.null, .int 0], vm := .none }]
def classes : Array Class := #[k0, k1, k2, k3, k4, k5, k6, k7, k8, k9, k10, k11, k12, k13, k14, k15, k16, k17, k18, k19, k20, k21, k22, k23, k24, k25, k26, k27, k28, k29, k30]
def interned : List (Array UInt16 × Addr) := []
def slotsUsed : Nat := 16
def theMethod : MethodId := ⟨1, 1⟩
def args0 : Array Value := #[.int 5, .int 2]
def aboutOver (below : List Frame) : State where
  vm := { classes := classes, interned := interned.toArray }
  heap := heap
  slotsUsed := slotsUsed
  threads := #[{ frames := .invoking theMethod args0 :: below }]
def below0 : List Frame := [.native { method := ⟨0, 0⟩, args := #[] }]
def about1 : State := aboutOver below0
def p0 : Program := .bare "" "" ""
def e0 : Env := launch0.env 0 0 0
theorem w_frames : about1.frames = Frame.invoking theMethod args0 :: below0 := rfl
set_option maxRecDepth 65536 in
theorem w_args : argsFit about1.vm theMethod args0 = true := by decide +kernel
set_option maxRecDepth 65536 in
theorem w_heap : heapFits about1 = true := by decide +kernel
set_option maxRecDepth 65536 in
theorem w_runnable : about1.curStatus? = some .runnable := by decide +kernel
set_option maxRecDepth 65536 in
theorem w_alone : about1.alone = true := by decide +kernel
set_option maxRecDepth 65536 in
theorem w_named : about1.methodNamed? x = some theMethod := by decide +kernel
set_option maxRecDepth 65536 in
theorem w_hears : about1.hears theMethod below0 = true := by decide +kernel
set_option maxRecDepth 65536 in
theorem w_ripe : about1.ripe theMethod args0 below0 = true := by decide +kernel
theorem w_running : about1.status = .running := rfl
set_option maxRecDepth 65536 in
theorem w_room : about1.hasRoom e0.platform room_1 = true :=
  launch0.hasRoom_least _ room_1 (by decide +kernel) (by decide +kernel) (by decide +kernel) (by decide +kernel) (by decide +kernel) (by decide +kernel)
theorem allAtoms_all (ts : List Jvm.Cond) (a : Array Jvm.Value) (st : Jvm.State) : (allAtoms ts).before a st = ts.all (fun c => c.before a st) := by
  induction ts with
  | nil => rfl
  | cons c t ih =>
    show (Jvm.Cond.and c (allAtoms t)).before a st = _
    rw [Jvm.Cond.before_and, ih, List.all_cons]
def words1 : List Jvm.Cond := Jvm.Cond.code x code maxLocals ret :: tables_1
/-- a 'code' word, met by the world's own term for the bytes: nothing is compared byte by byte -/
theorem code_word {y : MethodName} {bytes : ByteArray} {mx : Nat} {rt : Option FieldType} {a : Array Value} {s : State} {m : MethodId} {meth : Method} {c : Code} (h1 : s.methodNamed? y = some m) (h2 : s.vm.method? m = some meth) (h3 : meth.code = some c) (h4 : c.code = bytes)
    (h5 : (c.maxLocals == mx && c.exceptionTable.isEmpty && decide (c.maxStack ≤ mostOperands) && decide (meth.sig.returnType = rt) && !meth.locks && decide (parseMethodDescriptor y.desc = some meth.sig)) = true) : (Jvm.Cond.code y bytes mx rt).before a s = true := by
  simp only [Bool.and_eq_true, beq_iff_eq, Bool.not_eq_true', decide_eq_true_eq] at h5
  obtain ⟨⟨⟨⟨⟨g1, g2⟩, g3⟩, g4⟩, g5⟩, g6⟩ := h5
  simp [Cond.before, Cond.holds, Cond.value, h1, h2, h3, h4, g1, g2, g3, g4, g5, g6]
def isCode : Jvm.Cond → Bool
  | .code _ _ _ _ => true
  | _ => false
theorem all_split {L : List Jvm.Cond} {P : Jvm.Cond → Bool} (h1 : L.all (fun c => isCode c || P c) = true) (h2 : ∀ c ∈ L.filter isCode, P c = true) : L.all P = true := by
  refine List.all_eq_true.mpr fun c hc => ?_
  have h := List.all_eq_true.mp h1 c hc
  rcases Bool.eq_false_or_eq_true (isCode c) with hi | hi
  · exact h2 c (List.mem_filter.mpr ⟨hc, hi⟩)
  · simpa [hi] using h
set_option maxRecDepth 65536 in
theorem w_c0 : (Jvm.Cond.code x code maxLocals ret).before args0 about1 = true := code_word (m := ⟨1, 1⟩) (meth := k1m1) (c := k1c1) (by decide +kernel) rfl rfl rfl (by decide +kernel)
set_option maxRecDepth 65536 in
theorem w_c1 : (Jvm.Cond.code ({ cls := "java/lang/Math", name := "max", desc := "(II)I" } : Jvm.MethodName) jdk_29_method_65_code (2 : Nat) (Option.some Jvm.ClassFile.FieldType.int)).before args0 about1 = true := code_word (m := ⟨2, 1⟩) (meth := k2m1) (c := k2c1) (by decide +kernel) rfl rfl rfl (by decide +kernel)
set_option maxRecDepth 65536 in
theorem w_c2 : (Jvm.Cond.code ({ cls := "java/time/Duration", name := "ofSeconds", desc := "(J)Ljava/time/Duration;" } : Jvm.MethodName) jdk_2316_method_4_code (2 : Nat) (Option.some (Jvm.ClassFile.FieldType.object "java/time/Duration"))).before args0 about1 = true := code_word (m := ⟨6, 0⟩) (meth := k6m0) (c := k6c0) (by decide +kernel) rfl rfl rfl (by decide +kernel)
set_option maxRecDepth 65536 in
theorem w_c3 : (Jvm.Cond.code ({ cls := "java/time/Duration", name := "create", desc := "(JI)Ljava/time/Duration;" } : Jvm.MethodName) jdk_2316_method_16_code (3 : Nat) (Option.some (Jvm.ClassFile.FieldType.object "java/time/Duration"))).before args0 about1 = true := code_word (m := ⟨6, 1⟩) (meth := k6m1) (c := k6c1) (by decide +kernel) rfl rfl rfl (by decide +kernel)
set_option maxRecDepth 65536 in
theorem w_c4 : (Jvm.Cond.code ({ cls := "java/time/Duration", name := "<init>", desc := "(JI)V" } : Jvm.MethodName) jdk_2316_method_17_code (4 : Nat) (Option.none : Option Jvm.ClassFile.FieldType)).before args0 about1 = true := code_word (m := ⟨6, 2⟩) (meth := k6m2) (c := k6c2) (by decide +kernel) rfl rfl rfl (by decide +kernel)
set_option maxRecDepth 65536 in
theorem w_c5 : (Jvm.Cond.code ({ cls := "java/lang/Object", name := "<init>", desc := "()V" } : Jvm.MethodName) object_method_1_code (1 : Nat) (Option.none : Option Jvm.ClassFile.FieldType)).before args0 about1 = true := code_word (m := ⟨0, 0⟩) (meth := k0m0) (c := k0c0) (by decide +kernel) rfl rfl rfl (by decide +kernel)
set_option maxRecDepth 65536 in
theorem w_c6 : (Jvm.Cond.code ({ cls := "java/util/ArrayList", name := "<init>", desc := "()V" } : Jvm.MethodName) jdk_38_method_2_code (1 : Nat) (Option.none : Option Jvm.ClassFile.FieldType)).before args0 about1 = true := code_word (m := ⟨15, 0⟩) (meth := k15m0) (c := k15c0) (by decide +kernel) rfl rfl rfl (by decide +kernel)
set_option maxRecDepth 65536 in
theorem w_c7 : (Jvm.Cond.code ({ cls := "java/util/AbstractList", name := "<init>", desc := "()V" } : Jvm.MethodName) jdk_39_method_1_code (1 : Nat) (Option.none : Option Jvm.ClassFile.FieldType)).before args0 about1 = true := code_word (m := ⟨12, 0⟩) (meth := k12m0) (c := k12c0) (by decide +kernel) rfl rfl rfl (by decide +kernel)
set_option maxRecDepth 65536 in
theorem w_c8 : (Jvm.Cond.code ({ cls := "java/util/AbstractCollection", name := "<init>", desc := "()V" } : Jvm.MethodName) jdk_22_method_1_code (1 : Nat) (Option.none : Option Jvm.ClassFile.FieldType)).before args0 about1 = true := code_word (m := ⟨9, 0⟩) (meth := k9m0) (c := k9c0) (by decide +kernel) rfl rfl rfl (by decide +kernel)
set_option maxRecDepth 65536 in
theorem w_c9 : (Jvm.Cond.code ({ cls := "java/util/ArrayList", name := "add", desc := "(Ljava/lang/Object;)Z" } : Jvm.MethodName) jdk_38_method_25_code (2 : Nat) (Option.some Jvm.ClassFile.FieldType.boolean)).before args0 about1 = true := code_word (m := ⟨15, 6⟩) (meth := k15m6) (c := k15c6) (by decide +kernel) rfl rfl rfl (by decide +kernel)
set_option maxRecDepth 65536 in
theorem w_c10 : (Jvm.Cond.code ({ cls := "java/util/ArrayList", name := "add", desc := "(Ljava/lang/Object;[Ljava/lang/Object;I)V" } : Jvm.MethodName) jdk_38_method_24_code (4 : Nat) (Option.none : Option Jvm.ClassFile.FieldType)).before args0 about1 = true := code_word (m := ⟨15, 5⟩) (meth := k15m5) (c := k15c5) (by decide +kernel) rfl rfl rfl (by decide +kernel)
set_option maxRecDepth 65536 in
theorem w_c11 : (Jvm.Cond.code ({ cls := "java/util/ArrayList", name := "grow", desc := "()[Ljava/lang/Object;" } : Jvm.MethodName) jdk_38_method_7_code (1 : Nat) (Option.some (Jvm.ClassFile.FieldType.array (Jvm.ClassFile.FieldType.object "java/lang/Object")))).before args0 about1 = true := code_word (m := ⟨15, 2⟩) (meth := k15m2) (c := k15c2) (by decide +kernel) rfl rfl rfl (by decide +kernel)
set_option maxRecDepth 65536 in
theorem w_c12 : (Jvm.Cond.code ({ cls := "java/util/ArrayList", name := "grow", desc := "(I)[Ljava/lang/Object;" } : Jvm.MethodName) jdk_38_method_6_code (4 : Nat) (Option.some (Jvm.ClassFile.FieldType.array (Jvm.ClassFile.FieldType.object "java/lang/Object")))).before args0 about1 = true := code_word (m := ⟨15, 1⟩) (meth := k15m1) (c := k15c1) (by decide +kernel) rfl rfl rfl (by decide +kernel)
set_option maxRecDepth 65536 in
theorem w_c13 : (Jvm.Cond.code ({ cls := "com/example/topicd/topicd/broker/DelayLevels", name := "<init>", desc := "(Ljava/util/List;)V" } : Jvm.MethodName) prog_3_method_1_code (2 : Nat) (Option.none : Option Jvm.ClassFile.FieldType)).before args0 about1 = true := code_word (m := ⟨16, 0⟩) (meth := k16m0) (c := k16c0) (by decide +kernel) rfl rfl rfl (by decide +kernel)
set_option maxRecDepth 65536 in
theorem w_c14 : (Jvm.Cond.code ({ cls := "java/util/ArrayList", name := "isEmpty", desc := "()Z" } : Jvm.MethodName) jdk_38_method_9_code (1 : Nat) (Option.some Jvm.ClassFile.FieldType.boolean)).before args0 about1 = true := code_word (m := ⟨15, 3⟩) (meth := k15m3) (c := k15c3) (by decide +kernel) rfl rfl rfl (by decide +kernel)
set_option maxRecDepth 65536 in
theorem w_c15 : (Jvm.Cond.code ({ cls := "java/util/List", name := "copyOf", desc := "(Ljava/util/Collection;)Ljava/util/List;" } : Jvm.MethodName) jdk_40_method_48_code (1 : Nat) (Option.some (Jvm.ClassFile.FieldType.object "java/util/List"))).before args0 about1 = true := code_word (m := ⟨11, 4⟩) (meth := k11m4) (c := k11c4) (by decide +kernel) rfl rfl rfl (by decide +kernel)
set_option maxRecDepth 65536 in
theorem w_c16 : (Jvm.Cond.code ({ cls := "java/util/ImmutableCollections", name := "listCopy", desc := "(Ljava/util/Collection;)Ljava/util/List;" } : Jvm.MethodName) jdk_56_method_3_code (2 : Nat) (Option.some (Jvm.ClassFile.FieldType.object "java/util/List"))).before args0 about1 = true := code_word (m := ⟨17, 1⟩) (meth := k17m1) (c := k17c1) (by decide +kernel) rfl rfl rfl (by decide +kernel)
set_option maxRecDepth 65536 in
theorem w_c17 : (Jvm.Cond.code ({ cls := "java/util/ArrayList", name := "toArray", desc := "()[Ljava/lang/Object;" } : Jvm.MethodName) jdk_38_method_16_code (1 : Nat) (Option.some (Jvm.ClassFile.FieldType.array (Jvm.ClassFile.FieldType.object "java/lang/Object")))).before args0 about1 = true := code_word (m := ⟨15, 4⟩) (meth := k15m4) (c := k15c4) (by decide +kernel) rfl rfl rfl (by decide +kernel)
set_option maxRecDepth 65536 in
theorem w_c18 : (Jvm.Cond.code ({ cls := "java/util/Arrays", name := "copyOf", desc := "([Ljava/lang/Object;I)[Ljava/lang/Object;" } : Jvm.MethodName) jdk_65_method_119_code (2 : Nat) (Option.some (Jvm.ClassFile.FieldType.array (Jvm.ClassFile.FieldType.object "java/lang/Object")))).before args0 about1 = true := code_word (m := ⟨22, 1⟩) (meth := k22m1) (c := k22c1) (by decide +kernel) rfl rfl rfl (by decide +kernel)
set_option maxRecDepth 65536 in
theorem w_c19 : (Jvm.Cond.code ({ cls := "java/util/Arrays", name := "copyOf", desc := "([Ljava/lang/Object;ILjava/lang/Class;)[Ljava/lang/Object;" } : Jvm.MethodName) jdk_65_method_120_code (4 : Nat) (Option.some (Jvm.ClassFile.FieldType.array (Jvm.ClassFile.FieldType.object "java/lang/Object")))).before args0 about1 = true := code_word (m := ⟨22, 2⟩) (meth := k22m2) (c := k22c2) (by decide +kernel) rfl rfl rfl (by decide +kernel)
set_option maxRecDepth 65536 in
theorem w_c20 : (Jvm.Cond.code ({ cls := "java/lang/Math", name := "min", desc := "(II)I" } : Jvm.MethodName) jdk_29_method_69_code (2 : Nat) (Option.some Jvm.ClassFile.FieldType.int)).before args0 about1 = true := code_word (m := ⟨2, 2⟩) (meth := k2m2) (c := k2c2) (by decide +kernel) rfl rfl rfl (by decide +kernel)
set_option maxRecDepth 65536 in
theorem w_c21 : (Jvm.Cond.code ({ cls := "java/util/List", name := "of", desc := "([Ljava/lang/Object;)Ljava/util/List;" } : Jvm.MethodName) jdk_40_method_47_code (2 : Nat) (Option.some (Jvm.ClassFile.FieldType.object "java/util/List"))).before args0 about1 = true := code_word (m := ⟨11, 3⟩) (meth := k11m3) (c := k11c3) (by decide +kernel) rfl rfl rfl (by decide +kernel)
set_option maxRecDepth 65536 in
theorem w_c22 : (Jvm.Cond.code ({ cls := "java/util/ImmutableCollections$List12", name := "<init>", desc := "(Ljava/lang/Object;)V" } : Jvm.MethodName) jdk_44_method_1_code (2 : Nat) (Option.none : Option Jvm.ClassFile.FieldType)).before args0 about1 = true := code_word (m := ⟨20, 0⟩) (meth := k20m0) (c := k20c0) (by decide +kernel) rfl rfl rfl (by decide +kernel)
set_option maxRecDepth 65536 in
theorem w_c23 : (Jvm.Cond.code ({ cls := "java/util/ImmutableCollections$AbstractImmutableList", name := "<init>", desc := "()V" } : Jvm.MethodName) jdk_46_method_1_code (1 : Nat) (Option.none : Option Jvm.ClassFile.FieldType)).before args0 about1 = true := code_word (m := ⟨19, 0⟩) (meth := k19m0) (c := k19c0) (by decide +kernel) rfl rfl rfl (by decide +kernel)
set_option maxRecDepth 65536 in
theorem w_c24 : (Jvm.Cond.code ({ cls := "java/util/ImmutableCollections$AbstractImmutableCollection", name := "<init>", desc := "()V" } : Jvm.MethodName) jdk_47_method_1_code (1 : Nat) (Option.none : Option Jvm.ClassFile.FieldType)).before args0 about1 = true := code_word (m := ⟨18, 0⟩) (meth := k18m0) (c := k18c0) (by decide +kernel) rfl rfl rfl (by decide +kernel)
set_option maxRecDepth 65536 in
theorem w_c25 : (Jvm.Cond.code ({ cls := "java/util/Objects", name := "requireNonNull", desc := "(Ljava/lang/Object;)Ljava/lang/Object;" } : Jvm.MethodName) jdk_31_method_10_code (1 : Nat) (Option.some (Jvm.ClassFile.FieldType.object "java/lang/Object"))).before args0 about1 = true := code_word (m := ⟨24, 1⟩) (meth := k24m1) (c := k24c1) (by decide +kernel) rfl rfl rfl (by decide +kernel)
set_option maxRecDepth 65536 in
theorem w_c26 : (Jvm.Cond.code ({ cls := "com/example/topicd/topicd/broker/DelayLevels", name := "delay", desc := "(I)Ljava/time/Duration;" } : Jvm.MethodName) prog_3_method_4_code (2 : Nat) (Option.some (Jvm.ClassFile.FieldType.object "java/time/Duration"))).before args0 about1 = true := code_word (m := ⟨16, 1⟩) (meth := k16m1) (c := k16c1) (by decide +kernel) rfl rfl rfl (by decide +kernel)
set_option maxRecDepth 65536 in
theorem w_c27 : (Jvm.Cond.code ({ cls := "java/util/ImmutableCollections$List12", name := "size", desc := "()I" } : Jvm.MethodName) jdk_44_method_3_code (1 : Nat) (Option.some Jvm.ClassFile.FieldType.int)).before args0 about1 = true := code_word (m := ⟨20, 2⟩) (meth := k20m2) (c := k20c2) (by decide +kernel) rfl rfl rfl (by decide +kernel)
set_option maxRecDepth 65536 in
theorem w_c28 : (Jvm.Cond.code ({ cls := "java/util/ImmutableCollections$List12", name := "get", desc := "(I)Ljava/lang/Object;" } : Jvm.MethodName) jdk_44_method_5_code (2 : Nat) (Option.some (Jvm.ClassFile.FieldType.object "java/lang/Object"))).before args0 about1 = true := code_word (m := ⟨20, 3⟩) (meth := k20m3) (c := k20c3) (by decide +kernel) rfl rfl rfl (by decide +kernel)
set_option maxRecDepth 65536 in
theorem w_c29 : (Jvm.Cond.code ({ cls := "java/util/ImmutableCollections", name := "listFromArray", desc := "([Ljava/lang/Object;)Ljava/util/List;" } : Jvm.MethodName) jdk_56_method_4_code (3 : Nat) (Option.some (Jvm.ClassFile.FieldType.object "java/util/List"))).before args0 about1 = true := code_word (m := ⟨17, 2⟩) (meth := k17m2) (c := k17c2) (by decide +kernel) rfl rfl rfl (by decide +kernel)
set_option maxRecDepth 65536 in
theorem w_c30 : (Jvm.Cond.code ({ cls := "java/util/ImmutableCollections$ListN", name := "<init>", desc := "([Ljava/lang/Object;Z)V" } : Jvm.MethodName) jdk_45_method_1_code (3 : Nat) (Option.none : Option Jvm.ClassFile.FieldType)).before args0 about1 = true := code_word (m := ⟨21, 0⟩) (meth := k21m0) (c := k21c0) (by decide +kernel) rfl rfl rfl (by decide +kernel)
set_option maxRecDepth 65536 in
theorem w_c31 : (Jvm.Cond.code ({ cls := "java/util/ImmutableCollections$ListN", name := "size", desc := "()I" } : Jvm.MethodName) jdk_45_method_3_code (1 : Nat) (Option.some Jvm.ClassFile.FieldType.int)).before args0 about1 = true := code_word (m := ⟨21, 1⟩) (meth := k21m1) (c := k21c1) (by decide +kernel) rfl rfl rfl (by decide +kernel)
set_option maxRecDepth 65536 in
theorem w_c32 : (Jvm.Cond.code ({ cls := "java/util/ImmutableCollections$ListN", name := "get", desc := "(I)Ljava/lang/Object;" } : Jvm.MethodName) jdk_45_method_4_code (2 : Nat) (Option.some (Jvm.ClassFile.FieldType.object "java/lang/Object"))).before args0 about1 = true := code_word (m := ⟨21, 2⟩) (meth := k21m2) (c := k21c2) (by decide +kernel) rfl rfl rfl (by decide +kernel)
set_option maxRecDepth 65536 in
theorem w_c33 : (Jvm.Cond.code ({ cls := "java/util/ImmutableCollections$List12", name := "<init>", desc := "(Ljava/lang/Object;Ljava/lang/Object;)V" } : Jvm.MethodName) jdk_44_method_2_code (3 : Nat) (Option.none : Option Jvm.ClassFile.FieldType)).before args0 about1 = true := code_word (m := ⟨20, 1⟩) (meth := k20m1) (c := k20c1) (by decide +kernel) rfl rfl rfl (by decide +kernel)
def codes1 : List Jvm.Cond := [Jvm.Cond.code x code maxLocals ret, Jvm.Cond.code ({ cls := "java/lang/Math", name := "max", desc := "(II)I" } : Jvm.MethodName) jdk_29_method_65_code (2 : Nat) (Option.some Jvm.ClassFile.FieldType.int), Jvm.Cond.code ({ cls := "java/time/Duration", name := "ofSeconds", desc := "(J)Ljava/time/Duration;" } : Jvm.MethodName) jdk_2316_method_4_code (2 : Nat) (Option.some (Jvm.ClassFile.FieldType.object "java/time/Duration")), Jvm.Cond.code ({ cls := "java/time/Duration", name := "create", desc := "(JI)Ljava/time/Duration;" } : Jvm.MethodName) jdk_2316_method_16_code (3 : Nat) (Option.some (Jvm.ClassFile.FieldType.object "java/time/Duration")), Jvm.Cond.code ({ cls := "java/time/Duration", name := "<init>", desc := "(JI)V" } : Jvm.MethodName) jdk_2316_method_17_code (4 : Nat) (Option.none : Option Jvm.ClassFile.FieldType), Jvm.Cond.code ({ cls := "java/lang/Object", name := "<init>", desc := "()V" } : Jvm.MethodName) object_method_1_code (1 : Nat) (Option.none : Option Jvm.ClassFile.FieldType), Jvm.Cond.code ({ cls := "java/util/ArrayList", name := "<init>", desc := "()V" } : Jvm.MethodName) jdk_38_method_2_code (1 : Nat) (Option.none : Option Jvm.ClassFile.FieldType), Jvm.Cond.code ({ cls := "java/util/AbstractList", name := "<init>", desc := "()V" } : Jvm.MethodName) jdk_39_method_1_code (1 : Nat) (Option.none : Option Jvm.ClassFile.FieldType), Jvm.Cond.code ({ cls := "java/util/AbstractCollection", name := "<init>", desc := "()V" } : Jvm.MethodName) jdk_22_method_1_code (1 : Nat) (Option.none : Option Jvm.ClassFile.FieldType), Jvm.Cond.code ({ cls := "java/util/ArrayList", name := "add", desc := "(Ljava/lang/Object;)Z" } : Jvm.MethodName) jdk_38_method_25_code (2 : Nat) (Option.some Jvm.ClassFile.FieldType.boolean), Jvm.Cond.code ({ cls := "java/util/ArrayList", name := "add", desc := "(Ljava/lang/Object;[Ljava/lang/Object;I)V" } : Jvm.MethodName) jdk_38_method_24_code (4 : Nat) (Option.none : Option Jvm.ClassFile.FieldType), Jvm.Cond.code ({ cls := "java/util/ArrayList", name := "grow", desc := "()[Ljava/lang/Object;" } : Jvm.MethodName) jdk_38_method_7_code (1 : Nat) (Option.some (Jvm.ClassFile.FieldType.array (Jvm.ClassFile.FieldType.object "java/lang/Object"))), Jvm.Cond.code ({ cls := "java/util/ArrayList", name := "grow", desc := "(I)[Ljava/lang/Object;" } : Jvm.MethodName) jdk_38_method_6_code (4 : Nat) (Option.some (Jvm.ClassFile.FieldType.array (Jvm.ClassFile.FieldType.object "java/lang/Object"))), Jvm.Cond.code ({ cls := "com/example/topicd/topicd/broker/DelayLevels", name := "<init>", desc := "(Ljava/util/List;)V" } : Jvm.MethodName) prog_3_method_1_code (2 : Nat) (Option.none : Option Jvm.ClassFile.FieldType), Jvm.Cond.code ({ cls := "java/util/ArrayList", name := "isEmpty", desc := "()Z" } : Jvm.MethodName) jdk_38_method_9_code (1 : Nat) (Option.some Jvm.ClassFile.FieldType.boolean), Jvm.Cond.code ({ cls := "java/util/List", name := "copyOf", desc := "(Ljava/util/Collection;)Ljava/util/List;" } : Jvm.MethodName) jdk_40_method_48_code (1 : Nat) (Option.some (Jvm.ClassFile.FieldType.object "java/util/List")), Jvm.Cond.code ({ cls := "java/util/ImmutableCollections", name := "listCopy", desc := "(Ljava/util/Collection;)Ljava/util/List;" } : Jvm.MethodName) jdk_56_method_3_code (2 : Nat) (Option.some (Jvm.ClassFile.FieldType.object "java/util/List")), Jvm.Cond.code ({ cls := "java/util/ArrayList", name := "toArray", desc := "()[Ljava/lang/Object;" } : Jvm.MethodName) jdk_38_method_16_code (1 : Nat) (Option.some (Jvm.ClassFile.FieldType.array (Jvm.ClassFile.FieldType.object "java/lang/Object"))), Jvm.Cond.code ({ cls := "java/util/Arrays", name := "copyOf", desc := "([Ljava/lang/Object;I)[Ljava/lang/Object;" } : Jvm.MethodName) jdk_65_method_119_code (2 : Nat) (Option.some (Jvm.ClassFile.FieldType.array (Jvm.ClassFile.FieldType.object "java/lang/Object"))), Jvm.Cond.code ({ cls := "java/util/Arrays", name := "copyOf", desc := "([Ljava/lang/Object;ILjava/lang/Class;)[Ljava/lang/Object;" } : Jvm.MethodName) jdk_65_method_120_code (4 : Nat) (Option.some (Jvm.ClassFile.FieldType.array (Jvm.ClassFile.FieldType.object "java/lang/Object"))), Jvm.Cond.code ({ cls := "java/lang/Math", name := "min", desc := "(II)I" } : Jvm.MethodName) jdk_29_method_69_code (2 : Nat) (Option.some Jvm.ClassFile.FieldType.int), Jvm.Cond.code ({ cls := "java/util/List", name := "of", desc := "([Ljava/lang/Object;)Ljava/util/List;" } : Jvm.MethodName) jdk_40_method_47_code (2 : Nat) (Option.some (Jvm.ClassFile.FieldType.object "java/util/List")), Jvm.Cond.code ({ cls := "java/util/ImmutableCollections$List12", name := "<init>", desc := "(Ljava/lang/Object;)V" } : Jvm.MethodName) jdk_44_method_1_code (2 : Nat) (Option.none : Option Jvm.ClassFile.FieldType), Jvm.Cond.code ({ cls := "java/util/ImmutableCollections$AbstractImmutableList", name := "<init>", desc := "()V" } : Jvm.MethodName) jdk_46_method_1_code (1 : Nat) (Option.none : Option Jvm.ClassFile.FieldType), Jvm.Cond.code ({ cls := "java/util/ImmutableCollections$AbstractImmutableCollection", name := "<init>", desc := "()V" } : Jvm.MethodName) jdk_47_method_1_code (1 : Nat) (Option.none : Option Jvm.ClassFile.FieldType), Jvm.Cond.code ({ cls := "java/util/Objects", name := "requireNonNull", desc := "(Ljava/lang/Object;)Ljava/lang/Object;" } : Jvm.MethodName) jdk_31_method_10_code (1 : Nat) (Option.some (Jvm.ClassFile.FieldType.object "java/lang/Object")), Jvm.Cond.code ({ cls := "com/example/topicd/topicd/broker/DelayLevels", name := "delay", desc := "(I)Ljava/time/Duration;" } : Jvm.MethodName) prog_3_method_4_code (2 : Nat) (Option.some (Jvm.ClassFile.FieldType.object "java/time/Duration")), Jvm.Cond.code ({ cls := "java/util/ImmutableCollections$List12", name := "size", desc := "()I" } : Jvm.MethodName) jdk_44_method_3_code (1 : Nat) (Option.some Jvm.ClassFile.FieldType.int), Jvm.Cond.code ({ cls := "java/util/ImmutableCollections$List12", name := "get", desc := "(I)Ljava/lang/Object;" } : Jvm.MethodName) jdk_44_method_5_code (2 : Nat) (Option.some (Jvm.ClassFile.FieldType.object "java/lang/Object")), Jvm.Cond.code ({ cls := "java/util/ImmutableCollections", name := "listFromArray", desc := "([Ljava/lang/Object;)Ljava/util/List;" } : Jvm.MethodName) jdk_56_method_4_code (3 : Nat) (Option.some (Jvm.ClassFile.FieldType.object "java/util/List")), Jvm.Cond.code ({ cls := "java/util/ImmutableCollections$ListN", name := "<init>", desc := "([Ljava/lang/Object;Z)V" } : Jvm.MethodName) jdk_45_method_1_code (3 : Nat) (Option.none : Option Jvm.ClassFile.FieldType), Jvm.Cond.code ({ cls := "java/util/ImmutableCollections$ListN", name := "size", desc := "()I" } : Jvm.MethodName) jdk_45_method_3_code (1 : Nat) (Option.some Jvm.ClassFile.FieldType.int), Jvm.Cond.code ({ cls := "java/util/ImmutableCollections$ListN", name := "get", desc := "(I)Ljava/lang/Object;" } : Jvm.MethodName) jdk_45_method_4_code (2 : Nat) (Option.some (Jvm.ClassFile.FieldType.object "java/lang/Object")), Jvm.Cond.code ({ cls := "java/util/ImmutableCollections$List12", name := "<init>", desc := "(Ljava/lang/Object;Ljava/lang/Object;)V" } : Jvm.MethodName) jdk_44_method_2_code (3 : Nat) (Option.none : Option Jvm.ClassFile.FieldType)]
set_option maxRecDepth 65536 in
theorem codes_eq : words1.filter isCode = codes1 := rfl
theorem w_codes : ∀ c ∈ words1.filter isCode, c.before args0 about1 = true := by
  rw [codes_eq]
  intro c hc
  simp only [codes1, List.mem_cons, List.not_mem_nil, or_false] at hc
  rcases hc with rfl | rfl | rfl | rfl | rfl | rfl | rfl | rfl | rfl | rfl | rfl | rfl | rfl | rfl | rfl | rfl | rfl | rfl | rfl | rfl | rfl | rfl | rfl | rfl | rfl | rfl | rfl | rfl | rfl | rfl | rfl | rfl | rfl | rfl
  · exact w_c0
  · exact w_c1
  · exact w_c2
  · exact w_c3
  · exact w_c4
  · exact w_c5
  · exact w_c6
  · exact w_c7
  · exact w_c8
  · exact w_c9
  · exact w_c10
  · exact w_c11
  · exact w_c12
  · exact w_c13
  · exact w_c14
  · exact w_c15
  · exact w_c16
  · exact w_c17
  · exact w_c18
  · exact w_c19
  · exact w_c20
  · exact w_c21
  · exact w_c22
  · exact w_c23
  · exact w_c24
  · exact w_c25
  · exact w_c26
  · exact w_c27
  · exact w_c28
  · exact w_c29
  · exact w_c30
  · exact w_c31
  · exact w_c32
  · exact w_c33
set_option maxRecDepth 65536 in
theorem w_t1 : (words1.take 24).all (fun c => isCode c || c.before args0 about1) = true := by decide +kernel
set_option maxRecDepth 65536 in
theorem w_t2 : ((words1.drop 24).take 24).all (fun c => isCode c || c.before args0 about1) = true := by decide +kernel
set_option maxRecDepth 65536 in
theorem w_t3 : (((words1.drop 24).drop 24).take 24).all (fun c => isCode c || c.before args0 about1) = true := by decide +kernel
set_option maxRecDepth 65536 in
theorem w_t4 : ((((words1.drop 24).drop 24).drop 24).take 24).all (fun c => isCode c || c.before args0 about1) = true := by decide +kernel
set_option maxRecDepth 65536 in
theorem w_t5 : (((((words1.drop 24).drop 24).drop 24).drop 24).take 24).all (fun c => isCode c || c.before args0 about1) = true := by decide +kernel
set_option maxRecDepth 65536 in
theorem w_t6 : ((((((words1.drop 24).drop 24).drop 24).drop 24).drop 24).take 24).all (fun c => isCode c || c.before args0 about1) = true := by decide +kernel
set_option maxRecDepth 65536 in
theorem w_t7 : (((((((words1.drop 24).drop 24).drop 24).drop 24).drop 24).drop 24).take 24).all (fun c => isCode c || c.before args0 about1) = true := by decide +kernel
set_option maxRecDepth 65536 in
theorem w_t8 : ((((((((words1.drop 24).drop 24).drop 24).drop 24).drop 24).drop 24).drop 24).take 24).all (fun c => isCode c || c.before args0 about1) = true := by decide +kernel
set_option maxRecDepth 65536 in
theorem w_t9 : (((((((((words1.drop 24).drop 24).drop 24).drop 24).drop 24).drop 24).drop 24).drop 24).take 24).all (fun c => isCode c || c.before args0 about1) = true := by decide +kernel
set_option maxRecDepth 65536 in
theorem w_t10 : (((((((((words1.drop 24).drop 24).drop 24).drop 24).drop 24).drop 24).drop 24).drop 24).drop 24).all (fun c => isCode c || c.before args0 about1) = true := by decide +kernel
theorem w_tables : (allAtoms (Jvm.Cond.code x code maxLocals ret :: tables_1)).before args0 about1 = true := by
  rw [allAtoms_all]
  show words1.all (fun c => c.before args0 about1) = true
  refine all_split ?_ w_codes
  rw [← List.take_append_drop 24 words1, List.all_append, w_t1, ← List.take_append_drop 24 (words1.drop 24), List.all_append, w_t2, ← List.take_append_drop 24 ((words1.drop 24).drop 24), List.all_append, w_t3, ← List.take_append_drop 24 (((words1.drop 24).drop 24).drop 24), List.all_append, w_t4, ← List.take_append_drop 24 ((((words1.drop 24).drop 24).drop 24).drop 24), List.all_append, w_t5, ← List.take_append_drop 24 (((((words1.drop 24).drop 24).drop 24).drop 24).drop 24), List.all_append, w_t6, ← List.take_append_drop 24 ((((((words1.drop 24).drop 24).drop 24).drop 24).drop 24).drop 24), List.all_append, w_t7, ← List.take_append_drop 24 (((((((words1.drop 24).drop 24).drop 24).drop 24).drop 24).drop 24).drop 24), List.all_append, w_t8, ← List.take_append_drop 24 ((((((((words1.drop 24).drop 24).drop 24).drop 24).drop 24).drop 24).drop 24).drop 24), List.all_append, w_t9, w_t10]
  rfl
set_option maxRecDepth 65536 in
theorem w_rest : rest_1_c.before args0 about1 = true := by decide +kernel
set_option maxRecDepth 65536 in
theorem w_case : (Jvm.Cond.and given_1 narrow_1).before args0 about1 = true := by decide +kernel
theorem w_applies : (headSpec (Jvm.Cond.code x code maxLocals ret :: tables_1) room_1).applies x e0.platform about1 = true :=
  (Spec.applies_iff w_frames).mpr ⟨w_running, w_runnable, w_alone, w_named, w_hears, w_ripe, w_room, w_tables⟩
theorem atStart : AtStart classFile x code maxLocals ret World_1 tables_1 room_1 Calls_1 rest_1 Pre_1 launch0 p0 e0 about1 theMethod args0 below0 :=
  ⟨lists_1, trivial, launch0.admits_env _ _ _, launch0.least_env, fairChoices_fair.cas, fairChoices_fair.clock, w_frames, w_args, w_heap, w_applies, ⟨⟨30, k30, 2, by decide +kernel, rfl, rfl, _, rfl, rfl⟩, trivial⟩, w_rest, w_case⟩
end start1
theorem witness_1 : WitnessClaimed_1 := ⟨start1.p0, start1.e0, start1.about1, start1.theMethod, start1.args0, start1.below0, start1.atStart⟩
end Jvm.Pilot.@@N@@
