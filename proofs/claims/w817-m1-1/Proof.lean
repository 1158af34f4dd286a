import JvmDerived
import JvmDerived.Pilot.@@N@@Statement
import JvmDerived.Pilot.@@N@@Code
set_option linter.unusedVariables false
set_option linter.unusedSimpArgs false
namespace Jvm.RoadKit
open Sem ClassFile Op Lib Jvm.Stand Jvm.Free Jvm.LawKit
section New
variable {p : Program} {l : Launch} {e : Env} {R : Room} {s : State} {m : MethodId} {args : Array Value} {below : List Frame} {meth : Method} {c : Code} {T : State} {locs : List Loc} {cells slots : Nat}
theorem retI (X : Stand p l e R s m args below meth c T locs cells slots) (hx : p.tables.exec = Jvm.exec) {pc : Nat} {Ls : Array Slot} {z : Int32} {rest : List Value} (hret : meth.sig.returnType = some .int) (hd : decode c.code pc = .ok (.ireturn, 1)) {fs : List Frame}
    (hl : ∀ (f : JFrame) (acts : List Action), f.method = m → f.locked = none → f.entered = [] → (doReturn e (T.setTop f) acts (some (.int z))).1 = T.setFrames fs) : Steps p.tables e below (T.setTop (mkF m pc Ls (.int z :: rest))) (T.setFrames fs) := by
  have hm' : T.vm.method? m = some meth := X.method'
  have hn : narrow .int (.int z) = .int z := rfl
  show Steps p.tables e below (T.setTop { method := m, pc := pc, locals := Ls, stack := _ :: rest, locked := none }) _
  jvm_step X.here [X.here.top, hx, hd, hm', hret, hn]
  first | (intro acts; rw [hl _ acts rfl rfl rfl]) | rw [hl _ _ rfl rfl rfl]
  exact Steps.refl _
end New
end Jvm.RoadKit
namespace Jvm.Pilot.@@N@@
open Jvm Jvm.ClassFile Sem Op Lib Jvm.Free Jvm.Stand Jvm.LawKit Jvm.RoadKit Bundle Jvm.Pilot.@@N@@.Jvm.D
abbrev Sp (p : Program) (e : Env) (b : List Frame) (T : State) (f : JFrame) (t : State) : Prop := Steps p.tables e b (T.setTop f) t
theorem own_eq {h h' : Heap} {a : Addr} {c : Cell} (e : h = h') (q : h'[a]? = some c) : h[a]? = some c := e ▸ q
theorem own_fld {args : Array Value} {Z : State} {t : Term} {C n d : String} {k : Int32} {x : Addr} (ev : t.eval args Z none [] Z = some (.ref x)) (h : (Jvm.Cond.eq (.field t C n d) (.int k)).value args Z none Z [] = some true) : Fld Z Z.heap x C n d (.int k) := by
  refine Fld.start ?_
  have h1 := fld_at (C := C) (n := n) (dd := d) ev
  obtain ⟨u, w, e1, e2, -, -⟩ := cmp_v (Or.inl h)
  have e3 : w = .int k := (Option.some.inj (e2.symm.trans (Term.int_eval k)))
  subst e3
  rw [← h1, e1]
  simp only [Jvm.Cond.value, e1, e2] at h
  cases u <;> simp_all
theorem own_sta_keep0 {Z : State} {h h' : Heap} {C n d : String} {v : Value} (F : Sta Z h C n d v) (K : Keep h h' []) : Sta Z h' C n d v := by
  obtain ⟨cf, i, k, f, st, cell, h1, h2, h3, h4, h5, r⟩ := F
  exact ⟨cf, i, k, f, st, cell, h1, h2, h3, h4, K.2.1 _ _ h5 nin0, r⟩
theorem tw {Z : State} {a0 : Array Value} (hw : ∀ d ∈ tables_1, d.before a0 Z = true) {d : Jvm.Cond} (i : Nat) (h : tables_1[i]? = some d) : d.before a0 Z = true := hw _ (List.mem_of_getElem? h)
abbrev S0 : String := "java/lang/Integer"
abbrev S1 : String := "java/util/ArrayList"
abbrev S2 : String := "[Ljava/lang/Object;"
abbrev S3 : String := "java/lang/Object"
abbrev S4 : String := "com/example/lassoo/lassoo/lang/NormalFormula$Kind"
abbrev S5 : String := "java/util/AbstractList"
abbrev S6 : String := "com/example/lassoo/lassoo/lang/NormalFormula"
abbrev S7 : String := "java/util/ArrayList$Itr"
abbrev S8 : String := "com/example/lassoo/lassoo/lang/BuchiAutomaton$Transition"
abbrev Y0 : MethodName := ⟨"java/util/AbstractCollection", "<init>", "()V"⟩
abbrev Y1 : MethodName := ⟨"java/util/AbstractList", "<init>", "()V"⟩
abbrev Y2 : MethodName := ⟨"java/util/ArrayList", "<init>", "()V"⟩
abbrev Y3 : MethodName := ⟨"java/lang/Enum", "ordinal", "()I"⟩
abbrev Y4 : MethodName := ⟨"com/example/lassoo/lassoo/lang/NormalFormula", "<init>", "(Lcom/example/lassoo/lassoo/lang/NormalFormula$Kind;IZLcom/example/lassoo/lassoo/lang/NormalFormula;Lcom/example/lassoo/lassoo/lang/NormalFormula;)V"⟩
abbrev Y5 : MethodName := ⟨"com/example/lassoo/lassoo/lang/NormalFormula$Kind", "ordinal", "()I"⟩
abbrev Y6 : MethodName := ⟨"com/example/lassoo/lassoo/lang/NormalFormula", "literal", "(IZ)Lcom/example/lassoo/lassoo/lang/NormalFormula;"⟩
abbrev Y7 : MethodName := ⟨"java/lang/Math", "max", "(II)I"⟩
abbrev Y8 : MethodName := ⟨"java/util/ArrayList", "grow", "(I)[Ljava/lang/Object;"⟩
abbrev Y9 : MethodName := ⟨"java/util/ArrayList", "grow", "()[Ljava/lang/Object;"⟩
abbrev Y10 : MethodName := ⟨"java/util/ArrayList", "add", "(Ljava/lang/Object;[Ljava/lang/Object;I)V"⟩
abbrev Y11 : MethodName := ⟨"java/util/ArrayList", "add", "(Ljava/lang/Object;)Z"⟩
abbrev Y12 : MethodName := ⟨"java/util/ArrayList$Itr", "<init>", "(Ljava/util/ArrayList;)V"⟩
abbrev Y13 : MethodName := ⟨"java/util/ArrayList", "iterator", "()Ljava/util/Iterator;"⟩
abbrev Y14 : MethodName := ⟨"java/util/ArrayList$Itr", "hasNext", "()Z"⟩
abbrev Y15 : MethodName := ⟨"java/util/ArrayList$Itr", "checkForComodification", "()V"⟩
abbrev Y16 : MethodName := ⟨"java/util/ArrayList$Itr", "next", "()Ljava/lang/Object;"⟩
abbrev Y17 : MethodName := ⟨"com/example/lassoo/lassoo/lang/NormalFormula", "isNegated", "()Z"⟩
abbrev Y18 : MethodName := ⟨"com/example/lassoo/lassoo/lang/NormalFormula", "proposition", "()I"⟩
abbrev Y19 : MethodName := ⟨"java/util/ArrayList", "size", "()I"⟩
abbrev Y20 : MethodName := ⟨"java/lang/Integer", "intValue", "()I"⟩
abbrev Y21 : MethodName := ⟨"java/util/ArrayList", "elementData", "(I)Ljava/lang/Object;"⟩
abbrev Y22 : MethodName := ⟨"jdk/internal/util/Preconditions", "checkIndex", "(IILjava/util/function/BiFunction;)I"⟩
abbrev Y23 : MethodName := ⟨"java/util/Objects", "checkIndex", "(II)I"⟩
abbrev Y24 : MethodName := ⟨"java/util/ArrayList", "get", "(I)Ljava/lang/Object;"⟩
abbrev Y25 : MethodName := ⟨"java/lang/Number", "<init>", "()V"⟩
abbrev Y26 : MethodName := ⟨"java/lang/Integer", "<init>", "(I)V"⟩
abbrev Y27 : MethodName := ⟨"java/lang/Integer", "valueOf", "(I)Ljava/lang/Integer;"⟩
abbrev Y28 : MethodName := ⟨"java/util/List", "size", "()I"⟩
abbrev Y29 : MethodName := ⟨"java/util/List", "get", "(I)Ljava/lang/Object;"⟩
abbrev Y30 : MethodName := ⟨"com/example/lassoo/lassoo/lang/BuchiAutomaton$Transition", "propositions", "(Ljava/util/Collection;Z)[I"⟩
abbrev Y31 : MethodName := ⟨"java/util/Collection", "iterator", "()Ljava/util/Iterator;"⟩
abbrev Y32 : MethodName := ⟨"java/util/Iterator", "hasNext", "()Z"⟩
abbrev Y33 : MethodName := ⟨"java/util/Iterator", "next", "()Ljava/lang/Object;"⟩
abbrev Y34 : MethodName := ⟨"java/util/List", "add", "(Ljava/lang/Object;)Z"⟩
abbrev Y35 : MethodName := ⟨"com/example/lassoo/lassoo/lang/BuchiAutomaton$Transition", "<init>", "(Ljava/util/Collection;I)V"⟩
abbrev Y36 : MethodName := ⟨"com/example/lassoo/lassoo/lang/BuchiAutomaton$Transition", "literals", "(Z)[I"⟩
abbrev Y37 : MethodName := ⟨"com/example/lassoo/lassoo/lang/TransitionLiteralsPinLaw", "matches", "([IIIIIZZZZ)Z"⟩
theorem own_selp {s : State} {args : Array Value} {y y2 : MethodName} (hw : (Jvm.Cond.selects y.cls y2 y2).before args s = true) (h2 : y2.cls = y.cls) (hpriv : s.PrivateAt y) (hinst : (Jvm.Cond.instanceMethod y).before args s = true) (hy : y.cls ≠ "java/lang/invoke/MethodHandle" ∧ y.cls ≠ "java/lang/invoke/VarHandle") : (Jvm.Cond.selects y.cls y y).before args s = true := by
  obtain ⟨c, r, m, q1, q2, q3, q4, k, hk, hki⟩ := Cond.selects_spec hw
  have hc := findClass_of_methodNamed q3
  rw [h2] at hc
  exact selects_self_of_private hc hk hki hpriv hinst hy
theorem own_ins_keep {Z : State} {h h' : Heap} {a : Addr} {C : String} {ws : List Addr} (F : Ins Z h a C true) (K : Keep h h' ws) : Ins Z h' a C true := by
  obtain ⟨cell, cT, h1, h2, h3⟩ := F
  obtain ⟨c', e1, e2, e3, -⟩ := K.2.2 _ _ h1
  exact ⟨c', cT, e1, h2, by rw [e2, e3]; exact h3⟩
theorem own_fitc {Z : State} {h : Heap} {a : Addr} {c : Cell} {ty : FieldType} {vs : List Value} {d : Value} (A : Arr Z h a c ty) (H : Has c vs d) (G : ∀ i, i < c.slots.size → fits ty (vs.getD i d) = true) : FitC Z c := fun i v hv => by
  have hi := (Array.getElem?_eq_some_iff.mp hv).1
  have e : vs.getD i d = v := Option.some.inj ((H i hi).symm.trans hv)
  have g := G i hi
  rw [e] at g
  obtain ⟨hs, k, hk, comp, hkind⟩ := A.2.1
  simp [State.fitsSlot, State.slotType?, hk, hkind, g]
def own_cache (Z : State) (aC : Addr) : Prop := ∃ cl : Cell, Arr Z Z.heap aC cl (.object S0) ∧ cl.slots.size = 256 ∧ ∀ j : Int32, ¬ j < 0 → j < 256 → ∃ x : Addr, cl.slots[j.toNatClampNeg]? = some (.ref x) ∧ Exa Z Z.heap x S0 ∧ Fld Z Z.heap x S0 "value" "I" (.int (j - 128))
def own_f (g ng p : Int32) : List Value := if g = ng then [.int p] else []
def own_start (Z : State) (aD : Addr) (kD : ClassId) (aL aC : Addr) : Prop := Sta Z Z.heap S1 "DEFAULTCAPACITY_EMPTY_ELEMENTDATA" S2 (.ref aD) ∧ Arv Z Z.heap aD kD (.object S3) (0 : Int32) [] .null ∧ Sta Z Z.heap S4 "LITERAL" "Lcom/example/lassoo/lassoo/lang/NormalFormula$Kind;" (.ref aL) ∧ Exa Z Z.heap aL S4 ∧ Fld Z Z.heap aL "java/lang/Enum" "ordinal" "I" (.int (2 : Int32)) ∧ Sta Z Z.heap "java/lang/Integer$IntegerCache" "high" "I" (.int (127 : Int32)) ∧ Sta Z Z.heap "java/lang/Integer$IntegerCache" "cache" "[Ljava/lang/Integer;" (.ref aC) ∧ own_cache Z aC
theorem d3_0 : decode jdk_22_method_1_code 0 = .ok (.aload_n 0, 1) := by decide +kernel
theorem d3_1 : decode jdk_22_method_1_code 1 = .ok (.invokespecial 1, 3) := by decide +kernel
theorem d3_4 : decode jdk_22_method_1_code 4 = .ok (.return_, 1) := by decide +kernel
theorem pn_0 : plainName "java/util/AbstractCollection" = true := by first | (simp [plainName, overriddenIn]; done) | decide +kernel
theorem ef_3_R (m : MethodId) (x0 : Addr) : entryFrame m #[(.ref x0)] 1 = mkF m 0 #[.val (.ref x0)] [] := by first | (simp [entryFrame, mkF, argsToLocals, Value.category]; done) | rfl
def Q_acinit (Z : State) (a : Addr) (h0 : Heap) (n0 : Nat) (v : Option Value) (h : Heap) (L : List Loc) : Prop := v = none ∧ Fr n0 L ∧ h = h0
set_option maxRecDepth 65536 in
set_option maxHeartbeats 40000000 in
theorem rm_acinit (l : Launch) (Z : State) (a0 : Array Value) (hw : ∀ d ∈ tables_1, d.before a0 Z = true) (ws : List Jvm.Cond) (a : Addr) (h0 : Heap) (n0 : Nat) (Z0 : n0 ≤ h0.size) (O0 : Old Z n0 h0) :
    MetFree l Y0 (head1 (Jvm.Cond.code Y0 jdk_22_method_1_code 1 none :: ws) ({ frames := 1, cells := 0, slots := 0, locals := 12 } : Room)) (fun A_ U => A_ = #[(.ref a)] ∧ Z.Warmed39 U.vm ∧ U.heap = h0) (fun _ _ _ _ _ => True) (fun _ U o_ U' => ∃ v_ L_, o_ = .returned v_ ∧ Q_acinit Z a h0 n0 v_ U'.heap L_ ∧ FrameEnd U o_ U' L_ ({ frames := 1, cells := 0, slots := 0, locals := 12 } : Room).cells ({ frames := 1, cells := 0, slots := 0, locals := 12 } : Room).slots) := by
  refine MetFree.of_bodySF (plainFor_of_name pn_0) hisR ?_
  intro p e s m args below meth c s₁ Bd hml0 hP hK
  obtain ⟨rfl, hZ, hh⟩ := hP
  have hx := Bd.exec
  have hby := Bd.bytes
  have hml : c.maxLocals = 1 := hml0
  have hown : s.vm.findClass "java/util/AbstractCollection" = some m.cls := findClass_of_methodNamed Bd.named
  have hnm := (name_of_methodNamed Bd.named Bd.method).1
  have hret := Bd.returns
  have X0 : Stand p l e ({ frames := 1, cells := 0, slots := 0, locals := 12 } : Room) s m #[(.ref a)] below meth c s₁ [] 0 0 := Stand.of_body Bd
  have e0 : s₁.heap = h0 := by rw [← hh, Bd.state]; rfl
  have N0 := Fr.nil n0
  have pre0 : ∀ t_, Sp p e below s₁ (mkF m 0 #[.val (.ref a)] []) t_ → Sp p e below s₁ (entryFrame m #[(.ref a)] 1) t_ := fun t_ k_ => castTop (ef_3_R m a) k_
  obtain ⟨Ti1, Xi1, ei1, sti1⟩ := initO X0 hx hZ hown (tw hw 18 rfl) (tw hw 19 rfl) (tw hw 20 rfl) e0 (g := (mkF m 1 #[.val (.ref a)] [(.ref a)])) rfl (by rw [hml]; rfl) rfl (hb hby d3_1) (by decide) (W := 0) (by show 2 * 0 + _ ≤ _; exact Nat.le_of_eq rfl) (by decide)
  obtain ⟨fs, hlv, hrun, hended, hW, hsame⟩ := Xi1.leave (v := none) (fun _ => rfl)
  refine ⟨_, _, pre0 _ ?_, hrun, hended, _, _, rfl, ?_, ⟨_, rfl⟩, hW, hsame.mono (by decide) (by decide)⟩
  · refine XS.aloadN X0.here hx rfl (hb hby d3_0) rfl rfl ?_
    show Sp p e below s₁ (mkF m 1 #[.val (.ref a)] [(.ref a)]) _
    refine sti1 _ ?_
    show Sp p e below Ti1 (mkF m 4 #[.val (.ref a)] []) _
    exact Xi1.returnOut hx hret (hb hby d3_4) hlv
  · show Q_acinit Z a h0 n0 _ Ti1.heap _
    rw [ei1]
    exact ⟨rfl, N0, rfl⟩
theorem d2_0 : decode jdk_39_method_1_code 0 = .ok (.aload_n 0, 1) := by decide +kernel
theorem d2_1 : decode jdk_39_method_1_code 1 = .ok (.invokespecial 1, 3) := by decide +kernel
theorem d2_4 : decode jdk_39_method_1_code 4 = .ok (.aload_n 0, 1) := by decide +kernel
theorem d2_5 : decode jdk_39_method_1_code 5 = .ok (.iconst 0, 1) := by decide +kernel
theorem d2_6 : decode jdk_39_method_1_code 6 = .ok (.putfield 7, 3) := by decide +kernel
theorem d2_9 : decode jdk_39_method_1_code 9 = .ok (.return_, 1) := by decide +kernel
theorem pn_1 : plainName "java/util/AbstractList" = true := by first | (simp [plainName, overriddenIn]; done) | decide +kernel
theorem ef_2_R (m : MethodId) (x0 : Addr) : entryFrame m #[(.ref x0)] 1 = mkF m 0 #[.val (.ref x0)] [] := by first | (simp [entryFrame, mkF, argsToLocals, Value.category]; done) | rfl
theorem pd___V : parseMethodDescriptor "()V" = some ⟨[], none⟩ := by decide +kernel
def Q_ablinit (Z : State) (a : Addr) (h0 : Heap) (n0 : Nat) (v : Option Value) (h : Heap) (L : List Loc) : Prop := v = none ∧ Fr n0 L ∧ Keep h0 h [a] ∧ Fld Z h a S1 "elementData" S2 .null ∧ Fld Z h a S1 "size" "I" (.int (0 : Int32)) ∧ Fld Z h a S5 "modCount" "I" (.int (0 : Int32))
set_option maxRecDepth 65536 in
set_option maxHeartbeats 40000000 in
theorem rm_ablinit (l : Launch) (Z : State) (a0 : Array Value) (hw : ∀ d ∈ tables_1, d.before a0 Z = true) (ws : List Jvm.Cond) (a : Addr) (h0 : Heap) (n0 : Nat) (Z0 : n0 ≤ h0.size) (O0 : Old Z n0 h0) (f0 : Exa Z h0 a S1) (f1 : Fld Z h0 a S1 "elementData" S2 .null) (f2 : Fld Z h0 a S1 "size" "I" (.int (0 : Int32))) (f3 : Fld Z h0 a S5 "modCount" "I" (.int (0 : Int32))) (ga : n0 ≤ a) :
    MetFree l Y1 (head1 (Jvm.Cond.code Y1 jdk_39_method_1_code 1 none :: ws) ({ frames := 2, cells := 0, slots := 0, locals := 24 } : Room)) (fun A_ U => A_ = #[(.ref a)] ∧ Z.Warmed39 U.vm ∧ U.heap = h0) (fun _ _ _ _ _ => True) (fun _ U o_ U' => ∃ v_ L_, o_ = .returned v_ ∧ Q_ablinit Z a h0 n0 v_ U'.heap L_ ∧ FrameEnd U o_ U' L_ ({ frames := 2, cells := 0, slots := 0, locals := 24 } : Room).cells ({ frames := 2, cells := 0, slots := 0, locals := 24 } : Room).slots) := by
  refine MetFree.of_bodySF (plainFor_of_name pn_1) hisR ?_
  intro p e s m args below meth c s₁ Bd hml0 hP hK
  obtain ⟨rfl, hZ, hh⟩ := hP
  have hx := Bd.exec
  have hby := Bd.bytes
  have hml : c.maxLocals = 1 := hml0
  have hown : s.vm.findClass S5 = some m.cls := findClass_of_methodNamed Bd.named
  have hnm := (name_of_methodNamed Bd.named Bd.method).1
  have hret := Bd.returns
  have X0 : Stand p l e ({ frames := 2, cells := 0, slots := 0, locals := 24 } : Room) s m #[(.ref a)] below meth c s₁ [] 0 0 := Stand.of_body Bd
  have e0 : s₁.heap = h0 := by rw [← hh, Bd.state]; rfl
  have N0 := Fr.nil n0
  have pre0 : ∀ t_, Sp p e below s₁ (mkF m 0 #[.val (.ref a)] []) t_ → Sp p e below s₁ (entryFrame m #[(.ref a)] 1) t_ := fun t_ k_ => castTop (ef_2_R m a) k_
  obtain ⟨_, _, ⟨Tk1, Lk1, kk1, nk1⟩, -, Xk1, ⟨Lck1, hQk1, lk1, yk1, zk1⟩, stk1⟩ := X0.specialBack hx (y := Y0) rfl hown (mvT hZ (tw hw 12 rfl)) (mvT hZ (tw hw 13 rfl)) (mvT hZ (tw hw 17 rfl)) (by decide) (backOf (W := 0) (rm_acinit l Z a0 hw [] a  h0 n0 Z0 O0) hZ (tw hw 17 rfl) (tw hw 16 rfl) (by decide) (by decide)) (g := (mkF m 1 #[.val (.ref a)] [(.ref a)])) rfl (by rw [hml]; rfl) (Steps.refl _) (a := a) (argsL := []) (rest := []) (lenOf pd___V rfl) rfl (by show 2 * 0 + _ ≤ _; exact Nat.le_of_eq rfl) (hb hby d2_1) (fun _ _ => ⟨rfl, e0, (by decide : 0 + 0 ≤ _), (by decide : 0 + 0 ≤ _)⟩)
  dsimp only [Pt.U, Pt.locs, Pt.cells, Pt.slots] at Xk1 lk1 yk1 zk1 stk1 hQk1
  subst lk1 yk1 zk1
  obtain ⟨rfl, Nk1q, ek1⟩ := hQk1
  have Nk1 := Fr.app N0 Nk1q
  obtain ⟨Tp2, hp2, Xp2, ep2, Wp2, stp2⟩ := putF Xk1 hx hZ hown (host := "") (Or.inl (tw hw 21 rfl)) Via.refl ek1 f3 f0 (Or.inl (tw hw 22 rfl)) (tw hw 1 rfl) (ty := .int) (by decide) rfl rfl (g := (mkF m 6 #[.val (.ref a)] [(.int (0 : Int32)), (.ref a)])) rfl rfl (hb hby d2_6)
  have Fwp2 : Fld Z hp2 a S5 "modCount" "I" (.int (0 : Int32)) := f3.same Wp2
  have Np2 := Fr.snoc Xp2 Nk1 ga
  have K3 : Keep h0 hp2 [a] := (Keep.refl h0 [a]).wr Wp2 (Or.inl (List.mem_of_getElem? (i := 0) rfl))
  have F4 := (f1.other Wp2 (Or.inr (slot_ne (Or.inl (tw hw 25 rfl)) (Or.inl (tw hw 22 rfl)) (by decide) (t := (.array (.object S3))) (t' := .int) (by decide) (by decide))))
  have F5 := (f2.other Wp2 (Or.inr (slot_ne (Or.inl (tw hw 75 rfl)) (Or.inl (tw hw 22 rfl)) (by decide) (t := .int) (t' := .int) (by decide) (by decide))))
  obtain ⟨fs, hlv, hrun, hended, hW, hsame⟩ := Xp2.leave (v := none) (fun _ => rfl)
  refine ⟨_, _, pre0 _ ?_, hrun, hended, _, _, rfl, ?_, ⟨_, rfl⟩, hW, hsame.mono (by decide) (by decide)⟩
  · refine XS.aloadN X0.here hx rfl (hb hby d2_0) rfl rfl ?_
    show Sp p e below s₁ (mkF m 1 #[.val (.ref a)] [(.ref a)]) _
    refine stk1.trans ?_
    refine XS.aloadN Xk1.here hx rfl (hb hby d2_4) rfl rfl ?_
    refine XS.iconst Xk1.here hx rfl (hb hby d2_5) ?_
    refine stp2 _ ?_
    show Sp p e below Tp2 (mkF m 9 #[.val (.ref a)] []) _
    exact Xp2.returnOut hx hret (hb hby d2_9) hlv
  · show Q_ablinit Z a h0 n0 _ Tp2.heap _
    rw [ep2]
    exact ⟨rfl, Np2, K3, F4, F5, Fwp2⟩
theorem d1_0 : decode jdk_38_method_2_code 0 = .ok (.aload_n 0, 1) := by decide +kernel
theorem d1_1 : decode jdk_38_method_2_code 1 = .ok (.invokespecial 1, 3) := by decide +kernel
theorem d1_4 : decode jdk_38_method_2_code 4 = .ok (.aload_n 0, 1) := by decide +kernel
theorem d1_5 : decode jdk_38_method_2_code 5 = .ok (.getstatic 39, 3) := by decide +kernel
theorem d1_8 : decode jdk_38_method_2_code 8 = .ok (.putfield 9, 3) := by decide +kernel
theorem d1_11 : decode jdk_38_method_2_code 11 = .ok (.return_, 1) := by decide +kernel
theorem pn_2 : plainName "java/util/ArrayList" = true := by first | (simp [plainName, overriddenIn]; done) | decide +kernel
theorem ef_1_R (m : MethodId) (x0 : Addr) : entryFrame m #[(.ref x0)] 1 = mkF m 0 #[.val (.ref x0)] [] := by first | (simp [entryFrame, mkF, argsToLocals, Value.category]; done) | rfl
def Q_alinit (Z : State) (a : Addr) (aD : Addr) (kD : ClassId) (aL : Addr) (aC : Addr) (h0 : Heap) (n0 : Nat) (v : Option Value) (h : Heap) (L : List Loc) : Prop := v = none ∧ Fr n0 L ∧ Keep h0 h [a] ∧ Fld Z h a S1 "elementData" S2 (.ref aD) ∧ Fld Z h a S1 "size" "I" (.int (0 : Int32)) ∧ Fld Z h a S5 "modCount" "I" (.int (0 : Int32))
set_option maxRecDepth 65536 in
set_option maxHeartbeats 40000000 in
theorem rm_alinit (l : Launch) (Z : State) (a0 : Array Value) (hw : ∀ d ∈ tables_1, d.before a0 Z = true) (ws : List Jvm.Cond) (a : Addr) (aD : Addr) (kD : ClassId) (aL : Addr) (aC : Addr) (h0 : Heap) (n0 : Nat) (Z0 : n0 ≤ h0.size) (O0 : Old Z n0 h0) (f0 : Exa Z h0 a S1) (f1 : Fld Z h0 a S1 "elementData" S2 .null) (f2 : Fld Z h0 a S1 "size" "I" (.int (0 : Int32))) (f3 : Fld Z h0 a S5 "modCount" "I" (.int (0 : Int32))) (SS : own_start Z aD kD aL aC) (ga : n0 ≤ a) :
    MetFree l Y2 (head1 (Jvm.Cond.code Y2 jdk_38_method_2_code 1 none :: ws) ({ frames := 3, cells := 0, slots := 0, locals := 36 } : Room)) (fun A_ U => A_ = #[(.ref a)] ∧ Z.Warmed39 U.vm ∧ U.heap = h0) (fun _ _ _ _ _ => True) (fun _ U o_ U' => ∃ v_ L_, o_ = .returned v_ ∧ Q_alinit Z a aD kD aL aC h0 n0 v_ U'.heap L_ ∧ FrameEnd U o_ U' L_ ({ frames := 3, cells := 0, slots := 0, locals := 36 } : Room).cells ({ frames := 3, cells := 0, slots := 0, locals := 36 } : Room).slots) := by
  refine MetFree.of_bodySF (plainFor_of_name pn_2) hisR ?_
  intro p e s m args below meth c s₁ Bd hml0 hP hK
  obtain ⟨rfl, hZ, hh⟩ := hP
  have hx := Bd.exec
  have hby := Bd.bytes
  have hml : c.maxLocals = 1 := hml0
  have hown : s.vm.findClass S1 = some m.cls := findClass_of_methodNamed Bd.named
  have hnm := (name_of_methodNamed Bd.named Bd.method).1
  have hret := Bd.returns
  have X0 : Stand p l e ({ frames := 3, cells := 0, slots := 0, locals := 36 } : Room) s m #[(.ref a)] below meth c s₁ [] 0 0 := Stand.of_body Bd
  have e0 : s₁.heap = h0 := by rw [← hh, Bd.state]; rfl
  have N0 := Fr.nil n0
  have pre0 : ∀ t_, Sp p e below s₁ (mkF m 0 #[.val (.ref a)] []) t_ → Sp p e below s₁ (entryFrame m #[(.ref a)] 1) t_ := fun t_ k_ => castTop (ef_1_R m a) k_
  obtain ⟨S_DEF, V_DEF, S_LIT, E_LIT, O_LIT, S_HI, S_CA, C_CA⟩ := SS
  obtain ⟨_, _, ⟨Tk1, Lk1, kk1, nk1⟩, -, Xk1, ⟨Lck1, hQk1, lk1, yk1, zk1⟩, stk1⟩ := X0.specialBack hx (y := Y1) rfl hown (mvT hZ (tw hw 6 rfl)) (mvT hZ (tw hw 7 rfl)) (mvT hZ (tw hw 11 rfl)) (by decide) (backOf (W := 0) (rm_ablinit l Z a0 hw [] a  h0 n0 Z0 O0 f0 f1 f2 f3 ga) hZ (tw hw 11 rfl) (tw hw 10 rfl) (by decide) (by decide)) (g := (mkF m 1 #[.val (.ref a)] [(.ref a)])) rfl (by rw [hml]; rfl) (Steps.refl _) (a := a) (argsL := []) (rest := []) (lenOf pd___V rfl) rfl (by show 2 * 0 + _ ≤ _; exact Nat.le_of_eq rfl) (hb hby d1_1) (fun _ _ => ⟨rfl, e0, (by decide : 0 + 0 ≤ _), (by decide : 0 + 0 ≤ _)⟩)
  dsimp only [Pt.U, Pt.locs, Pt.cells, Pt.slots] at Xk1 lk1 yk1 zk1 stk1 hQk1
  subst lk1 yk1 zk1
  obtain ⟨rfl, Nk1q, Kk1q, Qk1_0, Qk1_1, Qk1_2⟩ := hQk1
  have K2 : Keep h0 Tk1.heap [a] := (Keep.refl h0 [a]).trans Kk1q (allS (P := fun x => x ∈ [a] ∨ h0.size ≤ x) (Or.inl (List.mem_of_getElem? (i := 0) rfl)) all0)
  have Nk1 := Fr.app N0 Nk1q
  have O3 : Old Z n0 Tk1.heap := (O0.keep Kk1q (allS ga all0))
  have F4 := S_DEF.ext O3.2
  obtain ⟨Tg5, Xg5, eg5, stg5⟩ := getS2 Xk1 hx hZ hown (host := "") (Or.inl (tw hw 23 rfl)) Via.refl rfl F4 (g := (mkF m 5 #[.val (.ref a)] [(.ref a)])) rfl (hb hby d1_5)
  have F6 := (f0.keep Kk1q)
  obtain ⟨Tp7, hp7, Xp7, ep7, Wp7, stp7⟩ := putF Xg5 hx hZ hown (host := "") (Or.inl (tw hw 24 rfl)) Via.refl eg5 Qk1_0 F6 (Or.inl (tw hw 25 rfl)) (tw hw 1 rfl) (ty := (.array (.object S3))) (by decide) rfl rfl (g := (mkF m 8 #[.val (.ref a)] [(.ref aD), (.ref a)])) rfl rfl (hb hby d1_8)
  have Fwp7 : Fld Z hp7 a S1 "elementData" S2 (.ref aD) := Qk1_0.same Wp7
  have Np7 := Fr.snoc Xp7 Nk1 ga
  have K8 : Keep h0 hp7 [a] := K2.wr Wp7 (Or.inl (List.mem_of_getElem? (i := 0) rfl))
  have F9 := (Qk1_1.other Wp7 (Or.inr (slot_ne (Or.inl (tw hw 75 rfl)) (Or.inl (tw hw 25 rfl)) (by decide) (t := .int) (t' := (.array (.object S3))) (by decide) (by decide))))
  have F10 := (Qk1_2.other Wp7 (Or.inr (slot_ne (Or.inl (tw hw 22 rfl)) (Or.inl (tw hw 25 rfl)) (by decide) (t := .int) (t' := (.array (.object S3))) (by decide) (by decide))))
  obtain ⟨fs, hlv, hrun, hended, hW, hsame⟩ := Xp7.leave (v := none) (fun _ => rfl)
  refine ⟨_, _, pre0 _ ?_, hrun, hended, _, _, rfl, ?_, ⟨_, rfl⟩, hW, hsame.mono (by decide) (by decide)⟩
  · refine XS.aloadN X0.here hx rfl (hb hby d1_0) rfl rfl ?_
    show Sp p e below s₁ (mkF m 1 #[.val (.ref a)] [(.ref a)]) _
    refine stk1.trans ?_
    refine XS.aloadN Xk1.here hx rfl (hb hby d1_4) rfl rfl ?_
    refine stg5 _ ?_
    refine stp7 _ ?_
    show Sp p e below Tp7 (mkF m 11 #[.val (.ref a)] []) _
    exact Xp7.returnOut hx hret (hb hby d1_11) hlv
  · show Q_alinit Z a aD kD aL aC h0 n0 _ Tp7.heap _
    rw [ep7]
    exact ⟨rfl, Np7, K8, Fwp7, F9, F10⟩
theorem d15_0 : decode jdk_37_method_2_code 0 = .ok (.aload_n 0, 1) := by decide +kernel
theorem d15_1 : decode jdk_37_method_2_code 1 = .ok (.getfield 7, 3) := by decide +kernel
theorem d15_4 : decode jdk_37_method_2_code 4 = .ok (.ireturn, 1) := by decide +kernel
theorem pn_3 : plainName "java/lang/Enum" = true := by first | (simp [plainName, overriddenIn]; done) | decide +kernel
theorem ef_15_R (m : MethodId) (x0 : Addr) : entryFrame m #[(.ref x0)] 1 = mkF m 0 #[.val (.ref x0)] [] := by first | (simp [entryFrame, mkF, argsToLocals, Value.category]; done) | rfl
def Q_ordinal (Z : State) (a : Addr) (vo : Int32) (h0 : Heap) (n0 : Nat) (v : Option Value) (h : Heap) (L : List Loc) : Prop := v = some (.int vo) ∧ Fr n0 L ∧ h = h0
set_option maxRecDepth 65536 in
set_option maxHeartbeats 40000000 in
theorem rm_ordinal (l : Launch) (Z : State) (a0 : Array Value) (hw : ∀ d ∈ tables_1, d.before a0 Z = true) (ws : List Jvm.Cond) (a : Addr) (vo : Int32) (h0 : Heap) (n0 : Nat) (Z0 : n0 ≤ h0.size) (O0 : Old Z n0 h0) (f0 : Fld Z h0 a "java/lang/Enum" "ordinal" "I" (.int vo)) :
    MetFree l Y3 (head1 (Jvm.Cond.code Y3 jdk_37_method_2_code 1 (some .int) :: ws) ({ frames := 0, cells := 0, slots := 0, locals := 0 } : Room)) (fun A_ U => A_ = #[(.ref a)] ∧ Z.Warmed39 U.vm ∧ U.heap = h0) (fun _ _ _ _ _ => True) (fun _ U o_ U' => ∃ v_ L_, o_ = .returned v_ ∧ Q_ordinal Z a vo h0 n0 v_ U'.heap L_ ∧ FrameEnd U o_ U' L_ ({ frames := 0, cells := 0, slots := 0, locals := 0 } : Room).cells ({ frames := 0, cells := 0, slots := 0, locals := 0 } : Room).slots) := by
  refine MetFree.of_bodySF (plainFor_of_name pn_3) hisR ?_
  intro p e s m args below meth c s₁ Bd hml0 hP hK
  obtain ⟨rfl, hZ, hh⟩ := hP
  have hx := Bd.exec
  have hby := Bd.bytes
  have hml : c.maxLocals = 1 := hml0
  have hown : s.vm.findClass "java/lang/Enum" = some m.cls := findClass_of_methodNamed Bd.named
  have hnm := (name_of_methodNamed Bd.named Bd.method).1
  have hret := Bd.returns
  have X0 : Stand p l e ({ frames := 0, cells := 0, slots := 0, locals := 0 } : Room) s m #[(.ref a)] below meth c s₁ [] 0 0 := Stand.of_body Bd
  have e0 : s₁.heap = h0 := by rw [← hh, Bd.state]; rfl
  have N0 := Fr.nil n0
  have pre0 : ∀ t_, Sp p e below s₁ (mkF m 0 #[.val (.ref a)] []) t_ → Sp p e below s₁ (entryFrame m #[(.ref a)] 1) t_ := fun t_ k_ => castTop (ef_15_R m a) k_
  obtain ⟨Tf1, Xf1, ef1, stf1⟩ := getF X0 hx hZ hown (host := "") (Or.inl (tw hw 141 rfl)) Via.refl e0 f0 (g := (mkF m 1 #[.val (.ref a)] [(.ref a)])) rfl rfl (hb hby d15_1)
  obtain ⟨fs, hlv, hrun, hended, hW, hsame⟩ := Xf1.leave (v := some (.int vo)) (fun h => by rw [hret] at h; cases h)
  refine ⟨_, _, pre0 _ ?_, hrun, hended, _, _, rfl, ?_, ⟨_, rfl⟩, hW, hsame.mono (by decide) (by decide)⟩
  · refine XS.aloadN X0.here hx rfl (hb hby d15_0) rfl rfl ?_
    show Sp p e below s₁ (mkF m 1 #[.val (.ref a)] [(.ref a)]) _
    refine stf1 _ ?_
    show Sp p e below Tf1 (mkF m 4 #[.val (.ref a)] [(.int vo)]) _
    exact retI Xf1 hx hret (hb hby d15_4) hlv
  · show Q_ordinal Z a vo h0 n0 _ Tf1.heap _
    rw [ef1]
    exact ⟨rfl, N0, rfl⟩
theorem d14_0 : decode prog_48_method_1_code 0 = .ok (.aload_n 0, 1) := by decide +kernel
theorem d14_1 : decode prog_48_method_1_code 1 = .ok (.invokespecial 1, 3) := by decide +kernel
theorem d14_4 : decode prog_48_method_1_code 4 = .ok (.aload_n 0, 1) := by decide +kernel
theorem d14_5 : decode prog_48_method_1_code 5 = .ok (.aload_n 1, 1) := by decide +kernel
theorem d14_6 : decode prog_48_method_1_code 6 = .ok (.putfield 7, 3) := by decide +kernel
theorem d14_9 : decode prog_48_method_1_code 9 = .ok (.aload_n 0, 1) := by decide +kernel
theorem d14_10 : decode prog_48_method_1_code 10 = .ok (.iload_n 2, 1) := by decide +kernel
theorem d14_11 : decode prog_48_method_1_code 11 = .ok (.putfield 13, 3) := by decide +kernel
theorem d14_14 : decode prog_48_method_1_code 14 = .ok (.aload_n 0, 1) := by decide +kernel
theorem d14_15 : decode prog_48_method_1_code 15 = .ok (.iload_n 3, 1) := by decide +kernel
theorem d14_16 : decode prog_48_method_1_code 16 = .ok (.putfield 17, 3) := by decide +kernel
theorem d14_19 : decode prog_48_method_1_code 19 = .ok (.aload_n 0, 1) := by decide +kernel
theorem d14_20 : decode prog_48_method_1_code 20 = .ok (.aload 4, 2) := by decide +kernel
theorem d14_22 : decode prog_48_method_1_code 22 = .ok (.putfield 21, 3) := by decide +kernel
theorem d14_25 : decode prog_48_method_1_code 25 = .ok (.aload_n 0, 1) := by decide +kernel
theorem d14_26 : decode prog_48_method_1_code 26 = .ok (.aload 5, 2) := by decide +kernel
theorem d14_28 : decode prog_48_method_1_code 28 = .ok (.putfield 25, 3) := by decide +kernel
theorem d14_31 : decode prog_48_method_1_code 31 = .ok (.aload_n 1, 1) := by decide +kernel
theorem d14_32 : decode prog_48_method_1_code 32 = .ok (.invokevirtual 28, 3) := by decide +kernel
theorem d14_35 : decode prog_48_method_1_code 35 = .ok (.istore 6, 2) := by decide +kernel
theorem d14_37 : decode prog_48_method_1_code 37 = .ok (.bipush 31, 2) := by decide +kernel
theorem d14_39 : decode prog_48_method_1_code 39 = .ok (.iload 6, 2) := by decide +kernel
theorem d14_41 : decode prog_48_method_1_code 41 = .ok (.imul, 1) := by decide +kernel
theorem d14_42 : decode prog_48_method_1_code 42 = .ok (.iload_n 2, 1) := by decide +kernel
theorem d14_43 : decode prog_48_method_1_code 43 = .ok (.iadd, 1) := by decide +kernel
theorem d14_44 : decode prog_48_method_1_code 44 = .ok (.istore 6, 2) := by decide +kernel
theorem d14_46 : decode prog_48_method_1_code 46 = .ok (.bipush 31, 2) := by decide +kernel
theorem d14_48 : decode prog_48_method_1_code 48 = .ok (.iload 6, 2) := by decide +kernel
theorem d14_50 : decode prog_48_method_1_code 50 = .ok (.imul, 1) := by decide +kernel
theorem d14_51 : decode prog_48_method_1_code 51 = .ok (.iload_n 3, 1) := by decide +kernel
theorem d14_52 : decode prog_48_method_1_code 52 = .ok (.ifCond .eq 7, 3) := by decide +kernel
theorem d14_55 : decode prog_48_method_1_code 55 = .ok (.iconst 1, 1) := by decide +kernel
theorem d14_56 : decode prog_48_method_1_code 56 = .ok (.goto 4, 3) := by decide +kernel
theorem d14_59 : decode prog_48_method_1_code 59 = .ok (.iconst 0, 1) := by decide +kernel
theorem d14_60 : decode prog_48_method_1_code 60 = .ok (.iadd, 1) := by decide +kernel
theorem d14_61 : decode prog_48_method_1_code 61 = .ok (.istore 6, 2) := by decide +kernel
theorem d14_63 : decode prog_48_method_1_code 63 = .ok (.bipush 31, 2) := by decide +kernel
theorem d14_65 : decode prog_48_method_1_code 65 = .ok (.iload 6, 2) := by decide +kernel
theorem d14_67 : decode prog_48_method_1_code 67 = .ok (.imul, 1) := by decide +kernel
theorem d14_68 : decode prog_48_method_1_code 68 = .ok (.aload 4, 2) := by decide +kernel
theorem d14_70 : decode prog_48_method_1_code 70 = .ok (.ifnonnull 7, 3) := by decide +kernel
theorem d14_73 : decode prog_48_method_1_code 73 = .ok (.iconst 0, 1) := by decide +kernel
theorem d14_74 : decode prog_48_method_1_code 74 = .ok (.goto 8, 3) := by decide +kernel
theorem d14_82 : decode prog_48_method_1_code 82 = .ok (.iadd, 1) := by decide +kernel
theorem d14_83 : decode prog_48_method_1_code 83 = .ok (.istore 6, 2) := by decide +kernel
theorem d14_85 : decode prog_48_method_1_code 85 = .ok (.aload_n 0, 1) := by decide +kernel
theorem d14_86 : decode prog_48_method_1_code 86 = .ok (.bipush 31, 2) := by decide +kernel
theorem d14_88 : decode prog_48_method_1_code 88 = .ok (.iload 6, 2) := by decide +kernel
theorem d14_90 : decode prog_48_method_1_code 90 = .ok (.imul, 1) := by decide +kernel
theorem d14_91 : decode prog_48_method_1_code 91 = .ok (.aload 5, 2) := by decide +kernel
theorem d14_93 : decode prog_48_method_1_code 93 = .ok (.ifnonnull 7, 3) := by decide +kernel
theorem d14_96 : decode prog_48_method_1_code 96 = .ok (.iconst 0, 1) := by decide +kernel
theorem d14_97 : decode prog_48_method_1_code 97 = .ok (.goto 8, 3) := by decide +kernel
theorem d14_105 : decode prog_48_method_1_code 105 = .ok (.iadd, 1) := by decide +kernel
theorem d14_106 : decode prog_48_method_1_code 106 = .ok (.putfield 34, 3) := by decide +kernel
theorem d14_109 : decode prog_48_method_1_code 109 = .ok (.return_, 1) := by decide +kernel
theorem pn_4 : plainName "com/example/lassoo/lassoo/lang/NormalFormula" = true := by first | (simp [plainName, overriddenIn]; done) | decide +kernel
theorem ef_14_RRIINN (m : MethodId) (x0 : Addr) (x1 : Addr) (x2 : Int32) (x3 : Int32) : entryFrame m #[(.ref x0), (.ref x1), (.int x2), (.int x3), .null, .null] 7 = mkF m 0 #[.val (.ref x0), .val (.ref x1), .val (.int x2), .val (.int x3), .val .null, .val .null, .unset] [] := by first | (simp [entryFrame, mkF, argsToLocals, Value.category]; done) | rfl
theorem pd___I : parseMethodDescriptor "()I" = some ⟨[], some .int⟩ := by decide +kernel
def Q_nfinit (Z : State) (a : Addr) (pp : Int32) (g : Int32) (aD : Addr) (kD : ClassId) (aL : Addr) (aC : Addr) (h0 : Heap) (n0 : Nat) (v : Option Value) (h : Heap) (L : List Loc) : Prop := v = none ∧ Fr n0 L ∧ Keep h0 h [a] ∧ Fld Z h a S6 "proposition" "I" (.int pp) ∧ Fld Z h a S6 "negated" "Z" (.int g)
set_option maxRecDepth 65536 in
set_option maxHeartbeats 40000000 in
theorem rm_nfinit (l : Launch) (Z : State) (a0 : Array Value) (hw : ∀ d ∈ tables_1, d.before a0 Z = true) (ws : List Jvm.Cond) (a : Addr) (pp : Int32) (g : Int32) (aD : Addr) (kD : ClassId) (aL : Addr) (aC : Addr) (h0 : Heap) (n0 : Nat) (Z0 : n0 ≤ h0.size) (O0 : Old Z n0 h0) (f0 : Exa Z h0 a S6) (f1 : Fld Z h0 a S6 "kind" "Lcom/example/lassoo/lassoo/lang/NormalFormula$Kind;" .null) (f2 : Fld Z h0 a S6 "proposition" "I" (.int (0 : Int32))) (f3 : Fld Z h0 a S6 "negated" "Z" (.int (0 : Int32))) (f4 : Fld Z h0 a S6 "left" "Lcom/example/lassoo/lassoo/lang/NormalFormula;" .null) (f5 : Fld Z h0 a S6 "right" "Lcom/example/lassoo/lassoo/lang/NormalFormula;" .null) (f6 : Fld Z h0 a S6 "hash" "I" (.int (0 : Int32))) (SS : own_start Z aD kD aL aC) (ga : n0 ≤ a) (hg : g = 0 ∨ g = 1) :
    MetFree l Y4 (head1 (Jvm.Cond.code Y4 prog_48_method_1_code 7 none :: ws) ({ frames := 1, cells := 0, slots := 0, locals := 12 } : Room)) (fun A_ U => A_ = #[(.ref a), (.ref aL), (.int pp), (.int g), .null, .null] ∧ Z.Warmed39 U.vm ∧ U.heap = h0) (fun _ _ _ _ _ => True) (fun _ U o_ U' => ∃ v_ L_, o_ = .returned v_ ∧ Q_nfinit Z a pp g aD kD aL aC h0 n0 v_ U'.heap L_ ∧ FrameEnd U o_ U' L_ ({ frames := 1, cells := 0, slots := 0, locals := 12 } : Room).cells ({ frames := 1, cells := 0, slots := 0, locals := 12 } : Room).slots) := by
  refine MetFree.of_bodySF (plainFor_of_name pn_4) hisR ?_
  intro p e s m args below meth c s₁ Bd hml0 hP hK
  obtain ⟨rfl, hZ, hh⟩ := hP
  have hx := Bd.exec
  have hby := Bd.bytes
  have hml : c.maxLocals = 7 := hml0
  have hown : s.vm.findClass S6 = some m.cls := findClass_of_methodNamed Bd.named
  have hnm := (name_of_methodNamed Bd.named Bd.method).1
  have hret := Bd.returns
  have X0 : Stand p l e ({ frames := 1, cells := 0, slots := 0, locals := 12 } : Room) s m #[(.ref a), (.ref aL), (.int pp), (.int g), .null, .null] below meth c s₁ [] 0 0 := Stand.of_body Bd
  have e0 : s₁.heap = h0 := by rw [← hh, Bd.state]; rfl
  have N0 := Fr.nil n0
  have pre0 : ∀ t_, Sp p e below s₁ (mkF m 0 #[.val (.ref a), .val (.ref aL), .val (.int pp), .val (.int g), .val .null, .val .null, .unset] []) t_ → Sp p e below s₁ (entryFrame m #[(.ref a), (.ref aL), (.int pp), (.int g), .null, .null] 7) t_ := fun t_ k_ => castTop (ef_14_RRIINN m a aL pp g) k_
  obtain ⟨S_DEF, V_DEF, S_LIT, E_LIT, O_LIT, S_HI, S_CA, C_CA⟩ := SS
  obtain ⟨Ti1, Xi1, ei1, sti1⟩ := initO X0 hx hZ hown (tw hw 123 rfl) (tw hw 19 rfl) (tw hw 20 rfl) e0 (g := (mkF m 1 #[.val (.ref a), .val (.ref aL), .val (.int pp), .val (.int g), .val .null, .val .null, .unset] [(.ref a)])) rfl (by rw [hml]; rfl) rfl (hb hby d14_1) (by decide) (W := 0) (by show 2 * 0 + _ ≤ _; exact Nat.le_of_eq rfl) (by decide)
  obtain ⟨Tp2, hp2, Xp2, ep2, Wp2, stp2⟩ := putF Xi1 hx hZ hown (host := "") (Or.inl (tw hw 124 rfl)) Via.refl ei1 f1 f0 (Or.inr ⟨(tw hw 125 rfl), rfl, hnm⟩) (tw hw 116 rfl) (ty := (.object S4)) (by decide) rfl rfl (g := (mkF m 6 #[.val (.ref a), .val (.ref aL), .val (.int pp), .val (.int g), .val .null, .val .null, .unset] [(.ref aL), (.ref a)])) rfl rfl (hb hby d14_6)
  have Fwp2 : Fld Z hp2 a S6 "kind" "Lcom/example/lassoo/lassoo/lang/NormalFormula$Kind;" (.ref aL) := f1.same Wp2
  have Np2 := Fr.snoc Xp2 N0 ga
  have K3 : Keep h0 hp2 [a] := (Keep.refl h0 [a]).wr Wp2 (Or.inl (List.mem_of_getElem? (i := 0) rfl))
  have F4 := (f2.other Wp2 (Or.inr (slot_ne (Or.inr (tw hw 127 rfl)) (Or.inr (tw hw 125 rfl)) (by decide) (t := .int) (t' := (.object S4)) (by decide) (by decide))))
  have F5 := (f0.wr Wp2)
  obtain ⟨Tp6, hp6, Xp6, ep6, Wp6, stp6⟩ := putF Xp2 hx hZ hown (host := "") (Or.inl (tw hw 126 rfl)) Via.refl ep2 F4 F5 (Or.inr ⟨(tw hw 127 rfl), rfl, hnm⟩) (tw hw 116 rfl) (ty := .int) (by decide) rfl rfl (g := (mkF m 11 #[.val (.ref a), .val (.ref aL), .val (.int pp), .val (.int g), .val .null, .val .null, .unset] [(.int pp), (.ref a)])) rfl rfl (hb hby d14_11)
  have Fwp6 : Fld Z hp6 a S6 "proposition" "I" (.int pp) := F4.same Wp6
  have Np6 := Fr.snoc Xp6 Np2 ga
  have K7 : Keep h0 hp6 [a] := K3.wr Wp6 (Or.inl (List.mem_of_getElem? (i := 0) rfl))
  have F8 := ((f3.other Wp2 (Or.inr (slot_ne (Or.inr (tw hw 129 rfl)) (Or.inr (tw hw 125 rfl)) (by decide) (t := .boolean) (t' := (.object S4)) (by decide) (by decide)))).other Wp6 (Or.inr (slot_ne (Or.inr (tw hw 129 rfl)) (Or.inr (tw hw 127 rfl)) (by decide) (t := .boolean) (t' := .int) (by decide) (by decide))))
  have F9 := (F5.wr Wp6)
  obtain ⟨Tp10, hp10, Xp10, ep10, Wp10, stp10⟩ := putFN Xp6 hx hZ hown (tw hw 128 rfl) Via.refl ep6 F8 F9 (Or.inr ⟨(tw hw 129 rfl), rfl, hnm⟩) (tw hw 116 rfl) (ty := .boolean) (v' := (.int g)) (by decide) (by rcases hg with rfl | rfl <;> rfl) (by rcases hg with rfl | rfl <;> rfl) (g := (mkF m 16 #[.val (.ref a), .val (.ref aL), .val (.int pp), .val (.int g), .val .null, .val .null, .unset] [(.int g), (.ref a)])) rfl rfl (hb hby d14_16)
  have Fwp10 : Fld Z hp10 a S6 "negated" "Z" (.int g) := F8.same Wp10
  have Np10 := Fr.snoc Xp10 Np6 ga
  have K11 : Keep h0 hp10 [a] := K7.wr Wp10 (Or.inl (List.mem_of_getElem? (i := 0) rfl))
  have F12 := (((f4.other Wp2 (Or.inr (slot_ne (Or.inr (tw hw 131 rfl)) (Or.inr (tw hw 125 rfl)) (by decide) (t := (.object S6)) (t' := (.object S4)) (by decide) (by decide)))).other Wp6 (Or.inr (slot_ne (Or.inr (tw hw 131 rfl)) (Or.inr (tw hw 127 rfl)) (by decide) (t := (.object S6)) (t' := .int) (by decide) (by decide)))).other Wp10 (Or.inr (slot_ne (Or.inr (tw hw 131 rfl)) (Or.inr (tw hw 129 rfl)) (by decide) (t := (.object S6)) (t' := .boolean) (by decide) (by decide))))
  have F13 := (F9.wr Wp10)
  obtain ⟨Tp14, hp14, Xp14, ep14, Wp14, stp14⟩ := putF Xp10 hx hZ hown (host := "") (Or.inl (tw hw 130 rfl)) Via.refl ep10 F12 F13 (Or.inr ⟨(tw hw 131 rfl), rfl, hnm⟩) (tw hw 116 rfl) (ty := (.object S6)) (by decide) rfl rfl (g := (mkF m 22 #[.val (.ref a), .val (.ref aL), .val (.int pp), .val (.int g), .val .null, .val .null, .unset] [.null, (.ref a)])) rfl rfl (hb hby d14_22)
  have Fwp14 : Fld Z hp14 a S6 "left" "Lcom/example/lassoo/lassoo/lang/NormalFormula;" .null := F12.same Wp14
  have Np14 := Fr.snoc Xp14 Np10 ga
  have K15 : Keep h0 hp14 [a] := K11.wr Wp14 (Or.inl (List.mem_of_getElem? (i := 0) rfl))
  have F16 := ((((f5.other Wp2 (Or.inr (slot_ne (Or.inr (tw hw 133 rfl)) (Or.inr (tw hw 125 rfl)) (by decide) (t := (.object S6)) (t' := (.object S4)) (by decide) (by decide)))).other Wp6 (Or.inr (slot_ne (Or.inr (tw hw 133 rfl)) (Or.inr (tw hw 127 rfl)) (by decide) (t := (.object S6)) (t' := .int) (by decide) (by decide)))).other Wp10 (Or.inr (slot_ne (Or.inr (tw hw 133 rfl)) (Or.inr (tw hw 129 rfl)) (by decide) (t := (.object S6)) (t' := .boolean) (by decide) (by decide)))).other Wp14 (Or.inr (slot_ne (Or.inr (tw hw 133 rfl)) (Or.inr (tw hw 131 rfl)) (by decide) (t := (.object S6)) (t' := (.object S6)) (by decide) (by decide))))
  have F17 := (F13.wr Wp14)
  obtain ⟨Tp18, hp18, Xp18, ep18, Wp18, stp18⟩ := putF Xp14 hx hZ hown (host := "") (Or.inl (tw hw 132 rfl)) Via.refl ep14 F16 F17 (Or.inr ⟨(tw hw 133 rfl), rfl, hnm⟩) (tw hw 116 rfl) (ty := (.object S6)) (by decide) rfl rfl (g := (mkF m 28 #[.val (.ref a), .val (.ref aL), .val (.int pp), .val (.int g), .val .null, .val .null, .unset] [.null, (.ref a)])) rfl rfl (hb hby d14_28)
  have Fwp18 : Fld Z hp18 a S6 "right" "Lcom/example/lassoo/lassoo/lang/NormalFormula;" .null := F16.same Wp18
  have Np18 := Fr.snoc Xp18 Np14 ga
  have K19 : Keep h0 hp18 [a] := K15.wr Wp18 (Or.inl (List.mem_of_getElem? (i := 0) rfl))
  have O20 : Old Z n0 hp18 := (((((O0.wr Wp2 ga).wr Wp6 ga).wr Wp10 ga).wr Wp14 ga).wr Wp18 ga)
  have F21 := O_LIT.ext O20.2
  have Z22 : n0 ≤ hp18.size := (Nat.le_trans (Nat.le_trans (Nat.le_trans (Nat.le_trans (Nat.le_trans Z0 (Keep.of_wr Wp2).1) (Keep.of_wr Wp6).1) (Keep.of_wr Wp10).1) (Keep.of_wr Wp14).1) (Keep.of_wr Wp18).1)
  have F24 := E_LIT.ext O20.2
  obtain ⟨cqk23, kqk23, qk23a, qk23b, qk23c⟩ := isOf hZ ep18 F24
  obtain ⟨_, _, ⟨Tk23, Lk23, kk23, nk23⟩, -, Xk23, ⟨Lck23, hQk23, lk23, yk23, zk23⟩, stk23⟩ := Xp18.virtualBackUp hx (x := Y5) (y := Y3) (owner := "java/lang/Enum") hown (mvT hZ (tw hw 134 rfl)) (mvT hZ (tw hw 135 rfl)) (mvT hZ (tw hw 136 rfl)) (by decide) (mvT hZ (tw hw 138 rfl)) (mvT hZ (tw hw 137 rfl)) (backOf (W := 0) (rm_ordinal l Z a0 hw [] aL (2 : Int32)  hp18 n0 Z22 O20 F21) hZ (tw hw 140 rfl) (tw hw 139 rfl) (by decide) (by decide)) qk23a qk23c (g := (mkF m 32 #[.val (.ref a), .val (.ref aL), .val (.int pp), .val (.int g), .val .null, .val .null, .unset] [(.ref aL)])) rfl (by rw [hml]; rfl) (Steps.refl _) (argsL := []) (rest := []) (lenOf pd___I rfl) rfl (by show 2 * 0 + _ ≤ _; exact Nat.le_of_eq rfl) (hb hby d14_32) (fun _ _ => ⟨rfl, ep18, (by decide : 0 + 0 ≤ _), (by decide : 0 + 0 ≤ _)⟩)
  dsimp only [Pt.U, Pt.locs, Pt.cells, Pt.slots] at Xk23 lk23 yk23 zk23 stk23 hQk23
  subst lk23 yk23 zk23
  obtain ⟨rfl, Nk23q, ek23⟩ := hQk23
  have Nk23 := Fr.app Np18 Nk23q
  have r25 : ∀ t_, Sp p e below Tk23 (mkF m 52 #[.val (.ref a), .val (.ref aL), .val (.int pp), .val (.int g), .val .null, .val .null, .val (.int ((62 : Int32) + pp))] [(.int g), (.int ((31 : Int32) * ((62 : Int32) + pp)))]) t_ → Sp p e below s₁ (entryFrame m #[(.ref a), (.ref aL), (.int pp), (.int g), .null, .null] 7) t_ := by
    intro t_ k_
    refine pre0 _ ?_
    refine XS.aloadN X0.here hx rfl (hb hby d14_0) rfl rfl ?_
    refine sti1 _ ?_
    refine XS.aloadN Xi1.here hx rfl (hb hby d14_4) rfl rfl ?_
    refine XS.aloadN Xi1.here hx rfl (hb hby d14_5) rfl rfl ?_
    refine stp2 _ ?_
    refine XS.aloadN Xp2.here hx rfl (hb hby d14_9) rfl rfl ?_
    refine XS.iloadN Xp2.here hx rfl (hb hby d14_10) rfl ?_
    refine stp6 _ ?_
    refine XS.aloadN Xp6.here hx rfl (hb hby d14_14) rfl rfl ?_
    refine XS.iloadN Xp6.here hx rfl (hb hby d14_15) rfl ?_
    refine stp10 _ ?_
    refine XS.aloadN Xp10.here hx rfl (hb hby d14_19) rfl rfl ?_
    refine XS.aload Xp10.here hx rfl (hb hby d14_20) rfl rfl ?_
    refine stp14 _ ?_
    refine XS.aloadN Xp14.here hx rfl (hb hby d14_25) rfl rfl ?_
    refine XS.aload Xp14.here hx rfl (hb hby d14_26) rfl rfl ?_
    refine stp18 _ ?_
    refine XS.aloadN Xp18.here hx rfl (hb hby d14_31) rfl rfl ?_
    refine stk23.trans ?_
    refine XS.istore Xk23.here hx rfl (hb hby d14_35) rfl (l' := #[.val (.ref a), .val (.ref aL), .val (.int pp), .val (.int g), .val .null, .val .null, .val (.int (2 : Int32))]) rfl ?_
    refine XS.bipush Xk23.here hx rfl (hb hby d14_37) ?_
    show Sp p e below Tk23 (mkF m 39 #[.val (.ref a), .val (.ref aL), .val (.int pp), .val (.int g), .val .null, .val .null, .val (.int (2 : Int32))] [(.int (31 : Int32))]) _
    refine XS.iload Xk23.here hx rfl (hb hby d14_39) rfl ?_
    refine XS.imul Xk23.here hx rfl (hb hby d14_41) rfl ?_
    refine XS.iloadN Xk23.here hx rfl (hb hby d14_42) rfl ?_
    refine XS.iadd Xk23.here hx rfl (hb hby d14_43) rfl ?_
    refine XS.istore Xk23.here hx rfl (hb hby d14_44) rfl (l' := #[.val (.ref a), .val (.ref aL), .val (.int pp), .val (.int g), .val .null, .val .null, .val (.int ((62 : Int32) + pp))]) rfl ?_
    refine XS.bipush Xk23.here hx rfl (hb hby d14_46) ?_
    refine XS.iload Xk23.here hx rfl (hb hby d14_48) rfl ?_
    refine XS.imul Xk23.here hx rfl (hb hby d14_50) rfl ?_
    refine XS.iloadN Xk23.here hx rfl (hb hby d14_51) rfl ?_
    show Sp p e below Tk23 (mkF m 52 #[.val (.ref a), .val (.ref aL), .val (.int pp), .val (.int g), .val .null, .val .null, .val (.int ((62 : Int32) + pp))] [(.int g), (.int ((31 : Int32) * ((62 : Int32) + pp)))]) _
    exact k_
  by_cases c26 : g = (0 : Int32)
  · have F27 := (((((f6.other Wp2 (Or.inr (slot_ne (Or.inr (tw hw 144 rfl)) (Or.inr (tw hw 125 rfl)) (by decide) (t := .int) (t' := (.object S4)) (by decide) (by decide)))).other Wp6 (Or.inr (slot_ne (Or.inr (tw hw 144 rfl)) (Or.inr (tw hw 127 rfl)) (by decide) (t := .int) (t' := .int) (by decide) (by decide)))).other Wp10 (Or.inr (slot_ne (Or.inr (tw hw 144 rfl)) (Or.inr (tw hw 129 rfl)) (by decide) (t := .int) (t' := .boolean) (by decide) (by decide)))).other Wp14 (Or.inr (slot_ne (Or.inr (tw hw 144 rfl)) (Or.inr (tw hw 131 rfl)) (by decide) (t := .int) (t' := (.object S6)) (by decide) (by decide)))).other Wp18 (Or.inr (slot_ne (Or.inr (tw hw 144 rfl)) (Or.inr (tw hw 133 rfl)) (by decide) (t := .int) (t' := (.object S6)) (by decide) (by decide))))
    have F28 := (F17.wr Wp18)
    obtain ⟨Tp29, hp29, Xp29, ep29, Wp29, stp29⟩ := putF Xk23 hx hZ hown (host := "") (Or.inl (tw hw 143 rfl)) Via.refl ek23 F27 F28 (Or.inr ⟨(tw hw 144 rfl), rfl, hnm⟩) (tw hw 116 rfl) (ty := .int) (by decide) rfl rfl (g := (mkF m 106 #[.val (.ref a), .val (.ref aL), .val (.int pp), .val (.int g), .val .null, .val .null, .val (.int (((31 : Int32) * (((31 : Int32) * ((62 : Int32) + pp)) + (0 : Int32))) + (0 : Int32)))] [(.int (((31 : Int32) * (((31 : Int32) * (((31 : Int32) * ((62 : Int32) + pp)) + (0 : Int32))) + (0 : Int32))) + (0 : Int32))), (.ref a)])) rfl rfl (hb hby d14_106)
    have Fwp29 : Fld Z hp29 a S6 "hash" "I" (.int (((31 : Int32) * (((31 : Int32) * (((31 : Int32) * ((62 : Int32) + pp)) + (0 : Int32))) + (0 : Int32))) + (0 : Int32))) := F27.same Wp29
    have Np29 := Fr.snoc Xp29 Nk23 ga
    have K30 : Keep h0 hp29 [a] := K19.wr Wp29 (Or.inl (List.mem_of_getElem? (i := 0) rfl))
    have F31 := ((((Fwp6.other Wp10 (Or.inr (slot_ne (Or.inr (tw hw 127 rfl)) (Or.inr (tw hw 129 rfl)) (by decide) (t := .int) (t' := .boolean) (by decide) (by decide)))).other Wp14 (Or.inr (slot_ne (Or.inr (tw hw 127 rfl)) (Or.inr (tw hw 131 rfl)) (by decide) (t := .int) (t' := (.object S6)) (by decide) (by decide)))).other Wp18 (Or.inr (slot_ne (Or.inr (tw hw 127 rfl)) (Or.inr (tw hw 133 rfl)) (by decide) (t := .int) (t' := (.object S6)) (by decide) (by decide)))).other Wp29 (Or.inr (slot_ne (Or.inr (tw hw 127 rfl)) (Or.inr (tw hw 144 rfl)) (by decide) (t := .int) (t' := .int) (by decide) (by decide))))
    have F32 := (((Fwp10.other Wp14 (Or.inr (slot_ne (Or.inr (tw hw 129 rfl)) (Or.inr (tw hw 131 rfl)) (by decide) (t := .boolean) (t' := (.object S6)) (by decide) (by decide)))).other Wp18 (Or.inr (slot_ne (Or.inr (tw hw 129 rfl)) (Or.inr (tw hw 133 rfl)) (by decide) (t := .boolean) (t' := (.object S6)) (by decide) (by decide)))).other Wp29 (Or.inr (slot_ne (Or.inr (tw hw 129 rfl)) (Or.inr (tw hw 144 rfl)) (by decide) (t := .boolean) (t' := .int) (by decide) (by decide))))
    obtain ⟨fs, hlv, hrun, hended, hW, hsame⟩ := Xp29.leave (v := none) (fun _ => rfl)
    refine ⟨_, _, r25 _ ?_, hrun, hended, _, _, rfl, ?_, ⟨_, rfl⟩, hW, hsame.mono (by decide) (by decide)⟩
    · refine XS.ifYes Xk23.here hx rfl (pc0 := 52) (pc' := 59) rfl (hb hby d14_52) rfl ((if0 _ _).trans (teq c26).1) (by decide) (by decide) ?_
      show Sp p e below Tk23 (mkF m 59 #[.val (.ref a), .val (.ref aL), .val (.int pp), .val (.int g), .val .null, .val .null, .val (.int ((62 : Int32) + pp))] [(.int ((31 : Int32) * ((62 : Int32) + pp)))]) _
      refine XS.iconst Xk23.here hx rfl (hb hby d14_59) ?_
      refine XS.iadd Xk23.here hx rfl (hb hby d14_60) rfl ?_
      refine XS.istore Xk23.here hx rfl (hb hby d14_61) rfl (l' := #[.val (.ref a), .val (.ref aL), .val (.int pp), .val (.int g), .val .null, .val .null, .val (.int (((31 : Int32) * ((62 : Int32) + pp)) + (0 : Int32)))]) rfl ?_
      refine XS.bipush Xk23.here hx rfl (hb hby d14_63) ?_
      refine XS.iload Xk23.here hx rfl (hb hby d14_65) rfl ?_
      refine XS.imul Xk23.here hx rfl (hb hby d14_67) rfl ?_
      refine XS.aload Xk23.here hx rfl (hb hby d14_68) rfl rfl ?_
      refine XS.ifnonnullNo Xk23.here hx rfl (hb hby d14_70) rfl ?_
      refine XS.iconst Xk23.here hx rfl (hb hby d14_73) ?_
      refine XS.goto Xk23.here hx rfl (pc0 := 74) (pc' := 82) rfl (hb hby d14_74) (by decide) (by decide) ?_
      refine XS.iadd Xk23.here hx rfl (hb hby d14_82) rfl ?_
      refine XS.istore Xk23.here hx rfl (hb hby d14_83) rfl (l' := #[.val (.ref a), .val (.ref aL), .val (.int pp), .val (.int g), .val .null, .val .null, .val (.int (((31 : Int32) * (((31 : Int32) * ((62 : Int32) + pp)) + (0 : Int32))) + (0 : Int32)))]) rfl ?_
      refine XS.aloadN Xk23.here hx rfl (hb hby d14_85) rfl rfl ?_
      refine XS.bipush Xk23.here hx rfl (hb hby d14_86) ?_
      refine XS.iload Xk23.here hx rfl (hb hby d14_88) rfl ?_
      refine XS.imul Xk23.here hx rfl (hb hby d14_90) rfl ?_
      refine XS.aload Xk23.here hx rfl (hb hby d14_91) rfl rfl ?_
      refine XS.ifnonnullNo Xk23.here hx rfl (hb hby d14_93) rfl ?_
      refine XS.iconst Xk23.here hx rfl (hb hby d14_96) ?_
      refine XS.goto Xk23.here hx rfl (pc0 := 97) (pc' := 105) rfl (hb hby d14_97) (by decide) (by decide) ?_
      refine XS.iadd Xk23.here hx rfl (hb hby d14_105) rfl ?_
      show Sp p e below Tk23 (mkF m 106 #[.val (.ref a), .val (.ref aL), .val (.int pp), .val (.int g), .val .null, .val .null, .val (.int (((31 : Int32) * (((31 : Int32) * ((62 : Int32) + pp)) + (0 : Int32))) + (0 : Int32)))] [(.int (((31 : Int32) * (((31 : Int32) * (((31 : Int32) * ((62 : Int32) + pp)) + (0 : Int32))) + (0 : Int32))) + (0 : Int32))), (.ref a)]) _
      refine stp29 _ ?_
      show Sp p e below Tp29 (mkF m 109 #[.val (.ref a), .val (.ref aL), .val (.int pp), .val (.int g), .val .null, .val .null, .val (.int (((31 : Int32) * (((31 : Int32) * ((62 : Int32) + pp)) + (0 : Int32))) + (0 : Int32)))] []) _
      exact Xp29.returnOut hx hret (hb hby d14_109) hlv
    · show Q_nfinit Z a pp g aD kD aL aC h0 n0 _ Tp29.heap _
      rw [ep29]
      exact ⟨rfl, Np29, K30, F31, F32⟩
  · have F33 := (((((f6.other Wp2 (Or.inr (slot_ne (Or.inr (tw hw 144 rfl)) (Or.inr (tw hw 125 rfl)) (by decide) (t := .int) (t' := (.object S4)) (by decide) (by decide)))).other Wp6 (Or.inr (slot_ne (Or.inr (tw hw 144 rfl)) (Or.inr (tw hw 127 rfl)) (by decide) (t := .int) (t' := .int) (by decide) (by decide)))).other Wp10 (Or.inr (slot_ne (Or.inr (tw hw 144 rfl)) (Or.inr (tw hw 129 rfl)) (by decide) (t := .int) (t' := .boolean) (by decide) (by decide)))).other Wp14 (Or.inr (slot_ne (Or.inr (tw hw 144 rfl)) (Or.inr (tw hw 131 rfl)) (by decide) (t := .int) (t' := (.object S6)) (by decide) (by decide)))).other Wp18 (Or.inr (slot_ne (Or.inr (tw hw 144 rfl)) (Or.inr (tw hw 133 rfl)) (by decide) (t := .int) (t' := (.object S6)) (by decide) (by decide))))
    have F34 := (F17.wr Wp18)
    obtain ⟨Tp35, hp35, Xp35, ep35, Wp35, stp35⟩ := putF Xk23 hx hZ hown (host := "") (Or.inl (tw hw 143 rfl)) Via.refl ek23 F33 F34 (Or.inr ⟨(tw hw 144 rfl), rfl, hnm⟩) (tw hw 116 rfl) (ty := .int) (by decide) rfl rfl (g := (mkF m 106 #[.val (.ref a), .val (.ref aL), .val (.int pp), .val (.int g), .val .null, .val .null, .val (.int (((31 : Int32) * (((31 : Int32) * ((62 : Int32) + pp)) + (1 : Int32))) + (0 : Int32)))] [(.int (((31 : Int32) * (((31 : Int32) * (((31 : Int32) * ((62 : Int32) + pp)) + (1 : Int32))) + (0 : Int32))) + (0 : Int32))), (.ref a)])) rfl rfl (hb hby d14_106)
    have Fwp35 : Fld Z hp35 a S6 "hash" "I" (.int (((31 : Int32) * (((31 : Int32) * (((31 : Int32) * ((62 : Int32) + pp)) + (1 : Int32))) + (0 : Int32))) + (0 : Int32))) := F33.same Wp35
    have Np35 := Fr.snoc Xp35 Nk23 ga
    have K36 : Keep h0 hp35 [a] := K19.wr Wp35 (Or.inl (List.mem_of_getElem? (i := 0) rfl))
    have F37 := ((((Fwp6.other Wp10 (Or.inr (slot_ne (Or.inr (tw hw 127 rfl)) (Or.inr (tw hw 129 rfl)) (by decide) (t := .int) (t' := .boolean) (by decide) (by decide)))).other Wp14 (Or.inr (slot_ne (Or.inr (tw hw 127 rfl)) (Or.inr (tw hw 131 rfl)) (by decide) (t := .int) (t' := (.object S6)) (by decide) (by decide)))).other Wp18 (Or.inr (slot_ne (Or.inr (tw hw 127 rfl)) (Or.inr (tw hw 133 rfl)) (by decide) (t := .int) (t' := (.object S6)) (by decide) (by decide)))).other Wp35 (Or.inr (slot_ne (Or.inr (tw hw 127 rfl)) (Or.inr (tw hw 144 rfl)) (by decide) (t := .int) (t' := .int) (by decide) (by decide))))
    have F38 := (((Fwp10.other Wp14 (Or.inr (slot_ne (Or.inr (tw hw 129 rfl)) (Or.inr (tw hw 131 rfl)) (by decide) (t := .boolean) (t' := (.object S6)) (by decide) (by decide)))).other Wp18 (Or.inr (slot_ne (Or.inr (tw hw 129 rfl)) (Or.inr (tw hw 133 rfl)) (by decide) (t := .boolean) (t' := (.object S6)) (by decide) (by decide)))).other Wp35 (Or.inr (slot_ne (Or.inr (tw hw 129 rfl)) (Or.inr (tw hw 144 rfl)) (by decide) (t := .boolean) (t' := .int) (by decide) (by decide))))
    obtain ⟨fs, hlv, hrun, hended, hW, hsame⟩ := Xp35.leave (v := none) (fun _ => rfl)
    refine ⟨_, _, r25 _ ?_, hrun, hended, _, _, rfl, ?_, ⟨_, rfl⟩, hW, hsame.mono (by decide) (by decide)⟩
    · refine XS.ifNo Xk23.here hx rfl (hb hby d14_52) rfl ((if0 _ _).trans (feq c26).1) ?_
      show Sp p e below Tk23 (mkF m 55 #[.val (.ref a), .val (.ref aL), .val (.int pp), .val (.int g), .val .null, .val .null, .val (.int ((62 : Int32) + pp))] [(.int ((31 : Int32) * ((62 : Int32) + pp)))]) _
      refine XS.iconst Xk23.here hx rfl (hb hby d14_55) ?_
      refine XS.goto Xk23.here hx rfl (pc0 := 56) (pc' := 60) rfl (hb hby d14_56) (by decide) (by decide) ?_
      refine XS.iadd Xk23.here hx rfl (hb hby d14_60) rfl ?_
      refine XS.istore Xk23.here hx rfl (hb hby d14_61) rfl (l' := #[.val (.ref a), .val (.ref aL), .val (.int pp), .val (.int g), .val .null, .val .null, .val (.int (((31 : Int32) * ((62 : Int32) + pp)) + (1 : Int32)))]) rfl ?_
      refine XS.bipush Xk23.here hx rfl (hb hby d14_63) ?_
      refine XS.iload Xk23.here hx rfl (hb hby d14_65) rfl ?_
      refine XS.imul Xk23.here hx rfl (hb hby d14_67) rfl ?_
      refine XS.aload Xk23.here hx rfl (hb hby d14_68) rfl rfl ?_
      refine XS.ifnonnullNo Xk23.here hx rfl (hb hby d14_70) rfl ?_
      refine XS.iconst Xk23.here hx rfl (hb hby d14_73) ?_
      refine XS.goto Xk23.here hx rfl (pc0 := 74) (pc' := 82) rfl (hb hby d14_74) (by decide) (by decide) ?_
      refine XS.iadd Xk23.here hx rfl (hb hby d14_82) rfl ?_
      refine XS.istore Xk23.here hx rfl (hb hby d14_83) rfl (l' := #[.val (.ref a), .val (.ref aL), .val (.int pp), .val (.int g), .val .null, .val .null, .val (.int (((31 : Int32) * (((31 : Int32) * ((62 : Int32) + pp)) + (1 : Int32))) + (0 : Int32)))]) rfl ?_
      refine XS.aloadN Xk23.here hx rfl (hb hby d14_85) rfl rfl ?_
      refine XS.bipush Xk23.here hx rfl (hb hby d14_86) ?_
      refine XS.iload Xk23.here hx rfl (hb hby d14_88) rfl ?_
      refine XS.imul Xk23.here hx rfl (hb hby d14_90) rfl ?_
      refine XS.aload Xk23.here hx rfl (hb hby d14_91) rfl rfl ?_
      refine XS.ifnonnullNo Xk23.here hx rfl (hb hby d14_93) rfl ?_
      refine XS.iconst Xk23.here hx rfl (hb hby d14_96) ?_
      refine XS.goto Xk23.here hx rfl (pc0 := 97) (pc' := 105) rfl (hb hby d14_97) (by decide) (by decide) ?_
      show Sp p e below Tk23 (mkF m 105 #[.val (.ref a), .val (.ref aL), .val (.int pp), .val (.int g), .val .null, .val .null, .val (.int (((31 : Int32) * (((31 : Int32) * ((62 : Int32) + pp)) + (1 : Int32))) + (0 : Int32)))] [(.int (0 : Int32)), (.int ((31 : Int32) * (((31 : Int32) * (((31 : Int32) * ((62 : Int32) + pp)) + (1 : Int32))) + (0 : Int32)))), (.ref a)]) _
      refine XS.iadd Xk23.here hx rfl (hb hby d14_105) rfl ?_
      refine stp35 _ ?_
      show Sp p e below Tp35 (mkF m 109 #[.val (.ref a), .val (.ref aL), .val (.int pp), .val (.int g), .val .null, .val .null, .val (.int (((31 : Int32) * (((31 : Int32) * ((62 : Int32) + pp)) + (1 : Int32))) + (0 : Int32)))] []) _
      exact Xp35.returnOut hx hret (hb hby d14_109) hlv
    · show Q_nfinit Z a pp g aD kD aL aC h0 n0 _ Tp35.heap _
      rw [ep35]
      exact ⟨rfl, Np35, K36, F37, F38⟩
theorem d13_0 : decode prog_48_method_2_code 0 = .ok (.new 8, 3) := by decide +kernel
theorem d13_3 : decode prog_48_method_2_code 3 = .ok (.dup, 1) := by decide +kernel
theorem d13_4 : decode prog_48_method_2_code 4 = .ok (.getstatic 37, 3) := by decide +kernel
theorem d13_7 : decode prog_48_method_2_code 7 = .ok (.iload_n 0, 1) := by decide +kernel
theorem d13_8 : decode prog_48_method_2_code 8 = .ok (.iload_n 1, 1) := by decide +kernel
theorem d13_9 : decode prog_48_method_2_code 9 = .ok (.aconst_null, 1) := by decide +kernel
theorem d13_10 : decode prog_48_method_2_code 10 = .ok (.aconst_null, 1) := by decide +kernel
theorem d13_11 : decode prog_48_method_2_code 11 = .ok (.invokespecial 40, 3) := by decide +kernel
theorem d13_14 : decode prog_48_method_2_code 14 = .ok (.areturn, 1) := by decide +kernel
theorem ef_13_II (m : MethodId) (x0 : Int32) (x1 : Int32) : entryFrame m #[(.int x0), (.int x1)] 2 = mkF m 0 #[.val (.int x0), .val (.int x1)] [] := by first | (simp [entryFrame, mkF, argsToLocals, Value.category]; done) | rfl
theorem pd__Lcom_example_lassoo_lassoo_lang_NormalFormula_Kind_IZLcom_example_lassoo_lassoo_lang_NormalFormula_Lcom_example_lassoo_lassoo_lang_NormalFormula__V : parseMethodDescriptor "(Lcom/example/lassoo/lassoo/lang/NormalFormula$Kind;IZLcom/example/lassoo/lassoo/lang/NormalFormula;Lcom/example/lassoo/lassoo/lang/NormalFormula;)V" = some ⟨[(.object "com/example/lassoo/lassoo/lang/NormalFormula$Kind"), .int, .boolean, (.object "com/example/lassoo/lassoo/lang/NormalFormula"), (.object "com/example/lassoo/lassoo/lang/NormalFormula")], none⟩ := by decide +kernel
def Q_literal (Z : State) (pp : Int32) (g : Int32) (aD : Addr) (kD : ClassId) (aL : Addr) (aC : Addr) (h0 : Heap) (n0 : Nat) (v : Option Value) (h : Heap) (L : List Loc) : Prop := ∃ b : Addr, v = some (.ref b) ∧ Fr n0 L ∧ Keep h0 h [] ∧ h0.size ≤ b ∧ Exa Z h b S6 ∧ Fld Z h b S6 "proposition" "I" (.int pp) ∧ Fld Z h b S6 "negated" "Z" (.int g)
set_option maxRecDepth 65536 in
set_option maxHeartbeats 40000000 in
theorem rm_literal (l : Launch) (Z : State) (a0 : Array Value) (hw : ∀ d ∈ tables_1, d.before a0 Z = true) (ws : List Jvm.Cond) (pp : Int32) (g : Int32) (aD : Addr) (kD : ClassId) (aL : Addr) (aC : Addr) (h0 : Heap) (n0 : Nat) (Z0 : n0 ≤ h0.size) (O0 : Old Z n0 h0) (SS : own_start Z aD kD aL aC) (hg : g = 0 ∨ g = 1) :
    MetFree l Y6 (head1 (Jvm.Cond.code Y6 prog_48_method_2_code 2 (some (.object S6)) :: ws) ({ frames := 2, cells := 1, slots := 6, locals := 31 } : Room)) (fun A_ U => A_ = #[(.int pp), (.int g)] ∧ Z.Warmed39 U.vm ∧ U.heap = h0) (fun _ _ _ _ _ => True) (fun _ U o_ U' => ∃ v_ L_, o_ = .returned v_ ∧ Q_literal Z pp g aD kD aL aC h0 n0 v_ U'.heap L_ ∧ FrameEnd U o_ U' L_ ({ frames := 2, cells := 1, slots := 6, locals := 31 } : Room).cells ({ frames := 2, cells := 1, slots := 6, locals := 31 } : Room).slots) := by
  refine MetFree.of_bodySF (plainFor_of_name pn_4) hisR ?_
  intro p e s m args below meth c s₁ Bd hml0 hP hK
  obtain ⟨rfl, hZ, hh⟩ := hP
  have hx := Bd.exec
  have hby := Bd.bytes
  have hml : c.maxLocals = 2 := hml0
  have hown : s.vm.findClass S6 = some m.cls := findClass_of_methodNamed Bd.named
  have hnm := (name_of_methodNamed Bd.named Bd.method).1
  have hret := Bd.returns
  have X0 : Stand p l e ({ frames := 2, cells := 1, slots := 6, locals := 31 } : Room) s m #[(.int pp), (.int g)] below meth c s₁ [] 0 0 := Stand.of_body Bd
  have e0 : s₁.heap = h0 := by rw [← hh, Bd.state]; rfl
  have N0 := Fr.nil n0
  have pre0 : ∀ t_, Sp p e below s₁ (mkF m 0 #[.val (.int pp), .val (.int g)] []) t_ → Sp p e below s₁ (entryFrame m #[(.int pp), (.int g)] 2) t_ := fun t_ k_ => castTop (ef_13_II m pp g) k_
  obtain ⟨S_DEF, V_DEF, S_LIT, E_LIT, O_LIT, S_HI, S_CA, C_CA⟩ := SS
  obtain ⟨To1, ho1, Xo1, eo1, Eo1, Ao1, Do1, -, sto1⟩ := newO X0 hx hZ hown (tw hw 115 rfl) (tw hw 116 rfl) (tw hw 113 rfl) e0 (g := (mkF m 0 #[.val (.int pp), .val (.int g)] [])) rfl (hb hby d13_0) (by decide) (by decide)
  obtain ⟨bo1, go1⟩ : ∃ z, z = h0.size := ⟨_, rfl⟩
  rw [← go1] at Ao1 Do1 sto1
  have g_bo1 : n0 ≤ bo1 := Nat.le_trans Z0 (Nat.le_of_eq go1.symm)
  have y_bo1 : h0.size ≤ bo1 := Nat.le_trans (Nat.le_refl h0.size) (Nat.le_of_eq go1.symm)
  have K2 : Keep h0 ho1 [] := (Keep.refl h0 []).ext Eo1
  have Fo1_kind : Fld Z ho1 bo1 S6 "kind" "Lcom/example/lassoo/lassoo/lang/NormalFormula$Kind;" .null := Do1 (Or.inr (tw hw 125 rfl)) (ty := (.object S4)) (by decide)
  have Fo1_proposition : Fld Z ho1 bo1 S6 "proposition" "I" (.int (0 : Int32)) := Do1 (Or.inr (tw hw 127 rfl)) (ty := .int) (by decide)
  have Fo1_negated : Fld Z ho1 bo1 S6 "negated" "Z" (.int (0 : Int32)) := Do1 (Or.inr (tw hw 129 rfl)) (ty := .boolean) (by decide)
  have Fo1_left : Fld Z ho1 bo1 S6 "left" "Lcom/example/lassoo/lassoo/lang/NormalFormula;" .null := Do1 (Or.inr (tw hw 131 rfl)) (ty := (.object S6)) (by decide)
  have Fo1_right : Fld Z ho1 bo1 S6 "right" "Lcom/example/lassoo/lassoo/lang/NormalFormula;" .null := Do1 (Or.inr (tw hw 133 rfl)) (ty := (.object S6)) (by decide)
  have Fo1_hash : Fld Z ho1 bo1 S6 "hash" "I" (.int (0 : Int32)) := Do1 (Or.inr (tw hw 144 rfl)) (ty := .int) (by decide)
  have O3 : Old Z n0 ho1 := (O0.ext Eo1)
  have F4 := S_LIT.ext O3.2
  obtain ⟨Tg5, Xg5, eg5, stg5⟩ := getS2 Xo1 hx hZ hown (host := "") (Or.inl (tw hw 117 rfl)) Via.refl eo1 F4 (g := (mkF m 4 #[.val (.int pp), .val (.int g)] [(.ref bo1), (.ref bo1)])) rfl (hb hby d13_4)
  have Z6 : n0 ≤ ho1.size := (Nat.le_trans Z0 Eo1.1)
  obtain ⟨_, _, ⟨Tk7, Lk7, kk7, nk7⟩, -, Xk7, ⟨Lck7, hQk7, lk7, yk7, zk7⟩, stk7⟩ := Xg5.specialBack hx (y := Y4) rfl hown (mvT hZ (tw hw 120 rfl)) (mvT hZ (tw hw 121 rfl)) (mvT hZ (tw hw 122 rfl)) (by decide) (backOf (W := 1) (rm_nfinit l Z a0 hw [] bo1 pp g aD kD aL aC ho1 n0 Z6 O3 Ao1 Fo1_kind Fo1_proposition Fo1_negated Fo1_left Fo1_right Fo1_hash ⟨S_DEF, V_DEF, S_LIT, E_LIT, O_LIT, S_HI, S_CA, C_CA⟩ g_bo1 hg) hZ (tw hw 122 rfl) (tw hw 113 rfl) (by decide) (by decide)) (g := (mkF m 11 #[.val (.int pp), .val (.int g)] [.null, .null, (.int g), (.int pp), (.ref aL), (.ref bo1), (.ref bo1)])) rfl (by rw [hml]; rfl) (Steps.refl _) (a := bo1) (argsL := [(.ref aL), (.int pp), (.int g), .null, .null]) (rest := [(.ref bo1)]) (lenOf pd__Lcom_example_lassoo_lassoo_lang_NormalFormula_Kind_IZLcom_example_lassoo_lassoo_lang_NormalFormula_Lcom_example_lassoo_lassoo_lang_NormalFormula__V rfl) rfl (by show 2 * 0 + _ ≤ _; exact Nat.le_of_eq rfl) (hb hby d13_11) (fun _ _ => ⟨rfl, eg5, (by decide : 1 + 0 ≤ _), (by decide : 6 + 0 ≤ _)⟩)
  dsimp only [Pt.U, Pt.locs, Pt.cells, Pt.slots] at Xk7 lk7 yk7 zk7 stk7 hQk7
  subst lk7 yk7 zk7
  obtain ⟨rfl, Nk7q, Kk7q, Qk7_0, Qk7_1⟩ := hQk7
  have K8 : Keep h0 Tk7.heap [] := K2.trans Kk7q (allS (P := fun x => x ∈ ([] : List Addr) ∨ h0.size ≤ x) (Or.inr y_bo1) all0)
  have Nk7 := Fr.app N0 Nk7q
  have F9 := (Ao1.keep Kk7q)
  obtain ⟨fs, hlv, hrun, hended, hW, hsame⟩ := Xk7.leave (v := some (.ref bo1)) (fun h => by rw [hret] at h; cases h)
  refine ⟨_, _, pre0 _ ?_, hrun, hended, _, _, rfl, ?_, ⟨_, rfl⟩, hW, hsame.mono (by decide) (by decide)⟩
  · refine sto1 _ ?_
    show Sp p e below To1 (mkF m 3 #[.val (.int pp), .val (.int g)] [(.ref bo1)]) _
    refine XS.dup Xo1.here hx rfl (hb hby d13_3) rfl rfl ?_
    refine stg5 _ ?_
    refine XS.iloadN Xg5.here hx rfl (hb hby d13_7) rfl ?_
    refine XS.iloadN Xg5.here hx rfl (hb hby d13_8) rfl ?_
    refine XS.aconstNull Xg5.here hx rfl (hb hby d13_9) ?_
    refine XS.aconstNull Xg5.here hx rfl (hb hby d13_10) ?_
    refine stk7.trans ?_
    show Sp p e below Tk7 (mkF m 14 #[.val (.int pp), .val (.int g)] [(.ref bo1)]) _
    jvm_step Xk7.here [Xk7.here.top, hx, (hb hby d13_14), Xk7.method', hret, Value.isRef, FieldType.isReference]
    first | (intro acts; rw [hlv _ acts rfl rfl rfl]) | rw [hlv _ _ rfl rfl rfl]
    exact Steps.refl _
  · show Q_literal Z pp g aD kD aL aC h0 n0 _ Tk7.heap _
    exact ⟨bo1, rfl, Nk7, K8, y_bo1, F9, Qk7_0, Qk7_1⟩
theorem d20_0 : decode jdk_29_method_65_code 0 = .ok (.iload_n 0, 1) := by decide +kernel
theorem d20_1 : decode jdk_29_method_65_code 1 = .ok (.iload_n 1, 1) := by decide +kernel
theorem d20_2 : decode jdk_29_method_65_code 2 = .ok (.if_icmp .lt 7, 3) := by decide +kernel
theorem d20_5 : decode jdk_29_method_65_code 5 = .ok (.iload_n 0, 1) := by decide +kernel
theorem d20_6 : decode jdk_29_method_65_code 6 = .ok (.goto 4, 3) := by decide +kernel
theorem d20_9 : decode jdk_29_method_65_code 9 = .ok (.iload_n 1, 1) := by decide +kernel
theorem d20_10 : decode jdk_29_method_65_code 10 = .ok (.ireturn, 1) := by decide +kernel
theorem ef_20_II (m : MethodId) (x0 : Int32) (x1 : Int32) : entryFrame m #[(.int x0), (.int x1)] 2 = mkF m 0 #[.val (.int x0), .val (.int x1)] [] := by first | (simp [entryFrame, mkF, argsToLocals, Value.category]; done) | rfl
def Q_max (Z : State) (pp : Int32) (q : Int32) (r : Int32) (h0 : Heap) (n0 : Nat) (v : Option Value) (h : Heap) (L : List Loc) : Prop := v = some (.int r) ∧ Fr n0 L ∧ h = h0
set_option maxRecDepth 65536 in
set_option maxHeartbeats 40000000 in
theorem rm_max (l : Launch) (Z : State) (a0 : Array Value) (hw : ∀ d ∈ tables_1, d.before a0 Z = true) (ws : List Jvm.Cond) (pp : Int32) (q : Int32) (r : Int32) (h0 : Heap) (n0 : Nat) (Z0 : n0 ≤ h0.size) (O0 : Old Z n0 h0) (hres : r = if pp < q then q else pp) :
    MetFree l Y7 (head1 (Jvm.Cond.code Y7 jdk_29_method_65_code 2 (some .int) :: ws) ({ frames := 0, cells := 0, slots := 0, locals := 0 } : Room)) (fun A_ U => A_ = #[(.int pp), (.int q)] ∧ Z.Warmed39 U.vm ∧ U.heap = h0) (fun _ _ _ _ _ => True) (fun _ U o_ U' => ∃ v_ L_, o_ = .returned v_ ∧ Q_max Z pp q r h0 n0 v_ U'.heap L_ ∧ FrameEnd U o_ U' L_ ({ frames := 0, cells := 0, slots := 0, locals := 0 } : Room).cells ({ frames := 0, cells := 0, slots := 0, locals := 0 } : Room).slots) := by
  refine MetFree.of_bodySF (Jvm.Free.JP.mathPlain rfl (by decide +kernel)) hisR ?_
  intro p e s m args below meth c s₁ Bd hml0 hP hK
  obtain ⟨rfl, hZ, hh⟩ := hP
  have hx := Bd.exec
  have hby := Bd.bytes
  have hml : c.maxLocals = 2 := hml0
  have hown : s.vm.findClass "java/lang/Math" = some m.cls := findClass_of_methodNamed Bd.named
  have hnm := (name_of_methodNamed Bd.named Bd.method).1
  have hret := Bd.returns
  have X0 : Stand p l e ({ frames := 0, cells := 0, slots := 0, locals := 0 } : Room) s m #[(.int pp), (.int q)] below meth c s₁ [] 0 0 := Stand.of_body Bd
  have e0 : s₁.heap = h0 := by rw [← hh, Bd.state]; rfl
  have N0 := Fr.nil n0
  have pre0 : ∀ t_, Sp p e below s₁ (mkF m 0 #[.val (.int pp), .val (.int q)] []) t_ → Sp p e below s₁ (entryFrame m #[(.int pp), (.int q)] 2) t_ := fun t_ k_ => castTop (ef_20_II m pp q) k_
  have r1 : ∀ t_, Sp p e below s₁ (mkF m 2 #[.val (.int pp), .val (.int q)] [(.int q), (.int pp)]) t_ → Sp p e below s₁ (entryFrame m #[(.int pp), (.int q)] 2) t_ := by
    intro t_ k_
    refine pre0 _ ?_
    refine XS.iloadN X0.here hx rfl (hb hby d20_0) rfl ?_
    refine XS.iloadN X0.here hx rfl (hb hby d20_1) rfl ?_
    show Sp p e below s₁ (mkF m 2 #[.val (.int pp), .val (.int q)] [(.int q), (.int pp)]) _
    exact k_
  by_cases c2 : pp < q
  · obtain ⟨fs, hlv, hrun, hended, hW, hsame⟩ := X0.leave (v := some (.int q)) (fun h => by rw [hret] at h; cases h)
    refine ⟨_, _, r1 _ ?_, hrun, hended, _, _, rfl, ?_, ⟨_, rfl⟩, hW, hsame.mono (by decide) (by decide)⟩
    · refine XS.icmpYes X0.here hx rfl (pc0 := 2) (pc' := 9) rfl (hb hby d20_2) rfl (tlt c2).1 (by decide) (by decide) ?_
      show Sp p e below s₁ (mkF m 9 #[.val (.int pp), .val (.int q)] []) _
      refine XS.iloadN X0.here hx rfl (hb hby d20_9) rfl ?_
      show Sp p e below s₁ (mkF m 10 #[.val (.int pp), .val (.int q)] [(.int q)]) _
      exact retI X0 hx hret (hb hby d20_10) hlv
    · show Q_max Z pp q r h0 n0 _ s₁.heap _
      rw [e0]
      exact ⟨by rw [hres]; simp [c2], N0, rfl⟩
  · obtain ⟨fs, hlv, hrun, hended, hW, hsame⟩ := X0.leave (v := some (.int pp)) (fun h => by rw [hret] at h; cases h)
    refine ⟨_, _, r1 _ ?_, hrun, hended, _, _, rfl, ?_, ⟨_, rfl⟩, hW, hsame.mono (by decide) (by decide)⟩
    · refine XS.icmpNo X0.here hx rfl (hb hby d20_2) rfl (flt c2).1 ?_
      show Sp p e below s₁ (mkF m 5 #[.val (.int pp), .val (.int q)] []) _
      refine XS.iloadN X0.here hx rfl (hb hby d20_5) rfl ?_
      refine XS.goto X0.here hx rfl (pc0 := 6) (pc' := 10) rfl (hb hby d20_6) (by decide) (by decide) ?_
      show Sp p e below s₁ (mkF m 10 #[.val (.int pp), .val (.int q)] [(.int pp)]) _
      exact retI X0 hx hret (hb hby d20_10) hlv
    · show Q_max Z pp q r h0 n0 _ s₁.heap _
      rw [e0]
      exact ⟨by rw [hres]; simp [c2], N0, rfl⟩
theorem d19_0 : decode jdk_38_method_6_code 0 = .ok (.aload_n 0, 1) := by decide +kernel
theorem d19_1 : decode jdk_38_method_6_code 1 = .ok (.getfield 9, 3) := by decide +kernel
theorem d19_4 : decode jdk_38_method_6_code 4 = .ok (.arraylength, 1) := by decide +kernel
theorem d19_5 : decode jdk_38_method_6_code 5 = .ok (.istore_n 2, 1) := by decide +kernel
theorem d19_6 : decode jdk_38_method_6_code 6 = .ok (.iload_n 2, 1) := by decide +kernel
theorem d19_7 : decode jdk_38_method_6_code 7 = .ok (.ifCond .gt 13, 3) := by decide +kernel
theorem d19_10 : decode jdk_38_method_6_code 10 = .ok (.aload_n 0, 1) := by decide +kernel
theorem d19_11 : decode jdk_38_method_6_code 11 = .ok (.getfield 9, 3) := by decide +kernel
theorem d19_14 : decode jdk_38_method_6_code 14 = .ok (.getstatic 39, 3) := by decide +kernel
theorem d19_17 : decode jdk_38_method_6_code 17 = .ok (.if_acmp .eq 28, 3) := by decide +kernel
theorem d19_45 : decode jdk_38_method_6_code 45 = .ok (.aload_n 0, 1) := by decide +kernel
theorem d19_46 : decode jdk_38_method_6_code 46 = .ok (.bipush 10, 2) := by decide +kernel
theorem d19_48 : decode jdk_38_method_6_code 48 = .ok (.iload_n 1, 1) := by decide +kernel
theorem d19_49 : decode jdk_38_method_6_code 49 = .ok (.invokestatic 79, 3) := by decide +kernel
theorem d19_52 : decode jdk_38_method_6_code 52 = .ok (.anewarray 7, 3) := by decide +kernel
theorem d19_55 : decode jdk_38_method_6_code 55 = .ok (.dup_x1, 1) := by decide +kernel
theorem d19_56 : decode jdk_38_method_6_code 56 = .ok (.putfield 9, 3) := by decide +kernel
theorem d19_59 : decode jdk_38_method_6_code 59 = .ok (.areturn, 1) := by decide +kernel
theorem ef_19_RI (m : MethodId) (x0 : Addr) (x1 : Int32) : entryFrame m #[(.ref x0), (.int x1)] 4 = mkF m 0 #[.val (.ref x0), .val (.int x1), .unset, .unset] [] := by first | (simp [entryFrame, mkF, argsToLocals, Value.category]; done) | rfl
theorem pd__II_I : parseMethodDescriptor "(II)I" = some ⟨[.int, .int], some .int⟩ := by decide +kernel
def Q_grow1 (Z : State) (a : Addr) (mc : Int32) (aD : Addr) (kD : ClassId) (aL : Addr) (aC : Addr) (h0 : Heap) (n0 : Nat) (v : Option Value) (h : Heap) (L : List Loc) : Prop := ∃ b : Addr, ∃ k : ClassId, v = some (.ref b) ∧ Fr n0 L ∧ Keep h0 h [a] ∧ h0.size ≤ b ∧ Fld Z h a S1 "elementData" S2 (.ref b) ∧ Fld Z h a S1 "size" "I" (.int (0 : Int32)) ∧ Fld Z h a S5 "modCount" "I" (.int mc) ∧ Arv Z h b k (.object S3) (10 : Int32) [.null, .null, .null, .null, .null, .null, .null, .null, .null, .null] .null ∧ Ovr Z k S3
set_option maxRecDepth 65536 in
set_option maxHeartbeats 40000000 in
theorem rm_grow1 (l : Launch) (Z : State) (a0 : Array Value) (hw : ∀ d ∈ tables_1, d.before a0 Z = true) (ws : List Jvm.Cond) (a : Addr) (mc : Int32) (aD : Addr) (kD : ClassId) (aL : Addr) (aC : Addr) (h0 : Heap) (n0 : Nat) (Z0 : n0 ≤ h0.size) (O0 : Old Z n0 h0) (f0 : Exa Z h0 a S1) (f1 : Fld Z h0 a S1 "elementData" S2 (.ref aD)) (f2 : Fld Z h0 a S1 "size" "I" (.int (0 : Int32))) (f3 : Fld Z h0 a S5 "modCount" "I" (.int mc)) (SS : own_start Z aD kD aL aC) (ga : n0 ≤ a) :
    MetFree l Y8 (head1 (Jvm.Cond.code Y8 jdk_38_method_6_code 4 (some (.array (.object S3))) :: ws) ({ frames := 1, cells := 1, slots := 10, locals := 14 } : Room)) (fun A_ U => A_ = #[(.ref a), (.int (1 : Int32))] ∧ Z.Warmed39 U.vm ∧ U.heap = h0) (fun _ _ _ _ _ => True) (fun _ U o_ U' => ∃ v_ L_, o_ = .returned v_ ∧ Q_grow1 Z a mc aD kD aL aC h0 n0 v_ U'.heap L_ ∧ FrameEnd U o_ U' L_ ({ frames := 1, cells := 1, slots := 10, locals := 14 } : Room).cells ({ frames := 1, cells := 1, slots := 10, locals := 14 } : Room).slots) := by
  refine MetFree.of_bodySF (plainFor_of_name pn_2) hisR ?_
  intro p e s m args below meth c s₁ Bd hml0 hP hK
  obtain ⟨rfl, hZ, hh⟩ := hP
  have hx := Bd.exec
  have hby := Bd.bytes
  have hml : c.maxLocals = 4 := hml0
  have hown : s.vm.findClass S1 = some m.cls := findClass_of_methodNamed Bd.named
  have hnm := (name_of_methodNamed Bd.named Bd.method).1
  have hret := Bd.returns
  have X0 : Stand p l e ({ frames := 1, cells := 1, slots := 10, locals := 14 } : Room) s m #[(.ref a), (.int (1 : Int32))] below meth c s₁ [] 0 0 := Stand.of_body Bd
  have e0 : s₁.heap = h0 := by rw [← hh, Bd.state]; rfl
  have N0 := Fr.nil n0
  have pre0 : ∀ t_, Sp p e below s₁ (mkF m 0 #[.val (.ref a), .val (.int (1 : Int32)), .unset, .unset] []) t_ → Sp p e below s₁ (entryFrame m #[(.ref a), (.int (1 : Int32))] 4) t_ := fun t_ k_ => castTop (ef_19_RI m a (1 : Int32)) k_
  obtain ⟨S_DEF, V_DEF, S_LIT, E_LIT, O_LIT, S_HI, S_CA, C_CA⟩ := SS
  obtain ⟨Tf1, Xf1, ef1, stf1⟩ := getF X0 hx hZ hown (host := "") (Or.inl (tw hw 24 rfl)) Via.refl e0 f1 (g := (mkF m 1 #[.val (.ref a), .val (.int (1 : Int32)), .unset, .unset] [(.ref a)])) rfl rfl (hb hby d19_1)
  have F2 := V_DEF.ext O0.2
  obtain ⟨clv3, Arv3, qv3, Sv3, Nv3, Hv3, Gv3⟩ := id F2
  obtain ⟨Tf4, Xf4, ef4, stf4⟩ := getF Xf1 hx hZ hown (host := "") (Or.inl (tw hw 24 rfl)) Via.refl ef1 f1 (g := (mkF m 11 #[.val (.ref a), .val (.int (1 : Int32)), .val (.int (0 : Int32)), .unset] [(.ref a)])) rfl rfl (hb hby d19_11)
  have F5 := S_DEF.ext O0.2
  obtain ⟨Tg6, Xg6, eg6, stg6⟩ := getS2 Xf4 hx hZ hown (host := "") (Or.inl (tw hw 23 rfl)) Via.refl ef4 F5 (g := (mkF m 14 #[.val (.ref a), .val (.int (1 : Int32)), .val (.int (0 : Int32)), .unset] [(.ref aD)])) rfl (hb hby d19_14)
  obtain ⟨_, _, ⟨Tk7, Lk7, kk7, nk7⟩, -, Xk7, ⟨Lck7, hQk7, lk7, yk7, zk7⟩, stk7⟩ := Jvm.LawKit.callS Xg6 hx (y := Y7) hown (mvT hZ (tw hw 166 rfl)) (mvT hZ (tw hw 167 rfl)) (mvT hZ (tw hw 168 rfl)) (mvT hZ (tw hw 169 rfl)) (by decide) (backOf (W := 1) (rm_max l Z a0 hw [] (10 : Int32) (1 : Int32) (10 : Int32)  h0 n0 Z0 O0 rfl) hZ (tw hw 169 rfl) (tw hw 168 rfl) (by decide) (by decide)) (g := (mkF m 49 #[.val (.ref a), .val (.int (1 : Int32)), .val (.int (0 : Int32)), .unset] [(.int (1 : Int32)), (.int (10 : Int32)), (.ref a)])) rfl (by rw [hml]; rfl) (argsL := [(.int (10 : Int32)), (.int (1 : Int32))]) (rest := [(.ref a)]) (lenOf pd__II_I rfl) rfl (by show 2 * 0 + _ ≤ _; exact Nat.le_of_eq rfl) (hb hby d19_49) (fun _ _ => ⟨rfl, eg6, (by decide : 0 + 0 ≤ _), (by decide : 0 + 0 ≤ _)⟩)
  dsimp only [Pt.U, Pt.locs, Pt.cells, Pt.slots] at Xk7 lk7 yk7 zk7 stk7 hQk7
  subst lk7 yk7 zk7
  obtain ⟨rfl, Nk7q, ek7⟩ := hQk7
  have Nk7 := Fr.app N0 Nk7q
  obtain ⟨Ta8, ha8, ka8, Xa8, ea8, Ea8, Aa8, Oa8, sta8⟩ := newR Xk7 hx hZ hown (tw hw 170 rfl) (tw hw 171 rfl) ek7 (g := (mkF m 52 #[.val (.ref a), .val (.int (1 : Int32)), .val (.int (0 : Int32)), .unset] [(.int (10 : Int32)), (.ref a)])) rfl (hb hby d19_52) rfl (by decide) (cap := 10) (by decide) (by decide) (by decide) (by decide)
  obtain ⟨ba8, ga8⟩ : ∃ z, z = h0.size := ⟨_, rfl⟩
  rw [← ga8] at Aa8 sta8
  have g_ba8 : n0 ≤ ba8 := Nat.le_trans Z0 (Nat.le_of_eq ga8.symm)
  have y_ba8 : h0.size ≤ ba8 := Nat.le_trans (Nat.le_refl h0.size) (Nat.le_of_eq ga8.symm)
  have Va8 : Arv Z ha8 ba8 ka8 (.object S3) (10 : Int32) [.null, .null, .null, .null, .null, .null, .null, .null, .null, .null] .null := (Arv.new Aa8 (by decide)).pad (pad_rep [] .null 10)
  have K9 : Keep h0 ha8 [a] := (Keep.refl h0 [a]).ext Ea8
  have F10 := (f1.ext Ea8)
  have F11 := (f0.ext Ea8)
  obtain ⟨Tp12, hp12, Xp12, ep12, Wp12, stp12⟩ := putF Xa8 hx hZ hown (host := "") (Or.inl (tw hw 24 rfl)) Via.refl ea8 F10 F11 (Or.inl (tw hw 25 rfl)) (tw hw 1 rfl) (ty := (.array (.object S3))) (by decide) rfl rfl (g := (mkF m 56 #[.val (.ref a), .val (.int (1 : Int32)), .val (.int (0 : Int32)), .unset] [(.ref ba8), (.ref a), (.ref ba8)])) rfl rfl (hb hby d19_56)
  have Fwp12 : Fld Z hp12 a S1 "elementData" S2 (.ref ba8) := F10.same Wp12
  have Np12 := Fr.snoc Xp12 Nk7 ga
  have K13 : Keep h0 hp12 [a] := K9.wr Wp12 (Or.inl (List.mem_of_getElem? (i := 0) rfl))
  have F14 := ((f2.ext Ea8).other Wp12 (Or.inr (slot_ne (Or.inl (tw hw 75 rfl)) (Or.inl (tw hw 25 rfl)) (by decide) (t := .int) (t' := (.array (.object S3))) (by decide) (by decide))))
  have F15 := ((f3.ext Ea8).other Wp12 (Or.inr (slot_ne (Or.inl (tw hw 22 rfl)) (Or.inl (tw hw 25 rfl)) (by decide) (t := .int) (t' := (.array (.object S3))) (by decide) (by decide))))
  have ne16 : a ≠ ba8 := Exa.neArv (f0.ext Ea8) Va8 (tw hw 1 rfl)
  have F17 := (Va8.other Wp12 (Ne.symm ne16))
  have F18 := Oa8
  obtain ⟨fs, hlv, hrun, hended, hW, hsame⟩ := Xp12.leave (v := some (.ref ba8)) (fun h => by rw [hret] at h; cases h)
  refine ⟨_, _, pre0 _ ?_, hrun, hended, _, _, rfl, ?_, ⟨_, rfl⟩, hW, hsame.mono (by decide) (by decide)⟩
  · refine XS.aloadN X0.here hx rfl (hb hby d19_0) rfl rfl ?_
    show Sp p e below s₁ (mkF m 1 #[.val (.ref a), .val (.int (1 : Int32)), .unset, .unset] [(.ref a)]) _
    refine stf1 _ ?_
    show Sp p e below Tf1 (mkF m 4 #[.val (.ref a), .val (.int (1 : Int32)), .unset, .unset] [(.ref aD)]) _
    refine Xf1.arraylength hx (own_eq ef1 Arv3.1) (State.isArrayOf_alike hZ.alike Arv3.2.1) (g := (mkF m 4 #[.val (.ref a), .val (.int (1 : Int32)), .unset, .unset] [(.ref aD)])) rfl rfl (hb hby d19_4) _ ?_
    rw [len_of Sv3 Nv3]
    show Sp p e below Tf1 (mkF m 5 #[.val (.ref a), .val (.int (1 : Int32)), .unset, .unset] [(.int (0 : Int32))]) _
    refine XS.istoreN Xf1.here hx rfl (hb hby d19_5) rfl (l' := #[.val (.ref a), .val (.int (1 : Int32)), .val (.int (0 : Int32)), .unset]) rfl ?_
    refine XS.iloadN Xf1.here hx rfl (hb hby d19_6) rfl ?_
    refine XS.ifNo Xf1.here hx rfl (hb hby d19_7) rfl ((if0 _ _).trans (flt (by decide : ¬ ((0 : Int32) < (0 : Int32)))).2.2.1) ?_
    refine XS.aloadN Xf1.here hx rfl (hb hby d19_10) rfl rfl ?_
    refine stf4 _ ?_
    refine stg6 _ ?_
    show Sp p e below Tg6 (mkF m 17 #[.val (.ref a), .val (.int (1 : Int32)), .val (.int (0 : Int32)), .unset] [(.ref aD), (.ref aD)]) _
    refine Jvm.RoadKit.acmp (g := (mkF m 17 #[.val (.ref a), .val (.int (1 : Int32)), .val (.int (0 : Int32)), .unset] [(.ref aD), (.ref aD)])) Xg6 hx rfl rfl rfl (pc0 := 17) (pc' := 45) (same := true) rfl (hb hby d19_17) rfl (decide_eq_true rfl) (by decide) (by decide) ?_
    show Sp p e below Tg6 (mkF m 45 #[.val (.ref a), .val (.int (1 : Int32)), .val (.int (0 : Int32)), .unset] []) _
    refine XS.aloadN Xg6.here hx rfl (hb hby d19_45) rfl rfl ?_
    refine XS.bipush Xg6.here hx rfl (hb hby d19_46) ?_
    refine XS.iloadN Xg6.here hx rfl (hb hby d19_48) rfl ?_
    refine stk7 _ ?_
    refine sta8 _ ?_
    refine XS.dupX1 Xa8.here hx rfl (hb hby d19_55) rfl rfl rfl ?_
    refine stp12 _ ?_
    show Sp p e below Tp12 (mkF m 59 #[.val (.ref a), .val (.int (1 : Int32)), .val (.int (0 : Int32)), .unset] [(.ref ba8)]) _
    jvm_step Xp12.here [Xp12.here.top, hx, (hb hby d19_59), Xp12.method', hret, Value.isRef, FieldType.isReference]
    first | (intro acts; rw [hlv _ acts rfl rfl rfl]) | rw [hlv _ _ rfl rfl rfl]
    exact Steps.refl _
  · show Q_grow1 Z a mc aD kD aL aC h0 n0 _ Tp12.heap _
    rw [ep12]
    exact ⟨ba8, ka8, rfl, Np12, K13, y_ba8, Fwp12, F14, F15, F17, F18⟩
theorem d18_0 : decode jdk_38_method_7_code 0 = .ok (.aload_n 0, 1) := by decide +kernel
theorem d18_1 : decode jdk_38_method_7_code 1 = .ok (.aload_n 0, 1) := by decide +kernel
theorem d18_2 : decode jdk_38_method_7_code 2 = .ok (.getfield 48, 3) := by decide +kernel
theorem d18_5 : decode jdk_38_method_7_code 5 = .ok (.iconst 1, 1) := by decide +kernel
theorem d18_6 : decode jdk_38_method_7_code 6 = .ok (.iadd, 1) := by decide +kernel
theorem d18_7 : decode jdk_38_method_7_code 7 = .ok (.invokevirtual 69, 3) := by decide +kernel
theorem d18_10 : decode jdk_38_method_7_code 10 = .ok (.areturn, 1) := by decide +kernel
theorem ef_18_R (m : MethodId) (x0 : Addr) : entryFrame m #[(.ref x0)] 1 = mkF m 0 #[.val (.ref x0)] [] := by first | (simp [entryFrame, mkF, argsToLocals, Value.category]; done) | rfl
theorem pd__I__Ljava_lang_Object_ : parseMethodDescriptor "(I)[Ljava/lang/Object;" = some ⟨[.int], some (.array (.object "java/lang/Object"))⟩ := by decide +kernel
def Q_grow0 (Z : State) (a : Addr) (mc : Int32) (aD : Addr) (kD : ClassId) (aL : Addr) (aC : Addr) (h0 : Heap) (n0 : Nat) (v : Option Value) (h : Heap) (L : List Loc) : Prop := ∃ b : Addr, ∃ k : ClassId, v = some (.ref b) ∧ Fr n0 L ∧ Keep h0 h [a] ∧ h0.size ≤ b ∧ Fld Z h a S1 "elementData" S2 (.ref b) ∧ Fld Z h a S1 "size" "I" (.int (0 : Int32)) ∧ Fld Z h a S5 "modCount" "I" (.int mc) ∧ Arv Z h b k (.object S3) (10 : Int32) [.null, .null, .null, .null, .null, .null, .null, .null, .null, .null] .null ∧ Ovr Z k S3
set_option maxRecDepth 65536 in
set_option maxHeartbeats 40000000 in
theorem rm_grow0 (l : Launch) (Z : State) (a0 : Array Value) (hw : ∀ d ∈ tables_1, d.before a0 Z = true) (ws : List Jvm.Cond) (a : Addr) (mc : Int32) (aD : Addr) (kD : ClassId) (aL : Addr) (aC : Addr) (h0 : Heap) (n0 : Nat) (Z0 : n0 ≤ h0.size) (O0 : Old Z n0 h0) (f0 : Exa Z h0 a S1) (f1 : Fld Z h0 a S1 "elementData" S2 (.ref aD)) (f2 : Fld Z h0 a S1 "size" "I" (.int (0 : Int32))) (f3 : Fld Z h0 a S5 "modCount" "I" (.int mc)) (SS : own_start Z aD kD aL aC) (ga : n0 ≤ a) :
    MetFree l Y9 (head1 (Jvm.Cond.code Y9 jdk_38_method_7_code 1 (some (.array (.object S3))) :: ws) ({ frames := 2, cells := 1, slots := 10, locals := 29 } : Room)) (fun A_ U => A_ = #[(.ref a)] ∧ Z.Warmed39 U.vm ∧ U.heap = h0) (fun _ _ _ _ _ => True) (fun _ U o_ U' => ∃ v_ L_, o_ = .returned v_ ∧ Q_grow0 Z a mc aD kD aL aC h0 n0 v_ U'.heap L_ ∧ FrameEnd U o_ U' L_ ({ frames := 2, cells := 1, slots := 10, locals := 29 } : Room).cells ({ frames := 2, cells := 1, slots := 10, locals := 29 } : Room).slots) := by
  refine MetFree.of_bodySF (plainFor_of_name pn_2) hisR ?_
  intro p e s m args below meth c s₁ Bd hml0 hP hK
  obtain ⟨rfl, hZ, hh⟩ := hP
  have hx := Bd.exec
  have hby := Bd.bytes
  have hml : c.maxLocals = 1 := hml0
  have hown : s.vm.findClass S1 = some m.cls := findClass_of_methodNamed Bd.named
  have hnm := (name_of_methodNamed Bd.named Bd.method).1
  have hret := Bd.returns
  have X0 : Stand p l e ({ frames := 2, cells := 1, slots := 10, locals := 29 } : Room) s m #[(.ref a)] below meth c s₁ [] 0 0 := Stand.of_body Bd
  have e0 : s₁.heap = h0 := by rw [← hh, Bd.state]; rfl
  have N0 := Fr.nil n0
  have pre0 : ∀ t_, Sp p e below s₁ (mkF m 0 #[.val (.ref a)] []) t_ → Sp p e below s₁ (entryFrame m #[(.ref a)] 1) t_ := fun t_ k_ => castTop (ef_18_R m a) k_
  obtain ⟨S_DEF, V_DEF, S_LIT, E_LIT, O_LIT, S_HI, S_CA, C_CA⟩ := SS
  obtain ⟨Tf1, Xf1, ef1, stf1⟩ := getF X0 hx hZ hown (host := "") (Or.inl (tw hw 85 rfl)) Via.refl e0 f2 (g := (mkF m 2 #[.val (.ref a)] [(.ref a), (.ref a)])) rfl rfl (hb hby d18_2)
  obtain ⟨cqk2, qk2, qk2'⟩ := f0.cell
  obtain ⟨_, _, ⟨Tk2, Lk2, kk2, nk2⟩, -, Xk2, ⟨Lck2, hQk2, lk2, yk2, zk2⟩, stk2⟩ := Xf1.privateBack hx (y := Y8) hown (mvT hZ (tw hw 161 rfl)) (mvT hZ (tw hw 162 rfl)) (mvT hZ (tw hw 164 rfl)) (Cond.privateMethod_at (mvP hZ (tw hw 163 rfl) (args := #[]))) (mvT hZ (tw hw 165 rfl)) (by decide) (backOf (W := 0) (rm_grow1 l Z a0 hw [] a mc aD kD aL aC h0 n0 Z0 O0 f0 f1 f2 f3 ⟨S_DEF, V_DEF, S_LIT, E_LIT, O_LIT, S_HI, S_CA, C_CA⟩ ga) hZ (tw hw 165 rfl) (tw hw 2 rfl) (by decide) (by decide)) (g := (mkF m 7 #[.val (.ref a)] [(.int (1 : Int32)), (.ref a)])) rfl (by rw [hml]; rfl) (Steps.refl _) (a := a) (own_eq ef1 qk2) qk2' (argsL := [(.int (1 : Int32))]) (rest := []) (lenOf pd__I__Ljava_lang_Object_ rfl) rfl (by show 2 * 0 + _ ≤ _; exact Nat.le_of_eq rfl) (hb hby d18_7) (fun _ _ => ⟨rfl, ef1, (by decide : 0 + 1 ≤ _), (by decide : 0 + 10 ≤ _)⟩)
  dsimp only [Pt.U, Pt.locs, Pt.cells, Pt.slots] at Xk2 lk2 yk2 zk2 stk2 hQk2
  subst lk2 yk2 zk2
  obtain ⟨bk2, kk2, rfl, Nk2q, Kk2q, Gk2_0, Qk2_0, Qk2_1, Qk2_2, Qk2_3, Qk2_4⟩ := hQk2
  have g_bk2 : n0 ≤ bk2 := Nat.le_trans Z0 Gk2_0
  have y_bk2 : h0.size ≤ bk2 := Nat.le_trans (Nat.le_refl h0.size) Gk2_0
  have K3 : Keep h0 Tk2.heap [a] := (Keep.refl h0 [a]).trans Kk2q (allS (P := fun x => x ∈ [a] ∨ h0.size ≤ x) (Or.inl (List.mem_of_getElem? (i := 0) rfl)) all0)
  have Nk2 := Fr.app N0 Nk2q
  obtain ⟨fs, hlv, hrun, hended, hW, hsame⟩ := Xk2.leave (v := some (.ref bk2)) (fun h => by rw [hret] at h; cases h)
  refine ⟨_, _, pre0 _ ?_, hrun, hended, _, _, rfl, ?_, ⟨_, rfl⟩, hW, hsame.mono (by decide) (by decide)⟩
  · refine XS.aloadN X0.here hx rfl (hb hby d18_0) rfl rfl ?_
    show Sp p e below s₁ (mkF m 1 #[.val (.ref a)] [(.ref a)]) _
    refine XS.aloadN X0.here hx rfl (hb hby d18_1) rfl rfl ?_
    refine stf1 _ ?_
    refine XS.iconst Xf1.here hx rfl (hb hby d18_5) ?_
    refine XS.iadd Xf1.here hx rfl (hb hby d18_6) rfl ?_
    refine stk2.trans ?_
    show Sp p e below Tk2 (mkF m 10 #[.val (.ref a)] [(.ref bk2)]) _
    jvm_step Xk2.here [Xk2.here.top, hx, (hb hby d18_10), Xk2.method', hret, Value.isRef, FieldType.isReference]
    first | (intro acts; rw [hlv _ acts rfl rfl rfl]) | rw [hlv _ _ rfl rfl rfl]
    exact Steps.refl _
  · show Q_grow0 Z a mc aD kD aL aC h0 n0 _ Tk2.heap _
    exact ⟨bk2, kk2, rfl, Nk2, K3, y_bk2, Qk2_0, Qk2_1, Qk2_2, Qk2_3, Qk2_4⟩
theorem d17_0 : decode jdk_38_method_24_code 0 = .ok (.iload_n 3, 1) := by decide +kernel
theorem d17_1 : decode jdk_38_method_24_code 1 = .ok (.aload_n 2, 1) := by decide +kernel
theorem d17_2 : decode jdk_38_method_24_code 2 = .ok (.arraylength, 1) := by decide +kernel
theorem d17_3 : decode jdk_38_method_24_code 3 = .ok (.if_icmp .ne 8, 3) := by decide +kernel
theorem d17_6 : decode jdk_38_method_24_code 6 = .ok (.aload_n 0, 1) := by decide +kernel
theorem d17_7 : decode jdk_38_method_24_code 7 = .ok (.invokevirtual 129, 3) := by decide +kernel
theorem d17_10 : decode jdk_38_method_24_code 10 = .ok (.astore_n 2, 1) := by decide +kernel
theorem d17_11 : decode jdk_38_method_24_code 11 = .ok (.aload_n 2, 1) := by decide +kernel
theorem d17_12 : decode jdk_38_method_24_code 12 = .ok (.iload_n 3, 1) := by decide +kernel
theorem d17_13 : decode jdk_38_method_24_code 13 = .ok (.aload_n 1, 1) := by decide +kernel
theorem d17_14 : decode jdk_38_method_24_code 14 = .ok (.aastore, 1) := by decide +kernel
theorem d17_15 : decode jdk_38_method_24_code 15 = .ok (.aload_n 0, 1) := by decide +kernel
theorem d17_16 : decode jdk_38_method_24_code 16 = .ok (.iload_n 3, 1) := by decide +kernel
theorem d17_17 : decode jdk_38_method_24_code 17 = .ok (.iconst 1, 1) := by decide +kernel
theorem d17_18 : decode jdk_38_method_24_code 18 = .ok (.iadd, 1) := by decide +kernel
theorem d17_19 : decode jdk_38_method_24_code 19 = .ok (.putfield 48, 3) := by decide +kernel
theorem d17_22 : decode jdk_38_method_24_code 22 = .ok (.return_, 1) := by decide +kernel
theorem ef_17_RRRI (m : MethodId) (x0 : Addr) (x1 : Addr) (x2 : Addr) (x3 : Int32) : entryFrame m #[(.ref x0), (.ref x1), (.ref x2), (.int x3)] 4 = mkF m 0 #[.val (.ref x0), .val (.ref x1), .val (.ref x2), .val (.int x3)] [] := by first | (simp [entryFrame, mkF, argsToLocals, Value.category]; done) | rfl
theorem pd____Ljava_lang_Object_ : parseMethodDescriptor "()[Ljava/lang/Object;" = some ⟨[], some (.array (.object "java/lang/Object"))⟩ := by decide +kernel
def Q_add3_0 (Z : State) (a : Addr) (e_ : Addr) (mc : Int32) (aD : Addr) (kD : ClassId) (aL : Addr) (aC : Addr) (h0 : Heap) (n0 : Nat) (v : Option Value) (h : Heap) (L : List Loc) : Prop := ∃ b : Addr, ∃ k : ClassId, v = none ∧ Fr n0 L ∧ Keep h0 h [a] ∧ h0.size ≤ b ∧ Fld Z h a S1 "elementData" S2 (.ref b) ∧ Fld Z h a S1 "size" "I" (.int (1 : Int32)) ∧ Fld Z h a S5 "modCount" "I" (.int mc) ∧ Arv Z h b k (.object S3) (10 : Int32) [(.ref e_), .null, .null, .null, .null, .null, .null, .null, .null, .null] .null ∧ Ovr Z k S3
set_option maxRecDepth 65536 in
set_option maxHeartbeats 40000000 in
theorem rm_add3_0 (l : Launch) (Z : State) (a0 : Array Value) (hw : ∀ d ∈ tables_1, d.before a0 Z = true) (ws : List Jvm.Cond) (a : Addr) (e_ : Addr) (mc : Int32) (aD : Addr) (kD : ClassId) (aL : Addr) (aC : Addr) (h0 : Heap) (n0 : Nat) (Z0 : n0 ≤ h0.size) (O0 : Old Z n0 h0) (f0 : Exa Z h0 a S1) (f1 : Fld Z h0 a S1 "elementData" S2 (.ref aD)) (f2 : Fld Z h0 a S1 "size" "I" (.int (0 : Int32))) (f3 : Fld Z h0 a S5 "modCount" "I" (.int mc)) (f4 : Ins Z h0 e_ S3 true) (SS : own_start Z aD kD aL aC) (ga : n0 ≤ a) :
    MetFree l Y10 (head1 (Jvm.Cond.code Y10 jdk_38_method_24_code 4 none :: ws) ({ frames := 3, cells := 1, slots := 10, locals := 41 } : Room)) (fun A_ U => A_ = #[(.ref a), (.ref e_), (.ref aD), (.int (0 : Int32))] ∧ Z.Warmed39 U.vm ∧ U.heap = h0) (fun _ _ _ _ _ => True) (fun _ U o_ U' => ∃ v_ L_, o_ = .returned v_ ∧ Q_add3_0 Z a e_ mc aD kD aL aC h0 n0 v_ U'.heap L_ ∧ FrameEnd U o_ U' L_ ({ frames := 3, cells := 1, slots := 10, locals := 41 } : Room).cells ({ frames := 3, cells := 1, slots := 10, locals := 41 } : Room).slots) := by
  refine MetFree.of_bodySF (plainFor_of_name pn_2) hisR ?_
  intro p e s m args below meth c s₁ Bd hml0 hP hK
  obtain ⟨rfl, hZ, hh⟩ := hP
  have hx := Bd.exec
  have hby := Bd.bytes
  have hml : c.maxLocals = 4 := hml0
  have hown : s.vm.findClass S1 = some m.cls := findClass_of_methodNamed Bd.named
  have hnm := (name_of_methodNamed Bd.named Bd.method).1
  have hret := Bd.returns
  have X0 : Stand p l e ({ frames := 3, cells := 1, slots := 10, locals := 41 } : Room) s m #[(.ref a), (.ref e_), (.ref aD), (.int (0 : Int32))] below meth c s₁ [] 0 0 := Stand.of_body Bd
  have e0 : s₁.heap = h0 := by rw [← hh, Bd.state]; rfl
  have N0 := Fr.nil n0
  have pre0 : ∀ t_, Sp p e below s₁ (mkF m 0 #[.val (.ref a), .val (.ref e_), .val (.ref aD), .val (.int (0 : Int32))] []) t_ → Sp p e below s₁ (entryFrame m #[(.ref a), (.ref e_), (.ref aD), (.int (0 : Int32))] 4) t_ := fun t_ k_ => castTop (ef_17_RRRI m a e_ aD (0 : Int32)) k_
  obtain ⟨S_DEF, V_DEF, S_LIT, E_LIT, O_LIT, S_HI, S_CA, C_CA⟩ := SS
  have F1 := V_DEF.ext O0.2
  obtain ⟨clv2, Arv2, qv2, Sv2, Nv2, Hv2, Gv2⟩ := id F1
  obtain ⟨cqk3, qk3, qk3'⟩ := f0.cell
  obtain ⟨_, _, ⟨Tk3, Lk3, kk3, nk3⟩, -, Xk3, ⟨Lck3, hQk3, lk3, yk3, zk3⟩, stk3⟩ := X0.privateBack hx (y := Y9) hown (mvT hZ (tw hw 156 rfl)) (mvT hZ (tw hw 157 rfl)) (mvT hZ (tw hw 159 rfl)) (Cond.privateMethod_at (mvP hZ (tw hw 158 rfl) (args := #[]))) (mvT hZ (tw hw 160 rfl)) (by decide) (backOf (W := 0) (rm_grow0 l Z a0 hw [] a mc aD kD aL aC h0 n0 Z0 O0 f0 f1 f2 f3 ⟨S_DEF, V_DEF, S_LIT, E_LIT, O_LIT, S_HI, S_CA, C_CA⟩ ga) hZ (tw hw 160 rfl) (tw hw 2 rfl) (by decide) (by decide)) (g := (mkF m 7 #[.val (.ref a), .val (.ref e_), .val (.ref aD), .val (.int (0 : Int32))] [(.ref a)])) rfl (by rw [hml]; rfl) (Steps.refl _) (a := a) (own_eq e0 qk3) qk3' (argsL := []) (rest := []) (lenOf pd____Ljava_lang_Object_ rfl) rfl (by show 2 * 0 + _ ≤ _; exact Nat.le_of_eq rfl) (hb hby d17_7) (fun _ _ => ⟨rfl, e0, (by decide : 0 + 1 ≤ _), (by decide : 0 + 10 ≤ _)⟩)
  dsimp only [Pt.U, Pt.locs, Pt.cells, Pt.slots] at Xk3 lk3 yk3 zk3 stk3 hQk3
  subst lk3 yk3 zk3
  obtain ⟨bk3, kk3, rfl, Nk3q, Kk3q, Gk3_0, Qk3_0, Qk3_1, Qk3_2, Qk3_3, Qk3_4⟩ := hQk3
  have g_bk3 : n0 ≤ bk3 := Nat.le_trans Z0 Gk3_0
  have y_bk3 : h0.size ≤ bk3 := Nat.le_trans (Nat.le_refl h0.size) Gk3_0
  have K4 : Keep h0 Tk3.heap [a] := (Keep.refl h0 [a]).trans Kk3q (allS (P := fun x => x ∈ [a] ∨ h0.size ≤ x) (Or.inl (List.mem_of_getElem? (i := 0) rfl)) all0)
  have Nk3 := Fr.app N0 Nk3q
  obtain ⟨clv5, Arv5, qv5, Sv5, Nv5, Hv5, Gv5⟩ := id Qk3_3
  have in6 : ¬ ((0 : Int32) < 0 ∨ clv5.slots.size ≤ ((0 : Int32)).toNatClampNeg) := inb_of Sv5 ⟨by decide, by decide⟩
  have F7 := (own_ins_keep f4 Kk3q)
  obtain ⟨Tw8, hw8, Xw8, ew8, Ww8, stw8⟩ := stR Xk3 hx hZ rfl Arv5 (j := (0 : Int32)) in6 rfl (Sto.ofV Arv5 qv5 Qk3_4 F7) (g := (mkF m 14 #[.val (.ref a), .val (.ref e_), .val (.ref bk3), .val (.int (0 : Int32))] [(.ref e_), (.int (0 : Int32)), (.ref bk3)])) rfl rfl (hb hby d17_14)
  have Vw8 : Arv Z hw8 bk3 kk3 (.object S3) (10 : Int32) [(.ref e_), .null, .null, .null, .null, .null, .null, .null, .null, .null] .null := Arv.set Arv5 qv5 Sv5 Nv5 Hv5 Gv5 rfl Ww8 0 rfl (Nat.le_of_ble_eq_true rfl)
  have Nw8 := Fr.snoc Xw8 Nk3 g_bk3
  have K9 : Keep h0 hw8 [a] := K4.wr Ww8 (Or.inr y_bk3)
  have ne10 : a ≠ bk3 := Exa.neArv ((f0.keep Kk3q).wr Ww8) Vw8 (tw hw 1 rfl)
  have F11 := (Qk3_1.other Ww8 (Or.inl ne10))
  have F12 := ((f0.keep Kk3q).wr Ww8)
  obtain ⟨Tp13, hp13, Xp13, ep13, Wp13, stp13⟩ := putF Xw8 hx hZ hown (host := "") (Or.inl (tw hw 85 rfl)) Via.refl ew8 F11 F12 (Or.inl (tw hw 75 rfl)) (tw hw 1 rfl) (ty := .int) (by decide) rfl rfl (g := (mkF m 19 #[.val (.ref a), .val (.ref e_), .val (.ref bk3), .val (.int (0 : Int32))] [(.int (1 : Int32)), (.ref a)])) rfl rfl (hb hby d17_19)
  have Fwp13 : Fld Z hp13 a S1 "size" "I" (.int (1 : Int32)) := F11.same Wp13
  have Np13 := Fr.snoc Xp13 Nw8 ga
  have K14 : Keep h0 hp13 [a] := K9.wr Wp13 (Or.inl (List.mem_of_getElem? (i := 0) rfl))
  have F15 := ((Qk3_0.other Ww8 (Or.inl ne10)).other Wp13 (Or.inr (slot_ne (Or.inl (tw hw 25 rfl)) (Or.inl (tw hw 75 rfl)) (by decide) (t := (.array (.object S3))) (t' := .int) (by decide) (by decide))))
  have F16 := ((Qk3_2.other Ww8 (Or.inl ne10)).other Wp13 (Or.inr (slot_ne (Or.inl (tw hw 22 rfl)) (Or.inl (tw hw 75 rfl)) (by decide) (t := .int) (t' := .int) (by decide) (by decide))))
  have F17 := (Vw8.other Wp13 (Ne.symm ne10))
  have F18 := Qk3_4
  obtain ⟨fs, hlv, hrun, hended, hW, hsame⟩ := Xp13.leave (v := none) (fun _ => rfl)
  refine ⟨_, _, pre0 _ ?_, hrun, hended, _, _, rfl, ?_, ⟨_, rfl⟩, hW, hsame.mono (by decide) (by decide)⟩
  · refine XS.iloadN X0.here hx rfl (hb hby d17_0) rfl ?_
    show Sp p e below s₁ (mkF m 1 #[.val (.ref a), .val (.ref e_), .val (.ref aD), .val (.int (0 : Int32))] [(.int (0 : Int32))]) _
    refine XS.aloadN X0.here hx rfl (hb hby d17_1) rfl rfl ?_
    show Sp p e below s₁ (mkF m 2 #[.val (.ref a), .val (.ref e_), .val (.ref aD), .val (.int (0 : Int32))] [(.ref aD), (.int (0 : Int32))]) _
    refine X0.arraylength hx (own_eq e0 Arv2.1) (State.isArrayOf_alike hZ.alike Arv2.2.1) (g := (mkF m 2 #[.val (.ref a), .val (.ref e_), .val (.ref aD), .val (.int (0 : Int32))] [(.ref aD), (.int (0 : Int32))])) rfl rfl (hb hby d17_2) _ ?_
    rw [len_of Sv2 Nv2]
    show Sp p e below s₁ (mkF m 3 #[.val (.ref a), .val (.ref e_), .val (.ref aD), .val (.int (0 : Int32))] [(.int (0 : Int32)), (.int (0 : Int32))]) _
    refine XS.icmpNo X0.here hx rfl (hb hby d17_3) rfl (teq (by decide : (0 : Int32) = (0 : Int32))).2 ?_
    refine XS.aloadN X0.here hx rfl (hb hby d17_6) rfl rfl ?_
    refine stk3.trans ?_
    refine XS.astoreN Xk3.here hx rfl (hb hby d17_10) rfl rfl (l' := #[.val (.ref a), .val (.ref e_), .val (.ref bk3), .val (.int (0 : Int32))]) rfl ?_
    refine XS.aloadN Xk3.here hx rfl (hb hby d17_11) rfl rfl ?_
    refine XS.iloadN Xk3.here hx rfl (hb hby d17_12) rfl ?_
    refine XS.aloadN Xk3.here hx rfl (hb hby d17_13) rfl rfl ?_
    refine stw8 _ ?_
    refine XS.aloadN Xw8.here hx rfl (hb hby d17_15) rfl rfl ?_
    refine XS.iloadN Xw8.here hx rfl (hb hby d17_16) rfl ?_
    refine XS.iconst Xw8.here hx rfl (hb hby d17_17) ?_
    refine XS.iadd Xw8.here hx rfl (hb hby d17_18) rfl ?_
    refine stp13 _ ?_
    show Sp p e below Tp13 (mkF m 22 #[.val (.ref a), .val (.ref e_), .val (.ref bk3), .val (.int (0 : Int32))] []) _
    exact Xp13.returnOut hx hret (hb hby d17_22) hlv
  · show Q_add3_0 Z a e_ mc aD kD aL aC h0 n0 _ Tp13.heap _
    rw [ep13]
    exact ⟨bk3, kk3, rfl, Np13, K14, y_bk3, F15, Fwp13, F16, F17, F18⟩
theorem d16_0 : decode jdk_38_method_25_code 0 = .ok (.aload_n 0, 1) := by decide +kernel
theorem d16_1 : decode jdk_38_method_25_code 1 = .ok (.dup, 1) := by decide +kernel
theorem d16_2 : decode jdk_38_method_25_code 2 = .ok (.getfield 63, 3) := by decide +kernel
theorem d16_5 : decode jdk_38_method_25_code 5 = .ok (.iconst 1, 1) := by decide +kernel
theorem d16_6 : decode jdk_38_method_25_code 6 = .ok (.iadd, 1) := by decide +kernel
theorem d16_7 : decode jdk_38_method_25_code 7 = .ok (.putfield 63, 3) := by decide +kernel
theorem d16_10 : decode jdk_38_method_25_code 10 = .ok (.aload_n 0, 1) := by decide +kernel
theorem d16_11 : decode jdk_38_method_25_code 11 = .ok (.aload_n 1, 1) := by decide +kernel
theorem d16_12 : decode jdk_38_method_25_code 12 = .ok (.aload_n 0, 1) := by decide +kernel
theorem d16_13 : decode jdk_38_method_25_code 13 = .ok (.getfield 9, 3) := by decide +kernel
theorem d16_16 : decode jdk_38_method_25_code 16 = .ok (.aload_n 0, 1) := by decide +kernel
theorem d16_17 : decode jdk_38_method_25_code 17 = .ok (.getfield 48, 3) := by decide +kernel
theorem d16_20 : decode jdk_38_method_25_code 20 = .ok (.invokevirtual 131, 3) := by decide +kernel
theorem d16_23 : decode jdk_38_method_25_code 23 = .ok (.iconst 1, 1) := by decide +kernel
theorem d16_24 : decode jdk_38_method_25_code 24 = .ok (.ireturn, 1) := by decide +kernel
theorem ef_16_RR (m : MethodId) (x0 : Addr) (x1 : Addr) : entryFrame m #[(.ref x0), (.ref x1)] 2 = mkF m 0 #[.val (.ref x0), .val (.ref x1)] [] := by first | (simp [entryFrame, mkF, argsToLocals, Value.category]; done) | rfl
theorem pd__Ljava_lang_Object__Ljava_lang_Object_I_V : parseMethodDescriptor "(Ljava/lang/Object;[Ljava/lang/Object;I)V" = some ⟨[(.object "java/lang/Object"), (.array (.object "java/lang/Object")), .int], none⟩ := by decide +kernel
def Q_add_0 (Z : State) (a : Addr) (e_ : Addr) (mc : Int32) (mc1 : Int32) (aD : Addr) (kD : ClassId) (aL : Addr) (aC : Addr) (h0 : Heap) (n0 : Nat) (v : Option Value) (h : Heap) (L : List Loc) : Prop := ∃ b : Addr, ∃ k : ClassId, v = some (.int (1 : Int32)) ∧ Fr n0 L ∧ Keep h0 h [a] ∧ h0.size ≤ b ∧ Fld Z h a S1 "elementData" S2 (.ref b) ∧ Fld Z h a S1 "size" "I" (.int (1 : Int32)) ∧ Fld Z h a S5 "modCount" "I" (.int mc1) ∧ Arv Z h b k (.object S3) (10 : Int32) [(.ref e_), .null, .null, .null, .null, .null, .null, .null, .null, .null] .null ∧ Ovr Z k S3
set_option maxRecDepth 65536 in
set_option maxHeartbeats 40000000 in
theorem rm_add_0 (l : Launch) (Z : State) (a0 : Array Value) (hw : ∀ d ∈ tables_1, d.before a0 Z = true) (ws : List Jvm.Cond) (a : Addr) (e_ : Addr) (mc : Int32) (mc1 : Int32) (aD : Addr) (kD : ClassId) (aL : Addr) (aC : Addr) (h0 : Heap) (n0 : Nat) (Z0 : n0 ≤ h0.size) (O0 : Old Z n0 h0) (f0 : Exa Z h0 a S1) (f1 : Fld Z h0 a S1 "elementData" S2 (.ref aD)) (f2 : Fld Z h0 a S1 "size" "I" (.int (0 : Int32))) (f3 : Fld Z h0 a S5 "modCount" "I" (.int mc)) (f4 : Ins Z h0 e_ S3 true) (SS : own_start Z aD kD aL aC) (ga : n0 ≤ a) (hmc : mc1 = mc + 1) :
    MetFree l Y11 (head1 (Jvm.Cond.code Y11 jdk_38_method_25_code 2 (some .boolean) :: ws) ({ frames := 4, cells := 1, slots := 10, locals := 56 } : Room)) (fun A_ U => A_ = #[(.ref a), (.ref e_)] ∧ Z.Warmed39 U.vm ∧ U.heap = h0) (fun _ _ _ _ _ => True) (fun _ U o_ U' => ∃ v_ L_, o_ = .returned v_ ∧ Q_add_0 Z a e_ mc mc1 aD kD aL aC h0 n0 v_ U'.heap L_ ∧ FrameEnd U o_ U' L_ ({ frames := 4, cells := 1, slots := 10, locals := 56 } : Room).cells ({ frames := 4, cells := 1, slots := 10, locals := 56 } : Room).slots) := by
  refine MetFree.of_bodySF (plainFor_of_name pn_2) hisR ?_
  intro p e s m args below meth c s₁ Bd hml0 hP hK
  obtain ⟨rfl, hZ, hh⟩ := hP
  have hx := Bd.exec
  have hby := Bd.bytes
  have hml : c.maxLocals = 2 := hml0
  have hown : s.vm.findClass S1 = some m.cls := findClass_of_methodNamed Bd.named
  have hnm := (name_of_methodNamed Bd.named Bd.method).1
  have hret := Bd.returns
  have X0 : Stand p l e ({ frames := 4, cells := 1, slots := 10, locals := 56 } : Room) s m #[(.ref a), (.ref e_)] below meth c s₁ [] 0 0 := Stand.of_body Bd
  have e0 : s₁.heap = h0 := by rw [← hh, Bd.state]; rfl
  have N0 := Fr.nil n0
  have pre0 : ∀ t_, Sp p e below s₁ (mkF m 0 #[.val (.ref a), .val (.ref e_)] []) t_ → Sp p e below s₁ (entryFrame m #[(.ref a), (.ref e_)] 2) t_ := fun t_ k_ => castTop (ef_16_RR m a e_) k_
  obtain ⟨S_DEF, V_DEF, S_LIT, E_LIT, O_LIT, S_HI, S_CA, C_CA⟩ := SS
  obtain ⟨Tf1, Xf1, ef1, stf1⟩ := getF X0 hx hZ hown (host := "") (Or.inl (tw hw 150 rfl)) (Via.of (tw hw 60 rfl)) e0 f3 (g := (mkF m 2 #[.val (.ref a), .val (.ref e_)] [(.ref a), (.ref a)])) rfl rfl (hb hby d16_2)
  obtain ⟨Tp2, hp2, Xp2, ep2, Wp2, stp2⟩ := putF Xf1 hx hZ hown (host := "") (Or.inl (tw hw 150 rfl)) (Via.of (tw hw 60 rfl)) ef1 f3 f0 (Or.inl (tw hw 22 rfl)) (tw hw 1 rfl) (ty := .int) (by decide) rfl rfl (g := (mkF m 7 #[.val (.ref a), .val (.ref e_)] [(.int (mc + (1 : Int32))), (.ref a)])) rfl rfl (hb hby d16_7)
  have Fwp2 : Fld Z hp2 a S5 "modCount" "I" (.int (mc + (1 : Int32))) := f3.same Wp2
  have Np2 := Fr.snoc Xp2 N0 ga
  have K3 : Keep h0 hp2 [a] := (Keep.refl h0 [a]).wr Wp2 (Or.inl (List.mem_of_getElem? (i := 0) rfl))
  have F4 := (f1.other Wp2 (Or.inr (slot_ne (Or.inl (tw hw 25 rfl)) (Or.inl (tw hw 22 rfl)) (by decide) (t := (.array (.object S3))) (t' := .int) (by decide) (by decide))))
  obtain ⟨Tf5, Xf5, ef5, stf5⟩ := getF Xp2 hx hZ hown (host := "") (Or.inl (tw hw 24 rfl)) Via.refl ep2 F4 (g := (mkF m 13 #[.val (.ref a), .val (.ref e_)] [(.ref a), (.ref e_), (.ref a)])) rfl rfl (hb hby d16_13)
  have F6 := (f2.other Wp2 (Or.inr (slot_ne (Or.inl (tw hw 75 rfl)) (Or.inl (tw hw 22 rfl)) (by decide) (t := .int) (t' := .int) (by decide) (by decide))))
  obtain ⟨Tf7, Xf7, ef7, stf7⟩ := getF Xf5 hx hZ hown (host := "") (Or.inl (tw hw 85 rfl)) Via.refl ef5 F6 (g := (mkF m 17 #[.val (.ref a), .val (.ref e_)] [(.ref a), (.ref aD), (.ref e_), (.ref a)])) rfl rfl (hb hby d16_17)
  have F8 := (f0.wr Wp2)
  have F9 := (f4.wr Wp2)
  have Z10 : n0 ≤ hp2.size := (Nat.le_trans Z0 (Keep.of_wr Wp2).1)
  have O11 : Old Z n0 hp2 := (O0.wr Wp2 ga)
  obtain ⟨cqk12, qk12, qk12'⟩ := F8.cell
  obtain ⟨_, _, ⟨Tk12, Lk12, kk12, nk12⟩, -, Xk12, ⟨Lck12, hQk12, lk12, yk12, zk12⟩, stk12⟩ := Xf7.privateBack hx (y := Y10) hown (mvT hZ (tw hw 151 rfl)) (mvT hZ (tw hw 152 rfl)) (mvT hZ (tw hw 154 rfl)) (Cond.privateMethod_at (mvP hZ (tw hw 153 rfl) (args := #[]))) (mvT hZ (tw hw 155 rfl)) (by decide) (backOf (W := 0) (rm_add3_0 l Z a0 hw [] a e_ (mc + (1 : Int32)) aD kD aL aC hp2 n0 Z10 O11 F8 F4 F6 Fwp2 F9 ⟨S_DEF, V_DEF, S_LIT, E_LIT, O_LIT, S_HI, S_CA, C_CA⟩ ga) hZ (tw hw 155 rfl) (tw hw 2 rfl) (by decide) (by decide)) (g := (mkF m 20 #[.val (.ref a), .val (.ref e_)] [(.int (0 : Int32)), (.ref aD), (.ref e_), (.ref a)])) rfl (by rw [hml]; rfl) (Steps.refl _) (a := a) (own_eq ef7 qk12) qk12' (argsL := [(.ref e_), (.ref aD), (.int (0 : Int32))]) (rest := []) (lenOf pd__Ljava_lang_Object__Ljava_lang_Object_I_V rfl) rfl (by show 2 * 0 + _ ≤ _; exact Nat.le_of_eq rfl) (hb hby d16_20) (fun _ _ => ⟨rfl, ef7, (by decide : 0 + 1 ≤ _), (by decide : 0 + 10 ≤ _)⟩)
  dsimp only [Pt.U, Pt.locs, Pt.cells, Pt.slots] at Xk12 lk12 yk12 zk12 stk12 hQk12
  subst lk12 yk12 zk12
  obtain ⟨bk12, kk12, rfl, Nk12q, Kk12q, Gk12_0, Qk12_0, Qk12_1, Qk12_2, Qk12_3, Qk12_4⟩ := hQk12
  have Y13 : h0.size ≤ hp2.size := (Nat.le_trans (Nat.le_refl h0.size) (Keep.of_wr Wp2).1)
  have g_bk12 : n0 ≤ bk12 := Nat.le_trans Z10 Gk12_0
  have y_bk12 : h0.size ≤ bk12 := Nat.le_trans Y13 Gk12_0
  have K14 : Keep h0 Tk12.heap [a] := K3.trans Kk12q (allS (P := fun x => x ∈ [a] ∨ h0.size ≤ x) (Or.inl (List.mem_of_getElem? (i := 0) rfl)) all0)
  have Nk12 := Fr.app Np2 Nk12q
  obtain ⟨fs, hlv, hrun, hended, hW, hsame⟩ := Xk12.leave (v := some (.int (1 : Int32))) (fun h => by rw [hret] at h; cases h)
  refine ⟨_, _, pre0 _ ?_, hrun, hended, _, _, rfl, ?_, ⟨_, rfl⟩, hW, hsame.mono (by decide) (by decide)⟩
  · refine XS.aloadN X0.here hx rfl (hb hby d16_0) rfl rfl ?_
    show Sp p e below s₁ (mkF m 1 #[.val (.ref a), .val (.ref e_)] [(.ref a)]) _
    refine XS.dup X0.here hx rfl (hb hby d16_1) rfl rfl ?_
    refine stf1 _ ?_
    refine XS.iconst Xf1.here hx rfl (hb hby d16_5) ?_
    refine XS.iadd Xf1.here hx rfl (hb hby d16_6) rfl ?_
    refine stp2 _ ?_
    refine XS.aloadN Xp2.here hx rfl (hb hby d16_10) rfl rfl ?_
    refine XS.aloadN Xp2.here hx rfl (hb hby d16_11) rfl rfl ?_
    refine XS.aloadN Xp2.here hx rfl (hb hby d16_12) rfl rfl ?_
    refine stf5 _ ?_
    refine XS.aloadN Xf5.here hx rfl (hb hby d16_16) rfl rfl ?_
    refine stf7 _ ?_
    refine stk12.trans ?_
    refine XS.iconst Xk12.here hx rfl (hb hby d16_23) ?_
    show Sp p e below Tk12 (mkF m 24 #[.val (.ref a), .val (.ref e_)] [(.int (1 : Int32))]) _
    exact retN Xk12 hx (t := .boolean) hret (by simp) (hb hby d16_24) hlv
  · show Q_add_0 Z a e_ mc mc1 aD kD aL aC h0 n0 _ Tk12.heap _
    exact ⟨bk12, kk12, rfl, Nk12, K14, y_bk12, Qk12_0, Qk12_1, (hmc ▸ Qk12_2), Qk12_3, Qk12_4⟩
def Q_add3_1 (Z : State) (a : Addr) (e_ : Addr) (b : Addr) (k : ClassId) (mc : Int32) (x0 : Addr) (aD : Addr) (kD : ClassId) (aL : Addr) (aC : Addr) (h0 : Heap) (n0 : Nat) (v : Option Value) (h : Heap) (L : List Loc) : Prop := v = none ∧ Fr n0 L ∧ Keep h0 h [a, b] ∧ Fld Z h a S1 "elementData" S2 (.ref b) ∧ Fld Z h a S1 "size" "I" (.int (2 : Int32)) ∧ Fld Z h a S5 "modCount" "I" (.int mc) ∧ Arv Z h b k (.object S3) (10 : Int32) [(.ref x0), (.ref e_), .null, .null, .null, .null, .null, .null, .null, .null] .null
set_option maxRecDepth 65536 in
set_option maxHeartbeats 40000000 in
theorem rm_add3_1 (l : Launch) (Z : State) (a0 : Array Value) (hw : ∀ d ∈ tables_1, d.before a0 Z = true) (ws : List Jvm.Cond) (a : Addr) (e_ : Addr) (b : Addr) (k : ClassId) (mc : Int32) (x0 : Addr) (aD : Addr) (kD : ClassId) (aL : Addr) (aC : Addr) (h0 : Heap) (n0 : Nat) (Z0 : n0 ≤ h0.size) (O0 : Old Z n0 h0) (f0 : Exa Z h0 a S1) (f1 : Fld Z h0 a S1 "elementData" S2 (.ref b)) (f2 : Fld Z h0 a S1 "size" "I" (.int (1 : Int32))) (f3 : Fld Z h0 a S5 "modCount" "I" (.int mc)) (f4 : Ins Z h0 e_ S3 true) (f5 : Arv Z h0 b k (.object S3) (10 : Int32) [(.ref x0), .null, .null, .null, .null, .null, .null, .null, .null, .null] .null) (f6 : Ovr Z k S3) (SS : own_start Z aD kD aL aC) (ga : n0 ≤ a) (gb : n0 ≤ b) (hab : a ≠ b) :
    MetFree l Y10 (head1 (Jvm.Cond.code Y10 jdk_38_method_24_code 4 none :: ws) ({ frames := 0, cells := 0, slots := 0, locals := 0 } : Room)) (fun A_ U => A_ = #[(.ref a), (.ref e_), (.ref b), (.int (1 : Int32))] ∧ Z.Warmed39 U.vm ∧ U.heap = h0) (fun _ _ _ _ _ => True) (fun _ U o_ U' => ∃ v_ L_, o_ = .returned v_ ∧ Q_add3_1 Z a e_ b k mc x0 aD kD aL aC h0 n0 v_ U'.heap L_ ∧ FrameEnd U o_ U' L_ ({ frames := 0, cells := 0, slots := 0, locals := 0 } : Room).cells ({ frames := 0, cells := 0, slots := 0, locals := 0 } : Room).slots) := by
  refine MetFree.of_bodySF (plainFor_of_name pn_2) hisR ?_
  intro p e s m args below meth c s₁ Bd hml0 hP hK
  obtain ⟨rfl, hZ, hh⟩ := hP
  have hx := Bd.exec
  have hby := Bd.bytes
  have hml : c.maxLocals = 4 := hml0
  have hown : s.vm.findClass S1 = some m.cls := findClass_of_methodNamed Bd.named
  have hnm := (name_of_methodNamed Bd.named Bd.method).1
  have hret := Bd.returns
  have X0 : Stand p l e ({ frames := 0, cells := 0, slots := 0, locals := 0 } : Room) s m #[(.ref a), (.ref e_), (.ref b), (.int (1 : Int32))] below meth c s₁ [] 0 0 := Stand.of_body Bd
  have e0 : s₁.heap = h0 := by rw [← hh, Bd.state]; rfl
  have N0 := Fr.nil n0
  have pre0 : ∀ t_, Sp p e below s₁ (mkF m 0 #[.val (.ref a), .val (.ref e_), .val (.ref b), .val (.int (1 : Int32))] []) t_ → Sp p e below s₁ (entryFrame m #[(.ref a), (.ref e_), (.ref b), (.int (1 : Int32))] 4) t_ := fun t_ k_ => castTop (ef_17_RRRI m a e_ b (1 : Int32)) k_
  obtain ⟨S_DEF, V_DEF, S_LIT, E_LIT, O_LIT, S_HI, S_CA, C_CA⟩ := SS
  obtain ⟨clv1, Arv1, qv1, Sv1, Nv1, Hv1, Gv1⟩ := id f5
  have in2 : ¬ ((1 : Int32) < 0 ∨ clv1.slots.size ≤ ((1 : Int32)).toNatClampNeg) := inb_of Sv1 ⟨by decide, by decide⟩
  obtain ⟨Tw3, hw3, Xw3, ew3, Ww3, stw3⟩ := stR X0 hx hZ e0 Arv1 (j := (1 : Int32)) in2 rfl (Sto.ofV Arv1 qv1 f6 f4) (g := (mkF m 14 #[.val (.ref a), .val (.ref e_), .val (.ref b), .val (.int (1 : Int32))] [(.ref e_), (.int (1 : Int32)), (.ref b)])) rfl rfl (hb hby d17_14)
  have Vw3 : Arv Z hw3 b k (.object S3) (10 : Int32) [(.ref x0), (.ref e_), .null, .null, .null, .null, .null, .null, .null, .null] .null := Arv.set Arv1 qv1 Sv1 Nv1 Hv1 Gv1 rfl Ww3 1 rfl (Nat.le_of_ble_eq_true rfl)
  have Nw3 := Fr.snoc Xw3 N0 gb
  have K4 : Keep h0 hw3 [a, b] := (Keep.refl h0 [a, b]).wr Ww3 (Or.inl (List.mem_of_getElem? (i := 1) rfl))
  have F5 := (f2.other Ww3 (Or.inl hab))
  have F6 := (f0.wr Ww3)
  obtain ⟨Tp7, hp7, Xp7, ep7, Wp7, stp7⟩ := putF Xw3 hx hZ hown (host := "") (Or.inl (tw hw 85 rfl)) Via.refl ew3 F5 F6 (Or.inl (tw hw 75 rfl)) (tw hw 1 rfl) (ty := .int) (by decide) rfl rfl (g := (mkF m 19 #[.val (.ref a), .val (.ref e_), .val (.ref b), .val (.int (1 : Int32))] [(.int (2 : Int32)), (.ref a)])) rfl rfl (hb hby d17_19)
  have Fwp7 : Fld Z hp7 a S1 "size" "I" (.int (2 : Int32)) := F5.same Wp7
  have Np7 := Fr.snoc Xp7 Nw3 ga
  have K8 : Keep h0 hp7 [a, b] := K4.wr Wp7 (Or.inl (List.mem_of_getElem? (i := 0) rfl))
  have F9 := ((f1.other Ww3 (Or.inl hab)).other Wp7 (Or.inr (slot_ne (Or.inl (tw hw 25 rfl)) (Or.inl (tw hw 75 rfl)) (by decide) (t := (.array (.object S3))) (t' := .int) (by decide) (by decide))))
  have F10 := ((f3.other Ww3 (Or.inl hab)).other Wp7 (Or.inr (slot_ne (Or.inl (tw hw 22 rfl)) (Or.inl (tw hw 75 rfl)) (by decide) (t := .int) (t' := .int) (by decide) (by decide))))
  have F11 := (Vw3.other Wp7 (Ne.symm hab))
  obtain ⟨fs, hlv, hrun, hended, hW, hsame⟩ := Xp7.leave (v := none) (fun _ => rfl)
  refine ⟨_, _, pre0 _ ?_, hrun, hended, _, _, rfl, ?_, ⟨_, rfl⟩, hW, hsame.mono (by decide) (by decide)⟩
  · refine XS.iloadN X0.here hx rfl (hb hby d17_0) rfl ?_
    show Sp p e below s₁ (mkF m 1 #[.val (.ref a), .val (.ref e_), .val (.ref b), .val (.int (1 : Int32))] [(.int (1 : Int32))]) _
    refine XS.aloadN X0.here hx rfl (hb hby d17_1) rfl rfl ?_
    show Sp p e below s₁ (mkF m 2 #[.val (.ref a), .val (.ref e_), .val (.ref b), .val (.int (1 : Int32))] [(.ref b), (.int (1 : Int32))]) _
    refine X0.arraylength hx (own_eq e0 Arv1.1) (State.isArrayOf_alike hZ.alike Arv1.2.1) (g := (mkF m 2 #[.val (.ref a), .val (.ref e_), .val (.ref b), .val (.int (1 : Int32))] [(.ref b), (.int (1 : Int32))])) rfl rfl (hb hby d17_2) _ ?_
    rw [len_of Sv1 Nv1]
    show Sp p e below s₁ (mkF m 3 #[.val (.ref a), .val (.ref e_), .val (.ref b), .val (.int (1 : Int32))] [(.int (10 : Int32)), (.int (1 : Int32))]) _
    refine XS.icmpYes X0.here hx rfl (pc0 := 3) (pc' := 11) rfl (hb hby d17_3) rfl (feq (by decide : ¬ ((1 : Int32) = (10 : Int32)))).2 (by decide) (by decide) ?_
    refine XS.aloadN X0.here hx rfl (hb hby d17_11) rfl rfl ?_
    refine XS.iloadN X0.here hx rfl (hb hby d17_12) rfl ?_
    refine XS.aloadN X0.here hx rfl (hb hby d17_13) rfl rfl ?_
    refine stw3 _ ?_
    refine XS.aloadN Xw3.here hx rfl (hb hby d17_15) rfl rfl ?_
    refine XS.iloadN Xw3.here hx rfl (hb hby d17_16) rfl ?_
    refine XS.iconst Xw3.here hx rfl (hb hby d17_17) ?_
    refine XS.iadd Xw3.here hx rfl (hb hby d17_18) rfl ?_
    refine stp7 _ ?_
    show Sp p e below Tp7 (mkF m 22 #[.val (.ref a), .val (.ref e_), .val (.ref b), .val (.int (1 : Int32))] []) _
    exact Xp7.returnOut hx hret (hb hby d17_22) hlv
  · show Q_add3_1 Z a e_ b k mc x0 aD kD aL aC h0 n0 _ Tp7.heap _
    rw [ep7]
    exact ⟨rfl, Np7, K8, F9, Fwp7, F10, F11⟩
def Q_add_1 (Z : State) (a : Addr) (e_ : Addr) (b : Addr) (k : ClassId) (mc : Int32) (mc1 : Int32) (x0 : Addr) (aD : Addr) (kD : ClassId) (aL : Addr) (aC : Addr) (h0 : Heap) (n0 : Nat) (v : Option Value) (h : Heap) (L : List Loc) : Prop := v = some (.int (1 : Int32)) ∧ Fr n0 L ∧ Keep h0 h [a, b] ∧ Fld Z h a S1 "elementData" S2 (.ref b) ∧ Fld Z h a S1 "size" "I" (.int (2 : Int32)) ∧ Fld Z h a S5 "modCount" "I" (.int mc1) ∧ Arv Z h b k (.object S3) (10 : Int32) [(.ref x0), (.ref e_), .null, .null, .null, .null, .null, .null, .null, .null] .null
set_option maxRecDepth 65536 in
set_option maxHeartbeats 40000000 in
theorem rm_add_1 (l : Launch) (Z : State) (a0 : Array Value) (hw : ∀ d ∈ tables_1, d.before a0 Z = true) (ws : List Jvm.Cond) (a : Addr) (e_ : Addr) (b : Addr) (k : ClassId) (mc : Int32) (mc1 : Int32) (x0 : Addr) (aD : Addr) (kD : ClassId) (aL : Addr) (aC : Addr) (h0 : Heap) (n0 : Nat) (Z0 : n0 ≤ h0.size) (O0 : Old Z n0 h0) (f0 : Exa Z h0 a S1) (f1 : Fld Z h0 a S1 "elementData" S2 (.ref b)) (f2 : Fld Z h0 a S1 "size" "I" (.int (1 : Int32))) (f3 : Fld Z h0 a S5 "modCount" "I" (.int mc)) (f4 : Ins Z h0 e_ S3 true) (f5 : Arv Z h0 b k (.object S3) (10 : Int32) [(.ref x0), .null, .null, .null, .null, .null, .null, .null, .null, .null] .null) (f6 : Ovr Z k S3) (SS : own_start Z aD kD aL aC) (ga : n0 ≤ a) (gb : n0 ≤ b) (hab : a ≠ b) (hmc : mc1 = mc + 1) :
    MetFree l Y11 (head1 (Jvm.Cond.code Y11 jdk_38_method_25_code 2 (some .boolean) :: ws) ({ frames := 1, cells := 0, slots := 0, locals := 15 } : Room)) (fun A_ U => A_ = #[(.ref a), (.ref e_)] ∧ Z.Warmed39 U.vm ∧ U.heap = h0) (fun _ _ _ _ _ => True) (fun _ U o_ U' => ∃ v_ L_, o_ = .returned v_ ∧ Q_add_1 Z a e_ b k mc mc1 x0 aD kD aL aC h0 n0 v_ U'.heap L_ ∧ FrameEnd U o_ U' L_ ({ frames := 1, cells := 0, slots := 0, locals := 15 } : Room).cells ({ frames := 1, cells := 0, slots := 0, locals := 15 } : Room).slots) := by
  refine MetFree.of_bodySF (plainFor_of_name pn_2) hisR ?_
  intro p e s m args below meth c s₁ Bd hml0 hP hK
  obtain ⟨rfl, hZ, hh⟩ := hP
  have hx := Bd.exec
  have hby := Bd.bytes
  have hml : c.maxLocals = 2 := hml0
  have hown : s.vm.findClass S1 = some m.cls := findClass_of_methodNamed Bd.named
  have hnm := (name_of_methodNamed Bd.named Bd.method).1
  have hret := Bd.returns
  have X0 : Stand p l e ({ frames := 1, cells := 0, slots := 0, locals := 15 } : Room) s m #[(.ref a), (.ref e_)] below meth c s₁ [] 0 0 := Stand.of_body Bd
  have e0 : s₁.heap = h0 := by rw [← hh, Bd.state]; rfl
  have N0 := Fr.nil n0
  have pre0 : ∀ t_, Sp p e below s₁ (mkF m 0 #[.val (.ref a), .val (.ref e_)] []) t_ → Sp p e below s₁ (entryFrame m #[(.ref a), (.ref e_)] 2) t_ := fun t_ k_ => castTop (ef_16_RR m a e_) k_
  obtain ⟨S_DEF, V_DEF, S_LIT, E_LIT, O_LIT, S_HI, S_CA, C_CA⟩ := SS
  obtain ⟨Tf1, Xf1, ef1, stf1⟩ := getF X0 hx hZ hown (host := "") (Or.inl (tw hw 150 rfl)) (Via.of (tw hw 60 rfl)) e0 f3 (g := (mkF m 2 #[.val (.ref a), .val (.ref e_)] [(.ref a), (.ref a)])) rfl rfl (hb hby d16_2)
  obtain ⟨Tp2, hp2, Xp2, ep2, Wp2, stp2⟩ := putF Xf1 hx hZ hown (host := "") (Or.inl (tw hw 150 rfl)) (Via.of (tw hw 60 rfl)) ef1 f3 f0 (Or.inl (tw hw 22 rfl)) (tw hw 1 rfl) (ty := .int) (by decide) rfl rfl (g := (mkF m 7 #[.val (.ref a), .val (.ref e_)] [(.int (mc + (1 : Int32))), (.ref a)])) rfl rfl (hb hby d16_7)
  have Fwp2 : Fld Z hp2 a S5 "modCount" "I" (.int (mc + (1 : Int32))) := f3.same Wp2
  have Np2 := Fr.snoc Xp2 N0 ga
  have K3 : Keep h0 hp2 [a, b] := (Keep.refl h0 [a, b]).wr Wp2 (Or.inl (List.mem_of_getElem? (i := 0) rfl))
  have F4 := (f1.other Wp2 (Or.inr (slot_ne (Or.inl (tw hw 25 rfl)) (Or.inl (tw hw 22 rfl)) (by decide) (t := (.array (.object S3))) (t' := .int) (by decide) (by decide))))
  obtain ⟨Tf5, Xf5, ef5, stf5⟩ := getF Xp2 hx hZ hown (host := "") (Or.inl (tw hw 24 rfl)) Via.refl ep2 F4 (g := (mkF m 13 #[.val (.ref a), .val (.ref e_)] [(.ref a), (.ref e_), (.ref a)])) rfl rfl (hb hby d16_13)
  have F6 := (f2.other Wp2 (Or.inr (slot_ne (Or.inl (tw hw 75 rfl)) (Or.inl (tw hw 22 rfl)) (by decide) (t := .int) (t' := .int) (by decide) (by decide))))
  obtain ⟨Tf7, Xf7, ef7, stf7⟩ := getF Xf5 hx hZ hown (host := "") (Or.inl (tw hw 85 rfl)) Via.refl ef5 F6 (g := (mkF m 17 #[.val (.ref a), .val (.ref e_)] [(.ref a), (.ref b), (.ref e_), (.ref a)])) rfl rfl (hb hby d16_17)
  have F8 := (f0.wr Wp2)
  have F9 := (f4.wr Wp2)
  have F10 := (f5.other Wp2 (Ne.symm hab))
  have F11 := f6
  have Z12 : n0 ≤ hp2.size := (Nat.le_trans Z0 (Keep.of_wr Wp2).1)
  have O13 : Old Z n0 hp2 := (O0.wr Wp2 ga)
  obtain ⟨cqk14, qk14, qk14'⟩ := F8.cell
  obtain ⟨_, _, ⟨Tk14, Lk14, kk14, nk14⟩, -, Xk14, ⟨Lck14, hQk14, lk14, yk14, zk14⟩, stk14⟩ := Xf7.privateBack hx (y := Y10) hown (mvT hZ (tw hw 151 rfl)) (mvT hZ (tw hw 152 rfl)) (mvT hZ (tw hw 154 rfl)) (Cond.privateMethod_at (mvP hZ (tw hw 153 rfl) (args := #[]))) (mvT hZ (tw hw 155 rfl)) (by decide) (backOf (W := 0) (rm_add3_1 l Z a0 hw [] a e_ b k (mc + (1 : Int32)) x0 aD kD aL aC hp2 n0 Z12 O13 F8 F4 F6 Fwp2 F9 F10 F11 ⟨S_DEF, V_DEF, S_LIT, E_LIT, O_LIT, S_HI, S_CA, C_CA⟩ ga gb hab) hZ (tw hw 155 rfl) (tw hw 2 rfl) (by decide) (by decide)) (g := (mkF m 20 #[.val (.ref a), .val (.ref e_)] [(.int (1 : Int32)), (.ref b), (.ref e_), (.ref a)])) rfl (by rw [hml]; rfl) (Steps.refl _) (a := a) (own_eq ef7 qk14) qk14' (argsL := [(.ref e_), (.ref b), (.int (1 : Int32))]) (rest := []) (lenOf pd__Ljava_lang_Object__Ljava_lang_Object_I_V rfl) rfl (by show 2 * 0 + _ ≤ _; exact Nat.le_of_eq rfl) (hb hby d16_20) (fun _ _ => ⟨rfl, ef7, (by decide : 0 + 0 ≤ _), (by decide : 0 + 0 ≤ _)⟩)
  dsimp only [Pt.U, Pt.locs, Pt.cells, Pt.slots] at Xk14 lk14 yk14 zk14 stk14 hQk14
  subst lk14 yk14 zk14
  obtain ⟨rfl, Nk14q, Kk14q, Qk14_0, Qk14_1, Qk14_2, Qk14_3⟩ := hQk14
  have K15 : Keep h0 Tk14.heap [a, b] := K3.trans Kk14q (allS (P := fun x => x ∈ [a, b] ∨ h0.size ≤ x) (Or.inl (List.mem_of_getElem? (i := 0) rfl)) (allS (P := fun x => x ∈ [a, b] ∨ h0.size ≤ x) (Or.inl (List.mem_of_getElem? (i := 1) rfl)) all0))
  have Nk14 := Fr.app Np2 Nk14q
  obtain ⟨fs, hlv, hrun, hended, hW, hsame⟩ := Xk14.leave (v := some (.int (1 : Int32))) (fun h => by rw [hret] at h; cases h)
  refine ⟨_, _, pre0 _ ?_, hrun, hended, _, _, rfl, ?_, ⟨_, rfl⟩, hW, hsame.mono (by decide) (by decide)⟩
  · refine XS.aloadN X0.here hx rfl (hb hby d16_0) rfl rfl ?_
    show Sp p e below s₁ (mkF m 1 #[.val (.ref a), .val (.ref e_)] [(.ref a)]) _
    refine XS.dup X0.here hx rfl (hb hby d16_1) rfl rfl ?_
    refine stf1 _ ?_
    refine XS.iconst Xf1.here hx rfl (hb hby d16_5) ?_
    refine XS.iadd Xf1.here hx rfl (hb hby d16_6) rfl ?_
    refine stp2 _ ?_
    refine XS.aloadN Xp2.here hx rfl (hb hby d16_10) rfl rfl ?_
    refine XS.aloadN Xp2.here hx rfl (hb hby d16_11) rfl rfl ?_
    refine XS.aloadN Xp2.here hx rfl (hb hby d16_12) rfl rfl ?_
    refine stf5 _ ?_
    refine XS.aloadN Xf5.here hx rfl (hb hby d16_16) rfl rfl ?_
    refine stf7 _ ?_
    refine stk14.trans ?_
    refine XS.iconst Xk14.here hx rfl (hb hby d16_23) ?_
    show Sp p e below Tk14 (mkF m 24 #[.val (.ref a), .val (.ref e_)] [(.int (1 : Int32))]) _
    exact retN Xk14 hx (t := .boolean) hret (by simp) (hb hby d16_24) hlv
  · show Q_add_1 Z a e_ b k mc mc1 x0 aD kD aL aC h0 n0 _ Tk14.heap _
    exact ⟨rfl, Nk14, K15, Qk14_0, Qk14_1, (hmc ▸ Qk14_2), Qk14_3⟩
def Q_add3_2 (Z : State) (a : Addr) (e_ : Addr) (b : Addr) (k : ClassId) (mc : Int32) (x0 : Addr) (x1 : Addr) (aD : Addr) (kD : ClassId) (aL : Addr) (aC : Addr) (h0 : Heap) (n0 : Nat) (v : Option Value) (h : Heap) (L : List Loc) : Prop := v = none ∧ Fr n0 L ∧ Keep h0 h [a, b] ∧ Fld Z h a S1 "elementData" S2 (.ref b) ∧ Fld Z h a S1 "size" "I" (.int (3 : Int32)) ∧ Fld Z h a S5 "modCount" "I" (.int mc) ∧ Arv Z h b k (.object S3) (10 : Int32) [(.ref x0), (.ref x1), (.ref e_), .null, .null, .null, .null, .null, .null, .null] .null
set_option maxRecDepth 65536 in
set_option maxHeartbeats 40000000 in
theorem rm_add3_2 (l : Launch) (Z : State) (a0 : Array Value) (hw : ∀ d ∈ tables_1, d.before a0 Z = true) (ws : List Jvm.Cond) (a : Addr) (e_ : Addr) (b : Addr) (k : ClassId) (mc : Int32) (x0 : Addr) (x1 : Addr) (aD : Addr) (kD : ClassId) (aL : Addr) (aC : Addr) (h0 : Heap) (n0 : Nat) (Z0 : n0 ≤ h0.size) (O0 : Old Z n0 h0) (f0 : Exa Z h0 a S1) (f1 : Fld Z h0 a S1 "elementData" S2 (.ref b)) (f2 : Fld Z h0 a S1 "size" "I" (.int (2 : Int32))) (f3 : Fld Z h0 a S5 "modCount" "I" (.int mc)) (f4 : Ins Z h0 e_ S3 true) (f5 : Arv Z h0 b k (.object S3) (10 : Int32) [(.ref x0), (.ref x1), .null, .null, .null, .null, .null, .null, .null, .null] .null) (f6 : Ovr Z k S3) (SS : own_start Z aD kD aL aC) (ga : n0 ≤ a) (gb : n0 ≤ b) (hab : a ≠ b) :
    MetFree l Y10 (head1 (Jvm.Cond.code Y10 jdk_38_method_24_code 4 none :: ws) ({ frames := 0, cells := 0, slots := 0, locals := 0 } : Room)) (fun A_ U => A_ = #[(.ref a), (.ref e_), (.ref b), (.int (2 : Int32))] ∧ Z.Warmed39 U.vm ∧ U.heap = h0) (fun _ _ _ _ _ => True) (fun _ U o_ U' => ∃ v_ L_, o_ = .returned v_ ∧ Q_add3_2 Z a e_ b k mc x0 x1 aD kD aL aC h0 n0 v_ U'.heap L_ ∧ FrameEnd U o_ U' L_ ({ frames := 0, cells := 0, slots := 0, locals := 0 } : Room).cells ({ frames := 0, cells := 0, slots := 0, locals := 0 } : Room).slots) := by
  refine MetFree.of_bodySF (plainFor_of_name pn_2) hisR ?_
  intro p e s m args below meth c s₁ Bd hml0 hP hK
  obtain ⟨rfl, hZ, hh⟩ := hP
  have hx := Bd.exec
  have hby := Bd.bytes
  have hml : c.maxLocals = 4 := hml0
  have hown : s.vm.findClass S1 = some m.cls := findClass_of_methodNamed Bd.named
  have hnm := (name_of_methodNamed Bd.named Bd.method).1
  have hret := Bd.returns
  have X0 : Stand p l e ({ frames := 0, cells := 0, slots := 0, locals := 0 } : Room) s m #[(.ref a), (.ref e_), (.ref b), (.int (2 : Int32))] below meth c s₁ [] 0 0 := Stand.of_body Bd
  have e0 : s₁.heap = h0 := by rw [← hh, Bd.state]; rfl
  have N0 := Fr.nil n0
  have pre0 : ∀ t_, Sp p e below s₁ (mkF m 0 #[.val (.ref a), .val (.ref e_), .val (.ref b), .val (.int (2 : Int32))] []) t_ → Sp p e below s₁ (entryFrame m #[(.ref a), (.ref e_), (.ref b), (.int (2 : Int32))] 4) t_ := fun t_ k_ => castTop (ef_17_RRRI m a e_ b (2 : Int32)) k_
  obtain ⟨S_DEF, V_DEF, S_LIT, E_LIT, O_LIT, S_HI, S_CA, C_CA⟩ := SS
  obtain ⟨clv1, Arv1, qv1, Sv1, Nv1, Hv1, Gv1⟩ := id f5
  have in2 : ¬ ((2 : Int32) < 0 ∨ clv1.slots.size ≤ ((2 : Int32)).toNatClampNeg) := inb_of Sv1 ⟨by decide, by decide⟩
  obtain ⟨Tw3, hw3, Xw3, ew3, Ww3, stw3⟩ := stR X0 hx hZ e0 Arv1 (j := (2 : Int32)) in2 rfl (Sto.ofV Arv1 qv1 f6 f4) (g := (mkF m 14 #[.val (.ref a), .val (.ref e_), .val (.ref b), .val (.int (2 : Int32))] [(.ref e_), (.int (2 : Int32)), (.ref b)])) rfl rfl (hb hby d17_14)
  have Vw3 : Arv Z hw3 b k (.object S3) (10 : Int32) [(.ref x0), (.ref x1), (.ref e_), .null, .null, .null, .null, .null, .null, .null] .null := Arv.set Arv1 qv1 Sv1 Nv1 Hv1 Gv1 rfl Ww3 2 rfl (Nat.le_of_ble_eq_true rfl)
  have Nw3 := Fr.snoc Xw3 N0 gb
  have K4 : Keep h0 hw3 [a, b] := (Keep.refl h0 [a, b]).wr Ww3 (Or.inl (List.mem_of_getElem? (i := 1) rfl))
  have F5 := (f2.other Ww3 (Or.inl hab))
  have F6 := (f0.wr Ww3)
  obtain ⟨Tp7, hp7, Xp7, ep7, Wp7, stp7⟩ := putF Xw3 hx hZ hown (host := "") (Or.inl (tw hw 85 rfl)) Via.refl ew3 F5 F6 (Or.inl (tw hw 75 rfl)) (tw hw 1 rfl) (ty := .int) (by decide) rfl rfl (g := (mkF m 19 #[.val (.ref a), .val (.ref e_), .val (.ref b), .val (.int (2 : Int32))] [(.int (3 : Int32)), (.ref a)])) rfl rfl (hb hby d17_19)
  have Fwp7 : Fld Z hp7 a S1 "size" "I" (.int (3 : Int32)) := F5.same Wp7
  have Np7 := Fr.snoc Xp7 Nw3 ga
  have K8 : Keep h0 hp7 [a, b] := K4.wr Wp7 (Or.inl (List.mem_of_getElem? (i := 0) rfl))
  have F9 := ((f1.other Ww3 (Or.inl hab)).other Wp7 (Or.inr (slot_ne (Or.inl (tw hw 25 rfl)) (Or.inl (tw hw 75 rfl)) (by decide) (t := (.array (.object S3))) (t' := .int) (by decide) (by decide))))
  have F10 := ((f3.other Ww3 (Or.inl hab)).other Wp7 (Or.inr (slot_ne (Or.inl (tw hw 22 rfl)) (Or.inl (tw hw 75 rfl)) (by decide) (t := .int) (t' := .int) (by decide) (by decide))))
  have F11 := (Vw3.other Wp7 (Ne.symm hab))
  obtain ⟨fs, hlv, hrun, hended, hW, hsame⟩ := Xp7.leave (v := none) (fun _ => rfl)
  refine ⟨_, _, pre0 _ ?_, hrun, hended, _, _, rfl, ?_, ⟨_, rfl⟩, hW, hsame.mono (by decide) (by decide)⟩
  · refine XS.iloadN X0.here hx rfl (hb hby d17_0) rfl ?_
    show Sp p e below s₁ (mkF m 1 #[.val (.ref a), .val (.ref e_), .val (.ref b), .val (.int (2 : Int32))] [(.int (2 : Int32))]) _
    refine XS.aloadN X0.here hx rfl (hb hby d17_1) rfl rfl ?_
    show Sp p e below s₁ (mkF m 2 #[.val (.ref a), .val (.ref e_), .val (.ref b), .val (.int (2 : Int32))] [(.ref b), (.int (2 : Int32))]) _
    refine X0.arraylength hx (own_eq e0 Arv1.1) (State.isArrayOf_alike hZ.alike Arv1.2.1) (g := (mkF m 2 #[.val (.ref a), .val (.ref e_), .val (.ref b), .val (.int (2 : Int32))] [(.ref b), (.int (2 : Int32))])) rfl rfl (hb hby d17_2) _ ?_
    rw [len_of Sv1 Nv1]
    show Sp p e below s₁ (mkF m 3 #[.val (.ref a), .val (.ref e_), .val (.ref b), .val (.int (2 : Int32))] [(.int (10 : Int32)), (.int (2 : Int32))]) _
    refine XS.icmpYes X0.here hx rfl (pc0 := 3) (pc' := 11) rfl (hb hby d17_3) rfl (feq (by decide : ¬ ((2 : Int32) = (10 : Int32)))).2 (by decide) (by decide) ?_
    refine XS.aloadN X0.here hx rfl (hb hby d17_11) rfl rfl ?_
    refine XS.iloadN X0.here hx rfl (hb hby d17_12) rfl ?_
    refine XS.aloadN X0.here hx rfl (hb hby d17_13) rfl rfl ?_
    refine stw3 _ ?_
    refine XS.aloadN Xw3.here hx rfl (hb hby d17_15) rfl rfl ?_
    refine XS.iloadN Xw3.here hx rfl (hb hby d17_16) rfl ?_
    refine XS.iconst Xw3.here hx rfl (hb hby d17_17) ?_
    refine XS.iadd Xw3.here hx rfl (hb hby d17_18) rfl ?_
    refine stp7 _ ?_
    show Sp p e below Tp7 (mkF m 22 #[.val (.ref a), .val (.ref e_), .val (.ref b), .val (.int (2 : Int32))] []) _
    exact Xp7.returnOut hx hret (hb hby d17_22) hlv
  · show Q_add3_2 Z a e_ b k mc x0 x1 aD kD aL aC h0 n0 _ Tp7.heap _
    rw [ep7]
    exact ⟨rfl, Np7, K8, F9, Fwp7, F10, F11⟩
def Q_add_2 (Z : State) (a : Addr) (e_ : Addr) (b : Addr) (k : ClassId) (mc : Int32) (mc1 : Int32) (x0 : Addr) (x1 : Addr) (aD : Addr) (kD : ClassId) (aL : Addr) (aC : Addr) (h0 : Heap) (n0 : Nat) (v : Option Value) (h : Heap) (L : List Loc) : Prop := v = some (.int (1 : Int32)) ∧ Fr n0 L ∧ Keep h0 h [a, b] ∧ Fld Z h a S1 "elementData" S2 (.ref b) ∧ Fld Z h a S1 "size" "I" (.int (3 : Int32)) ∧ Fld Z h a S5 "modCount" "I" (.int mc1) ∧ Arv Z h b k (.object S3) (10 : Int32) [(.ref x0), (.ref x1), (.ref e_), .null, .null, .null, .null, .null, .null, .null] .null
set_option maxRecDepth 65536 in
set_option maxHeartbeats 40000000 in
theorem rm_add_2 (l : Launch) (Z : State) (a0 : Array Value) (hw : ∀ d ∈ tables_1, d.before a0 Z = true) (ws : List Jvm.Cond) (a : Addr) (e_ : Addr) (b : Addr) (k : ClassId) (mc : Int32) (mc1 : Int32) (x0 : Addr) (x1 : Addr) (aD : Addr) (kD : ClassId) (aL : Addr) (aC : Addr) (h0 : Heap) (n0 : Nat) (Z0 : n0 ≤ h0.size) (O0 : Old Z n0 h0) (f0 : Exa Z h0 a S1) (f1 : Fld Z h0 a S1 "elementData" S2 (.ref b)) (f2 : Fld Z h0 a S1 "size" "I" (.int (2 : Int32))) (f3 : Fld Z h0 a S5 "modCount" "I" (.int mc)) (f4 : Ins Z h0 e_ S3 true) (f5 : Arv Z h0 b k (.object S3) (10 : Int32) [(.ref x0), (.ref x1), .null, .null, .null, .null, .null, .null, .null, .null] .null) (f6 : Ovr Z k S3) (SS : own_start Z aD kD aL aC) (ga : n0 ≤ a) (gb : n0 ≤ b) (hab : a ≠ b) (hmc : mc1 = mc + 1) :
    MetFree l Y11 (head1 (Jvm.Cond.code Y11 jdk_38_method_25_code 2 (some .boolean) :: ws) ({ frames := 1, cells := 0, slots := 0, locals := 15 } : Room)) (fun A_ U => A_ = #[(.ref a), (.ref e_)] ∧ Z.Warmed39 U.vm ∧ U.heap = h0) (fun _ _ _ _ _ => True) (fun _ U o_ U' => ∃ v_ L_, o_ = .returned v_ ∧ Q_add_2 Z a e_ b k mc mc1 x0 x1 aD kD aL aC h0 n0 v_ U'.heap L_ ∧ FrameEnd U o_ U' L_ ({ frames := 1, cells := 0, slots := 0, locals := 15 } : Room).cells ({ frames := 1, cells := 0, slots := 0, locals := 15 } : Room).slots) := by
  refine MetFree.of_bodySF (plainFor_of_name pn_2) hisR ?_
  intro p e s m args below meth c s₁ Bd hml0 hP hK
  obtain ⟨rfl, hZ, hh⟩ := hP
  have hx := Bd.exec
  have hby := Bd.bytes
  have hml : c.maxLocals = 2 := hml0
  have hown : s.vm.findClass S1 = some m.cls := findClass_of_methodNamed Bd.named
  have hnm := (name_of_methodNamed Bd.named Bd.method).1
  have hret := Bd.returns
  have X0 : Stand p l e ({ frames := 1, cells := 0, slots := 0, locals := 15 } : Room) s m #[(.ref a), (.ref e_)] below meth c s₁ [] 0 0 := Stand.of_body Bd
  have e0 : s₁.heap = h0 := by rw [← hh, Bd.state]; rfl
  have N0 := Fr.nil n0
  have pre0 : ∀ t_, Sp p e below s₁ (mkF m 0 #[.val (.ref a), .val (.ref e_)] []) t_ → Sp p e below s₁ (entryFrame m #[(.ref a), (.ref e_)] 2) t_ := fun t_ k_ => castTop (ef_16_RR m a e_) k_
  obtain ⟨S_DEF, V_DEF, S_LIT, E_LIT, O_LIT, S_HI, S_CA, C_CA⟩ := SS
  obtain ⟨Tf1, Xf1, ef1, stf1⟩ := getF X0 hx hZ hown (host := "") (Or.inl (tw hw 150 rfl)) (Via.of (tw hw 60 rfl)) e0 f3 (g := (mkF m 2 #[.val (.ref a), .val (.ref e_)] [(.ref a), (.ref a)])) rfl rfl (hb hby d16_2)
  obtain ⟨Tp2, hp2, Xp2, ep2, Wp2, stp2⟩ := putF Xf1 hx hZ hown (host := "") (Or.inl (tw hw 150 rfl)) (Via.of (tw hw 60 rfl)) ef1 f3 f0 (Or.inl (tw hw 22 rfl)) (tw hw 1 rfl) (ty := .int) (by decide) rfl rfl (g := (mkF m 7 #[.val (.ref a), .val (.ref e_)] [(.int (mc + (1 : Int32))), (.ref a)])) rfl rfl (hb hby d16_7)
  have Fwp2 : Fld Z hp2 a S5 "modCount" "I" (.int (mc + (1 : Int32))) := f3.same Wp2
  have Np2 := Fr.snoc Xp2 N0 ga
  have K3 : Keep h0 hp2 [a, b] := (Keep.refl h0 [a, b]).wr Wp2 (Or.inl (List.mem_of_getElem? (i := 0) rfl))
  have F4 := (f1.other Wp2 (Or.inr (slot_ne (Or.inl (tw hw 25 rfl)) (Or.inl (tw hw 22 rfl)) (by decide) (t := (.array (.object S3))) (t' := .int) (by decide) (by decide))))
  obtain ⟨Tf5, Xf5, ef5, stf5⟩ := getF Xp2 hx hZ hown (host := "") (Or.inl (tw hw 24 rfl)) Via.refl ep2 F4 (g := (mkF m 13 #[.val (.ref a), .val (.ref e_)] [(.ref a), (.ref e_), (.ref a)])) rfl rfl (hb hby d16_13)
  have F6 := (f2.other Wp2 (Or.inr (slot_ne (Or.inl (tw hw 75 rfl)) (Or.inl (tw hw 22 rfl)) (by decide) (t := .int) (t' := .int) (by decide) (by decide))))
  obtain ⟨Tf7, Xf7, ef7, stf7⟩ := getF Xf5 hx hZ hown (host := "") (Or.inl (tw hw 85 rfl)) Via.refl ef5 F6 (g := (mkF m 17 #[.val (.ref a), .val (.ref e_)] [(.ref a), (.ref b), (.ref e_), (.ref a)])) rfl rfl (hb hby d16_17)
  have F8 := (f0.wr Wp2)
  have F9 := (f4.wr Wp2)
  have F10 := (f5.other Wp2 (Ne.symm hab))
  have F11 := f6
  have Z12 : n0 ≤ hp2.size := (Nat.le_trans Z0 (Keep.of_wr Wp2).1)
  have O13 : Old Z n0 hp2 := (O0.wr Wp2 ga)
  obtain ⟨cqk14, qk14, qk14'⟩ := F8.cell
  obtain ⟨_, _, ⟨Tk14, Lk14, kk14, nk14⟩, -, Xk14, ⟨Lck14, hQk14, lk14, yk14, zk14⟩, stk14⟩ := Xf7.privateBack hx (y := Y10) hown (mvT hZ (tw hw 151 rfl)) (mvT hZ (tw hw 152 rfl)) (mvT hZ (tw hw 154 rfl)) (Cond.privateMethod_at (mvP hZ (tw hw 153 rfl) (args := #[]))) (mvT hZ (tw hw 155 rfl)) (by decide) (backOf (W := 0) (rm_add3_2 l Z a0 hw [] a e_ b k (mc + (1 : Int32)) x0 x1 aD kD aL aC hp2 n0 Z12 O13 F8 F4 F6 Fwp2 F9 F10 F11 ⟨S_DEF, V_DEF, S_LIT, E_LIT, O_LIT, S_HI, S_CA, C_CA⟩ ga gb hab) hZ (tw hw 155 rfl) (tw hw 2 rfl) (by decide) (by decide)) (g := (mkF m 20 #[.val (.ref a), .val (.ref e_)] [(.int (2 : Int32)), (.ref b), (.ref e_), (.ref a)])) rfl (by rw [hml]; rfl) (Steps.refl _) (a := a) (own_eq ef7 qk14) qk14' (argsL := [(.ref e_), (.ref b), (.int (2 : Int32))]) (rest := []) (lenOf pd__Ljava_lang_Object__Ljava_lang_Object_I_V rfl) rfl (by show 2 * 0 + _ ≤ _; exact Nat.le_of_eq rfl) (hb hby d16_20) (fun _ _ => ⟨rfl, ef7, (by decide : 0 + 0 ≤ _), (by decide : 0 + 0 ≤ _)⟩)
  dsimp only [Pt.U, Pt.locs, Pt.cells, Pt.slots] at Xk14 lk14 yk14 zk14 stk14 hQk14
  subst lk14 yk14 zk14
  obtain ⟨rfl, Nk14q, Kk14q, Qk14_0, Qk14_1, Qk14_2, Qk14_3⟩ := hQk14
  have K15 : Keep h0 Tk14.heap [a, b] := K3.trans Kk14q (allS (P := fun x => x ∈ [a, b] ∨ h0.size ≤ x) (Or.inl (List.mem_of_getElem? (i := 0) rfl)) (allS (P := fun x => x ∈ [a, b] ∨ h0.size ≤ x) (Or.inl (List.mem_of_getElem? (i := 1) rfl)) all0))
  have Nk14 := Fr.app Np2 Nk14q
  obtain ⟨fs, hlv, hrun, hended, hW, hsame⟩ := Xk14.leave (v := some (.int (1 : Int32))) (fun h => by rw [hret] at h; cases h)
  refine ⟨_, _, pre0 _ ?_, hrun, hended, _, _, rfl, ?_, ⟨_, rfl⟩, hW, hsame.mono (by decide) (by decide)⟩
  · refine XS.aloadN X0.here hx rfl (hb hby d16_0) rfl rfl ?_
    show Sp p e below s₁ (mkF m 1 #[.val (.ref a), .val (.ref e_)] [(.ref a)]) _
    refine XS.dup X0.here hx rfl (hb hby d16_1) rfl rfl ?_
    refine stf1 _ ?_
    refine XS.iconst Xf1.here hx rfl (hb hby d16_5) ?_
    refine XS.iadd Xf1.here hx rfl (hb hby d16_6) rfl ?_
    refine stp2 _ ?_
    refine XS.aloadN Xp2.here hx rfl (hb hby d16_10) rfl rfl ?_
    refine XS.aloadN Xp2.here hx rfl (hb hby d16_11) rfl rfl ?_
    refine XS.aloadN Xp2.here hx rfl (hb hby d16_12) rfl rfl ?_
    refine stf5 _ ?_
    refine XS.aloadN Xf5.here hx rfl (hb hby d16_16) rfl rfl ?_
    refine stf7 _ ?_
    refine stk14.trans ?_
    refine XS.iconst Xk14.here hx rfl (hb hby d16_23) ?_
    show Sp p e below Tk14 (mkF m 24 #[.val (.ref a), .val (.ref e_)] [(.int (1 : Int32))]) _
    exact retN Xk14 hx (t := .boolean) hret (by simp) (hb hby d16_24) hlv
  · show Q_add_2 Z a e_ b k mc mc1 x0 x1 aD kD aL aC h0 n0 _ Tk14.heap _
    exact ⟨rfl, Nk14, K15, Qk14_0, Qk14_1, (hmc ▸ Qk14_2), Qk14_3⟩
theorem d8_0 : decode jdk_49_method_1_code 0 = .ok (.aload_n 0, 1) := by decide +kernel
theorem d8_1 : decode jdk_49_method_1_code 1 = .ok (.aload_n 1, 1) := by decide +kernel
theorem d8_2 : decode jdk_49_method_1_code 2 = .ok (.putfield 1, 3) := by decide +kernel
theorem d8_5 : decode jdk_49_method_1_code 5 = .ok (.aload_n 0, 1) := by decide +kernel
theorem d8_6 : decode jdk_49_method_1_code 6 = .ok (.invokespecial 7, 3) := by decide +kernel
theorem d8_9 : decode jdk_49_method_1_code 9 = .ok (.aload_n 0, 1) := by decide +kernel
theorem d8_10 : decode jdk_49_method_1_code 10 = .ok (.iconst (-1), 1) := by decide +kernel
theorem d8_11 : decode jdk_49_method_1_code 11 = .ok (.putfield 13, 3) := by decide +kernel
theorem d8_14 : decode jdk_49_method_1_code 14 = .ok (.aload_n 0, 1) := by decide +kernel
theorem d8_15 : decode jdk_49_method_1_code 15 = .ok (.aload_n 0, 1) := by decide +kernel
theorem d8_16 : decode jdk_49_method_1_code 16 = .ok (.getfield 1, 3) := by decide +kernel
theorem d8_19 : decode jdk_49_method_1_code 19 = .ok (.getfield 17, 3) := by decide +kernel
theorem d8_22 : decode jdk_49_method_1_code 22 = .ok (.putfield 22, 3) := by decide +kernel
theorem d8_25 : decode jdk_49_method_1_code 25 = .ok (.return_, 1) := by decide +kernel
theorem pn_5 : plainName "java/util/ArrayList$Itr" = true := by first | (simp [plainName, overriddenIn]; done) | decide +kernel
theorem ef_8_RR (m : MethodId) (x0 : Addr) (x1 : Addr) : entryFrame m #[(.ref x0), (.ref x1)] 2 = mkF m 0 #[.val (.ref x0), .val (.ref x1)] [] := by first | (simp [entryFrame, mkF, argsToLocals, Value.category]; done) | rfl
def Q_itrinit (Z : State) (i : Addr) (a : Addr) (mc : Int32) (h0 : Heap) (n0 : Nat) (v : Option Value) (h : Heap) (L : List Loc) : Prop := v = none ∧ Fr n0 L ∧ Keep h0 h [i] ∧ Fld Z h i S7 "this$0" "Ljava/util/ArrayList;" (.ref a) ∧ Fld Z h i S7 "cursor" "I" (.int (0 : Int32)) ∧ Fld Z h i S7 "lastRet" "I" (.int (-1 : Int32)) ∧ Fld Z h i S7 "expectedModCount" "I" (.int mc)
set_option maxRecDepth 65536 in
set_option maxHeartbeats 40000000 in
theorem rm_itrinit (l : Launch) (Z : State) (a0 : Array Value) (hw : ∀ d ∈ tables_1, d.before a0 Z = true) (ws : List Jvm.Cond) (i : Addr) (a : Addr) (mc : Int32) (h0 : Heap) (n0 : Nat) (Z0 : n0 ≤ h0.size) (O0 : Old Z n0 h0) (f0 : Exa Z h0 i S7) (f1 : Fld Z h0 i S7 "this$0" "Ljava/util/ArrayList;" .null) (f2 : Fld Z h0 i S7 "cursor" "I" (.int (0 : Int32))) (f3 : Fld Z h0 i S7 "lastRet" "I" (.int (0 : Int32))) (f4 : Fld Z h0 i S7 "expectedModCount" "I" (.int (0 : Int32))) (f5 : Fld Z h0 a S5 "modCount" "I" (.int mc)) (f6 : Exa Z h0 a S1) (gi : n0 ≤ i) :
    MetFree l Y12 (head1 (Jvm.Cond.code Y12 jdk_49_method_1_code 2 none :: ws) ({ frames := 1, cells := 0, slots := 0, locals := 12 } : Room)) (fun A_ U => A_ = #[(.ref i), (.ref a)] ∧ Z.Warmed39 U.vm ∧ U.heap = h0) (fun _ _ _ _ _ => True) (fun _ U o_ U' => ∃ v_ L_, o_ = .returned v_ ∧ Q_itrinit Z i a mc h0 n0 v_ U'.heap L_ ∧ FrameEnd U o_ U' L_ ({ frames := 1, cells := 0, slots := 0, locals := 12 } : Room).cells ({ frames := 1, cells := 0, slots := 0, locals := 12 } : Room).slots) := by
  refine MetFree.of_bodySF (plainFor_of_name pn_5) hisR ?_
  intro p e s m args below meth c s₁ Bd hml0 hP hK
  obtain ⟨rfl, hZ, hh⟩ := hP
  have hx := Bd.exec
  have hby := Bd.bytes
  have hml : c.maxLocals = 2 := hml0
  have hown : s.vm.findClass S7 = some m.cls := findClass_of_methodNamed Bd.named
  have hnm := (name_of_methodNamed Bd.named Bd.method).1
  have hret := Bd.returns
  have X0 : Stand p l e ({ frames := 1, cells := 0, slots := 0, locals := 12 } : Room) s m #[(.ref i), (.ref a)] below meth c s₁ [] 0 0 := Stand.of_body Bd
  have e0 : s₁.heap = h0 := by rw [← hh, Bd.state]; rfl
  have N0 := Fr.nil n0
  have pre0 : ∀ t_, Sp p e below s₁ (mkF m 0 #[.val (.ref i), .val (.ref a)] []) t_ → Sp p e below s₁ (entryFrame m #[(.ref i), (.ref a)] 2) t_ := fun t_ k_ => castTop (ef_8_RR m i a) k_
  obtain ⟨Tp1, hp1, Xp1, ep1, Wp1, stp1⟩ := putF X0 hx hZ hown (host := "") (Or.inl (tw hw 54 rfl)) Via.refl e0 f1 f0 (Or.inr ⟨(tw hw 55 rfl), rfl, hnm⟩) (tw hw 48 rfl) (ty := (.object S1)) (by decide) rfl rfl (g := (mkF m 2 #[.val (.ref i), .val (.ref a)] [(.ref a), (.ref i)])) rfl rfl (hb hby d8_2)
  have Fwp1 : Fld Z hp1 i S7 "this$0" "Ljava/util/ArrayList;" (.ref a) := f1.same Wp1
  have Np1 := Fr.snoc Xp1 N0 gi
  have K2 : Keep h0 hp1 [i] := (Keep.refl h0 [i]).wr Wp1 (Or.inl (List.mem_of_getElem? (i := 0) rfl))
  obtain ⟨Ti3, Xi3, ei3, sti3⟩ := initO Xp1 hx hZ hown (tw hw 56 rfl) (tw hw 19 rfl) (tw hw 20 rfl) ep1 (g := (mkF m 6 #[.val (.ref i), .val (.ref a)] [(.ref i)])) rfl (by rw [hml]; rfl) rfl (hb hby d8_6) (by decide) (W := 0) (by show 2 * 0 + _ ≤ _; exact Nat.le_of_eq rfl) (by decide)
  have F4 := (f3.other Wp1 (Or.inr (slot_ne (Or.inl (tw hw 58 rfl)) (Or.inr (tw hw 55 rfl)) (by decide) (t := .int) (t' := (.object S1)) (by decide) (by decide))))
  have F5 := (f0.wr Wp1)
  obtain ⟨Tp6, hp6, Xp6, ep6, Wp6, stp6⟩ := putF Xi3 hx hZ hown (host := "") (Or.inl (tw hw 57 rfl)) Via.refl ei3 F4 F5 (Or.inl (tw hw 58 rfl)) (tw hw 48 rfl) (ty := .int) (by decide) rfl rfl (g := (mkF m 11 #[.val (.ref i), .val (.ref a)] [(.int (-1 : Int32)), (.ref i)])) rfl rfl (hb hby d8_11)
  have Fwp6 : Fld Z hp6 i S7 "lastRet" "I" (.int (-1 : Int32)) := F4.same Wp6
  have Np6 := Fr.snoc Xp6 Np1 gi
  have K7 : Keep h0 hp6 [i] := K2.wr Wp6 (Or.inl (List.mem_of_getElem? (i := 0) rfl))
  have F8 := (Fwp1.other Wp6 (Or.inr (slot_ne (Or.inr (tw hw 55 rfl)) (Or.inl (tw hw 58 rfl)) (by decide) (t := (.object S1)) (t' := .int) (by decide) (by decide))))
  obtain ⟨Tf9, Xf9, ef9, stf9⟩ := getF Xp6 hx hZ hown (host := "") (Or.inl (tw hw 54 rfl)) Via.refl ep6 F8 (g := (mkF m 16 #[.val (.ref i), .val (.ref a)] [(.ref i), (.ref i)])) rfl rfl (hb hby d8_16)
  have F11 := ((f6.wr Wp1).wr Wp6)
  have F12 := (F5.wr Wp6)
  have ne10 : a ≠ i := ne_exa F11 F12 (by decide)
  have F13 := ((f5.other Wp1 (Or.inl ne10)).other Wp6 (Or.inl ne10))
  obtain ⟨Tf14, Xf14, ef14, stf14⟩ := getF Xf9 hx hZ hown (host := "") (Or.inl (tw hw 59 rfl)) (Via.of (tw hw 60 rfl)) ef9 F13 (g := (mkF m 19 #[.val (.ref i), .val (.ref a)] [(.ref a), (.ref i)])) rfl rfl (hb hby d8_19)
  have F15 := ((f4.other Wp1 (Or.inr (slot_ne (Or.inl (tw hw 62 rfl)) (Or.inr (tw hw 55 rfl)) (by decide) (t := .int) (t' := (.object S1)) (by decide) (by decide)))).other Wp6 (Or.inr (slot_ne (Or.inl (tw hw 62 rfl)) (Or.inl (tw hw 58 rfl)) (by decide) (t := .int) (t' := .int) (by decide) (by decide))))
  obtain ⟨Tp16, hp16, Xp16, ep16, Wp16, stp16⟩ := putF Xf14 hx hZ hown (host := "") (Or.inl (tw hw 61 rfl)) Via.refl ef14 F15 F12 (Or.inl (tw hw 62 rfl)) (tw hw 48 rfl) (ty := .int) (by decide) rfl rfl (g := (mkF m 22 #[.val (.ref i), .val (.ref a)] [(.int mc), (.ref i)])) rfl rfl (hb hby d8_22)
  have Fwp16 : Fld Z hp16 i S7 "expectedModCount" "I" (.int mc) := F15.same Wp16
  have Np16 := Fr.snoc Xp16 Np6 gi
  have K17 : Keep h0 hp16 [i] := K7.wr Wp16 (Or.inl (List.mem_of_getElem? (i := 0) rfl))
  have F18 := (F8.other Wp16 (Or.inr (slot_ne (Or.inr (tw hw 55 rfl)) (Or.inl (tw hw 62 rfl)) (by decide) (t := (.object S1)) (t' := .int) (by decide) (by decide))))
  have F19 := (((f2.other Wp1 (Or.inr (slot_ne (Or.inl (tw hw 73 rfl)) (Or.inr (tw hw 55 rfl)) (by decide) (t := .int) (t' := (.object S1)) (by decide) (by decide)))).other Wp6 (Or.inr (slot_ne (Or.inl (tw hw 73 rfl)) (Or.inl (tw hw 58 rfl)) (by decide) (t := .int) (t' := .int) (by decide) (by decide)))).other Wp16 (Or.inr (slot_ne (Or.inl (tw hw 73 rfl)) (Or.inl (tw hw 62 rfl)) (by decide) (t := .int) (t' := .int) (by decide) (by decide))))
  have F20 := (Fwp6.other Wp16 (Or.inr (slot_ne (Or.inl (tw hw 58 rfl)) (Or.inl (tw hw 62 rfl)) (by decide) (t := .int) (t' := .int) (by decide) (by decide))))
  obtain ⟨fs, hlv, hrun, hended, hW, hsame⟩ := Xp16.leave (v := none) (fun _ => rfl)
  refine ⟨_, _, pre0 _ ?_, hrun, hended, _, _, rfl, ?_, ⟨_, rfl⟩, hW, hsame.mono (by decide) (by decide)⟩
  · refine XS.aloadN X0.here hx rfl (hb hby d8_0) rfl rfl ?_
    show Sp p e below s₁ (mkF m 1 #[.val (.ref i), .val (.ref a)] [(.ref i)]) _
    refine XS.aloadN X0.here hx rfl (hb hby d8_1) rfl rfl ?_
    refine stp1 _ ?_
    refine XS.aloadN Xp1.here hx rfl (hb hby d8_5) rfl rfl ?_
    refine sti3 _ ?_
    refine XS.aloadN Xi3.here hx rfl (hb hby d8_9) rfl rfl ?_
    refine XS.iconst Xi3.here hx rfl (hb hby d8_10) ?_
    refine stp6 _ ?_
    refine XS.aloadN Xp6.here hx rfl (hb hby d8_14) rfl rfl ?_
    refine XS.aloadN Xp6.here hx rfl (hb hby d8_15) rfl rfl ?_
    refine stf9 _ ?_
    refine stf14 _ ?_
    refine stp16 _ ?_
    show Sp p e below Tp16 (mkF m 25 #[.val (.ref i), .val (.ref a)] []) _
    exact Xp16.returnOut hx hret (hb hby d8_25) hlv
  · show Q_itrinit Z i a mc h0 n0 _ Tp16.heap _
    rw [ep16]
    exact ⟨rfl, Np16, K17, F18, F19, F20, Fwp16⟩
theorem d7_0 : decode jdk_38_method_55_code 0 = .ok (.new 267, 3) := by decide +kernel
theorem d7_3 : decode jdk_38_method_55_code 3 = .ok (.dup, 1) := by decide +kernel
theorem d7_4 : decode jdk_38_method_55_code 4 = .ok (.aload_n 0, 1) := by decide +kernel
theorem d7_5 : decode jdk_38_method_55_code 5 = .ok (.invokespecial 269, 3) := by decide +kernel
theorem d7_8 : decode jdk_38_method_55_code 8 = .ok (.areturn, 1) := by decide +kernel
theorem ef_7_R (m : MethodId) (x0 : Addr) : entryFrame m #[(.ref x0)] 1 = mkF m 0 #[.val (.ref x0)] [] := by first | (simp [entryFrame, mkF, argsToLocals, Value.category]; done) | rfl
theorem pd__Ljava_util_ArrayList__V : parseMethodDescriptor "(Ljava/util/ArrayList;)V" = some ⟨[(.object "java/util/ArrayList")], none⟩ := by decide +kernel
def Q_iterator (Z : State) (a : Addr) (mc : Int32) (h0 : Heap) (n0 : Nat) (v : Option Value) (h : Heap) (L : List Loc) : Prop := ∃ i : Addr, v = some (.ref i) ∧ Fr n0 L ∧ Keep h0 h [] ∧ h0.size ≤ i ∧ Exa Z h i S7 ∧ Fld Z h i S7 "this$0" "Ljava/util/ArrayList;" (.ref a) ∧ Fld Z h i S7 "cursor" "I" (.int (0 : Int32)) ∧ Fld Z h i S7 "lastRet" "I" (.int (-1 : Int32)) ∧ Fld Z h i S7 "expectedModCount" "I" (.int mc)
set_option maxRecDepth 65536 in
set_option maxHeartbeats 40000000 in
theorem rm_iterator (l : Launch) (Z : State) (a0 : Array Value) (hw : ∀ d ∈ tables_1, d.before a0 Z = true) (ws : List Jvm.Cond) (a : Addr) (mc : Int32) (h0 : Heap) (n0 : Nat) (Z0 : n0 ≤ h0.size) (O0 : Old Z n0 h0) (f0 : Exa Z h0 a S1) (f1 : Fld Z h0 a S5 "modCount" "I" (.int mc)) :
    MetFree l Y13 (head1 (Jvm.Cond.code Y13 jdk_38_method_55_code 1 (some (.object "java/util/Iterator")) :: ws) ({ frames := 2, cells := 1, slots := 4, locals := 26 } : Room)) (fun A_ U => A_ = #[(.ref a)] ∧ Z.Warmed39 U.vm ∧ U.heap = h0) (fun _ _ _ _ _ => True) (fun _ U o_ U' => ∃ v_ L_, o_ = .returned v_ ∧ Q_iterator Z a mc h0 n0 v_ U'.heap L_ ∧ FrameEnd U o_ U' L_ ({ frames := 2, cells := 1, slots := 4, locals := 26 } : Room).cells ({ frames := 2, cells := 1, slots := 4, locals := 26 } : Room).slots) := by
  refine MetFree.of_bodySF (plainFor_of_name pn_2) hisR ?_
  intro p e s m args below meth c s₁ Bd hml0 hP hK
  obtain ⟨rfl, hZ, hh⟩ := hP
  have hx := Bd.exec
  have hby := Bd.bytes
  have hml : c.maxLocals = 1 := hml0
  have hown : s.vm.findClass S1 = some m.cls := findClass_of_methodNamed Bd.named
  have hnm := (name_of_methodNamed Bd.named Bd.method).1
  have hret := Bd.returns
  have X0 : Stand p l e ({ frames := 2, cells := 1, slots := 4, locals := 26 } : Room) s m #[(.ref a)] below meth c s₁ [] 0 0 := Stand.of_body Bd
  have e0 : s₁.heap = h0 := by rw [← hh, Bd.state]; rfl
  have N0 := Fr.nil n0
  have pre0 : ∀ t_, Sp p e below s₁ (mkF m 0 #[.val (.ref a)] []) t_ → Sp p e below s₁ (entryFrame m #[(.ref a)] 1) t_ := fun t_ k_ => castTop (ef_7_R m a) k_
  obtain ⟨To1, ho1, Xo1, eo1, Eo1, Ao1, Do1, -, sto1⟩ := newO X0 hx hZ hown (tw hw 47 rfl) (tw hw 48 rfl) (tw hw 49 rfl) e0 (g := (mkF m 0 #[.val (.ref a)] [])) rfl (hb hby d7_0) (by decide) (by decide)
  obtain ⟨bo1, go1⟩ : ∃ z, z = h0.size := ⟨_, rfl⟩
  rw [← go1] at Ao1 Do1 sto1
  have g_bo1 : n0 ≤ bo1 := Nat.le_trans Z0 (Nat.le_of_eq go1.symm)
  have y_bo1 : h0.size ≤ bo1 := Nat.le_trans (Nat.le_refl h0.size) (Nat.le_of_eq go1.symm)
  have K2 : Keep h0 ho1 [] := (Keep.refl h0 []).ext Eo1
  have Fo1_this_0 : Fld Z ho1 bo1 S7 "this$0" "Ljava/util/ArrayList;" .null := Do1 (Or.inr (tw hw 55 rfl)) (ty := (.object S1)) (by decide)
  have Fo1_lastRet : Fld Z ho1 bo1 S7 "lastRet" "I" (.int (0 : Int32)) := Do1 (Or.inl (tw hw 58 rfl)) (ty := .int) (by decide)
  have Fo1_expectedModCount : Fld Z ho1 bo1 S7 "expectedModCount" "I" (.int (0 : Int32)) := Do1 (Or.inl (tw hw 62 rfl)) (ty := .int) (by decide)
  have Fo1_cursor : Fld Z ho1 bo1 S7 "cursor" "I" (.int (0 : Int32)) := Do1 (Or.inl (tw hw 73 rfl)) (ty := .int) (by decide)
  have F3 := (f1.keep K2 nin0)
  have F4 := (f0.keep K2)
  have Z5 : n0 ≤ ho1.size := (Nat.le_trans Z0 Eo1.1)
  have O6 : Old Z n0 ho1 := (O0.ext Eo1)
  obtain ⟨_, _, ⟨Tk7, Lk7, kk7, nk7⟩, -, Xk7, ⟨Lck7, hQk7, lk7, yk7, zk7⟩, stk7⟩ := Xo1.specialBack hx (y := Y12) rfl hown (mvT hZ (tw hw 50 rfl)) (mvT hZ (tw hw 51 rfl)) (mvT hZ (tw hw 53 rfl)) (by decide) (backOf (W := 1) (rm_itrinit l Z a0 hw [] bo1 a mc  ho1 n0 Z5 O6 Ao1 Fo1_this_0 Fo1_cursor Fo1_lastRet Fo1_expectedModCount F3 F4 g_bo1) hZ (tw hw 53 rfl) (tw hw 49 rfl) (by decide) (by decide)) (g := (mkF m 5 #[.val (.ref a)] [(.ref a), (.ref bo1), (.ref bo1)])) rfl (by rw [hml]; rfl) (Steps.refl _) (a := bo1) (argsL := [(.ref a)]) (rest := [(.ref bo1)]) (lenOf pd__Ljava_util_ArrayList__V rfl) rfl (by show 2 * 0 + _ ≤ _; exact Nat.le_of_eq rfl) (hb hby d7_5) (fun _ _ => ⟨rfl, eo1, (by decide : 1 + 0 ≤ _), (by decide : 4 + 0 ≤ _)⟩)
  dsimp only [Pt.U, Pt.locs, Pt.cells, Pt.slots] at Xk7 lk7 yk7 zk7 stk7 hQk7
  subst lk7 yk7 zk7
  obtain ⟨rfl, Nk7q, Kk7q, Qk7_0, Qk7_1, Qk7_2, Qk7_3⟩ := hQk7
  have K8 : Keep h0 Tk7.heap [] := K2.trans Kk7q (allS (P := fun x => x ∈ ([] : List Addr) ∨ h0.size ≤ x) (Or.inr y_bo1) all0)
  have Nk7 := Fr.app N0 Nk7q
  have F9 := (Ao1.keep Kk7q)
  obtain ⟨fs, hlv, hrun, hended, hW, hsame⟩ := Xk7.leave (v := some (.ref bo1)) (fun h => by rw [hret] at h; cases h)
  refine ⟨_, _, pre0 _ ?_, hrun, hended, _, _, rfl, ?_, ⟨_, rfl⟩, hW, hsame.mono (by decide) (by decide)⟩
  · refine sto1 _ ?_
    show Sp p e below To1 (mkF m 3 #[.val (.ref a)] [(.ref bo1)]) _
    refine XS.dup Xo1.here hx rfl (hb hby d7_3) rfl rfl ?_
    refine XS.aloadN Xo1.here hx rfl (hb hby d7_4) rfl rfl ?_
    refine stk7.trans ?_
    show Sp p e below Tk7 (mkF m 8 #[.val (.ref a)] [(.ref bo1)]) _
    jvm_step Xk7.here [Xk7.here.top, hx, (hb hby d7_8), Xk7.method', hret, Value.isRef, FieldType.isReference]
    first | (intro acts; rw [hlv _ acts rfl rfl rfl]) | rw [hlv _ _ rfl rfl rfl]
    exact Steps.refl _
  · show Q_iterator Z a mc h0 n0 _ Tk7.heap _
    exact ⟨bo1, rfl, Nk7, K8, y_bo1, F9, Qk7_0, Qk7_1, Qk7_2, Qk7_3⟩
theorem d9_0 : decode jdk_49_method_2_code 0 = .ok (.aload_n 0, 1) := by decide +kernel
theorem d9_1 : decode jdk_49_method_2_code 1 = .ok (.getfield 25, 3) := by decide +kernel
theorem d9_4 : decode jdk_49_method_2_code 4 = .ok (.aload_n 0, 1) := by decide +kernel
theorem d9_5 : decode jdk_49_method_2_code 5 = .ok (.getfield 1, 3) := by decide +kernel
theorem d9_8 : decode jdk_49_method_2_code 8 = .ok (.getfield 28, 3) := by decide +kernel
theorem d9_11 : decode jdk_49_method_2_code 11 = .ok (.if_icmp .eq 7, 3) := by decide +kernel
theorem d9_14 : decode jdk_49_method_2_code 14 = .ok (.iconst 1, 1) := by decide +kernel
theorem d9_15 : decode jdk_49_method_2_code 15 = .ok (.goto 4, 3) := by decide +kernel
theorem d9_18 : decode jdk_49_method_2_code 18 = .ok (.iconst 0, 1) := by decide +kernel
theorem d9_19 : decode jdk_49_method_2_code 19 = .ok (.ireturn, 1) := by decide +kernel
theorem ef_9_R (m : MethodId) (x0 : Addr) : entryFrame m #[(.ref x0)] 1 = mkF m 0 #[.val (.ref x0)] [] := by first | (simp [entryFrame, mkF, argsToLocals, Value.category]; done) | rfl
def Q_hasnext (Z : State) (i : Addr) (a : Addr) (cu : Int32) (n : Int32) (r : Int32) (h0 : Heap) (n0 : Nat) (v : Option Value) (h : Heap) (L : List Loc) : Prop := v = some (.int r) ∧ Fr n0 L ∧ h = h0
set_option maxRecDepth 65536 in
set_option maxHeartbeats 40000000 in
theorem rm_hasnext (l : Launch) (Z : State) (a0 : Array Value) (hw : ∀ d ∈ tables_1, d.before a0 Z = true) (ws : List Jvm.Cond) (i : Addr) (a : Addr) (cu : Int32) (n : Int32) (r : Int32) (h0 : Heap) (n0 : Nat) (Z0 : n0 ≤ h0.size) (O0 : Old Z n0 h0) (f0 : Fld Z h0 i S7 "cursor" "I" (.int cu)) (f1 : Fld Z h0 i S7 "this$0" "Ljava/util/ArrayList;" (.ref a)) (f2 : Fld Z h0 a S1 "size" "I" (.int n)) (hres : r = if cu = n then 0 else 1) :
    MetFree l Y14 (head1 (Jvm.Cond.code Y14 jdk_49_method_2_code 1 (some .boolean) :: ws) ({ frames := 0, cells := 0, slots := 0, locals := 0 } : Room)) (fun A_ U => A_ = #[(.ref i)] ∧ Z.Warmed39 U.vm ∧ U.heap = h0) (fun _ _ _ _ _ => True) (fun _ U o_ U' => ∃ v_ L_, o_ = .returned v_ ∧ Q_hasnext Z i a cu n r h0 n0 v_ U'.heap L_ ∧ FrameEnd U o_ U' L_ ({ frames := 0, cells := 0, slots := 0, locals := 0 } : Room).cells ({ frames := 0, cells := 0, slots := 0, locals := 0 } : Room).slots) := by
  refine MetFree.of_bodySF (plainFor_of_name pn_5) hisR ?_
  intro p e s m args below meth c s₁ Bd hml0 hP hK
  obtain ⟨rfl, hZ, hh⟩ := hP
  have hx := Bd.exec
  have hby := Bd.bytes
  have hml : c.maxLocals = 1 := hml0
  have hown : s.vm.findClass S7 = some m.cls := findClass_of_methodNamed Bd.named
  have hnm := (name_of_methodNamed Bd.named Bd.method).1
  have hret := Bd.returns
  have X0 : Stand p l e ({ frames := 0, cells := 0, slots := 0, locals := 0 } : Room) s m #[(.ref i)] below meth c s₁ [] 0 0 := Stand.of_body Bd
  have e0 : s₁.heap = h0 := by rw [← hh, Bd.state]; rfl
  have N0 := Fr.nil n0
  have pre0 : ∀ t_, Sp p e below s₁ (mkF m 0 #[.val (.ref i)] []) t_ → Sp p e below s₁ (entryFrame m #[(.ref i)] 1) t_ := fun t_ k_ => castTop (ef_9_R m i) k_
  obtain ⟨Tf1, Xf1, ef1, stf1⟩ := getF X0 hx hZ hown (host := "") (Or.inl (tw hw 72 rfl)) Via.refl e0 f0 (g := (mkF m 1 #[.val (.ref i)] [(.ref i)])) rfl rfl (hb hby d9_1)
  obtain ⟨Tf2, Xf2, ef2, stf2⟩ := getF Xf1 hx hZ hown (host := "") (Or.inl (tw hw 54 rfl)) Via.refl ef1 f1 (g := (mkF m 5 #[.val (.ref i)] [(.ref i), (.int cu)])) rfl rfl (hb hby d9_5)
  obtain ⟨Tf3, Xf3, ef3, stf3⟩ := getF Xf2 hx hZ hown (Or.inr (tw hw 74 rfl)) Via.refl ef2 f2 (g := (mkF m 8 #[.val (.ref i)] [(.ref a), (.int cu)])) rfl rfl (hb hby d9_8)
  have r4 : ∀ t_, Sp p e below Tf3 (mkF m 11 #[.val (.ref i)] [(.int n), (.int cu)]) t_ → Sp p e below s₁ (entryFrame m #[(.ref i)] 1) t_ := by
    intro t_ k_
    refine pre0 _ ?_
    refine XS.aloadN X0.here hx rfl (hb hby d9_0) rfl rfl ?_
    refine stf1 _ ?_
    refine XS.aloadN Xf1.here hx rfl (hb hby d9_4) rfl rfl ?_
    refine stf2 _ ?_
    refine stf3 _ ?_
    show Sp p e below Tf3 (mkF m 11 #[.val (.ref i)] [(.int n), (.int cu)]) _
    exact k_
  by_cases c5 : cu = n
  · obtain ⟨fs, hlv, hrun, hended, hW, hsame⟩ := Xf3.leave (v := some (.int (0 : Int32))) (fun h => by rw [hret] at h; cases h)
    refine ⟨_, _, r4 _ ?_, hrun, hended, _, _, rfl, ?_, ⟨_, rfl⟩, hW, hsame.mono (by decide) (by decide)⟩
    · refine XS.icmpYes Xf3.here hx rfl (pc0 := 11) (pc' := 18) rfl (hb hby d9_11) rfl (teq c5).1 (by decide) (by decide) ?_
      show Sp p e below Tf3 (mkF m 18 #[.val (.ref i)] []) _
      refine XS.iconst Xf3.here hx rfl (hb hby d9_18) ?_
      show Sp p e below Tf3 (mkF m 19 #[.val (.ref i)] [(.int (0 : Int32))]) _
      exact retN Xf3 hx (t := .boolean) hret (by simp) (hb hby d9_19) hlv
    · show Q_hasnext Z i a cu n r h0 n0 _ Tf3.heap _
      rw [ef3]
      exact ⟨by rw [hres]; simp [c5], N0, rfl⟩
  · obtain ⟨fs, hlv, hrun, hended, hW, hsame⟩ := Xf3.leave (v := some (.int (1 : Int32))) (fun h => by rw [hret] at h; cases h)
    refine ⟨_, _, r4 _ ?_, hrun, hended, _, _, rfl, ?_, ⟨_, rfl⟩, hW, hsame.mono (by decide) (by decide)⟩
    · refine XS.icmpNo Xf3.here hx rfl (hb hby d9_11) rfl (feq c5).1 ?_
      show Sp p e below Tf3 (mkF m 14 #[.val (.ref i)] []) _
      refine XS.iconst Xf3.here hx rfl (hb hby d9_14) ?_
      refine XS.goto Xf3.here hx rfl (pc0 := 15) (pc' := 19) rfl (hb hby d9_15) (by decide) (by decide) ?_
      show Sp p e below Tf3 (mkF m 19 #[.val (.ref i)] [(.int (1 : Int32))]) _
      exact retN Xf3 hx (t := .boolean) hret (by simp) (hb hby d9_19) hlv
    · show Q_hasnext Z i a cu n r h0 n0 _ Tf3.heap _
      rw [ef3]
      exact ⟨by rw [hres]; simp [c5], N0, rfl⟩
theorem d22_0 : decode jdk_49_method_6_code 0 = .ok (.aload_n 0, 1) := by decide +kernel
theorem d22_1 : decode jdk_49_method_6_code 1 = .ok (.getfield 1, 3) := by decide +kernel
theorem d22_4 : decode jdk_49_method_6_code 4 = .ok (.getfield 17, 3) := by decide +kernel
theorem d22_7 : decode jdk_49_method_6_code 7 = .ok (.aload_n 0, 1) := by decide +kernel
theorem d22_8 : decode jdk_49_method_6_code 8 = .ok (.getfield 22, 3) := by decide +kernel
theorem d22_11 : decode jdk_49_method_6_code 11 = .ok (.if_icmp .eq 11, 3) := by decide +kernel
theorem d22_22 : decode jdk_49_method_6_code 22 = .ok (.return_, 1) := by decide +kernel
theorem ef_22_R (m : MethodId) (x0 : Addr) : entryFrame m #[(.ref x0)] 1 = mkF m 0 #[.val (.ref x0)] [] := by first | (simp [entryFrame, mkF, argsToLocals, Value.category]; done) | rfl
def Q_chk (Z : State) (i : Addr) (a : Addr) (mc : Int32) (h0 : Heap) (n0 : Nat) (v : Option Value) (h : Heap) (L : List Loc) : Prop := v = none ∧ Fr n0 L ∧ h = h0
set_option maxRecDepth 65536 in
set_option maxHeartbeats 40000000 in
theorem rm_chk (l : Launch) (Z : State) (a0 : Array Value) (hw : ∀ d ∈ tables_1, d.before a0 Z = true) (ws : List Jvm.Cond) (i : Addr) (a : Addr) (mc : Int32) (h0 : Heap) (n0 : Nat) (Z0 : n0 ≤ h0.size) (O0 : Old Z n0 h0) (f0 : Fld Z h0 i S7 "this$0" "Ljava/util/ArrayList;" (.ref a)) (f1 : Fld Z h0 a S5 "modCount" "I" (.int mc)) (f2 : Fld Z h0 i S7 "expectedModCount" "I" (.int mc)) :
    MetFree l Y15 (head1 (Jvm.Cond.code Y15 jdk_49_method_6_code 1 none :: ws) ({ frames := 0, cells := 0, slots := 0, locals := 0 } : Room)) (fun A_ U => A_ = #[(.ref i)] ∧ Z.Warmed39 U.vm ∧ U.heap = h0) (fun _ _ _ _ _ => True) (fun _ U o_ U' => ∃ v_ L_, o_ = .returned v_ ∧ Q_chk Z i a mc h0 n0 v_ U'.heap L_ ∧ FrameEnd U o_ U' L_ ({ frames := 0, cells := 0, slots := 0, locals := 0 } : Room).cells ({ frames := 0, cells := 0, slots := 0, locals := 0 } : Room).slots) := by
  refine MetFree.of_bodySF (plainFor_of_name pn_5) hisR ?_
  intro p e s m args below meth c s₁ Bd hml0 hP hK
  obtain ⟨rfl, hZ, hh⟩ := hP
  have hx := Bd.exec
  have hby := Bd.bytes
  have hml : c.maxLocals = 1 := hml0
  have hown : s.vm.findClass S7 = some m.cls := findClass_of_methodNamed Bd.named
  have hnm := (name_of_methodNamed Bd.named Bd.method).1
  have hret := Bd.returns
  have X0 : Stand p l e ({ frames := 0, cells := 0, slots := 0, locals := 0 } : Room) s m #[(.ref i)] below meth c s₁ [] 0 0 := Stand.of_body Bd
  have e0 : s₁.heap = h0 := by rw [← hh, Bd.state]; rfl
  have N0 := Fr.nil n0
  have pre0 : ∀ t_, Sp p e below s₁ (mkF m 0 #[.val (.ref i)] []) t_ → Sp p e below s₁ (entryFrame m #[(.ref i)] 1) t_ := fun t_ k_ => castTop (ef_22_R m i) k_
  obtain ⟨Tf1, Xf1, ef1, stf1⟩ := getF X0 hx hZ hown (host := "") (Or.inl (tw hw 54 rfl)) Via.refl e0 f0 (g := (mkF m 1 #[.val (.ref i)] [(.ref i)])) rfl rfl (hb hby d22_1)
  obtain ⟨Tf2, Xf2, ef2, stf2⟩ := getF Xf1 hx hZ hown (host := "") (Or.inl (tw hw 59 rfl)) (Via.of (tw hw 60 rfl)) ef1 f1 (g := (mkF m 4 #[.val (.ref i)] [(.ref a)])) rfl rfl (hb hby d22_4)
  obtain ⟨Tf3, Xf3, ef3, stf3⟩ := getF Xf2 hx hZ hown (host := "") (Or.inl (tw hw 61 rfl)) Via.refl ef2 f2 (g := (mkF m 8 #[.val (.ref i)] [(.ref i), (.int mc)])) rfl rfl (hb hby d22_8)
  obtain ⟨fs, hlv, hrun, hended, hW, hsame⟩ := Xf3.leave (v := none) (fun _ => rfl)
  refine ⟨_, _, pre0 _ ?_, hrun, hended, _, _, rfl, ?_, ⟨_, rfl⟩, hW, hsame.mono (by decide) (by decide)⟩
  · refine XS.aloadN X0.here hx rfl (hb hby d22_0) rfl rfl ?_
    show Sp p e below s₁ (mkF m 1 #[.val (.ref i)] [(.ref i)]) _
    refine stf1 _ ?_
    refine stf2 _ ?_
    refine XS.aloadN Xf2.here hx rfl (hb hby d22_7) rfl rfl ?_
    refine stf3 _ ?_
    refine XS.icmpYes Xf3.here hx rfl (pc0 := 11) (pc' := 22) rfl (hb hby d22_11) rfl (teq (rfl : mc = mc)).1 (by decide) (by decide) ?_
    show Sp p e below Tf3 (mkF m 22 #[.val (.ref i)] []) _
    exact Xf3.returnOut hx hret (hb hby d22_22) hlv
  · show Q_chk Z i a mc h0 n0 _ Tf3.heap _
    rw [ef3]
    exact ⟨rfl, N0, rfl⟩
theorem d21_0 : decode jdk_49_method_3_code 0 = .ok (.aload_n 0, 1) := by decide +kernel
theorem d21_1 : decode jdk_49_method_3_code 1 = .ok (.invokevirtual 31, 3) := by decide +kernel
theorem d21_4 : decode jdk_49_method_3_code 4 = .ok (.aload_n 0, 1) := by decide +kernel
theorem d21_5 : decode jdk_49_method_3_code 5 = .ok (.getfield 25, 3) := by decide +kernel
theorem d21_8 : decode jdk_49_method_3_code 8 = .ok (.istore_n 1, 1) := by decide +kernel
theorem d21_9 : decode jdk_49_method_3_code 9 = .ok (.iload_n 1, 1) := by decide +kernel
theorem d21_10 : decode jdk_49_method_3_code 10 = .ok (.aload_n 0, 1) := by decide +kernel
theorem d21_11 : decode jdk_49_method_3_code 11 = .ok (.getfield 1, 3) := by decide +kernel
theorem d21_14 : decode jdk_49_method_3_code 14 = .ok (.getfield 28, 3) := by decide +kernel
theorem d21_17 : decode jdk_49_method_3_code 17 = .ok (.if_icmp .lt 11, 3) := by decide +kernel
theorem d21_28 : decode jdk_49_method_3_code 28 = .ok (.aload_n 0, 1) := by decide +kernel
theorem d21_29 : decode jdk_49_method_3_code 29 = .ok (.getfield 1, 3) := by decide +kernel
theorem d21_32 : decode jdk_49_method_3_code 32 = .ok (.getfield 37, 3) := by decide +kernel
theorem d21_35 : decode jdk_49_method_3_code 35 = .ok (.astore_n 2, 1) := by decide +kernel
theorem d21_36 : decode jdk_49_method_3_code 36 = .ok (.iload_n 1, 1) := by decide +kernel
theorem d21_37 : decode jdk_49_method_3_code 37 = .ok (.aload_n 2, 1) := by decide +kernel
theorem d21_38 : decode jdk_49_method_3_code 38 = .ok (.arraylength, 1) := by decide +kernel
theorem d21_39 : decode jdk_49_method_3_code 39 = .ok (.if_icmp .lt 11, 3) := by decide +kernel
theorem d21_50 : decode jdk_49_method_3_code 50 = .ok (.aload_n 0, 1) := by decide +kernel
theorem d21_51 : decode jdk_49_method_3_code 51 = .ok (.iload_n 1, 1) := by decide +kernel
theorem d21_52 : decode jdk_49_method_3_code 52 = .ok (.iconst 1, 1) := by decide +kernel
theorem d21_53 : decode jdk_49_method_3_code 53 = .ok (.iadd, 1) := by decide +kernel
theorem d21_54 : decode jdk_49_method_3_code 54 = .ok (.putfield 25, 3) := by decide +kernel
theorem d21_57 : decode jdk_49_method_3_code 57 = .ok (.aload_n 2, 1) := by decide +kernel
theorem d21_58 : decode jdk_49_method_3_code 58 = .ok (.aload_n 0, 1) := by decide +kernel
theorem d21_59 : decode jdk_49_method_3_code 59 = .ok (.iload_n 1, 1) := by decide +kernel
theorem d21_60 : decode jdk_49_method_3_code 60 = .ok (.dup_x1, 1) := by decide +kernel
theorem d21_61 : decode jdk_49_method_3_code 61 = .ok (.putfield 13, 3) := by decide +kernel
theorem d21_64 : decode jdk_49_method_3_code 64 = .ok (.aaload, 1) := by decide +kernel
theorem d21_65 : decode jdk_49_method_3_code 65 = .ok (.areturn, 1) := by decide +kernel
theorem ef_21_R (m : MethodId) (x0 : Addr) : entryFrame m #[(.ref x0)] 3 = mkF m 0 #[.val (.ref x0), .unset, .unset] [] := by first | (simp [entryFrame, mkF, argsToLocals, Value.category]; done) | rfl
def Q_next (Z : State) (i : Addr) (a : Addr) (cu : Int32) (c1 : Int32) (lr : Int32) (mc : Int32) (n : Int32) (b : Addr) (k : ClassId) (vs : List Value) (x : Addr) (h0 : Heap) (n0 : Nat) (v : Option Value) (h : Heap) (L : List Loc) : Prop := v = some (.ref x) ∧ Fr n0 L ∧ Keep h0 h [i] ∧ Fld Z h i S7 "this$0" "Ljava/util/ArrayList;" (.ref a) ∧ Fld Z h i S7 "cursor" "I" (.int c1) ∧ Fld Z h i S7 "lastRet" "I" (.int cu) ∧ Fld Z h i S7 "expectedModCount" "I" (.int mc)
set_option maxRecDepth 65536 in
set_option maxHeartbeats 40000000 in
theorem rm_next (l : Launch) (Z : State) (a0 : Array Value) (hw : ∀ d ∈ tables_1, d.before a0 Z = true) (ws : List Jvm.Cond) (i : Addr) (a : Addr) (cu : Int32) (c1 : Int32) (lr : Int32) (mc : Int32) (n : Int32) (b : Addr) (k : ClassId) (vs : List Value) (x : Addr) (h0 : Heap) (n0 : Nat) (Z0 : n0 ≤ h0.size) (O0 : Old Z n0 h0) (f0 : Exa Z h0 i S7) (f1 : Fld Z h0 i S7 "this$0" "Ljava/util/ArrayList;" (.ref a)) (f2 : Fld Z h0 i S7 "cursor" "I" (.int cu)) (f3 : Fld Z h0 i S7 "lastRet" "I" (.int lr)) (f4 : Fld Z h0 i S7 "expectedModCount" "I" (.int mc)) (f5 : Exa Z h0 a S1) (f6 : Fld Z h0 a S5 "modCount" "I" (.int mc)) (f7 : Fld Z h0 a S1 "size" "I" (.int n)) (f8 : Fld Z h0 a S1 "elementData" S2 (.ref b)) (f9 : Arv Z h0 b k (.object S3) (10 : Int32) vs .null) (gi : n0 ≤ i) (hc0 : ¬ (cu < 0)) (hcn : cu < n) (hc10 : cu < (10 : Int32)) (hc1 : c1 = cu + 1) (hel : List.getD vs cu.toNatClampNeg Value.null = Value.ref x) :
    MetFree l Y16 (head1 (Jvm.Cond.code Y16 jdk_49_method_3_code 3 (some (.object S3)) :: ws) ({ frames := 1, cells := 0, slots := 0, locals := 12 } : Room)) (fun A_ U => A_ = #[(.ref i)] ∧ Z.Warmed39 U.vm ∧ U.heap = h0) (fun _ _ _ _ _ => True) (fun _ U o_ U' => ∃ v_ L_, o_ = .returned v_ ∧ Q_next Z i a cu c1 lr mc n b k vs x h0 n0 v_ U'.heap L_ ∧ FrameEnd U o_ U' L_ ({ frames := 1, cells := 0, slots := 0, locals := 12 } : Room).cells ({ frames := 1, cells := 0, slots := 0, locals := 12 } : Room).slots) := by
  refine MetFree.of_bodySF (plainFor_of_name pn_5) hisR ?_
  intro p e s m args below meth c s₁ Bd hml0 hP hK
  obtain ⟨rfl, hZ, hh⟩ := hP
  have hx := Bd.exec
  have hby := Bd.bytes
  have hml : c.maxLocals = 3 := hml0
  have hown : s.vm.findClass S7 = some m.cls := findClass_of_methodNamed Bd.named
  have hnm := (name_of_methodNamed Bd.named Bd.method).1
  have hret := Bd.returns
  have X0 : Stand p l e ({ frames := 1, cells := 0, slots := 0, locals := 12 } : Room) s m #[(.ref i)] below meth c s₁ [] 0 0 := Stand.of_body Bd
  have e0 : s₁.heap = h0 := by rw [← hh, Bd.state]; rfl
  have N0 := Fr.nil n0
  have pre0 : ∀ t_, Sp p e below s₁ (mkF m 0 #[.val (.ref i), .unset, .unset] []) t_ → Sp p e below s₁ (entryFrame m #[(.ref i)] 3) t_ := fun t_ k_ => castTop (ef_21_R m i) k_
  obtain ⟨cqk1, kqk1, qk1a, qk1b, qk1c⟩ := isOf hZ e0 f0
  obtain ⟨_, _, ⟨Tk1, Lk1, kk1, nk1⟩, -, Xk1, ⟨Lck1, hQk1, lk1, yk1, zk1⟩, stk1⟩ := X0.virtualBack hx (y := Y15) (z := Y15) hown (mvT hZ (tw hw 181 rfl)) (mvT hZ (tw hw 182 rfl)) (notFace_of_selects (args := #[]) (mvT hZ (tw hw 184 rfl))) (mvT hZ (tw hw 184 rfl)) (mvT hZ (tw hw 183 rfl)) (by decide) (backOf (W := 0) (rm_chk l Z a0 hw [] i a mc  h0 n0 Z0 O0 f1 f6 f4) hZ (tw hw 185 rfl) (tw hw 49 rfl) (by decide) (by decide)) qk1a qk1c (g := (mkF m 1 #[.val (.ref i), .unset, .unset] [(.ref i)])) rfl (by rw [hml]; rfl) (Steps.refl _) (argsL := []) (rest := []) (lenOf pd___V rfl) rfl (by show 2 * 0 + _ ≤ _; exact Nat.le_of_eq rfl) (hb hby d21_1) (fun _ _ => ⟨rfl, e0, (by decide : 0 + 0 ≤ _), (by decide : 0 + 0 ≤ _)⟩)
  dsimp only [Pt.U, Pt.locs, Pt.cells, Pt.slots] at Xk1 lk1 yk1 zk1 stk1 hQk1
  subst lk1 yk1 zk1
  obtain ⟨rfl, Nk1q, ek1⟩ := hQk1
  have Nk1 := Fr.app N0 Nk1q
  obtain ⟨Tf2, Xf2, ef2, stf2⟩ := getF Xk1 hx hZ hown (host := "") (Or.inl (tw hw 72 rfl)) Via.refl ek1 f2 (g := (mkF m 5 #[.val (.ref i), .unset, .unset] [(.ref i)])) rfl rfl (hb hby d21_5)
  obtain ⟨Tf3, Xf3, ef3, stf3⟩ := getF Xf2 hx hZ hown (host := "") (Or.inl (tw hw 54 rfl)) Via.refl ef2 f1 (g := (mkF m 11 #[.val (.ref i), .val (.int cu), .unset] [(.ref i), (.int cu)])) rfl rfl (hb hby d21_11)
  obtain ⟨Tf4, Xf4, ef4, stf4⟩ := getF Xf3 hx hZ hown (Or.inr (tw hw 74 rfl)) Via.refl ef3 f7 (g := (mkF m 14 #[.val (.ref i), .val (.int cu), .unset] [(.ref a), (.int cu)])) rfl rfl (hb hby d21_14)
  obtain ⟨Tf5, Xf5, ef5, stf5⟩ := getF Xf4 hx hZ hown (host := "") (Or.inl (tw hw 54 rfl)) Via.refl ef4 f1 (g := (mkF m 29 #[.val (.ref i), .val (.int cu), .unset] [(.ref i)])) rfl rfl (hb hby d21_29)
  obtain ⟨Tf6, Xf6, ef6, stf6⟩ := getF Xf5 hx hZ hown (host := "") (Or.inl (tw hw 186 rfl)) Via.refl ef5 f8 (g := (mkF m 32 #[.val (.ref i), .val (.int cu), .unset] [(.ref a)])) rfl rfl (hb hby d21_32)
  obtain ⟨clv7, Arv7, qv7, Sv7, Nv7, Hv7, Gv7⟩ := id f9
  obtain ⟨Tp8, hp8, Xp8, ep8, Wp8, stp8⟩ := putF Xf6 hx hZ hown (host := "") (Or.inl (tw hw 72 rfl)) Via.refl ef6 f2 f0 (Or.inl (tw hw 73 rfl)) (tw hw 48 rfl) (ty := .int) (by decide) rfl rfl (g := (mkF m 54 #[.val (.ref i), .val (.int cu), .val (.ref b)] [(.int (cu + (1 : Int32))), (.ref i)])) rfl rfl (hb hby d21_54)
  have Fwp8 : Fld Z hp8 i S7 "cursor" "I" (.int (cu + (1 : Int32))) := f2.same Wp8
  have Np8 := Fr.snoc Xp8 Nk1 gi
  have K9 : Keep h0 hp8 [i] := (Keep.refl h0 [i]).wr Wp8 (Or.inl (List.mem_of_getElem? (i := 0) rfl))
  have F10 := (f3.other Wp8 (Or.inr (slot_ne (Or.inl (tw hw 58 rfl)) (Or.inl (tw hw 73 rfl)) (by decide) (t := .int) (t' := .int) (by decide) (by decide))))
  have F11 := (f0.wr Wp8)
  obtain ⟨Tp12, hp12, Xp12, ep12, Wp12, stp12⟩ := putF Xp8 hx hZ hown (host := "") (Or.inl (tw hw 57 rfl)) Via.refl ep8 F10 F11 (Or.inl (tw hw 58 rfl)) (tw hw 48 rfl) (ty := .int) (by decide) rfl rfl (g := (mkF m 61 #[.val (.ref i), .val (.int cu), .val (.ref b)] [(.int cu), (.ref i), (.int cu), (.ref b)])) rfl rfl (hb hby d21_61)
  have Fwp12 : Fld Z hp12 i S7 "lastRet" "I" (.int cu) := F10.same Wp12
  have Np12 := Fr.snoc Xp12 Np8 gi
  have K13 : Keep h0 hp12 [i] := K9.wr Wp12 (Or.inl (List.mem_of_getElem? (i := 0) rfl))
  have ne14 : i ≠ b := Exa.neArv f0 f9 (tw hw 48 rfl)
  have F15 := ((f9.other Wp8 (Ne.symm ne14)).other Wp12 (Ne.symm ne14))
  obtain ⟨clv16, Arv16, qv16, Sv16, Nv16, Hv16, Gv16⟩ := id F15
  have in17 : ¬ (cu < 0 ∨ clv16.slots.size ≤ (cu).toNatClampNeg) := inb_of Sv16 ⟨hc0, hc10⟩
  have atin17 : clv16.slots[(cu).toNatClampNeg]? = some (.ref x) := Has.at Hv16 in17 hel
  have F18 := ((f1.other Wp8 (Or.inr (slot_ne (Or.inr (tw hw 55 rfl)) (Or.inl (tw hw 73 rfl)) (by decide) (t := (.object S1)) (t' := .int) (by decide) (by decide)))).other Wp12 (Or.inr (slot_ne (Or.inr (tw hw 55 rfl)) (Or.inl (tw hw 58 rfl)) (by decide) (t := (.object S1)) (t' := .int) (by decide) (by decide))))
  have F19 := (Fwp8.other Wp12 (Or.inr (slot_ne (Or.inl (tw hw 73 rfl)) (Or.inl (tw hw 58 rfl)) (by decide) (t := .int) (t' := .int) (by decide) (by decide))))
  have F20 := ((f4.other Wp8 (Or.inr (slot_ne (Or.inl (tw hw 62 rfl)) (Or.inl (tw hw 73 rfl)) (by decide) (t := .int) (t' := .int) (by decide) (by decide)))).other Wp12 (Or.inr (slot_ne (Or.inl (tw hw 62 rfl)) (Or.inl (tw hw 58 rfl)) (by decide) (t := .int) (t' := .int) (by decide) (by decide))))
  obtain ⟨fs, hlv, hrun, hended, hW, hsame⟩ := Xp12.leave (v := some (.ref x)) (fun h => by rw [hret] at h; cases h)
  refine ⟨_, _, pre0 _ ?_, hrun, hended, _, _, rfl, ?_, ⟨_, rfl⟩, hW, hsame.mono (by decide) (by decide)⟩
  · refine XS.aloadN X0.here hx rfl (hb hby d21_0) rfl rfl ?_
    show Sp p e below s₁ (mkF m 1 #[.val (.ref i), .unset, .unset] [(.ref i)]) _
    refine stk1.trans ?_
    refine XS.aloadN Xk1.here hx rfl (hb hby d21_4) rfl rfl ?_
    refine stf2 _ ?_
    refine XS.istoreN Xf2.here hx rfl (hb hby d21_8) rfl (l' := #[.val (.ref i), .val (.int cu), .unset]) rfl ?_
    refine XS.iloadN Xf2.here hx rfl (hb hby d21_9) rfl ?_
    refine XS.aloadN Xf2.here hx rfl (hb hby d21_10) rfl rfl ?_
    refine stf3 _ ?_
    refine stf4 _ ?_
    refine XS.icmpYes Xf4.here hx rfl (pc0 := 17) (pc' := 28) rfl (hb hby d21_17) rfl (tlt hcn).1 (by decide) (by decide) ?_
    refine XS.aloadN Xf4.here hx rfl (hb hby d21_28) rfl rfl ?_
    refine stf5 _ ?_
    refine stf6 _ ?_
    refine XS.astoreN Xf6.here hx rfl (hb hby d21_35) rfl rfl (l' := #[.val (.ref i), .val (.int cu), .val (.ref b)]) rfl ?_
    refine XS.iloadN Xf6.here hx rfl (hb hby d21_36) rfl ?_
    refine XS.aloadN Xf6.here hx rfl (hb hby d21_37) rfl rfl ?_
    show Sp p e below Tf6 (mkF m 38 #[.val (.ref i), .val (.int cu), .val (.ref b)] [(.ref b), (.int cu)]) _
    refine Xf6.arraylength hx (own_eq ef6 Arv7.1) (State.isArrayOf_alike hZ.alike Arv7.2.1) (g := (mkF m 38 #[.val (.ref i), .val (.int cu), .val (.ref b)] [(.ref b), (.int cu)])) rfl rfl (hb hby d21_38) _ ?_
    rw [len_of Sv7 Nv7]
    show Sp p e below Tf6 (mkF m 39 #[.val (.ref i), .val (.int cu), .val (.ref b)] [(.int (10 : Int32)), (.int cu)]) _
    refine XS.icmpYes Xf6.here hx rfl (pc0 := 39) (pc' := 50) rfl (hb hby d21_39) rfl (tlt hc10).1 (by decide) (by decide) ?_
    refine XS.aloadN Xf6.here hx rfl (hb hby d21_50) rfl rfl ?_
    refine XS.iloadN Xf6.here hx rfl (hb hby d21_51) rfl ?_
    refine XS.iconst Xf6.here hx rfl (hb hby d21_52) ?_
    refine XS.iadd Xf6.here hx rfl (hb hby d21_53) rfl ?_
    refine stp8 _ ?_
    refine XS.aloadN Xp8.here hx rfl (hb hby d21_57) rfl rfl ?_
    refine XS.aloadN Xp8.here hx rfl (hb hby d21_58) rfl rfl ?_
    refine XS.iloadN Xp8.here hx rfl (hb hby d21_59) rfl ?_
    refine XS.dupX1 Xp8.here hx rfl (hb hby d21_60) rfl rfl rfl ?_
    refine stp12 _ ?_
    show Sp p e below Tp12 (mkF m 64 #[.val (.ref i), .val (.int cu), .val (.ref b)] [(.int cu), (.ref b)]) _
    refine Xp12.aaload hx (j := cu) (v := (.ref x)) (own_eq ep12 Arv16.1) (State.isArrayOf_alike hZ.alike Arv16.2.1) rfl Arv16.2.2 in17 atin17 (g := (mkF m 64 #[.val (.ref i), .val (.int cu), .val (.ref b)] [(.int cu), (.ref b)])) rfl rfl (hb hby d21_64) _ ?_
    show Sp p e below Tp12 (mkF m 65 #[.val (.ref i), .val (.int cu), .val (.ref b)] [(.ref x)]) _
    jvm_step Xp12.here [Xp12.here.top, hx, (hb hby d21_65), Xp12.method', hret, Value.isRef, FieldType.isReference]
    first | (intro acts; rw [hlv _ acts rfl rfl rfl]) | rw [hlv _ _ rfl rfl rfl]
    exact Steps.refl _
  · show Q_next Z i a cu c1 lr mc n b k vs x h0 n0 _ Tp12.heap _
    rw [ep12]
    exact ⟨rfl, Np12, K13, F18, (hc1 ▸ F19), Fwp12, F20⟩
theorem d23_0 : decode prog_48_method_13_code 0 = .ok (.aload_n 0, 1) := by decide +kernel
theorem d23_1 : decode prog_48_method_13_code 1 = .ok (.getfield 17, 3) := by decide +kernel
theorem d23_4 : decode prog_48_method_13_code 4 = .ok (.ireturn, 1) := by decide +kernel
theorem ef_23_R (m : MethodId) (x0 : Addr) : entryFrame m #[(.ref x0)] 1 = mkF m 0 #[.val (.ref x0)] [] := by first | (simp [entryFrame, mkF, argsToLocals, Value.category]; done) | rfl
def Q_isneg (Z : State) (a : Addr) (g : Int32) (h0 : Heap) (n0 : Nat) (v : Option Value) (h : Heap) (L : List Loc) : Prop := v = some (.int g) ∧ Fr n0 L ∧ h = h0
set_option maxRecDepth 65536 in
set_option maxHeartbeats 40000000 in
theorem rm_isneg (l : Launch) (Z : State) (a0 : Array Value) (hw : ∀ d ∈ tables_1, d.before a0 Z = true) (ws : List Jvm.Cond) (a : Addr) (g : Int32) (h0 : Heap) (n0 : Nat) (Z0 : n0 ≤ h0.size) (O0 : Old Z n0 h0) (f0 : Fld Z h0 a S6 "negated" "Z" (.int g)) (hg : g = 0 ∨ g = 1) :
    MetFree l Y17 (head1 (Jvm.Cond.code Y17 prog_48_method_13_code 1 (some .boolean) :: ws) ({ frames := 0, cells := 0, slots := 0, locals := 0 } : Room)) (fun A_ U => A_ = #[(.ref a)] ∧ Z.Warmed39 U.vm ∧ U.heap = h0) (fun _ _ _ _ _ => True) (fun _ U o_ U' => ∃ v_ L_, o_ = .returned v_ ∧ Q_isneg Z a g h0 n0 v_ U'.heap L_ ∧ FrameEnd U o_ U' L_ ({ frames := 0, cells := 0, slots := 0, locals := 0 } : Room).cells ({ frames := 0, cells := 0, slots := 0, locals := 0 } : Room).slots) := by
  refine MetFree.of_bodySF (plainFor_of_name pn_4) hisR ?_
  intro p e s m args below meth c s₁ Bd hml0 hP hK
  obtain ⟨rfl, hZ, hh⟩ := hP
  have hx := Bd.exec
  have hby := Bd.bytes
  have hml : c.maxLocals = 1 := hml0
  have hown : s.vm.findClass S6 = some m.cls := findClass_of_methodNamed Bd.named
  have hnm := (name_of_methodNamed Bd.named Bd.method).1
  have hret := Bd.returns
  have X0 : Stand p l e ({ frames := 0, cells := 0, slots := 0, locals := 0 } : Room) s m #[(.ref a)] below meth c s₁ [] 0 0 := Stand.of_body Bd
  have e0 : s₁.heap = h0 := by rw [← hh, Bd.state]; rfl
  have N0 := Fr.nil n0
  have pre0 : ∀ t_, Sp p e below s₁ (mkF m 0 #[.val (.ref a)] []) t_ → Sp p e below s₁ (entryFrame m #[(.ref a)] 1) t_ := fun t_ k_ => castTop (ef_23_R m a) k_
  obtain ⟨Tf1, Xf1, ef1, stf1⟩ := getF X0 hx hZ hown (host := "") (Or.inl (tw hw 128 rfl)) Via.refl e0 f0 (g := (mkF m 1 #[.val (.ref a)] [(.ref a)])) rfl rfl (hb hby d23_1)
  obtain ⟨fs, hlv, hrun, hended, hW, hsame⟩ := Xf1.leave (v := some (.int g)) (fun h => by rw [hret] at h; cases h)
  refine ⟨_, _, pre0 _ ?_, hrun, hended, _, _, rfl, ?_, ⟨_, rfl⟩, hW, hsame.mono (by decide) (by decide)⟩
  · refine XS.aloadN X0.here hx rfl (hb hby d23_0) rfl rfl ?_
    show Sp p e below s₁ (mkF m 1 #[.val (.ref a)] [(.ref a)]) _
    refine stf1 _ ?_
    show Sp p e below Tf1 (mkF m 4 #[.val (.ref a)] [(.int g)]) _
    exact retOut Xf1 hx (t := .boolean) hret (by rcases hg with rfl | rfl <;> rfl) (Or.inl ⟨rfl, Or.inr (Or.inl rfl), _, rfl⟩) (hb hby d23_4) hlv
  · show Q_isneg Z a g h0 n0 _ Tf1.heap _
    rw [ef1]
    exact ⟨rfl, N0, rfl⟩
theorem d24_0 : decode prog_48_method_12_code 0 = .ok (.aload_n 0, 1) := by decide +kernel
theorem d24_1 : decode prog_48_method_12_code 1 = .ok (.getfield 13, 3) := by decide +kernel
theorem d24_4 : decode prog_48_method_12_code 4 = .ok (.ireturn, 1) := by decide +kernel
theorem ef_24_R (m : MethodId) (x0 : Addr) : entryFrame m #[(.ref x0)] 1 = mkF m 0 #[.val (.ref x0)] [] := by first | (simp [entryFrame, mkF, argsToLocals, Value.category]; done) | rfl
def Q_prop (Z : State) (a : Addr) (pp : Int32) (h0 : Heap) (n0 : Nat) (v : Option Value) (h : Heap) (L : List Loc) : Prop := v = some (.int pp) ∧ Fr n0 L ∧ h = h0
set_option maxRecDepth 65536 in
set_option maxHeartbeats 40000000 in
theorem rm_prop (l : Launch) (Z : State) (a0 : Array Value) (hw : ∀ d ∈ tables_1, d.before a0 Z = true) (ws : List Jvm.Cond) (a : Addr) (pp : Int32) (h0 : Heap) (n0 : Nat) (Z0 : n0 ≤ h0.size) (O0 : Old Z n0 h0) (f0 : Fld Z h0 a S6 "proposition" "I" (.int pp)) :
    MetFree l Y18 (head1 (Jvm.Cond.code Y18 prog_48_method_12_code 1 (some .int) :: ws) ({ frames := 0, cells := 0, slots := 0, locals := 0 } : Room)) (fun A_ U => A_ = #[(.ref a)] ∧ Z.Warmed39 U.vm ∧ U.heap = h0) (fun _ _ _ _ _ => True) (fun _ U o_ U' => ∃ v_ L_, o_ = .returned v_ ∧ Q_prop Z a pp h0 n0 v_ U'.heap L_ ∧ FrameEnd U o_ U' L_ ({ frames := 0, cells := 0, slots := 0, locals := 0 } : Room).cells ({ frames := 0, cells := 0, slots := 0, locals := 0 } : Room).slots) := by
  refine MetFree.of_bodySF (plainFor_of_name pn_4) hisR ?_
  intro p e s m args below meth c s₁ Bd hml0 hP hK
  obtain ⟨rfl, hZ, hh⟩ := hP
  have hx := Bd.exec
  have hby := Bd.bytes
  have hml : c.maxLocals = 1 := hml0
  have hown : s.vm.findClass S6 = some m.cls := findClass_of_methodNamed Bd.named
  have hnm := (name_of_methodNamed Bd.named Bd.method).1
  have hret := Bd.returns
  have X0 : Stand p l e ({ frames := 0, cells := 0, slots := 0, locals := 0 } : Room) s m #[(.ref a)] below meth c s₁ [] 0 0 := Stand.of_body Bd
  have e0 : s₁.heap = h0 := by rw [← hh, Bd.state]; rfl
  have N0 := Fr.nil n0
  have pre0 : ∀ t_, Sp p e below s₁ (mkF m 0 #[.val (.ref a)] []) t_ → Sp p e below s₁ (entryFrame m #[(.ref a)] 1) t_ := fun t_ k_ => castTop (ef_24_R m a) k_
  obtain ⟨Tf1, Xf1, ef1, stf1⟩ := getF X0 hx hZ hown (host := "") (Or.inl (tw hw 126 rfl)) Via.refl e0 f0 (g := (mkF m 1 #[.val (.ref a)] [(.ref a)])) rfl rfl (hb hby d24_1)
  obtain ⟨fs, hlv, hrun, hended, hW, hsame⟩ := Xf1.leave (v := some (.int pp)) (fun h => by rw [hret] at h; cases h)
  refine ⟨_, _, pre0 _ ?_, hrun, hended, _, _, rfl, ?_, ⟨_, rfl⟩, hW, hsame.mono (by decide) (by decide)⟩
  · refine XS.aloadN X0.here hx rfl (hb hby d24_0) rfl rfl ?_
    show Sp p e below s₁ (mkF m 1 #[.val (.ref a)] [(.ref a)]) _
    refine stf1 _ ?_
    show Sp p e below Tf1 (mkF m 4 #[.val (.ref a)] [(.int pp)]) _
    exact retI Xf1 hx hret (hb hby d24_4) hlv
  · show Q_prop Z a pp h0 n0 _ Tf1.heap _
    rw [ef1]
    exact ⟨rfl, N0, rfl⟩
theorem d10_0 : decode jdk_38_method_8_code 0 = .ok (.aload_n 0, 1) := by decide +kernel
theorem d10_1 : decode jdk_38_method_8_code 1 = .ok (.getfield 48, 3) := by decide +kernel
theorem d10_4 : decode jdk_38_method_8_code 4 = .ok (.ireturn, 1) := by decide +kernel
theorem ef_10_R (m : MethodId) (x0 : Addr) : entryFrame m #[(.ref x0)] 1 = mkF m 0 #[.val (.ref x0)] [] := by first | (simp [entryFrame, mkF, argsToLocals, Value.category]; done) | rfl
def Q_size (Z : State) (a : Addr) (n : Int32) (h0 : Heap) (n0 : Nat) (v : Option Value) (h : Heap) (L : List Loc) : Prop := v = some (.int n) ∧ Fr n0 L ∧ h = h0
set_option maxRecDepth 65536 in
set_option maxHeartbeats 40000000 in
theorem rm_size (l : Launch) (Z : State) (a0 : Array Value) (hw : ∀ d ∈ tables_1, d.before a0 Z = true) (ws : List Jvm.Cond) (a : Addr) (n : Int32) (h0 : Heap) (n0 : Nat) (Z0 : n0 ≤ h0.size) (O0 : Old Z n0 h0) (f0 : Fld Z h0 a S1 "size" "I" (.int n)) :
    MetFree l Y19 (head1 (Jvm.Cond.code Y19 jdk_38_method_8_code 1 (some .int) :: ws) ({ frames := 0, cells := 0, slots := 0, locals := 0 } : Room)) (fun A_ U => A_ = #[(.ref a)] ∧ Z.Warmed39 U.vm ∧ U.heap = h0) (fun _ _ _ _ _ => True) (fun _ U o_ U' => ∃ v_ L_, o_ = .returned v_ ∧ Q_size Z a n h0 n0 v_ U'.heap L_ ∧ FrameEnd U o_ U' L_ ({ frames := 0, cells := 0, slots := 0, locals := 0 } : Room).cells ({ frames := 0, cells := 0, slots := 0, locals := 0 } : Room).slots) := by
  refine MetFree.of_bodySF (plainFor_of_name pn_2) hisR ?_
  intro p e s m args below meth c s₁ Bd hml0 hP hK
  obtain ⟨rfl, hZ, hh⟩ := hP
  have hx := Bd.exec
  have hby := Bd.bytes
  have hml : c.maxLocals = 1 := hml0
  have hown : s.vm.findClass S1 = some m.cls := findClass_of_methodNamed Bd.named
  have hnm := (name_of_methodNamed Bd.named Bd.method).1
  have hret := Bd.returns
  have X0 : Stand p l e ({ frames := 0, cells := 0, slots := 0, locals := 0 } : Room) s m #[(.ref a)] below meth c s₁ [] 0 0 := Stand.of_body Bd
  have e0 : s₁.heap = h0 := by rw [← hh, Bd.state]; rfl
  have N0 := Fr.nil n0
  have pre0 : ∀ t_, Sp p e below s₁ (mkF m 0 #[.val (.ref a)] []) t_ → Sp p e below s₁ (entryFrame m #[(.ref a)] 1) t_ := fun t_ k_ => castTop (ef_10_R m a) k_
  obtain ⟨Tf1, Xf1, ef1, stf1⟩ := getF X0 hx hZ hown (host := "") (Or.inl (tw hw 85 rfl)) Via.refl e0 f0 (g := (mkF m 1 #[.val (.ref a)] [(.ref a)])) rfl rfl (hb hby d10_1)
  obtain ⟨fs, hlv, hrun, hended, hW, hsame⟩ := Xf1.leave (v := some (.int n)) (fun h => by rw [hret] at h; cases h)
  refine ⟨_, _, pre0 _ ?_, hrun, hended, _, _, rfl, ?_, ⟨_, rfl⟩, hW, hsame.mono (by decide) (by decide)⟩
  · refine XS.aloadN X0.here hx rfl (hb hby d10_0) rfl rfl ?_
    show Sp p e below s₁ (mkF m 1 #[.val (.ref a)] [(.ref a)]) _
    refine stf1 _ ?_
    show Sp p e below Tf1 (mkF m 4 #[.val (.ref a)] [(.int n)]) _
    exact retI Xf1 hx hret (hb hby d10_4) hlv
  · show Q_size Z a n h0 n0 _ Tf1.heap _
    rw [ef1]
    exact ⟨rfl, N0, rfl⟩
theorem d30_0 : decode jdk_33_method_27_code 0 = .ok (.aload_n 0, 1) := by decide +kernel
theorem d30_1 : decode jdk_33_method_27_code 1 = .ok (.getfield 205, 3) := by decide +kernel
theorem d30_4 : decode jdk_33_method_27_code 4 = .ok (.ireturn, 1) := by decide +kernel
theorem pn_6 : plainName "java/lang/Integer" = true := by first | (simp [plainName, overriddenIn]; done) | decide +kernel
theorem ef_30_R (m : MethodId) (x0 : Addr) : entryFrame m #[(.ref x0)] 1 = mkF m 0 #[.val (.ref x0)] [] := by first | (simp [entryFrame, mkF, argsToLocals, Value.category]; done) | rfl
def Q_intval (Z : State) (a : Addr) (pp : Int32) (h0 : Heap) (n0 : Nat) (v : Option Value) (h : Heap) (L : List Loc) : Prop := v = some (.int pp) ∧ Fr n0 L ∧ h = h0
set_option maxRecDepth 65536 in
set_option maxHeartbeats 40000000 in
theorem rm_intval (l : Launch) (Z : State) (a0 : Array Value) (hw : ∀ d ∈ tables_1, d.before a0 Z = true) (ws : List Jvm.Cond) (a : Addr) (pp : Int32) (h0 : Heap) (n0 : Nat) (Z0 : n0 ≤ h0.size) (O0 : Old Z n0 h0) (f0 : Fld Z h0 a S0 "value" "I" (.int pp)) :
    MetFree l Y20 (head1 (Jvm.Cond.code Y20 jdk_33_method_27_code 1 (some .int) :: ws) ({ frames := 0, cells := 0, slots := 0, locals := 0 } : Room)) (fun A_ U => A_ = #[(.ref a)] ∧ Z.Warmed39 U.vm ∧ U.heap = h0) (fun _ _ _ _ _ => True) (fun _ U o_ U' => ∃ v_ L_, o_ = .returned v_ ∧ Q_intval Z a pp h0 n0 v_ U'.heap L_ ∧ FrameEnd U o_ U' L_ ({ frames := 0, cells := 0, slots := 0, locals := 0 } : Room).cells ({ frames := 0, cells := 0, slots := 0, locals := 0 } : Room).slots) := by
  refine MetFree.of_bodySF (plainFor_of_name pn_6) hisR ?_
  intro p e s m args below meth c s₁ Bd hml0 hP hK
  obtain ⟨rfl, hZ, hh⟩ := hP
  have hx := Bd.exec
  have hby := Bd.bytes
  have hml : c.maxLocals = 1 := hml0
  have hown : s.vm.findClass S0 = some m.cls := findClass_of_methodNamed Bd.named
  have hnm := (name_of_methodNamed Bd.named Bd.method).1
  have hret := Bd.returns
  have X0 : Stand p l e ({ frames := 0, cells := 0, slots := 0, locals := 0 } : Room) s m #[(.ref a)] below meth c s₁ [] 0 0 := Stand.of_body Bd
  have e0 : s₁.heap = h0 := by rw [← hh, Bd.state]; rfl
  have N0 := Fr.nil n0
  have pre0 : ∀ t_, Sp p e below s₁ (mkF m 0 #[.val (.ref a)] []) t_ → Sp p e below s₁ (entryFrame m #[(.ref a)] 1) t_ := fun t_ k_ => castTop (ef_30_R m a) k_
  obtain ⟨Tf1, Xf1, ef1, stf1⟩ := getF X0 hx hZ hown (host := "") (Or.inl (tw hw 241 rfl)) Via.refl e0 f0 (g := (mkF m 1 #[.val (.ref a)] [(.ref a)])) rfl rfl (hb hby d30_1)
  obtain ⟨fs, hlv, hrun, hended, hW, hsame⟩ := Xf1.leave (v := some (.int pp)) (fun h => by rw [hret] at h; cases h)
  refine ⟨_, _, pre0 _ ?_, hrun, hended, _, _, rfl, ?_, ⟨_, rfl⟩, hW, hsame.mono (by decide) (by decide)⟩
  · refine XS.aloadN X0.here hx rfl (hb hby d30_0) rfl rfl ?_
    show Sp p e below s₁ (mkF m 1 #[.val (.ref a)] [(.ref a)]) _
    refine stf1 _ ?_
    show Sp p e below Tf1 (mkF m 4 #[.val (.ref a)] [(.int pp)]) _
    exact retI Xf1 hx hret (hb hby d30_4) hlv
  · show Q_intval Z a pp h0 n0 _ Tf1.heap _
    rw [ef1]
    exact ⟨rfl, N0, rfl⟩
theorem d29_0 : decode jdk_38_method_18_code 0 = .ok (.aload_n 0, 1) := by decide +kernel
theorem d29_1 : decode jdk_38_method_18_code 1 = .ok (.getfield 9, 3) := by decide +kernel
theorem d29_4 : decode jdk_38_method_18_code 4 = .ok (.iload_n 1, 1) := by decide +kernel
theorem d29_5 : decode jdk_38_method_18_code 5 = .ok (.aaload, 1) := by decide +kernel
theorem d29_6 : decode jdk_38_method_18_code 6 = .ok (.areturn, 1) := by decide +kernel
theorem ef_29_RI (m : MethodId) (x0 : Addr) (x1 : Int32) : entryFrame m #[(.ref x0), (.int x1)] 2 = mkF m 0 #[.val (.ref x0), .val (.int x1)] [] := by first | (simp [entryFrame, mkF, argsToLocals, Value.category]; done) | rfl
def Q_eldata (Z : State) (a : Addr) (j : Int32) (b : Addr) (k : ClassId) (vs : List Value) (x : Addr) (h0 : Heap) (n0 : Nat) (v : Option Value) (h : Heap) (L : List Loc) : Prop := v = some (.ref x) ∧ Fr n0 L ∧ h = h0
set_option maxRecDepth 65536 in
set_option maxHeartbeats 40000000 in
theorem rm_eldata (l : Launch) (Z : State) (a0 : Array Value) (hw : ∀ d ∈ tables_1, d.before a0 Z = true) (ws : List Jvm.Cond) (a : Addr) (j : Int32) (b : Addr) (k : ClassId) (vs : List Value) (x : Addr) (h0 : Heap) (n0 : Nat) (Z0 : n0 ≤ h0.size) (O0 : Old Z n0 h0) (f0 : Fld Z h0 a S1 "elementData" S2 (.ref b)) (f1 : Arv Z h0 b k (.object S3) (10 : Int32) vs .null) (hj0 : ¬ (j < 0)) (hj10 : j < (10 : Int32)) (hel : List.getD vs j.toNatClampNeg Value.null = Value.ref x) :
    MetFree l Y21 (head1 (Jvm.Cond.code Y21 jdk_38_method_18_code 2 (some (.object S3)) :: ws) ({ frames := 0, cells := 0, slots := 0, locals := 0 } : Room)) (fun A_ U => A_ = #[(.ref a), (.int j)] ∧ Z.Warmed39 U.vm ∧ U.heap = h0) (fun _ _ _ _ _ => True) (fun _ U o_ U' => ∃ v_ L_, o_ = .returned v_ ∧ Q_eldata Z a j b k vs x h0 n0 v_ U'.heap L_ ∧ FrameEnd U o_ U' L_ ({ frames := 0, cells := 0, slots := 0, locals := 0 } : Room).cells ({ frames := 0, cells := 0, slots := 0, locals := 0 } : Room).slots) := by
  refine MetFree.of_bodySF (plainFor_of_name pn_2) hisR ?_
  intro p e s m args below meth c s₁ Bd hml0 hP hK
  obtain ⟨rfl, hZ, hh⟩ := hP
  have hx := Bd.exec
  have hby := Bd.bytes
  have hml : c.maxLocals = 2 := hml0
  have hown : s.vm.findClass S1 = some m.cls := findClass_of_methodNamed Bd.named
  have hnm := (name_of_methodNamed Bd.named Bd.method).1
  have hret := Bd.returns
  have X0 : Stand p l e ({ frames := 0, cells := 0, slots := 0, locals := 0 } : Room) s m #[(.ref a), (.int j)] below meth c s₁ [] 0 0 := Stand.of_body Bd
  have e0 : s₁.heap = h0 := by rw [← hh, Bd.state]; rfl
  have N0 := Fr.nil n0
  have pre0 : ∀ t_, Sp p e below s₁ (mkF m 0 #[.val (.ref a), .val (.int j)] []) t_ → Sp p e below s₁ (entryFrame m #[(.ref a), (.int j)] 2) t_ := fun t_ k_ => castTop (ef_29_RI m a j) k_
  obtain ⟨Tf1, Xf1, ef1, stf1⟩ := getF X0 hx hZ hown (host := "") (Or.inl (tw hw 24 rfl)) Via.refl e0 f0 (g := (mkF m 1 #[.val (.ref a), .val (.int j)] [(.ref a)])) rfl rfl (hb hby d29_1)
  obtain ⟨clv2, Arv2, qv2, Sv2, Nv2, Hv2, Gv2⟩ := id f1
  have in3 : ¬ (j < 0 ∨ clv2.slots.size ≤ (j).toNatClampNeg) := inb_of Sv2 ⟨hj0, hj10⟩
  have atin3 : clv2.slots[(j).toNatClampNeg]? = some (.ref x) := Has.at Hv2 in3 hel
  obtain ⟨fs, hlv, hrun, hended, hW, hsame⟩ := Xf1.leave (v := some (.ref x)) (fun h => by rw [hret] at h; cases h)
  refine ⟨_, _, pre0 _ ?_, hrun, hended, _, _, rfl, ?_, ⟨_, rfl⟩, hW, hsame.mono (by decide) (by decide)⟩
  · refine XS.aloadN X0.here hx rfl (hb hby d29_0) rfl rfl ?_
    show Sp p e below s₁ (mkF m 1 #[.val (.ref a), .val (.int j)] [(.ref a)]) _
    refine stf1 _ ?_
    refine XS.iloadN Xf1.here hx rfl (hb hby d29_4) rfl ?_
    show Sp p e below Tf1 (mkF m 5 #[.val (.ref a), .val (.int j)] [(.int j), (.ref b)]) _
    refine Xf1.aaload hx (j := j) (v := (.ref x)) (own_eq ef1 Arv2.1) (State.isArrayOf_alike hZ.alike Arv2.2.1) rfl Arv2.2.2 in3 atin3 (g := (mkF m 5 #[.val (.ref a), .val (.int j)] [(.int j), (.ref b)])) rfl rfl (hb hby d29_5) _ ?_
    show Sp p e below Tf1 (mkF m 6 #[.val (.ref a), .val (.int j)] [(.ref x)]) _
    jvm_step Xf1.here [Xf1.here.top, hx, (hb hby d29_6), Xf1.method', hret, Value.isRef, FieldType.isReference]
    first | (intro acts; rw [hlv _ acts rfl rfl rfl]) | rw [hlv _ _ rfl rfl rfl]
    exact Steps.refl _
  · show Q_eldata Z a j b k vs x h0 n0 _ Tf1.heap _
    rw [ef1]
    exact ⟨rfl, N0, rfl⟩
theorem d28_0 : decode jdk_41_method_11_code 0 = .ok (.iload_n 0, 1) := by decide +kernel
theorem d28_1 : decode jdk_41_method_11_code 1 = .ok (.ifCond .lt 8, 3) := by decide +kernel
theorem d28_4 : decode jdk_41_method_11_code 4 = .ok (.iload_n 0, 1) := by decide +kernel
theorem d28_5 : decode jdk_41_method_11_code 5 = .ok (.iload_n 1, 1) := by decide +kernel
theorem d28_6 : decode jdk_41_method_11_code 6 = .ok (.if_icmp .lt 10, 3) := by decide +kernel
theorem d28_16 : decode jdk_41_method_11_code 16 = .ok (.iload_n 0, 1) := by decide +kernel
theorem d28_17 : decode jdk_41_method_11_code 17 = .ok (.ireturn, 1) := by decide +kernel
theorem pn_7 : plainName "jdk/internal/util/Preconditions" = true := by first | (simp [plainName, overriddenIn]; done) | decide +kernel
theorem ef_28_IIN (m : MethodId) (x0 : Int32) (x1 : Int32) : entryFrame m #[(.int x0), (.int x1), .null] 3 = mkF m 0 #[.val (.int x0), .val (.int x1), .val .null] [] := by first | (simp [entryFrame, mkF, argsToLocals, Value.category]; done) | rfl
def Q_chki3 (Z : State) (j : Int32) (n : Int32) (h0 : Heap) (n0 : Nat) (v : Option Value) (h : Heap) (L : List Loc) : Prop := v = some (.int j) ∧ Fr n0 L ∧ h = h0
set_option maxRecDepth 65536 in
set_option maxHeartbeats 40000000 in
theorem rm_chki3 (l : Launch) (Z : State) (a0 : Array Value) (hw : ∀ d ∈ tables_1, d.before a0 Z = true) (ws : List Jvm.Cond) (j : Int32) (n : Int32) (h0 : Heap) (n0 : Nat) (Z0 : n0 ≤ h0.size) (O0 : Old Z n0 h0) (hj0 : ¬ (j < (0 : Int32))) (hjn : j < n) :
    MetFree l Y22 (head1 (Jvm.Cond.code Y22 jdk_41_method_11_code 3 (some .int) :: ws) ({ frames := 0, cells := 0, slots := 0, locals := 0 } : Room)) (fun A_ U => A_ = #[(.int j), (.int n), .null] ∧ Z.Warmed39 U.vm ∧ U.heap = h0) (fun _ _ _ _ _ => True) (fun _ U o_ U' => ∃ v_ L_, o_ = .returned v_ ∧ Q_chki3 Z j n h0 n0 v_ U'.heap L_ ∧ FrameEnd U o_ U' L_ ({ frames := 0, cells := 0, slots := 0, locals := 0 } : Room).cells ({ frames := 0, cells := 0, slots := 0, locals := 0 } : Room).slots) := by
  refine MetFree.of_bodySF (plainFor_of_name pn_7) hisR ?_
  intro p e s m args below meth c s₁ Bd hml0 hP hK
  obtain ⟨rfl, hZ, hh⟩ := hP
  have hx := Bd.exec
  have hby := Bd.bytes
  have hml : c.maxLocals = 3 := hml0
  have hown : s.vm.findClass "jdk/internal/util/Preconditions" = some m.cls := findClass_of_methodNamed Bd.named
  have hnm := (name_of_methodNamed Bd.named Bd.method).1
  have hret := Bd.returns
  have X0 : Stand p l e ({ frames := 0, cells := 0, slots := 0, locals := 0 } : Room) s m #[(.int j), (.int n), .null] below meth c s₁ [] 0 0 := Stand.of_body Bd
  have e0 : s₁.heap = h0 := by rw [← hh, Bd.state]; rfl
  have N0 := Fr.nil n0
  have pre0 : ∀ t_, Sp p e below s₁ (mkF m 0 #[.val (.int j), .val (.int n), .val .null] []) t_ → Sp p e below s₁ (entryFrame m #[(.int j), (.int n), .null] 3) t_ := fun t_ k_ => castTop (ef_28_IIN m j n) k_
  obtain ⟨fs, hlv, hrun, hended, hW, hsame⟩ := X0.leave (v := some (.int j)) (fun h => by rw [hret] at h; cases h)
  refine ⟨_, _, pre0 _ ?_, hrun, hended, _, _, rfl, ?_, ⟨_, rfl⟩, hW, hsame.mono (by decide) (by decide)⟩
  · refine XS.iloadN X0.here hx rfl (hb hby d28_0) rfl ?_
    show Sp p e below s₁ (mkF m 1 #[.val (.int j), .val (.int n), .val .null] [(.int j)]) _
    refine XS.ifNo X0.here hx rfl (hb hby d28_1) rfl ((if0 _ _).trans (flt hj0).1) ?_
    refine XS.iloadN X0.here hx rfl (hb hby d28_4) rfl ?_
    refine XS.iloadN X0.here hx rfl (hb hby d28_5) rfl ?_
    refine XS.icmpYes X0.here hx rfl (pc0 := 6) (pc' := 16) rfl (hb hby d28_6) rfl (tlt hjn).1 (by decide) (by decide) ?_
    refine XS.iloadN X0.here hx rfl (hb hby d28_16) rfl ?_
    show Sp p e below s₁ (mkF m 17 #[.val (.int j), .val (.int n), .val .null] [(.int j)]) _
    exact retI X0 hx hret (hb hby d28_17) hlv
  · show Q_chki3 Z j n h0 n0 _ s₁.heap _
    rw [e0]
    exact ⟨rfl, N0, rfl⟩
theorem d27_0 : decode jdk_31_method_17_code 0 = .ok (.iload_n 0, 1) := by decide +kernel
theorem d27_1 : decode jdk_31_method_17_code 1 = .ok (.iload_n 1, 1) := by decide +kernel
theorem d27_2 : decode jdk_31_method_17_code 2 = .ok (.aconst_null, 1) := by decide +kernel
theorem d27_3 : decode jdk_31_method_17_code 3 = .ok (.invokestatic 105, 3) := by decide +kernel
theorem d27_6 : decode jdk_31_method_17_code 6 = .ok (.ireturn, 1) := by decide +kernel
theorem pn_8 : plainName "java/util/Objects" = true := by first | (simp [plainName, overriddenIn]; done) | decide +kernel
theorem ef_27_II (m : MethodId) (x0 : Int32) (x1 : Int32) : entryFrame m #[(.int x0), (.int x1)] 2 = mkF m 0 #[.val (.int x0), .val (.int x1)] [] := by first | (simp [entryFrame, mkF, argsToLocals, Value.category]; done) | rfl
theorem pd__IILjava_util_function_BiFunction__I : parseMethodDescriptor "(IILjava/util/function/BiFunction;)I" = some ⟨[.int, .int, (.object "java/util/function/BiFunction")], some .int⟩ := by decide +kernel
def Q_chki2 (Z : State) (j : Int32) (n : Int32) (h0 : Heap) (n0 : Nat) (v : Option Value) (h : Heap) (L : List Loc) : Prop := v = some (.int j) ∧ Fr n0 L ∧ h = h0
set_option maxRecDepth 65536 in
set_option maxHeartbeats 40000000 in
theorem rm_chki2 (l : Launch) (Z : State) (a0 : Array Value) (hw : ∀ d ∈ tables_1, d.before a0 Z = true) (ws : List Jvm.Cond) (j : Int32) (n : Int32) (h0 : Heap) (n0 : Nat) (Z0 : n0 ≤ h0.size) (O0 : Old Z n0 h0) (hj0 : ¬ (j < (0 : Int32))) (hjn : j < n) :
    MetFree l Y23 (head1 (Jvm.Cond.code Y23 jdk_31_method_17_code 2 (some .int) :: ws) ({ frames := 1, cells := 0, slots := 0, locals := 14 } : Room)) (fun A_ U => A_ = #[(.int j), (.int n)] ∧ Z.Warmed39 U.vm ∧ U.heap = h0) (fun _ _ _ _ _ => True) (fun _ U o_ U' => ∃ v_ L_, o_ = .returned v_ ∧ Q_chki2 Z j n h0 n0 v_ U'.heap L_ ∧ FrameEnd U o_ U' L_ ({ frames := 1, cells := 0, slots := 0, locals := 14 } : Room).cells ({ frames := 1, cells := 0, slots := 0, locals := 14 } : Room).slots) := by
  refine MetFree.of_bodySF (plainFor_of_name pn_8) hisR ?_
  intro p e s m args below meth c s₁ Bd hml0 hP hK
  obtain ⟨rfl, hZ, hh⟩ := hP
  have hx := Bd.exec
  have hby := Bd.bytes
  have hml : c.maxLocals = 2 := hml0
  have hown : s.vm.findClass "java/util/Objects" = some m.cls := findClass_of_methodNamed Bd.named
  have hnm := (name_of_methodNamed Bd.named Bd.method).1
  have hret := Bd.returns
  have X0 : Stand p l e ({ frames := 1, cells := 0, slots := 0, locals := 14 } : Room) s m #[(.int j), (.int n)] below meth c s₁ [] 0 0 := Stand.of_body Bd
  have e0 : s₁.heap = h0 := by rw [← hh, Bd.state]; rfl
  have N0 := Fr.nil n0
  have pre0 : ∀ t_, Sp p e below s₁ (mkF m 0 #[.val (.int j), .val (.int n)] []) t_ → Sp p e below s₁ (entryFrame m #[(.int j), (.int n)] 2) t_ := fun t_ k_ => castTop (ef_27_II m j n) k_
  obtain ⟨_, _, ⟨Tk1, Lk1, kk1, nk1⟩, -, Xk1, ⟨Lck1, hQk1, lk1, yk1, zk1⟩, stk1⟩ := Jvm.LawKit.callS X0 hx (y := Y22) hown (mvT hZ (tw hw 225 rfl)) (mvT hZ (tw hw 226 rfl)) (mvT hZ (tw hw 227 rfl)) (mvT hZ (tw hw 228 rfl)) (by decide) (backOf (W := 0) (rm_chki3 l Z a0 hw [] j n  h0 n0 Z0 O0 hj0 hjn) hZ (tw hw 228 rfl) (tw hw 227 rfl) (by decide) (by decide)) (g := (mkF m 3 #[.val (.int j), .val (.int n)] [.null, (.int n), (.int j)])) rfl (by rw [hml]; rfl) (argsL := [(.int j), (.int n), .null]) (rest := []) (lenOf pd__IILjava_util_function_BiFunction__I rfl) rfl (by show 2 * 0 + _ ≤ _; exact Nat.le_of_eq rfl) (hb hby d27_3) (fun _ _ => ⟨rfl, e0, (by decide : 0 + 0 ≤ _), (by decide : 0 + 0 ≤ _)⟩)
  dsimp only [Pt.U, Pt.locs, Pt.cells, Pt.slots] at Xk1 lk1 yk1 zk1 stk1 hQk1
  subst lk1 yk1 zk1
  obtain ⟨rfl, Nk1q, ek1⟩ := hQk1
  have Nk1 := Fr.app N0 Nk1q
  obtain ⟨fs, hlv, hrun, hended, hW, hsame⟩ := Xk1.leave (v := some (.int j)) (fun h => by rw [hret] at h; cases h)
  refine ⟨_, _, pre0 _ ?_, hrun, hended, _, _, rfl, ?_, ⟨_, rfl⟩, hW, hsame.mono (by decide) (by decide)⟩
  · refine XS.iloadN X0.here hx rfl (hb hby d27_0) rfl ?_
    show Sp p e below s₁ (mkF m 1 #[.val (.int j), .val (.int n)] [(.int j)]) _
    refine XS.iloadN X0.here hx rfl (hb hby d27_1) rfl ?_
    refine XS.aconstNull X0.here hx rfl (hb hby d27_2) ?_
    refine stk1 _ ?_
    show Sp p e below Tk1 (mkF m 6 #[.val (.int j), .val (.int n)] [(.int j)]) _
    exact retI Xk1 hx hret (hb hby d27_6) hlv
  · show Q_chki2 Z j n h0 n0 _ Tk1.heap _
    rw [ek1]
    exact ⟨rfl, Nk1, rfl⟩
theorem d26_0 : decode jdk_38_method_20_code 0 = .ok (.iload_n 1, 1) := by decide +kernel
theorem d26_1 : decode jdk_38_method_20_code 1 = .ok (.aload_n 0, 1) := by decide +kernel
theorem d26_2 : decode jdk_38_method_20_code 2 = .ok (.getfield 48, 3) := by decide +kernel
theorem d26_5 : decode jdk_38_method_20_code 5 = .ok (.invokestatic 118, 3) := by decide +kernel
theorem d26_8 : decode jdk_38_method_20_code 8 = .ok (.pop, 1) := by decide +kernel
theorem d26_9 : decode jdk_38_method_20_code 9 = .ok (.aload_n 0, 1) := by decide +kernel
theorem d26_10 : decode jdk_38_method_20_code 10 = .ok (.iload_n 1, 1) := by decide +kernel
theorem d26_11 : decode jdk_38_method_20_code 11 = .ok (.invokevirtual 123, 3) := by decide +kernel
theorem d26_14 : decode jdk_38_method_20_code 14 = .ok (.areturn, 1) := by decide +kernel
theorem ef_26_RI (m : MethodId) (x0 : Addr) (x1 : Int32) : entryFrame m #[(.ref x0), (.int x1)] 2 = mkF m 0 #[.val (.ref x0), .val (.int x1)] [] := by first | (simp [entryFrame, mkF, argsToLocals, Value.category]; done) | rfl
theorem pd__I_Ljava_lang_Object_ : parseMethodDescriptor "(I)Ljava/lang/Object;" = some ⟨[.int], some (.object "java/lang/Object")⟩ := by decide +kernel
def Q_get (Z : State) (a : Addr) (j : Int32) (n : Int32) (b : Addr) (k : ClassId) (vs : List Value) (x : Addr) (h0 : Heap) (n0 : Nat) (v : Option Value) (h : Heap) (L : List Loc) : Prop := v = some (.ref x) ∧ Fr n0 L ∧ h = h0
set_option maxRecDepth 65536 in
set_option maxHeartbeats 40000000 in
theorem rm_get (l : Launch) (Z : State) (a0 : Array Value) (hw : ∀ d ∈ tables_1, d.before a0 Z = true) (ws : List Jvm.Cond) (a : Addr) (j : Int32) (n : Int32) (b : Addr) (k : ClassId) (vs : List Value) (x : Addr) (h0 : Heap) (n0 : Nat) (Z0 : n0 ≤ h0.size) (O0 : Old Z n0 h0) (f0 : Exa Z h0 a S1) (f1 : Fld Z h0 a S1 "size" "I" (.int n)) (f2 : Fld Z h0 a S1 "elementData" S2 (.ref b)) (f3 : Arv Z h0 b k (.object S3) (10 : Int32) vs .null) (hj0 : ¬ (j < (0 : Int32))) (hjn : j < n) (hj10 : j < (10 : Int32)) (hel : List.getD vs j.toNatClampNeg Value.null = Value.ref x) :
    MetFree l Y24 (head1 (Jvm.Cond.code Y24 jdk_38_method_20_code 2 (some (.object S3)) :: ws) ({ frames := 2, cells := 0, slots := 0, locals := 27 } : Room)) (fun A_ U => A_ = #[(.ref a), (.int j)] ∧ Z.Warmed39 U.vm ∧ U.heap = h0) (fun _ _ _ _ _ => True) (fun _ U o_ U' => ∃ v_ L_, o_ = .returned v_ ∧ Q_get Z a j n b k vs x h0 n0 v_ U'.heap L_ ∧ FrameEnd U o_ U' L_ ({ frames := 2, cells := 0, slots := 0, locals := 27 } : Room).cells ({ frames := 2, cells := 0, slots := 0, locals := 27 } : Room).slots) := by
  refine MetFree.of_bodySF (plainFor_of_name pn_2) hisR ?_
  intro p e s m args below meth c s₁ Bd hml0 hP hK
  obtain ⟨rfl, hZ, hh⟩ := hP
  have hx := Bd.exec
  have hby := Bd.bytes
  have hml : c.maxLocals = 2 := hml0
  have hown : s.vm.findClass S1 = some m.cls := findClass_of_methodNamed Bd.named
  have hnm := (name_of_methodNamed Bd.named Bd.method).1
  have hret := Bd.returns
  have X0 : Stand p l e ({ frames := 2, cells := 0, slots := 0, locals := 27 } : Room) s m #[(.ref a), (.int j)] below meth c s₁ [] 0 0 := Stand.of_body Bd
  have e0 : s₁.heap = h0 := by rw [← hh, Bd.state]; rfl
  have N0 := Fr.nil n0
  have pre0 : ∀ t_, Sp p e below s₁ (mkF m 0 #[.val (.ref a), .val (.int j)] []) t_ → Sp p e below s₁ (entryFrame m #[(.ref a), (.int j)] 2) t_ := fun t_ k_ => castTop (ef_26_RI m a j) k_
  obtain ⟨Tf1, Xf1, ef1, stf1⟩ := getF X0 hx hZ hown (host := "") (Or.inl (tw hw 85 rfl)) Via.refl e0 f1 (g := (mkF m 2 #[.val (.ref a), .val (.int j)] [(.ref a), (.int j)])) rfl rfl (hb hby d26_2)
  obtain ⟨_, _, ⟨Tk2, Lk2, kk2, nk2⟩, -, Xk2, ⟨Lck2, hQk2, lk2, yk2, zk2⟩, stk2⟩ := Jvm.LawKit.callS Xf1 hx (y := Y23) hown (mvT hZ (tw hw 221 rfl)) (mvT hZ (tw hw 222 rfl)) (mvT hZ (tw hw 223 rfl)) (mvT hZ (tw hw 224 rfl)) (by decide) (backOf (W := 0) (rm_chki2 l Z a0 hw [] j n  h0 n0 Z0 O0 hj0 hjn) hZ (tw hw 224 rfl) (tw hw 223 rfl) (by decide) (by decide)) (g := (mkF m 5 #[.val (.ref a), .val (.int j)] [(.int n), (.int j)])) rfl (by rw [hml]; rfl) (argsL := [(.int j), (.int n)]) (rest := []) (lenOf pd__II_I rfl) rfl (by show 2 * 0 + _ ≤ _; exact Nat.le_of_eq rfl) (hb hby d26_5) (fun _ _ => ⟨rfl, ef1, (by decide : 0 + 0 ≤ _), (by decide : 0 + 0 ≤ _)⟩)
  dsimp only [Pt.U, Pt.locs, Pt.cells, Pt.slots] at Xk2 lk2 yk2 zk2 stk2 hQk2
  subst lk2 yk2 zk2
  obtain ⟨rfl, Nk2q, ek2⟩ := hQk2
  have Nk2 := Fr.app N0 Nk2q
  obtain ⟨cqk3, kqk3, qk3a, qk3b, qk3c⟩ := isOf hZ ek2 f0
  obtain ⟨_, _, ⟨Tk3, Lk3, kk3, nk3⟩, -, Xk3, ⟨Lck3, hQk3, lk3, yk3, zk3⟩, stk3⟩ := Xk2.virtualBack hx (y := Y21) (z := Y21) hown (mvT hZ (tw hw 229 rfl)) (mvT hZ (tw hw 230 rfl)) (notFace_of_selects (args := #[]) (mvT hZ (tw hw 232 rfl))) (mvT hZ (tw hw 232 rfl)) (mvT hZ (tw hw 231 rfl)) (by decide) (backOf (W := 0) (rm_eldata l Z a0 hw [] a j b k vs x  h0 n0 Z0 O0 f2 f3 hj0 hj10 hel) hZ (tw hw 233 rfl) (tw hw 2 rfl) (by decide) (by decide)) qk3a qk3c (g := (mkF m 11 #[.val (.ref a), .val (.int j)] [(.int j), (.ref a)])) rfl (by rw [hml]; rfl) (Steps.refl _) (argsL := [(.int j)]) (rest := []) (lenOf pd__I_Ljava_lang_Object_ rfl) rfl (by show 2 * 0 + _ ≤ _; exact Nat.le_of_eq rfl) (hb hby d26_11) (fun _ _ => ⟨rfl, ek2, (by decide : 0 + 0 ≤ _), (by decide : 0 + 0 ≤ _)⟩)
  dsimp only [Pt.U, Pt.locs, Pt.cells, Pt.slots] at Xk3 lk3 yk3 zk3 stk3 hQk3
  subst lk3 yk3 zk3
  obtain ⟨rfl, Nk3q, ek3⟩ := hQk3
  have Nk3 := Fr.app Nk2 Nk3q
  obtain ⟨fs, hlv, hrun, hended, hW, hsame⟩ := Xk3.leave (v := some (.ref x)) (fun h => by rw [hret] at h; cases h)
  refine ⟨_, _, pre0 _ ?_, hrun, hended, _, _, rfl, ?_, ⟨_, rfl⟩, hW, hsame.mono (by decide) (by decide)⟩
  · refine XS.iloadN X0.here hx rfl (hb hby d26_0) rfl ?_
    show Sp p e below s₁ (mkF m 1 #[.val (.ref a), .val (.int j)] [(.int j)]) _
    refine XS.aloadN X0.here hx rfl (hb hby d26_1) rfl rfl ?_
    refine stf1 _ ?_
    refine stk2 _ ?_
    refine XS.pop Xk2.here hx rfl (hb hby d26_8) rfl rfl ?_
    refine XS.aloadN Xk2.here hx rfl (hb hby d26_9) rfl rfl ?_
    refine XS.iloadN Xk2.here hx rfl (hb hby d26_10) rfl ?_
    refine stk3.trans ?_
    show Sp p e below Tk3 (mkF m 14 #[.val (.ref a), .val (.int j)] [(.ref x)]) _
    jvm_step Xk3.here [Xk3.here.top, hx, (hb hby d26_14), Xk3.method', hret, Value.isRef, FieldType.isReference]
    first | (intro acts; rw [hlv _ acts rfl rfl rfl]) | rw [hlv _ _ rfl rfl rfl]
    exact Steps.refl _
  · show Q_get Z a j n b k vs x h0 n0 _ Tk3.heap _
    rw [ek3]
    exact ⟨rfl, Nk3, rfl⟩
theorem d32_0 : decode jdk_18_method_1_code 0 = .ok (.aload_n 0, 1) := by decide +kernel
theorem d32_1 : decode jdk_18_method_1_code 1 = .ok (.invokespecial 1, 3) := by decide +kernel
theorem d32_4 : decode jdk_18_method_1_code 4 = .ok (.return_, 1) := by decide +kernel
theorem pn_9 : plainName "java/lang/Number" = true := by first | (simp [plainName, overriddenIn]; done) | decide +kernel
theorem ef_32_R (m : MethodId) (x0 : Addr) : entryFrame m #[(.ref x0)] 1 = mkF m 0 #[.val (.ref x0)] [] := by first | (simp [entryFrame, mkF, argsToLocals, Value.category]; done) | rfl
def Q_numinit (Z : State) (a : Addr) (h0 : Heap) (n0 : Nat) (v : Option Value) (h : Heap) (L : List Loc) : Prop := v = none ∧ Fr n0 L ∧ h = h0
set_option maxRecDepth 65536 in
set_option maxHeartbeats 40000000 in
theorem rm_numinit (l : Launch) (Z : State) (a0 : Array Value) (hw : ∀ d ∈ tables_1, d.before a0 Z = true) (ws : List Jvm.Cond) (a : Addr) (h0 : Heap) (n0 : Nat) (Z0 : n0 ≤ h0.size) (O0 : Old Z n0 h0) :
    MetFree l Y25 (head1 (Jvm.Cond.code Y25 jdk_18_method_1_code 1 none :: ws) ({ frames := 1, cells := 0, slots := 0, locals := 12 } : Room)) (fun A_ U => A_ = #[(.ref a)] ∧ Z.Warmed39 U.vm ∧ U.heap = h0) (fun _ _ _ _ _ => True) (fun _ U o_ U' => ∃ v_ L_, o_ = .returned v_ ∧ Q_numinit Z a h0 n0 v_ U'.heap L_ ∧ FrameEnd U o_ U' L_ ({ frames := 1, cells := 0, slots := 0, locals := 12 } : Room).cells ({ frames := 1, cells := 0, slots := 0, locals := 12 } : Room).slots) := by
  refine MetFree.of_bodySF (plainFor_of_name pn_9) hisR ?_
  intro p e s m args below meth c s₁ Bd hml0 hP hK
  obtain ⟨rfl, hZ, hh⟩ := hP
  have hx := Bd.exec
  have hby := Bd.bytes
  have hml : c.maxLocals = 1 := hml0
  have hown : s.vm.findClass "java/lang/Number" = some m.cls := findClass_of_methodNamed Bd.named
  have hnm := (name_of_methodNamed Bd.named Bd.method).1
  have hret := Bd.returns
  have X0 : Stand p l e ({ frames := 1, cells := 0, slots := 0, locals := 12 } : Room) s m #[(.ref a)] below meth c s₁ [] 0 0 := Stand.of_body Bd
  have e0 : s₁.heap = h0 := by rw [← hh, Bd.state]; rfl
  have N0 := Fr.nil n0
  have pre0 : ∀ t_, Sp p e below s₁ (mkF m 0 #[.val (.ref a)] []) t_ → Sp p e below s₁ (entryFrame m #[(.ref a)] 1) t_ := fun t_ k_ => castTop (ef_32_R m a) k_
  obtain ⟨Ti1, Xi1, ei1, sti1⟩ := initO X0 hx hZ hown (tw hw 254 rfl) (tw hw 19 rfl) (tw hw 20 rfl) e0 (g := (mkF m 1 #[.val (.ref a)] [(.ref a)])) rfl (by rw [hml]; rfl) rfl (hb hby d32_1) (by decide) (W := 0) (by show 2 * 0 + _ ≤ _; exact Nat.le_of_eq rfl) (by decide)
  obtain ⟨fs, hlv, hrun, hended, hW, hsame⟩ := Xi1.leave (v := none) (fun _ => rfl)
  refine ⟨_, _, pre0 _ ?_, hrun, hended, _, _, rfl, ?_, ⟨_, rfl⟩, hW, hsame.mono (by decide) (by decide)⟩
  · refine XS.aloadN X0.here hx rfl (hb hby d32_0) rfl rfl ?_
    show Sp p e below s₁ (mkF m 1 #[.val (.ref a)] [(.ref a)]) _
    refine sti1 _ ?_
    show Sp p e below Ti1 (mkF m 4 #[.val (.ref a)] []) _
    exact Xi1.returnOut hx hret (hb hby d32_4) hlv
  · show Q_numinit Z a h0 n0 _ Ti1.heap _
    rw [ei1]
    exact ⟨rfl, N0, rfl⟩
theorem d31_0 : decode jdk_33_method_23_code 0 = .ok (.aload_n 0, 1) := by decide +kernel
theorem d31_1 : decode jdk_33_method_23_code 1 = .ok (.invokespecial 202, 3) := by decide +kernel
theorem d31_4 : decode jdk_33_method_23_code 4 = .ok (.aload_n 0, 1) := by decide +kernel
theorem d31_5 : decode jdk_33_method_23_code 5 = .ok (.iload_n 1, 1) := by decide +kernel
theorem d31_6 : decode jdk_33_method_23_code 6 = .ok (.putfield 205, 3) := by decide +kernel
theorem d31_9 : decode jdk_33_method_23_code 9 = .ok (.return_, 1) := by decide +kernel
theorem ef_31_RI (m : MethodId) (x0 : Addr) (x1 : Int32) : entryFrame m #[(.ref x0), (.int x1)] 2 = mkF m 0 #[.val (.ref x0), .val (.int x1)] [] := by first | (simp [entryFrame, mkF, argsToLocals, Value.category]; done) | rfl
def Q_intinit (Z : State) (a : Addr) (pp : Int32) (h0 : Heap) (n0 : Nat) (v : Option Value) (h : Heap) (L : List Loc) : Prop := v = none ∧ Fr n0 L ∧ Keep h0 h [a] ∧ Fld Z h a S0 "value" "I" (.int pp)
set_option maxRecDepth 65536 in
set_option maxHeartbeats 40000000 in
theorem rm_intinit (l : Launch) (Z : State) (a0 : Array Value) (hw : ∀ d ∈ tables_1, d.before a0 Z = true) (ws : List Jvm.Cond) (a : Addr) (pp : Int32) (h0 : Heap) (n0 : Nat) (Z0 : n0 ≤ h0.size) (O0 : Old Z n0 h0) (f0 : Exa Z h0 a S0) (f1 : Fld Z h0 a S0 "value" "I" (.int (0 : Int32))) (ga : n0 ≤ a) :
    MetFree l Y26 (head1 (Jvm.Cond.code Y26 jdk_33_method_23_code 2 none :: ws) ({ frames := 2, cells := 0, slots := 0, locals := 24 } : Room)) (fun A_ U => A_ = #[(.ref a), (.int pp)] ∧ Z.Warmed39 U.vm ∧ U.heap = h0) (fun _ _ _ _ _ => True) (fun _ U o_ U' => ∃ v_ L_, o_ = .returned v_ ∧ Q_intinit Z a pp h0 n0 v_ U'.heap L_ ∧ FrameEnd U o_ U' L_ ({ frames := 2, cells := 0, slots := 0, locals := 24 } : Room).cells ({ frames := 2, cells := 0, slots := 0, locals := 24 } : Room).slots) := by
  refine MetFree.of_bodySF (plainFor_of_name pn_6) hisR ?_
  intro p e s m args below meth c s₁ Bd hml0 hP hK
  obtain ⟨rfl, hZ, hh⟩ := hP
  have hx := Bd.exec
  have hby := Bd.bytes
  have hml : c.maxLocals = 2 := hml0
  have hown : s.vm.findClass S0 = some m.cls := findClass_of_methodNamed Bd.named
  have hnm := (name_of_methodNamed Bd.named Bd.method).1
  have hret := Bd.returns
  have X0 : Stand p l e ({ frames := 2, cells := 0, slots := 0, locals := 24 } : Room) s m #[(.ref a), (.int pp)] below meth c s₁ [] 0 0 := Stand.of_body Bd
  have e0 : s₁.heap = h0 := by rw [← hh, Bd.state]; rfl
  have N0 := Fr.nil n0
  have pre0 : ∀ t_, Sp p e below s₁ (mkF m 0 #[.val (.ref a), .val (.int pp)] []) t_ → Sp p e below s₁ (entryFrame m #[(.ref a), (.int pp)] 2) t_ := fun t_ k_ => castTop (ef_31_RI m a pp) k_
  obtain ⟨_, _, ⟨Tk1, Lk1, kk1, nk1⟩, -, Xk1, ⟨Lck1, hQk1, lk1, yk1, zk1⟩, stk1⟩ := X0.specialBack hx (y := Y25) rfl hown (mvT hZ (tw hw 248 rfl)) (mvT hZ (tw hw 249 rfl)) (mvT hZ (tw hw 253 rfl)) (by decide) (backOf (W := 0) (rm_numinit l Z a0 hw [] a  h0 n0 Z0 O0) hZ (tw hw 253 rfl) (tw hw 252 rfl) (by decide) (by decide)) (g := (mkF m 1 #[.val (.ref a), .val (.int pp)] [(.ref a)])) rfl (by rw [hml]; rfl) (Steps.refl _) (a := a) (argsL := []) (rest := []) (lenOf pd___V rfl) rfl (by show 2 * 0 + _ ≤ _; exact Nat.le_of_eq rfl) (hb hby d31_1) (fun _ _ => ⟨rfl, e0, (by decide : 0 + 0 ≤ _), (by decide : 0 + 0 ≤ _)⟩)
  dsimp only [Pt.U, Pt.locs, Pt.cells, Pt.slots] at Xk1 lk1 yk1 zk1 stk1 hQk1
  subst lk1 yk1 zk1
  obtain ⟨rfl, Nk1q, ek1⟩ := hQk1
  have Nk1 := Fr.app N0 Nk1q
  obtain ⟨Tp2, hp2, Xp2, ep2, Wp2, stp2⟩ := putF Xk1 hx hZ hown (host := "") (Or.inl (tw hw 241 rfl)) Via.refl ek1 f1 f0 (Or.inr ⟨(tw hw 242 rfl), rfl, hnm⟩) (tw hw 244 rfl) (ty := .int) (by decide) rfl rfl (g := (mkF m 6 #[.val (.ref a), .val (.int pp)] [(.int pp), (.ref a)])) rfl rfl (hb hby d31_6)
  have Fwp2 : Fld Z hp2 a S0 "value" "I" (.int pp) := f1.same Wp2
  have Np2 := Fr.snoc Xp2 Nk1 ga
  have K3 : Keep h0 hp2 [a] := (Keep.refl h0 [a]).wr Wp2 (Or.inl (List.mem_of_getElem? (i := 0) rfl))
  obtain ⟨fs, hlv, hrun, hended, hW, hsame⟩ := Xp2.leave (v := none) (fun _ => rfl)
  refine ⟨_, _, pre0 _ ?_, hrun, hended, _, _, rfl, ?_, ⟨_, rfl⟩, hW, hsame.mono (by decide) (by decide)⟩
  · refine XS.aloadN X0.here hx rfl (hb hby d31_0) rfl rfl ?_
    show Sp p e below s₁ (mkF m 1 #[.val (.ref a), .val (.int pp)] [(.ref a)]) _
    refine stk1.trans ?_
    refine XS.aloadN Xk1.here hx rfl (hb hby d31_4) rfl rfl ?_
    refine XS.iloadN Xk1.here hx rfl (hb hby d31_5) rfl ?_
    refine stp2 _ ?_
    show Sp p e below Tp2 (mkF m 9 #[.val (.ref a), .val (.int pp)] []) _
    exact Xp2.returnOut hx hret (hb hby d31_9) hlv
  · show Q_intinit Z a pp h0 n0 _ Tp2.heap _
    rw [ep2]
    exact ⟨rfl, Np2, K3, Fwp2⟩
theorem own_cache_idx {p : Int32} (lo : ¬ (p < (-128 : Int32))) (hi : ¬ ((127 : Int32) < p)) : ¬ ((p + (128 : Int32)) < 0) ∧ (p + (128 : Int32)) < 256 ∧ (p + (128 : Int32)) - 128 = p := by
  have c := c_iadd p (128 : Int32)
  have e : (128 : Int32).toInt = 128 := by decide
  have e1 : (-128 : Int32).toInt = -128 := by decide
  have e2 : (127 : Int32).toInt = 127 := by decide
  have b1 := (p + (128 : Int32)).le_toInt
  have b2 := (p + (128 : Int32)).toInt_lt
  rw [Int32.lt_iff_toInt_lt] at lo hi
  refine ⟨?_, ?_, Int32.add_sub_cancel _ _⟩
  · rw [Int32.lt_iff_toInt_lt]; have e0 : (0 : Int32).toInt = 0 := by decide
    omega
  · rw [Int32.lt_iff_toInt_lt]; have e0 : (256 : Int32).toInt = 256 := by decide
    omega
theorem own_cache_in {c : Cell} {j : Int32} (S : c.slots.size = 256) (h0 : ¬ j < 0) (h1 : j < 256) : ¬ (j < 0 ∨ c.slots.size ≤ j.toNatClampNeg) := inb_of (z := (256 : Int32)) (S.trans (by decide)) ⟨h0, h1⟩
theorem d25_0 : decode jdk_33_method_22_code 0 = .ok (.iload_n 0, 1) := by decide +kernel
theorem d25_1 : decode jdk_33_method_22_code 1 = .ok (.bipush (-128), 2) := by decide +kernel
theorem d25_3 : decode jdk_33_method_22_code 3 = .ok (.if_icmp .lt 20, 3) := by decide +kernel
theorem d25_6 : decode jdk_33_method_22_code 6 = .ok (.iload_n 0, 1) := by decide +kernel
theorem d25_7 : decode jdk_33_method_22_code 7 = .ok (.getstatic 191, 3) := by decide +kernel
theorem d25_10 : decode jdk_33_method_22_code 10 = .ok (.if_icmp .gt 13, 3) := by decide +kernel
theorem d25_13 : decode jdk_33_method_22_code 13 = .ok (.getstatic 195, 3) := by decide +kernel
theorem d25_16 : decode jdk_33_method_22_code 16 = .ok (.iload_n 0, 1) := by decide +kernel
theorem d25_17 : decode jdk_33_method_22_code 17 = .ok (.sipush 128, 3) := by decide +kernel
theorem d25_20 : decode jdk_33_method_22_code 20 = .ok (.iadd, 1) := by decide +kernel
theorem d25_21 : decode jdk_33_method_22_code 21 = .ok (.aaload, 1) := by decide +kernel
theorem d25_22 : decode jdk_33_method_22_code 22 = .ok (.areturn, 1) := by decide +kernel
theorem d25_23 : decode jdk_33_method_22_code 23 = .ok (.new 1, 3) := by decide +kernel
theorem d25_26 : decode jdk_33_method_22_code 26 = .ok (.dup, 1) := by decide +kernel
theorem d25_27 : decode jdk_33_method_22_code 27 = .ok (.iload_n 0, 1) := by decide +kernel
theorem d25_28 : decode jdk_33_method_22_code 28 = .ok (.invokespecial 199, 3) := by decide +kernel
theorem d25_31 : decode jdk_33_method_22_code 31 = .ok (.areturn, 1) := by decide +kernel
theorem ef_25_I (m : MethodId) (x0 : Int32) : entryFrame m #[(.int x0)] 1 = mkF m 0 #[.val (.int x0)] [] := by first | (simp [entryFrame, mkF, argsToLocals, Value.category]; done) | rfl
theorem pd__I_V : parseMethodDescriptor "(I)V" = some ⟨[.int], none⟩ := by decide +kernel
def Q_valueof (Z : State) (pp : Int32) (aD : Addr) (kD : ClassId) (aL : Addr) (aC : Addr) (h0 : Heap) (n0 : Nat) (v : Option Value) (h : Heap) (L : List Loc) : Prop := ∃ r : Addr, v = some (.ref r) ∧ Fr n0 L ∧ Keep h0 h [] ∧ Exa Z h r S0 ∧ Fld Z h r S0 "value" "I" (.int pp)
set_option maxRecDepth 65536 in
set_option maxHeartbeats 40000000 in
theorem rm_valueof (l : Launch) (Z : State) (a0 : Array Value) (hw : ∀ d ∈ tables_1, d.before a0 Z = true) (ws : List Jvm.Cond) (pp : Int32) (aD : Addr) (kD : ClassId) (aL : Addr) (aC : Addr) (h0 : Heap) (n0 : Nat) (Z0 : n0 ≤ h0.size) (O0 : Old Z n0 h0) (SS : own_start Z aD kD aL aC) :
    MetFree l Y27 (head1 (Jvm.Cond.code Y27 jdk_33_method_22_code 1 (some (.object S0)) :: ws) ({ frames := 3, cells := 1, slots := 1, locals := 38 } : Room)) (fun A_ U => A_ = #[(.int pp)] ∧ Z.Warmed39 U.vm ∧ U.heap = h0) (fun _ _ _ _ _ => True) (fun _ U o_ U' => ∃ v_ L_, o_ = .returned v_ ∧ Q_valueof Z pp aD kD aL aC h0 n0 v_ U'.heap L_ ∧ FrameEnd U o_ U' L_ ({ frames := 3, cells := 1, slots := 1, locals := 38 } : Room).cells ({ frames := 3, cells := 1, slots := 1, locals := 38 } : Room).slots) := by
  refine MetFree.of_bodySF (plainFor_of_name pn_6) hisR ?_
  intro p e s m args below meth c s₁ Bd hml0 hP hK
  obtain ⟨rfl, hZ, hh⟩ := hP
  have hx := Bd.exec
  have hby := Bd.bytes
  have hml : c.maxLocals = 1 := hml0
  have hown : s.vm.findClass S0 = some m.cls := findClass_of_methodNamed Bd.named
  have hnm := (name_of_methodNamed Bd.named Bd.method).1
  have hret := Bd.returns
  have X0 : Stand p l e ({ frames := 3, cells := 1, slots := 1, locals := 38 } : Room) s m #[(.int pp)] below meth c s₁ [] 0 0 := Stand.of_body Bd
  have e0 : s₁.heap = h0 := by rw [← hh, Bd.state]; rfl
  have N0 := Fr.nil n0
  have pre0 : ∀ t_, Sp p e below s₁ (mkF m 0 #[.val (.int pp)] []) t_ → Sp p e below s₁ (entryFrame m #[(.int pp)] 1) t_ := fun t_ k_ => castTop (ef_25_I m pp) k_
  obtain ⟨S_DEF, V_DEF, S_LIT, E_LIT, O_LIT, S_HI, S_CA, C_CA⟩ := SS
  have r1 : ∀ t_, Sp p e below s₁ (mkF m 3 #[.val (.int pp)] [(.int (-128 : Int32)), (.int pp)]) t_ → Sp p e below s₁ (entryFrame m #[(.int pp)] 1) t_ := by
    intro t_ k_
    refine pre0 _ ?_
    refine XS.iloadN X0.here hx rfl (hb hby d25_0) rfl ?_
    refine XS.bipush X0.here hx rfl (hb hby d25_1) ?_
    show Sp p e below s₁ (mkF m 3 #[.val (.int pp)] [(.int (-128 : Int32)), (.int pp)]) _
    exact k_
  by_cases c2 : pp < (-128 : Int32)
  · obtain ⟨To3, ho3, Xo3, eo3, Eo3, Ao3, Do3, -, sto3⟩ := newO X0 hx hZ hown (tw hw 243 rfl) (tw hw 244 rfl) (tw hw 201 rfl) e0 (g := (mkF m 23 #[.val (.int pp)] [])) rfl (hb hby d25_23) (by decide) (by decide)
    obtain ⟨bo3, go3⟩ : ∃ z, z = h0.size := ⟨_, rfl⟩
    rw [← go3] at Ao3 Do3 sto3
    have g_bo3 : n0 ≤ bo3 := Nat.le_trans Z0 (Nat.le_of_eq go3.symm)
    have y_bo3 : h0.size ≤ bo3 := Nat.le_trans (Nat.le_refl h0.size) (Nat.le_of_eq go3.symm)
    have K4 : Keep h0 ho3 [] := (Keep.refl h0 []).ext Eo3
    have Fo3_value : Fld Z ho3 bo3 S0 "value" "I" (.int (0 : Int32)) := Do3 (Or.inr (tw hw 242 rfl)) (ty := .int) (by decide)
    have Z5 : n0 ≤ ho3.size := (Nat.le_trans Z0 Eo3.1)
    have O6 : Old Z n0 ho3 := (O0.ext Eo3)
    obtain ⟨_, _, ⟨Tk7, Lk7, kk7, nk7⟩, -, Xk7, ⟨Lck7, hQk7, lk7, yk7, zk7⟩, stk7⟩ := Xo3.specialBack hx (y := Y26) rfl hown (mvT hZ (tw hw 245 rfl)) (mvT hZ (tw hw 246 rfl)) (mvT hZ (tw hw 247 rfl)) (by decide) (backOf (W := 1) (rm_intinit l Z a0 hw [] bo3 pp  ho3 n0 Z5 O6 Ao3 Fo3_value g_bo3) hZ (tw hw 247 rfl) (tw hw 201 rfl) (by decide) (by decide)) (g := (mkF m 28 #[.val (.int pp)] [(.int pp), (.ref bo3), (.ref bo3)])) rfl (by rw [hml]; rfl) (Steps.refl _) (a := bo3) (argsL := [(.int pp)]) (rest := [(.ref bo3)]) (lenOf pd__I_V rfl) rfl (by show 2 * 0 + _ ≤ _; exact Nat.le_of_eq rfl) (hb hby d25_28) (fun _ _ => ⟨rfl, eo3, (by decide : 1 + 0 ≤ _), (by decide : 1 + 0 ≤ _)⟩)
    dsimp only [Pt.U, Pt.locs, Pt.cells, Pt.slots] at Xk7 lk7 yk7 zk7 stk7 hQk7
    subst lk7 yk7 zk7
    obtain ⟨rfl, Nk7q, Kk7q, Qk7_0⟩ := hQk7
    have K8 : Keep h0 Tk7.heap [] := K4.trans Kk7q (allS (P := fun x => x ∈ ([] : List Addr) ∨ h0.size ≤ x) (Or.inr y_bo3) all0)
    have Nk7 := Fr.app N0 Nk7q
    have F9 := (Ao3.keep Kk7q)
    obtain ⟨fs, hlv, hrun, hended, hW, hsame⟩ := Xk7.leave (v := some (.ref bo3)) (fun h => by rw [hret] at h; cases h)
    refine ⟨_, _, r1 _ ?_, hrun, hended, _, _, rfl, ?_, ⟨_, rfl⟩, hW, hsame.mono (by decide) (by decide)⟩
    · refine XS.icmpYes X0.here hx rfl (pc0 := 3) (pc' := 23) rfl (hb hby d25_3) rfl (tlt c2).1 (by decide) (by decide) ?_
      show Sp p e below s₁ (mkF m 23 #[.val (.int pp)] []) _
      refine sto3 _ ?_
      refine XS.dup Xo3.here hx rfl (hb hby d25_26) rfl rfl ?_
      refine XS.iloadN Xo3.here hx rfl (hb hby d25_27) rfl ?_
      refine stk7.trans ?_
      show Sp p e below Tk7 (mkF m 31 #[.val (.int pp)] [(.ref bo3)]) _
      jvm_step Xk7.here [Xk7.here.top, hx, (hb hby d25_31), Xk7.method', hret, Value.isRef, FieldType.isReference]
      first | (intro acts; rw [hlv _ acts rfl rfl rfl]) | rw [hlv _ _ rfl rfl rfl]
      exact Steps.refl _
    · show Q_valueof Z pp aD kD aL aC h0 n0 _ Tk7.heap _
      exact ⟨bo3, rfl, Nk7, K8, F9, Qk7_0⟩
  · have F10 := S_HI.ext O0.2
    obtain ⟨Tg11, Xg11, eg11, stg11⟩ := getS2 X0 hx hZ hown (host := "") (Or.inl (tw hw 203 rfl)) Via.refl e0 F10 (g := (mkF m 7 #[.val (.int pp)] [(.int pp)])) rfl (hb hby d25_7)
    have r12 : ∀ t_, Sp p e below Tg11 (mkF m 10 #[.val (.int pp)] [(.int (127 : Int32)), (.int pp)]) t_ → Sp p e below s₁ (entryFrame m #[(.int pp)] 1) t_ := by
      intro t_ k_
      refine r1 _ ?_
      refine XS.icmpNo X0.here hx rfl (hb hby d25_3) rfl (flt c2).1 ?_
      refine XS.iloadN X0.here hx rfl (hb hby d25_6) rfl ?_
      refine stg11 _ ?_
      show Sp p e below Tg11 (mkF m 10 #[.val (.int pp)] [(.int (127 : Int32)), (.int pp)]) _
      exact k_
    by_cases c13 : (127 : Int32) < pp
    · obtain ⟨To14, ho14, Xo14, eo14, Eo14, Ao14, Do14, -, sto14⟩ := newO Xg11 hx hZ hown (tw hw 243 rfl) (tw hw 244 rfl) (tw hw 201 rfl) eg11 (g := (mkF m 23 #[.val (.int pp)] [])) rfl (hb hby d25_23) (by decide) (by decide)
      obtain ⟨bo14, go14⟩ : ∃ z, z = h0.size := ⟨_, rfl⟩
      rw [← go14] at Ao14 Do14 sto14
      have g_bo14 : n0 ≤ bo14 := Nat.le_trans Z0 (Nat.le_of_eq go14.symm)
      have y_bo14 : h0.size ≤ bo14 := Nat.le_trans (Nat.le_refl h0.size) (Nat.le_of_eq go14.symm)
      have K15 : Keep h0 ho14 [] := (Keep.refl h0 []).ext Eo14
      have Fo14_value : Fld Z ho14 bo14 S0 "value" "I" (.int (0 : Int32)) := Do14 (Or.inr (tw hw 242 rfl)) (ty := .int) (by decide)
      have Z16 : n0 ≤ ho14.size := (Nat.le_trans Z0 Eo14.1)
      have O17 : Old Z n0 ho14 := (O0.ext Eo14)
      obtain ⟨_, _, ⟨Tk18, Lk18, kk18, nk18⟩, -, Xk18, ⟨Lck18, hQk18, lk18, yk18, zk18⟩, stk18⟩ := Xo14.specialBack hx (y := Y26) rfl hown (mvT hZ (tw hw 245 rfl)) (mvT hZ (tw hw 246 rfl)) (mvT hZ (tw hw 247 rfl)) (by decide) (backOf (W := 1) (rm_intinit l Z a0 hw [] bo14 pp  ho14 n0 Z16 O17 Ao14 Fo14_value g_bo14) hZ (tw hw 247 rfl) (tw hw 201 rfl) (by decide) (by decide)) (g := (mkF m 28 #[.val (.int pp)] [(.int pp), (.ref bo14), (.ref bo14)])) rfl (by rw [hml]; rfl) (Steps.refl _) (a := bo14) (argsL := [(.int pp)]) (rest := [(.ref bo14)]) (lenOf pd__I_V rfl) rfl (by show 2 * 0 + _ ≤ _; exact Nat.le_of_eq rfl) (hb hby d25_28) (fun _ _ => ⟨rfl, eo14, (by decide : 1 + 0 ≤ _), (by decide : 1 + 0 ≤ _)⟩)
      dsimp only [Pt.U, Pt.locs, Pt.cells, Pt.slots] at Xk18 lk18 yk18 zk18 stk18 hQk18
      subst lk18 yk18 zk18
      obtain ⟨rfl, Nk18q, Kk18q, Qk18_0⟩ := hQk18
      have K19 : Keep h0 Tk18.heap [] := K15.trans Kk18q (allS (P := fun x => x ∈ ([] : List Addr) ∨ h0.size ≤ x) (Or.inr y_bo14) all0)
      have Nk18 := Fr.app N0 Nk18q
      have F20 := (Ao14.keep Kk18q)
      obtain ⟨fs, hlv, hrun, hended, hW, hsame⟩ := Xk18.leave (v := some (.ref bo14)) (fun h => by rw [hret] at h; cases h)
      refine ⟨_, _, r12 _ ?_, hrun, hended, _, _, rfl, ?_, ⟨_, rfl⟩, hW, hsame.mono (by decide) (by decide)⟩
      · refine XS.icmpYes Xg11.here hx rfl (pc0 := 10) (pc' := 23) rfl (hb hby d25_10) rfl (tlt c13).2.2.1 (by decide) (by decide) ?_
        show Sp p e below Tg11 (mkF m 23 #[.val (.int pp)] []) _
        refine sto14 _ ?_
        refine XS.dup Xo14.here hx rfl (hb hby d25_26) rfl rfl ?_
        refine XS.iloadN Xo14.here hx rfl (hb hby d25_27) rfl ?_
        refine stk18.trans ?_
        show Sp p e below Tk18 (mkF m 31 #[.val (.int pp)] [(.ref bo14)]) _
        jvm_step Xk18.here [Xk18.here.top, hx, (hb hby d25_31), Xk18.method', hret, Value.isRef, FieldType.isReference]
        first | (intro acts; rw [hlv _ acts rfl rfl rfl]) | rw [hlv _ _ rfl rfl rfl]
        exact Steps.refl _
      · show Q_valueof Z pp aD kD aL aC h0 n0 _ Tk18.heap _
        exact ⟨bo14, rfl, Nk18, K19, F20, Qk18_0⟩
    · have F21 := S_CA.ext O0.2
      obtain ⟨Tg22, Xg22, eg22, stg22⟩ := getS2 Xg11 hx hZ hown (host := "") (Or.inl (tw hw 205 rfl)) Via.refl eg11 F21 (g := (mkF m 13 #[.val (.int pp)] [])) rfl (hb hby d25_13)
      obtain ⟨clca23, Arca23, szca23, allca23⟩ := C_CA
      obtain ⟨j0ca23, j1ca23, j2ca23⟩ := own_cache_idx c2 c13
      obtain ⟨xca23, atca23, Exca23, Fxca23⟩ := allca23 _ j0ca23 j1ca23
      rw [j2ca23] at Fxca23
      have Arhca23 := Arca23.ext O0.2
      have inca23 : ¬ ((pp + (128 : Int32)) < 0 ∨ clca23.slots.size ≤ ((pp + (128 : Int32))).toNatClampNeg) := own_cache_in szca23 j0ca23 j1ca23
      have F24 := Exca23.ext O0.2
      have F25 := Fxca23.ext O0.2
      obtain ⟨fs, hlv, hrun, hended, hW, hsame⟩ := Xg22.leave (v := some (.ref xca23)) (fun h => by rw [hret] at h; cases h)
      refine ⟨_, _, r12 _ ?_, hrun, hended, _, _, rfl, ?_, ⟨_, rfl⟩, hW, hsame.mono (by decide) (by decide)⟩
      · refine XS.icmpNo Xg11.here hx rfl (hb hby d25_10) rfl (flt c13).2.2.1 ?_
        show Sp p e below Tg11 (mkF m 13 #[.val (.int pp)] []) _
        refine stg22 _ ?_
        refine XS.iloadN Xg22.here hx rfl (hb hby d25_16) rfl ?_
        refine XS.sipush Xg22.here hx rfl (hb hby d25_17) ?_
        refine XS.iadd Xg22.here hx rfl (hb hby d25_20) rfl ?_
        show Sp p e below Tg22 (mkF m 21 #[.val (.int pp)] [(.int (pp + (128 : Int32))), (.ref aC)]) _
        refine Xg22.aaload hx (j := (pp + (128 : Int32))) (v := .ref xca23) (own_eq eg22 Arhca23.1) (State.isArrayOf_alike hZ.alike Arhca23.2.1) rfl Arhca23.2.2 inca23 atca23 (g := (mkF m 21 #[.val (.int pp)] [(.int (pp + (128 : Int32))), (.ref aC)])) rfl rfl (hb hby d25_21) _ ?_
        show Sp p e below Tg22 (mkF m 22 #[.val (.int pp)] [(.ref xca23)]) _
        jvm_step Xg22.here [Xg22.here.top, hx, (hb hby d25_22), Xg22.method', hret, Value.isRef, FieldType.isReference]
        first | (intro acts; rw [hlv _ acts rfl rfl rfl]) | rw [hlv _ _ rfl rfl rfl]
        exact Steps.refl _
      · show Q_valueof Z pp aD kD aL aC h0 n0 _ Tg22.heap _
        rw [eg22]
        exact ⟨xca23, rfl, N0, (Keep.refl h0 []), F24, F25⟩
def own_sel (n g0 p0 g1 p1 g2 p2 ng : Int32) : List Value := (if (0 : Int32) < n then own_f g0 ng p0 else []) ++ ((if (1 : Int32) < n then own_f g1 ng p1 else []) ++ (if (2 : Int32) < n then own_f g2 ng p2 else []))
theorem own_f_len (g ng p : Int32) : (own_f g ng p).length ≤ 1 := by unfold own_f; split <;> simp
theorem own_f_int (g ng p : Int32) : ∀ v ∈ own_f g ng p, ∃ x, v = Value.int x := by
  intro v hv; unfold own_f at hv; split at hv
  · simp at hv; exact ⟨_, hv⟩
  · simp at hv
theorem own_sel_len (n g0 p0 g1 p1 g2 p2 ng : Int32) : (own_sel n g0 p0 g1 p1 g2 p2 ng).length ≤ 3 := by
  have a0 := own_f_len g0 ng p0; have a1 := own_f_len g1 ng p1; have a2 := own_f_len g2 ng p2
  unfold own_sel; split <;> split <;> split <;> simp only [List.length_append, List.length_nil] <;> omega
theorem own_sel_int (n g0 p0 g1 p1 g2 p2 ng : Int32) : ∀ v ∈ own_sel n g0 p0 g1 p1 g2 p2 ng, ∃ x, v = Value.int x := by
  intro v hv
  have a0 := own_f_int g0 ng p0; have a1 := own_f_int g1 ng p1; have a2 := own_f_int g2 ng p2
  unfold own_sel at hv
  rcases List.mem_append.mp hv with h | h
  · split at h
    · exact a0 v h
    · simp at h
  · rcases List.mem_append.mp h with h | h
    · split at h
      · exact a1 v h
      · simp at h
    · split at h
      · exact a2 v h
      · simp at h
theorem own_first {vs : List Value} (h : ∀ v ∈ vs, ∃ x, v = Value.int x) : ∃ x, List.getD vs (0 : Int32).toNatClampNeg (Value.int 0) = Value.int x := by
  cases vs with
  | nil => exact ⟨0, rfl⟩
  | cons v r => obtain ⟨x, hx⟩ := h v (List.mem_cons_self ..); exact ⟨x, hx⟩
theorem own_cap3 {vs : List Value} {z : Int32} (h : vs.length ≤ 3) (hz : z = Int32.ofNat vs.length) : z.toNatClampNeg ≤ 3 := by
  subst hz
  have h4 : vs.length = 0 ∨ vs.length = 1 ∨ vs.length = 2 ∨ vs.length = 3 := by omega
  rcases h4 with h | h | h | h <;> rw [h] <;> decide
def Q_pt (Z : State) (z : Int32) (vs : List Value) (h0 : Heap) (n0 : Nat) (v : Option Value) (h : Heap) (L : List Loc) : Prop := ∃ b : Addr, ∃ kb : ClassId, v = some (.ref b) ∧ Fr n0 L ∧ Keep h0 h [] ∧ h0.size ≤ b ∧ Exa Z h b "[I" ∧ Arv Z h b kb .int z vs (.int (0 : Int32))
theorem d6_0 : decode prog_25_method_2_code 0 = .ok (.new 24, 3) := by decide +kernel
theorem d6_3 : decode prog_25_method_2_code 3 = .ok (.dup, 1) := by decide +kernel
theorem d6_4 : decode prog_25_method_2_code 4 = .ok (.invokespecial 26, 3) := by decide +kernel
theorem d6_7 : decode prog_25_method_2_code 7 = .ok (.astore_n 2, 1) := by decide +kernel
theorem d6_8 : decode prog_25_method_2_code 8 = .ok (.aload_n 0, 1) := by decide +kernel
theorem d6_9 : decode prog_25_method_2_code 9 = .ok (.invokeinterface 27 1, 5) := by decide +kernel
theorem d6_14 : decode prog_25_method_2_code 14 = .ok (.astore_n 3, 1) := by decide +kernel
theorem d6_15 : decode prog_25_method_2_code 15 = .ok (.aload_n 3, 1) := by decide +kernel
theorem d6_16 : decode prog_25_method_2_code 16 = .ok (.invokeinterface 33 1, 5) := by decide +kernel
theorem d6_21 : decode prog_25_method_2_code 21 = .ok (.ifCond .eq 41, 3) := by decide +kernel
theorem d6_24 : decode prog_25_method_2_code 24 = .ok (.aload_n 3, 1) := by decide +kernel
theorem d6_25 : decode prog_25_method_2_code 25 = .ok (.invokeinterface 39 1, 5) := by decide +kernel
theorem d6_30 : decode prog_25_method_2_code 30 = .ok (.checkcast 43, 3) := by decide +kernel
theorem d6_33 : decode prog_25_method_2_code 33 = .ok (.astore 4, 2) := by decide +kernel
theorem d6_35 : decode prog_25_method_2_code 35 = .ok (.aload 4, 2) := by decide +kernel
theorem d6_37 : decode prog_25_method_2_code 37 = .ok (.invokevirtual 45, 3) := by decide +kernel
theorem d6_40 : decode prog_25_method_2_code 40 = .ok (.iload_n 1, 1) := by decide +kernel
theorem d6_41 : decode prog_25_method_2_code 41 = .ok (.if_icmp .ne 18, 3) := by decide +kernel
theorem d6_44 : decode prog_25_method_2_code 44 = .ok (.aload_n 2, 1) := by decide +kernel
theorem d6_45 : decode prog_25_method_2_code 45 = .ok (.aload 4, 2) := by decide +kernel
theorem d6_47 : decode prog_25_method_2_code 47 = .ok (.invokevirtual 48, 3) := by decide +kernel
theorem d6_50 : decode prog_25_method_2_code 50 = .ok (.invokestatic 52, 3) := by decide +kernel
theorem d6_53 : decode prog_25_method_2_code 53 = .ok (.invokeinterface 58 2, 5) := by decide +kernel
theorem d6_58 : decode prog_25_method_2_code 58 = .ok (.pop, 1) := by decide +kernel
theorem d6_59 : decode prog_25_method_2_code 59 = .ok (.goto (-44), 3) := by decide +kernel
theorem d6_62 : decode prog_25_method_2_code 62 = .ok (.aload_n 2, 1) := by decide +kernel
theorem d6_63 : decode prog_25_method_2_code 63 = .ok (.invokeinterface 64 1, 5) := by decide +kernel
theorem d6_68 : decode prog_25_method_2_code 68 = .ok (.newarray .int, 2) := by decide +kernel
theorem d6_70 : decode prog_25_method_2_code 70 = .ok (.astore_n 3, 1) := by decide +kernel
theorem d6_71 : decode prog_25_method_2_code 71 = .ok (.iconst 0, 1) := by decide +kernel
theorem d6_72 : decode prog_25_method_2_code 72 = .ok (.istore 4, 2) := by decide +kernel
theorem d6_74 : decode prog_25_method_2_code 74 = .ok (.iload 4, 2) := by decide +kernel
theorem d6_76 : decode prog_25_method_2_code 76 = .ok (.aload_n 3, 1) := by decide +kernel
theorem d6_77 : decode prog_25_method_2_code 77 = .ok (.arraylength, 1) := by decide +kernel
theorem d6_78 : decode prog_25_method_2_code 78 = .ok (.if_icmp .ge 27, 3) := by decide +kernel
theorem d6_81 : decode prog_25_method_2_code 81 = .ok (.aload_n 3, 1) := by decide +kernel
theorem d6_82 : decode prog_25_method_2_code 82 = .ok (.iload 4, 2) := by decide +kernel
theorem d6_84 : decode prog_25_method_2_code 84 = .ok (.aload_n 2, 1) := by decide +kernel
theorem d6_85 : decode prog_25_method_2_code 85 = .ok (.iload 4, 2) := by decide +kernel
theorem d6_87 : decode prog_25_method_2_code 87 = .ok (.invokeinterface 67 2, 5) := by decide +kernel
theorem d6_92 : decode prog_25_method_2_code 92 = .ok (.checkcast 53, 3) := by decide +kernel
theorem d6_95 : decode prog_25_method_2_code 95 = .ok (.invokevirtual 71, 3) := by decide +kernel
theorem d6_98 : decode prog_25_method_2_code 98 = .ok (.iastore, 1) := by decide +kernel
theorem d6_99 : decode prog_25_method_2_code 99 = .ok (.iinc 4 1, 3) := by decide +kernel
theorem d6_102 : decode prog_25_method_2_code 102 = .ok (.goto (-28), 3) := by decide +kernel
theorem d6_105 : decode prog_25_method_2_code 105 = .ok (.aload_n 3, 1) := by decide +kernel
theorem d6_106 : decode prog_25_method_2_code 106 = .ok (.areturn, 1) := by decide +kernel
set_option maxRecDepth 65536 in
set_option maxHeartbeats 40000000 in
theorem tl_pt0 (p : Program) (l : Launch) (e : Env) (s : State) (m : MethodId) (args : Array Value) (below : List Frame) (meth : Method) (c : Code) (T0 : State) (locs : List Loc) (Z : State) (a0 : Array Value) (hw : ∀ d ∈ tables_1, d.before a0 Z = true) (ls : Addr) (ng : Int32) (out : Addr) (itr : Addr) (y4 : Addr) (aD : Addr) (h0 : Heap) (n0 : Nat)
    (X0 : Stand p l e ({ frames := 5, cells := 7, slots := 23, locals := 69 } : Room) s m args below meth c T0 locs 6 20) (hx : p.tables.exec = Jvm.exec) (hZ : Z.Warmed39 s.vm) (hby : c.code = prog_25_method_2_code) (hml : c.maxLocals = 5) (hown : s.vm.findClass S8 = some m.cls) (hret : meth.sig.returnType = (some (.array .int))) (hlk : meth.locks = false) (e0 : T0.heap = h0) (N0 : Fr n0 locs) (Z0 : n0 ≤ h0.size) (O0 : Old Z n0 h0) (f0 : Exa Z h0 out S1) (f1 : Fld Z h0 out S1 "size" "I" (.int (0 : Int32))) (f2 : Fld Z h0 out S1 "elementData" S2 (.ref aD)) :
    ∃ s₂ o, Sp p e below T0 (mkF m 62 #[.val (.ref ls), .val (.int ng), .val (.ref out), .val (.ref itr), .val (.ref y4)] []) s₂ ∧ s₂.status = .running ∧ Ended s₂ below o ∧ ∃ v L, o = .returned v ∧ Q_pt Z (0 : Int32) [] h0 n0 v s₂.heap L ∧ FrameEnd s o s₂ L ({ frames := 5, cells := 7, slots := 23, locals := 69 } : Room).cells ({ frames := 5, cells := 7, slots := 23, locals := 69 } : Room).slots := by
  have pre0 : ∀ t_, Sp p e below T0 (mkF m 62 #[.val (.ref ls), .val (.int ng), .val (.ref out), .val (.ref itr), .val (.ref y4)] []) t_ → Sp p e below T0 (mkF m 62 #[.val (.ref ls), .val (.int ng), .val (.ref out), .val (.ref itr), .val (.ref y4)] []) t_ := fun t_ k_ => k_
  obtain ⟨cqk1, kqk1, qk1a, qk1b, qk1c⟩ := isOf hZ e0 f0
  obtain ⟨_, _, ⟨Tk1, Lk1, kk1, nk1⟩, -, Xk1, ⟨Lck1, hQk1, lk1, yk1, zk1⟩, stk1⟩ := X0.interfaceBack hx (xi := Y28) (y := Y19) hown (mvT hZ (tw hw 76 rfl)) (mvT hZ (tw hw 77 rfl)) (mvT hZ (tw hw 78 rfl)) (mvT hZ (tw hw 79 rfl)) (mvT hZ (tw hw 80 rfl)) (mvT hZ (tw hw 81 rfl)) (mvT hZ (tw hw 82 rfl)) (mvT hZ (tw hw 83 rfl)) (by decide) (backOf (W := 0) (rm_size l Z a0 hw [] out (0 : Int32)  h0 n0 Z0 O0 f1) hZ (tw hw 84 rfl) (tw hw 2 rfl) (by decide) (by decide)) qk1a qk1b qk1c (g := (mkF m 63 #[.val (.ref ls), .val (.int ng), .val (.ref out), .val (.ref itr), .val (.ref y4)] [(.ref out)])) rfl (by rw [hml]; rfl) (Steps.refl _) (argsL := []) (rest := []) (lenOf pd___I rfl) rfl (by show 2 * 0 + _ ≤ _; exact Nat.le_of_eq rfl) (hb hby d6_63) (fun _ _ => ⟨rfl, e0, (by decide : 6 + 0 ≤ _), (by decide : 20 + 0 ≤ _)⟩)
  dsimp only [Pt.U, Pt.locs, Pt.cells, Pt.slots] at Xk1 lk1 yk1 zk1 stk1 hQk1
  subst lk1 yk1 zk1
  obtain ⟨rfl, Nk1q, ek1⟩ := hQk1
  have Nk1 := Fr.app N0 Nk1q
  obtain ⟨Ta2, ha2, ka2, Xa2, ea2, Ea2, Aa2, Ba2, sta2⟩ := newPE Xk1 hx hZ (tw hw 86 rfl) ek1 (g := (mkF m 68 #[.val (.ref ls), .val (.int ng), .val (.ref out), .val (.ref itr), .val (.ref y4)] [(.int (0 : Int32))])) rfl (hb hby d6_68) rfl (by decide) (cap := 0) (by decide) (by decide) (by decide) (by decide) (ad := "[I") (by decide)
  obtain ⟨ba2, ga2⟩ : ∃ z, z = h0.size := ⟨_, rfl⟩
  rw [← ga2] at Aa2 Ba2 sta2
  have g_ba2 : n0 ≤ ba2 := Nat.le_trans Z0 (Nat.le_of_eq ga2.symm)
  have y_ba2 : h0.size ≤ ba2 := Nat.le_trans (Nat.le_refl h0.size) (Nat.le_of_eq ga2.symm)
  have Va2 : Arv Z ha2 ba2 ka2 .int (0 : Int32) [] (.int (0 : Int32)) := (Arv.new Aa2 (by decide)).pad (pad_rep [] (.int (0 : Int32)) 0)
  have K3 : Keep h0 ha2 [] := (Keep.refl h0 []).ext Ea2
  obtain ⟨clv4, Arv4, qv4, Sv4, Nv4, Hv4, Gv4⟩ := id Va2
  obtain ⟨fs, hlv, hrun, hended, hW, hsame⟩ := Xa2.leave (v := some (.ref ba2)) (fun h => by rw [hret] at h; cases h)
  refine ⟨_, _, pre0 _ ?_, hrun, hended, _, _, rfl, ?_, ⟨_, rfl⟩, hW, hsame.mono (by decide) (by decide)⟩
  · refine XS.aloadN X0.here hx rfl (hb hby d6_62) rfl rfl ?_
    show Sp p e below T0 (mkF m 63 #[.val (.ref ls), .val (.int ng), .val (.ref out), .val (.ref itr), .val (.ref y4)] [(.ref out)]) _
    refine stk1.trans ?_
    refine sta2 _ ?_
    refine XS.astoreN Xa2.here hx rfl (hb hby d6_70) rfl rfl (l' := #[.val (.ref ls), .val (.int ng), .val (.ref out), .val (.ref ba2), .val (.ref y4)]) rfl ?_
    refine XS.iconst Xa2.here hx rfl (hb hby d6_71) ?_
    refine XS.istore Xa2.here hx rfl (hb hby d6_72) rfl (l' := #[.val (.ref ls), .val (.int ng), .val (.ref out), .val (.ref ba2), .val (.int (0 : Int32))]) rfl ?_
    refine XS.iload Xa2.here hx rfl (hb hby d6_74) rfl ?_
    refine XS.aloadN Xa2.here hx rfl (hb hby d6_76) rfl rfl ?_
    show Sp p e below Ta2 (mkF m 77 #[.val (.ref ls), .val (.int ng), .val (.ref out), .val (.ref ba2), .val (.int (0 : Int32))] [(.ref ba2), (.int (0 : Int32))]) _
    refine Xa2.arraylength hx (own_eq ea2 Arv4.1) (State.isArrayOf_alike hZ.alike Arv4.2.1) (g := (mkF m 77 #[.val (.ref ls), .val (.int ng), .val (.ref out), .val (.ref ba2), .val (.int (0 : Int32))] [(.ref ba2), (.int (0 : Int32))])) rfl rfl (hb hby d6_77) _ ?_
    rw [len_of Sv4 Nv4]
    show Sp p e below Ta2 (mkF m 78 #[.val (.ref ls), .val (.int ng), .val (.ref out), .val (.ref ba2), .val (.int (0 : Int32))] [(.int (0 : Int32)), (.int (0 : Int32))]) _
    refine XS.icmpYes Xa2.here hx rfl (pc0 := 78) (pc' := 105) rfl (hb hby d6_78) rfl (flt (by decide : ¬ ((0 : Int32) < (0 : Int32)))).2.1 (by decide) (by decide) ?_
    refine XS.aloadN Xa2.here hx rfl (hb hby d6_105) rfl rfl ?_
    show Sp p e below Ta2 (mkF m 106 #[.val (.ref ls), .val (.int ng), .val (.ref out), .val (.ref ba2), .val (.int (0 : Int32))] [(.ref ba2)]) _
    jvm_step Xa2.here [Xa2.here.top, hx, (hb hby d6_106), Xa2.method', hret, Value.isRef, FieldType.isReference]
    first | (intro acts; rw [hlv _ acts rfl rfl rfl]) | rw [hlv _ _ rfl rfl rfl]
    exact Steps.refl _
  · show Q_pt Z (0 : Int32) [] h0 n0 _ Ta2.heap _
    rw [ea2]
    exact ⟨ba2, ka2, rfl, Nk1, K3, y_ba2, Ba2, Va2⟩
set_option maxRecDepth 65536 in
set_option maxHeartbeats 40000000 in
theorem tl_pt1 (p : Program) (l : Launch) (e : Env) (s : State) (m : MethodId) (args : Array Value) (below : List Frame) (meth : Method) (c : Code) (T0 : State) (locs : List Loc) (Z : State) (a0 : Array Value) (hw : ∀ d ∈ tables_1, d.before a0 Z = true) (ls : Addr) (ng : Int32) (out : Addr) (itr : Addr) (y4 : Addr) (eo : Addr) (keo : ClassId) (r0 : Addr) (q0 : Int32) (h0 : Heap) (n0 : Nat)
    (X0 : Stand p l e ({ frames := 5, cells := 7, slots := 23, locals := 69 } : Room) s m args below meth c T0 locs 6 20) (hx : p.tables.exec = Jvm.exec) (hZ : Z.Warmed39 s.vm) (hby : c.code = prog_25_method_2_code) (hml : c.maxLocals = 5) (hown : s.vm.findClass S8 = some m.cls) (hret : meth.sig.returnType = (some (.array .int))) (hlk : meth.locks = false) (e0 : T0.heap = h0) (N0 : Fr n0 locs) (Z0 : n0 ≤ h0.size) (O0 : Old Z n0 h0) (f0 : Exa Z h0 out S1) (f1 : Fld Z h0 out S1 "size" "I" (.int (1 : Int32))) (f2 : Fld Z h0 out S1 "elementData" S2 (.ref eo)) (f3 : Arv Z h0 eo keo (.object S3) (10 : Int32) [(.ref r0), .null, .null, .null, .null, .null, .null, .null, .null, .null] .null) (f4 : Exa Z h0 r0 S0) (f5 : Fld Z h0 r0 S0 "value" "I" (.int q0)) :
    ∃ s₂ o, Sp p e below T0 (mkF m 62 #[.val (.ref ls), .val (.int ng), .val (.ref out), .val (.ref itr), .val (.ref y4)] []) s₂ ∧ s₂.status = .running ∧ Ended s₂ below o ∧ ∃ v L, o = .returned v ∧ Q_pt Z (1 : Int32) [(.int q0)] h0 n0 v s₂.heap L ∧ FrameEnd s o s₂ L ({ frames := 5, cells := 7, slots := 23, locals := 69 } : Room).cells ({ frames := 5, cells := 7, slots := 23, locals := 69 } : Room).slots := by
  have pre0 : ∀ t_, Sp p e below T0 (mkF m 62 #[.val (.ref ls), .val (.int ng), .val (.ref out), .val (.ref itr), .val (.ref y4)] []) t_ → Sp p e below T0 (mkF m 62 #[.val (.ref ls), .val (.int ng), .val (.ref out), .val (.ref itr), .val (.ref y4)] []) t_ := fun t_ k_ => k_
  obtain ⟨cqk1, kqk1, qk1a, qk1b, qk1c⟩ := isOf hZ e0 f0
  obtain ⟨_, _, ⟨Tk1, Lk1, kk1, nk1⟩, -, Xk1, ⟨Lck1, hQk1, lk1, yk1, zk1⟩, stk1⟩ := X0.interfaceBack hx (xi := Y28) (y := Y19) hown (mvT hZ (tw hw 76 rfl)) (mvT hZ (tw hw 77 rfl)) (mvT hZ (tw hw 78 rfl)) (mvT hZ (tw hw 79 rfl)) (mvT hZ (tw hw 80 rfl)) (mvT hZ (tw hw 81 rfl)) (mvT hZ (tw hw 82 rfl)) (mvT hZ (tw hw 83 rfl)) (by decide) (backOf (W := 0) (rm_size l Z a0 hw [] out (1 : Int32)  h0 n0 Z0 O0 f1) hZ (tw hw 84 rfl) (tw hw 2 rfl) (by decide) (by decide)) qk1a qk1b qk1c (g := (mkF m 63 #[.val (.ref ls), .val (.int ng), .val (.ref out), .val (.ref itr), .val (.ref y4)] [(.ref out)])) rfl (by rw [hml]; rfl) (Steps.refl _) (argsL := []) (rest := []) (lenOf pd___I rfl) rfl (by show 2 * 0 + _ ≤ _; exact Nat.le_of_eq rfl) (hb hby d6_63) (fun _ _ => ⟨rfl, e0, (by decide : 6 + 0 ≤ _), (by decide : 20 + 0 ≤ _)⟩)
  dsimp only [Pt.U, Pt.locs, Pt.cells, Pt.slots] at Xk1 lk1 yk1 zk1 stk1 hQk1
  subst lk1 yk1 zk1
  obtain ⟨rfl, Nk1q, ek1⟩ := hQk1
  have Nk1 := Fr.app N0 Nk1q
  obtain ⟨Ta2, ha2, ka2, Xa2, ea2, Ea2, Aa2, Ba2, sta2⟩ := newPE Xk1 hx hZ (tw hw 86 rfl) ek1 (g := (mkF m 68 #[.val (.ref ls), .val (.int ng), .val (.ref out), .val (.ref itr), .val (.ref y4)] [(.int (1 : Int32))])) rfl (hb hby d6_68) rfl (by decide) (cap := 1) (by decide) (by decide) (by decide) (by decide) (ad := "[I") (by decide)
  obtain ⟨ba2, ga2⟩ : ∃ z, z = h0.size := ⟨_, rfl⟩
  rw [← ga2] at Aa2 Ba2 sta2
  have g_ba2 : n0 ≤ ba2 := Nat.le_trans Z0 (Nat.le_of_eq ga2.symm)
  have y_ba2 : h0.size ≤ ba2 := Nat.le_trans (Nat.le_refl h0.size) (Nat.le_of_eq ga2.symm)
  have Va2 : Arv Z ha2 ba2 ka2 .int (1 : Int32) [(.int (0 : Int32))] (.int (0 : Int32)) := (Arv.new Aa2 (by decide)).pad (pad_rep [] (.int (0 : Int32)) 1)
  have K3 : Keep h0 ha2 [] := (Keep.refl h0 []).ext Ea2
  obtain ⟨clv4, Arv4, qv4, Sv4, Nv4, Hv4, Gv4⟩ := id Va2
  have F5 := (f0.keep K3)
  have F6 := (f1.keep K3 nin0)
  have F7 := (f2.keep K3 nin0)
  have F8 := (f3.keep K3 nin0)
  have Z9 : n0 ≤ ha2.size := (Nat.le_trans Z0 Ea2.1)
  have O10 : Old Z n0 ha2 := (O0.ext Ea2)
  obtain ⟨cqk11, kqk11, qk11a, qk11b, qk11c⟩ := isOf hZ ea2 F5
  obtain ⟨_, _, ⟨Tk11, Lk11, kk11, nk11⟩, -, Xk11, ⟨Lck11, hQk11, lk11, yk11, zk11⟩, stk11⟩ := Xa2.interfaceBack hx (xi := Y29) (y := Y24) hown (mvT hZ (tw hw 213 rfl)) (mvT hZ (tw hw 214 rfl)) (mvT hZ (tw hw 215 rfl)) (mvT hZ (tw hw 216 rfl)) (mvT hZ (tw hw 217 rfl)) (mvT hZ (tw hw 218 rfl)) (mvT hZ (tw hw 219 rfl)) (mvT hZ (tw hw 83 rfl)) (by decide) (backOf (W := 2) (rm_get l Z a0 hw [] out (0 : Int32) (1 : Int32) eo keo [(.ref r0), .null, .null, .null, .null, .null, .null, .null, .null, .null] r0  ha2 n0 Z9 O10 F5 F6 F7 F8 (by decide) (by decide) (by decide) rfl) hZ (tw hw 220 rfl) (tw hw 2 rfl) (by decide) (by decide)) qk11a qk11b qk11c (g := (mkF m 87 #[.val (.ref ls), .val (.int ng), .val (.ref out), .val (.ref ba2), .val (.int (0 : Int32))] [(.int (0 : Int32)), (.ref out), (.int (0 : Int32)), (.ref ba2)])) rfl (by rw [hml]; rfl) (Steps.refl _) (argsL := [(.int (0 : Int32))]) (rest := [(.int (0 : Int32)), (.ref ba2)]) (lenOf pd__I_Ljava_lang_Object_ rfl) rfl (by show 2 * 0 + _ ≤ _; exact Nat.le_of_eq rfl) (hb hby d6_87) (fun _ _ => ⟨rfl, ea2, (by decide : 7 + 0 ≤ _), (by decide : 21 + 0 ≤ _)⟩)
  dsimp only [Pt.U, Pt.locs, Pt.cells, Pt.slots] at Xk11 lk11 yk11 zk11 stk11 hQk11
  subst lk11 yk11 zk11
  obtain ⟨rfl, Nk11q, ek11⟩ := hQk11
  have Nk11 := Fr.app Nk1 Nk11q
  have F13 := (f4.keep K3)
  obtain ⟨Tx12, Xx12, ex12, stx12⟩ := castY Xk11 hx hZ hown (tw hw 234 rfl) ek11 (Ins.self F13) (g := (mkF m 92 #[.val (.ref ls), .val (.int ng), .val (.ref out), .val (.ref ba2), .val (.int (0 : Int32))] [(.ref r0), (.int (0 : Int32)), (.ref ba2)])) rfl rfl (hb hby d6_92)
  have F14 := (f5.keep K3 nin0)
  obtain ⟨cqk15, kqk15, qk15a, qk15b, qk15c⟩ := isOf hZ ex12 F13
  obtain ⟨_, _, ⟨Tk15, Lk15, kk15, nk15⟩, -, Xk15, ⟨Lck15, hQk15, lk15, yk15, zk15⟩, stk15⟩ := Xx12.virtualBack hx (y := Y20) (z := Y20) hown (mvT hZ (tw hw 236 rfl)) (mvT hZ (tw hw 237 rfl)) (notFace_of_selects (args := #[]) (mvT hZ (tw hw 239 rfl))) (mvT hZ (tw hw 239 rfl)) (mvT hZ (tw hw 238 rfl)) (by decide) (backOf (W := 2) (rm_intval l Z a0 hw [] r0 q0  ha2 n0 Z9 O10 F14) hZ (tw hw 240 rfl) (tw hw 201 rfl) (by decide) (by decide)) qk15a qk15c (g := (mkF m 95 #[.val (.ref ls), .val (.int ng), .val (.ref out), .val (.ref ba2), .val (.int (0 : Int32))] [(.ref r0), (.int (0 : Int32)), (.ref ba2)])) rfl (by rw [hml]; rfl) (Steps.refl _) (argsL := []) (rest := [(.int (0 : Int32)), (.ref ba2)]) (lenOf pd___I rfl) rfl (by show 2 * 0 + _ ≤ _; exact Nat.le_of_eq rfl) (hb hby d6_95) (fun _ _ => ⟨rfl, ex12, (by decide : 7 + 0 ≤ _), (by decide : 21 + 0 ≤ _)⟩)
  dsimp only [Pt.U, Pt.locs, Pt.cells, Pt.slots] at Xk15 lk15 yk15 zk15 stk15 hQk15
  subst lk15 yk15 zk15
  obtain ⟨rfl, Nk15q, ek15⟩ := hQk15
  have Nk15 := Fr.app Nk11 Nk15q
  have in16 : ¬ ((0 : Int32) < 0 ∨ clv4.slots.size ≤ ((0 : Int32)).toNatClampNeg) := inb_of Sv4 ⟨by decide, by decide⟩
  obtain ⟨Tw17, hw17, Xw17, ew17, Ww17, stw17⟩ := stI Xk15 hx hZ ek15 Arv4 (j := (0 : Int32)) in16 (g := (mkF m 98 #[.val (.ref ls), .val (.int ng), .val (.ref out), .val (.ref ba2), .val (.int (0 : Int32))] [(.int q0), (.int (0 : Int32)), (.ref ba2)])) rfl rfl (hb hby d6_98)
  have Vw17 : Arv Z hw17 ba2 ka2 .int (1 : Int32) [(.int q0)] (.int (0 : Int32)) := Arv.set Arv4 qv4 Sv4 Nv4 Hv4 Gv4 rfl Ww17 0 rfl (Nat.le_of_ble_eq_true rfl)
  have Nw17 := Fr.snoc Xw17 Nk15 g_ba2
  have K18 : Keep h0 hw17 [] := K3.wr Ww17 (Or.inr y_ba2)
  obtain ⟨clv19, Arv19, qv19, Sv19, Nv19, Hv19, Gv19⟩ := id Vw17
  have F20 := (Ba2.wr Ww17)
  obtain ⟨fs, hlv, hrun, hended, hW, hsame⟩ := Xw17.leave (v := some (.ref ba2)) (fun h => by rw [hret] at h; cases h)
  refine ⟨_, _, pre0 _ ?_, hrun, hended, _, _, rfl, ?_, ⟨_, rfl⟩, hW, hsame.mono (by decide) (by decide)⟩
  · refine XS.aloadN X0.here hx rfl (hb hby d6_62) rfl rfl ?_
    show Sp p e below T0 (mkF m 63 #[.val (.ref ls), .val (.int ng), .val (.ref out), .val (.ref itr), .val (.ref y4)] [(.ref out)]) _
    refine stk1.trans ?_
    refine sta2 _ ?_
    refine XS.astoreN Xa2.here hx rfl (hb hby d6_70) rfl rfl (l' := #[.val (.ref ls), .val (.int ng), .val (.ref out), .val (.ref ba2), .val (.ref y4)]) rfl ?_
    refine XS.iconst Xa2.here hx rfl (hb hby d6_71) ?_
    refine XS.istore Xa2.here hx rfl (hb hby d6_72) rfl (l' := #[.val (.ref ls), .val (.int ng), .val (.ref out), .val (.ref ba2), .val (.int (0 : Int32))]) rfl ?_
    refine XS.iload Xa2.here hx rfl (hb hby d6_74) rfl ?_
    refine XS.aloadN Xa2.here hx rfl (hb hby d6_76) rfl rfl ?_
    show Sp p e below Ta2 (mkF m 77 #[.val (.ref ls), .val (.int ng), .val (.ref out), .val (.ref ba2), .val (.int (0 : Int32))] [(.ref ba2), (.int (0 : Int32))]) _
    refine Xa2.arraylength hx (own_eq ea2 Arv4.1) (State.isArrayOf_alike hZ.alike Arv4.2.1) (g := (mkF m 77 #[.val (.ref ls), .val (.int ng), .val (.ref out), .val (.ref ba2), .val (.int (0 : Int32))] [(.ref ba2), (.int (0 : Int32))])) rfl rfl (hb hby d6_77) _ ?_
    rw [len_of Sv4 Nv4]
    show Sp p e below Ta2 (mkF m 78 #[.val (.ref ls), .val (.int ng), .val (.ref out), .val (.ref ba2), .val (.int (0 : Int32))] [(.int (1 : Int32)), (.int (0 : Int32))]) _
    refine XS.icmpNo Xa2.here hx rfl (hb hby d6_78) rfl (tlt (by decide : (0 : Int32) < (1 : Int32))).2.1 ?_
    refine XS.aloadN Xa2.here hx rfl (hb hby d6_81) rfl rfl ?_
    refine XS.iload Xa2.here hx rfl (hb hby d6_82) rfl ?_
    refine XS.aloadN Xa2.here hx rfl (hb hby d6_84) rfl rfl ?_
    refine XS.iload Xa2.here hx rfl (hb hby d6_85) rfl ?_
    refine stk11.trans ?_
    refine stx12 _ ?_
    refine stk15.trans ?_
    refine stw17 _ ?_
    refine XS.iinc Xw17.here hx rfl (hb hby d6_99) rfl (l' := #[.val (.ref ls), .val (.int ng), .val (.ref out), .val (.ref ba2), .val (.int (1 : Int32))]) rfl ?_
    refine XS.goto Xw17.here hx rfl (pc0 := 102) (pc' := 74) rfl (hb hby d6_102) (by decide) (by decide) ?_
    refine XS.iload Xw17.here hx rfl (hb hby d6_74) rfl ?_
    refine XS.aloadN Xw17.here hx rfl (hb hby d6_76) rfl rfl ?_
    show Sp p e below Tw17 (mkF m 77 #[.val (.ref ls), .val (.int ng), .val (.ref out), .val (.ref ba2), .val (.int (1 : Int32))] [(.ref ba2), (.int (1 : Int32))]) _
    refine Xw17.arraylength hx (own_eq ew17 Arv19.1) (State.isArrayOf_alike hZ.alike Arv19.2.1) (g := (mkF m 77 #[.val (.ref ls), .val (.int ng), .val (.ref out), .val (.ref ba2), .val (.int (1 : Int32))] [(.ref ba2), (.int (1 : Int32))])) rfl rfl (hb hby d6_77) _ ?_
    rw [len_of Sv19 Nv19]
    show Sp p e below Tw17 (mkF m 78 #[.val (.ref ls), .val (.int ng), .val (.ref out), .val (.ref ba2), .val (.int (1 : Int32))] [(.int (1 : Int32)), (.int (1 : Int32))]) _
    refine XS.icmpYes Xw17.here hx rfl (pc0 := 78) (pc' := 105) rfl (hb hby d6_78) rfl (flt (by decide : ¬ ((1 : Int32) < (1 : Int32)))).2.1 (by decide) (by decide) ?_
    refine XS.aloadN Xw17.here hx rfl (hb hby d6_105) rfl rfl ?_
    show Sp p e below Tw17 (mkF m 106 #[.val (.ref ls), .val (.int ng), .val (.ref out), .val (.ref ba2), .val (.int (1 : Int32))] [(.ref ba2)]) _
    jvm_step Xw17.here [Xw17.here.top, hx, (hb hby d6_106), Xw17.method', hret, Value.isRef, FieldType.isReference]
    first | (intro acts; rw [hlv _ acts rfl rfl rfl]) | rw [hlv _ _ rfl rfl rfl]
    exact Steps.refl _
  · show Q_pt Z (1 : Int32) [(.int q0)] h0 n0 _ Tw17.heap _
    rw [ew17]
    exact ⟨ba2, ka2, rfl, Nw17, K18, y_ba2, F20, Vw17⟩
set_option maxRecDepth 65536 in
set_option maxHeartbeats 40000000 in
theorem tl_pt2 (p : Program) (l : Launch) (e : Env) (s : State) (m : MethodId) (args : Array Value) (below : List Frame) (meth : Method) (c : Code) (T0 : State) (locs : List Loc) (Z : State) (a0 : Array Value) (hw : ∀ d ∈ tables_1, d.before a0 Z = true) (ls : Addr) (ng : Int32) (out : Addr) (itr : Addr) (y4 : Addr) (eo : Addr) (keo : ClassId) (r0 : Addr) (r1 : Addr) (q0 : Int32) (q1 : Int32) (h0 : Heap) (n0 : Nat)
    (X0 : Stand p l e ({ frames := 5, cells := 7, slots := 23, locals := 69 } : Room) s m args below meth c T0 locs 6 20) (hx : p.tables.exec = Jvm.exec) (hZ : Z.Warmed39 s.vm) (hby : c.code = prog_25_method_2_code) (hml : c.maxLocals = 5) (hown : s.vm.findClass S8 = some m.cls) (hret : meth.sig.returnType = (some (.array .int))) (hlk : meth.locks = false) (e0 : T0.heap = h0) (N0 : Fr n0 locs) (Z0 : n0 ≤ h0.size) (O0 : Old Z n0 h0) (f0 : Exa Z h0 out S1) (f1 : Fld Z h0 out S1 "size" "I" (.int (2 : Int32))) (f2 : Fld Z h0 out S1 "elementData" S2 (.ref eo)) (f3 : Arv Z h0 eo keo (.object S3) (10 : Int32) [(.ref r0), (.ref r1), .null, .null, .null, .null, .null, .null, .null, .null] .null) (f4 : Exa Z h0 r0 S0) (f5 : Fld Z h0 r0 S0 "value" "I" (.int q0)) (f6 : Exa Z h0 r1 S0) (f7 : Fld Z h0 r1 S0 "value" "I" (.int q1)) :
    ∃ s₂ o, Sp p e below T0 (mkF m 62 #[.val (.ref ls), .val (.int ng), .val (.ref out), .val (.ref itr), .val (.ref y4)] []) s₂ ∧ s₂.status = .running ∧ Ended s₂ below o ∧ ∃ v L, o = .returned v ∧ Q_pt Z (2 : Int32) [(.int q0), (.int q1)] h0 n0 v s₂.heap L ∧ FrameEnd s o s₂ L ({ frames := 5, cells := 7, slots := 23, locals := 69 } : Room).cells ({ frames := 5, cells := 7, slots := 23, locals := 69 } : Room).slots := by
  have pre0 : ∀ t_, Sp p e below T0 (mkF m 62 #[.val (.ref ls), .val (.int ng), .val (.ref out), .val (.ref itr), .val (.ref y4)] []) t_ → Sp p e below T0 (mkF m 62 #[.val (.ref ls), .val (.int ng), .val (.ref out), .val (.ref itr), .val (.ref y4)] []) t_ := fun t_ k_ => k_
  obtain ⟨cqk1, kqk1, qk1a, qk1b, qk1c⟩ := isOf hZ e0 f0
  obtain ⟨_, _, ⟨Tk1, Lk1, kk1, nk1⟩, -, Xk1, ⟨Lck1, hQk1, lk1, yk1, zk1⟩, stk1⟩ := X0.interfaceBack hx (xi := Y28) (y := Y19) hown (mvT hZ (tw hw 76 rfl)) (mvT hZ (tw hw 77 rfl)) (mvT hZ (tw hw 78 rfl)) (mvT hZ (tw hw 79 rfl)) (mvT hZ (tw hw 80 rfl)) (mvT hZ (tw hw 81 rfl)) (mvT hZ (tw hw 82 rfl)) (mvT hZ (tw hw 83 rfl)) (by decide) (backOf (W := 0) (rm_size l Z a0 hw [] out (2 : Int32)  h0 n0 Z0 O0 f1) hZ (tw hw 84 rfl) (tw hw 2 rfl) (by decide) (by decide)) qk1a qk1b qk1c (g := (mkF m 63 #[.val (.ref ls), .val (.int ng), .val (.ref out), .val (.ref itr), .val (.ref y4)] [(.ref out)])) rfl (by rw [hml]; rfl) (Steps.refl _) (argsL := []) (rest := []) (lenOf pd___I rfl) rfl (by show 2 * 0 + _ ≤ _; exact Nat.le_of_eq rfl) (hb hby d6_63) (fun _ _ => ⟨rfl, e0, (by decide : 6 + 0 ≤ _), (by decide : 20 + 0 ≤ _)⟩)
  dsimp only [Pt.U, Pt.locs, Pt.cells, Pt.slots] at Xk1 lk1 yk1 zk1 stk1 hQk1
  subst lk1 yk1 zk1
  obtain ⟨rfl, Nk1q, ek1⟩ := hQk1
  have Nk1 := Fr.app N0 Nk1q
  obtain ⟨Ta2, ha2, ka2, Xa2, ea2, Ea2, Aa2, Ba2, sta2⟩ := newPE Xk1 hx hZ (tw hw 86 rfl) ek1 (g := (mkF m 68 #[.val (.ref ls), .val (.int ng), .val (.ref out), .val (.ref itr), .val (.ref y4)] [(.int (2 : Int32))])) rfl (hb hby d6_68) rfl (by decide) (cap := 2) (by decide) (by decide) (by decide) (by decide) (ad := "[I") (by decide)
  obtain ⟨ba2, ga2⟩ : ∃ z, z = h0.size := ⟨_, rfl⟩
  rw [← ga2] at Aa2 Ba2 sta2
  have g_ba2 : n0 ≤ ba2 := Nat.le_trans Z0 (Nat.le_of_eq ga2.symm)
  have y_ba2 : h0.size ≤ ba2 := Nat.le_trans (Nat.le_refl h0.size) (Nat.le_of_eq ga2.symm)
  have Va2 : Arv Z ha2 ba2 ka2 .int (2 : Int32) [(.int (0 : Int32)), (.int (0 : Int32))] (.int (0 : Int32)) := (Arv.new Aa2 (by decide)).pad (pad_rep [] (.int (0 : Int32)) 2)
  have K3 : Keep h0 ha2 [] := (Keep.refl h0 []).ext Ea2
  obtain ⟨clv4, Arv4, qv4, Sv4, Nv4, Hv4, Gv4⟩ := id Va2
  have F5 := (f0.keep K3)
  have F6 := (f1.keep K3 nin0)
  have F7 := (f2.keep K3 nin0)
  have F8 := (f3.keep K3 nin0)
  have Z9 : n0 ≤ ha2.size := (Nat.le_trans Z0 Ea2.1)
  have O10 : Old Z n0 ha2 := (O0.ext Ea2)
  obtain ⟨cqk11, kqk11, qk11a, qk11b, qk11c⟩ := isOf hZ ea2 F5
  obtain ⟨_, _, ⟨Tk11, Lk11, kk11, nk11⟩, -, Xk11, ⟨Lck11, hQk11, lk11, yk11, zk11⟩, stk11⟩ := Xa2.interfaceBack hx (xi := Y29) (y := Y24) hown (mvT hZ (tw hw 213 rfl)) (mvT hZ (tw hw 214 rfl)) (mvT hZ (tw hw 215 rfl)) (mvT hZ (tw hw 216 rfl)) (mvT hZ (tw hw 217 rfl)) (mvT hZ (tw hw 218 rfl)) (mvT hZ (tw hw 219 rfl)) (mvT hZ (tw hw 83 rfl)) (by decide) (backOf (W := 2) (rm_get l Z a0 hw [] out (0 : Int32) (2 : Int32) eo keo [(.ref r0), (.ref r1), .null, .null, .null, .null, .null, .null, .null, .null] r0  ha2 n0 Z9 O10 F5 F6 F7 F8 (by decide) (by decide) (by decide) rfl) hZ (tw hw 220 rfl) (tw hw 2 rfl) (by decide) (by decide)) qk11a qk11b qk11c (g := (mkF m 87 #[.val (.ref ls), .val (.int ng), .val (.ref out), .val (.ref ba2), .val (.int (0 : Int32))] [(.int (0 : Int32)), (.ref out), (.int (0 : Int32)), (.ref ba2)])) rfl (by rw [hml]; rfl) (Steps.refl _) (argsL := [(.int (0 : Int32))]) (rest := [(.int (0 : Int32)), (.ref ba2)]) (lenOf pd__I_Ljava_lang_Object_ rfl) rfl (by show 2 * 0 + _ ≤ _; exact Nat.le_of_eq rfl) (hb hby d6_87) (fun _ _ => ⟨rfl, ea2, (by decide : 7 + 0 ≤ _), (by decide : 22 + 0 ≤ _)⟩)
  dsimp only [Pt.U, Pt.locs, Pt.cells, Pt.slots] at Xk11 lk11 yk11 zk11 stk11 hQk11
  subst lk11 yk11 zk11
  obtain ⟨rfl, Nk11q, ek11⟩ := hQk11
  have Nk11 := Fr.app Nk1 Nk11q
  have F13 := (f4.keep K3)
  obtain ⟨Tx12, Xx12, ex12, stx12⟩ := castY Xk11 hx hZ hown (tw hw 234 rfl) ek11 (Ins.self F13) (g := (mkF m 92 #[.val (.ref ls), .val (.int ng), .val (.ref out), .val (.ref ba2), .val (.int (0 : Int32))] [(.ref r0), (.int (0 : Int32)), (.ref ba2)])) rfl rfl (hb hby d6_92)
  have F14 := (f5.keep K3 nin0)
  obtain ⟨cqk15, kqk15, qk15a, qk15b, qk15c⟩ := isOf hZ ex12 F13
  obtain ⟨_, _, ⟨Tk15, Lk15, kk15, nk15⟩, -, Xk15, ⟨Lck15, hQk15, lk15, yk15, zk15⟩, stk15⟩ := Xx12.virtualBack hx (y := Y20) (z := Y20) hown (mvT hZ (tw hw 236 rfl)) (mvT hZ (tw hw 237 rfl)) (notFace_of_selects (args := #[]) (mvT hZ (tw hw 239 rfl))) (mvT hZ (tw hw 239 rfl)) (mvT hZ (tw hw 238 rfl)) (by decide) (backOf (W := 2) (rm_intval l Z a0 hw [] r0 q0  ha2 n0 Z9 O10 F14) hZ (tw hw 240 rfl) (tw hw 201 rfl) (by decide) (by decide)) qk15a qk15c (g := (mkF m 95 #[.val (.ref ls), .val (.int ng), .val (.ref out), .val (.ref ba2), .val (.int (0 : Int32))] [(.ref r0), (.int (0 : Int32)), (.ref ba2)])) rfl (by rw [hml]; rfl) (Steps.refl _) (argsL := []) (rest := [(.int (0 : Int32)), (.ref ba2)]) (lenOf pd___I rfl) rfl (by show 2 * 0 + _ ≤ _; exact Nat.le_of_eq rfl) (hb hby d6_95) (fun _ _ => ⟨rfl, ex12, (by decide : 7 + 0 ≤ _), (by decide : 22 + 0 ≤ _)⟩)
  dsimp only [Pt.U, Pt.locs, Pt.cells, Pt.slots] at Xk15 lk15 yk15 zk15 stk15 hQk15
  subst lk15 yk15 zk15
  obtain ⟨rfl, Nk15q, ek15⟩ := hQk15
  have Nk15 := Fr.app Nk11 Nk15q
  have in16 : ¬ ((0 : Int32) < 0 ∨ clv4.slots.size ≤ ((0 : Int32)).toNatClampNeg) := inb_of Sv4 ⟨by decide, by decide⟩
  obtain ⟨Tw17, hw17, Xw17, ew17, Ww17, stw17⟩ := stI Xk15 hx hZ ek15 Arv4 (j := (0 : Int32)) in16 (g := (mkF m 98 #[.val (.ref ls), .val (.int ng), .val (.ref out), .val (.ref ba2), .val (.int (0 : Int32))] [(.int q0), (.int (0 : Int32)), (.ref ba2)])) rfl rfl (hb hby d6_98)
  have Vw17 : Arv Z hw17 ba2 ka2 .int (2 : Int32) [(.int q0), (.int (0 : Int32))] (.int (0 : Int32)) := Arv.set Arv4 qv4 Sv4 Nv4 Hv4 Gv4 rfl Ww17 0 rfl (Nat.le_of_ble_eq_true rfl)
  have Nw17 := Fr.snoc Xw17 Nk15 g_ba2
  have K18 : Keep h0 hw17 [] := K3.wr Ww17 (Or.inr y_ba2)
  obtain ⟨clv19, Arv19, qv19, Sv19, Nv19, Hv19, Gv19⟩ := id Vw17
  have F20 := (F5.wr Ww17)
  have F22 := (Ba2.wr Ww17)
  have ne21 : out ≠ ba2 := ne_exa F20 F22 (by decide)
  have F23 := (F6.other Ww17 (Or.inl ne21))
  have F24 := (F7.other Ww17 (Or.inl ne21))
  have ne25 : eo ≠ ba2 := Nat.ne_of_lt (Nat.lt_of_lt_of_le f3.lt (Nat.le_of_eq ga2.symm))
  have F26 := (F8.other Ww17 ne25)
  have Z27 : n0 ≤ hw17.size := (Nat.le_trans Z9 (Keep.of_wr Ww17).1)
  have O28 : Old Z n0 hw17 := (O10.wr Ww17 g_ba2)
  obtain ⟨cqk29, kqk29, qk29a, qk29b, qk29c⟩ := isOf hZ ew17 F20
  obtain ⟨_, _, ⟨Tk29, Lk29, kk29, nk29⟩, -, Xk29, ⟨Lck29, hQk29, lk29, yk29, zk29⟩, stk29⟩ := Xw17.interfaceBack hx (xi := Y29) (y := Y24) hown (mvT hZ (tw hw 213 rfl)) (mvT hZ (tw hw 214 rfl)) (mvT hZ (tw hw 215 rfl)) (mvT hZ (tw hw 216 rfl)) (mvT hZ (tw hw 217 rfl)) (mvT hZ (tw hw 218 rfl)) (mvT hZ (tw hw 219 rfl)) (mvT hZ (tw hw 83 rfl)) (by decide) (backOf (W := 2) (rm_get l Z a0 hw [] out (1 : Int32) (2 : Int32) eo keo [(.ref r0), (.ref r1), .null, .null, .null, .null, .null, .null, .null, .null] r1  hw17 n0 Z27 O28 F20 F23 F24 F26 (by decide) (by decide) (by decide) rfl) hZ (tw hw 220 rfl) (tw hw 2 rfl) (by decide) (by decide)) qk29a qk29b qk29c (g := (mkF m 87 #[.val (.ref ls), .val (.int ng), .val (.ref out), .val (.ref ba2), .val (.int (1 : Int32))] [(.int (1 : Int32)), (.ref out), (.int (1 : Int32)), (.ref ba2)])) rfl (by rw [hml]; rfl) (Steps.refl _) (argsL := [(.int (1 : Int32))]) (rest := [(.int (1 : Int32)), (.ref ba2)]) (lenOf pd__I_Ljava_lang_Object_ rfl) rfl (by show 2 * 0 + _ ≤ _; exact Nat.le_of_eq rfl) (hb hby d6_87) (fun _ _ => ⟨rfl, ew17, (by decide : 7 + 0 ≤ _), (by decide : 22 + 0 ≤ _)⟩)
  dsimp only [Pt.U, Pt.locs, Pt.cells, Pt.slots] at Xk29 lk29 yk29 zk29 stk29 hQk29
  subst lk29 yk29 zk29
  obtain ⟨rfl, Nk29q, ek29⟩ := hQk29
  have Nk29 := Fr.app Nw17 Nk29q
  have F31 := (f6.keep K18)
  obtain ⟨Tx30, Xx30, ex30, stx30⟩ := castY Xk29 hx hZ hown (tw hw 234 rfl) ek29 (Ins.self F31) (g := (mkF m 92 #[.val (.ref ls), .val (.int ng), .val (.ref out), .val (.ref ba2), .val (.int (1 : Int32))] [(.ref r1), (.int (1 : Int32)), (.ref ba2)])) rfl rfl (hb hby d6_92)
  have F32 := (f7.keep K18 nin0)
  obtain ⟨cqk33, kqk33, qk33a, qk33b, qk33c⟩ := isOf hZ ex30 F31
  obtain ⟨_, _, ⟨Tk33, Lk33, kk33, nk33⟩, -, Xk33, ⟨Lck33, hQk33, lk33, yk33, zk33⟩, stk33⟩ := Xx30.virtualBack hx (y := Y20) (z := Y20) hown (mvT hZ (tw hw 236 rfl)) (mvT hZ (tw hw 237 rfl)) (notFace_of_selects (args := #[]) (mvT hZ (tw hw 239 rfl))) (mvT hZ (tw hw 239 rfl)) (mvT hZ (tw hw 238 rfl)) (by decide) (backOf (W := 2) (rm_intval l Z a0 hw [] r1 q1  hw17 n0 Z27 O28 F32) hZ (tw hw 240 rfl) (tw hw 201 rfl) (by decide) (by decide)) qk33a qk33c (g := (mkF m 95 #[.val (.ref ls), .val (.int ng), .val (.ref out), .val (.ref ba2), .val (.int (1 : Int32))] [(.ref r1), (.int (1 : Int32)), (.ref ba2)])) rfl (by rw [hml]; rfl) (Steps.refl _) (argsL := []) (rest := [(.int (1 : Int32)), (.ref ba2)]) (lenOf pd___I rfl) rfl (by show 2 * 0 + _ ≤ _; exact Nat.le_of_eq rfl) (hb hby d6_95) (fun _ _ => ⟨rfl, ex30, (by decide : 7 + 0 ≤ _), (by decide : 22 + 0 ≤ _)⟩)
  dsimp only [Pt.U, Pt.locs, Pt.cells, Pt.slots] at Xk33 lk33 yk33 zk33 stk33 hQk33
  subst lk33 yk33 zk33
  obtain ⟨rfl, Nk33q, ek33⟩ := hQk33
  have Nk33 := Fr.app Nk29 Nk33q
  have in34 : ¬ ((1 : Int32) < 0 ∨ clv19.slots.size ≤ ((1 : Int32)).toNatClampNeg) := inb_of Sv19 ⟨by decide, by decide⟩
  obtain ⟨Tw35, hw35, Xw35, ew35, Ww35, stw35⟩ := stI Xk33 hx hZ ek33 Arv19 (j := (1 : Int32)) in34 (g := (mkF m 98 #[.val (.ref ls), .val (.int ng), .val (.ref out), .val (.ref ba2), .val (.int (1 : Int32))] [(.int q1), (.int (1 : Int32)), (.ref ba2)])) rfl rfl (hb hby d6_98)
  have Vw35 : Arv Z hw35 ba2 ka2 .int (2 : Int32) [(.int q0), (.int q1)] (.int (0 : Int32)) := Arv.set Arv19 qv19 Sv19 Nv19 Hv19 Gv19 rfl Ww35 1 rfl (Nat.le_of_ble_eq_true rfl)
  have Nw35 := Fr.snoc Xw35 Nk33 g_ba2
  have K36 : Keep h0 hw35 [] := K18.wr Ww35 (Or.inr y_ba2)
  obtain ⟨clv37, Arv37, qv37, Sv37, Nv37, Hv37, Gv37⟩ := id Vw35
  have F38 := (F22.wr Ww35)
  obtain ⟨fs, hlv, hrun, hended, hW, hsame⟩ := Xw35.leave (v := some (.ref ba2)) (fun h => by rw [hret] at h; cases h)
  refine ⟨_, _, pre0 _ ?_, hrun, hended, _, _, rfl, ?_, ⟨_, rfl⟩, hW, hsame.mono (by decide) (by decide)⟩
  · refine XS.aloadN X0.here hx rfl (hb hby d6_62) rfl rfl ?_
    show Sp p e below T0 (mkF m 63 #[.val (.ref ls), .val (.int ng), .val (.ref out), .val (.ref itr), .val (.ref y4)] [(.ref out)]) _
    refine stk1.trans ?_
    refine sta2 _ ?_
    refine XS.astoreN Xa2.here hx rfl (hb hby d6_70) rfl rfl (l' := #[.val (.ref ls), .val (.int ng), .val (.ref out), .val (.ref ba2), .val (.ref y4)]) rfl ?_
    refine XS.iconst Xa2.here hx rfl (hb hby d6_71) ?_
    refine XS.istore Xa2.here hx rfl (hb hby d6_72) rfl (l' := #[.val (.ref ls), .val (.int ng), .val (.ref out), .val (.ref ba2), .val (.int (0 : Int32))]) rfl ?_
    refine XS.iload Xa2.here hx rfl (hb hby d6_74) rfl ?_
    refine XS.aloadN Xa2.here hx rfl (hb hby d6_76) rfl rfl ?_
    show Sp p e below Ta2 (mkF m 77 #[.val (.ref ls), .val (.int ng), .val (.ref out), .val (.ref ba2), .val (.int (0 : Int32))] [(.ref ba2), (.int (0 : Int32))]) _
    refine Xa2.arraylength hx (own_eq ea2 Arv4.1) (State.isArrayOf_alike hZ.alike Arv4.2.1) (g := (mkF m 77 #[.val (.ref ls), .val (.int ng), .val (.ref out), .val (.ref ba2), .val (.int (0 : Int32))] [(.ref ba2), (.int (0 : Int32))])) rfl rfl (hb hby d6_77) _ ?_
    rw [len_of Sv4 Nv4]
    show Sp p e below Ta2 (mkF m 78 #[.val (.ref ls), .val (.int ng), .val (.ref out), .val (.ref ba2), .val (.int (0 : Int32))] [(.int (2 : Int32)), (.int (0 : Int32))]) _
    refine XS.icmpNo Xa2.here hx rfl (hb hby d6_78) rfl (tlt (by decide : (0 : Int32) < (2 : Int32))).2.1 ?_
    refine XS.aloadN Xa2.here hx rfl (hb hby d6_81) rfl rfl ?_
    refine XS.iload Xa2.here hx rfl (hb hby d6_82) rfl ?_
    refine XS.aloadN Xa2.here hx rfl (hb hby d6_84) rfl rfl ?_
    refine XS.iload Xa2.here hx rfl (hb hby d6_85) rfl ?_
    refine stk11.trans ?_
    refine stx12 _ ?_
    refine stk15.trans ?_
    refine stw17 _ ?_
    refine XS.iinc Xw17.here hx rfl (hb hby d6_99) rfl (l' := #[.val (.ref ls), .val (.int ng), .val (.ref out), .val (.ref ba2), .val (.int (1 : Int32))]) rfl ?_
    refine XS.goto Xw17.here hx rfl (pc0 := 102) (pc' := 74) rfl (hb hby d6_102) (by decide) (by decide) ?_
    refine XS.iload Xw17.here hx rfl (hb hby d6_74) rfl ?_
    refine XS.aloadN Xw17.here hx rfl (hb hby d6_76) rfl rfl ?_
    show Sp p e below Tw17 (mkF m 77 #[.val (.ref ls), .val (.int ng), .val (.ref out), .val (.ref ba2), .val (.int (1 : Int32))] [(.ref ba2), (.int (1 : Int32))]) _
    refine Xw17.arraylength hx (own_eq ew17 Arv19.1) (State.isArrayOf_alike hZ.alike Arv19.2.1) (g := (mkF m 77 #[.val (.ref ls), .val (.int ng), .val (.ref out), .val (.ref ba2), .val (.int (1 : Int32))] [(.ref ba2), (.int (1 : Int32))])) rfl rfl (hb hby d6_77) _ ?_
    rw [len_of Sv19 Nv19]
    show Sp p e below Tw17 (mkF m 78 #[.val (.ref ls), .val (.int ng), .val (.ref out), .val (.ref ba2), .val (.int (1 : Int32))] [(.int (2 : Int32)), (.int (1 : Int32))]) _
    refine XS.icmpNo Xw17.here hx rfl (hb hby d6_78) rfl (tlt (by decide : (1 : Int32) < (2 : Int32))).2.1 ?_
    refine XS.aloadN Xw17.here hx rfl (hb hby d6_81) rfl rfl ?_
    refine XS.iload Xw17.here hx rfl (hb hby d6_82) rfl ?_
    refine XS.aloadN Xw17.here hx rfl (hb hby d6_84) rfl rfl ?_
    refine XS.iload Xw17.here hx rfl (hb hby d6_85) rfl ?_
    refine stk29.trans ?_
    refine stx30 _ ?_
    refine stk33.trans ?_
    refine stw35 _ ?_
    refine XS.iinc Xw35.here hx rfl (hb hby d6_99) rfl (l' := #[.val (.ref ls), .val (.int ng), .val (.ref out), .val (.ref ba2), .val (.int (2 : Int32))]) rfl ?_
    refine XS.goto Xw35.here hx rfl (pc0 := 102) (pc' := 74) rfl (hb hby d6_102) (by decide) (by decide) ?_
    refine XS.iload Xw35.here hx rfl (hb hby d6_74) rfl ?_
    refine XS.aloadN Xw35.here hx rfl (hb hby d6_76) rfl rfl ?_
    show Sp p e below Tw35 (mkF m 77 #[.val (.ref ls), .val (.int ng), .val (.ref out), .val (.ref ba2), .val (.int (2 : Int32))] [(.ref ba2), (.int (2 : Int32))]) _
    refine Xw35.arraylength hx (own_eq ew35 Arv37.1) (State.isArrayOf_alike hZ.alike Arv37.2.1) (g := (mkF m 77 #[.val (.ref ls), .val (.int ng), .val (.ref out), .val (.ref ba2), .val (.int (2 : Int32))] [(.ref ba2), (.int (2 : Int32))])) rfl rfl (hb hby d6_77) _ ?_
    rw [len_of Sv37 Nv37]
    show Sp p e below Tw35 (mkF m 78 #[.val (.ref ls), .val (.int ng), .val (.ref out), .val (.ref ba2), .val (.int (2 : Int32))] [(.int (2 : Int32)), (.int (2 : Int32))]) _
    refine XS.icmpYes Xw35.here hx rfl (pc0 := 78) (pc' := 105) rfl (hb hby d6_78) rfl (flt (by decide : ¬ ((2 : Int32) < (2 : Int32)))).2.1 (by decide) (by decide) ?_
    refine XS.aloadN Xw35.here hx rfl (hb hby d6_105) rfl rfl ?_
    show Sp p e below Tw35 (mkF m 106 #[.val (.ref ls), .val (.int ng), .val (.ref out), .val (.ref ba2), .val (.int (2 : Int32))] [(.ref ba2)]) _
    jvm_step Xw35.here [Xw35.here.top, hx, (hb hby d6_106), Xw35.method', hret, Value.isRef, FieldType.isReference]
    first | (intro acts; rw [hlv _ acts rfl rfl rfl]) | rw [hlv _ _ rfl rfl rfl]
    exact Steps.refl _
  · show Q_pt Z (2 : Int32) [(.int q0), (.int q1)] h0 n0 _ Tw35.heap _
    rw [ew35]
    exact ⟨ba2, ka2, rfl, Nw35, K36, y_ba2, F38, Vw35⟩
set_option maxRecDepth 65536 in
set_option maxHeartbeats 40000000 in
theorem tl_pt3 (p : Program) (l : Launch) (e : Env) (s : State) (m : MethodId) (args : Array Value) (below : List Frame) (meth : Method) (c : Code) (T0 : State) (locs : List Loc) (Z : State) (a0 : Array Value) (hw : ∀ d ∈ tables_1, d.before a0 Z = true) (ls : Addr) (ng : Int32) (out : Addr) (itr : Addr) (y4 : Addr) (eo : Addr) (keo : ClassId) (r0 : Addr) (r1 : Addr) (r2 : Addr) (q0 : Int32) (q1 : Int32) (q2 : Int32) (h0 : Heap) (n0 : Nat)
    (X0 : Stand p l e ({ frames := 5, cells := 7, slots := 23, locals := 69 } : Room) s m args below meth c T0 locs 6 20) (hx : p.tables.exec = Jvm.exec) (hZ : Z.Warmed39 s.vm) (hby : c.code = prog_25_method_2_code) (hml : c.maxLocals = 5) (hown : s.vm.findClass S8 = some m.cls) (hret : meth.sig.returnType = (some (.array .int))) (hlk : meth.locks = false) (e0 : T0.heap = h0) (N0 : Fr n0 locs) (Z0 : n0 ≤ h0.size) (O0 : Old Z n0 h0) (f0 : Exa Z h0 out S1) (f1 : Fld Z h0 out S1 "size" "I" (.int (3 : Int32))) (f2 : Fld Z h0 out S1 "elementData" S2 (.ref eo)) (f3 : Arv Z h0 eo keo (.object S3) (10 : Int32) [(.ref r0), (.ref r1), (.ref r2), .null, .null, .null, .null, .null, .null, .null] .null) (f4 : Exa Z h0 r0 S0) (f5 : Fld Z h0 r0 S0 "value" "I" (.int q0)) (f6 : Exa Z h0 r1 S0) (f7 : Fld Z h0 r1 S0 "value" "I" (.int q1)) (f8 : Exa Z h0 r2 S0) (f9 : Fld Z h0 r2 S0 "value" "I" (.int q2)) :
    ∃ s₂ o, Sp p e below T0 (mkF m 62 #[.val (.ref ls), .val (.int ng), .val (.ref out), .val (.ref itr), .val (.ref y4)] []) s₂ ∧ s₂.status = .running ∧ Ended s₂ below o ∧ ∃ v L, o = .returned v ∧ Q_pt Z (3 : Int32) [(.int q0), (.int q1), (.int q2)] h0 n0 v s₂.heap L ∧ FrameEnd s o s₂ L ({ frames := 5, cells := 7, slots := 23, locals := 69 } : Room).cells ({ frames := 5, cells := 7, slots := 23, locals := 69 } : Room).slots := by
  have pre0 : ∀ t_, Sp p e below T0 (mkF m 62 #[.val (.ref ls), .val (.int ng), .val (.ref out), .val (.ref itr), .val (.ref y4)] []) t_ → Sp p e below T0 (mkF m 62 #[.val (.ref ls), .val (.int ng), .val (.ref out), .val (.ref itr), .val (.ref y4)] []) t_ := fun t_ k_ => k_
  obtain ⟨cqk1, kqk1, qk1a, qk1b, qk1c⟩ := isOf hZ e0 f0
  obtain ⟨_, _, ⟨Tk1, Lk1, kk1, nk1⟩, -, Xk1, ⟨Lck1, hQk1, lk1, yk1, zk1⟩, stk1⟩ := X0.interfaceBack hx (xi := Y28) (y := Y19) hown (mvT hZ (tw hw 76 rfl)) (mvT hZ (tw hw 77 rfl)) (mvT hZ (tw hw 78 rfl)) (mvT hZ (tw hw 79 rfl)) (mvT hZ (tw hw 80 rfl)) (mvT hZ (tw hw 81 rfl)) (mvT hZ (tw hw 82 rfl)) (mvT hZ (tw hw 83 rfl)) (by decide) (backOf (W := 0) (rm_size l Z a0 hw [] out (3 : Int32)  h0 n0 Z0 O0 f1) hZ (tw hw 84 rfl) (tw hw 2 rfl) (by decide) (by decide)) qk1a qk1b qk1c (g := (mkF m 63 #[.val (.ref ls), .val (.int ng), .val (.ref out), .val (.ref itr), .val (.ref y4)] [(.ref out)])) rfl (by rw [hml]; rfl) (Steps.refl _) (argsL := []) (rest := []) (lenOf pd___I rfl) rfl (by show 2 * 0 + _ ≤ _; exact Nat.le_of_eq rfl) (hb hby d6_63) (fun _ _ => ⟨rfl, e0, (by decide : 6 + 0 ≤ _), (by decide : 20 + 0 ≤ _)⟩)
  dsimp only [Pt.U, Pt.locs, Pt.cells, Pt.slots] at Xk1 lk1 yk1 zk1 stk1 hQk1
  subst lk1 yk1 zk1
  obtain ⟨rfl, Nk1q, ek1⟩ := hQk1
  have Nk1 := Fr.app N0 Nk1q
  obtain ⟨Ta2, ha2, ka2, Xa2, ea2, Ea2, Aa2, Ba2, sta2⟩ := newPE Xk1 hx hZ (tw hw 86 rfl) ek1 (g := (mkF m 68 #[.val (.ref ls), .val (.int ng), .val (.ref out), .val (.ref itr), .val (.ref y4)] [(.int (3 : Int32))])) rfl (hb hby d6_68) rfl (by decide) (cap := 3) (by decide) (by decide) (by decide) (by decide) (ad := "[I") (by decide)
  obtain ⟨ba2, ga2⟩ : ∃ z, z = h0.size := ⟨_, rfl⟩
  rw [← ga2] at Aa2 Ba2 sta2
  have g_ba2 : n0 ≤ ba2 := Nat.le_trans Z0 (Nat.le_of_eq ga2.symm)
  have y_ba2 : h0.size ≤ ba2 := Nat.le_trans (Nat.le_refl h0.size) (Nat.le_of_eq ga2.symm)
  have Va2 : Arv Z ha2 ba2 ka2 .int (3 : Int32) [(.int (0 : Int32)), (.int (0 : Int32)), (.int (0 : Int32))] (.int (0 : Int32)) := (Arv.new Aa2 (by decide)).pad (pad_rep [] (.int (0 : Int32)) 3)
  have K3 : Keep h0 ha2 [] := (Keep.refl h0 []).ext Ea2
  obtain ⟨clv4, Arv4, qv4, Sv4, Nv4, Hv4, Gv4⟩ := id Va2
  have F5 := (f0.keep K3)
  have F6 := (f1.keep K3 nin0)
  have F7 := (f2.keep K3 nin0)
  have F8 := (f3.keep K3 nin0)
  have Z9 : n0 ≤ ha2.size := (Nat.le_trans Z0 Ea2.1)
  have O10 : Old Z n0 ha2 := (O0.ext Ea2)
  obtain ⟨cqk11, kqk11, qk11a, qk11b, qk11c⟩ := isOf hZ ea2 F5
  obtain ⟨_, _, ⟨Tk11, Lk11, kk11, nk11⟩, -, Xk11, ⟨Lck11, hQk11, lk11, yk11, zk11⟩, stk11⟩ := Xa2.interfaceBack hx (xi := Y29) (y := Y24) hown (mvT hZ (tw hw 213 rfl)) (mvT hZ (tw hw 214 rfl)) (mvT hZ (tw hw 215 rfl)) (mvT hZ (tw hw 216 rfl)) (mvT hZ (tw hw 217 rfl)) (mvT hZ (tw hw 218 rfl)) (mvT hZ (tw hw 219 rfl)) (mvT hZ (tw hw 83 rfl)) (by decide) (backOf (W := 2) (rm_get l Z a0 hw [] out (0 : Int32) (3 : Int32) eo keo [(.ref r0), (.ref r1), (.ref r2), .null, .null, .null, .null, .null, .null, .null] r0  ha2 n0 Z9 O10 F5 F6 F7 F8 (by decide) (by decide) (by decide) rfl) hZ (tw hw 220 rfl) (tw hw 2 rfl) (by decide) (by decide)) qk11a qk11b qk11c (g := (mkF m 87 #[.val (.ref ls), .val (.int ng), .val (.ref out), .val (.ref ba2), .val (.int (0 : Int32))] [(.int (0 : Int32)), (.ref out), (.int (0 : Int32)), (.ref ba2)])) rfl (by rw [hml]; rfl) (Steps.refl _) (argsL := [(.int (0 : Int32))]) (rest := [(.int (0 : Int32)), (.ref ba2)]) (lenOf pd__I_Ljava_lang_Object_ rfl) rfl (by show 2 * 0 + _ ≤ _; exact Nat.le_of_eq rfl) (hb hby d6_87) (fun _ _ => ⟨rfl, ea2, (by decide : 7 + 0 ≤ _), (by decide : 23 + 0 ≤ _)⟩)
  dsimp only [Pt.U, Pt.locs, Pt.cells, Pt.slots] at Xk11 lk11 yk11 zk11 stk11 hQk11
  subst lk11 yk11 zk11
  obtain ⟨rfl, Nk11q, ek11⟩ := hQk11
  have Nk11 := Fr.app Nk1 Nk11q
  have F13 := (f4.keep K3)
  obtain ⟨Tx12, Xx12, ex12, stx12⟩ := castY Xk11 hx hZ hown (tw hw 234 rfl) ek11 (Ins.self F13) (g := (mkF m 92 #[.val (.ref ls), .val (.int ng), .val (.ref out), .val (.ref ba2), .val (.int (0 : Int32))] [(.ref r0), (.int (0 : Int32)), (.ref ba2)])) rfl rfl (hb hby d6_92)
  have F14 := (f5.keep K3 nin0)
  obtain ⟨cqk15, kqk15, qk15a, qk15b, qk15c⟩ := isOf hZ ex12 F13
  obtain ⟨_, _, ⟨Tk15, Lk15, kk15, nk15⟩, -, Xk15, ⟨Lck15, hQk15, lk15, yk15, zk15⟩, stk15⟩ := Xx12.virtualBack hx (y := Y20) (z := Y20) hown (mvT hZ (tw hw 236 rfl)) (mvT hZ (tw hw 237 rfl)) (notFace_of_selects (args := #[]) (mvT hZ (tw hw 239 rfl))) (mvT hZ (tw hw 239 rfl)) (mvT hZ (tw hw 238 rfl)) (by decide) (backOf (W := 2) (rm_intval l Z a0 hw [] r0 q0  ha2 n0 Z9 O10 F14) hZ (tw hw 240 rfl) (tw hw 201 rfl) (by decide) (by decide)) qk15a qk15c (g := (mkF m 95 #[.val (.ref ls), .val (.int ng), .val (.ref out), .val (.ref ba2), .val (.int (0 : Int32))] [(.ref r0), (.int (0 : Int32)), (.ref ba2)])) rfl (by rw [hml]; rfl) (Steps.refl _) (argsL := []) (rest := [(.int (0 : Int32)), (.ref ba2)]) (lenOf pd___I rfl) rfl (by show 2 * 0 + _ ≤ _; exact Nat.le_of_eq rfl) (hb hby d6_95) (fun _ _ => ⟨rfl, ex12, (by decide : 7 + 0 ≤ _), (by decide : 23 + 0 ≤ _)⟩)
  dsimp only [Pt.U, Pt.locs, Pt.cells, Pt.slots] at Xk15 lk15 yk15 zk15 stk15 hQk15
  subst lk15 yk15 zk15
  obtain ⟨rfl, Nk15q, ek15⟩ := hQk15
  have Nk15 := Fr.app Nk11 Nk15q
  have in16 : ¬ ((0 : Int32) < 0 ∨ clv4.slots.size ≤ ((0 : Int32)).toNatClampNeg) := inb_of Sv4 ⟨by decide, by decide⟩
  obtain ⟨Tw17, hw17, Xw17, ew17, Ww17, stw17⟩ := stI Xk15 hx hZ ek15 Arv4 (j := (0 : Int32)) in16 (g := (mkF m 98 #[.val (.ref ls), .val (.int ng), .val (.ref out), .val (.ref ba2), .val (.int (0 : Int32))] [(.int q0), (.int (0 : Int32)), (.ref ba2)])) rfl rfl (hb hby d6_98)
  have Vw17 : Arv Z hw17 ba2 ka2 .int (3 : Int32) [(.int q0), (.int (0 : Int32)), (.int (0 : Int32))] (.int (0 : Int32)) := Arv.set Arv4 qv4 Sv4 Nv4 Hv4 Gv4 rfl Ww17 0 rfl (Nat.le_of_ble_eq_true rfl)
  have Nw17 := Fr.snoc Xw17 Nk15 g_ba2
  have K18 : Keep h0 hw17 [] := K3.wr Ww17 (Or.inr y_ba2)
  obtain ⟨clv19, Arv19, qv19, Sv19, Nv19, Hv19, Gv19⟩ := id Vw17
  have F20 := (F5.wr Ww17)
  have F22 := (Ba2.wr Ww17)
  have ne21 : out ≠ ba2 := ne_exa F20 F22 (by decide)
  have F23 := (F6.other Ww17 (Or.inl ne21))
  have F24 := (F7.other Ww17 (Or.inl ne21))
  have ne25 : eo ≠ ba2 := Nat.ne_of_lt (Nat.lt_of_lt_of_le f3.lt (Nat.le_of_eq ga2.symm))
  have F26 := (F8.other Ww17 ne25)
  have Z27 : n0 ≤ hw17.size := (Nat.le_trans Z9 (Keep.of_wr Ww17).1)
  have O28 : Old Z n0 hw17 := (O10.wr Ww17 g_ba2)
  obtain ⟨cqk29, kqk29, qk29a, qk29b, qk29c⟩ := isOf hZ ew17 F20
  obtain ⟨_, _, ⟨Tk29, Lk29, kk29, nk29⟩, -, Xk29, ⟨Lck29, hQk29, lk29, yk29, zk29⟩, stk29⟩ := Xw17.interfaceBack hx (xi := Y29) (y := Y24) hown (mvT hZ (tw hw 213 rfl)) (mvT hZ (tw hw 214 rfl)) (mvT hZ (tw hw 215 rfl)) (mvT hZ (tw hw 216 rfl)) (mvT hZ (tw hw 217 rfl)) (mvT hZ (tw hw 218 rfl)) (mvT hZ (tw hw 219 rfl)) (mvT hZ (tw hw 83 rfl)) (by decide) (backOf (W := 2) (rm_get l Z a0 hw [] out (1 : Int32) (3 : Int32) eo keo [(.ref r0), (.ref r1), (.ref r2), .null, .null, .null, .null, .null, .null, .null] r1  hw17 n0 Z27 O28 F20 F23 F24 F26 (by decide) (by decide) (by decide) rfl) hZ (tw hw 220 rfl) (tw hw 2 rfl) (by decide) (by decide)) qk29a qk29b qk29c (g := (mkF m 87 #[.val (.ref ls), .val (.int ng), .val (.ref out), .val (.ref ba2), .val (.int (1 : Int32))] [(.int (1 : Int32)), (.ref out), (.int (1 : Int32)), (.ref ba2)])) rfl (by rw [hml]; rfl) (Steps.refl _) (argsL := [(.int (1 : Int32))]) (rest := [(.int (1 : Int32)), (.ref ba2)]) (lenOf pd__I_Ljava_lang_Object_ rfl) rfl (by show 2 * 0 + _ ≤ _; exact Nat.le_of_eq rfl) (hb hby d6_87) (fun _ _ => ⟨rfl, ew17, (by decide : 7 + 0 ≤ _), (by decide : 23 + 0 ≤ _)⟩)
  dsimp only [Pt.U, Pt.locs, Pt.cells, Pt.slots] at Xk29 lk29 yk29 zk29 stk29 hQk29
  subst lk29 yk29 zk29
  obtain ⟨rfl, Nk29q, ek29⟩ := hQk29
  have Nk29 := Fr.app Nw17 Nk29q
  have F31 := (f6.keep K18)
  obtain ⟨Tx30, Xx30, ex30, stx30⟩ := castY Xk29 hx hZ hown (tw hw 234 rfl) ek29 (Ins.self F31) (g := (mkF m 92 #[.val (.ref ls), .val (.int ng), .val (.ref out), .val (.ref ba2), .val (.int (1 : Int32))] [(.ref r1), (.int (1 : Int32)), (.ref ba2)])) rfl rfl (hb hby d6_92)
  have F32 := (f7.keep K18 nin0)
  obtain ⟨cqk33, kqk33, qk33a, qk33b, qk33c⟩ := isOf hZ ex30 F31
  obtain ⟨_, _, ⟨Tk33, Lk33, kk33, nk33⟩, -, Xk33, ⟨Lck33, hQk33, lk33, yk33, zk33⟩, stk33⟩ := Xx30.virtualBack hx (y := Y20) (z := Y20) hown (mvT hZ (tw hw 236 rfl)) (mvT hZ (tw hw 237 rfl)) (notFace_of_selects (args := #[]) (mvT hZ (tw hw 239 rfl))) (mvT hZ (tw hw 239 rfl)) (mvT hZ (tw hw 238 rfl)) (by decide) (backOf (W := 2) (rm_intval l Z a0 hw [] r1 q1  hw17 n0 Z27 O28 F32) hZ (tw hw 240 rfl) (tw hw 201 rfl) (by decide) (by decide)) qk33a qk33c (g := (mkF m 95 #[.val (.ref ls), .val (.int ng), .val (.ref out), .val (.ref ba2), .val (.int (1 : Int32))] [(.ref r1), (.int (1 : Int32)), (.ref ba2)])) rfl (by rw [hml]; rfl) (Steps.refl _) (argsL := []) (rest := [(.int (1 : Int32)), (.ref ba2)]) (lenOf pd___I rfl) rfl (by show 2 * 0 + _ ≤ _; exact Nat.le_of_eq rfl) (hb hby d6_95) (fun _ _ => ⟨rfl, ex30, (by decide : 7 + 0 ≤ _), (by decide : 23 + 0 ≤ _)⟩)
  dsimp only [Pt.U, Pt.locs, Pt.cells, Pt.slots] at Xk33 lk33 yk33 zk33 stk33 hQk33
  subst lk33 yk33 zk33
  obtain ⟨rfl, Nk33q, ek33⟩ := hQk33
  have Nk33 := Fr.app Nk29 Nk33q
  have in34 : ¬ ((1 : Int32) < 0 ∨ clv19.slots.size ≤ ((1 : Int32)).toNatClampNeg) := inb_of Sv19 ⟨by decide, by decide⟩
  obtain ⟨Tw35, hw35, Xw35, ew35, Ww35, stw35⟩ := stI Xk33 hx hZ ek33 Arv19 (j := (1 : Int32)) in34 (g := (mkF m 98 #[.val (.ref ls), .val (.int ng), .val (.ref out), .val (.ref ba2), .val (.int (1 : Int32))] [(.int q1), (.int (1 : Int32)), (.ref ba2)])) rfl rfl (hb hby d6_98)
  have Vw35 : Arv Z hw35 ba2 ka2 .int (3 : Int32) [(.int q0), (.int q1), (.int (0 : Int32))] (.int (0 : Int32)) := Arv.set Arv19 qv19 Sv19 Nv19 Hv19 Gv19 rfl Ww35 1 rfl (Nat.le_of_ble_eq_true rfl)
  have Nw35 := Fr.snoc Xw35 Nk33 g_ba2
  have K36 : Keep h0 hw35 [] := K18.wr Ww35 (Or.inr y_ba2)
  obtain ⟨clv37, Arv37, qv37, Sv37, Nv37, Hv37, Gv37⟩ := id Vw35
  have F38 := (F20.wr Ww35)
  have F39 := (F23.other Ww35 (Or.inl ne21))
  have F40 := (F24.other Ww35 (Or.inl ne21))
  have F41 := (F26.other Ww35 ne25)
  have Z42 : n0 ≤ hw35.size := (Nat.le_trans Z27 (Keep.of_wr Ww35).1)
  have O43 : Old Z n0 hw35 := (O28.wr Ww35 g_ba2)
  obtain ⟨cqk44, kqk44, qk44a, qk44b, qk44c⟩ := isOf hZ ew35 F38
  obtain ⟨_, _, ⟨Tk44, Lk44, kk44, nk44⟩, -, Xk44, ⟨Lck44, hQk44, lk44, yk44, zk44⟩, stk44⟩ := Xw35.interfaceBack hx (xi := Y29) (y := Y24) hown (mvT hZ (tw hw 213 rfl)) (mvT hZ (tw hw 214 rfl)) (mvT hZ (tw hw 215 rfl)) (mvT hZ (tw hw 216 rfl)) (mvT hZ (tw hw 217 rfl)) (mvT hZ (tw hw 218 rfl)) (mvT hZ (tw hw 219 rfl)) (mvT hZ (tw hw 83 rfl)) (by decide) (backOf (W := 2) (rm_get l Z a0 hw [] out (2 : Int32) (3 : Int32) eo keo [(.ref r0), (.ref r1), (.ref r2), .null, .null, .null, .null, .null, .null, .null] r2  hw35 n0 Z42 O43 F38 F39 F40 F41 (by decide) (by decide) (by decide) rfl) hZ (tw hw 220 rfl) (tw hw 2 rfl) (by decide) (by decide)) qk44a qk44b qk44c (g := (mkF m 87 #[.val (.ref ls), .val (.int ng), .val (.ref out), .val (.ref ba2), .val (.int (2 : Int32))] [(.int (2 : Int32)), (.ref out), (.int (2 : Int32)), (.ref ba2)])) rfl (by rw [hml]; rfl) (Steps.refl _) (argsL := [(.int (2 : Int32))]) (rest := [(.int (2 : Int32)), (.ref ba2)]) (lenOf pd__I_Ljava_lang_Object_ rfl) rfl (by show 2 * 0 + _ ≤ _; exact Nat.le_of_eq rfl) (hb hby d6_87) (fun _ _ => ⟨rfl, ew35, (by decide : 7 + 0 ≤ _), (by decide : 23 + 0 ≤ _)⟩)
  dsimp only [Pt.U, Pt.locs, Pt.cells, Pt.slots] at Xk44 lk44 yk44 zk44 stk44 hQk44
  subst lk44 yk44 zk44
  obtain ⟨rfl, Nk44q, ek44⟩ := hQk44
  have Nk44 := Fr.app Nw35 Nk44q
  have F46 := (f8.keep K36)
  obtain ⟨Tx45, Xx45, ex45, stx45⟩ := castY Xk44 hx hZ hown (tw hw 234 rfl) ek44 (Ins.self F46) (g := (mkF m 92 #[.val (.ref ls), .val (.int ng), .val (.ref out), .val (.ref ba2), .val (.int (2 : Int32))] [(.ref r2), (.int (2 : Int32)), (.ref ba2)])) rfl rfl (hb hby d6_92)
  have F47 := (f9.keep K36 nin0)
  obtain ⟨cqk48, kqk48, qk48a, qk48b, qk48c⟩ := isOf hZ ex45 F46
  obtain ⟨_, _, ⟨Tk48, Lk48, kk48, nk48⟩, -, Xk48, ⟨Lck48, hQk48, lk48, yk48, zk48⟩, stk48⟩ := Xx45.virtualBack hx (y := Y20) (z := Y20) hown (mvT hZ (tw hw 236 rfl)) (mvT hZ (tw hw 237 rfl)) (notFace_of_selects (args := #[]) (mvT hZ (tw hw 239 rfl))) (mvT hZ (tw hw 239 rfl)) (mvT hZ (tw hw 238 rfl)) (by decide) (backOf (W := 2) (rm_intval l Z a0 hw [] r2 q2  hw35 n0 Z42 O43 F47) hZ (tw hw 240 rfl) (tw hw 201 rfl) (by decide) (by decide)) qk48a qk48c (g := (mkF m 95 #[.val (.ref ls), .val (.int ng), .val (.ref out), .val (.ref ba2), .val (.int (2 : Int32))] [(.ref r2), (.int (2 : Int32)), (.ref ba2)])) rfl (by rw [hml]; rfl) (Steps.refl _) (argsL := []) (rest := [(.int (2 : Int32)), (.ref ba2)]) (lenOf pd___I rfl) rfl (by show 2 * 0 + _ ≤ _; exact Nat.le_of_eq rfl) (hb hby d6_95) (fun _ _ => ⟨rfl, ex45, (by decide : 7 + 0 ≤ _), (by decide : 23 + 0 ≤ _)⟩)
  dsimp only [Pt.U, Pt.locs, Pt.cells, Pt.slots] at Xk48 lk48 yk48 zk48 stk48 hQk48
  subst lk48 yk48 zk48
  obtain ⟨rfl, Nk48q, ek48⟩ := hQk48
  have Nk48 := Fr.app Nk44 Nk48q
  have in49 : ¬ ((2 : Int32) < 0 ∨ clv37.slots.size ≤ ((2 : Int32)).toNatClampNeg) := inb_of Sv37 ⟨by decide, by decide⟩
  obtain ⟨Tw50, hw50, Xw50, ew50, Ww50, stw50⟩ := stI Xk48 hx hZ ek48 Arv37 (j := (2 : Int32)) in49 (g := (mkF m 98 #[.val (.ref ls), .val (.int ng), .val (.ref out), .val (.ref ba2), .val (.int (2 : Int32))] [(.int q2), (.int (2 : Int32)), (.ref ba2)])) rfl rfl (hb hby d6_98)
  have Vw50 : Arv Z hw50 ba2 ka2 .int (3 : Int32) [(.int q0), (.int q1), (.int q2)] (.int (0 : Int32)) := Arv.set Arv37 qv37 Sv37 Nv37 Hv37 Gv37 rfl Ww50 2 rfl (Nat.le_of_ble_eq_true rfl)
  have Nw50 := Fr.snoc Xw50 Nk48 g_ba2
  have K51 : Keep h0 hw50 [] := K36.wr Ww50 (Or.inr y_ba2)
  obtain ⟨clv52, Arv52, qv52, Sv52, Nv52, Hv52, Gv52⟩ := id Vw50
  have F53 := ((F22.wr Ww35).wr Ww50)
  obtain ⟨fs, hlv, hrun, hended, hW, hsame⟩ := Xw50.leave (v := some (.ref ba2)) (fun h => by rw [hret] at h; cases h)
  refine ⟨_, _, pre0 _ ?_, hrun, hended, _, _, rfl, ?_, ⟨_, rfl⟩, hW, hsame.mono (by decide) (by decide)⟩
  · refine XS.aloadN X0.here hx rfl (hb hby d6_62) rfl rfl ?_
    show Sp p e below T0 (mkF m 63 #[.val (.ref ls), .val (.int ng), .val (.ref out), .val (.ref itr), .val (.ref y4)] [(.ref out)]) _
    refine stk1.trans ?_
    refine sta2 _ ?_
    refine XS.astoreN Xa2.here hx rfl (hb hby d6_70) rfl rfl (l' := #[.val (.ref ls), .val (.int ng), .val (.ref out), .val (.ref ba2), .val (.ref y4)]) rfl ?_
    refine XS.iconst Xa2.here hx rfl (hb hby d6_71) ?_
    refine XS.istore Xa2.here hx rfl (hb hby d6_72) rfl (l' := #[.val (.ref ls), .val (.int ng), .val (.ref out), .val (.ref ba2), .val (.int (0 : Int32))]) rfl ?_
    refine XS.iload Xa2.here hx rfl (hb hby d6_74) rfl ?_
    refine XS.aloadN Xa2.here hx rfl (hb hby d6_76) rfl rfl ?_
    show Sp p e below Ta2 (mkF m 77 #[.val (.ref ls), .val (.int ng), .val (.ref out), .val (.ref ba2), .val (.int (0 : Int32))] [(.ref ba2), (.int (0 : Int32))]) _
    refine Xa2.arraylength hx (own_eq ea2 Arv4.1) (State.isArrayOf_alike hZ.alike Arv4.2.1) (g := (mkF m 77 #[.val (.ref ls), .val (.int ng), .val (.ref out), .val (.ref ba2), .val (.int (0 : Int32))] [(.ref ba2), (.int (0 : Int32))])) rfl rfl (hb hby d6_77) _ ?_
    rw [len_of Sv4 Nv4]
    show Sp p e below Ta2 (mkF m 78 #[.val (.ref ls), .val (.int ng), .val (.ref out), .val (.ref ba2), .val (.int (0 : Int32))] [(.int (3 : Int32)), (.int (0 : Int32))]) _
    refine XS.icmpNo Xa2.here hx rfl (hb hby d6_78) rfl (tlt (by decide : (0 : Int32) < (3 : Int32))).2.1 ?_
    refine XS.aloadN Xa2.here hx rfl (hb hby d6_81) rfl rfl ?_
    refine XS.iload Xa2.here hx rfl (hb hby d6_82) rfl ?_
    refine XS.aloadN Xa2.here hx rfl (hb hby d6_84) rfl rfl ?_
    refine XS.iload Xa2.here hx rfl (hb hby d6_85) rfl ?_
    refine stk11.trans ?_
    refine stx12 _ ?_
    refine stk15.trans ?_
    refine stw17 _ ?_
    refine XS.iinc Xw17.here hx rfl (hb hby d6_99) rfl (l' := #[.val (.ref ls), .val (.int ng), .val (.ref out), .val (.ref ba2), .val (.int (1 : Int32))]) rfl ?_
    refine XS.goto Xw17.here hx rfl (pc0 := 102) (pc' := 74) rfl (hb hby d6_102) (by decide) (by decide) ?_
    refine XS.iload Xw17.here hx rfl (hb hby d6_74) rfl ?_
    refine XS.aloadN Xw17.here hx rfl (hb hby d6_76) rfl rfl ?_
    show Sp p e below Tw17 (mkF m 77 #[.val (.ref ls), .val (.int ng), .val (.ref out), .val (.ref ba2), .val (.int (1 : Int32))] [(.ref ba2), (.int (1 : Int32))]) _
    refine Xw17.arraylength hx (own_eq ew17 Arv19.1) (State.isArrayOf_alike hZ.alike Arv19.2.1) (g := (mkF m 77 #[.val (.ref ls), .val (.int ng), .val (.ref out), .val (.ref ba2), .val (.int (1 : Int32))] [(.ref ba2), (.int (1 : Int32))])) rfl rfl (hb hby d6_77) _ ?_
    rw [len_of Sv19 Nv19]
    show Sp p e below Tw17 (mkF m 78 #[.val (.ref ls), .val (.int ng), .val (.ref out), .val (.ref ba2), .val (.int (1 : Int32))] [(.int (3 : Int32)), (.int (1 : Int32))]) _
    refine XS.icmpNo Xw17.here hx rfl (hb hby d6_78) rfl (tlt (by decide : (1 : Int32) < (3 : Int32))).2.1 ?_
    refine XS.aloadN Xw17.here hx rfl (hb hby d6_81) rfl rfl ?_
    refine XS.iload Xw17.here hx rfl (hb hby d6_82) rfl ?_
    refine XS.aloadN Xw17.here hx rfl (hb hby d6_84) rfl rfl ?_
    refine XS.iload Xw17.here hx rfl (hb hby d6_85) rfl ?_
    refine stk29.trans ?_
    refine stx30 _ ?_
    refine stk33.trans ?_
    refine stw35 _ ?_
    refine XS.iinc Xw35.here hx rfl (hb hby d6_99) rfl (l' := #[.val (.ref ls), .val (.int ng), .val (.ref out), .val (.ref ba2), .val (.int (2 : Int32))]) rfl ?_
    refine XS.goto Xw35.here hx rfl (pc0 := 102) (pc' := 74) rfl (hb hby d6_102) (by decide) (by decide) ?_
    refine XS.iload Xw35.here hx rfl (hb hby d6_74) rfl ?_
    refine XS.aloadN Xw35.here hx rfl (hb hby d6_76) rfl rfl ?_
    show Sp p e below Tw35 (mkF m 77 #[.val (.ref ls), .val (.int ng), .val (.ref out), .val (.ref ba2), .val (.int (2 : Int32))] [(.ref ba2), (.int (2 : Int32))]) _
    refine Xw35.arraylength hx (own_eq ew35 Arv37.1) (State.isArrayOf_alike hZ.alike Arv37.2.1) (g := (mkF m 77 #[.val (.ref ls), .val (.int ng), .val (.ref out), .val (.ref ba2), .val (.int (2 : Int32))] [(.ref ba2), (.int (2 : Int32))])) rfl rfl (hb hby d6_77) _ ?_
    rw [len_of Sv37 Nv37]
    show Sp p e below Tw35 (mkF m 78 #[.val (.ref ls), .val (.int ng), .val (.ref out), .val (.ref ba2), .val (.int (2 : Int32))] [(.int (3 : Int32)), (.int (2 : Int32))]) _
    refine XS.icmpNo Xw35.here hx rfl (hb hby d6_78) rfl (tlt (by decide : (2 : Int32) < (3 : Int32))).2.1 ?_
    refine XS.aloadN Xw35.here hx rfl (hb hby d6_81) rfl rfl ?_
    refine XS.iload Xw35.here hx rfl (hb hby d6_82) rfl ?_
    refine XS.aloadN Xw35.here hx rfl (hb hby d6_84) rfl rfl ?_
    refine XS.iload Xw35.here hx rfl (hb hby d6_85) rfl ?_
    refine stk44.trans ?_
    refine stx45 _ ?_
    refine stk48.trans ?_
    refine stw50 _ ?_
    refine XS.iinc Xw50.here hx rfl (hb hby d6_99) rfl (l' := #[.val (.ref ls), .val (.int ng), .val (.ref out), .val (.ref ba2), .val (.int (3 : Int32))]) rfl ?_
    refine XS.goto Xw50.here hx rfl (pc0 := 102) (pc' := 74) rfl (hb hby d6_102) (by decide) (by decide) ?_
    refine XS.iload Xw50.here hx rfl (hb hby d6_74) rfl ?_
    refine XS.aloadN Xw50.here hx rfl (hb hby d6_76) rfl rfl ?_
    show Sp p e below Tw50 (mkF m 77 #[.val (.ref ls), .val (.int ng), .val (.ref out), .val (.ref ba2), .val (.int (3 : Int32))] [(.ref ba2), (.int (3 : Int32))]) _
    refine Xw50.arraylength hx (own_eq ew50 Arv52.1) (State.isArrayOf_alike hZ.alike Arv52.2.1) (g := (mkF m 77 #[.val (.ref ls), .val (.int ng), .val (.ref out), .val (.ref ba2), .val (.int (3 : Int32))] [(.ref ba2), (.int (3 : Int32))])) rfl rfl (hb hby d6_77) _ ?_
    rw [len_of Sv52 Nv52]
    show Sp p e below Tw50 (mkF m 78 #[.val (.ref ls), .val (.int ng), .val (.ref out), .val (.ref ba2), .val (.int (3 : Int32))] [(.int (3 : Int32)), (.int (3 : Int32))]) _
    refine XS.icmpYes Xw50.here hx rfl (pc0 := 78) (pc' := 105) rfl (hb hby d6_78) rfl (flt (by decide : ¬ ((3 : Int32) < (3 : Int32)))).2.1 (by decide) (by decide) ?_
    refine XS.aloadN Xw50.here hx rfl (hb hby d6_105) rfl rfl ?_
    show Sp p e below Tw50 (mkF m 106 #[.val (.ref ls), .val (.int ng), .val (.ref out), .val (.ref ba2), .val (.int (3 : Int32))] [(.ref ba2)]) _
    jvm_step Xw50.here [Xw50.here.top, hx, (hb hby d6_106), Xw50.method', hret, Value.isRef, FieldType.isReference]
    first | (intro acts; rw [hlv _ acts rfl rfl rfl]) | rw [hlv _ _ rfl rfl rfl]
    exact Steps.refl _
  · show Q_pt Z (3 : Int32) [(.int q0), (.int q1), (.int q2)] h0 n0 _ Tw50.heap _
    rw [ew50]
    exact ⟨ba2, ka2, rfl, Nw50, K51, y_ba2, F53, Vw50⟩
theorem pn_10 : plainName "com/example/lassoo/lassoo/lang/BuchiAutomaton$Transition" = true := by first | (simp [plainName, overriddenIn]; done) | decide +kernel
theorem ef_6_RI (m : MethodId) (x0 : Addr) (x1 : Int32) : entryFrame m #[(.ref x0), (.int x1)] 5 = mkF m 0 #[.val (.ref x0), .val (.int x1), .unset, .unset, .unset] [] := by first | (simp [entryFrame, mkF, argsToLocals, Value.category]; done) | rfl
theorem pd___Ljava_util_Iterator_ : parseMethodDescriptor "()Ljava/util/Iterator;" = some ⟨[], some (.object "java/util/Iterator")⟩ := by decide +kernel
theorem pd___Z : parseMethodDescriptor "()Z" = some ⟨[], some .boolean⟩ := by decide +kernel
def Q_props0 (Z : State) (ls : Addr) (mc : Int32) (ng : Int32) (z : Int32) (vs : List Value) (aD : Addr) (kD : ClassId) (aL : Addr) (aC : Addr) (h0 : Heap) (n0 : Nat) (v : Option Value) (h : Heap) (L : List Loc) : Prop := ∃ b : Addr, ∃ kb : ClassId, v = some (.ref b) ∧ Fr n0 L ∧ Keep h0 h [] ∧ h0.size ≤ b ∧ Exa Z h b "[I" ∧ Arv Z h b kb .int z vs (.int (0 : Int32))
set_option maxRecDepth 65536 in
set_option maxHeartbeats 40000000 in
theorem rm_props0 (l : Launch) (Z : State) (a0 : Array Value) (hw : ∀ d ∈ tables_1, d.before a0 Z = true) (ws : List Jvm.Cond) (ls : Addr) (mc : Int32) (ng : Int32) (z : Int32) (vs : List Value) (aD : Addr) (kD : ClassId) (aL : Addr) (aC : Addr) (h0 : Heap) (n0 : Nat) (Z0 : n0 ≤ h0.size) (O0 : Old Z n0 h0) (f0 : Exa Z h0 ls S1) (f1 : Fld Z h0 ls S1 "elementData" S2 (.ref aD)) (f2 : Fld Z h0 ls S1 "size" "I" (.int (0 : Int32))) (f3 : Fld Z h0 ls S5 "modCount" "I" (.int mc)) (SS : own_start Z aD kD aL aC) (hvs : vs = []) (hz : z = Int32.ofNat vs.length) :
    MetFree l Y30 (head1 (Jvm.Cond.code Y30 prog_25_method_2_code 5 (some (.array .int)) :: ws) ({ frames := 5, cells := 7, slots := 23, locals := 69 } : Room)) (fun A_ U => A_ = #[(.ref ls), (.int ng)] ∧ Z.Warmed39 U.vm ∧ U.heap = h0) (fun _ _ _ _ _ => True) (fun _ U o_ U' => ∃ v_ L_, o_ = .returned v_ ∧ Q_props0 Z ls mc ng z vs aD kD aL aC h0 n0 v_ U'.heap L_ ∧ FrameEnd U o_ U' L_ ({ frames := 5, cells := 7, slots := 23, locals := 69 } : Room).cells ({ frames := 5, cells := 7, slots := 23, locals := 69 } : Room).slots) := by
  refine MetFree.of_bodySF (plainFor_of_name pn_10) hisR ?_
  intro p e s m args below meth c s₁ Bd hml0 hP hK
  obtain ⟨rfl, hZ, hh⟩ := hP
  have hx := Bd.exec
  have hby := Bd.bytes
  have hml : c.maxLocals = 5 := hml0
  have hown : s.vm.findClass S8 = some m.cls := findClass_of_methodNamed Bd.named
  have hnm := (name_of_methodNamed Bd.named Bd.method).1
  have hret := Bd.returns
  have X0 : Stand p l e ({ frames := 5, cells := 7, slots := 23, locals := 69 } : Room) s m #[(.ref ls), (.int ng)] below meth c s₁ [] 0 0 := Stand.of_body Bd
  have e0 : s₁.heap = h0 := by rw [← hh, Bd.state]; rfl
  have N0 := Fr.nil n0
  have pre0 : ∀ t_, Sp p e below s₁ (mkF m 0 #[.val (.ref ls), .val (.int ng), .unset, .unset, .unset] []) t_ → Sp p e below s₁ (entryFrame m #[(.ref ls), (.int ng)] 5) t_ := fun t_ k_ => castTop (ef_6_RI m ls ng) k_
  obtain ⟨S_DEF, V_DEF, S_LIT, E_LIT, O_LIT, S_HI, S_CA, C_CA⟩ := SS
  obtain ⟨To1, ho1, Xo1, eo1, Eo1, Ao1, Do1, -, sto1⟩ := newO X0 hx hZ hown (tw hw 36 rfl) (tw hw 1 rfl) (tw hw 2 rfl) e0 (g := (mkF m 0 #[.val (.ref ls), .val (.int ng), .unset, .unset, .unset] [])) rfl (hb hby d6_0) (by decide) (by decide)
  obtain ⟨bo1, go1⟩ : ∃ z, z = h0.size := ⟨_, rfl⟩
  rw [← go1] at Ao1 Do1 sto1
  have g_bo1 : n0 ≤ bo1 := Nat.le_trans Z0 (Nat.le_of_eq go1.symm)
  have y_bo1 : h0.size ≤ bo1 := Nat.le_trans (Nat.le_refl h0.size) (Nat.le_of_eq go1.symm)
  have K2 : Keep h0 ho1 [] := (Keep.refl h0 []).ext Eo1
  have Fo1_modCount : Fld Z ho1 bo1 S5 "modCount" "I" (.int (0 : Int32)) := Do1 (Or.inl (tw hw 22 rfl)) (ty := .int) (by decide)
  have Fo1_elementData : Fld Z ho1 bo1 S1 "elementData" S2 .null := Do1 (Or.inl (tw hw 25 rfl)) (ty := (.array (.object S3))) (by decide)
  have Fo1_size : Fld Z ho1 bo1 S1 "size" "I" (.int (0 : Int32)) := Do1 (Or.inl (tw hw 75 rfl)) (ty := .int) (by decide)
  have Z3 : n0 ≤ ho1.size := (Nat.le_trans Z0 Eo1.1)
  have O4 : Old Z n0 ho1 := (O0.ext Eo1)
  obtain ⟨_, _, ⟨Tk5, Lk5, kk5, nk5⟩, -, Xk5, ⟨Lck5, hQk5, lk5, yk5, zk5⟩, stk5⟩ := Xo1.specialBack hx (y := Y2) rfl hown (mvT hZ (tw hw 37 rfl)) (mvT hZ (tw hw 4 rfl)) (mvT hZ (tw hw 5 rfl)) (by decide) (backOf (W := 1) (rm_alinit l Z a0 hw [] bo1 aD kD aL aC ho1 n0 Z3 O4 Ao1 Fo1_elementData Fo1_size Fo1_modCount ⟨S_DEF, V_DEF, S_LIT, E_LIT, O_LIT, S_HI, S_CA, C_CA⟩ g_bo1) hZ (tw hw 5 rfl) (tw hw 2 rfl) (by decide) (by decide)) (g := (mkF m 4 #[.val (.ref ls), .val (.int ng), .unset, .unset, .unset] [(.ref bo1), (.ref bo1)])) rfl (by rw [hml]; rfl) (Steps.refl _) (a := bo1) (argsL := []) (rest := [(.ref bo1)]) (lenOf pd___V rfl) rfl (by show 2 * 0 + _ ≤ _; exact Nat.le_of_eq rfl) (hb hby d6_4) (fun _ _ => ⟨rfl, eo1, (by decide : 1 + 0 ≤ _), (by decide : 3 + 0 ≤ _)⟩)
  dsimp only [Pt.U, Pt.locs, Pt.cells, Pt.slots] at Xk5 lk5 yk5 zk5 stk5 hQk5
  subst lk5 yk5 zk5
  obtain ⟨rfl, Nk5q, Kk5q, Qk5_0, Qk5_1, Qk5_2⟩ := hQk5
  have K6 : Keep h0 Tk5.heap [] := K2.trans Kk5q (allS (P := fun x => x ∈ ([] : List Addr) ∨ h0.size ≤ x) (Or.inr y_bo1) all0)
  have Nk5 := Fr.app N0 Nk5q
  have F7 := (f0.keep K6)
  have F8 := (f3.keep K6 nin0)
  have Z9 : n0 ≤ Tk5.heap.size := (Nat.le_trans Z3 Kk5q.1)
  have O10 : Old Z n0 Tk5.heap := (O4.keep Kk5q (allS g_bo1 all0))
  obtain ⟨cqk11, kqk11, qk11a, qk11b, qk11c⟩ := isOf hZ rfl F7
  obtain ⟨_, _, ⟨Tk11, Lk11, kk11, nk11⟩, -, Xk11, ⟨Lck11, hQk11, lk11, yk11, zk11⟩, stk11⟩ := Xk5.interfaceBack hx (xi := Y31) (y := Y13) hown (mvT hZ (tw hw 38 rfl)) (mvT hZ (tw hw 39 rfl)) (mvT hZ (tw hw 40 rfl)) (mvT hZ (tw hw 41 rfl)) (mvT hZ (tw hw 42 rfl)) (mvT hZ (tw hw 43 rfl)) (mvT hZ (tw hw 44 rfl)) (mvT hZ (tw hw 45 rfl)) (by decide) (backOf (W := 0) (rm_iterator l Z a0 hw [] ls mc  Tk5.heap n0 Z9 O10 F7 F8) hZ (tw hw 46 rfl) (tw hw 2 rfl) (by decide) (by decide)) qk11a qk11b qk11c (g := (mkF m 9 #[.val (.ref ls), .val (.int ng), .val (.ref bo1), .unset, .unset] [(.ref ls)])) rfl (by rw [hml]; rfl) (Steps.refl _) (argsL := []) (rest := []) (lenOf pd___Ljava_util_Iterator_ rfl) rfl (by show 2 * 0 + _ ≤ _; exact Nat.le_of_eq rfl) (hb hby d6_9) (fun _ _ => ⟨rfl, rfl, (by decide : 1 + 1 ≤ _), (by decide : 3 + 4 ≤ _)⟩)
  dsimp only [Pt.U, Pt.locs, Pt.cells, Pt.slots] at Xk11 lk11 yk11 zk11 stk11 hQk11
  subst lk11 yk11 zk11
  obtain ⟨ik11, rfl, Nk11q, Kk11q, Gk11_0, Qk11_0, Qk11_1, Qk11_2, Qk11_3, Qk11_4⟩ := hQk11
  have Y12 : h0.size ≤ Tk5.heap.size := (Nat.le_trans (Nat.le_trans (Nat.le_refl h0.size) Eo1.1) Kk5q.1)
  have g_ik11 : n0 ≤ ik11 := Nat.le_trans Z9 Gk11_0
  have y_ik11 : h0.size ≤ ik11 := Nat.le_trans Y12 Gk11_0
  have K13 : Keep h0 Tk11.heap [] := K6.trans Kk11q all0
  have Nk11 := Fr.app Nk5 Nk11q
  have F14 := (f2.keep K13 nin0)
  have Z15 : n0 ≤ Tk11.heap.size := (Nat.le_trans Z9 Kk11q.1)
  have O16 : Old Z n0 Tk11.heap := (O10.keep Kk11q all0)
  obtain ⟨cqk17, kqk17, qk17a, qk17b, qk17c⟩ := isOf hZ rfl Qk11_0
  obtain ⟨_, _, ⟨Tk17, Lk17, kk17, nk17⟩, -, Xk17, ⟨Lck17, hQk17, lk17, yk17, zk17⟩, stk17⟩ := Xk11.interfaceBack hx (xi := Y32) (y := Y14) hown (mvT hZ (tw hw 63 rfl)) (mvT hZ (tw hw 64 rfl)) (mvT hZ (tw hw 65 rfl)) (mvT hZ (tw hw 66 rfl)) (mvT hZ (tw hw 67 rfl)) (mvT hZ (tw hw 68 rfl)) (mvT hZ (tw hw 69 rfl)) (mvT hZ (tw hw 70 rfl)) (by decide) (backOf (W := 0) (rm_hasnext l Z a0 hw [] ik11 ls (0 : Int32) (0 : Int32) (0 : Int32)  Tk11.heap n0 Z15 O16 Qk11_2 Qk11_1 F14 (by decide)) hZ (tw hw 71 rfl) (tw hw 49 rfl) (by decide) (by decide)) qk17a qk17b qk17c (g := (mkF m 16 #[.val (.ref ls), .val (.int ng), .val (.ref bo1), .val (.ref ik11), .unset] [(.ref ik11)])) rfl (by rw [hml]; rfl) (Steps.refl _) (argsL := []) (rest := []) (lenOf pd___Z rfl) rfl (by show 2 * 0 + _ ≤ _; exact Nat.le_of_eq rfl) (hb hby d6_16) (fun _ _ => ⟨rfl, rfl, (by decide : 2 + 0 ≤ _), (by decide : 7 + 0 ≤ _)⟩)
  dsimp only [Pt.U, Pt.locs, Pt.cells, Pt.slots] at Xk17 lk17 yk17 zk17 stk17 hQk17
  subst lk17 yk17 zk17
  obtain ⟨rfl, Nk17q, ek17⟩ := hQk17
  have Nk17 := Fr.app Nk11 Nk17q
  have F18 := (Qk5_1.keep Kk11q nin0)
  have F20 := ((Ao1.keep Kk5q).keep Kk11q)
  obtain ⟨cqk19, kqk19, qk19a, qk19b, qk19c⟩ := isOf hZ ek17 F20
  obtain ⟨_, _, ⟨Tk19, Lk19, kk19, nk19⟩, -, Xk19, ⟨Lck19, hQk19, lk19, yk19, zk19⟩, stk19⟩ := Xk17.interfaceBack hx (xi := Y28) (y := Y19) hown (mvT hZ (tw hw 76 rfl)) (mvT hZ (tw hw 77 rfl)) (mvT hZ (tw hw 78 rfl)) (mvT hZ (tw hw 79 rfl)) (mvT hZ (tw hw 80 rfl)) (mvT hZ (tw hw 81 rfl)) (mvT hZ (tw hw 82 rfl)) (mvT hZ (tw hw 83 rfl)) (by decide) (backOf (W := 0) (rm_size l Z a0 hw [] bo1 (0 : Int32)  Tk11.heap n0 Z15 O16 F18) hZ (tw hw 84 rfl) (tw hw 2 rfl) (by decide) (by decide)) qk19a qk19b qk19c (g := (mkF m 63 #[.val (.ref ls), .val (.int ng), .val (.ref bo1), .val (.ref ik11), .unset] [(.ref bo1)])) rfl (by rw [hml]; rfl) (Steps.refl _) (argsL := []) (rest := []) (lenOf pd___I rfl) rfl (by show 2 * 0 + _ ≤ _; exact Nat.le_of_eq rfl) (hb hby d6_63) (fun _ _ => ⟨rfl, ek17, (by decide : 2 + 0 ≤ _), (by decide : 7 + 0 ≤ _)⟩)
  dsimp only [Pt.U, Pt.locs, Pt.cells, Pt.slots] at Xk19 lk19 yk19 zk19 stk19 hQk19
  subst lk19 yk19 zk19
  obtain ⟨rfl, Nk19q, ek19⟩ := hQk19
  have Nk19 := Fr.app Nk17 Nk19q
  obtain ⟨Ta21, ha21, ka21, Xa21, ea21, Ea21, Aa21, Ba21, sta21⟩ := newPE Xk19 hx hZ (tw hw 86 rfl) ek19 (g := (mkF m 68 #[.val (.ref ls), .val (.int ng), .val (.ref bo1), .val (.ref ik11), .unset] [(.int (0 : Int32))])) rfl (hb hby d6_68) rfl (by decide) (cap := 0) (by decide) (by decide) (by decide) (by decide) (ad := "[I") (by decide)
  obtain ⟨ba21, ga21⟩ : ∃ z, z = Tk11.heap.size := ⟨_, rfl⟩
  rw [← ga21] at Aa21 Ba21 sta21
  have Y22 : h0.size ≤ Tk11.heap.size := (Nat.le_trans Y12 Kk11q.1)
  have g_ba21 : n0 ≤ ba21 := Nat.le_trans Z15 (Nat.le_of_eq ga21.symm)
  have y_ba21 : h0.size ≤ ba21 := Nat.le_trans Y22 (Nat.le_of_eq ga21.symm)
  have Va21 : Arv Z ha21 ba21 ka21 .int (0 : Int32) [] (.int (0 : Int32)) := (Arv.new Aa21 (by decide)).pad (pad_rep [] (.int (0 : Int32)) 0)
  have K23 : Keep h0 ha21 [] := K13.ext Ea21
  obtain ⟨clv24, Arv24, qv24, Sv24, Nv24, Hv24, Gv24⟩ := id Va21
  have hvs1 : vs = [] := by rw [hvs]; first | done | simp [own_f]
  have hz1 : z = (0 : Int32) := by rw [hz, hvs1]; first | done | rfl
  have Vq : Arv Z ha21 ba21 ka21 .int z vs (.int (0 : Int32)) := by rw [hz1, hvs1]; exact Va21
  obtain ⟨fs, hlv, hrun, hended, hW, hsame⟩ := Xa21.leave (v := some (.ref ba21)) (fun h => by rw [hret] at h; cases h)
  refine ⟨_, _, pre0 _ ?_, hrun, hended, _, _, rfl, ?_, ⟨_, rfl⟩, hW, hsame.mono (by decide) (by decide)⟩
  · refine sto1 _ ?_
    show Sp p e below To1 (mkF m 3 #[.val (.ref ls), .val (.int ng), .unset, .unset, .unset] [(.ref bo1)]) _
    refine XS.dup Xo1.here hx rfl (hb hby d6_3) rfl rfl ?_
    refine stk5.trans ?_
    refine XS.astoreN Xk5.here hx rfl (hb hby d6_7) rfl rfl (l' := #[.val (.ref ls), .val (.int ng), .val (.ref bo1), .unset, .unset]) rfl ?_
    refine XS.aloadN Xk5.here hx rfl (hb hby d6_8) rfl rfl ?_
    refine stk11.trans ?_
    refine XS.astoreN Xk11.here hx rfl (hb hby d6_14) rfl rfl (l' := #[.val (.ref ls), .val (.int ng), .val (.ref bo1), .val (.ref ik11), .unset]) rfl ?_
    refine XS.aloadN Xk11.here hx rfl (hb hby d6_15) rfl rfl ?_
    refine stk17.trans ?_
    refine XS.ifYes Xk17.here hx rfl (pc0 := 21) (pc' := 62) rfl (hb hby d6_21) rfl ((if0 _ _).trans (teq (by decide : (0 : Int32) = (0 : Int32))).1) (by decide) (by decide) ?_
    refine XS.aloadN Xk17.here hx rfl (hb hby d6_62) rfl rfl ?_
    refine stk19.trans ?_
    refine sta21 _ ?_
    refine XS.astoreN Xa21.here hx rfl (hb hby d6_70) rfl rfl (l' := #[.val (.ref ls), .val (.int ng), .val (.ref bo1), .val (.ref ba21), .unset]) rfl ?_
    refine XS.iconst Xa21.here hx rfl (hb hby d6_71) ?_
    refine XS.istore Xa21.here hx rfl (hb hby d6_72) rfl (l' := #[.val (.ref ls), .val (.int ng), .val (.ref bo1), .val (.ref ba21), .val (.int (0 : Int32))]) rfl ?_
    refine XS.iload Xa21.here hx rfl (hb hby d6_74) rfl ?_
    refine XS.aloadN Xa21.here hx rfl (hb hby d6_76) rfl rfl ?_
    show Sp p e below Ta21 (mkF m 77 #[.val (.ref ls), .val (.int ng), .val (.ref bo1), .val (.ref ba21), .val (.int (0 : Int32))] [(.ref ba21), (.int (0 : Int32))]) _
    refine Xa21.arraylength hx (own_eq ea21 Arv24.1) (State.isArrayOf_alike hZ.alike Arv24.2.1) (g := (mkF m 77 #[.val (.ref ls), .val (.int ng), .val (.ref bo1), .val (.ref ba21), .val (.int (0 : Int32))] [(.ref ba21), (.int (0 : Int32))])) rfl rfl (hb hby d6_77) _ ?_
    rw [len_of Sv24 Nv24]
    show Sp p e below Ta21 (mkF m 78 #[.val (.ref ls), .val (.int ng), .val (.ref bo1), .val (.ref ba21), .val (.int (0 : Int32))] [(.int (0 : Int32)), (.int (0 : Int32))]) _
    refine XS.icmpYes Xa21.here hx rfl (pc0 := 78) (pc' := 105) rfl (hb hby d6_78) rfl (flt (by decide : ¬ ((0 : Int32) < (0 : Int32)))).2.1 (by decide) (by decide) ?_
    refine XS.aloadN Xa21.here hx rfl (hb hby d6_105) rfl rfl ?_
    show Sp p e below Ta21 (mkF m 106 #[.val (.ref ls), .val (.int ng), .val (.ref bo1), .val (.ref ba21), .val (.int (0 : Int32))] [(.ref ba21)]) _
    jvm_step Xa21.here [Xa21.here.top, hx, (hb hby d6_106), Xa21.method', hret, Value.isRef, FieldType.isReference]
    first | (intro acts; rw [hlv _ acts rfl rfl rfl]) | rw [hlv _ _ rfl rfl rfl]
    exact Steps.refl _
  · show Q_props0 Z ls mc ng z vs aD kD aL aC h0 n0 _ Ta21.heap _
    rw [ea21]
    exact ⟨ba21, ka21, rfl, Nk19, K23, y_ba21, Ba21, Vq⟩
theorem pd___Ljava_lang_Object_ : parseMethodDescriptor "()Ljava/lang/Object;" = some ⟨[], some (.object "java/lang/Object")⟩ := by decide +kernel
theorem pd__I_Ljava_lang_Integer_ : parseMethodDescriptor "(I)Ljava/lang/Integer;" = some ⟨[.int], some (.object "java/lang/Integer")⟩ := by decide +kernel
theorem pd__Ljava_lang_Object__Z : parseMethodDescriptor "(Ljava/lang/Object;)Z" = some ⟨[(.object "java/lang/Object")], some .boolean⟩ := by decide +kernel
def Q_props1 (Z : State) (ls : Addr) (mc : Int32) (ed : Addr) (ked : ClassId) (x0 : Addr) (p0 : Int32) (g0 : Int32) (ng : Int32) (z : Int32) (vs : List Value) (aD : Addr) (kD : ClassId) (aL : Addr) (aC : Addr) (h0 : Heap) (n0 : Nat) (v : Option Value) (h : Heap) (L : List Loc) : Prop := ∃ b : Addr, ∃ kb : ClassId, v = some (.ref b) ∧ Fr n0 L ∧ Keep h0 h [] ∧ h0.size ≤ b ∧ Exa Z h b "[I" ∧ Arv Z h b kb .int z vs (.int (0 : Int32))
set_option maxRecDepth 65536 in
set_option maxHeartbeats 40000000 in
theorem rm_props1 (l : Launch) (Z : State) (a0 : Array Value) (hw : ∀ d ∈ tables_1, d.before a0 Z = true) (ws : List Jvm.Cond) (ls : Addr) (mc : Int32) (ed : Addr) (ked : ClassId) (x0 : Addr) (p0 : Int32) (g0 : Int32) (ng : Int32) (z : Int32) (vs : List Value) (aD : Addr) (kD : ClassId) (aL : Addr) (aC : Addr) (h0 : Heap) (n0 : Nat) (Z0 : n0 ≤ h0.size) (O0 : Old Z n0 h0) (f0 : Exa Z h0 ls S1) (f1 : Fld Z h0 ls S1 "elementData" S2 (.ref ed)) (f2 : Fld Z h0 ls S1 "size" "I" (.int (1 : Int32))) (f3 : Fld Z h0 ls S5 "modCount" "I" (.int mc)) (f4 : Arv Z h0 ed ked (.object S3) (10 : Int32) [(.ref x0), .null, .null, .null, .null, .null, .null, .null, .null, .null] .null) (f5 : Exa Z h0 x0 S6) (f6 : Fld Z h0 x0 S6 "proposition" "I" (.int p0)) (f7 : Fld Z h0 x0 S6 "negated" "Z" (.int g0)) (SS : own_start Z aD kD aL aC) (hg0 : g0 = 0 ∨ g0 = 1) (hvs : vs = own_f g0 ng p0) (hz : z = Int32.ofNat vs.length) :
    MetFree l Y30 (head1 (Jvm.Cond.code Y30 prog_25_method_2_code 5 (some (.array .int)) :: ws) ({ frames := 5, cells := 7, slots := 23, locals := 69 } : Room)) (fun A_ U => A_ = #[(.ref ls), (.int ng)] ∧ Z.Warmed39 U.vm ∧ U.heap = h0) (fun _ _ _ _ _ => True) (fun _ U o_ U' => ∃ v_ L_, o_ = .returned v_ ∧ Q_props1 Z ls mc ed ked x0 p0 g0 ng z vs aD kD aL aC h0 n0 v_ U'.heap L_ ∧ FrameEnd U o_ U' L_ ({ frames := 5, cells := 7, slots := 23, locals := 69 } : Room).cells ({ frames := 5, cells := 7, slots := 23, locals := 69 } : Room).slots) := by
  refine MetFree.of_bodySF (plainFor_of_name pn_10) hisR ?_
  intro p e s m args below meth c s₁ Bd hml0 hP hK
  obtain ⟨rfl, hZ, hh⟩ := hP
  have hx := Bd.exec
  have hby := Bd.bytes
  have hml : c.maxLocals = 5 := hml0
  have hown : s.vm.findClass S8 = some m.cls := findClass_of_methodNamed Bd.named
  have hnm := (name_of_methodNamed Bd.named Bd.method).1
  have hret := Bd.returns
  have X0 : Stand p l e ({ frames := 5, cells := 7, slots := 23, locals := 69 } : Room) s m #[(.ref ls), (.int ng)] below meth c s₁ [] 0 0 := Stand.of_body Bd
  have e0 : s₁.heap = h0 := by rw [← hh, Bd.state]; rfl
  have N0 := Fr.nil n0
  have pre0 : ∀ t_, Sp p e below s₁ (mkF m 0 #[.val (.ref ls), .val (.int ng), .unset, .unset, .unset] []) t_ → Sp p e below s₁ (entryFrame m #[(.ref ls), (.int ng)] 5) t_ := fun t_ k_ => castTop (ef_6_RI m ls ng) k_
  obtain ⟨S_DEF, V_DEF, S_LIT, E_LIT, O_LIT, S_HI, S_CA, C_CA⟩ := SS
  obtain ⟨To1, ho1, Xo1, eo1, Eo1, Ao1, Do1, -, sto1⟩ := newO X0 hx hZ hown (tw hw 36 rfl) (tw hw 1 rfl) (tw hw 2 rfl) e0 (g := (mkF m 0 #[.val (.ref ls), .val (.int ng), .unset, .unset, .unset] [])) rfl (hb hby d6_0) (by decide) (by decide)
  obtain ⟨bo1, go1⟩ : ∃ z, z = h0.size := ⟨_, rfl⟩
  rw [← go1] at Ao1 Do1 sto1
  have g_bo1 : n0 ≤ bo1 := Nat.le_trans Z0 (Nat.le_of_eq go1.symm)
  have y_bo1 : h0.size ≤ bo1 := Nat.le_trans (Nat.le_refl h0.size) (Nat.le_of_eq go1.symm)
  have K2 : Keep h0 ho1 [] := (Keep.refl h0 []).ext Eo1
  have Fo1_modCount : Fld Z ho1 bo1 S5 "modCount" "I" (.int (0 : Int32)) := Do1 (Or.inl (tw hw 22 rfl)) (ty := .int) (by decide)
  have Fo1_elementData : Fld Z ho1 bo1 S1 "elementData" S2 .null := Do1 (Or.inl (tw hw 25 rfl)) (ty := (.array (.object S3))) (by decide)
  have Fo1_size : Fld Z ho1 bo1 S1 "size" "I" (.int (0 : Int32)) := Do1 (Or.inl (tw hw 75 rfl)) (ty := .int) (by decide)
  have Z3 : n0 ≤ ho1.size := (Nat.le_trans Z0 Eo1.1)
  have O4 : Old Z n0 ho1 := (O0.ext Eo1)
  obtain ⟨_, _, ⟨Tk5, Lk5, kk5, nk5⟩, -, Xk5, ⟨Lck5, hQk5, lk5, yk5, zk5⟩, stk5⟩ := Xo1.specialBack hx (y := Y2) rfl hown (mvT hZ (tw hw 37 rfl)) (mvT hZ (tw hw 4 rfl)) (mvT hZ (tw hw 5 rfl)) (by decide) (backOf (W := 1) (rm_alinit l Z a0 hw [] bo1 aD kD aL aC ho1 n0 Z3 O4 Ao1 Fo1_elementData Fo1_size Fo1_modCount ⟨S_DEF, V_DEF, S_LIT, E_LIT, O_LIT, S_HI, S_CA, C_CA⟩ g_bo1) hZ (tw hw 5 rfl) (tw hw 2 rfl) (by decide) (by decide)) (g := (mkF m 4 #[.val (.ref ls), .val (.int ng), .unset, .unset, .unset] [(.ref bo1), (.ref bo1)])) rfl (by rw [hml]; rfl) (Steps.refl _) (a := bo1) (argsL := []) (rest := [(.ref bo1)]) (lenOf pd___V rfl) rfl (by show 2 * 0 + _ ≤ _; exact Nat.le_of_eq rfl) (hb hby d6_4) (fun _ _ => ⟨rfl, eo1, (by decide : 1 + 0 ≤ _), (by decide : 3 + 0 ≤ _)⟩)
  dsimp only [Pt.U, Pt.locs, Pt.cells, Pt.slots] at Xk5 lk5 yk5 zk5 stk5 hQk5
  subst lk5 yk5 zk5
  obtain ⟨rfl, Nk5q, Kk5q, Qk5_0, Qk5_1, Qk5_2⟩ := hQk5
  have K6 : Keep h0 Tk5.heap [] := K2.trans Kk5q (allS (P := fun x => x ∈ ([] : List Addr) ∨ h0.size ≤ x) (Or.inr y_bo1) all0)
  have Nk5 := Fr.app N0 Nk5q
  have F7 := (f0.keep K6)
  have F8 := (f3.keep K6 nin0)
  have Z9 : n0 ≤ Tk5.heap.size := (Nat.le_trans Z3 Kk5q.1)
  have O10 : Old Z n0 Tk5.heap := (O4.keep Kk5q (allS g_bo1 all0))
  obtain ⟨cqk11, kqk11, qk11a, qk11b, qk11c⟩ := isOf hZ rfl F7
  obtain ⟨_, _, ⟨Tk11, Lk11, kk11, nk11⟩, -, Xk11, ⟨Lck11, hQk11, lk11, yk11, zk11⟩, stk11⟩ := Xk5.interfaceBack hx (xi := Y31) (y := Y13) hown (mvT hZ (tw hw 38 rfl)) (mvT hZ (tw hw 39 rfl)) (mvT hZ (tw hw 40 rfl)) (mvT hZ (tw hw 41 rfl)) (mvT hZ (tw hw 42 rfl)) (mvT hZ (tw hw 43 rfl)) (mvT hZ (tw hw 44 rfl)) (mvT hZ (tw hw 45 rfl)) (by decide) (backOf (W := 0) (rm_iterator l Z a0 hw [] ls mc  Tk5.heap n0 Z9 O10 F7 F8) hZ (tw hw 46 rfl) (tw hw 2 rfl) (by decide) (by decide)) qk11a qk11b qk11c (g := (mkF m 9 #[.val (.ref ls), .val (.int ng), .val (.ref bo1), .unset, .unset] [(.ref ls)])) rfl (by rw [hml]; rfl) (Steps.refl _) (argsL := []) (rest := []) (lenOf pd___Ljava_util_Iterator_ rfl) rfl (by show 2 * 0 + _ ≤ _; exact Nat.le_of_eq rfl) (hb hby d6_9) (fun _ _ => ⟨rfl, rfl, (by decide : 1 + 1 ≤ _), (by decide : 3 + 4 ≤ _)⟩)
  dsimp only [Pt.U, Pt.locs, Pt.cells, Pt.slots] at Xk11 lk11 yk11 zk11 stk11 hQk11
  subst lk11 yk11 zk11
  obtain ⟨ik11, rfl, Nk11q, Kk11q, Gk11_0, Qk11_0, Qk11_1, Qk11_2, Qk11_3, Qk11_4⟩ := hQk11
  have Y12 : h0.size ≤ Tk5.heap.size := (Nat.le_trans (Nat.le_trans (Nat.le_refl h0.size) Eo1.1) Kk5q.1)
  have g_ik11 : n0 ≤ ik11 := Nat.le_trans Z9 Gk11_0
  have y_ik11 : h0.size ≤ ik11 := Nat.le_trans Y12 Gk11_0
  have K13 : Keep h0 Tk11.heap [] := K6.trans Kk11q all0
  have Nk11 := Fr.app Nk5 Nk11q
  have F14 := (f2.keep K13 nin0)
  have Z15 : n0 ≤ Tk11.heap.size := (Nat.le_trans Z9 Kk11q.1)
  have O16 : Old Z n0 Tk11.heap := (O10.keep Kk11q all0)
  obtain ⟨cqk17, kqk17, qk17a, qk17b, qk17c⟩ := isOf hZ rfl Qk11_0
  obtain ⟨_, _, ⟨Tk17, Lk17, kk17, nk17⟩, -, Xk17, ⟨Lck17, hQk17, lk17, yk17, zk17⟩, stk17⟩ := Xk11.interfaceBack hx (xi := Y32) (y := Y14) hown (mvT hZ (tw hw 63 rfl)) (mvT hZ (tw hw 64 rfl)) (mvT hZ (tw hw 65 rfl)) (mvT hZ (tw hw 66 rfl)) (mvT hZ (tw hw 67 rfl)) (mvT hZ (tw hw 68 rfl)) (mvT hZ (tw hw 69 rfl)) (mvT hZ (tw hw 70 rfl)) (by decide) (backOf (W := 0) (rm_hasnext l Z a0 hw [] ik11 ls (0 : Int32) (1 : Int32) (1 : Int32)  Tk11.heap n0 Z15 O16 Qk11_2 Qk11_1 F14 (by decide)) hZ (tw hw 71 rfl) (tw hw 49 rfl) (by decide) (by decide)) qk17a qk17b qk17c (g := (mkF m 16 #[.val (.ref ls), .val (.int ng), .val (.ref bo1), .val (.ref ik11), .unset] [(.ref ik11)])) rfl (by rw [hml]; rfl) (Steps.refl _) (argsL := []) (rest := []) (lenOf pd___Z rfl) rfl (by show 2 * 0 + _ ≤ _; exact Nat.le_of_eq rfl) (hb hby d6_16) (fun _ _ => ⟨rfl, rfl, (by decide : 2 + 0 ≤ _), (by decide : 7 + 0 ≤ _)⟩)
  dsimp only [Pt.U, Pt.locs, Pt.cells, Pt.slots] at Xk17 lk17 yk17 zk17 stk17 hQk17
  subst lk17 yk17 zk17
  obtain ⟨rfl, Nk17q, ek17⟩ := hQk17
  have Nk17 := Fr.app Nk11 Nk17q
  have F18 := (F7.keep Kk11q)
  have F19 := (F8.keep Kk11q nin0)
  have F20 := (f1.keep K13 nin0)
  have F21 := (f4.keep K13 nin0)
  obtain ⟨cqk22, kqk22, qk22a, qk22b, qk22c⟩ := isOf hZ ek17 Qk11_0
  obtain ⟨_, _, ⟨Tk22, Lk22, kk22, nk22⟩, -, Xk22, ⟨Lck22, hQk22, lk22, yk22, zk22⟩, stk22⟩ := Xk17.interfaceBack hx (xi := Y33) (y := Y16) hown (mvT hZ (tw hw 173 rfl)) (mvT hZ (tw hw 174 rfl)) (mvT hZ (tw hw 175 rfl)) (mvT hZ (tw hw 176 rfl)) (mvT hZ (tw hw 177 rfl)) (mvT hZ (tw hw 178 rfl)) (mvT hZ (tw hw 179 rfl)) (mvT hZ (tw hw 70 rfl)) (by decide) (backOf (W := 0) (rm_next l Z a0 hw [] ik11 ls (0 : Int32) (1 : Int32) (-1 : Int32) mc (1 : Int32) ed ked [(.ref x0), .null, .null, .null, .null, .null, .null, .null, .null, .null] x0  Tk11.heap n0 Z15 O16 Qk11_0 Qk11_1 Qk11_2 Qk11_3 Qk11_4 F18 F19 F14 F20 F21 g_ik11 (by decide) (by decide) (by decide) (by decide) rfl) hZ (tw hw 180 rfl) (tw hw 49 rfl) (by decide) (by decide)) qk22a qk22b qk22c (g := (mkF m 25 #[.val (.ref ls), .val (.int ng), .val (.ref bo1), .val (.ref ik11), .unset] [(.ref ik11)])) rfl (by rw [hml]; rfl) (Steps.refl _) (argsL := []) (rest := []) (lenOf pd___Ljava_lang_Object_ rfl) rfl (by show 2 * 0 + _ ≤ _; exact Nat.le_of_eq rfl) (hb hby d6_25) (fun _ _ => ⟨rfl, ek17, (by decide : 2 + 0 ≤ _), (by decide : 7 + 0 ≤ _)⟩)
  dsimp only [Pt.U, Pt.locs, Pt.cells, Pt.slots] at Xk22 lk22 yk22 zk22 stk22 hQk22
  subst lk22 yk22 zk22
  obtain ⟨rfl, Nk22q, Kk22q, Qk22_0, Qk22_1, Qk22_2, Qk22_3⟩ := hQk22
  have K23 : Keep h0 Tk22.heap [] := K13.trans Kk22q (allS (P := fun x => x ∈ ([] : List Addr) ∨ h0.size ≤ x) (Or.inr y_ik11) all0)
  have Nk22 := Fr.app Nk17 Nk22q
  have F25 := (f5.keep K23)
  obtain ⟨Tx24, Xx24, ex24, stx24⟩ := castY Xk22 hx hZ hown (tw hw 187 rfl) rfl (Ins.self F25) (g := (mkF m 30 #[.val (.ref ls), .val (.int ng), .val (.ref bo1), .val (.ref ik11), .unset] [(.ref x0)])) rfl rfl (hb hby d6_30)
  have F26 := (f7.keep K23 nin0)
  have Z27 : n0 ≤ Tk22.heap.size := (Nat.le_trans Z15 Kk22q.1)
  have O28 : Old Z n0 Tk22.heap := (O16.keep Kk22q (allS g_ik11 all0))
  obtain ⟨cqk29, kqk29, qk29a, qk29b, qk29c⟩ := isOf hZ ex24 F25
  obtain ⟨_, _, ⟨Tk29, Lk29, kk29, nk29⟩, -, Xk29, ⟨Lck29, hQk29, lk29, yk29, zk29⟩, stk29⟩ := Xx24.virtualBack hx (y := Y17) (z := Y17) hown (mvT hZ (tw hw 189 rfl)) (mvT hZ (tw hw 190 rfl)) (notFace_of_selects (args := #[]) (mvT hZ (tw hw 192 rfl))) (mvT hZ (tw hw 192 rfl)) (mvT hZ (tw hw 191 rfl)) (by decide) (backOf (W := 0) (rm_isneg l Z a0 hw [] x0 g0  Tk22.heap n0 Z27 O28 F26 hg0) hZ (tw hw 193 rfl) (tw hw 113 rfl) (by decide) (by decide)) qk29a qk29c (g := (mkF m 37 #[.val (.ref ls), .val (.int ng), .val (.ref bo1), .val (.ref ik11), .val (.ref x0)] [(.ref x0)])) rfl (by rw [hml]; rfl) (Steps.refl _) (argsL := []) (rest := []) (lenOf pd___Z rfl) rfl (by show 2 * 0 + _ ≤ _; exact Nat.le_of_eq rfl) (hb hby d6_37) (fun _ _ => ⟨rfl, ex24, (by decide : 2 + 0 ≤ _), (by decide : 7 + 0 ≤ _)⟩)
  dsimp only [Pt.U, Pt.locs, Pt.cells, Pt.slots] at Xk29 lk29 yk29 zk29 stk29 hQk29
  subst lk29 yk29 zk29
  obtain ⟨rfl, Nk29q, ek29⟩ := hQk29
  have Nk29 := Fr.app Nk22 Nk29q
  have r30 : ∀ t_, Sp p e below Tk29 (mkF m 41 #[.val (.ref ls), .val (.int ng), .val (.ref bo1), .val (.ref ik11), .val (.ref x0)] [(.int ng), (.int g0)]) t_ → Sp p e below s₁ (entryFrame m #[(.ref ls), (.int ng)] 5) t_ := by
    intro t_ k_
    refine pre0 _ ?_
    refine sto1 _ ?_
    refine XS.dup Xo1.here hx rfl (hb hby d6_3) rfl rfl ?_
    refine stk5.trans ?_
    refine XS.astoreN Xk5.here hx rfl (hb hby d6_7) rfl rfl (l' := #[.val (.ref ls), .val (.int ng), .val (.ref bo1), .unset, .unset]) rfl ?_
    refine XS.aloadN Xk5.here hx rfl (hb hby d6_8) rfl rfl ?_
    refine stk11.trans ?_
    refine XS.astoreN Xk11.here hx rfl (hb hby d6_14) rfl rfl (l' := #[.val (.ref ls), .val (.int ng), .val (.ref bo1), .val (.ref ik11), .unset]) rfl ?_
    refine XS.aloadN Xk11.here hx rfl (hb hby d6_15) rfl rfl ?_
    refine stk17.trans ?_
    refine XS.ifNo Xk17.here hx rfl (hb hby d6_21) rfl ((if0 _ _).trans (feq (by decide : ¬ ((1 : Int32) = (0 : Int32)))).1) ?_
    refine XS.aloadN Xk17.here hx rfl (hb hby d6_24) rfl rfl ?_
    refine stk22.trans ?_
    refine stx24 _ ?_
    refine XS.astore Xx24.here hx rfl (hb hby d6_33) rfl rfl (l' := #[.val (.ref ls), .val (.int ng), .val (.ref bo1), .val (.ref ik11), .val (.ref x0)]) rfl ?_
    refine XS.aload Xx24.here hx rfl (hb hby d6_35) rfl rfl ?_
    refine stk29.trans ?_
    refine XS.iloadN Xk29.here hx rfl (hb hby d6_40) rfl ?_
    show Sp p e below Tk29 (mkF m 41 #[.val (.ref ls), .val (.int ng), .val (.ref bo1), .val (.ref ik11), .val (.ref x0)] [(.int ng), (.int g0)]) _
    exact k_
  by_cases c31 : g0 = ng
  · have F32 := (f6.keep K23 nin0)
    obtain ⟨cqk33, kqk33, qk33a, qk33b, qk33c⟩ := isOf hZ ek29 F25
    obtain ⟨_, _, ⟨Tk33, Lk33, kk33, nk33⟩, -, Xk33, ⟨Lck33, hQk33, lk33, yk33, zk33⟩, stk33⟩ := Xk29.virtualBack hx (y := Y18) (z := Y18) hown (mvT hZ (tw hw 194 rfl)) (mvT hZ (tw hw 195 rfl)) (notFace_of_selects (args := #[]) (mvT hZ (tw hw 197 rfl))) (mvT hZ (tw hw 197 rfl)) (mvT hZ (tw hw 196 rfl)) (by decide) (backOf (W := 1) (rm_prop l Z a0 hw [] x0 p0  Tk22.heap n0 Z27 O28 F32) hZ (tw hw 198 rfl) (tw hw 113 rfl) (by decide) (by decide)) qk33a qk33c (g := (mkF m 47 #[.val (.ref ls), .val (.int ng), .val (.ref bo1), .val (.ref ik11), .val (.ref x0)] [(.ref x0), (.ref bo1)])) rfl (by rw [hml]; rfl) (Steps.refl _) (argsL := []) (rest := [(.ref bo1)]) (lenOf pd___I rfl) rfl (by show 2 * 0 + _ ≤ _; exact Nat.le_of_eq rfl) (hb hby d6_47) (fun _ _ => ⟨rfl, ek29, (by decide : 2 + 0 ≤ _), (by decide : 7 + 0 ≤ _)⟩)
    dsimp only [Pt.U, Pt.locs, Pt.cells, Pt.slots] at Xk33 lk33 yk33 zk33 stk33 hQk33
    subst lk33 yk33 zk33
    obtain ⟨rfl, Nk33q, ek33⟩ := hQk33
    have Nk33 := Fr.app Nk29 Nk33q
    obtain ⟨_, _, ⟨Tk34, Lk34, kk34, nk34⟩, -, Xk34, ⟨Lck34, hQk34, lk34, yk34, zk34⟩, stk34⟩ := Jvm.LawKit.callS Xk33 hx (y := Y27) hown (mvT hZ (tw hw 199 rfl)) (mvT hZ (tw hw 200 rfl)) (mvT hZ (tw hw 201 rfl)) (mvT hZ (tw hw 202 rfl)) (by decide) (backOf (W := 1) (rm_valueof l Z a0 hw [] p0 aD kD aL aC Tk22.heap n0 Z27 O28 ⟨S_DEF, V_DEF, S_LIT, E_LIT, O_LIT, S_HI, S_CA, C_CA⟩) hZ (tw hw 202 rfl) (tw hw 201 rfl) (by decide) (by decide)) (g := (mkF m 50 #[.val (.ref ls), .val (.int ng), .val (.ref bo1), .val (.ref ik11), .val (.ref x0)] [(.int p0), (.ref bo1)])) rfl (by rw [hml]; rfl) (argsL := [(.int p0)]) (rest := [(.ref bo1)]) (lenOf pd__I_Ljava_lang_Integer_ rfl) rfl (by show 2 * 0 + _ ≤ _; exact Nat.le_of_eq rfl) (hb hby d6_50) (fun _ _ => ⟨rfl, ek33, (by decide : 2 + 1 ≤ _), (by decide : 7 + 1 ≤ _)⟩)
    dsimp only [Pt.U, Pt.locs, Pt.cells, Pt.slots] at Xk34 lk34 yk34 zk34 stk34 hQk34
    subst lk34 yk34 zk34
    obtain ⟨rk34, rfl, Nk34q, Kk34q, Qk34_0, Qk34_1⟩ := hQk34
    have K35 : Keep h0 Tk34.heap [] := K23.trans Kk34q all0
    have Nk34 := Fr.app Nk33 Nk34q
    have F36 := ((((Ao1.keep Kk5q).keep Kk11q).keep Kk22q).keep Kk34q)
    have F38 := ((Qk11_0.keep Kk22q).keep Kk34q)
    have ne37 : bo1 ≠ ik11 := ne_exa F36 F38 (by decide)
    have F39 := (((Qk5_0.keep Kk11q nin0).keep Kk22q (ninS ne37 nin0)).keep Kk34q nin0)
    have F40 := (((Qk5_1.keep Kk11q nin0).keep Kk22q (ninS ne37 nin0)).keep Kk34q nin0)
    have F41 := (((Qk5_2.keep Kk11q nin0).keep Kk22q (ninS ne37 nin0)).keep Kk34q nin0)
    have Z42 : n0 ≤ Tk34.heap.size := (Nat.le_trans Z27 Kk34q.1)
    have O43 : Old Z n0 Tk34.heap := (O28.keep Kk34q all0)
    obtain ⟨cqk44, kqk44, qk44a, qk44b, qk44c⟩ := isOf hZ rfl F36
    obtain ⟨_, _, ⟨Tk44, Lk44, kk44, nk44⟩, -, Xk44, ⟨Lck44, hQk44, lk44, yk44, zk44⟩, stk44⟩ := Xk34.interfaceBack hx (xi := Y34) (y := Y11) hown (mvT hZ (tw hw 206 rfl)) (mvT hZ (tw hw 207 rfl)) (mvT hZ (tw hw 208 rfl)) (mvT hZ (tw hw 209 rfl)) (mvT hZ (tw hw 147 rfl)) (mvT hZ (tw hw 210 rfl)) (mvT hZ (tw hw 211 rfl)) (mvT hZ (tw hw 83 rfl)) (by decide) (backOf (W := 0) (rm_add_0 l Z a0 hw [] bo1 rk34 (0 : Int32) (1 : Int32) aD kD aL aC Tk34.heap n0 Z42 O43 F36 F39 F40 F41 (Ins.of_exa Qk34_0 (tw hw 212 rfl)) ⟨S_DEF, V_DEF, S_LIT, E_LIT, O_LIT, S_HI, S_CA, C_CA⟩ g_bo1 (by decide)) hZ (tw hw 149 rfl) (tw hw 2 rfl) (by decide) (by decide)) qk44a qk44b qk44c (g := (mkF m 53 #[.val (.ref ls), .val (.int ng), .val (.ref bo1), .val (.ref ik11), .val (.ref x0)] [(.ref rk34), (.ref bo1)])) rfl (by rw [hml]; rfl) (Steps.refl _) (argsL := [(.ref rk34)]) (rest := []) (lenOf pd__Ljava_lang_Object__Z rfl) rfl (by show 2 * 0 + _ ≤ _; exact Nat.le_of_eq rfl) (hb hby d6_53) (fun _ _ => ⟨rfl, rfl, (by decide : 3 + 1 ≤ _), (by decide : 8 + 10 ≤ _)⟩)
    dsimp only [Pt.U, Pt.locs, Pt.cells, Pt.slots] at Xk44 lk44 yk44 zk44 stk44 hQk44
    subst lk44 yk44 zk44
    obtain ⟨bk44, kk44, rfl, Nk44q, Kk44q, Gk44_0, Qk44_0, Qk44_1, Qk44_2, Qk44_3, Qk44_4⟩ := hQk44
    have Y45 : h0.size ≤ Tk34.heap.size := (Nat.le_trans (Nat.le_trans (Nat.le_trans Y12 Kk11q.1) Kk22q.1) Kk34q.1)
    have g_bk44 : n0 ≤ bk44 := Nat.le_trans Z42 Gk44_0
    have y_bk44 : h0.size ≤ bk44 := Nat.le_trans Y45 Gk44_0
    have K46 : Keep h0 Tk44.heap [] := K35.trans Kk44q (allS (P := fun x => x ∈ ([] : List Addr) ∨ h0.size ≤ x) (Or.inr y_bo1) all0)
    have Nk44 := Fr.app Nk34 Nk44q
    have F47 := ((Qk22_1.keep Kk34q nin0).keep Kk44q (ninS (Ne.symm ne37) nin0))
    have F48 := ((Qk22_0.keep Kk34q nin0).keep Kk44q (ninS (Ne.symm ne37) nin0))
    have F50 := (((F18.keep Kk22q).keep Kk34q).keep Kk44q)
    have F51 := (F38.keep Kk44q)
    have ne49 : ls ≠ ik11 := ne_exa F50 F51 (by decide)
    have ne52 : ls ≠ bo1 := Nat.ne_of_lt (Nat.lt_of_lt_of_le f0.lt (Nat.le_of_eq go1.symm))
    have F53 := (((F14.keep Kk22q (ninS ne49 nin0)).keep Kk34q nin0).keep Kk44q (ninS ne52 nin0))
    have Z54 : n0 ≤ Tk44.heap.size := (Nat.le_trans Z42 Kk44q.1)
    have O55 : Old Z n0 Tk44.heap := (O43.keep Kk44q (allS g_bo1 all0))
    obtain ⟨cqk56, kqk56, qk56a, qk56b, qk56c⟩ := isOf hZ rfl F51
    obtain ⟨_, _, ⟨Tk56, Lk56, kk56, nk56⟩, -, Xk56, ⟨Lck56, hQk56, lk56, yk56, zk56⟩, stk56⟩ := Xk44.interfaceBack hx (xi := Y32) (y := Y14) hown (mvT hZ (tw hw 63 rfl)) (mvT hZ (tw hw 64 rfl)) (mvT hZ (tw hw 65 rfl)) (mvT hZ (tw hw 66 rfl)) (mvT hZ (tw hw 67 rfl)) (mvT hZ (tw hw 68 rfl)) (mvT hZ (tw hw 69 rfl)) (mvT hZ (tw hw 70 rfl)) (by decide) (backOf (W := 0) (rm_hasnext l Z a0 hw [] ik11 ls (1 : Int32) (1 : Int32) (0 : Int32)  Tk44.heap n0 Z54 O55 F47 F48 F53 (by decide)) hZ (tw hw 71 rfl) (tw hw 49 rfl) (by decide) (by decide)) qk56a qk56b qk56c (g := (mkF m 16 #[.val (.ref ls), .val (.int ng), .val (.ref bo1), .val (.ref ik11), .val (.ref x0)] [(.ref ik11)])) rfl (by rw [hml]; rfl) (Steps.refl _) (argsL := []) (rest := []) (lenOf pd___Z rfl) rfl (by show 2 * 0 + _ ≤ _; exact Nat.le_of_eq rfl) (hb hby d6_16) (fun _ _ => ⟨rfl, rfl, (by decide : 4 + 0 ≤ _), (by decide : 18 + 0 ≤ _)⟩)
    dsimp only [Pt.U, Pt.locs, Pt.cells, Pt.slots] at Xk56 lk56 yk56 zk56 stk56 hQk56
    subst lk56 yk56 zk56
    obtain ⟨rfl, Nk56q, ek56⟩ := hQk56
    have Nk56 := Fr.app Nk44 Nk56q
    have r57 : ∀ t_, Sp p e below Tk56 (mkF m 62 #[.val (.ref ls), .val (.int ng), .val (.ref bo1), .val (.ref ik11), .val (.ref x0)] []) t_ → Sp p e below s₁ (entryFrame m #[(.ref ls), (.int ng)] 5) t_ := by
      intro t_ k_
      refine r30 _ ?_
      refine XS.icmpNo Xk29.here hx rfl (hb hby d6_41) rfl (teq c31).2 ?_
      refine XS.aloadN Xk29.here hx rfl (hb hby d6_44) rfl rfl ?_
      refine XS.aload Xk29.here hx rfl (hb hby d6_45) rfl rfl ?_
      refine stk33.trans ?_
      refine stk34 _ ?_
      refine stk44.trans ?_
      refine XS.pop Xk44.here hx rfl (hb hby d6_58) rfl rfl ?_
      refine XS.goto Xk44.here hx rfl (pc0 := 59) (pc' := 15) rfl (hb hby d6_59) (by decide) (by decide) ?_
      refine XS.aloadN Xk44.here hx rfl (hb hby d6_15) rfl rfl ?_
      refine stk56.trans ?_
      refine XS.ifYes Xk56.here hx rfl (pc0 := 21) (pc' := 62) rfl (hb hby d6_21) rfl ((if0 _ _).trans (teq (by decide : (0 : Int32) = (0 : Int32))).1) (by decide) (by decide) ?_
      show Sp p e below Tk56 (mkF m 62 #[.val (.ref ls), .val (.int ng), .val (.ref bo1), .val (.ref ik11), .val (.ref x0)] []) _
      exact k_
    have hvs1 : vs = [(.int p0)] := by rw [hvs]; first | done | simp [own_f, c31]
    have hz1 : z = (1 : Int32) := by rw [hz, hvs1]; first | done | rfl
    have F58 := (F36.keep Kk44q)
    have F59 := (Qk34_0.keep Kk44q)
    have ne60 : rk34 ≠ bo1 := ne_exa F59 F58 (by decide)
    have F61 := (Qk34_1.keep Kk44q (ninS ne60 nin0))
    have Y62 : h0.size ≤ Tk44.heap.size := (Nat.le_trans Y45 Kk44q.1)
    obtain ⟨s₂, _, u1, u2, u3, _, L, rfl, ⟨b, kb, rfl, Nb, Kb, gb, Eb, Vb⟩, u5⟩ := tl_pt1 p l e s m _ below meth c _ _ Z a0 hw ls ng bo1 ik11 x0 bk44 kk44 rk34 p0 Tk44.heap n0 (Xk56.more (by decide) (by decide)) hx hZ hby hml hown hret Bd.notSynchronized ek56 Nk56 Z54 O55 F58 Qk44_1 Qk44_0 Qk44_3 F59 F61
    exact ⟨s₂, _, r57 _ u1, u2, u3, _, L, rfl, ⟨b, kb, rfl, Nb, Keep.trans K46 Kb all0, Nat.le_trans Y62 gb, Eb, by rw [hz1, hvs1]; exact Vb⟩, u5⟩
  · have F64 := (F18.keep Kk22q)
    have F65 := (Qk11_0.keep Kk22q)
    have ne63 : ls ≠ ik11 := ne_exa F64 F65 (by decide)
    have F66 := (F14.keep Kk22q (ninS ne63 nin0))
    obtain ⟨cqk67, kqk67, qk67a, qk67b, qk67c⟩ := isOf hZ ek29 F65
    obtain ⟨_, _, ⟨Tk67, Lk67, kk67, nk67⟩, -, Xk67, ⟨Lck67, hQk67, lk67, yk67, zk67⟩, stk67⟩ := Xk29.interfaceBack hx (xi := Y32) (y := Y14) hown (mvT hZ (tw hw 63 rfl)) (mvT hZ (tw hw 64 rfl)) (mvT hZ (tw hw 65 rfl)) (mvT hZ (tw hw 66 rfl)) (mvT hZ (tw hw 67 rfl)) (mvT hZ (tw hw 68 rfl)) (mvT hZ (tw hw 69 rfl)) (mvT hZ (tw hw 70 rfl)) (by decide) (backOf (W := 0) (rm_hasnext l Z a0 hw [] ik11 ls (1 : Int32) (1 : Int32) (0 : Int32)  Tk22.heap n0 Z27 O28 Qk22_1 Qk22_0 F66 (by decide)) hZ (tw hw 71 rfl) (tw hw 49 rfl) (by decide) (by decide)) qk67a qk67b qk67c (g := (mkF m 16 #[.val (.ref ls), .val (.int ng), .val (.ref bo1), .val (.ref ik11), .val (.ref x0)] [(.ref ik11)])) rfl (by rw [hml]; rfl) (Steps.refl _) (argsL := []) (rest := []) (lenOf pd___Z rfl) rfl (by show 2 * 0 + _ ≤ _; exact Nat.le_of_eq rfl) (hb hby d6_16) (fun _ _ => ⟨rfl, ek29, (by decide : 2 + 0 ≤ _), (by decide : 7 + 0 ≤ _)⟩)
    dsimp only [Pt.U, Pt.locs, Pt.cells, Pt.slots] at Xk67 lk67 yk67 zk67 stk67 hQk67
    subst lk67 yk67 zk67
    obtain ⟨rfl, Nk67q, ek67⟩ := hQk67
    have Nk67 := Fr.app Nk29 Nk67q
    have r68 : ∀ t_, Sp p e below Tk67 (mkF m 62 #[.val (.ref ls), .val (.int ng), .val (.ref bo1), .val (.ref ik11), .val (.ref x0)] []) t_ → Sp p e below s₁ (entryFrame m #[(.ref ls), (.int ng)] 5) t_ := by
      intro t_ k_
      refine r30 _ ?_
      refine XS.icmpYes Xk29.here hx rfl (pc0 := 41) (pc' := 59) rfl (hb hby d6_41) rfl (feq c31).2 (by decide) (by decide) ?_
      refine XS.goto Xk29.here hx rfl (pc0 := 59) (pc' := 15) rfl (hb hby d6_59) (by decide) (by decide) ?_
      refine XS.aloadN Xk29.here hx rfl (hb hby d6_15) rfl rfl ?_
      refine stk67.trans ?_
      refine XS.ifYes Xk67.here hx rfl (pc0 := 21) (pc' := 62) rfl (hb hby d6_21) rfl ((if0 _ _).trans (teq (by decide : (0 : Int32) = (0 : Int32))).1) (by decide) (by decide) ?_
      show Sp p e below Tk67 (mkF m 62 #[.val (.ref ls), .val (.int ng), .val (.ref bo1), .val (.ref ik11), .val (.ref x0)] []) _
      exact k_
    have hvs1 : vs = [] := by rw [hvs]; first | done | simp [own_f, c31]
    have hz1 : z = (0 : Int32) := by rw [hz, hvs1]; first | done | rfl
    have F69 := (((Ao1.keep Kk5q).keep Kk11q).keep Kk22q)
    have ne70 : bo1 ≠ ik11 := ne_exa F69 F65 (by decide)
    have F71 := ((Qk5_1.keep Kk11q nin0).keep Kk22q (ninS ne70 nin0))
    have F72 := ((Qk5_0.keep Kk11q nin0).keep Kk22q (ninS ne70 nin0))
    have Y73 : h0.size ≤ Tk22.heap.size := (Nat.le_trans (Nat.le_trans Y12 Kk11q.1) Kk22q.1)
    obtain ⟨s₂, _, u1, u2, u3, _, L, rfl, ⟨b, kb, rfl, Nb, Kb, gb, Eb, Vb⟩, u5⟩ := tl_pt0 p l e s m _ below meth c _ _ Z a0 hw ls ng bo1 ik11 x0 aD   Tk22.heap n0 (Xk67.more (by decide) (by decide)) hx hZ hby hml hown hret Bd.notSynchronized ek67 Nk67 Z27 O28 F69 F71 F72
    exact ⟨s₂, _, r68 _ u1, u2, u3, _, L, rfl, ⟨b, kb, rfl, Nb, Keep.trans K23 Kb all0, Nat.le_trans Y73 gb, Eb, by rw [hz1, hvs1]; exact Vb⟩, u5⟩
def Q_props2 (Z : State) (ls : Addr) (mc : Int32) (ed : Addr) (ked : ClassId) (x0 : Addr) (x1 : Addr) (p0 : Int32) (p1 : Int32) (g0 : Int32) (g1 : Int32) (ng : Int32) (z : Int32) (vs : List Value) (aD : Addr) (kD : ClassId) (aL : Addr) (aC : Addr) (h0 : Heap) (n0 : Nat) (v : Option Value) (h : Heap) (L : List Loc) : Prop := ∃ b : Addr, ∃ kb : ClassId, v = some (.ref b) ∧ Fr n0 L ∧ Keep h0 h [] ∧ h0.size ≤ b ∧ Exa Z h b "[I" ∧ Arv Z h b kb .int z vs (.int (0 : Int32))
set_option maxRecDepth 65536 in
set_option maxHeartbeats 40000000 in
theorem rm_props2 (l : Launch) (Z : State) (a0 : Array Value) (hw : ∀ d ∈ tables_1, d.before a0 Z = true) (ws : List Jvm.Cond) (ls : Addr) (mc : Int32) (ed : Addr) (ked : ClassId) (x0 : Addr) (x1 : Addr) (p0 : Int32) (p1 : Int32) (g0 : Int32) (g1 : Int32) (ng : Int32) (z : Int32) (vs : List Value) (aD : Addr) (kD : ClassId) (aL : Addr) (aC : Addr) (h0 : Heap) (n0 : Nat) (Z0 : n0 ≤ h0.size) (O0 : Old Z n0 h0) (f0 : Exa Z h0 ls S1) (f1 : Fld Z h0 ls S1 "elementData" S2 (.ref ed)) (f2 : Fld Z h0 ls S1 "size" "I" (.int (2 : Int32))) (f3 : Fld Z h0 ls S5 "modCount" "I" (.int mc)) (f4 : Arv Z h0 ed ked (.object S3) (10 : Int32) [(.ref x0), (.ref x1), .null, .null, .null, .null, .null, .null, .null, .null] .null) (f5 : Exa Z h0 x0 S6) (f6 : Fld Z h0 x0 S6 "proposition" "I" (.int p0)) (f7 : Fld Z h0 x0 S6 "negated" "Z" (.int g0)) (f8 : Exa Z h0 x1 S6) (f9 : Fld Z h0 x1 S6 "proposition" "I" (.int p1)) (f10 : Fld Z h0 x1 S6 "negated" "Z" (.int g1)) (SS : own_start Z aD kD aL aC) (hg0 : g0 = 0 ∨ g0 = 1) (hg1 : g1 = 0 ∨ g1 = 1) (hvs : vs = own_f g0 ng p0 ++ own_f g1 ng p1) (hz : z = Int32.ofNat vs.length) :
    MetFree l Y30 (head1 (Jvm.Cond.code Y30 prog_25_method_2_code 5 (some (.array .int)) :: ws) ({ frames := 5, cells := 7, slots := 23, locals := 69 } : Room)) (fun A_ U => A_ = #[(.ref ls), (.int ng)] ∧ Z.Warmed39 U.vm ∧ U.heap = h0) (fun _ _ _ _ _ => True) (fun _ U o_ U' => ∃ v_ L_, o_ = .returned v_ ∧ Q_props2 Z ls mc ed ked x0 x1 p0 p1 g0 g1 ng z vs aD kD aL aC h0 n0 v_ U'.heap L_ ∧ FrameEnd U o_ U' L_ ({ frames := 5, cells := 7, slots := 23, locals := 69 } : Room).cells ({ frames := 5, cells := 7, slots := 23, locals := 69 } : Room).slots) := by
  refine MetFree.of_bodySF (plainFor_of_name pn_10) hisR ?_
  intro p e s m args below meth c s₁ Bd hml0 hP hK
  obtain ⟨rfl, hZ, hh⟩ := hP
  have hx := Bd.exec
  have hby := Bd.bytes
  have hml : c.maxLocals = 5 := hml0
  have hown : s.vm.findClass S8 = some m.cls := findClass_of_methodNamed Bd.named
  have hnm := (name_of_methodNamed Bd.named Bd.method).1
  have hret := Bd.returns
  have X0 : Stand p l e ({ frames := 5, cells := 7, slots := 23, locals := 69 } : Room) s m #[(.ref ls), (.int ng)] below meth c s₁ [] 0 0 := Stand.of_body Bd
  have e0 : s₁.heap = h0 := by rw [← hh, Bd.state]; rfl
  have N0 := Fr.nil n0
  have pre0 : ∀ t_, Sp p e below s₁ (mkF m 0 #[.val (.ref ls), .val (.int ng), .unset, .unset, .unset] []) t_ → Sp p e below s₁ (entryFrame m #[(.ref ls), (.int ng)] 5) t_ := fun t_ k_ => castTop (ef_6_RI m ls ng) k_
  obtain ⟨S_DEF, V_DEF, S_LIT, E_LIT, O_LIT, S_HI, S_CA, C_CA⟩ := SS
  obtain ⟨To1, ho1, Xo1, eo1, Eo1, Ao1, Do1, -, sto1⟩ := newO X0 hx hZ hown (tw hw 36 rfl) (tw hw 1 rfl) (tw hw 2 rfl) e0 (g := (mkF m 0 #[.val (.ref ls), .val (.int ng), .unset, .unset, .unset] [])) rfl (hb hby d6_0) (by decide) (by decide)
  obtain ⟨bo1, go1⟩ : ∃ z, z = h0.size := ⟨_, rfl⟩
  rw [← go1] at Ao1 Do1 sto1
  have g_bo1 : n0 ≤ bo1 := Nat.le_trans Z0 (Nat.le_of_eq go1.symm)
  have y_bo1 : h0.size ≤ bo1 := Nat.le_trans (Nat.le_refl h0.size) (Nat.le_of_eq go1.symm)
  have K2 : Keep h0 ho1 [] := (Keep.refl h0 []).ext Eo1
  have Fo1_modCount : Fld Z ho1 bo1 S5 "modCount" "I" (.int (0 : Int32)) := Do1 (Or.inl (tw hw 22 rfl)) (ty := .int) (by decide)
  have Fo1_elementData : Fld Z ho1 bo1 S1 "elementData" S2 .null := Do1 (Or.inl (tw hw 25 rfl)) (ty := (.array (.object S3))) (by decide)
  have Fo1_size : Fld Z ho1 bo1 S1 "size" "I" (.int (0 : Int32)) := Do1 (Or.inl (tw hw 75 rfl)) (ty := .int) (by decide)
  have Z3 : n0 ≤ ho1.size := (Nat.le_trans Z0 Eo1.1)
  have O4 : Old Z n0 ho1 := (O0.ext Eo1)
  obtain ⟨_, _, ⟨Tk5, Lk5, kk5, nk5⟩, -, Xk5, ⟨Lck5, hQk5, lk5, yk5, zk5⟩, stk5⟩ := Xo1.specialBack hx (y := Y2) rfl hown (mvT hZ (tw hw 37 rfl)) (mvT hZ (tw hw 4 rfl)) (mvT hZ (tw hw 5 rfl)) (by decide) (backOf (W := 1) (rm_alinit l Z a0 hw [] bo1 aD kD aL aC ho1 n0 Z3 O4 Ao1 Fo1_elementData Fo1_size Fo1_modCount ⟨S_DEF, V_DEF, S_LIT, E_LIT, O_LIT, S_HI, S_CA, C_CA⟩ g_bo1) hZ (tw hw 5 rfl) (tw hw 2 rfl) (by decide) (by decide)) (g := (mkF m 4 #[.val (.ref ls), .val (.int ng), .unset, .unset, .unset] [(.ref bo1), (.ref bo1)])) rfl (by rw [hml]; rfl) (Steps.refl _) (a := bo1) (argsL := []) (rest := [(.ref bo1)]) (lenOf pd___V rfl) rfl (by show 2 * 0 + _ ≤ _; exact Nat.le_of_eq rfl) (hb hby d6_4) (fun _ _ => ⟨rfl, eo1, (by decide : 1 + 0 ≤ _), (by decide : 3 + 0 ≤ _)⟩)
  dsimp only [Pt.U, Pt.locs, Pt.cells, Pt.slots] at Xk5 lk5 yk5 zk5 stk5 hQk5
  subst lk5 yk5 zk5
  obtain ⟨rfl, Nk5q, Kk5q, Qk5_0, Qk5_1, Qk5_2⟩ := hQk5
  have K6 : Keep h0 Tk5.heap [] := K2.trans Kk5q (allS (P := fun x => x ∈ ([] : List Addr) ∨ h0.size ≤ x) (Or.inr y_bo1) all0)
  have Nk5 := Fr.app N0 Nk5q
  have F7 := (f0.keep K6)
  have F8 := (f3.keep K6 nin0)
  have Z9 : n0 ≤ Tk5.heap.size := (Nat.le_trans Z3 Kk5q.1)
  have O10 : Old Z n0 Tk5.heap := (O4.keep Kk5q (allS g_bo1 all0))
  obtain ⟨cqk11, kqk11, qk11a, qk11b, qk11c⟩ := isOf hZ rfl F7
  obtain ⟨_, _, ⟨Tk11, Lk11, kk11, nk11⟩, -, Xk11, ⟨Lck11, hQk11, lk11, yk11, zk11⟩, stk11⟩ := Xk5.interfaceBack hx (xi := Y31) (y := Y13) hown (mvT hZ (tw hw 38 rfl)) (mvT hZ (tw hw 39 rfl)) (mvT hZ (tw hw 40 rfl)) (mvT hZ (tw hw 41 rfl)) (mvT hZ (tw hw 42 rfl)) (mvT hZ (tw hw 43 rfl)) (mvT hZ (tw hw 44 rfl)) (mvT hZ (tw hw 45 rfl)) (by decide) (backOf (W := 0) (rm_iterator l Z a0 hw [] ls mc  Tk5.heap n0 Z9 O10 F7 F8) hZ (tw hw 46 rfl) (tw hw 2 rfl) (by decide) (by decide)) qk11a qk11b qk11c (g := (mkF m 9 #[.val (.ref ls), .val (.int ng), .val (.ref bo1), .unset, .unset] [(.ref ls)])) rfl (by rw [hml]; rfl) (Steps.refl _) (argsL := []) (rest := []) (lenOf pd___Ljava_util_Iterator_ rfl) rfl (by show 2 * 0 + _ ≤ _; exact Nat.le_of_eq rfl) (hb hby d6_9) (fun _ _ => ⟨rfl, rfl, (by decide : 1 + 1 ≤ _), (by decide : 3 + 4 ≤ _)⟩)
  dsimp only [Pt.U, Pt.locs, Pt.cells, Pt.slots] at Xk11 lk11 yk11 zk11 stk11 hQk11
  subst lk11 yk11 zk11
  obtain ⟨ik11, rfl, Nk11q, Kk11q, Gk11_0, Qk11_0, Qk11_1, Qk11_2, Qk11_3, Qk11_4⟩ := hQk11
  have Y12 : h0.size ≤ Tk5.heap.size := (Nat.le_trans (Nat.le_trans (Nat.le_refl h0.size) Eo1.1) Kk5q.1)
  have g_ik11 : n0 ≤ ik11 := Nat.le_trans Z9 Gk11_0
  have y_ik11 : h0.size ≤ ik11 := Nat.le_trans Y12 Gk11_0
  have K13 : Keep h0 Tk11.heap [] := K6.trans Kk11q all0
  have Nk11 := Fr.app Nk5 Nk11q
  have F14 := (f2.keep K13 nin0)
  have Z15 : n0 ≤ Tk11.heap.size := (Nat.le_trans Z9 Kk11q.1)
  have O16 : Old Z n0 Tk11.heap := (O10.keep Kk11q all0)
  obtain ⟨cqk17, kqk17, qk17a, qk17b, qk17c⟩ := isOf hZ rfl Qk11_0
  obtain ⟨_, _, ⟨Tk17, Lk17, kk17, nk17⟩, -, Xk17, ⟨Lck17, hQk17, lk17, yk17, zk17⟩, stk17⟩ := Xk11.interfaceBack hx (xi := Y32) (y := Y14) hown (mvT hZ (tw hw 63 rfl)) (mvT hZ (tw hw 64 rfl)) (mvT hZ (tw hw 65 rfl)) (mvT hZ (tw hw 66 rfl)) (mvT hZ (tw hw 67 rfl)) (mvT hZ (tw hw 68 rfl)) (mvT hZ (tw hw 69 rfl)) (mvT hZ (tw hw 70 rfl)) (by decide) (backOf (W := 0) (rm_hasnext l Z a0 hw [] ik11 ls (0 : Int32) (2 : Int32) (1 : Int32)  Tk11.heap n0 Z15 O16 Qk11_2 Qk11_1 F14 (by decide)) hZ (tw hw 71 rfl) (tw hw 49 rfl) (by decide) (by decide)) qk17a qk17b qk17c (g := (mkF m 16 #[.val (.ref ls), .val (.int ng), .val (.ref bo1), .val (.ref ik11), .unset] [(.ref ik11)])) rfl (by rw [hml]; rfl) (Steps.refl _) (argsL := []) (rest := []) (lenOf pd___Z rfl) rfl (by show 2 * 0 + _ ≤ _; exact Nat.le_of_eq rfl) (hb hby d6_16) (fun _ _ => ⟨rfl, rfl, (by decide : 2 + 0 ≤ _), (by decide : 7 + 0 ≤ _)⟩)
  dsimp only [Pt.U, Pt.locs, Pt.cells, Pt.slots] at Xk17 lk17 yk17 zk17 stk17 hQk17
  subst lk17 yk17 zk17
  obtain ⟨rfl, Nk17q, ek17⟩ := hQk17
  have Nk17 := Fr.app Nk11 Nk17q
  have F18 := (F7.keep Kk11q)
  have F19 := (F8.keep Kk11q nin0)
  have F20 := (f1.keep K13 nin0)
  have F21 := (f4.keep K13 nin0)
  obtain ⟨cqk22, kqk22, qk22a, qk22b, qk22c⟩ := isOf hZ ek17 Qk11_0
  obtain ⟨_, _, ⟨Tk22, Lk22, kk22, nk22⟩, -, Xk22, ⟨Lck22, hQk22, lk22, yk22, zk22⟩, stk22⟩ := Xk17.interfaceBack hx (xi := Y33) (y := Y16) hown (mvT hZ (tw hw 173 rfl)) (mvT hZ (tw hw 174 rfl)) (mvT hZ (tw hw 175 rfl)) (mvT hZ (tw hw 176 rfl)) (mvT hZ (tw hw 177 rfl)) (mvT hZ (tw hw 178 rfl)) (mvT hZ (tw hw 179 rfl)) (mvT hZ (tw hw 70 rfl)) (by decide) (backOf (W := 0) (rm_next l Z a0 hw [] ik11 ls (0 : Int32) (1 : Int32) (-1 : Int32) mc (2 : Int32) ed ked [(.ref x0), (.ref x1), .null, .null, .null, .null, .null, .null, .null, .null] x0  Tk11.heap n0 Z15 O16 Qk11_0 Qk11_1 Qk11_2 Qk11_3 Qk11_4 F18 F19 F14 F20 F21 g_ik11 (by decide) (by decide) (by decide) (by decide) rfl) hZ (tw hw 180 rfl) (tw hw 49 rfl) (by decide) (by decide)) qk22a qk22b qk22c (g := (mkF m 25 #[.val (.ref ls), .val (.int ng), .val (.ref bo1), .val (.ref ik11), .unset] [(.ref ik11)])) rfl (by rw [hml]; rfl) (Steps.refl _) (argsL := []) (rest := []) (lenOf pd___Ljava_lang_Object_ rfl) rfl (by show 2 * 0 + _ ≤ _; exact Nat.le_of_eq rfl) (hb hby d6_25) (fun _ _ => ⟨rfl, ek17, (by decide : 2 + 0 ≤ _), (by decide : 7 + 0 ≤ _)⟩)
  dsimp only [Pt.U, Pt.locs, Pt.cells, Pt.slots] at Xk22 lk22 yk22 zk22 stk22 hQk22
  subst lk22 yk22 zk22
  obtain ⟨rfl, Nk22q, Kk22q, Qk22_0, Qk22_1, Qk22_2, Qk22_3⟩ := hQk22
  have K23 : Keep h0 Tk22.heap [] := K13.trans Kk22q (allS (P := fun x => x ∈ ([] : List Addr) ∨ h0.size ≤ x) (Or.inr y_ik11) all0)
  have Nk22 := Fr.app Nk17 Nk22q
  have F25 := (f5.keep K23)
  obtain ⟨Tx24, Xx24, ex24, stx24⟩ := castY Xk22 hx hZ hown (tw hw 187 rfl) rfl (Ins.self F25) (g := (mkF m 30 #[.val (.ref ls), .val (.int ng), .val (.ref bo1), .val (.ref ik11), .unset] [(.ref x0)])) rfl rfl (hb hby d6_30)
  have F26 := (f7.keep K23 nin0)
  have Z27 : n0 ≤ Tk22.heap.size := (Nat.le_trans Z15 Kk22q.1)
  have O28 : Old Z n0 Tk22.heap := (O16.keep Kk22q (allS g_ik11 all0))
  obtain ⟨cqk29, kqk29, qk29a, qk29b, qk29c⟩ := isOf hZ ex24 F25
  obtain ⟨_, _, ⟨Tk29, Lk29, kk29, nk29⟩, -, Xk29, ⟨Lck29, hQk29, lk29, yk29, zk29⟩, stk29⟩ := Xx24.virtualBack hx (y := Y17) (z := Y17) hown (mvT hZ (tw hw 189 rfl)) (mvT hZ (tw hw 190 rfl)) (notFace_of_selects (args := #[]) (mvT hZ (tw hw 192 rfl))) (mvT hZ (tw hw 192 rfl)) (mvT hZ (tw hw 191 rfl)) (by decide) (backOf (W := 0) (rm_isneg l Z a0 hw [] x0 g0  Tk22.heap n0 Z27 O28 F26 hg0) hZ (tw hw 193 rfl) (tw hw 113 rfl) (by decide) (by decide)) qk29a qk29c (g := (mkF m 37 #[.val (.ref ls), .val (.int ng), .val (.ref bo1), .val (.ref ik11), .val (.ref x0)] [(.ref x0)])) rfl (by rw [hml]; rfl) (Steps.refl _) (argsL := []) (rest := []) (lenOf pd___Z rfl) rfl (by show 2 * 0 + _ ≤ _; exact Nat.le_of_eq rfl) (hb hby d6_37) (fun _ _ => ⟨rfl, ex24, (by decide : 2 + 0 ≤ _), (by decide : 7 + 0 ≤ _)⟩)
  dsimp only [Pt.U, Pt.locs, Pt.cells, Pt.slots] at Xk29 lk29 yk29 zk29 stk29 hQk29
  subst lk29 yk29 zk29
  obtain ⟨rfl, Nk29q, ek29⟩ := hQk29
  have Nk29 := Fr.app Nk22 Nk29q
  have r30 : ∀ t_, Sp p e below Tk29 (mkF m 41 #[.val (.ref ls), .val (.int ng), .val (.ref bo1), .val (.ref ik11), .val (.ref x0)] [(.int ng), (.int g0)]) t_ → Sp p e below s₁ (entryFrame m #[(.ref ls), (.int ng)] 5) t_ := by
    intro t_ k_
    refine pre0 _ ?_
    refine sto1 _ ?_
    refine XS.dup Xo1.here hx rfl (hb hby d6_3) rfl rfl ?_
    refine stk5.trans ?_
    refine XS.astoreN Xk5.here hx rfl (hb hby d6_7) rfl rfl (l' := #[.val (.ref ls), .val (.int ng), .val (.ref bo1), .unset, .unset]) rfl ?_
    refine XS.aloadN Xk5.here hx rfl (hb hby d6_8) rfl rfl ?_
    refine stk11.trans ?_
    refine XS.astoreN Xk11.here hx rfl (hb hby d6_14) rfl rfl (l' := #[.val (.ref ls), .val (.int ng), .val (.ref bo1), .val (.ref ik11), .unset]) rfl ?_
    refine XS.aloadN Xk11.here hx rfl (hb hby d6_15) rfl rfl ?_
    refine stk17.trans ?_
    refine XS.ifNo Xk17.here hx rfl (hb hby d6_21) rfl ((if0 _ _).trans (feq (by decide : ¬ ((1 : Int32) = (0 : Int32)))).1) ?_
    refine XS.aloadN Xk17.here hx rfl (hb hby d6_24) rfl rfl ?_
    refine stk22.trans ?_
    refine stx24 _ ?_
    refine XS.astore Xx24.here hx rfl (hb hby d6_33) rfl rfl (l' := #[.val (.ref ls), .val (.int ng), .val (.ref bo1), .val (.ref ik11), .val (.ref x0)]) rfl ?_
    refine XS.aload Xx24.here hx rfl (hb hby d6_35) rfl rfl ?_
    refine stk29.trans ?_
    refine XS.iloadN Xk29.here hx rfl (hb hby d6_40) rfl ?_
    show Sp p e below Tk29 (mkF m 41 #[.val (.ref ls), .val (.int ng), .val (.ref bo1), .val (.ref ik11), .val (.ref x0)] [(.int ng), (.int g0)]) _
    exact k_
  by_cases c31 : g0 = ng
  · have F32 := (f6.keep K23 nin0)
    obtain ⟨cqk33, kqk33, qk33a, qk33b, qk33c⟩ := isOf hZ ek29 F25
    obtain ⟨_, _, ⟨Tk33, Lk33, kk33, nk33⟩, -, Xk33, ⟨Lck33, hQk33, lk33, yk33, zk33⟩, stk33⟩ := Xk29.virtualBack hx (y := Y18) (z := Y18) hown (mvT hZ (tw hw 194 rfl)) (mvT hZ (tw hw 195 rfl)) (notFace_of_selects (args := #[]) (mvT hZ (tw hw 197 rfl))) (mvT hZ (tw hw 197 rfl)) (mvT hZ (tw hw 196 rfl)) (by decide) (backOf (W := 1) (rm_prop l Z a0 hw [] x0 p0  Tk22.heap n0 Z27 O28 F32) hZ (tw hw 198 rfl) (tw hw 113 rfl) (by decide) (by decide)) qk33a qk33c (g := (mkF m 47 #[.val (.ref ls), .val (.int ng), .val (.ref bo1), .val (.ref ik11), .val (.ref x0)] [(.ref x0), (.ref bo1)])) rfl (by rw [hml]; rfl) (Steps.refl _) (argsL := []) (rest := [(.ref bo1)]) (lenOf pd___I rfl) rfl (by show 2 * 0 + _ ≤ _; exact Nat.le_of_eq rfl) (hb hby d6_47) (fun _ _ => ⟨rfl, ek29, (by decide : 2 + 0 ≤ _), (by decide : 7 + 0 ≤ _)⟩)
    dsimp only [Pt.U, Pt.locs, Pt.cells, Pt.slots] at Xk33 lk33 yk33 zk33 stk33 hQk33
    subst lk33 yk33 zk33
    obtain ⟨rfl, Nk33q, ek33⟩ := hQk33
    have Nk33 := Fr.app Nk29 Nk33q
    obtain ⟨_, _, ⟨Tk34, Lk34, kk34, nk34⟩, -, Xk34, ⟨Lck34, hQk34, lk34, yk34, zk34⟩, stk34⟩ := Jvm.LawKit.callS Xk33 hx (y := Y27) hown (mvT hZ (tw hw 199 rfl)) (mvT hZ (tw hw 200 rfl)) (mvT hZ (tw hw 201 rfl)) (mvT hZ (tw hw 202 rfl)) (by decide) (backOf (W := 1) (rm_valueof l Z a0 hw [] p0 aD kD aL aC Tk22.heap n0 Z27 O28 ⟨S_DEF, V_DEF, S_LIT, E_LIT, O_LIT, S_HI, S_CA, C_CA⟩) hZ (tw hw 202 rfl) (tw hw 201 rfl) (by decide) (by decide)) (g := (mkF m 50 #[.val (.ref ls), .val (.int ng), .val (.ref bo1), .val (.ref ik11), .val (.ref x0)] [(.int p0), (.ref bo1)])) rfl (by rw [hml]; rfl) (argsL := [(.int p0)]) (rest := [(.ref bo1)]) (lenOf pd__I_Ljava_lang_Integer_ rfl) rfl (by show 2 * 0 + _ ≤ _; exact Nat.le_of_eq rfl) (hb hby d6_50) (fun _ _ => ⟨rfl, ek33, (by decide : 2 + 1 ≤ _), (by decide : 7 + 1 ≤ _)⟩)
    dsimp only [Pt.U, Pt.locs, Pt.cells, Pt.slots] at Xk34 lk34 yk34 zk34 stk34 hQk34
    subst lk34 yk34 zk34
    obtain ⟨rk34, rfl, Nk34q, Kk34q, Qk34_0, Qk34_1⟩ := hQk34
    have K35 : Keep h0 Tk34.heap [] := K23.trans Kk34q all0
    have Nk34 := Fr.app Nk33 Nk34q
    have F36 := ((((Ao1.keep Kk5q).keep Kk11q).keep Kk22q).keep Kk34q)
    have F38 := ((Qk11_0.keep Kk22q).keep Kk34q)
    have ne37 : bo1 ≠ ik11 := ne_exa F36 F38 (by decide)
    have F39 := (((Qk5_0.keep Kk11q nin0).keep Kk22q (ninS ne37 nin0)).keep Kk34q nin0)
    have F40 := (((Qk5_1.keep Kk11q nin0).keep Kk22q (ninS ne37 nin0)).keep Kk34q nin0)
    have F41 := (((Qk5_2.keep Kk11q nin0).keep Kk22q (ninS ne37 nin0)).keep Kk34q nin0)
    have Z42 : n0 ≤ Tk34.heap.size := (Nat.le_trans Z27 Kk34q.1)
    have O43 : Old Z n0 Tk34.heap := (O28.keep Kk34q all0)
    obtain ⟨cqk44, kqk44, qk44a, qk44b, qk44c⟩ := isOf hZ rfl F36
    obtain ⟨_, _, ⟨Tk44, Lk44, kk44, nk44⟩, -, Xk44, ⟨Lck44, hQk44, lk44, yk44, zk44⟩, stk44⟩ := Xk34.interfaceBack hx (xi := Y34) (y := Y11) hown (mvT hZ (tw hw 206 rfl)) (mvT hZ (tw hw 207 rfl)) (mvT hZ (tw hw 208 rfl)) (mvT hZ (tw hw 209 rfl)) (mvT hZ (tw hw 147 rfl)) (mvT hZ (tw hw 210 rfl)) (mvT hZ (tw hw 211 rfl)) (mvT hZ (tw hw 83 rfl)) (by decide) (backOf (W := 0) (rm_add_0 l Z a0 hw [] bo1 rk34 (0 : Int32) (1 : Int32) aD kD aL aC Tk34.heap n0 Z42 O43 F36 F39 F40 F41 (Ins.of_exa Qk34_0 (tw hw 212 rfl)) ⟨S_DEF, V_DEF, S_LIT, E_LIT, O_LIT, S_HI, S_CA, C_CA⟩ g_bo1 (by decide)) hZ (tw hw 149 rfl) (tw hw 2 rfl) (by decide) (by decide)) qk44a qk44b qk44c (g := (mkF m 53 #[.val (.ref ls), .val (.int ng), .val (.ref bo1), .val (.ref ik11), .val (.ref x0)] [(.ref rk34), (.ref bo1)])) rfl (by rw [hml]; rfl) (Steps.refl _) (argsL := [(.ref rk34)]) (rest := []) (lenOf pd__Ljava_lang_Object__Z rfl) rfl (by show 2 * 0 + _ ≤ _; exact Nat.le_of_eq rfl) (hb hby d6_53) (fun _ _ => ⟨rfl, rfl, (by decide : 3 + 1 ≤ _), (by decide : 8 + 10 ≤ _)⟩)
    dsimp only [Pt.U, Pt.locs, Pt.cells, Pt.slots] at Xk44 lk44 yk44 zk44 stk44 hQk44
    subst lk44 yk44 zk44
    obtain ⟨bk44, kk44, rfl, Nk44q, Kk44q, Gk44_0, Qk44_0, Qk44_1, Qk44_2, Qk44_3, Qk44_4⟩ := hQk44
    have Y45 : h0.size ≤ Tk34.heap.size := (Nat.le_trans (Nat.le_trans (Nat.le_trans Y12 Kk11q.1) Kk22q.1) Kk34q.1)
    have g_bk44 : n0 ≤ bk44 := Nat.le_trans Z42 Gk44_0
    have y_bk44 : h0.size ≤ bk44 := Nat.le_trans Y45 Gk44_0
    have K46 : Keep h0 Tk44.heap [] := K35.trans Kk44q (allS (P := fun x => x ∈ ([] : List Addr) ∨ h0.size ≤ x) (Or.inr y_bo1) all0)
    have Nk44 := Fr.app Nk34 Nk44q
    have F47 := ((Qk22_1.keep Kk34q nin0).keep Kk44q (ninS (Ne.symm ne37) nin0))
    have F48 := ((Qk22_0.keep Kk34q nin0).keep Kk44q (ninS (Ne.symm ne37) nin0))
    have F50 := (((F18.keep Kk22q).keep Kk34q).keep Kk44q)
    have F51 := (F38.keep Kk44q)
    have ne49 : ls ≠ ik11 := ne_exa F50 F51 (by decide)
    have ne52 : ls ≠ bo1 := Nat.ne_of_lt (Nat.lt_of_lt_of_le f0.lt (Nat.le_of_eq go1.symm))
    have F53 := (((F14.keep Kk22q (ninS ne49 nin0)).keep Kk34q nin0).keep Kk44q (ninS ne52 nin0))
    have Z54 : n0 ≤ Tk44.heap.size := (Nat.le_trans Z42 Kk44q.1)
    have O55 : Old Z n0 Tk44.heap := (O43.keep Kk44q (allS g_bo1 all0))
    obtain ⟨cqk56, kqk56, qk56a, qk56b, qk56c⟩ := isOf hZ rfl F51
    obtain ⟨_, _, ⟨Tk56, Lk56, kk56, nk56⟩, -, Xk56, ⟨Lck56, hQk56, lk56, yk56, zk56⟩, stk56⟩ := Xk44.interfaceBack hx (xi := Y32) (y := Y14) hown (mvT hZ (tw hw 63 rfl)) (mvT hZ (tw hw 64 rfl)) (mvT hZ (tw hw 65 rfl)) (mvT hZ (tw hw 66 rfl)) (mvT hZ (tw hw 67 rfl)) (mvT hZ (tw hw 68 rfl)) (mvT hZ (tw hw 69 rfl)) (mvT hZ (tw hw 70 rfl)) (by decide) (backOf (W := 0) (rm_hasnext l Z a0 hw [] ik11 ls (1 : Int32) (2 : Int32) (1 : Int32)  Tk44.heap n0 Z54 O55 F47 F48 F53 (by decide)) hZ (tw hw 71 rfl) (tw hw 49 rfl) (by decide) (by decide)) qk56a qk56b qk56c (g := (mkF m 16 #[.val (.ref ls), .val (.int ng), .val (.ref bo1), .val (.ref ik11), .val (.ref x0)] [(.ref ik11)])) rfl (by rw [hml]; rfl) (Steps.refl _) (argsL := []) (rest := []) (lenOf pd___Z rfl) rfl (by show 2 * 0 + _ ≤ _; exact Nat.le_of_eq rfl) (hb hby d6_16) (fun _ _ => ⟨rfl, rfl, (by decide : 4 + 0 ≤ _), (by decide : 18 + 0 ≤ _)⟩)
    dsimp only [Pt.U, Pt.locs, Pt.cells, Pt.slots] at Xk56 lk56 yk56 zk56 stk56 hQk56
    subst lk56 yk56 zk56
    obtain ⟨rfl, Nk56q, ek56⟩ := hQk56
    have Nk56 := Fr.app Nk44 Nk56q
    have F57 := ((Qk22_2.keep Kk34q nin0).keep Kk44q (ninS (Ne.symm ne37) nin0))
    have F58 := ((Qk22_3.keep Kk34q nin0).keep Kk44q (ninS (Ne.symm ne37) nin0))
    have F59 := (((F19.keep Kk22q (ninS ne49 nin0)).keep Kk34q nin0).keep Kk44q (ninS ne52 nin0))
    have F60 := (((F20.keep Kk22q (ninS ne49 nin0)).keep Kk34q nin0).keep Kk44q (ninS ne52 nin0))
    have ne61 : ik11 ≠ ed := Exa.neArv Qk11_0 F21 (tw hw 48 rfl)
    have ne62 : bo1 ≠ ed := Exa.neArv ((Ao1.keep Kk5q).keep Kk11q) F21 (tw hw 1 rfl)
    have F63 := (((F21.keep Kk22q (ninS (Ne.symm ne61) nin0)).keep Kk34q nin0).keep Kk44q (ninS (Ne.symm ne62) nin0))
    obtain ⟨cqk64, kqk64, qk64a, qk64b, qk64c⟩ := isOf hZ ek56 F51
    obtain ⟨_, _, ⟨Tk64, Lk64, kk64, nk64⟩, -, Xk64, ⟨Lck64, hQk64, lk64, yk64, zk64⟩, stk64⟩ := Xk56.interfaceBack hx (xi := Y33) (y := Y16) hown (mvT hZ (tw hw 173 rfl)) (mvT hZ (tw hw 174 rfl)) (mvT hZ (tw hw 175 rfl)) (mvT hZ (tw hw 176 rfl)) (mvT hZ (tw hw 177 rfl)) (mvT hZ (tw hw 178 rfl)) (mvT hZ (tw hw 179 rfl)) (mvT hZ (tw hw 70 rfl)) (by decide) (backOf (W := 0) (rm_next l Z a0 hw [] ik11 ls (1 : Int32) (2 : Int32) (0 : Int32) mc (2 : Int32) ed ked [(.ref x0), (.ref x1), .null, .null, .null, .null, .null, .null, .null, .null] x1  Tk44.heap n0 Z54 O55 F51 F48 F47 F57 F58 F50 F59 F53 F60 F63 g_ik11 (by decide) (by decide) (by decide) (by decide) rfl) hZ (tw hw 180 rfl) (tw hw 49 rfl) (by decide) (by decide)) qk64a qk64b qk64c (g := (mkF m 25 #[.val (.ref ls), .val (.int ng), .val (.ref bo1), .val (.ref ik11), .val (.ref x0)] [(.ref ik11)])) rfl (by rw [hml]; rfl) (Steps.refl _) (argsL := []) (rest := []) (lenOf pd___Ljava_lang_Object_ rfl) rfl (by show 2 * 0 + _ ≤ _; exact Nat.le_of_eq rfl) (hb hby d6_25) (fun _ _ => ⟨rfl, ek56, (by decide : 4 + 0 ≤ _), (by decide : 18 + 0 ≤ _)⟩)
    dsimp only [Pt.U, Pt.locs, Pt.cells, Pt.slots] at Xk64 lk64 yk64 zk64 stk64 hQk64
    subst lk64 yk64 zk64
    obtain ⟨rfl, Nk64q, Kk64q, Qk64_0, Qk64_1, Qk64_2, Qk64_3⟩ := hQk64
    have K65 : Keep h0 Tk64.heap [] := K46.trans Kk64q (allS (P := fun x => x ∈ ([] : List Addr) ∨ h0.size ≤ x) (Or.inr y_ik11) all0)
    have Nk64 := Fr.app Nk56 Nk64q
    have F67 := (f8.keep K65)
    obtain ⟨Tx66, Xx66, ex66, stx66⟩ := castY Xk64 hx hZ hown (tw hw 187 rfl) rfl (Ins.self F67) (g := (mkF m 30 #[.val (.ref ls), .val (.int ng), .val (.ref bo1), .val (.ref ik11), .val (.ref x0)] [(.ref x1)])) rfl rfl (hb hby d6_30)
    have F68 := (f10.keep K65 nin0)
    have Z69 : n0 ≤ Tk64.heap.size := (Nat.le_trans Z54 Kk64q.1)
    have O70 : Old Z n0 Tk64.heap := (O55.keep Kk64q (allS g_ik11 all0))
    obtain ⟨cqk71, kqk71, qk71a, qk71b, qk71c⟩ := isOf hZ ex66 F67
    obtain ⟨_, _, ⟨Tk71, Lk71, kk71, nk71⟩, -, Xk71, ⟨Lck71, hQk71, lk71, yk71, zk71⟩, stk71⟩ := Xx66.virtualBack hx (y := Y17) (z := Y17) hown (mvT hZ (tw hw 189 rfl)) (mvT hZ (tw hw 190 rfl)) (notFace_of_selects (args := #[]) (mvT hZ (tw hw 192 rfl))) (mvT hZ (tw hw 192 rfl)) (mvT hZ (tw hw 191 rfl)) (by decide) (backOf (W := 0) (rm_isneg l Z a0 hw [] x1 g1  Tk64.heap n0 Z69 O70 F68 hg1) hZ (tw hw 193 rfl) (tw hw 113 rfl) (by decide) (by decide)) qk71a qk71c (g := (mkF m 37 #[.val (.ref ls), .val (.int ng), .val (.ref bo1), .val (.ref ik11), .val (.ref x1)] [(.ref x1)])) rfl (by rw [hml]; rfl) (Steps.refl _) (argsL := []) (rest := []) (lenOf pd___Z rfl) rfl (by show 2 * 0 + _ ≤ _; exact Nat.le_of_eq rfl) (hb hby d6_37) (fun _ _ => ⟨rfl, ex66, (by decide : 4 + 0 ≤ _), (by decide : 18 + 0 ≤ _)⟩)
    dsimp only [Pt.U, Pt.locs, Pt.cells, Pt.slots] at Xk71 lk71 yk71 zk71 stk71 hQk71
    subst lk71 yk71 zk71
    obtain ⟨rfl, Nk71q, ek71⟩ := hQk71
    have Nk71 := Fr.app Nk64 Nk71q
    have r72 : ∀ t_, Sp p e below Tk71 (mkF m 41 #[.val (.ref ls), .val (.int ng), .val (.ref bo1), .val (.ref ik11), .val (.ref x1)] [(.int ng), (.int g1)]) t_ → Sp p e below s₁ (entryFrame m #[(.ref ls), (.int ng)] 5) t_ := by
      intro t_ k_
      refine r30 _ ?_
      refine XS.icmpNo Xk29.here hx rfl (hb hby d6_41) rfl (teq c31).2 ?_
      refine XS.aloadN Xk29.here hx rfl (hb hby d6_44) rfl rfl ?_
      refine XS.aload Xk29.here hx rfl (hb hby d6_45) rfl rfl ?_
      refine stk33.trans ?_
      refine stk34 _ ?_
      refine stk44.trans ?_
      refine XS.pop Xk44.here hx rfl (hb hby d6_58) rfl rfl ?_
      refine XS.goto Xk44.here hx rfl (pc0 := 59) (pc' := 15) rfl (hb hby d6_59) (by decide) (by decide) ?_
      refine XS.aloadN Xk44.here hx rfl (hb hby d6_15) rfl rfl ?_
      refine stk56.trans ?_
      refine XS.ifNo Xk56.here hx rfl (hb hby d6_21) rfl ((if0 _ _).trans (feq (by decide : ¬ ((1 : Int32) = (0 : Int32)))).1) ?_
      refine XS.aloadN Xk56.here hx rfl (hb hby d6_24) rfl rfl ?_
      refine stk64.trans ?_
      refine stx66 _ ?_
      refine XS.astore Xx66.here hx rfl (hb hby d6_33) rfl rfl (l' := #[.val (.ref ls), .val (.int ng), .val (.ref bo1), .val (.ref ik11), .val (.ref x1)]) rfl ?_
      refine XS.aload Xx66.here hx rfl (hb hby d6_35) rfl rfl ?_
      refine stk71.trans ?_
      refine XS.iloadN Xk71.here hx rfl (hb hby d6_40) rfl ?_
      show Sp p e below Tk71 (mkF m 41 #[.val (.ref ls), .val (.int ng), .val (.ref bo1), .val (.ref ik11), .val (.ref x1)] [(.int ng), (.int g1)]) _
      exact k_
    by_cases c73 : g1 = ng
    · have F74 := (f9.keep K65 nin0)
      obtain ⟨cqk75, kqk75, qk75a, qk75b, qk75c⟩ := isOf hZ ek71 F67
      obtain ⟨_, _, ⟨Tk75, Lk75, kk75, nk75⟩, -, Xk75, ⟨Lck75, hQk75, lk75, yk75, zk75⟩, stk75⟩ := Xk71.virtualBack hx (y := Y18) (z := Y18) hown (mvT hZ (tw hw 194 rfl)) (mvT hZ (tw hw 195 rfl)) (notFace_of_selects (args := #[]) (mvT hZ (tw hw 197 rfl))) (mvT hZ (tw hw 197 rfl)) (mvT hZ (tw hw 196 rfl)) (by decide) (backOf (W := 1) (rm_prop l Z a0 hw [] x1 p1  Tk64.heap n0 Z69 O70 F74) hZ (tw hw 198 rfl) (tw hw 113 rfl) (by decide) (by decide)) qk75a qk75c (g := (mkF m 47 #[.val (.ref ls), .val (.int ng), .val (.ref bo1), .val (.ref ik11), .val (.ref x1)] [(.ref x1), (.ref bo1)])) rfl (by rw [hml]; rfl) (Steps.refl _) (argsL := []) (rest := [(.ref bo1)]) (lenOf pd___I rfl) rfl (by show 2 * 0 + _ ≤ _; exact Nat.le_of_eq rfl) (hb hby d6_47) (fun _ _ => ⟨rfl, ek71, (by decide : 4 + 0 ≤ _), (by decide : 18 + 0 ≤ _)⟩)
      dsimp only [Pt.U, Pt.locs, Pt.cells, Pt.slots] at Xk75 lk75 yk75 zk75 stk75 hQk75
      subst lk75 yk75 zk75
      obtain ⟨rfl, Nk75q, ek75⟩ := hQk75
      have Nk75 := Fr.app Nk71 Nk75q
      obtain ⟨_, _, ⟨Tk76, Lk76, kk76, nk76⟩, -, Xk76, ⟨Lck76, hQk76, lk76, yk76, zk76⟩, stk76⟩ := Jvm.LawKit.callS Xk75 hx (y := Y27) hown (mvT hZ (tw hw 199 rfl)) (mvT hZ (tw hw 200 rfl)) (mvT hZ (tw hw 201 rfl)) (mvT hZ (tw hw 202 rfl)) (by decide) (backOf (W := 1) (rm_valueof l Z a0 hw [] p1 aD kD aL aC Tk64.heap n0 Z69 O70 ⟨S_DEF, V_DEF, S_LIT, E_LIT, O_LIT, S_HI, S_CA, C_CA⟩) hZ (tw hw 202 rfl) (tw hw 201 rfl) (by decide) (by decide)) (g := (mkF m 50 #[.val (.ref ls), .val (.int ng), .val (.ref bo1), .val (.ref ik11), .val (.ref x1)] [(.int p1), (.ref bo1)])) rfl (by rw [hml]; rfl) (argsL := [(.int p1)]) (rest := [(.ref bo1)]) (lenOf pd__I_Ljava_lang_Integer_ rfl) rfl (by show 2 * 0 + _ ≤ _; exact Nat.le_of_eq rfl) (hb hby d6_50) (fun _ _ => ⟨rfl, ek75, (by decide : 4 + 1 ≤ _), (by decide : 18 + 1 ≤ _)⟩)
      dsimp only [Pt.U, Pt.locs, Pt.cells, Pt.slots] at Xk76 lk76 yk76 zk76 stk76 hQk76
      subst lk76 yk76 zk76
      obtain ⟨rk76, rfl, Nk76q, Kk76q, Qk76_0, Qk76_1⟩ := hQk76
      have K77 : Keep h0 Tk76.heap [] := K65.trans Kk76q all0
      have Nk76 := Fr.app Nk75 Nk76q
      have F78 := (((F36.keep Kk44q).keep Kk64q).keep Kk76q)
      have F79 := ((Qk44_0.keep Kk64q (ninS ne37 nin0)).keep Kk76q nin0)
      have F80 := ((Qk44_1.keep Kk64q (ninS ne37 nin0)).keep Kk76q nin0)
      have F81 := ((Qk44_2.keep Kk64q (ninS ne37 nin0)).keep Kk76q nin0)
      have ne82 : ik11 ≠ bk44 := Exa.neArv (((Qk11_0.keep Kk22q).keep Kk34q).keep Kk44q) Qk44_3 (tw hw 48 rfl)
      have F83 := ((Qk44_3.keep Kk64q (ninS (Ne.symm ne82) nin0)).keep Kk76q nin0)
      have F84 := Qk44_4
      have ne85 : bo1 ≠ bk44 := Exa.neArv (((((((Ao1.keep Kk5q).keep Kk11q).keep Kk22q).keep Kk34q).keep Kk44q).keep Kk64q).keep Kk76q) F83 (tw hw 1 rfl)
      have Z86 : n0 ≤ Tk76.heap.size := (Nat.le_trans Z69 Kk76q.1)
      have O87 : Old Z n0 Tk76.heap := (O70.keep Kk76q all0)
      obtain ⟨cqk88, kqk88, qk88a, qk88b, qk88c⟩ := isOf hZ rfl F78
      obtain ⟨_, _, ⟨Tk88, Lk88, kk88, nk88⟩, -, Xk88, ⟨Lck88, hQk88, lk88, yk88, zk88⟩, stk88⟩ := Xk76.interfaceBack hx (xi := Y34) (y := Y11) hown (mvT hZ (tw hw 206 rfl)) (mvT hZ (tw hw 207 rfl)) (mvT hZ (tw hw 208 rfl)) (mvT hZ (tw hw 209 rfl)) (mvT hZ (tw hw 147 rfl)) (mvT hZ (tw hw 210 rfl)) (mvT hZ (tw hw 211 rfl)) (mvT hZ (tw hw 83 rfl)) (by decide) (backOf (W := 0) (rm_add_1 l Z a0 hw [] bo1 rk76 bk44 kk44 (1 : Int32) (2 : Int32) rk34 aD kD aL aC Tk76.heap n0 Z86 O87 F78 F79 F80 F81 (Ins.of_exa Qk76_0 (tw hw 212 rfl)) F83 F84 ⟨S_DEF, V_DEF, S_LIT, E_LIT, O_LIT, S_HI, S_CA, C_CA⟩ g_bo1 g_bk44 ne85 (by decide)) hZ (tw hw 149 rfl) (tw hw 2 rfl) (by decide) (by decide)) qk88a qk88b qk88c (g := (mkF m 53 #[.val (.ref ls), .val (.int ng), .val (.ref bo1), .val (.ref ik11), .val (.ref x1)] [(.ref rk76), (.ref bo1)])) rfl (by rw [hml]; rfl) (Steps.refl _) (argsL := [(.ref rk76)]) (rest := []) (lenOf pd__Ljava_lang_Object__Z rfl) rfl (by show 2 * 0 + _ ≤ _; exact Nat.le_of_eq rfl) (hb hby d6_53) (fun _ _ => ⟨rfl, rfl, (by decide : 5 + 0 ≤ _), (by decide : 19 + 0 ≤ _)⟩)
      dsimp only [Pt.U, Pt.locs, Pt.cells, Pt.slots] at Xk88 lk88 yk88 zk88 stk88 hQk88
      subst lk88 yk88 zk88
      obtain ⟨rfl, Nk88q, Kk88q, Qk88_0, Qk88_1, Qk88_2, Qk88_3⟩ := hQk88
      have K89 : Keep h0 Tk88.heap [] := K77.trans Kk88q (allS (P := fun x => x ∈ ([] : List Addr) ∨ h0.size ≤ x) (Or.inr y_bo1) (allS (P := fun x => x ∈ ([] : List Addr) ∨ h0.size ≤ x) (Or.inr y_bk44) all0))
      have Nk88 := Fr.app Nk76 Nk88q
      have F90 := ((Qk64_1.keep Kk76q nin0).keep Kk88q (ninS (Ne.symm ne37) (ninS ne82 nin0)))
      have F91 := ((Qk64_0.keep Kk76q nin0).keep Kk88q (ninS (Ne.symm ne37) (ninS ne82 nin0)))
      have ne92 : ls ≠ bk44 := Exa.neArv (((((((((f0.ext Eo1).keep Kk5q).keep Kk11q).keep Kk22q).keep Kk34q).keep Kk44q).keep Kk64q).keep Kk76q).keep Kk88q) Qk88_3 (tw hw 1 rfl)
      have F93 := (((F53.keep Kk64q (ninS ne49 nin0)).keep Kk76q nin0).keep Kk88q (ninS ne52 (ninS ne92 nin0)))
      have Z94 : n0 ≤ Tk88.heap.size := (Nat.le_trans Z86 Kk88q.1)
      have O95 : Old Z n0 Tk88.heap := (O87.keep Kk88q (allS g_bo1 (allS g_bk44 all0)))
      have F97 := (((F51.keep Kk64q).keep Kk76q).keep Kk88q)
      obtain ⟨cqk96, kqk96, qk96a, qk96b, qk96c⟩ := isOf hZ rfl F97
      obtain ⟨_, _, ⟨Tk96, Lk96, kk96, nk96⟩, -, Xk96, ⟨Lck96, hQk96, lk96, yk96, zk96⟩, stk96⟩ := Xk88.interfaceBack hx (xi := Y32) (y := Y14) hown (mvT hZ (tw hw 63 rfl)) (mvT hZ (tw hw 64 rfl)) (mvT hZ (tw hw 65 rfl)) (mvT hZ (tw hw 66 rfl)) (mvT hZ (tw hw 67 rfl)) (mvT hZ (tw hw 68 rfl)) (mvT hZ (tw hw 69 rfl)) (mvT hZ (tw hw 70 rfl)) (by decide) (backOf (W := 0) (rm_hasnext l Z a0 hw [] ik11 ls (2 : Int32) (2 : Int32) (0 : Int32)  Tk88.heap n0 Z94 O95 F90 F91 F93 (by decide)) hZ (tw hw 71 rfl) (tw hw 49 rfl) (by decide) (by decide)) qk96a qk96b qk96c (g := (mkF m 16 #[.val (.ref ls), .val (.int ng), .val (.ref bo1), .val (.ref ik11), .val (.ref x1)] [(.ref ik11)])) rfl (by rw [hml]; rfl) (Steps.refl _) (argsL := []) (rest := []) (lenOf pd___Z rfl) rfl (by show 2 * 0 + _ ≤ _; exact Nat.le_of_eq rfl) (hb hby d6_16) (fun _ _ => ⟨rfl, rfl, (by decide : 5 + 0 ≤ _), (by decide : 19 + 0 ≤ _)⟩)
      dsimp only [Pt.U, Pt.locs, Pt.cells, Pt.slots] at Xk96 lk96 yk96 zk96 stk96 hQk96
      subst lk96 yk96 zk96
      obtain ⟨rfl, Nk96q, ek96⟩ := hQk96
      have Nk96 := Fr.app Nk88 Nk96q
      have r98 : ∀ t_, Sp p e below Tk96 (mkF m 62 #[.val (.ref ls), .val (.int ng), .val (.ref bo1), .val (.ref ik11), .val (.ref x1)] []) t_ → Sp p e below s₁ (entryFrame m #[(.ref ls), (.int ng)] 5) t_ := by
        intro t_ k_
        refine r72 _ ?_
        refine XS.icmpNo Xk71.here hx rfl (hb hby d6_41) rfl (teq c73).2 ?_
        refine XS.aloadN Xk71.here hx rfl (hb hby d6_44) rfl rfl ?_
        refine XS.aload Xk71.here hx rfl (hb hby d6_45) rfl rfl ?_
        refine stk75.trans ?_
        refine stk76 _ ?_
        refine stk88.trans ?_
        refine XS.pop Xk88.here hx rfl (hb hby d6_58) rfl rfl ?_
        refine XS.goto Xk88.here hx rfl (pc0 := 59) (pc' := 15) rfl (hb hby d6_59) (by decide) (by decide) ?_
        refine XS.aloadN Xk88.here hx rfl (hb hby d6_15) rfl rfl ?_
        refine stk96.trans ?_
        refine XS.ifYes Xk96.here hx rfl (pc0 := 21) (pc' := 62) rfl (hb hby d6_21) rfl ((if0 _ _).trans (teq (by decide : (0 : Int32) = (0 : Int32))).1) (by decide) (by decide) ?_
        show Sp p e below Tk96 (mkF m 62 #[.val (.ref ls), .val (.int ng), .val (.ref bo1), .val (.ref ik11), .val (.ref x1)] []) _
        exact k_
      have hvs1 : vs = [(.int p0), (.int p1)] := by rw [hvs]; first | done | simp [own_f, c31, c73]
      have hz1 : z = (2 : Int32) := by rw [hz, hvs1]; first | done | rfl
      have F99 := (F78.keep Kk88q)
      have F100 := ((((Qk34_0.keep Kk44q).keep Kk64q).keep Kk76q).keep Kk88q)
      have ne101 : rk34 ≠ bo1 := ne_exa F100 F99 (by decide)
      have ne102 : rk34 ≠ ik11 := ne_exa F100 F97 (by decide)
      have ne103 : rk34 ≠ bk44 := Exa.neArv ((((Qk34_0.keep Kk44q).keep Kk64q).keep Kk76q).keep Kk88q) Qk88_3 (tw hw 244 rfl)
      have F104 := ((((Qk34_1.keep Kk44q (ninS ne101 nin0)).keep Kk64q (ninS ne102 nin0)).keep Kk76q nin0).keep Kk88q (ninS ne101 (ninS ne103 nin0)))
      have F105 := (Qk76_0.keep Kk88q)
      have ne106 : rk76 ≠ bk44 := Exa.neArv (Qk76_0.keep Kk88q) Qk88_3 (tw hw 244 rfl)
      have ne107 : rk76 ≠ bo1 := ne_exa F105 F99 (by decide)
      have F108 := (Qk76_1.keep Kk88q (ninS ne107 (ninS ne106 nin0)))
      have Y109 : h0.size ≤ Tk88.heap.size := (Nat.le_trans (Nat.le_trans (Nat.le_trans (Nat.le_trans Y45 Kk44q.1) Kk64q.1) Kk76q.1) Kk88q.1)
      obtain ⟨s₂, _, u1, u2, u3, _, L, rfl, ⟨b, kb, rfl, Nb, Kb, gb, Eb, Vb⟩, u5⟩ := tl_pt2 p l e s m _ below meth c _ _ Z a0 hw ls ng bo1 ik11 x1 bk44 kk44 rk34 rk76 p0 p1 Tk88.heap n0 (Xk96.more (by decide) (by decide)) hx hZ hby hml hown hret Bd.notSynchronized ek96 Nk96 Z94 O95 F99 Qk88_1 Qk88_0 Qk88_3 F100 F104 F105 F108
      exact ⟨s₂, _, r98 _ u1, u2, u3, _, L, rfl, ⟨b, kb, rfl, Nb, Keep.trans K89 Kb all0, Nat.le_trans Y109 gb, Eb, by rw [hz1, hvs1]; exact Vb⟩, u5⟩
    · have F110 := (F53.keep Kk64q (ninS ne49 nin0))
      have F112 := (F51.keep Kk64q)
      obtain ⟨cqk111, kqk111, qk111a, qk111b, qk111c⟩ := isOf hZ ek71 F112
      obtain ⟨_, _, ⟨Tk111, Lk111, kk111, nk111⟩, -, Xk111, ⟨Lck111, hQk111, lk111, yk111, zk111⟩, stk111⟩ := Xk71.interfaceBack hx (xi := Y32) (y := Y14) hown (mvT hZ (tw hw 63 rfl)) (mvT hZ (tw hw 64 rfl)) (mvT hZ (tw hw 65 rfl)) (mvT hZ (tw hw 66 rfl)) (mvT hZ (tw hw 67 rfl)) (mvT hZ (tw hw 68 rfl)) (mvT hZ (tw hw 69 rfl)) (mvT hZ (tw hw 70 rfl)) (by decide) (backOf (W := 0) (rm_hasnext l Z a0 hw [] ik11 ls (2 : Int32) (2 : Int32) (0 : Int32)  Tk64.heap n0 Z69 O70 Qk64_1 Qk64_0 F110 (by decide)) hZ (tw hw 71 rfl) (tw hw 49 rfl) (by decide) (by decide)) qk111a qk111b qk111c (g := (mkF m 16 #[.val (.ref ls), .val (.int ng), .val (.ref bo1), .val (.ref ik11), .val (.ref x1)] [(.ref ik11)])) rfl (by rw [hml]; rfl) (Steps.refl _) (argsL := []) (rest := []) (lenOf pd___Z rfl) rfl (by show 2 * 0 + _ ≤ _; exact Nat.le_of_eq rfl) (hb hby d6_16) (fun _ _ => ⟨rfl, ek71, (by decide : 4 + 0 ≤ _), (by decide : 18 + 0 ≤ _)⟩)
      dsimp only [Pt.U, Pt.locs, Pt.cells, Pt.slots] at Xk111 lk111 yk111 zk111 stk111 hQk111
      subst lk111 yk111 zk111
      obtain ⟨rfl, Nk111q, ek111⟩ := hQk111
      have Nk111 := Fr.app Nk71 Nk111q
      have r113 : ∀ t_, Sp p e below Tk111 (mkF m 62 #[.val (.ref ls), .val (.int ng), .val (.ref bo1), .val (.ref ik11), .val (.ref x1)] []) t_ → Sp p e below s₁ (entryFrame m #[(.ref ls), (.int ng)] 5) t_ := by
        intro t_ k_
        refine r72 _ ?_
        refine XS.icmpYes Xk71.here hx rfl (pc0 := 41) (pc' := 59) rfl (hb hby d6_41) rfl (feq c73).2 (by decide) (by decide) ?_
        refine XS.goto Xk71.here hx rfl (pc0 := 59) (pc' := 15) rfl (hb hby d6_59) (by decide) (by decide) ?_
        refine XS.aloadN Xk71.here hx rfl (hb hby d6_15) rfl rfl ?_
        refine stk111.trans ?_
        refine XS.ifYes Xk111.here hx rfl (pc0 := 21) (pc' := 62) rfl (hb hby d6_21) rfl ((if0 _ _).trans (teq (by decide : (0 : Int32) = (0 : Int32))).1) (by decide) (by decide) ?_
        show Sp p e below Tk111 (mkF m 62 #[.val (.ref ls), .val (.int ng), .val (.ref bo1), .val (.ref ik11), .val (.ref x1)] []) _
        exact k_
      have hvs1 : vs = [(.int p0)] := by rw [hvs]; first | done | simp [own_f, c31, c73]
      have hz1 : z = (1 : Int32) := by rw [hz, hvs1]; first | done | rfl
      have F114 := ((F36.keep Kk44q).keep Kk64q)
      have F115 := (Qk44_1.keep Kk64q (ninS ne37 nin0))
      have F116 := (Qk44_0.keep Kk64q (ninS ne37 nin0))
      have ne117 : ik11 ≠ bk44 := Exa.neArv (((Qk11_0.keep Kk22q).keep Kk34q).keep Kk44q) Qk44_3 (tw hw 48 rfl)
      have F118 := (Qk44_3.keep Kk64q (ninS (Ne.symm ne117) nin0))
      have F119 := ((Qk34_0.keep Kk44q).keep Kk64q)
      have ne120 : rk34 ≠ bo1 := ne_exa F119 F114 (by decide)
      have ne121 : rk34 ≠ ik11 := ne_exa F119 F112 (by decide)
      have F122 := ((Qk34_1.keep Kk44q (ninS ne120 nin0)).keep Kk64q (ninS ne121 nin0))
      have Y123 : h0.size ≤ Tk64.heap.size := (Nat.le_trans (Nat.le_trans Y45 Kk44q.1) Kk64q.1)
      obtain ⟨s₂, _, u1, u2, u3, _, L, rfl, ⟨b, kb, rfl, Nb, Kb, gb, Eb, Vb⟩, u5⟩ := tl_pt1 p l e s m _ below meth c _ _ Z a0 hw ls ng bo1 ik11 x1 bk44 kk44 rk34 p0 Tk64.heap n0 (Xk111.more (by decide) (by decide)) hx hZ hby hml hown hret Bd.notSynchronized ek111 Nk111 Z69 O70 F114 F115 F116 F118 F119 F122
      exact ⟨s₂, _, r113 _ u1, u2, u3, _, L, rfl, ⟨b, kb, rfl, Nb, Keep.trans K65 Kb all0, Nat.le_trans Y123 gb, Eb, by rw [hz1, hvs1]; exact Vb⟩, u5⟩
  · have F125 := (F18.keep Kk22q)
    have F126 := (Qk11_0.keep Kk22q)
    have ne124 : ls ≠ ik11 := ne_exa F125 F126 (by decide)
    have F127 := (F14.keep Kk22q (ninS ne124 nin0))
    obtain ⟨cqk128, kqk128, qk128a, qk128b, qk128c⟩ := isOf hZ ek29 F126
    obtain ⟨_, _, ⟨Tk128, Lk128, kk128, nk128⟩, -, Xk128, ⟨Lck128, hQk128, lk128, yk128, zk128⟩, stk128⟩ := Xk29.interfaceBack hx (xi := Y32) (y := Y14) hown (mvT hZ (tw hw 63 rfl)) (mvT hZ (tw hw 64 rfl)) (mvT hZ (tw hw 65 rfl)) (mvT hZ (tw hw 66 rfl)) (mvT hZ (tw hw 67 rfl)) (mvT hZ (tw hw 68 rfl)) (mvT hZ (tw hw 69 rfl)) (mvT hZ (tw hw 70 rfl)) (by decide) (backOf (W := 0) (rm_hasnext l Z a0 hw [] ik11 ls (1 : Int32) (2 : Int32) (1 : Int32)  Tk22.heap n0 Z27 O28 Qk22_1 Qk22_0 F127 (by decide)) hZ (tw hw 71 rfl) (tw hw 49 rfl) (by decide) (by decide)) qk128a qk128b qk128c (g := (mkF m 16 #[.val (.ref ls), .val (.int ng), .val (.ref bo1), .val (.ref ik11), .val (.ref x0)] [(.ref ik11)])) rfl (by rw [hml]; rfl) (Steps.refl _) (argsL := []) (rest := []) (lenOf pd___Z rfl) rfl (by show 2 * 0 + _ ≤ _; exact Nat.le_of_eq rfl) (hb hby d6_16) (fun _ _ => ⟨rfl, ek29, (by decide : 2 + 0 ≤ _), (by decide : 7 + 0 ≤ _)⟩)
    dsimp only [Pt.U, Pt.locs, Pt.cells, Pt.slots] at Xk128 lk128 yk128 zk128 stk128 hQk128
    subst lk128 yk128 zk128
    obtain ⟨rfl, Nk128q, ek128⟩ := hQk128
    have Nk128 := Fr.app Nk29 Nk128q
    have F129 := (F19.keep Kk22q (ninS ne124 nin0))
    have F130 := (F20.keep Kk22q (ninS ne124 nin0))
    have ne131 : ik11 ≠ ed := Exa.neArv Qk11_0 F21 (tw hw 48 rfl)
    have F132 := (F21.keep Kk22q (ninS (Ne.symm ne131) nin0))
    obtain ⟨cqk133, kqk133, qk133a, qk133b, qk133c⟩ := isOf hZ ek128 F126
    obtain ⟨_, _, ⟨Tk133, Lk133, kk133, nk133⟩, -, Xk133, ⟨Lck133, hQk133, lk133, yk133, zk133⟩, stk133⟩ := Xk128.interfaceBack hx (xi := Y33) (y := Y16) hown (mvT hZ (tw hw 173 rfl)) (mvT hZ (tw hw 174 rfl)) (mvT hZ (tw hw 175 rfl)) (mvT hZ (tw hw 176 rfl)) (mvT hZ (tw hw 177 rfl)) (mvT hZ (tw hw 178 rfl)) (mvT hZ (tw hw 179 rfl)) (mvT hZ (tw hw 70 rfl)) (by decide) (backOf (W := 0) (rm_next l Z a0 hw [] ik11 ls (1 : Int32) (2 : Int32) (0 : Int32) mc (2 : Int32) ed ked [(.ref x0), (.ref x1), .null, .null, .null, .null, .null, .null, .null, .null] x1  Tk22.heap n0 Z27 O28 F126 Qk22_0 Qk22_1 Qk22_2 Qk22_3 F125 F129 F127 F130 F132 g_ik11 (by decide) (by decide) (by decide) (by decide) rfl) hZ (tw hw 180 rfl) (tw hw 49 rfl) (by decide) (by decide)) qk133a qk133b qk133c (g := (mkF m 25 #[.val (.ref ls), .val (.int ng), .val (.ref bo1), .val (.ref ik11), .val (.ref x0)] [(.ref ik11)])) rfl (by rw [hml]; rfl) (Steps.refl _) (argsL := []) (rest := []) (lenOf pd___Ljava_lang_Object_ rfl) rfl (by show 2 * 0 + _ ≤ _; exact Nat.le_of_eq rfl) (hb hby d6_25) (fun _ _ => ⟨rfl, ek128, (by decide : 2 + 0 ≤ _), (by decide : 7 + 0 ≤ _)⟩)
    dsimp only [Pt.U, Pt.locs, Pt.cells, Pt.slots] at Xk133 lk133 yk133 zk133 stk133 hQk133
    subst lk133 yk133 zk133
    obtain ⟨rfl, Nk133q, Kk133q, Qk133_0, Qk133_1, Qk133_2, Qk133_3⟩ := hQk133
    have K134 : Keep h0 Tk133.heap [] := K23.trans Kk133q (allS (P := fun x => x ∈ ([] : List Addr) ∨ h0.size ≤ x) (Or.inr y_ik11) all0)
    have Nk133 := Fr.app Nk128 Nk133q
    have F136 := (f8.keep K134)
    obtain ⟨Tx135, Xx135, ex135, stx135⟩ := castY Xk133 hx hZ hown (tw hw 187 rfl) rfl (Ins.self F136) (g := (mkF m 30 #[.val (.ref ls), .val (.int ng), .val (.ref bo1), .val (.ref ik11), .val (.ref x0)] [(.ref x1)])) rfl rfl (hb hby d6_30)
    have F137 := (f10.keep K134 nin0)
    have Z138 : n0 ≤ Tk133.heap.size := (Nat.le_trans Z27 Kk133q.1)
    have O139 : Old Z n0 Tk133.heap := (O28.keep Kk133q (allS g_ik11 all0))
    obtain ⟨cqk140, kqk140, qk140a, qk140b, qk140c⟩ := isOf hZ ex135 F136
    obtain ⟨_, _, ⟨Tk140, Lk140, kk140, nk140⟩, -, Xk140, ⟨Lck140, hQk140, lk140, yk140, zk140⟩, stk140⟩ := Xx135.virtualBack hx (y := Y17) (z := Y17) hown (mvT hZ (tw hw 189 rfl)) (mvT hZ (tw hw 190 rfl)) (notFace_of_selects (args := #[]) (mvT hZ (tw hw 192 rfl))) (mvT hZ (tw hw 192 rfl)) (mvT hZ (tw hw 191 rfl)) (by decide) (backOf (W := 0) (rm_isneg l Z a0 hw [] x1 g1  Tk133.heap n0 Z138 O139 F137 hg1) hZ (tw hw 193 rfl) (tw hw 113 rfl) (by decide) (by decide)) qk140a qk140c (g := (mkF m 37 #[.val (.ref ls), .val (.int ng), .val (.ref bo1), .val (.ref ik11), .val (.ref x1)] [(.ref x1)])) rfl (by rw [hml]; rfl) (Steps.refl _) (argsL := []) (rest := []) (lenOf pd___Z rfl) rfl (by show 2 * 0 + _ ≤ _; exact Nat.le_of_eq rfl) (hb hby d6_37) (fun _ _ => ⟨rfl, ex135, (by decide : 2 + 0 ≤ _), (by decide : 7 + 0 ≤ _)⟩)
    dsimp only [Pt.U, Pt.locs, Pt.cells, Pt.slots] at Xk140 lk140 yk140 zk140 stk140 hQk140
    subst lk140 yk140 zk140
    obtain ⟨rfl, Nk140q, ek140⟩ := hQk140
    have Nk140 := Fr.app Nk133 Nk140q
    have r141 : ∀ t_, Sp p e below Tk140 (mkF m 41 #[.val (.ref ls), .val (.int ng), .val (.ref bo1), .val (.ref ik11), .val (.ref x1)] [(.int ng), (.int g1)]) t_ → Sp p e below s₁ (entryFrame m #[(.ref ls), (.int ng)] 5) t_ := by
      intro t_ k_
      refine r30 _ ?_
      refine XS.icmpYes Xk29.here hx rfl (pc0 := 41) (pc' := 59) rfl (hb hby d6_41) rfl (feq c31).2 (by decide) (by decide) ?_
      refine XS.goto Xk29.here hx rfl (pc0 := 59) (pc' := 15) rfl (hb hby d6_59) (by decide) (by decide) ?_
      refine XS.aloadN Xk29.here hx rfl (hb hby d6_15) rfl rfl ?_
      refine stk128.trans ?_
      refine XS.ifNo Xk128.here hx rfl (hb hby d6_21) rfl ((if0 _ _).trans (feq (by decide : ¬ ((1 : Int32) = (0 : Int32)))).1) ?_
      refine XS.aloadN Xk128.here hx rfl (hb hby d6_24) rfl rfl ?_
      refine stk133.trans ?_
      refine stx135 _ ?_
      refine XS.astore Xx135.here hx rfl (hb hby d6_33) rfl rfl (l' := #[.val (.ref ls), .val (.int ng), .val (.ref bo1), .val (.ref ik11), .val (.ref x1)]) rfl ?_
      refine XS.aload Xx135.here hx rfl (hb hby d6_35) rfl rfl ?_
      refine stk140.trans ?_
      refine XS.iloadN Xk140.here hx rfl (hb hby d6_40) rfl ?_
      show Sp p e below Tk140 (mkF m 41 #[.val (.ref ls), .val (.int ng), .val (.ref bo1), .val (.ref ik11), .val (.ref x1)] [(.int ng), (.int g1)]) _
      exact k_
    by_cases c142 : g1 = ng
    · have F143 := (f9.keep K134 nin0)
      obtain ⟨cqk144, kqk144, qk144a, qk144b, qk144c⟩ := isOf hZ ek140 F136
      obtain ⟨_, _, ⟨Tk144, Lk144, kk144, nk144⟩, -, Xk144, ⟨Lck144, hQk144, lk144, yk144, zk144⟩, stk144⟩ := Xk140.virtualBack hx (y := Y18) (z := Y18) hown (mvT hZ (tw hw 194 rfl)) (mvT hZ (tw hw 195 rfl)) (notFace_of_selects (args := #[]) (mvT hZ (tw hw 197 rfl))) (mvT hZ (tw hw 197 rfl)) (mvT hZ (tw hw 196 rfl)) (by decide) (backOf (W := 1) (rm_prop l Z a0 hw [] x1 p1  Tk133.heap n0 Z138 O139 F143) hZ (tw hw 198 rfl) (tw hw 113 rfl) (by decide) (by decide)) qk144a qk144c (g := (mkF m 47 #[.val (.ref ls), .val (.int ng), .val (.ref bo1), .val (.ref ik11), .val (.ref x1)] [(.ref x1), (.ref bo1)])) rfl (by rw [hml]; rfl) (Steps.refl _) (argsL := []) (rest := [(.ref bo1)]) (lenOf pd___I rfl) rfl (by show 2 * 0 + _ ≤ _; exact Nat.le_of_eq rfl) (hb hby d6_47) (fun _ _ => ⟨rfl, ek140, (by decide : 2 + 0 ≤ _), (by decide : 7 + 0 ≤ _)⟩)
      dsimp only [Pt.U, Pt.locs, Pt.cells, Pt.slots] at Xk144 lk144 yk144 zk144 stk144 hQk144
      subst lk144 yk144 zk144
      obtain ⟨rfl, Nk144q, ek144⟩ := hQk144
      have Nk144 := Fr.app Nk140 Nk144q
      obtain ⟨_, _, ⟨Tk145, Lk145, kk145, nk145⟩, -, Xk145, ⟨Lck145, hQk145, lk145, yk145, zk145⟩, stk145⟩ := Jvm.LawKit.callS Xk144 hx (y := Y27) hown (mvT hZ (tw hw 199 rfl)) (mvT hZ (tw hw 200 rfl)) (mvT hZ (tw hw 201 rfl)) (mvT hZ (tw hw 202 rfl)) (by decide) (backOf (W := 1) (rm_valueof l Z a0 hw [] p1 aD kD aL aC Tk133.heap n0 Z138 O139 ⟨S_DEF, V_DEF, S_LIT, E_LIT, O_LIT, S_HI, S_CA, C_CA⟩) hZ (tw hw 202 rfl) (tw hw 201 rfl) (by decide) (by decide)) (g := (mkF m 50 #[.val (.ref ls), .val (.int ng), .val (.ref bo1), .val (.ref ik11), .val (.ref x1)] [(.int p1), (.ref bo1)])) rfl (by rw [hml]; rfl) (argsL := [(.int p1)]) (rest := [(.ref bo1)]) (lenOf pd__I_Ljava_lang_Integer_ rfl) rfl (by show 2 * 0 + _ ≤ _; exact Nat.le_of_eq rfl) (hb hby d6_50) (fun _ _ => ⟨rfl, ek144, (by decide : 2 + 1 ≤ _), (by decide : 7 + 1 ≤ _)⟩)
      dsimp only [Pt.U, Pt.locs, Pt.cells, Pt.slots] at Xk145 lk145 yk145 zk145 stk145 hQk145
      subst lk145 yk145 zk145
      obtain ⟨rk145, rfl, Nk145q, Kk145q, Qk145_0, Qk145_1⟩ := hQk145
      have K146 : Keep h0 Tk145.heap [] := K134.trans Kk145q all0
      have Nk145 := Fr.app Nk144 Nk145q
      have F147 := (((((Ao1.keep Kk5q).keep Kk11q).keep Kk22q).keep Kk133q).keep Kk145q)
      have F149 := ((F126.keep Kk133q).keep Kk145q)
      have ne148 : bo1 ≠ ik11 := ne_exa F147 F149 (by decide)
      have F150 := ((((Qk5_0.keep Kk11q nin0).keep Kk22q (ninS ne148 nin0)).keep Kk133q (ninS ne148 nin0)).keep Kk145q nin0)
      have F151 := ((((Qk5_1.keep Kk11q nin0).keep Kk22q (ninS ne148 nin0)).keep Kk133q (ninS ne148 nin0)).keep Kk145q nin0)
      have F152 := ((((Qk5_2.keep Kk11q nin0).keep Kk22q (ninS ne148 nin0)).keep Kk133q (ninS ne148 nin0)).keep Kk145q nin0)
      have Z153 : n0 ≤ Tk145.heap.size := (Nat.le_trans Z138 Kk145q.1)
      have O154 : Old Z n0 Tk145.heap := (O139.keep Kk145q all0)
      obtain ⟨cqk155, kqk155, qk155a, qk155b, qk155c⟩ := isOf hZ rfl F147
      obtain ⟨_, _, ⟨Tk155, Lk155, kk155, nk155⟩, -, Xk155, ⟨Lck155, hQk155, lk155, yk155, zk155⟩, stk155⟩ := Xk145.interfaceBack hx (xi := Y34) (y := Y11) hown (mvT hZ (tw hw 206 rfl)) (mvT hZ (tw hw 207 rfl)) (mvT hZ (tw hw 208 rfl)) (mvT hZ (tw hw 209 rfl)) (mvT hZ (tw hw 147 rfl)) (mvT hZ (tw hw 210 rfl)) (mvT hZ (tw hw 211 rfl)) (mvT hZ (tw hw 83 rfl)) (by decide) (backOf (W := 0) (rm_add_0 l Z a0 hw [] bo1 rk145 (0 : Int32) (1 : Int32) aD kD aL aC Tk145.heap n0 Z153 O154 F147 F150 F151 F152 (Ins.of_exa Qk145_0 (tw hw 212 rfl)) ⟨S_DEF, V_DEF, S_LIT, E_LIT, O_LIT, S_HI, S_CA, C_CA⟩ g_bo1 (by decide)) hZ (tw hw 149 rfl) (tw hw 2 rfl) (by decide) (by decide)) qk155a qk155b qk155c (g := (mkF m 53 #[.val (.ref ls), .val (.int ng), .val (.ref bo1), .val (.ref ik11), .val (.ref x1)] [(.ref rk145), (.ref bo1)])) rfl (by rw [hml]; rfl) (Steps.refl _) (argsL := [(.ref rk145)]) (rest := []) (lenOf pd__Ljava_lang_Object__Z rfl) rfl (by show 2 * 0 + _ ≤ _; exact Nat.le_of_eq rfl) (hb hby d6_53) (fun _ _ => ⟨rfl, rfl, (by decide : 3 + 1 ≤ _), (by decide : 8 + 10 ≤ _)⟩)
      dsimp only [Pt.U, Pt.locs, Pt.cells, Pt.slots] at Xk155 lk155 yk155 zk155 stk155 hQk155
      subst lk155 yk155 zk155
      obtain ⟨bk155, kk155, rfl, Nk155q, Kk155q, Gk155_0, Qk155_0, Qk155_1, Qk155_2, Qk155_3, Qk155_4⟩ := hQk155
      have Y156 : h0.size ≤ Tk145.heap.size := (Nat.le_trans (Nat.le_trans (Nat.le_trans (Nat.le_trans Y12 Kk11q.1) Kk22q.1) Kk133q.1) Kk145q.1)
      have g_bk155 : n0 ≤ bk155 := Nat.le_trans Z153 Gk155_0
      have y_bk155 : h0.size ≤ bk155 := Nat.le_trans Y156 Gk155_0
      have K157 : Keep h0 Tk155.heap [] := K146.trans Kk155q (allS (P := fun x => x ∈ ([] : List Addr) ∨ h0.size ≤ x) (Or.inr y_bo1) all0)
      have Nk155 := Fr.app Nk145 Nk155q
      have F158 := ((Qk133_1.keep Kk145q nin0).keep Kk155q (ninS (Ne.symm ne148) nin0))
      have F159 := ((Qk133_0.keep Kk145q nin0).keep Kk155q (ninS (Ne.symm ne148) nin0))
      have ne160 : ls ≠ bo1 := Nat.ne_of_lt (Nat.lt_of_lt_of_le f0.lt (Nat.le_of_eq go1.symm))
      have F161 := (((F127.keep Kk133q (ninS ne124 nin0)).keep Kk145q nin0).keep Kk155q (ninS ne160 nin0))
      have Z162 : n0 ≤ Tk155.heap.size := (Nat.le_trans Z153 Kk155q.1)
      have O163 : Old Z n0 Tk155.heap := (O154.keep Kk155q (allS g_bo1 all0))
      have F165 := (F149.keep Kk155q)
      obtain ⟨cqk164, kqk164, qk164a, qk164b, qk164c⟩ := isOf hZ rfl F165
      obtain ⟨_, _, ⟨Tk164, Lk164, kk164, nk164⟩, -, Xk164, ⟨Lck164, hQk164, lk164, yk164, zk164⟩, stk164⟩ := Xk155.interfaceBack hx (xi := Y32) (y := Y14) hown (mvT hZ (tw hw 63 rfl)) (mvT hZ (tw hw 64 rfl)) (mvT hZ (tw hw 65 rfl)) (mvT hZ (tw hw 66 rfl)) (mvT hZ (tw hw 67 rfl)) (mvT hZ (tw hw 68 rfl)) (mvT hZ (tw hw 69 rfl)) (mvT hZ (tw hw 70 rfl)) (by decide) (backOf (W := 0) (rm_hasnext l Z a0 hw [] ik11 ls (2 : Int32) (2 : Int32) (0 : Int32)  Tk155.heap n0 Z162 O163 F158 F159 F161 (by decide)) hZ (tw hw 71 rfl) (tw hw 49 rfl) (by decide) (by decide)) qk164a qk164b qk164c (g := (mkF m 16 #[.val (.ref ls), .val (.int ng), .val (.ref bo1), .val (.ref ik11), .val (.ref x1)] [(.ref ik11)])) rfl (by rw [hml]; rfl) (Steps.refl _) (argsL := []) (rest := []) (lenOf pd___Z rfl) rfl (by show 2 * 0 + _ ≤ _; exact Nat.le_of_eq rfl) (hb hby d6_16) (fun _ _ => ⟨rfl, rfl, (by decide : 4 + 0 ≤ _), (by decide : 18 + 0 ≤ _)⟩)
      dsimp only [Pt.U, Pt.locs, Pt.cells, Pt.slots] at Xk164 lk164 yk164 zk164 stk164 hQk164
      subst lk164 yk164 zk164
      obtain ⟨rfl, Nk164q, ek164⟩ := hQk164
      have Nk164 := Fr.app Nk155 Nk164q
      have r166 : ∀ t_, Sp p e below Tk164 (mkF m 62 #[.val (.ref ls), .val (.int ng), .val (.ref bo1), .val (.ref ik11), .val (.ref x1)] []) t_ → Sp p e below s₁ (entryFrame m #[(.ref ls), (.int ng)] 5) t_ := by
        intro t_ k_
        refine r141 _ ?_
        refine XS.icmpNo Xk140.here hx rfl (hb hby d6_41) rfl (teq c142).2 ?_
        refine XS.aloadN Xk140.here hx rfl (hb hby d6_44) rfl rfl ?_
        refine XS.aload Xk140.here hx rfl (hb hby d6_45) rfl rfl ?_
        refine stk144.trans ?_
        refine stk145 _ ?_
        refine stk155.trans ?_
        refine XS.pop Xk155.here hx rfl (hb hby d6_58) rfl rfl ?_
        refine XS.goto Xk155.here hx rfl (pc0 := 59) (pc' := 15) rfl (hb hby d6_59) (by decide) (by decide) ?_
        refine XS.aloadN Xk155.here hx rfl (hb hby d6_15) rfl rfl ?_
        refine stk164.trans ?_
        refine XS.ifYes Xk164.here hx rfl (pc0 := 21) (pc' := 62) rfl (hb hby d6_21) rfl ((if0 _ _).trans (teq (by decide : (0 : Int32) = (0 : Int32))).1) (by decide) (by decide) ?_
        show Sp p e below Tk164 (mkF m 62 #[.val (.ref ls), .val (.int ng), .val (.ref bo1), .val (.ref ik11), .val (.ref x1)] []) _
        exact k_
      have hvs1 : vs = [(.int p1)] := by rw [hvs]; first | done | simp [own_f, c31, c142]
      have hz1 : z = (1 : Int32) := by rw [hz, hvs1]; first | done | rfl
      have F167 := (F147.keep Kk155q)
      have F168 := (Qk145_0.keep Kk155q)
      have ne169 : rk145 ≠ bo1 := ne_exa F168 F167 (by decide)
      have F170 := (Qk145_1.keep Kk155q (ninS ne169 nin0))
      have Y171 : h0.size ≤ Tk155.heap.size := (Nat.le_trans Y156 Kk155q.1)
      obtain ⟨s₂, _, u1, u2, u3, _, L, rfl, ⟨b, kb, rfl, Nb, Kb, gb, Eb, Vb⟩, u5⟩ := tl_pt1 p l e s m _ below meth c _ _ Z a0 hw ls ng bo1 ik11 x1 bk155 kk155 rk145 p1 Tk155.heap n0 (Xk164.more (by decide) (by decide)) hx hZ hby hml hown hret Bd.notSynchronized ek164 Nk164 Z162 O163 F167 Qk155_1 Qk155_0 Qk155_3 F168 F170
      exact ⟨s₂, _, r166 _ u1, u2, u3, _, L, rfl, ⟨b, kb, rfl, Nb, Keep.trans K157 Kb all0, Nat.le_trans Y171 gb, Eb, by rw [hz1, hvs1]; exact Vb⟩, u5⟩
    · have F172 := (F127.keep Kk133q (ninS ne124 nin0))
      have F174 := (F126.keep Kk133q)
      obtain ⟨cqk173, kqk173, qk173a, qk173b, qk173c⟩ := isOf hZ ek140 F174
      obtain ⟨_, _, ⟨Tk173, Lk173, kk173, nk173⟩, -, Xk173, ⟨Lck173, hQk173, lk173, yk173, zk173⟩, stk173⟩ := Xk140.interfaceBack hx (xi := Y32) (y := Y14) hown (mvT hZ (tw hw 63 rfl)) (mvT hZ (tw hw 64 rfl)) (mvT hZ (tw hw 65 rfl)) (mvT hZ (tw hw 66 rfl)) (mvT hZ (tw hw 67 rfl)) (mvT hZ (tw hw 68 rfl)) (mvT hZ (tw hw 69 rfl)) (mvT hZ (tw hw 70 rfl)) (by decide) (backOf (W := 0) (rm_hasnext l Z a0 hw [] ik11 ls (2 : Int32) (2 : Int32) (0 : Int32)  Tk133.heap n0 Z138 O139 Qk133_1 Qk133_0 F172 (by decide)) hZ (tw hw 71 rfl) (tw hw 49 rfl) (by decide) (by decide)) qk173a qk173b qk173c (g := (mkF m 16 #[.val (.ref ls), .val (.int ng), .val (.ref bo1), .val (.ref ik11), .val (.ref x1)] [(.ref ik11)])) rfl (by rw [hml]; rfl) (Steps.refl _) (argsL := []) (rest := []) (lenOf pd___Z rfl) rfl (by show 2 * 0 + _ ≤ _; exact Nat.le_of_eq rfl) (hb hby d6_16) (fun _ _ => ⟨rfl, ek140, (by decide : 2 + 0 ≤ _), (by decide : 7 + 0 ≤ _)⟩)
      dsimp only [Pt.U, Pt.locs, Pt.cells, Pt.slots] at Xk173 lk173 yk173 zk173 stk173 hQk173
      subst lk173 yk173 zk173
      obtain ⟨rfl, Nk173q, ek173⟩ := hQk173
      have Nk173 := Fr.app Nk140 Nk173q
      have r175 : ∀ t_, Sp p e below Tk173 (mkF m 62 #[.val (.ref ls), .val (.int ng), .val (.ref bo1), .val (.ref ik11), .val (.ref x1)] []) t_ → Sp p e below s₁ (entryFrame m #[(.ref ls), (.int ng)] 5) t_ := by
        intro t_ k_
        refine r141 _ ?_
        refine XS.icmpYes Xk140.here hx rfl (pc0 := 41) (pc' := 59) rfl (hb hby d6_41) rfl (feq c142).2 (by decide) (by decide) ?_
        refine XS.goto Xk140.here hx rfl (pc0 := 59) (pc' := 15) rfl (hb hby d6_59) (by decide) (by decide) ?_
        refine XS.aloadN Xk140.here hx rfl (hb hby d6_15) rfl rfl ?_
        refine stk173.trans ?_
        refine XS.ifYes Xk173.here hx rfl (pc0 := 21) (pc' := 62) rfl (hb hby d6_21) rfl ((if0 _ _).trans (teq (by decide : (0 : Int32) = (0 : Int32))).1) (by decide) (by decide) ?_
        show Sp p e below Tk173 (mkF m 62 #[.val (.ref ls), .val (.int ng), .val (.ref bo1), .val (.ref ik11), .val (.ref x1)] []) _
        exact k_
      have hvs1 : vs = [] := by rw [hvs]; first | done | simp [own_f, c31, c142]
      have hz1 : z = (0 : Int32) := by rw [hz, hvs1]; first | done | rfl
      have F176 := ((((Ao1.keep Kk5q).keep Kk11q).keep Kk22q).keep Kk133q)
      have ne177 : bo1 ≠ ik11 := ne_exa F176 F174 (by decide)
      have F178 := (((Qk5_1.keep Kk11q nin0).keep Kk22q (ninS ne177 nin0)).keep Kk133q (ninS ne177 nin0))
      have F179 := (((Qk5_0.keep Kk11q nin0).keep Kk22q (ninS ne177 nin0)).keep Kk133q (ninS ne177 nin0))
      have Y180 : h0.size ≤ Tk133.heap.size := (Nat.le_trans (Nat.le_trans (Nat.le_trans Y12 Kk11q.1) Kk22q.1) Kk133q.1)
      obtain ⟨s₂, _, u1, u2, u3, _, L, rfl, ⟨b, kb, rfl, Nb, Kb, gb, Eb, Vb⟩, u5⟩ := tl_pt0 p l e s m _ below meth c _ _ Z a0 hw ls ng bo1 ik11 x1 aD   Tk133.heap n0 (Xk173.more (by decide) (by decide)) hx hZ hby hml hown hret Bd.notSynchronized ek173 Nk173 Z138 O139 F176 F178 F179
      exact ⟨s₂, _, r175 _ u1, u2, u3, _, L, rfl, ⟨b, kb, rfl, Nb, Keep.trans K134 Kb all0, Nat.le_trans Y180 gb, Eb, by rw [hz1, hvs1]; exact Vb⟩, u5⟩
def Q_props3 (Z : State) (ls : Addr) (mc : Int32) (ed : Addr) (ked : ClassId) (x0 : Addr) (x1 : Addr) (x2 : Addr) (p0 : Int32) (p1 : Int32) (p2 : Int32) (g0 : Int32) (g1 : Int32) (g2 : Int32) (ng : Int32) (z : Int32) (vs : List Value) (aD : Addr) (kD : ClassId) (aL : Addr) (aC : Addr) (h0 : Heap) (n0 : Nat) (v : Option Value) (h : Heap) (L : List Loc) : Prop := ∃ b : Addr, ∃ kb : ClassId, v = some (.ref b) ∧ Fr n0 L ∧ Keep h0 h [] ∧ h0.size ≤ b ∧ Exa Z h b "[I" ∧ Arv Z h b kb .int z vs (.int (0 : Int32))
set_option maxRecDepth 65536 in
set_option maxHeartbeats 40000000 in
theorem rm_props3 (l : Launch) (Z : State) (a0 : Array Value) (hw : ∀ d ∈ tables_1, d.before a0 Z = true) (ws : List Jvm.Cond) (ls : Addr) (mc : Int32) (ed : Addr) (ked : ClassId) (x0 : Addr) (x1 : Addr) (x2 : Addr) (p0 : Int32) (p1 : Int32) (p2 : Int32) (g0 : Int32) (g1 : Int32) (g2 : Int32) (ng : Int32) (z : Int32) (vs : List Value) (aD : Addr) (kD : ClassId) (aL : Addr) (aC : Addr) (h0 : Heap) (n0 : Nat) (Z0 : n0 ≤ h0.size) (O0 : Old Z n0 h0) (f0 : Exa Z h0 ls S1) (f1 : Fld Z h0 ls S1 "elementData" S2 (.ref ed)) (f2 : Fld Z h0 ls S1 "size" "I" (.int (3 : Int32))) (f3 : Fld Z h0 ls S5 "modCount" "I" (.int mc)) (f4 : Arv Z h0 ed ked (.object S3) (10 : Int32) [(.ref x0), (.ref x1), (.ref x2), .null, .null, .null, .null, .null, .null, .null] .null) (f5 : Exa Z h0 x0 S6) (f6 : Fld Z h0 x0 S6 "proposition" "I" (.int p0)) (f7 : Fld Z h0 x0 S6 "negated" "Z" (.int g0)) (f8 : Exa Z h0 x1 S6) (f9 : Fld Z h0 x1 S6 "proposition" "I" (.int p1)) (f10 : Fld Z h0 x1 S6 "negated" "Z" (.int g1)) (f11 : Exa Z h0 x2 S6) (f12 : Fld Z h0 x2 S6 "proposition" "I" (.int p2)) (f13 : Fld Z h0 x2 S6 "negated" "Z" (.int g2)) (SS : own_start Z aD kD aL aC) (hg0 : g0 = 0 ∨ g0 = 1) (hg1 : g1 = 0 ∨ g1 = 1) (hg2 : g2 = 0 ∨ g2 = 1) (hvs : vs = own_f g0 ng p0 ++ own_f g1 ng p1 ++ own_f g2 ng p2) (hz : z = Int32.ofNat vs.length) :
    MetFree l Y30 (head1 (Jvm.Cond.code Y30 prog_25_method_2_code 5 (some (.array .int)) :: ws) ({ frames := 5, cells := 7, slots := 23, locals := 69 } : Room)) (fun A_ U => A_ = #[(.ref ls), (.int ng)] ∧ Z.Warmed39 U.vm ∧ U.heap = h0) (fun _ _ _ _ _ => True) (fun _ U o_ U' => ∃ v_ L_, o_ = .returned v_ ∧ Q_props3 Z ls mc ed ked x0 x1 x2 p0 p1 p2 g0 g1 g2 ng z vs aD kD aL aC h0 n0 v_ U'.heap L_ ∧ FrameEnd U o_ U' L_ ({ frames := 5, cells := 7, slots := 23, locals := 69 } : Room).cells ({ frames := 5, cells := 7, slots := 23, locals := 69 } : Room).slots) := by
  refine MetFree.of_bodySF (plainFor_of_name pn_10) hisR ?_
  intro p e s m args below meth c s₁ Bd hml0 hP hK
  obtain ⟨rfl, hZ, hh⟩ := hP
  have hx := Bd.exec
  have hby := Bd.bytes
  have hml : c.maxLocals = 5 := hml0
  have hown : s.vm.findClass S8 = some m.cls := findClass_of_methodNamed Bd.named
  have hnm := (name_of_methodNamed Bd.named Bd.method).1
  have hret := Bd.returns
  have X0 : Stand p l e ({ frames := 5, cells := 7, slots := 23, locals := 69 } : Room) s m #[(.ref ls), (.int ng)] below meth c s₁ [] 0 0 := Stand.of_body Bd
  have e0 : s₁.heap = h0 := by rw [← hh, Bd.state]; rfl
  have N0 := Fr.nil n0
  have pre0 : ∀ t_, Sp p e below s₁ (mkF m 0 #[.val (.ref ls), .val (.int ng), .unset, .unset, .unset] []) t_ → Sp p e below s₁ (entryFrame m #[(.ref ls), (.int ng)] 5) t_ := fun t_ k_ => castTop (ef_6_RI m ls ng) k_
  obtain ⟨S_DEF, V_DEF, S_LIT, E_LIT, O_LIT, S_HI, S_CA, C_CA⟩ := SS
  obtain ⟨To1, ho1, Xo1, eo1, Eo1, Ao1, Do1, -, sto1⟩ := newO X0 hx hZ hown (tw hw 36 rfl) (tw hw 1 rfl) (tw hw 2 rfl) e0 (g := (mkF m 0 #[.val (.ref ls), .val (.int ng), .unset, .unset, .unset] [])) rfl (hb hby d6_0) (by decide) (by decide)
  obtain ⟨bo1, go1⟩ : ∃ z, z = h0.size := ⟨_, rfl⟩
  rw [← go1] at Ao1 Do1 sto1
  have g_bo1 : n0 ≤ bo1 := Nat.le_trans Z0 (Nat.le_of_eq go1.symm)
  have y_bo1 : h0.size ≤ bo1 := Nat.le_trans (Nat.le_refl h0.size) (Nat.le_of_eq go1.symm)
  have K2 : Keep h0 ho1 [] := (Keep.refl h0 []).ext Eo1
  have Fo1_modCount : Fld Z ho1 bo1 S5 "modCount" "I" (.int (0 : Int32)) := Do1 (Or.inl (tw hw 22 rfl)) (ty := .int) (by decide)
  have Fo1_elementData : Fld Z ho1 bo1 S1 "elementData" S2 .null := Do1 (Or.inl (tw hw 25 rfl)) (ty := (.array (.object S3))) (by decide)
  have Fo1_size : Fld Z ho1 bo1 S1 "size" "I" (.int (0 : Int32)) := Do1 (Or.inl (tw hw 75 rfl)) (ty := .int) (by decide)
  have Z3 : n0 ≤ ho1.size := (Nat.le_trans Z0 Eo1.1)
  have O4 : Old Z n0 ho1 := (O0.ext Eo1)
  obtain ⟨_, _, ⟨Tk5, Lk5, kk5, nk5⟩, -, Xk5, ⟨Lck5, hQk5, lk5, yk5, zk5⟩, stk5⟩ := Xo1.specialBack hx (y := Y2) rfl hown (mvT hZ (tw hw 37 rfl)) (mvT hZ (tw hw 4 rfl)) (mvT hZ (tw hw 5 rfl)) (by decide) (backOf (W := 1) (rm_alinit l Z a0 hw [] bo1 aD kD aL aC ho1 n0 Z3 O4 Ao1 Fo1_elementData Fo1_size Fo1_modCount ⟨S_DEF, V_DEF, S_LIT, E_LIT, O_LIT, S_HI, S_CA, C_CA⟩ g_bo1) hZ (tw hw 5 rfl) (tw hw 2 rfl) (by decide) (by decide)) (g := (mkF m 4 #[.val (.ref ls), .val (.int ng), .unset, .unset, .unset] [(.ref bo1), (.ref bo1)])) rfl (by rw [hml]; rfl) (Steps.refl _) (a := bo1) (argsL := []) (rest := [(.ref bo1)]) (lenOf pd___V rfl) rfl (by show 2 * 0 + _ ≤ _; exact Nat.le_of_eq rfl) (hb hby d6_4) (fun _ _ => ⟨rfl, eo1, (by decide : 1 + 0 ≤ _), (by decide : 3 + 0 ≤ _)⟩)
  dsimp only [Pt.U, Pt.locs, Pt.cells, Pt.slots] at Xk5 lk5 yk5 zk5 stk5 hQk5
  subst lk5 yk5 zk5
  obtain ⟨rfl, Nk5q, Kk5q, Qk5_0, Qk5_1, Qk5_2⟩ := hQk5
  have K6 : Keep h0 Tk5.heap [] := K2.trans Kk5q (allS (P := fun x => x ∈ ([] : List Addr) ∨ h0.size ≤ x) (Or.inr y_bo1) all0)
  have Nk5 := Fr.app N0 Nk5q
  have F7 := (f0.keep K6)
  have F8 := (f3.keep K6 nin0)
  have Z9 : n0 ≤ Tk5.heap.size := (Nat.le_trans Z3 Kk5q.1)
  have O10 : Old Z n0 Tk5.heap := (O4.keep Kk5q (allS g_bo1 all0))
  obtain ⟨cqk11, kqk11, qk11a, qk11b, qk11c⟩ := isOf hZ rfl F7
  obtain ⟨_, _, ⟨Tk11, Lk11, kk11, nk11⟩, -, Xk11, ⟨Lck11, hQk11, lk11, yk11, zk11⟩, stk11⟩ := Xk5.interfaceBack hx (xi := Y31) (y := Y13) hown (mvT hZ (tw hw 38 rfl)) (mvT hZ (tw hw 39 rfl)) (mvT hZ (tw hw 40 rfl)) (mvT hZ (tw hw 41 rfl)) (mvT hZ (tw hw 42 rfl)) (mvT hZ (tw hw 43 rfl)) (mvT hZ (tw hw 44 rfl)) (mvT hZ (tw hw 45 rfl)) (by decide) (backOf (W := 0) (rm_iterator l Z a0 hw [] ls mc  Tk5.heap n0 Z9 O10 F7 F8) hZ (tw hw 46 rfl) (tw hw 2 rfl) (by decide) (by decide)) qk11a qk11b qk11c (g := (mkF m 9 #[.val (.ref ls), .val (.int ng), .val (.ref bo1), .unset, .unset] [(.ref ls)])) rfl (by rw [hml]; rfl) (Steps.refl _) (argsL := []) (rest := []) (lenOf pd___Ljava_util_Iterator_ rfl) rfl (by show 2 * 0 + _ ≤ _; exact Nat.le_of_eq rfl) (hb hby d6_9) (fun _ _ => ⟨rfl, rfl, (by decide : 1 + 1 ≤ _), (by decide : 3 + 4 ≤ _)⟩)
  dsimp only [Pt.U, Pt.locs, Pt.cells, Pt.slots] at Xk11 lk11 yk11 zk11 stk11 hQk11
  subst lk11 yk11 zk11
  obtain ⟨ik11, rfl, Nk11q, Kk11q, Gk11_0, Qk11_0, Qk11_1, Qk11_2, Qk11_3, Qk11_4⟩ := hQk11
  have Y12 : h0.size ≤ Tk5.heap.size := (Nat.le_trans (Nat.le_trans (Nat.le_refl h0.size) Eo1.1) Kk5q.1)
  have g_ik11 : n0 ≤ ik11 := Nat.le_trans Z9 Gk11_0
  have y_ik11 : h0.size ≤ ik11 := Nat.le_trans Y12 Gk11_0
  have K13 : Keep h0 Tk11.heap [] := K6.trans Kk11q all0
  have Nk11 := Fr.app Nk5 Nk11q
  have F14 := (f2.keep K13 nin0)
  have Z15 : n0 ≤ Tk11.heap.size := (Nat.le_trans Z9 Kk11q.1)
  have O16 : Old Z n0 Tk11.heap := (O10.keep Kk11q all0)
  obtain ⟨cqk17, kqk17, qk17a, qk17b, qk17c⟩ := isOf hZ rfl Qk11_0
  obtain ⟨_, _, ⟨Tk17, Lk17, kk17, nk17⟩, -, Xk17, ⟨Lck17, hQk17, lk17, yk17, zk17⟩, stk17⟩ := Xk11.interfaceBack hx (xi := Y32) (y := Y14) hown (mvT hZ (tw hw 63 rfl)) (mvT hZ (tw hw 64 rfl)) (mvT hZ (tw hw 65 rfl)) (mvT hZ (tw hw 66 rfl)) (mvT hZ (tw hw 67 rfl)) (mvT hZ (tw hw 68 rfl)) (mvT hZ (tw hw 69 rfl)) (mvT hZ (tw hw 70 rfl)) (by decide) (backOf (W := 0) (rm_hasnext l Z a0 hw [] ik11 ls (0 : Int32) (3 : Int32) (1 : Int32)  Tk11.heap n0 Z15 O16 Qk11_2 Qk11_1 F14 (by decide)) hZ (tw hw 71 rfl) (tw hw 49 rfl) (by decide) (by decide)) qk17a qk17b qk17c (g := (mkF m 16 #[.val (.ref ls), .val (.int ng), .val (.ref bo1), .val (.ref ik11), .unset] [(.ref ik11)])) rfl (by rw [hml]; rfl) (Steps.refl _) (argsL := []) (rest := []) (lenOf pd___Z rfl) rfl (by show 2 * 0 + _ ≤ _; exact Nat.le_of_eq rfl) (hb hby d6_16) (fun _ _ => ⟨rfl, rfl, (by decide : 2 + 0 ≤ _), (by decide : 7 + 0 ≤ _)⟩)
  dsimp only [Pt.U, Pt.locs, Pt.cells, Pt.slots] at Xk17 lk17 yk17 zk17 stk17 hQk17
  subst lk17 yk17 zk17
  obtain ⟨rfl, Nk17q, ek17⟩ := hQk17
  have Nk17 := Fr.app Nk11 Nk17q
  have F18 := (F7.keep Kk11q)
  have F19 := (F8.keep Kk11q nin0)
  have F20 := (f1.keep K13 nin0)
  have F21 := (f4.keep K13 nin0)
  obtain ⟨cqk22, kqk22, qk22a, qk22b, qk22c⟩ := isOf hZ ek17 Qk11_0
  obtain ⟨_, _, ⟨Tk22, Lk22, kk22, nk22⟩, -, Xk22, ⟨Lck22, hQk22, lk22, yk22, zk22⟩, stk22⟩ := Xk17.interfaceBack hx (xi := Y33) (y := Y16) hown (mvT hZ (tw hw 173 rfl)) (mvT hZ (tw hw 174 rfl)) (mvT hZ (tw hw 175 rfl)) (mvT hZ (tw hw 176 rfl)) (mvT hZ (tw hw 177 rfl)) (mvT hZ (tw hw 178 rfl)) (mvT hZ (tw hw 179 rfl)) (mvT hZ (tw hw 70 rfl)) (by decide) (backOf (W := 0) (rm_next l Z a0 hw [] ik11 ls (0 : Int32) (1 : Int32) (-1 : Int32) mc (3 : Int32) ed ked [(.ref x0), (.ref x1), (.ref x2), .null, .null, .null, .null, .null, .null, .null] x0  Tk11.heap n0 Z15 O16 Qk11_0 Qk11_1 Qk11_2 Qk11_3 Qk11_4 F18 F19 F14 F20 F21 g_ik11 (by decide) (by decide) (by decide) (by decide) rfl) hZ (tw hw 180 rfl) (tw hw 49 rfl) (by decide) (by decide)) qk22a qk22b qk22c (g := (mkF m 25 #[.val (.ref ls), .val (.int ng), .val (.ref bo1), .val (.ref ik11), .unset] [(.ref ik11)])) rfl (by rw [hml]; rfl) (Steps.refl _) (argsL := []) (rest := []) (lenOf pd___Ljava_lang_Object_ rfl) rfl (by show 2 * 0 + _ ≤ _; exact Nat.le_of_eq rfl) (hb hby d6_25) (fun _ _ => ⟨rfl, ek17, (by decide : 2 + 0 ≤ _), (by decide : 7 + 0 ≤ _)⟩)
  dsimp only [Pt.U, Pt.locs, Pt.cells, Pt.slots] at Xk22 lk22 yk22 zk22 stk22 hQk22
  subst lk22 yk22 zk22
  obtain ⟨rfl, Nk22q, Kk22q, Qk22_0, Qk22_1, Qk22_2, Qk22_3⟩ := hQk22
  have K23 : Keep h0 Tk22.heap [] := K13.trans Kk22q (allS (P := fun x => x ∈ ([] : List Addr) ∨ h0.size ≤ x) (Or.inr y_ik11) all0)
  have Nk22 := Fr.app Nk17 Nk22q
  have F25 := (f5.keep K23)
  obtain ⟨Tx24, Xx24, ex24, stx24⟩ := castY Xk22 hx hZ hown (tw hw 187 rfl) rfl (Ins.self F25) (g := (mkF m 30 #[.val (.ref ls), .val (.int ng), .val (.ref bo1), .val (.ref ik11), .unset] [(.ref x0)])) rfl rfl (hb hby d6_30)
  have F26 := (f7.keep K23 nin0)
  have Z27 : n0 ≤ Tk22.heap.size := (Nat.le_trans Z15 Kk22q.1)
  have O28 : Old Z n0 Tk22.heap := (O16.keep Kk22q (allS g_ik11 all0))
  obtain ⟨cqk29, kqk29, qk29a, qk29b, qk29c⟩ := isOf hZ ex24 F25
  obtain ⟨_, _, ⟨Tk29, Lk29, kk29, nk29⟩, -, Xk29, ⟨Lck29, hQk29, lk29, yk29, zk29⟩, stk29⟩ := Xx24.virtualBack hx (y := Y17) (z := Y17) hown (mvT hZ (tw hw 189 rfl)) (mvT hZ (tw hw 190 rfl)) (notFace_of_selects (args := #[]) (mvT hZ (tw hw 192 rfl))) (mvT hZ (tw hw 192 rfl)) (mvT hZ (tw hw 191 rfl)) (by decide) (backOf (W := 0) (rm_isneg l Z a0 hw [] x0 g0  Tk22.heap n0 Z27 O28 F26 hg0) hZ (tw hw 193 rfl) (tw hw 113 rfl) (by decide) (by decide)) qk29a qk29c (g := (mkF m 37 #[.val (.ref ls), .val (.int ng), .val (.ref bo1), .val (.ref ik11), .val (.ref x0)] [(.ref x0)])) rfl (by rw [hml]; rfl) (Steps.refl _) (argsL := []) (rest := []) (lenOf pd___Z rfl) rfl (by show 2 * 0 + _ ≤ _; exact Nat.le_of_eq rfl) (hb hby d6_37) (fun _ _ => ⟨rfl, ex24, (by decide : 2 + 0 ≤ _), (by decide : 7 + 0 ≤ _)⟩)
  dsimp only [Pt.U, Pt.locs, Pt.cells, Pt.slots] at Xk29 lk29 yk29 zk29 stk29 hQk29
  subst lk29 yk29 zk29
  obtain ⟨rfl, Nk29q, ek29⟩ := hQk29
  have Nk29 := Fr.app Nk22 Nk29q
  have r30 : ∀ t_, Sp p e below Tk29 (mkF m 41 #[.val (.ref ls), .val (.int ng), .val (.ref bo1), .val (.ref ik11), .val (.ref x0)] [(.int ng), (.int g0)]) t_ → Sp p e below s₁ (entryFrame m #[(.ref ls), (.int ng)] 5) t_ := by
    intro t_ k_
    refine pre0 _ ?_
    refine sto1 _ ?_
    refine XS.dup Xo1.here hx rfl (hb hby d6_3) rfl rfl ?_
    refine stk5.trans ?_
    refine XS.astoreN Xk5.here hx rfl (hb hby d6_7) rfl rfl (l' := #[.val (.ref ls), .val (.int ng), .val (.ref bo1), .unset, .unset]) rfl ?_
    refine XS.aloadN Xk5.here hx rfl (hb hby d6_8) rfl rfl ?_
    refine stk11.trans ?_
    refine XS.astoreN Xk11.here hx rfl (hb hby d6_14) rfl rfl (l' := #[.val (.ref ls), .val (.int ng), .val (.ref bo1), .val (.ref ik11), .unset]) rfl ?_
    refine XS.aloadN Xk11.here hx rfl (hb hby d6_15) rfl rfl ?_
    refine stk17.trans ?_
    refine XS.ifNo Xk17.here hx rfl (hb hby d6_21) rfl ((if0 _ _).trans (feq (by decide : ¬ ((1 : Int32) = (0 : Int32)))).1) ?_
    refine XS.aloadN Xk17.here hx rfl (hb hby d6_24) rfl rfl ?_
    refine stk22.trans ?_
    refine stx24 _ ?_
    refine XS.astore Xx24.here hx rfl (hb hby d6_33) rfl rfl (l' := #[.val (.ref ls), .val (.int ng), .val (.ref bo1), .val (.ref ik11), .val (.ref x0)]) rfl ?_
    refine XS.aload Xx24.here hx rfl (hb hby d6_35) rfl rfl ?_
    refine stk29.trans ?_
    refine XS.iloadN Xk29.here hx rfl (hb hby d6_40) rfl ?_
    show Sp p e below Tk29 (mkF m 41 #[.val (.ref ls), .val (.int ng), .val (.ref bo1), .val (.ref ik11), .val (.ref x0)] [(.int ng), (.int g0)]) _
    exact k_
  by_cases c31 : g0 = ng
  · have F32 := (f6.keep K23 nin0)
    obtain ⟨cqk33, kqk33, qk33a, qk33b, qk33c⟩ := isOf hZ ek29 F25
    obtain ⟨_, _, ⟨Tk33, Lk33, kk33, nk33⟩, -, Xk33, ⟨Lck33, hQk33, lk33, yk33, zk33⟩, stk33⟩ := Xk29.virtualBack hx (y := Y18) (z := Y18) hown (mvT hZ (tw hw 194 rfl)) (mvT hZ (tw hw 195 rfl)) (notFace_of_selects (args := #[]) (mvT hZ (tw hw 197 rfl))) (mvT hZ (tw hw 197 rfl)) (mvT hZ (tw hw 196 rfl)) (by decide) (backOf (W := 1) (rm_prop l Z a0 hw [] x0 p0  Tk22.heap n0 Z27 O28 F32) hZ (tw hw 198 rfl) (tw hw 113 rfl) (by decide) (by decide)) qk33a qk33c (g := (mkF m 47 #[.val (.ref ls), .val (.int ng), .val (.ref bo1), .val (.ref ik11), .val (.ref x0)] [(.ref x0), (.ref bo1)])) rfl (by rw [hml]; rfl) (Steps.refl _) (argsL := []) (rest := [(.ref bo1)]) (lenOf pd___I rfl) rfl (by show 2 * 0 + _ ≤ _; exact Nat.le_of_eq rfl) (hb hby d6_47) (fun _ _ => ⟨rfl, ek29, (by decide : 2 + 0 ≤ _), (by decide : 7 + 0 ≤ _)⟩)
    dsimp only [Pt.U, Pt.locs, Pt.cells, Pt.slots] at Xk33 lk33 yk33 zk33 stk33 hQk33
    subst lk33 yk33 zk33
    obtain ⟨rfl, Nk33q, ek33⟩ := hQk33
    have Nk33 := Fr.app Nk29 Nk33q
    obtain ⟨_, _, ⟨Tk34, Lk34, kk34, nk34⟩, -, Xk34, ⟨Lck34, hQk34, lk34, yk34, zk34⟩, stk34⟩ := Jvm.LawKit.callS Xk33 hx (y := Y27) hown (mvT hZ (tw hw 199 rfl)) (mvT hZ (tw hw 200 rfl)) (mvT hZ (tw hw 201 rfl)) (mvT hZ (tw hw 202 rfl)) (by decide) (backOf (W := 1) (rm_valueof l Z a0 hw [] p0 aD kD aL aC Tk22.heap n0 Z27 O28 ⟨S_DEF, V_DEF, S_LIT, E_LIT, O_LIT, S_HI, S_CA, C_CA⟩) hZ (tw hw 202 rfl) (tw hw 201 rfl) (by decide) (by decide)) (g := (mkF m 50 #[.val (.ref ls), .val (.int ng), .val (.ref bo1), .val (.ref ik11), .val (.ref x0)] [(.int p0), (.ref bo1)])) rfl (by rw [hml]; rfl) (argsL := [(.int p0)]) (rest := [(.ref bo1)]) (lenOf pd__I_Ljava_lang_Integer_ rfl) rfl (by show 2 * 0 + _ ≤ _; exact Nat.le_of_eq rfl) (hb hby d6_50) (fun _ _ => ⟨rfl, ek33, (by decide : 2 + 1 ≤ _), (by decide : 7 + 1 ≤ _)⟩)
    dsimp only [Pt.U, Pt.locs, Pt.cells, Pt.slots] at Xk34 lk34 yk34 zk34 stk34 hQk34
    subst lk34 yk34 zk34
    obtain ⟨rk34, rfl, Nk34q, Kk34q, Qk34_0, Qk34_1⟩ := hQk34
    have K35 : Keep h0 Tk34.heap [] := K23.trans Kk34q all0
    have Nk34 := Fr.app Nk33 Nk34q
    have F36 := ((((Ao1.keep Kk5q).keep Kk11q).keep Kk22q).keep Kk34q)
    have F38 := ((Qk11_0.keep Kk22q).keep Kk34q)
    have ne37 : bo1 ≠ ik11 := ne_exa F36 F38 (by decide)
    have F39 := (((Qk5_0.keep Kk11q nin0).keep Kk22q (ninS ne37 nin0)).keep Kk34q nin0)
    have F40 := (((Qk5_1.keep Kk11q nin0).keep Kk22q (ninS ne37 nin0)).keep Kk34q nin0)
    have F41 := (((Qk5_2.keep Kk11q nin0).keep Kk22q (ninS ne37 nin0)).keep Kk34q nin0)
    have Z42 : n0 ≤ Tk34.heap.size := (Nat.le_trans Z27 Kk34q.1)
    have O43 : Old Z n0 Tk34.heap := (O28.keep Kk34q all0)
    obtain ⟨cqk44, kqk44, qk44a, qk44b, qk44c⟩ := isOf hZ rfl F36
    obtain ⟨_, _, ⟨Tk44, Lk44, kk44, nk44⟩, -, Xk44, ⟨Lck44, hQk44, lk44, yk44, zk44⟩, stk44⟩ := Xk34.interfaceBack hx (xi := Y34) (y := Y11) hown (mvT hZ (tw hw 206 rfl)) (mvT hZ (tw hw 207 rfl)) (mvT hZ (tw hw 208 rfl)) (mvT hZ (tw hw 209 rfl)) (mvT hZ (tw hw 147 rfl)) (mvT hZ (tw hw 210 rfl)) (mvT hZ (tw hw 211 rfl)) (mvT hZ (tw hw 83 rfl)) (by decide) (backOf (W := 0) (rm_add_0 l Z a0 hw [] bo1 rk34 (0 : Int32) (1 : Int32) aD kD aL aC Tk34.heap n0 Z42 O43 F36 F39 F40 F41 (Ins.of_exa Qk34_0 (tw hw 212 rfl)) ⟨S_DEF, V_DEF, S_LIT, E_LIT, O_LIT, S_HI, S_CA, C_CA⟩ g_bo1 (by decide)) hZ (tw hw 149 rfl) (tw hw 2 rfl) (by decide) (by decide)) qk44a qk44b qk44c (g := (mkF m 53 #[.val (.ref ls), .val (.int ng), .val (.ref bo1), .val (.ref ik11), .val (.ref x0)] [(.ref rk34), (.ref bo1)])) rfl (by rw [hml]; rfl) (Steps.refl _) (argsL := [(.ref rk34)]) (rest := []) (lenOf pd__Ljava_lang_Object__Z rfl) rfl (by show 2 * 0 + _ ≤ _; exact Nat.le_of_eq rfl) (hb hby d6_53) (fun _ _ => ⟨rfl, rfl, (by decide : 3 + 1 ≤ _), (by decide : 8 + 10 ≤ _)⟩)
    dsimp only [Pt.U, Pt.locs, Pt.cells, Pt.slots] at Xk44 lk44 yk44 zk44 stk44 hQk44
    subst lk44 yk44 zk44
    obtain ⟨bk44, kk44, rfl, Nk44q, Kk44q, Gk44_0, Qk44_0, Qk44_1, Qk44_2, Qk44_3, Qk44_4⟩ := hQk44
    have Y45 : h0.size ≤ Tk34.heap.size := (Nat.le_trans (Nat.le_trans (Nat.le_trans Y12 Kk11q.1) Kk22q.1) Kk34q.1)
    have g_bk44 : n0 ≤ bk44 := Nat.le_trans Z42 Gk44_0
    have y_bk44 : h0.size ≤ bk44 := Nat.le_trans Y45 Gk44_0
    have K46 : Keep h0 Tk44.heap [] := K35.trans Kk44q (allS (P := fun x => x ∈ ([] : List Addr) ∨ h0.size ≤ x) (Or.inr y_bo1) all0)
    have Nk44 := Fr.app Nk34 Nk44q
    have F47 := ((Qk22_1.keep Kk34q nin0).keep Kk44q (ninS (Ne.symm ne37) nin0))
    have F48 := ((Qk22_0.keep Kk34q nin0).keep Kk44q (ninS (Ne.symm ne37) nin0))
    have F50 := (((F18.keep Kk22q).keep Kk34q).keep Kk44q)
    have F51 := (F38.keep Kk44q)
    have ne49 : ls ≠ ik11 := ne_exa F50 F51 (by decide)
    have ne52 : ls ≠ bo1 := Nat.ne_of_lt (Nat.lt_of_lt_of_le f0.lt (Nat.le_of_eq go1.symm))
    have F53 := (((F14.keep Kk22q (ninS ne49 nin0)).keep Kk34q nin0).keep Kk44q (ninS ne52 nin0))
    have Z54 : n0 ≤ Tk44.heap.size := (Nat.le_trans Z42 Kk44q.1)
    have O55 : Old Z n0 Tk44.heap := (O43.keep Kk44q (allS g_bo1 all0))
    obtain ⟨cqk56, kqk56, qk56a, qk56b, qk56c⟩ := isOf hZ rfl F51
    obtain ⟨_, _, ⟨Tk56, Lk56, kk56, nk56⟩, -, Xk56, ⟨Lck56, hQk56, lk56, yk56, zk56⟩, stk56⟩ := Xk44.interfaceBack hx (xi := Y32) (y := Y14) hown (mvT hZ (tw hw 63 rfl)) (mvT hZ (tw hw 64 rfl)) (mvT hZ (tw hw 65 rfl)) (mvT hZ (tw hw 66 rfl)) (mvT hZ (tw hw 67 rfl)) (mvT hZ (tw hw 68 rfl)) (mvT hZ (tw hw 69 rfl)) (mvT hZ (tw hw 70 rfl)) (by decide) (backOf (W := 0) (rm_hasnext l Z a0 hw [] ik11 ls (1 : Int32) (3 : Int32) (1 : Int32)  Tk44.heap n0 Z54 O55 F47 F48 F53 (by decide)) hZ (tw hw 71 rfl) (tw hw 49 rfl) (by decide) (by decide)) qk56a qk56b qk56c (g := (mkF m 16 #[.val (.ref ls), .val (.int ng), .val (.ref bo1), .val (.ref ik11), .val (.ref x0)] [(.ref ik11)])) rfl (by rw [hml]; rfl) (Steps.refl _) (argsL := []) (rest := []) (lenOf pd___Z rfl) rfl (by show 2 * 0 + _ ≤ _; exact Nat.le_of_eq rfl) (hb hby d6_16) (fun _ _ => ⟨rfl, rfl, (by decide : 4 + 0 ≤ _), (by decide : 18 + 0 ≤ _)⟩)
    dsimp only [Pt.U, Pt.locs, Pt.cells, Pt.slots] at Xk56 lk56 yk56 zk56 stk56 hQk56
    subst lk56 yk56 zk56
    obtain ⟨rfl, Nk56q, ek56⟩ := hQk56
    have Nk56 := Fr.app Nk44 Nk56q
    have F57 := ((Qk22_2.keep Kk34q nin0).keep Kk44q (ninS (Ne.symm ne37) nin0))
    have F58 := ((Qk22_3.keep Kk34q nin0).keep Kk44q (ninS (Ne.symm ne37) nin0))
    have F59 := (((F19.keep Kk22q (ninS ne49 nin0)).keep Kk34q nin0).keep Kk44q (ninS ne52 nin0))
    have F60 := (((F20.keep Kk22q (ninS ne49 nin0)).keep Kk34q nin0).keep Kk44q (ninS ne52 nin0))
    have ne61 : ik11 ≠ ed := Exa.neArv Qk11_0 F21 (tw hw 48 rfl)
    have ne62 : bo1 ≠ ed := Exa.neArv ((Ao1.keep Kk5q).keep Kk11q) F21 (tw hw 1 rfl)
    have F63 := (((F21.keep Kk22q (ninS (Ne.symm ne61) nin0)).keep Kk34q nin0).keep Kk44q (ninS (Ne.symm ne62) nin0))
    obtain ⟨cqk64, kqk64, qk64a, qk64b, qk64c⟩ := isOf hZ ek56 F51
    obtain ⟨_, _, ⟨Tk64, Lk64, kk64, nk64⟩, -, Xk64, ⟨Lck64, hQk64, lk64, yk64, zk64⟩, stk64⟩ := Xk56.interfaceBack hx (xi := Y33) (y := Y16) hown (mvT hZ (tw hw 173 rfl)) (mvT hZ (tw hw 174 rfl)) (mvT hZ (tw hw 175 rfl)) (mvT hZ (tw hw 176 rfl)) (mvT hZ (tw hw 177 rfl)) (mvT hZ (tw hw 178 rfl)) (mvT hZ (tw hw 179 rfl)) (mvT hZ (tw hw 70 rfl)) (by decide) (backOf (W := 0) (rm_next l Z a0 hw [] ik11 ls (1 : Int32) (2 : Int32) (0 : Int32) mc (3 : Int32) ed ked [(.ref x0), (.ref x1), (.ref x2), .null, .null, .null, .null, .null, .null, .null] x1  Tk44.heap n0 Z54 O55 F51 F48 F47 F57 F58 F50 F59 F53 F60 F63 g_ik11 (by decide) (by decide) (by decide) (by decide) rfl) hZ (tw hw 180 rfl) (tw hw 49 rfl) (by decide) (by decide)) qk64a qk64b qk64c (g := (mkF m 25 #[.val (.ref ls), .val (.int ng), .val (.ref bo1), .val (.ref ik11), .val (.ref x0)] [(.ref ik11)])) rfl (by rw [hml]; rfl) (Steps.refl _) (argsL := []) (rest := []) (lenOf pd___Ljava_lang_Object_ rfl) rfl (by show 2 * 0 + _ ≤ _; exact Nat.le_of_eq rfl) (hb hby d6_25) (fun _ _ => ⟨rfl, ek56, (by decide : 4 + 0 ≤ _), (by decide : 18 + 0 ≤ _)⟩)
    dsimp only [Pt.U, Pt.locs, Pt.cells, Pt.slots] at Xk64 lk64 yk64 zk64 stk64 hQk64
    subst lk64 yk64 zk64
    obtain ⟨rfl, Nk64q, Kk64q, Qk64_0, Qk64_1, Qk64_2, Qk64_3⟩ := hQk64
    have K65 : Keep h0 Tk64.heap [] := K46.trans Kk64q (allS (P := fun x => x ∈ ([] : List Addr) ∨ h0.size ≤ x) (Or.inr y_ik11) all0)
    have Nk64 := Fr.app Nk56 Nk64q
    have F67 := (f8.keep K65)
    obtain ⟨Tx66, Xx66, ex66, stx66⟩ := castY Xk64 hx hZ hown (tw hw 187 rfl) rfl (Ins.self F67) (g := (mkF m 30 #[.val (.ref ls), .val (.int ng), .val (.ref bo1), .val (.ref ik11), .val (.ref x0)] [(.ref x1)])) rfl rfl (hb hby d6_30)
    have F68 := (f10.keep K65 nin0)
    have Z69 : n0 ≤ Tk64.heap.size := (Nat.le_trans Z54 Kk64q.1)
    have O70 : Old Z n0 Tk64.heap := (O55.keep Kk64q (allS g_ik11 all0))
    obtain ⟨cqk71, kqk71, qk71a, qk71b, qk71c⟩ := isOf hZ ex66 F67
    obtain ⟨_, _, ⟨Tk71, Lk71, kk71, nk71⟩, -, Xk71, ⟨Lck71, hQk71, lk71, yk71, zk71⟩, stk71⟩ := Xx66.virtualBack hx (y := Y17) (z := Y17) hown (mvT hZ (tw hw 189 rfl)) (mvT hZ (tw hw 190 rfl)) (notFace_of_selects (args := #[]) (mvT hZ (tw hw 192 rfl))) (mvT hZ (tw hw 192 rfl)) (mvT hZ (tw hw 191 rfl)) (by decide) (backOf (W := 0) (rm_isneg l Z a0 hw [] x1 g1  Tk64.heap n0 Z69 O70 F68 hg1) hZ (tw hw 193 rfl) (tw hw 113 rfl) (by decide) (by decide)) qk71a qk71c (g := (mkF m 37 #[.val (.ref ls), .val (.int ng), .val (.ref bo1), .val (.ref ik11), .val (.ref x1)] [(.ref x1)])) rfl (by rw [hml]; rfl) (Steps.refl _) (argsL := []) (rest := []) (lenOf pd___Z rfl) rfl (by show 2 * 0 + _ ≤ _; exact Nat.le_of_eq rfl) (hb hby d6_37) (fun _ _ => ⟨rfl, ex66, (by decide : 4 + 0 ≤ _), (by decide : 18 + 0 ≤ _)⟩)
    dsimp only [Pt.U, Pt.locs, Pt.cells, Pt.slots] at Xk71 lk71 yk71 zk71 stk71 hQk71
    subst lk71 yk71 zk71
    obtain ⟨rfl, Nk71q, ek71⟩ := hQk71
    have Nk71 := Fr.app Nk64 Nk71q
    have r72 : ∀ t_, Sp p e below Tk71 (mkF m 41 #[.val (.ref ls), .val (.int ng), .val (.ref bo1), .val (.ref ik11), .val (.ref x1)] [(.int ng), (.int g1)]) t_ → Sp p e below s₁ (entryFrame m #[(.ref ls), (.int ng)] 5) t_ := by
      intro t_ k_
      refine r30 _ ?_
      refine XS.icmpNo Xk29.here hx rfl (hb hby d6_41) rfl (teq c31).2 ?_
      refine XS.aloadN Xk29.here hx rfl (hb hby d6_44) rfl rfl ?_
      refine XS.aload Xk29.here hx rfl (hb hby d6_45) rfl rfl ?_
      refine stk33.trans ?_
      refine stk34 _ ?_
      refine stk44.trans ?_
      refine XS.pop Xk44.here hx rfl (hb hby d6_58) rfl rfl ?_
      refine XS.goto Xk44.here hx rfl (pc0 := 59) (pc' := 15) rfl (hb hby d6_59) (by decide) (by decide) ?_
      refine XS.aloadN Xk44.here hx rfl (hb hby d6_15) rfl rfl ?_
      refine stk56.trans ?_
      refine XS.ifNo Xk56.here hx rfl (hb hby d6_21) rfl ((if0 _ _).trans (feq (by decide : ¬ ((1 : Int32) = (0 : Int32)))).1) ?_
      refine XS.aloadN Xk56.here hx rfl (hb hby d6_24) rfl rfl ?_
      refine stk64.trans ?_
      refine stx66 _ ?_
      refine XS.astore Xx66.here hx rfl (hb hby d6_33) rfl rfl (l' := #[.val (.ref ls), .val (.int ng), .val (.ref bo1), .val (.ref ik11), .val (.ref x1)]) rfl ?_
      refine XS.aload Xx66.here hx rfl (hb hby d6_35) rfl rfl ?_
      refine stk71.trans ?_
      refine XS.iloadN Xk71.here hx rfl (hb hby d6_40) rfl ?_
      show Sp p e below Tk71 (mkF m 41 #[.val (.ref ls), .val (.int ng), .val (.ref bo1), .val (.ref ik11), .val (.ref x1)] [(.int ng), (.int g1)]) _
      exact k_
    by_cases c73 : g1 = ng
    · have F74 := (f9.keep K65 nin0)
      obtain ⟨cqk75, kqk75, qk75a, qk75b, qk75c⟩ := isOf hZ ek71 F67
      obtain ⟨_, _, ⟨Tk75, Lk75, kk75, nk75⟩, -, Xk75, ⟨Lck75, hQk75, lk75, yk75, zk75⟩, stk75⟩ := Xk71.virtualBack hx (y := Y18) (z := Y18) hown (mvT hZ (tw hw 194 rfl)) (mvT hZ (tw hw 195 rfl)) (notFace_of_selects (args := #[]) (mvT hZ (tw hw 197 rfl))) (mvT hZ (tw hw 197 rfl)) (mvT hZ (tw hw 196 rfl)) (by decide) (backOf (W := 1) (rm_prop l Z a0 hw [] x1 p1  Tk64.heap n0 Z69 O70 F74) hZ (tw hw 198 rfl) (tw hw 113 rfl) (by decide) (by decide)) qk75a qk75c (g := (mkF m 47 #[.val (.ref ls), .val (.int ng), .val (.ref bo1), .val (.ref ik11), .val (.ref x1)] [(.ref x1), (.ref bo1)])) rfl (by rw [hml]; rfl) (Steps.refl _) (argsL := []) (rest := [(.ref bo1)]) (lenOf pd___I rfl) rfl (by show 2 * 0 + _ ≤ _; exact Nat.le_of_eq rfl) (hb hby d6_47) (fun _ _ => ⟨rfl, ek71, (by decide : 4 + 0 ≤ _), (by decide : 18 + 0 ≤ _)⟩)
      dsimp only [Pt.U, Pt.locs, Pt.cells, Pt.slots] at Xk75 lk75 yk75 zk75 stk75 hQk75
      subst lk75 yk75 zk75
      obtain ⟨rfl, Nk75q, ek75⟩ := hQk75
      have Nk75 := Fr.app Nk71 Nk75q
      obtain ⟨_, _, ⟨Tk76, Lk76, kk76, nk76⟩, -, Xk76, ⟨Lck76, hQk76, lk76, yk76, zk76⟩, stk76⟩ := Jvm.LawKit.callS Xk75 hx (y := Y27) hown (mvT hZ (tw hw 199 rfl)) (mvT hZ (tw hw 200 rfl)) (mvT hZ (tw hw 201 rfl)) (mvT hZ (tw hw 202 rfl)) (by decide) (backOf (W := 1) (rm_valueof l Z a0 hw [] p1 aD kD aL aC Tk64.heap n0 Z69 O70 ⟨S_DEF, V_DEF, S_LIT, E_LIT, O_LIT, S_HI, S_CA, C_CA⟩) hZ (tw hw 202 rfl) (tw hw 201 rfl) (by decide) (by decide)) (g := (mkF m 50 #[.val (.ref ls), .val (.int ng), .val (.ref bo1), .val (.ref ik11), .val (.ref x1)] [(.int p1), (.ref bo1)])) rfl (by rw [hml]; rfl) (argsL := [(.int p1)]) (rest := [(.ref bo1)]) (lenOf pd__I_Ljava_lang_Integer_ rfl) rfl (by show 2 * 0 + _ ≤ _; exact Nat.le_of_eq rfl) (hb hby d6_50) (fun _ _ => ⟨rfl, ek75, (by decide : 4 + 1 ≤ _), (by decide : 18 + 1 ≤ _)⟩)
      dsimp only [Pt.U, Pt.locs, Pt.cells, Pt.slots] at Xk76 lk76 yk76 zk76 stk76 hQk76
      subst lk76 yk76 zk76
      obtain ⟨rk76, rfl, Nk76q, Kk76q, Qk76_0, Qk76_1⟩ := hQk76
      have K77 : Keep h0 Tk76.heap [] := K65.trans Kk76q all0
      have Nk76 := Fr.app Nk75 Nk76q
      have F78 := (((F36.keep Kk44q).keep Kk64q).keep Kk76q)
      have F79 := ((Qk44_0.keep Kk64q (ninS ne37 nin0)).keep Kk76q nin0)
      have F80 := ((Qk44_1.keep Kk64q (ninS ne37 nin0)).keep Kk76q nin0)
      have F81 := ((Qk44_2.keep Kk64q (ninS ne37 nin0)).keep Kk76q nin0)
      have ne82 : ik11 ≠ bk44 := Exa.neArv (((Qk11_0.keep Kk22q).keep Kk34q).keep Kk44q) Qk44_3 (tw hw 48 rfl)
      have F83 := ((Qk44_3.keep Kk64q (ninS (Ne.symm ne82) nin0)).keep Kk76q nin0)
      have F84 := Qk44_4
      have ne85 : bo1 ≠ bk44 := Exa.neArv (((((((Ao1.keep Kk5q).keep Kk11q).keep Kk22q).keep Kk34q).keep Kk44q).keep Kk64q).keep Kk76q) F83 (tw hw 1 rfl)
      have Z86 : n0 ≤ Tk76.heap.size := (Nat.le_trans Z69 Kk76q.1)
      have O87 : Old Z n0 Tk76.heap := (O70.keep Kk76q all0)
      obtain ⟨cqk88, kqk88, qk88a, qk88b, qk88c⟩ := isOf hZ rfl F78
      obtain ⟨_, _, ⟨Tk88, Lk88, kk88, nk88⟩, -, Xk88, ⟨Lck88, hQk88, lk88, yk88, zk88⟩, stk88⟩ := Xk76.interfaceBack hx (xi := Y34) (y := Y11) hown (mvT hZ (tw hw 206 rfl)) (mvT hZ (tw hw 207 rfl)) (mvT hZ (tw hw 208 rfl)) (mvT hZ (tw hw 209 rfl)) (mvT hZ (tw hw 147 rfl)) (mvT hZ (tw hw 210 rfl)) (mvT hZ (tw hw 211 rfl)) (mvT hZ (tw hw 83 rfl)) (by decide) (backOf (W := 0) (rm_add_1 l Z a0 hw [] bo1 rk76 bk44 kk44 (1 : Int32) (2 : Int32) rk34 aD kD aL aC Tk76.heap n0 Z86 O87 F78 F79 F80 F81 (Ins.of_exa Qk76_0 (tw hw 212 rfl)) F83 F84 ⟨S_DEF, V_DEF, S_LIT, E_LIT, O_LIT, S_HI, S_CA, C_CA⟩ g_bo1 g_bk44 ne85 (by decide)) hZ (tw hw 149 rfl) (tw hw 2 rfl) (by decide) (by decide)) qk88a qk88b qk88c (g := (mkF m 53 #[.val (.ref ls), .val (.int ng), .val (.ref bo1), .val (.ref ik11), .val (.ref x1)] [(.ref rk76), (.ref bo1)])) rfl (by rw [hml]; rfl) (Steps.refl _) (argsL := [(.ref rk76)]) (rest := []) (lenOf pd__Ljava_lang_Object__Z rfl) rfl (by show 2 * 0 + _ ≤ _; exact Nat.le_of_eq rfl) (hb hby d6_53) (fun _ _ => ⟨rfl, rfl, (by decide : 5 + 0 ≤ _), (by decide : 19 + 0 ≤ _)⟩)
      dsimp only [Pt.U, Pt.locs, Pt.cells, Pt.slots] at Xk88 lk88 yk88 zk88 stk88 hQk88
      subst lk88 yk88 zk88
      obtain ⟨rfl, Nk88q, Kk88q, Qk88_0, Qk88_1, Qk88_2, Qk88_3⟩ := hQk88
      have K89 : Keep h0 Tk88.heap [] := K77.trans Kk88q (allS (P := fun x => x ∈ ([] : List Addr) ∨ h0.size ≤ x) (Or.inr y_bo1) (allS (P := fun x => x ∈ ([] : List Addr) ∨ h0.size ≤ x) (Or.inr y_bk44) all0))
      have Nk88 := Fr.app Nk76 Nk88q
      have F90 := ((Qk64_1.keep Kk76q nin0).keep Kk88q (ninS (Ne.symm ne37) (ninS ne82 nin0)))
      have F91 := ((Qk64_0.keep Kk76q nin0).keep Kk88q (ninS (Ne.symm ne37) (ninS ne82 nin0)))
      have ne92 : ls ≠ bk44 := Exa.neArv (((((((((f0.ext Eo1).keep Kk5q).keep Kk11q).keep Kk22q).keep Kk34q).keep Kk44q).keep Kk64q).keep Kk76q).keep Kk88q) Qk88_3 (tw hw 1 rfl)
      have F93 := (((F53.keep Kk64q (ninS ne49 nin0)).keep Kk76q nin0).keep Kk88q (ninS ne52 (ninS ne92 nin0)))
      have Z94 : n0 ≤ Tk88.heap.size := (Nat.le_trans Z86 Kk88q.1)
      have O95 : Old Z n0 Tk88.heap := (O87.keep Kk88q (allS g_bo1 (allS g_bk44 all0)))
      have F97 := (((F51.keep Kk64q).keep Kk76q).keep Kk88q)
      obtain ⟨cqk96, kqk96, qk96a, qk96b, qk96c⟩ := isOf hZ rfl F97
      obtain ⟨_, _, ⟨Tk96, Lk96, kk96, nk96⟩, -, Xk96, ⟨Lck96, hQk96, lk96, yk96, zk96⟩, stk96⟩ := Xk88.interfaceBack hx (xi := Y32) (y := Y14) hown (mvT hZ (tw hw 63 rfl)) (mvT hZ (tw hw 64 rfl)) (mvT hZ (tw hw 65 rfl)) (mvT hZ (tw hw 66 rfl)) (mvT hZ (tw hw 67 rfl)) (mvT hZ (tw hw 68 rfl)) (mvT hZ (tw hw 69 rfl)) (mvT hZ (tw hw 70 rfl)) (by decide) (backOf (W := 0) (rm_hasnext l Z a0 hw [] ik11 ls (2 : Int32) (3 : Int32) (1 : Int32)  Tk88.heap n0 Z94 O95 F90 F91 F93 (by decide)) hZ (tw hw 71 rfl) (tw hw 49 rfl) (by decide) (by decide)) qk96a qk96b qk96c (g := (mkF m 16 #[.val (.ref ls), .val (.int ng), .val (.ref bo1), .val (.ref ik11), .val (.ref x1)] [(.ref ik11)])) rfl (by rw [hml]; rfl) (Steps.refl _) (argsL := []) (rest := []) (lenOf pd___Z rfl) rfl (by show 2 * 0 + _ ≤ _; exact Nat.le_of_eq rfl) (hb hby d6_16) (fun _ _ => ⟨rfl, rfl, (by decide : 5 + 0 ≤ _), (by decide : 19 + 0 ≤ _)⟩)
      dsimp only [Pt.U, Pt.locs, Pt.cells, Pt.slots] at Xk96 lk96 yk96 zk96 stk96 hQk96
      subst lk96 yk96 zk96
      obtain ⟨rfl, Nk96q, ek96⟩ := hQk96
      have Nk96 := Fr.app Nk88 Nk96q
      have F98 := ((Qk64_2.keep Kk76q nin0).keep Kk88q (ninS (Ne.symm ne37) (ninS ne82 nin0)))
      have F99 := ((Qk64_3.keep Kk76q nin0).keep Kk88q (ninS (Ne.symm ne37) (ninS ne82 nin0)))
      have F100 := (((F50.keep Kk64q).keep Kk76q).keep Kk88q)
      have F101 := (((F59.keep Kk64q (ninS ne49 nin0)).keep Kk76q nin0).keep Kk88q (ninS ne52 (ninS ne92 nin0)))
      have F102 := (((F60.keep Kk64q (ninS ne49 nin0)).keep Kk76q nin0).keep Kk88q (ninS ne52 (ninS ne92 nin0)))
      have ne103 : ed ≠ bk44 := Nat.ne_of_lt (Nat.lt_of_lt_of_le (Nat.lt_of_lt_of_le (Nat.lt_of_lt_of_le (Nat.lt_of_lt_of_le (Nat.lt_of_lt_of_le (Nat.lt_of_lt_of_le f4.lt Eo1.1) Kk5q.1) Kk11q.1) Kk22q.1) Kk34q.1) Gk44_0)
      have F104 := (((F63.keep Kk64q (ninS (Ne.symm ne61) nin0)).keep Kk76q nin0).keep Kk88q (ninS (Ne.symm ne62) (ninS ne103 nin0)))
      obtain ⟨cqk105, kqk105, qk105a, qk105b, qk105c⟩ := isOf hZ ek96 F97
      obtain ⟨_, _, ⟨Tk105, Lk105, kk105, nk105⟩, -, Xk105, ⟨Lck105, hQk105, lk105, yk105, zk105⟩, stk105⟩ := Xk96.interfaceBack hx (xi := Y33) (y := Y16) hown (mvT hZ (tw hw 173 rfl)) (mvT hZ (tw hw 174 rfl)) (mvT hZ (tw hw 175 rfl)) (mvT hZ (tw hw 176 rfl)) (mvT hZ (tw hw 177 rfl)) (mvT hZ (tw hw 178 rfl)) (mvT hZ (tw hw 179 rfl)) (mvT hZ (tw hw 70 rfl)) (by decide) (backOf (W := 0) (rm_next l Z a0 hw [] ik11 ls (2 : Int32) (3 : Int32) (1 : Int32) mc (3 : Int32) ed ked [(.ref x0), (.ref x1), (.ref x2), .null, .null, .null, .null, .null, .null, .null] x2  Tk88.heap n0 Z94 O95 F97 F91 F90 F98 F99 F100 F101 F93 F102 F104 g_ik11 (by decide) (by decide) (by decide) (by decide) rfl) hZ (tw hw 180 rfl) (tw hw 49 rfl) (by decide) (by decide)) qk105a qk105b qk105c (g := (mkF m 25 #[.val (.ref ls), .val (.int ng), .val (.ref bo1), .val (.ref ik11), .val (.ref x1)] [(.ref ik11)])) rfl (by rw [hml]; rfl) (Steps.refl _) (argsL := []) (rest := []) (lenOf pd___Ljava_lang_Object_ rfl) rfl (by show 2 * 0 + _ ≤ _; exact Nat.le_of_eq rfl) (hb hby d6_25) (fun _ _ => ⟨rfl, ek96, (by decide : 5 + 0 ≤ _), (by decide : 19 + 0 ≤ _)⟩)
      dsimp only [Pt.U, Pt.locs, Pt.cells, Pt.slots] at Xk105 lk105 yk105 zk105 stk105 hQk105
      subst lk105 yk105 zk105
      obtain ⟨rfl, Nk105q, Kk105q, Qk105_0, Qk105_1, Qk105_2, Qk105_3⟩ := hQk105
      have K106 : Keep h0 Tk105.heap [] := K89.trans Kk105q (allS (P := fun x => x ∈ ([] : List Addr) ∨ h0.size ≤ x) (Or.inr y_ik11) all0)
      have Nk105 := Fr.app Nk96 Nk105q
      have F108 := (f11.keep K106)
      obtain ⟨Tx107, Xx107, ex107, stx107⟩ := castY Xk105 hx hZ hown (tw hw 187 rfl) rfl (Ins.self F108) (g := (mkF m 30 #[.val (.ref ls), .val (.int ng), .val (.ref bo1), .val (.ref ik11), .val (.ref x1)] [(.ref x2)])) rfl rfl (hb hby d6_30)
      have F109 := (f13.keep K106 nin0)
      have Z110 : n0 ≤ Tk105.heap.size := (Nat.le_trans Z94 Kk105q.1)
      have O111 : Old Z n0 Tk105.heap := (O95.keep Kk105q (allS g_ik11 all0))
      obtain ⟨cqk112, kqk112, qk112a, qk112b, qk112c⟩ := isOf hZ ex107 F108
      obtain ⟨_, _, ⟨Tk112, Lk112, kk112, nk112⟩, -, Xk112, ⟨Lck112, hQk112, lk112, yk112, zk112⟩, stk112⟩ := Xx107.virtualBack hx (y := Y17) (z := Y17) hown (mvT hZ (tw hw 189 rfl)) (mvT hZ (tw hw 190 rfl)) (notFace_of_selects (args := #[]) (mvT hZ (tw hw 192 rfl))) (mvT hZ (tw hw 192 rfl)) (mvT hZ (tw hw 191 rfl)) (by decide) (backOf (W := 0) (rm_isneg l Z a0 hw [] x2 g2  Tk105.heap n0 Z110 O111 F109 hg2) hZ (tw hw 193 rfl) (tw hw 113 rfl) (by decide) (by decide)) qk112a qk112c (g := (mkF m 37 #[.val (.ref ls), .val (.int ng), .val (.ref bo1), .val (.ref ik11), .val (.ref x2)] [(.ref x2)])) rfl (by rw [hml]; rfl) (Steps.refl _) (argsL := []) (rest := []) (lenOf pd___Z rfl) rfl (by show 2 * 0 + _ ≤ _; exact Nat.le_of_eq rfl) (hb hby d6_37) (fun _ _ => ⟨rfl, ex107, (by decide : 5 + 0 ≤ _), (by decide : 19 + 0 ≤ _)⟩)
      dsimp only [Pt.U, Pt.locs, Pt.cells, Pt.slots] at Xk112 lk112 yk112 zk112 stk112 hQk112
      subst lk112 yk112 zk112
      obtain ⟨rfl, Nk112q, ek112⟩ := hQk112
      have Nk112 := Fr.app Nk105 Nk112q
      have r113 : ∀ t_, Sp p e below Tk112 (mkF m 41 #[.val (.ref ls), .val (.int ng), .val (.ref bo1), .val (.ref ik11), .val (.ref x2)] [(.int ng), (.int g2)]) t_ → Sp p e below s₁ (entryFrame m #[(.ref ls), (.int ng)] 5) t_ := by
        intro t_ k_
        refine r72 _ ?_
        refine XS.icmpNo Xk71.here hx rfl (hb hby d6_41) rfl (teq c73).2 ?_
        refine XS.aloadN Xk71.here hx rfl (hb hby d6_44) rfl rfl ?_
        refine XS.aload Xk71.here hx rfl (hb hby d6_45) rfl rfl ?_
        refine stk75.trans ?_
        refine stk76 _ ?_
        refine stk88.trans ?_
        refine XS.pop Xk88.here hx rfl (hb hby d6_58) rfl rfl ?_
        refine XS.goto Xk88.here hx rfl (pc0 := 59) (pc' := 15) rfl (hb hby d6_59) (by decide) (by decide) ?_
        refine XS.aloadN Xk88.here hx rfl (hb hby d6_15) rfl rfl ?_
        refine stk96.trans ?_
        refine XS.ifNo Xk96.here hx rfl (hb hby d6_21) rfl ((if0 _ _).trans (feq (by decide : ¬ ((1 : Int32) = (0 : Int32)))).1) ?_
        refine XS.aloadN Xk96.here hx rfl (hb hby d6_24) rfl rfl ?_
        refine stk105.trans ?_
        refine stx107 _ ?_
        refine XS.astore Xx107.here hx rfl (hb hby d6_33) rfl rfl (l' := #[.val (.ref ls), .val (.int ng), .val (.ref bo1), .val (.ref ik11), .val (.ref x2)]) rfl ?_
        refine XS.aload Xx107.here hx rfl (hb hby d6_35) rfl rfl ?_
        refine stk112.trans ?_
        refine XS.iloadN Xk112.here hx rfl (hb hby d6_40) rfl ?_
        show Sp p e below Tk112 (mkF m 41 #[.val (.ref ls), .val (.int ng), .val (.ref bo1), .val (.ref ik11), .val (.ref x2)] [(.int ng), (.int g2)]) _
        exact k_
      by_cases c114 : g2 = ng
      · have F115 := (f12.keep K106 nin0)
        obtain ⟨cqk116, kqk116, qk116a, qk116b, qk116c⟩ := isOf hZ ek112 F108
        obtain ⟨_, _, ⟨Tk116, Lk116, kk116, nk116⟩, -, Xk116, ⟨Lck116, hQk116, lk116, yk116, zk116⟩, stk116⟩ := Xk112.virtualBack hx (y := Y18) (z := Y18) hown (mvT hZ (tw hw 194 rfl)) (mvT hZ (tw hw 195 rfl)) (notFace_of_selects (args := #[]) (mvT hZ (tw hw 197 rfl))) (mvT hZ (tw hw 197 rfl)) (mvT hZ (tw hw 196 rfl)) (by decide) (backOf (W := 1) (rm_prop l Z a0 hw [] x2 p2  Tk105.heap n0 Z110 O111 F115) hZ (tw hw 198 rfl) (tw hw 113 rfl) (by decide) (by decide)) qk116a qk116c (g := (mkF m 47 #[.val (.ref ls), .val (.int ng), .val (.ref bo1), .val (.ref ik11), .val (.ref x2)] [(.ref x2), (.ref bo1)])) rfl (by rw [hml]; rfl) (Steps.refl _) (argsL := []) (rest := [(.ref bo1)]) (lenOf pd___I rfl) rfl (by show 2 * 0 + _ ≤ _; exact Nat.le_of_eq rfl) (hb hby d6_47) (fun _ _ => ⟨rfl, ek112, (by decide : 5 + 0 ≤ _), (by decide : 19 + 0 ≤ _)⟩)
        dsimp only [Pt.U, Pt.locs, Pt.cells, Pt.slots] at Xk116 lk116 yk116 zk116 stk116 hQk116
        subst lk116 yk116 zk116
        obtain ⟨rfl, Nk116q, ek116⟩ := hQk116
        have Nk116 := Fr.app Nk112 Nk116q
        obtain ⟨_, _, ⟨Tk117, Lk117, kk117, nk117⟩, -, Xk117, ⟨Lck117, hQk117, lk117, yk117, zk117⟩, stk117⟩ := Jvm.LawKit.callS Xk116 hx (y := Y27) hown (mvT hZ (tw hw 199 rfl)) (mvT hZ (tw hw 200 rfl)) (mvT hZ (tw hw 201 rfl)) (mvT hZ (tw hw 202 rfl)) (by decide) (backOf (W := 1) (rm_valueof l Z a0 hw [] p2 aD kD aL aC Tk105.heap n0 Z110 O111 ⟨S_DEF, V_DEF, S_LIT, E_LIT, O_LIT, S_HI, S_CA, C_CA⟩) hZ (tw hw 202 rfl) (tw hw 201 rfl) (by decide) (by decide)) (g := (mkF m 50 #[.val (.ref ls), .val (.int ng), .val (.ref bo1), .val (.ref ik11), .val (.ref x2)] [(.int p2), (.ref bo1)])) rfl (by rw [hml]; rfl) (argsL := [(.int p2)]) (rest := [(.ref bo1)]) (lenOf pd__I_Ljava_lang_Integer_ rfl) rfl (by show 2 * 0 + _ ≤ _; exact Nat.le_of_eq rfl) (hb hby d6_50) (fun _ _ => ⟨rfl, ek116, (by decide : 5 + 1 ≤ _), (by decide : 19 + 1 ≤ _)⟩)
        dsimp only [Pt.U, Pt.locs, Pt.cells, Pt.slots] at Xk117 lk117 yk117 zk117 stk117 hQk117
        subst lk117 yk117 zk117
        obtain ⟨rk117, rfl, Nk117q, Kk117q, Qk117_0, Qk117_1⟩ := hQk117
        have K118 : Keep h0 Tk117.heap [] := K106.trans Kk117q all0
        have Nk117 := Fr.app Nk116 Nk117q
        have F119 := (((F78.keep Kk88q).keep Kk105q).keep Kk117q)
        have F120 := ((Qk88_0.keep Kk105q (ninS ne37 nin0)).keep Kk117q nin0)
        have F121 := ((Qk88_1.keep Kk105q (ninS ne37 nin0)).keep Kk117q nin0)
        have F122 := ((Qk88_2.keep Kk105q (ninS ne37 nin0)).keep Kk117q nin0)
        have F123 := ((Qk88_3.keep Kk105q (ninS (Ne.symm ne82) nin0)).keep Kk117q nin0)
        have F124 := F84
        have Z125 : n0 ≤ Tk117.heap.size := (Nat.le_trans Z110 Kk117q.1)
        have O126 : Old Z n0 Tk117.heap := (O111.keep Kk117q all0)
        obtain ⟨cqk127, kqk127, qk127a, qk127b, qk127c⟩ := isOf hZ rfl F119
        obtain ⟨_, _, ⟨Tk127, Lk127, kk127, nk127⟩, -, Xk127, ⟨Lck127, hQk127, lk127, yk127, zk127⟩, stk127⟩ := Xk117.interfaceBack hx (xi := Y34) (y := Y11) hown (mvT hZ (tw hw 206 rfl)) (mvT hZ (tw hw 207 rfl)) (mvT hZ (tw hw 208 rfl)) (mvT hZ (tw hw 209 rfl)) (mvT hZ (tw hw 147 rfl)) (mvT hZ (tw hw 210 rfl)) (mvT hZ (tw hw 211 rfl)) (mvT hZ (tw hw 83 rfl)) (by decide) (backOf (W := 0) (rm_add_2 l Z a0 hw [] bo1 rk117 bk44 kk44 (2 : Int32) (3 : Int32) rk34 rk76 aD kD aL aC Tk117.heap n0 Z125 O126 F119 F120 F121 F122 (Ins.of_exa Qk117_0 (tw hw 212 rfl)) F123 F124 ⟨S_DEF, V_DEF, S_LIT, E_LIT, O_LIT, S_HI, S_CA, C_CA⟩ g_bo1 g_bk44 ne85 (by decide)) hZ (tw hw 149 rfl) (tw hw 2 rfl) (by decide) (by decide)) qk127a qk127b qk127c (g := (mkF m 53 #[.val (.ref ls), .val (.int ng), .val (.ref bo1), .val (.ref ik11), .val (.ref x2)] [(.ref rk117), (.ref bo1)])) rfl (by rw [hml]; rfl) (Steps.refl _) (argsL := [(.ref rk117)]) (rest := []) (lenOf pd__Ljava_lang_Object__Z rfl) rfl (by show 2 * 0 + _ ≤ _; exact Nat.le_of_eq rfl) (hb hby d6_53) (fun _ _ => ⟨rfl, rfl, (by decide : 6 + 0 ≤ _), (by decide : 20 + 0 ≤ _)⟩)
        dsimp only [Pt.U, Pt.locs, Pt.cells, Pt.slots] at Xk127 lk127 yk127 zk127 stk127 hQk127
        subst lk127 yk127 zk127
        obtain ⟨rfl, Nk127q, Kk127q, Qk127_0, Qk127_1, Qk127_2, Qk127_3⟩ := hQk127
        have K128 : Keep h0 Tk127.heap [] := K118.trans Kk127q (allS (P := fun x => x ∈ ([] : List Addr) ∨ h0.size ≤ x) (Or.inr y_bo1) (allS (P := fun x => x ∈ ([] : List Addr) ∨ h0.size ≤ x) (Or.inr y_bk44) all0))
        have Nk127 := Fr.app Nk117 Nk127q
        have F129 := ((Qk105_1.keep Kk117q nin0).keep Kk127q (ninS (Ne.symm ne37) (ninS ne82 nin0)))
        have F130 := ((Qk105_0.keep Kk117q nin0).keep Kk127q (ninS (Ne.symm ne37) (ninS ne82 nin0)))
        have F131 := (((F93.keep Kk105q (ninS ne49 nin0)).keep Kk117q nin0).keep Kk127q (ninS ne52 (ninS ne92 nin0)))
        have Z132 : n0 ≤ Tk127.heap.size := (Nat.le_trans Z125 Kk127q.1)
        have O133 : Old Z n0 Tk127.heap := (O126.keep Kk127q (allS g_bo1 (allS g_bk44 all0)))
        have F135 := (((F97.keep Kk105q).keep Kk117q).keep Kk127q)
        obtain ⟨cqk134, kqk134, qk134a, qk134b, qk134c⟩ := isOf hZ rfl F135
        obtain ⟨_, _, ⟨Tk134, Lk134, kk134, nk134⟩, -, Xk134, ⟨Lck134, hQk134, lk134, yk134, zk134⟩, stk134⟩ := Xk127.interfaceBack hx (xi := Y32) (y := Y14) hown (mvT hZ (tw hw 63 rfl)) (mvT hZ (tw hw 64 rfl)) (mvT hZ (tw hw 65 rfl)) (mvT hZ (tw hw 66 rfl)) (mvT hZ (tw hw 67 rfl)) (mvT hZ (tw hw 68 rfl)) (mvT hZ (tw hw 69 rfl)) (mvT hZ (tw hw 70 rfl)) (by decide) (backOf (W := 0) (rm_hasnext l Z a0 hw [] ik11 ls (3 : Int32) (3 : Int32) (0 : Int32)  Tk127.heap n0 Z132 O133 F129 F130 F131 (by decide)) hZ (tw hw 71 rfl) (tw hw 49 rfl) (by decide) (by decide)) qk134a qk134b qk134c (g := (mkF m 16 #[.val (.ref ls), .val (.int ng), .val (.ref bo1), .val (.ref ik11), .val (.ref x2)] [(.ref ik11)])) rfl (by rw [hml]; rfl) (Steps.refl _) (argsL := []) (rest := []) (lenOf pd___Z rfl) rfl (by show 2 * 0 + _ ≤ _; exact Nat.le_of_eq rfl) (hb hby d6_16) (fun _ _ => ⟨rfl, rfl, (by decide : 6 + 0 ≤ _), (by decide : 20 + 0 ≤ _)⟩)
        dsimp only [Pt.U, Pt.locs, Pt.cells, Pt.slots] at Xk134 lk134 yk134 zk134 stk134 hQk134
        subst lk134 yk134 zk134
        obtain ⟨rfl, Nk134q, ek134⟩ := hQk134
        have Nk134 := Fr.app Nk127 Nk134q
        have r136 : ∀ t_, Sp p e below Tk134 (mkF m 62 #[.val (.ref ls), .val (.int ng), .val (.ref bo1), .val (.ref ik11), .val (.ref x2)] []) t_ → Sp p e below s₁ (entryFrame m #[(.ref ls), (.int ng)] 5) t_ := by
          intro t_ k_
          refine r113 _ ?_
          refine XS.icmpNo Xk112.here hx rfl (hb hby d6_41) rfl (teq c114).2 ?_
          refine XS.aloadN Xk112.here hx rfl (hb hby d6_44) rfl rfl ?_
          refine XS.aload Xk112.here hx rfl (hb hby d6_45) rfl rfl ?_
          refine stk116.trans ?_
          refine stk117 _ ?_
          refine stk127.trans ?_
          refine XS.pop Xk127.here hx rfl (hb hby d6_58) rfl rfl ?_
          refine XS.goto Xk127.here hx rfl (pc0 := 59) (pc' := 15) rfl (hb hby d6_59) (by decide) (by decide) ?_
          refine XS.aloadN Xk127.here hx rfl (hb hby d6_15) rfl rfl ?_
          refine stk134.trans ?_
          refine XS.ifYes Xk134.here hx rfl (pc0 := 21) (pc' := 62) rfl (hb hby d6_21) rfl ((if0 _ _).trans (teq (by decide : (0 : Int32) = (0 : Int32))).1) (by decide) (by decide) ?_
          show Sp p e below Tk134 (mkF m 62 #[.val (.ref ls), .val (.int ng), .val (.ref bo1), .val (.ref ik11), .val (.ref x2)] []) _
          exact k_
        have hvs1 : vs = [(.int p0), (.int p1), (.int p2)] := by rw [hvs]; first | done | simp [own_f, c31, c73, c114]
        have hz1 : z = (3 : Int32) := by rw [hz, hvs1]; first | done | rfl
        have F137 := (F119.keep Kk127q)
        have F138 := (((((((Qk34_0.keep Kk44q).keep Kk64q).keep Kk76q).keep Kk88q).keep Kk105q).keep Kk117q).keep Kk127q)
        have ne139 : rk34 ≠ bo1 := ne_exa F138 F137 (by decide)
        have ne140 : rk34 ≠ ik11 := ne_exa F138 F135 (by decide)
        have ne141 : rk34 ≠ bk44 := Exa.neArv (((((((Qk34_0.keep Kk44q).keep Kk64q).keep Kk76q).keep Kk88q).keep Kk105q).keep Kk117q).keep Kk127q) Qk127_3 (tw hw 244 rfl)
        have F142 := (((((((Qk34_1.keep Kk44q (ninS ne139 nin0)).keep Kk64q (ninS ne140 nin0)).keep Kk76q nin0).keep Kk88q (ninS ne139 (ninS ne141 nin0))).keep Kk105q (ninS ne140 nin0)).keep Kk117q nin0).keep Kk127q (ninS ne139 (ninS ne141 nin0)))
        have F143 := ((((Qk76_0.keep Kk88q).keep Kk105q).keep Kk117q).keep Kk127q)
        have ne144 : rk76 ≠ bk44 := Exa.neArv ((((Qk76_0.keep Kk88q).keep Kk105q).keep Kk117q).keep Kk127q) Qk127_3 (tw hw 244 rfl)
        have ne145 : rk76 ≠ bo1 := ne_exa F143 F137 (by decide)
        have ne146 : rk76 ≠ ik11 := ne_exa F143 F135 (by decide)
        have F147 := ((((Qk76_1.keep Kk88q (ninS ne145 (ninS ne144 nin0))).keep Kk105q (ninS ne146 nin0)).keep Kk117q nin0).keep Kk127q (ninS ne145 (ninS ne144 nin0)))
        have F148 := (Qk117_0.keep Kk127q)
        have ne149 : rk117 ≠ bk44 := Exa.neArv (Qk117_0.keep Kk127q) Qk127_3 (tw hw 244 rfl)
        have ne150 : rk117 ≠ bo1 := ne_exa F148 F137 (by decide)
        have F151 := (Qk117_1.keep Kk127q (ninS ne150 (ninS ne149 nin0)))
        have Y152 : h0.size ≤ Tk127.heap.size := (Nat.le_trans (Nat.le_trans (Nat.le_trans (Nat.le_trans (Nat.le_trans (Nat.le_trans (Nat.le_trans Y45 Kk44q.1) Kk64q.1) Kk76q.1) Kk88q.1) Kk105q.1) Kk117q.1) Kk127q.1)
        obtain ⟨s₂, _, u1, u2, u3, _, L, rfl, ⟨b, kb, rfl, Nb, Kb, gb, Eb, Vb⟩, u5⟩ := tl_pt3 p l e s m _ below meth c _ _ Z a0 hw ls ng bo1 ik11 x2 bk44 kk44 rk34 rk76 rk117 p0 p1 p2 Tk127.heap n0 (Xk134.more (by decide) (by decide)) hx hZ hby hml hown hret Bd.notSynchronized ek134 Nk134 Z132 O133 F137 Qk127_1 Qk127_0 Qk127_3 F138 F142 F143 F147 F148 F151
        exact ⟨s₂, _, r136 _ u1, u2, u3, _, L, rfl, ⟨b, kb, rfl, Nb, Keep.trans K128 Kb all0, Nat.le_trans Y152 gb, Eb, by rw [hz1, hvs1]; exact Vb⟩, u5⟩
      · have F153 := (F93.keep Kk105q (ninS ne49 nin0))
        have F155 := (F97.keep Kk105q)
        obtain ⟨cqk154, kqk154, qk154a, qk154b, qk154c⟩ := isOf hZ ek112 F155
        obtain ⟨_, _, ⟨Tk154, Lk154, kk154, nk154⟩, -, Xk154, ⟨Lck154, hQk154, lk154, yk154, zk154⟩, stk154⟩ := Xk112.interfaceBack hx (xi := Y32) (y := Y14) hown (mvT hZ (tw hw 63 rfl)) (mvT hZ (tw hw 64 rfl)) (mvT hZ (tw hw 65 rfl)) (mvT hZ (tw hw 66 rfl)) (mvT hZ (tw hw 67 rfl)) (mvT hZ (tw hw 68 rfl)) (mvT hZ (tw hw 69 rfl)) (mvT hZ (tw hw 70 rfl)) (by decide) (backOf (W := 0) (rm_hasnext l Z a0 hw [] ik11 ls (3 : Int32) (3 : Int32) (0 : Int32)  Tk105.heap n0 Z110 O111 Qk105_1 Qk105_0 F153 (by decide)) hZ (tw hw 71 rfl) (tw hw 49 rfl) (by decide) (by decide)) qk154a qk154b qk154c (g := (mkF m 16 #[.val (.ref ls), .val (.int ng), .val (.ref bo1), .val (.ref ik11), .val (.ref x2)] [(.ref ik11)])) rfl (by rw [hml]; rfl) (Steps.refl _) (argsL := []) (rest := []) (lenOf pd___Z rfl) rfl (by show 2 * 0 + _ ≤ _; exact Nat.le_of_eq rfl) (hb hby d6_16) (fun _ _ => ⟨rfl, ek112, (by decide : 5 + 0 ≤ _), (by decide : 19 + 0 ≤ _)⟩)
        dsimp only [Pt.U, Pt.locs, Pt.cells, Pt.slots] at Xk154 lk154 yk154 zk154 stk154 hQk154
        subst lk154 yk154 zk154
        obtain ⟨rfl, Nk154q, ek154⟩ := hQk154
        have Nk154 := Fr.app Nk112 Nk154q
        have r156 : ∀ t_, Sp p e below Tk154 (mkF m 62 #[.val (.ref ls), .val (.int ng), .val (.ref bo1), .val (.ref ik11), .val (.ref x2)] []) t_ → Sp p e below s₁ (entryFrame m #[(.ref ls), (.int ng)] 5) t_ := by
          intro t_ k_
          refine r113 _ ?_
          refine XS.icmpYes Xk112.here hx rfl (pc0 := 41) (pc' := 59) rfl (hb hby d6_41) rfl (feq c114).2 (by decide) (by decide) ?_
          refine XS.goto Xk112.here hx rfl (pc0 := 59) (pc' := 15) rfl (hb hby d6_59) (by decide) (by decide) ?_
          refine XS.aloadN Xk112.here hx rfl (hb hby d6_15) rfl rfl ?_
          refine stk154.trans ?_
          refine XS.ifYes Xk154.here hx rfl (pc0 := 21) (pc' := 62) rfl (hb hby d6_21) rfl ((if0 _ _).trans (teq (by decide : (0 : Int32) = (0 : Int32))).1) (by decide) (by decide) ?_
          show Sp p e below Tk154 (mkF m 62 #[.val (.ref ls), .val (.int ng), .val (.ref bo1), .val (.ref ik11), .val (.ref x2)] []) _
          exact k_
        have hvs1 : vs = [(.int p0), (.int p1)] := by rw [hvs]; first | done | simp [own_f, c31, c73, c114]
        have hz1 : z = (2 : Int32) := by rw [hz, hvs1]; first | done | rfl
        have F157 := ((F78.keep Kk88q).keep Kk105q)
        have F158 := (Qk88_1.keep Kk105q (ninS ne37 nin0))
        have F159 := (Qk88_0.keep Kk105q (ninS ne37 nin0))
        have F160 := (Qk88_3.keep Kk105q (ninS (Ne.symm ne82) nin0))
        have F161 := (((((Qk34_0.keep Kk44q).keep Kk64q).keep Kk76q).keep Kk88q).keep Kk105q)
        have ne162 : rk34 ≠ bo1 := ne_exa F161 F157 (by decide)
        have ne163 : rk34 ≠ ik11 := ne_exa F161 F155 (by decide)
        have ne164 : rk34 ≠ bk44 := Exa.neArv (((((Qk34_0.keep Kk44q).keep Kk64q).keep Kk76q).keep Kk88q).keep Kk105q) F160 (tw hw 244 rfl)
        have F165 := (((((Qk34_1.keep Kk44q (ninS ne162 nin0)).keep Kk64q (ninS ne163 nin0)).keep Kk76q nin0).keep Kk88q (ninS ne162 (ninS ne164 nin0))).keep Kk105q (ninS ne163 nin0))
        have F166 := ((Qk76_0.keep Kk88q).keep Kk105q)
        have ne167 : rk76 ≠ bk44 := Exa.neArv ((Qk76_0.keep Kk88q).keep Kk105q) F160 (tw hw 244 rfl)
        have ne168 : rk76 ≠ bo1 := ne_exa F166 F157 (by decide)
        have ne169 : rk76 ≠ ik11 := ne_exa F166 F155 (by decide)
        have F170 := ((Qk76_1.keep Kk88q (ninS ne168 (ninS ne167 nin0))).keep Kk105q (ninS ne169 nin0))
        have Y171 : h0.size ≤ Tk105.heap.size := (Nat.le_trans (Nat.le_trans (Nat.le_trans (Nat.le_trans (Nat.le_trans Y45 Kk44q.1) Kk64q.1) Kk76q.1) Kk88q.1) Kk105q.1)
        obtain ⟨s₂, _, u1, u2, u3, _, L, rfl, ⟨b, kb, rfl, Nb, Kb, gb, Eb, Vb⟩, u5⟩ := tl_pt2 p l e s m _ below meth c _ _ Z a0 hw ls ng bo1 ik11 x2 bk44 kk44 rk34 rk76 p0 p1 Tk105.heap n0 (Xk154.more (by decide) (by decide)) hx hZ hby hml hown hret Bd.notSynchronized ek154 Nk154 Z110 O111 F157 F158 F159 F160 F161 F165 F166 F170
        exact ⟨s₂, _, r156 _ u1, u2, u3, _, L, rfl, ⟨b, kb, rfl, Nb, Keep.trans K106 Kb all0, Nat.le_trans Y171 gb, Eb, by rw [hz1, hvs1]; exact Vb⟩, u5⟩
    · have F172 := (F53.keep Kk64q (ninS ne49 nin0))
      have F174 := (F51.keep Kk64q)
      obtain ⟨cqk173, kqk173, qk173a, qk173b, qk173c⟩ := isOf hZ ek71 F174
      obtain ⟨_, _, ⟨Tk173, Lk173, kk173, nk173⟩, -, Xk173, ⟨Lck173, hQk173, lk173, yk173, zk173⟩, stk173⟩ := Xk71.interfaceBack hx (xi := Y32) (y := Y14) hown (mvT hZ (tw hw 63 rfl)) (mvT hZ (tw hw 64 rfl)) (mvT hZ (tw hw 65 rfl)) (mvT hZ (tw hw 66 rfl)) (mvT hZ (tw hw 67 rfl)) (mvT hZ (tw hw 68 rfl)) (mvT hZ (tw hw 69 rfl)) (mvT hZ (tw hw 70 rfl)) (by decide) (backOf (W := 0) (rm_hasnext l Z a0 hw [] ik11 ls (2 : Int32) (3 : Int32) (1 : Int32)  Tk64.heap n0 Z69 O70 Qk64_1 Qk64_0 F172 (by decide)) hZ (tw hw 71 rfl) (tw hw 49 rfl) (by decide) (by decide)) qk173a qk173b qk173c (g := (mkF m 16 #[.val (.ref ls), .val (.int ng), .val (.ref bo1), .val (.ref ik11), .val (.ref x1)] [(.ref ik11)])) rfl (by rw [hml]; rfl) (Steps.refl _) (argsL := []) (rest := []) (lenOf pd___Z rfl) rfl (by show 2 * 0 + _ ≤ _; exact Nat.le_of_eq rfl) (hb hby d6_16) (fun _ _ => ⟨rfl, ek71, (by decide : 4 + 0 ≤ _), (by decide : 18 + 0 ≤ _)⟩)
      dsimp only [Pt.U, Pt.locs, Pt.cells, Pt.slots] at Xk173 lk173 yk173 zk173 stk173 hQk173
      subst lk173 yk173 zk173
      obtain ⟨rfl, Nk173q, ek173⟩ := hQk173
      have Nk173 := Fr.app Nk71 Nk173q
      have F175 := (F50.keep Kk64q)
      have F176 := (F59.keep Kk64q (ninS ne49 nin0))
      have F177 := (F60.keep Kk64q (ninS ne49 nin0))
      have F178 := (F63.keep Kk64q (ninS (Ne.symm ne61) nin0))
      obtain ⟨cqk179, kqk179, qk179a, qk179b, qk179c⟩ := isOf hZ ek173 F174
      obtain ⟨_, _, ⟨Tk179, Lk179, kk179, nk179⟩, -, Xk179, ⟨Lck179, hQk179, lk179, yk179, zk179⟩, stk179⟩ := Xk173.interfaceBack hx (xi := Y33) (y := Y16) hown (mvT hZ (tw hw 173 rfl)) (mvT hZ (tw hw 174 rfl)) (mvT hZ (tw hw 175 rfl)) (mvT hZ (tw hw 176 rfl)) (mvT hZ (tw hw 177 rfl)) (mvT hZ (tw hw 178 rfl)) (mvT hZ (tw hw 179 rfl)) (mvT hZ (tw hw 70 rfl)) (by decide) (backOf (W := 0) (rm_next l Z a0 hw [] ik11 ls (2 : Int32) (3 : Int32) (1 : Int32) mc (3 : Int32) ed ked [(.ref x0), (.ref x1), (.ref x2), .null, .null, .null, .null, .null, .null, .null] x2  Tk64.heap n0 Z69 O70 F174 Qk64_0 Qk64_1 Qk64_2 Qk64_3 F175 F176 F172 F177 F178 g_ik11 (by decide) (by decide) (by decide) (by decide) rfl) hZ (tw hw 180 rfl) (tw hw 49 rfl) (by decide) (by decide)) qk179a qk179b qk179c (g := (mkF m 25 #[.val (.ref ls), .val (.int ng), .val (.ref bo1), .val (.ref ik11), .val (.ref x1)] [(.ref ik11)])) rfl (by rw [hml]; rfl) (Steps.refl _) (argsL := []) (rest := []) (lenOf pd___Ljava_lang_Object_ rfl) rfl (by show 2 * 0 + _ ≤ _; exact Nat.le_of_eq rfl) (hb hby d6_25) (fun _ _ => ⟨rfl, ek173, (by decide : 4 + 0 ≤ _), (by decide : 18 + 0 ≤ _)⟩)
      dsimp only [Pt.U, Pt.locs, Pt.cells, Pt.slots] at Xk179 lk179 yk179 zk179 stk179 hQk179
      subst lk179 yk179 zk179
      obtain ⟨rfl, Nk179q, Kk179q, Qk179_0, Qk179_1, Qk179_2, Qk179_3⟩ := hQk179
      have K180 : Keep h0 Tk179.heap [] := K65.trans Kk179q (allS (P := fun x => x ∈ ([] : List Addr) ∨ h0.size ≤ x) (Or.inr y_ik11) all0)
      have Nk179 := Fr.app Nk173 Nk179q
      have F182 := (f11.keep K180)
      obtain ⟨Tx181, Xx181, ex181, stx181⟩ := castY Xk179 hx hZ hown (tw hw 187 rfl) rfl (Ins.self F182) (g := (mkF m 30 #[.val (.ref ls), .val (.int ng), .val (.ref bo1), .val (.ref ik11), .val (.ref x1)] [(.ref x2)])) rfl rfl (hb hby d6_30)
      have F183 := (f13.keep K180 nin0)
      have Z184 : n0 ≤ Tk179.heap.size := (Nat.le_trans Z69 Kk179q.1)
      have O185 : Old Z n0 Tk179.heap := (O70.keep Kk179q (allS g_ik11 all0))
      obtain ⟨cqk186, kqk186, qk186a, qk186b, qk186c⟩ := isOf hZ ex181 F182
      obtain ⟨_, _, ⟨Tk186, Lk186, kk186, nk186⟩, -, Xk186, ⟨Lck186, hQk186, lk186, yk186, zk186⟩, stk186⟩ := Xx181.virtualBack hx (y := Y17) (z := Y17) hown (mvT hZ (tw hw 189 rfl)) (mvT hZ (tw hw 190 rfl)) (notFace_of_selects (args := #[]) (mvT hZ (tw hw 192 rfl))) (mvT hZ (tw hw 192 rfl)) (mvT hZ (tw hw 191 rfl)) (by decide) (backOf (W := 0) (rm_isneg l Z a0 hw [] x2 g2  Tk179.heap n0 Z184 O185 F183 hg2) hZ (tw hw 193 rfl) (tw hw 113 rfl) (by decide) (by decide)) qk186a qk186c (g := (mkF m 37 #[.val (.ref ls), .val (.int ng), .val (.ref bo1), .val (.ref ik11), .val (.ref x2)] [(.ref x2)])) rfl (by rw [hml]; rfl) (Steps.refl _) (argsL := []) (rest := []) (lenOf pd___Z rfl) rfl (by show 2 * 0 + _ ≤ _; exact Nat.le_of_eq rfl) (hb hby d6_37) (fun _ _ => ⟨rfl, ex181, (by decide : 4 + 0 ≤ _), (by decide : 18 + 0 ≤ _)⟩)
      dsimp only [Pt.U, Pt.locs, Pt.cells, Pt.slots] at Xk186 lk186 yk186 zk186 stk186 hQk186
      subst lk186 yk186 zk186
      obtain ⟨rfl, Nk186q, ek186⟩ := hQk186
      have Nk186 := Fr.app Nk179 Nk186q
      have r187 : ∀ t_, Sp p e below Tk186 (mkF m 41 #[.val (.ref ls), .val (.int ng), .val (.ref bo1), .val (.ref ik11), .val (.ref x2)] [(.int ng), (.int g2)]) t_ → Sp p e below s₁ (entryFrame m #[(.ref ls), (.int ng)] 5) t_ := by
        intro t_ k_
        refine r72 _ ?_
        refine XS.icmpYes Xk71.here hx rfl (pc0 := 41) (pc' := 59) rfl (hb hby d6_41) rfl (feq c73).2 (by decide) (by decide) ?_
        refine XS.goto Xk71.here hx rfl (pc0 := 59) (pc' := 15) rfl (hb hby d6_59) (by decide) (by decide) ?_
        refine XS.aloadN Xk71.here hx rfl (hb hby d6_15) rfl rfl ?_
        refine stk173.trans ?_
        refine XS.ifNo Xk173.here hx rfl (hb hby d6_21) rfl ((if0 _ _).trans (feq (by decide : ¬ ((1 : Int32) = (0 : Int32)))).1) ?_
        refine XS.aloadN Xk173.here hx rfl (hb hby d6_24) rfl rfl ?_
        refine stk179.trans ?_
        refine stx181 _ ?_
        refine XS.astore Xx181.here hx rfl (hb hby d6_33) rfl rfl (l' := #[.val (.ref ls), .val (.int ng), .val (.ref bo1), .val (.ref ik11), .val (.ref x2)]) rfl ?_
        refine XS.aload Xx181.here hx rfl (hb hby d6_35) rfl rfl ?_
        refine stk186.trans ?_
        refine XS.iloadN Xk186.here hx rfl (hb hby d6_40) rfl ?_
        show Sp p e below Tk186 (mkF m 41 #[.val (.ref ls), .val (.int ng), .val (.ref bo1), .val (.ref ik11), .val (.ref x2)] [(.int ng), (.int g2)]) _
        exact k_
      by_cases c188 : g2 = ng
      · have F189 := (f12.keep K180 nin0)
        obtain ⟨cqk190, kqk190, qk190a, qk190b, qk190c⟩ := isOf hZ ek186 F182
        obtain ⟨_, _, ⟨Tk190, Lk190, kk190, nk190⟩, -, Xk190, ⟨Lck190, hQk190, lk190, yk190, zk190⟩, stk190⟩ := Xk186.virtualBack hx (y := Y18) (z := Y18) hown (mvT hZ (tw hw 194 rfl)) (mvT hZ (tw hw 195 rfl)) (notFace_of_selects (args := #[]) (mvT hZ (tw hw 197 rfl))) (mvT hZ (tw hw 197 rfl)) (mvT hZ (tw hw 196 rfl)) (by decide) (backOf (W := 1) (rm_prop l Z a0 hw [] x2 p2  Tk179.heap n0 Z184 O185 F189) hZ (tw hw 198 rfl) (tw hw 113 rfl) (by decide) (by decide)) qk190a qk190c (g := (mkF m 47 #[.val (.ref ls), .val (.int ng), .val (.ref bo1), .val (.ref ik11), .val (.ref x2)] [(.ref x2), (.ref bo1)])) rfl (by rw [hml]; rfl) (Steps.refl _) (argsL := []) (rest := [(.ref bo1)]) (lenOf pd___I rfl) rfl (by show 2 * 0 + _ ≤ _; exact Nat.le_of_eq rfl) (hb hby d6_47) (fun _ _ => ⟨rfl, ek186, (by decide : 4 + 0 ≤ _), (by decide : 18 + 0 ≤ _)⟩)
        dsimp only [Pt.U, Pt.locs, Pt.cells, Pt.slots] at Xk190 lk190 yk190 zk190 stk190 hQk190
        subst lk190 yk190 zk190
        obtain ⟨rfl, Nk190q, ek190⟩ := hQk190
        have Nk190 := Fr.app Nk186 Nk190q
        obtain ⟨_, _, ⟨Tk191, Lk191, kk191, nk191⟩, -, Xk191, ⟨Lck191, hQk191, lk191, yk191, zk191⟩, stk191⟩ := Jvm.LawKit.callS Xk190 hx (y := Y27) hown (mvT hZ (tw hw 199 rfl)) (mvT hZ (tw hw 200 rfl)) (mvT hZ (tw hw 201 rfl)) (mvT hZ (tw hw 202 rfl)) (by decide) (backOf (W := 1) (rm_valueof l Z a0 hw [] p2 aD kD aL aC Tk179.heap n0 Z184 O185 ⟨S_DEF, V_DEF, S_LIT, E_LIT, O_LIT, S_HI, S_CA, C_CA⟩) hZ (tw hw 202 rfl) (tw hw 201 rfl) (by decide) (by decide)) (g := (mkF m 50 #[.val (.ref ls), .val (.int ng), .val (.ref bo1), .val (.ref ik11), .val (.ref x2)] [(.int p2), (.ref bo1)])) rfl (by rw [hml]; rfl) (argsL := [(.int p2)]) (rest := [(.ref bo1)]) (lenOf pd__I_Ljava_lang_Integer_ rfl) rfl (by show 2 * 0 + _ ≤ _; exact Nat.le_of_eq rfl) (hb hby d6_50) (fun _ _ => ⟨rfl, ek190, (by decide : 4 + 1 ≤ _), (by decide : 18 + 1 ≤ _)⟩)
        dsimp only [Pt.U, Pt.locs, Pt.cells, Pt.slots] at Xk191 lk191 yk191 zk191 stk191 hQk191
        subst lk191 yk191 zk191
        obtain ⟨rk191, rfl, Nk191q, Kk191q, Qk191_0, Qk191_1⟩ := hQk191
        have K192 : Keep h0 Tk191.heap [] := K180.trans Kk191q all0
        have Nk191 := Fr.app Nk190 Nk191q
        have F193 := ((((F36.keep Kk44q).keep Kk64q).keep Kk179q).keep Kk191q)
        have F194 := (((Qk44_0.keep Kk64q (ninS ne37 nin0)).keep Kk179q (ninS ne37 nin0)).keep Kk191q nin0)
        have F195 := (((Qk44_1.keep Kk64q (ninS ne37 nin0)).keep Kk179q (ninS ne37 nin0)).keep Kk191q nin0)
        have F196 := (((Qk44_2.keep Kk64q (ninS ne37 nin0)).keep Kk179q (ninS ne37 nin0)).keep Kk191q nin0)
        have ne197 : ik11 ≠ bk44 := Exa.neArv (((Qk11_0.keep Kk22q).keep Kk34q).keep Kk44q) Qk44_3 (tw hw 48 rfl)
        have F198 := (((Qk44_3.keep Kk64q (ninS (Ne.symm ne197) nin0)).keep Kk179q (ninS (Ne.symm ne197) nin0)).keep Kk191q nin0)
        have F199 := Qk44_4
        have ne200 : bo1 ≠ bk44 := Exa.neArv ((((((((Ao1.keep Kk5q).keep Kk11q).keep Kk22q).keep Kk34q).keep Kk44q).keep Kk64q).keep Kk179q).keep Kk191q) F198 (tw hw 1 rfl)
        have Z201 : n0 ≤ Tk191.heap.size := (Nat.le_trans Z184 Kk191q.1)
        have O202 : Old Z n0 Tk191.heap := (O185.keep Kk191q all0)
        obtain ⟨cqk203, kqk203, qk203a, qk203b, qk203c⟩ := isOf hZ rfl F193
        obtain ⟨_, _, ⟨Tk203, Lk203, kk203, nk203⟩, -, Xk203, ⟨Lck203, hQk203, lk203, yk203, zk203⟩, stk203⟩ := Xk191.interfaceBack hx (xi := Y34) (y := Y11) hown (mvT hZ (tw hw 206 rfl)) (mvT hZ (tw hw 207 rfl)) (mvT hZ (tw hw 208 rfl)) (mvT hZ (tw hw 209 rfl)) (mvT hZ (tw hw 147 rfl)) (mvT hZ (tw hw 210 rfl)) (mvT hZ (tw hw 211 rfl)) (mvT hZ (tw hw 83 rfl)) (by decide) (backOf (W := 0) (rm_add_1 l Z a0 hw [] bo1 rk191 bk44 kk44 (1 : Int32) (2 : Int32) rk34 aD kD aL aC Tk191.heap n0 Z201 O202 F193 F194 F195 F196 (Ins.of_exa Qk191_0 (tw hw 212 rfl)) F198 F199 ⟨S_DEF, V_DEF, S_LIT, E_LIT, O_LIT, S_HI, S_CA, C_CA⟩ g_bo1 g_bk44 ne200 (by decide)) hZ (tw hw 149 rfl) (tw hw 2 rfl) (by decide) (by decide)) qk203a qk203b qk203c (g := (mkF m 53 #[.val (.ref ls), .val (.int ng), .val (.ref bo1), .val (.ref ik11), .val (.ref x2)] [(.ref rk191), (.ref bo1)])) rfl (by rw [hml]; rfl) (Steps.refl _) (argsL := [(.ref rk191)]) (rest := []) (lenOf pd__Ljava_lang_Object__Z rfl) rfl (by show 2 * 0 + _ ≤ _; exact Nat.le_of_eq rfl) (hb hby d6_53) (fun _ _ => ⟨rfl, rfl, (by decide : 5 + 0 ≤ _), (by decide : 19 + 0 ≤ _)⟩)
        dsimp only [Pt.U, Pt.locs, Pt.cells, Pt.slots] at Xk203 lk203 yk203 zk203 stk203 hQk203
        subst lk203 yk203 zk203
        obtain ⟨rfl, Nk203q, Kk203q, Qk203_0, Qk203_1, Qk203_2, Qk203_3⟩ := hQk203
        have K204 : Keep h0 Tk203.heap [] := K192.trans Kk203q (allS (P := fun x => x ∈ ([] : List Addr) ∨ h0.size ≤ x) (Or.inr y_bo1) (allS (P := fun x => x ∈ ([] : List Addr) ∨ h0.size ≤ x) (Or.inr y_bk44) all0))
        have Nk203 := Fr.app Nk191 Nk203q
        have F205 := ((Qk179_1.keep Kk191q nin0).keep Kk203q (ninS (Ne.symm ne37) (ninS ne197 nin0)))
        have F206 := ((Qk179_0.keep Kk191q nin0).keep Kk203q (ninS (Ne.symm ne37) (ninS ne197 nin0)))
        have ne207 : ls ≠ bk44 := Exa.neArv ((((((((((f0.ext Eo1).keep Kk5q).keep Kk11q).keep Kk22q).keep Kk34q).keep Kk44q).keep Kk64q).keep Kk179q).keep Kk191q).keep Kk203q) Qk203_3 (tw hw 1 rfl)
        have F208 := (((F172.keep Kk179q (ninS ne49 nin0)).keep Kk191q nin0).keep Kk203q (ninS ne52 (ninS ne207 nin0)))
        have Z209 : n0 ≤ Tk203.heap.size := (Nat.le_trans Z201 Kk203q.1)
        have O210 : Old Z n0 Tk203.heap := (O202.keep Kk203q (allS g_bo1 (allS g_bk44 all0)))
        have F212 := (((F174.keep Kk179q).keep Kk191q).keep Kk203q)
        obtain ⟨cqk211, kqk211, qk211a, qk211b, qk211c⟩ := isOf hZ rfl F212
        obtain ⟨_, _, ⟨Tk211, Lk211, kk211, nk211⟩, -, Xk211, ⟨Lck211, hQk211, lk211, yk211, zk211⟩, stk211⟩ := Xk203.interfaceBack hx (xi := Y32) (y := Y14) hown (mvT hZ (tw hw 63 rfl)) (mvT hZ (tw hw 64 rfl)) (mvT hZ (tw hw 65 rfl)) (mvT hZ (tw hw 66 rfl)) (mvT hZ (tw hw 67 rfl)) (mvT hZ (tw hw 68 rfl)) (mvT hZ (tw hw 69 rfl)) (mvT hZ (tw hw 70 rfl)) (by decide) (backOf (W := 0) (rm_hasnext l Z a0 hw [] ik11 ls (3 : Int32) (3 : Int32) (0 : Int32)  Tk203.heap n0 Z209 O210 F205 F206 F208 (by decide)) hZ (tw hw 71 rfl) (tw hw 49 rfl) (by decide) (by decide)) qk211a qk211b qk211c (g := (mkF m 16 #[.val (.ref ls), .val (.int ng), .val (.ref bo1), .val (.ref ik11), .val (.ref x2)] [(.ref ik11)])) rfl (by rw [hml]; rfl) (Steps.refl _) (argsL := []) (rest := []) (lenOf pd___Z rfl) rfl (by show 2 * 0 + _ ≤ _; exact Nat.le_of_eq rfl) (hb hby d6_16) (fun _ _ => ⟨rfl, rfl, (by decide : 5 + 0 ≤ _), (by decide : 19 + 0 ≤ _)⟩)
        dsimp only [Pt.U, Pt.locs, Pt.cells, Pt.slots] at Xk211 lk211 yk211 zk211 stk211 hQk211
        subst lk211 yk211 zk211
        obtain ⟨rfl, Nk211q, ek211⟩ := hQk211
        have Nk211 := Fr.app Nk203 Nk211q
        have r213 : ∀ t_, Sp p e below Tk211 (mkF m 62 #[.val (.ref ls), .val (.int ng), .val (.ref bo1), .val (.ref ik11), .val (.ref x2)] []) t_ → Sp p e below s₁ (entryFrame m #[(.ref ls), (.int ng)] 5) t_ := by
          intro t_ k_
          refine r187 _ ?_
          refine XS.icmpNo Xk186.here hx rfl (hb hby d6_41) rfl (teq c188).2 ?_
          refine XS.aloadN Xk186.here hx rfl (hb hby d6_44) rfl rfl ?_
          refine XS.aload Xk186.here hx rfl (hb hby d6_45) rfl rfl ?_
          refine stk190.trans ?_
          refine stk191 _ ?_
          refine stk203.trans ?_
          refine XS.pop Xk203.here hx rfl (hb hby d6_58) rfl rfl ?_
          refine XS.goto Xk203.here hx rfl (pc0 := 59) (pc' := 15) rfl (hb hby d6_59) (by decide) (by decide) ?_
          refine XS.aloadN Xk203.here hx rfl (hb hby d6_15) rfl rfl ?_
          refine stk211.trans ?_
          refine XS.ifYes Xk211.here hx rfl (pc0 := 21) (pc' := 62) rfl (hb hby d6_21) rfl ((if0 _ _).trans (teq (by decide : (0 : Int32) = (0 : Int32))).1) (by decide) (by decide) ?_
          show Sp p e below Tk211 (mkF m 62 #[.val (.ref ls), .val (.int ng), .val (.ref bo1), .val (.ref ik11), .val (.ref x2)] []) _
          exact k_
        have hvs1 : vs = [(.int p0), (.int p2)] := by rw [hvs]; first | done | simp [own_f, c31, c73, c188]
        have hz1 : z = (2 : Int32) := by rw [hz, hvs1]; first | done | rfl
        have F214 := (F193.keep Kk203q)
        have F215 := (((((Qk34_0.keep Kk44q).keep Kk64q).keep Kk179q).keep Kk191q).keep Kk203q)
        have ne216 : rk34 ≠ bo1 := ne_exa F215 F214 (by decide)
        have ne217 : rk34 ≠ ik11 := ne_exa F215 F212 (by decide)
        have ne218 : rk34 ≠ bk44 := Exa.neArv (((((Qk34_0.keep Kk44q).keep Kk64q).keep Kk179q).keep Kk191q).keep Kk203q) Qk203_3 (tw hw 244 rfl)
        have F219 := (((((Qk34_1.keep Kk44q (ninS ne216 nin0)).keep Kk64q (ninS ne217 nin0)).keep Kk179q (ninS ne217 nin0)).keep Kk191q nin0).keep Kk203q (ninS ne216 (ninS ne218 nin0)))
        have F220 := (Qk191_0.keep Kk203q)
        have ne221 : rk191 ≠ bk44 := Exa.neArv (Qk191_0.keep Kk203q) Qk203_3 (tw hw 244 rfl)
        have ne222 : rk191 ≠ bo1 := ne_exa F220 F214 (by decide)
        have F223 := (Qk191_1.keep Kk203q (ninS ne222 (ninS ne221 nin0)))
        have Y224 : h0.size ≤ Tk203.heap.size := (Nat.le_trans (Nat.le_trans (Nat.le_trans (Nat.le_trans (Nat.le_trans Y45 Kk44q.1) Kk64q.1) Kk179q.1) Kk191q.1) Kk203q.1)
        obtain ⟨s₂, _, u1, u2, u3, _, L, rfl, ⟨b, kb, rfl, Nb, Kb, gb, Eb, Vb⟩, u5⟩ := tl_pt2 p l e s m _ below meth c _ _ Z a0 hw ls ng bo1 ik11 x2 bk44 kk44 rk34 rk191 p0 p2 Tk203.heap n0 (Xk211.more (by decide) (by decide)) hx hZ hby hml hown hret Bd.notSynchronized ek211 Nk211 Z209 O210 F214 Qk203_1 Qk203_0 Qk203_3 F215 F219 F220 F223
        exact ⟨s₂, _, r213 _ u1, u2, u3, _, L, rfl, ⟨b, kb, rfl, Nb, Keep.trans K204 Kb all0, Nat.le_trans Y224 gb, Eb, by rw [hz1, hvs1]; exact Vb⟩, u5⟩
      · have F225 := (F172.keep Kk179q (ninS ne49 nin0))
        have F227 := (F174.keep Kk179q)
        obtain ⟨cqk226, kqk226, qk226a, qk226b, qk226c⟩ := isOf hZ ek186 F227
        obtain ⟨_, _, ⟨Tk226, Lk226, kk226, nk226⟩, -, Xk226, ⟨Lck226, hQk226, lk226, yk226, zk226⟩, stk226⟩ := Xk186.interfaceBack hx (xi := Y32) (y := Y14) hown (mvT hZ (tw hw 63 rfl)) (mvT hZ (tw hw 64 rfl)) (mvT hZ (tw hw 65 rfl)) (mvT hZ (tw hw 66 rfl)) (mvT hZ (tw hw 67 rfl)) (mvT hZ (tw hw 68 rfl)) (mvT hZ (tw hw 69 rfl)) (mvT hZ (tw hw 70 rfl)) (by decide) (backOf (W := 0) (rm_hasnext l Z a0 hw [] ik11 ls (3 : Int32) (3 : Int32) (0 : Int32)  Tk179.heap n0 Z184 O185 Qk179_1 Qk179_0 F225 (by decide)) hZ (tw hw 71 rfl) (tw hw 49 rfl) (by decide) (by decide)) qk226a qk226b qk226c (g := (mkF m 16 #[.val (.ref ls), .val (.int ng), .val (.ref bo1), .val (.ref ik11), .val (.ref x2)] [(.ref ik11)])) rfl (by rw [hml]; rfl) (Steps.refl _) (argsL := []) (rest := []) (lenOf pd___Z rfl) rfl (by show 2 * 0 + _ ≤ _; exact Nat.le_of_eq rfl) (hb hby d6_16) (fun _ _ => ⟨rfl, ek186, (by decide : 4 + 0 ≤ _), (by decide : 18 + 0 ≤ _)⟩)
        dsimp only [Pt.U, Pt.locs, Pt.cells, Pt.slots] at Xk226 lk226 yk226 zk226 stk226 hQk226
        subst lk226 yk226 zk226
        obtain ⟨rfl, Nk226q, ek226⟩ := hQk226
        have Nk226 := Fr.app Nk186 Nk226q
        have r228 : ∀ t_, Sp p e below Tk226 (mkF m 62 #[.val (.ref ls), .val (.int ng), .val (.ref bo1), .val (.ref ik11), .val (.ref x2)] []) t_ → Sp p e below s₁ (entryFrame m #[(.ref ls), (.int ng)] 5) t_ := by
          intro t_ k_
          refine r187 _ ?_
          refine XS.icmpYes Xk186.here hx rfl (pc0 := 41) (pc' := 59) rfl (hb hby d6_41) rfl (feq c188).2 (by decide) (by decide) ?_
          refine XS.goto Xk186.here hx rfl (pc0 := 59) (pc' := 15) rfl (hb hby d6_59) (by decide) (by decide) ?_
          refine XS.aloadN Xk186.here hx rfl (hb hby d6_15) rfl rfl ?_
          refine stk226.trans ?_
          refine XS.ifYes Xk226.here hx rfl (pc0 := 21) (pc' := 62) rfl (hb hby d6_21) rfl ((if0 _ _).trans (teq (by decide : (0 : Int32) = (0 : Int32))).1) (by decide) (by decide) ?_
          show Sp p e below Tk226 (mkF m 62 #[.val (.ref ls), .val (.int ng), .val (.ref bo1), .val (.ref ik11), .val (.ref x2)] []) _
          exact k_
        have hvs1 : vs = [(.int p0)] := by rw [hvs]; first | done | simp [own_f, c31, c73, c188]
        have hz1 : z = (1 : Int32) := by rw [hz, hvs1]; first | done | rfl
        have F229 := (((F36.keep Kk44q).keep Kk64q).keep Kk179q)
        have F230 := ((Qk44_1.keep Kk64q (ninS ne37 nin0)).keep Kk179q (ninS ne37 nin0))
        have F231 := ((Qk44_0.keep Kk64q (ninS ne37 nin0)).keep Kk179q (ninS ne37 nin0))
        have ne232 : ik11 ≠ bk44 := Exa.neArv (((Qk11_0.keep Kk22q).keep Kk34q).keep Kk44q) Qk44_3 (tw hw 48 rfl)
        have F233 := ((Qk44_3.keep Kk64q (ninS (Ne.symm ne232) nin0)).keep Kk179q (ninS (Ne.symm ne232) nin0))
        have F234 := (((Qk34_0.keep Kk44q).keep Kk64q).keep Kk179q)
        have ne235 : rk34 ≠ bo1 := ne_exa F234 F229 (by decide)
        have ne236 : rk34 ≠ ik11 := ne_exa F234 F227 (by decide)
        have F237 := (((Qk34_1.keep Kk44q (ninS ne235 nin0)).keep Kk64q (ninS ne236 nin0)).keep Kk179q (ninS ne236 nin0))
        have Y238 : h0.size ≤ Tk179.heap.size := (Nat.le_trans (Nat.le_trans (Nat.le_trans Y45 Kk44q.1) Kk64q.1) Kk179q.1)
        obtain ⟨s₂, _, u1, u2, u3, _, L, rfl, ⟨b, kb, rfl, Nb, Kb, gb, Eb, Vb⟩, u5⟩ := tl_pt1 p l e s m _ below meth c _ _ Z a0 hw ls ng bo1 ik11 x2 bk44 kk44 rk34 p0 Tk179.heap n0 (Xk226.more (by decide) (by decide)) hx hZ hby hml hown hret Bd.notSynchronized ek226 Nk226 Z184 O185 F229 F230 F231 F233 F234 F237
        exact ⟨s₂, _, r228 _ u1, u2, u3, _, L, rfl, ⟨b, kb, rfl, Nb, Keep.trans K180 Kb all0, Nat.le_trans Y238 gb, Eb, by rw [hz1, hvs1]; exact Vb⟩, u5⟩
  · have F240 := (F18.keep Kk22q)
    have F241 := (Qk11_0.keep Kk22q)
    have ne239 : ls ≠ ik11 := ne_exa F240 F241 (by decide)
    have F242 := (F14.keep Kk22q (ninS ne239 nin0))
    obtain ⟨cqk243, kqk243, qk243a, qk243b, qk243c⟩ := isOf hZ ek29 F241
    obtain ⟨_, _, ⟨Tk243, Lk243, kk243, nk243⟩, -, Xk243, ⟨Lck243, hQk243, lk243, yk243, zk243⟩, stk243⟩ := Xk29.interfaceBack hx (xi := Y32) (y := Y14) hown (mvT hZ (tw hw 63 rfl)) (mvT hZ (tw hw 64 rfl)) (mvT hZ (tw hw 65 rfl)) (mvT hZ (tw hw 66 rfl)) (mvT hZ (tw hw 67 rfl)) (mvT hZ (tw hw 68 rfl)) (mvT hZ (tw hw 69 rfl)) (mvT hZ (tw hw 70 rfl)) (by decide) (backOf (W := 0) (rm_hasnext l Z a0 hw [] ik11 ls (1 : Int32) (3 : Int32) (1 : Int32)  Tk22.heap n0 Z27 O28 Qk22_1 Qk22_0 F242 (by decide)) hZ (tw hw 71 rfl) (tw hw 49 rfl) (by decide) (by decide)) qk243a qk243b qk243c (g := (mkF m 16 #[.val (.ref ls), .val (.int ng), .val (.ref bo1), .val (.ref ik11), .val (.ref x0)] [(.ref ik11)])) rfl (by rw [hml]; rfl) (Steps.refl _) (argsL := []) (rest := []) (lenOf pd___Z rfl) rfl (by show 2 * 0 + _ ≤ _; exact Nat.le_of_eq rfl) (hb hby d6_16) (fun _ _ => ⟨rfl, ek29, (by decide : 2 + 0 ≤ _), (by decide : 7 + 0 ≤ _)⟩)
    dsimp only [Pt.U, Pt.locs, Pt.cells, Pt.slots] at Xk243 lk243 yk243 zk243 stk243 hQk243
    subst lk243 yk243 zk243
    obtain ⟨rfl, Nk243q, ek243⟩ := hQk243
    have Nk243 := Fr.app Nk29 Nk243q
    have F244 := (F19.keep Kk22q (ninS ne239 nin0))
    have F245 := (F20.keep Kk22q (ninS ne239 nin0))
    have ne246 : ik11 ≠ ed := Exa.neArv Qk11_0 F21 (tw hw 48 rfl)
    have F247 := (F21.keep Kk22q (ninS (Ne.symm ne246) nin0))
    obtain ⟨cqk248, kqk248, qk248a, qk248b, qk248c⟩ := isOf hZ ek243 F241
    obtain ⟨_, _, ⟨Tk248, Lk248, kk248, nk248⟩, -, Xk248, ⟨Lck248, hQk248, lk248, yk248, zk248⟩, stk248⟩ := Xk243.interfaceBack hx (xi := Y33) (y := Y16) hown (mvT hZ (tw hw 173 rfl)) (mvT hZ (tw hw 174 rfl)) (mvT hZ (tw hw 175 rfl)) (mvT hZ (tw hw 176 rfl)) (mvT hZ (tw hw 177 rfl)) (mvT hZ (tw hw 178 rfl)) (mvT hZ (tw hw 179 rfl)) (mvT hZ (tw hw 70 rfl)) (by decide) (backOf (W := 0) (rm_next l Z a0 hw [] ik11 ls (1 : Int32) (2 : Int32) (0 : Int32) mc (3 : Int32) ed ked [(.ref x0), (.ref x1), (.ref x2), .null, .null, .null, .null, .null, .null, .null] x1  Tk22.heap n0 Z27 O28 F241 Qk22_0 Qk22_1 Qk22_2 Qk22_3 F240 F244 F242 F245 F247 g_ik11 (by decide) (by decide) (by decide) (by decide) rfl) hZ (tw hw 180 rfl) (tw hw 49 rfl) (by decide) (by decide)) qk248a qk248b qk248c (g := (mkF m 25 #[.val (.ref ls), .val (.int ng), .val (.ref bo1), .val (.ref ik11), .val (.ref x0)] [(.ref ik11)])) rfl (by rw [hml]; rfl) (Steps.refl _) (argsL := []) (rest := []) (lenOf pd___Ljava_lang_Object_ rfl) rfl (by show 2 * 0 + _ ≤ _; exact Nat.le_of_eq rfl) (hb hby d6_25) (fun _ _ => ⟨rfl, ek243, (by decide : 2 + 0 ≤ _), (by decide : 7 + 0 ≤ _)⟩)
    dsimp only [Pt.U, Pt.locs, Pt.cells, Pt.slots] at Xk248 lk248 yk248 zk248 stk248 hQk248
    subst lk248 yk248 zk248
    obtain ⟨rfl, Nk248q, Kk248q, Qk248_0, Qk248_1, Qk248_2, Qk248_3⟩ := hQk248
    have K249 : Keep h0 Tk248.heap [] := K23.trans Kk248q (allS (P := fun x => x ∈ ([] : List Addr) ∨ h0.size ≤ x) (Or.inr y_ik11) all0)
    have Nk248 := Fr.app Nk243 Nk248q
    have F251 := (f8.keep K249)
    obtain ⟨Tx250, Xx250, ex250, stx250⟩ := castY Xk248 hx hZ hown (tw hw 187 rfl) rfl (Ins.self F251) (g := (mkF m 30 #[.val (.ref ls), .val (.int ng), .val (.ref bo1), .val (.ref ik11), .val (.ref x0)] [(.ref x1)])) rfl rfl (hb hby d6_30)
    have F252 := (f10.keep K249 nin0)
    have Z253 : n0 ≤ Tk248.heap.size := (Nat.le_trans Z27 Kk248q.1)
    have O254 : Old Z n0 Tk248.heap := (O28.keep Kk248q (allS g_ik11 all0))
    obtain ⟨cqk255, kqk255, qk255a, qk255b, qk255c⟩ := isOf hZ ex250 F251
    obtain ⟨_, _, ⟨Tk255, Lk255, kk255, nk255⟩, -, Xk255, ⟨Lck255, hQk255, lk255, yk255, zk255⟩, stk255⟩ := Xx250.virtualBack hx (y := Y17) (z := Y17) hown (mvT hZ (tw hw 189 rfl)) (mvT hZ (tw hw 190 rfl)) (notFace_of_selects (args := #[]) (mvT hZ (tw hw 192 rfl))) (mvT hZ (tw hw 192 rfl)) (mvT hZ (tw hw 191 rfl)) (by decide) (backOf (W := 0) (rm_isneg l Z a0 hw [] x1 g1  Tk248.heap n0 Z253 O254 F252 hg1) hZ (tw hw 193 rfl) (tw hw 113 rfl) (by decide) (by decide)) qk255a qk255c (g := (mkF m 37 #[.val (.ref ls), .val (.int ng), .val (.ref bo1), .val (.ref ik11), .val (.ref x1)] [(.ref x1)])) rfl (by rw [hml]; rfl) (Steps.refl _) (argsL := []) (rest := []) (lenOf pd___Z rfl) rfl (by show 2 * 0 + _ ≤ _; exact Nat.le_of_eq rfl) (hb hby d6_37) (fun _ _ => ⟨rfl, ex250, (by decide : 2 + 0 ≤ _), (by decide : 7 + 0 ≤ _)⟩)
    dsimp only [Pt.U, Pt.locs, Pt.cells, Pt.slots] at Xk255 lk255 yk255 zk255 stk255 hQk255
    subst lk255 yk255 zk255
    obtain ⟨rfl, Nk255q, ek255⟩ := hQk255
    have Nk255 := Fr.app Nk248 Nk255q
    have r256 : ∀ t_, Sp p e below Tk255 (mkF m 41 #[.val (.ref ls), .val (.int ng), .val (.ref bo1), .val (.ref ik11), .val (.ref x1)] [(.int ng), (.int g1)]) t_ → Sp p e below s₁ (entryFrame m #[(.ref ls), (.int ng)] 5) t_ := by
      intro t_ k_
      refine r30 _ ?_
      refine XS.icmpYes Xk29.here hx rfl (pc0 := 41) (pc' := 59) rfl (hb hby d6_41) rfl (feq c31).2 (by decide) (by decide) ?_
      refine XS.goto Xk29.here hx rfl (pc0 := 59) (pc' := 15) rfl (hb hby d6_59) (by decide) (by decide) ?_
      refine XS.aloadN Xk29.here hx rfl (hb hby d6_15) rfl rfl ?_
      refine stk243.trans ?_
      refine XS.ifNo Xk243.here hx rfl (hb hby d6_21) rfl ((if0 _ _).trans (feq (by decide : ¬ ((1 : Int32) = (0 : Int32)))).1) ?_
      refine XS.aloadN Xk243.here hx rfl (hb hby d6_24) rfl rfl ?_
      refine stk248.trans ?_
      refine stx250 _ ?_
      refine XS.astore Xx250.here hx rfl (hb hby d6_33) rfl rfl (l' := #[.val (.ref ls), .val (.int ng), .val (.ref bo1), .val (.ref ik11), .val (.ref x1)]) rfl ?_
      refine XS.aload Xx250.here hx rfl (hb hby d6_35) rfl rfl ?_
      refine stk255.trans ?_
      refine XS.iloadN Xk255.here hx rfl (hb hby d6_40) rfl ?_
      show Sp p e below Tk255 (mkF m 41 #[.val (.ref ls), .val (.int ng), .val (.ref bo1), .val (.ref ik11), .val (.ref x1)] [(.int ng), (.int g1)]) _
      exact k_
    by_cases c257 : g1 = ng
    · have F258 := (f9.keep K249 nin0)
      obtain ⟨cqk259, kqk259, qk259a, qk259b, qk259c⟩ := isOf hZ ek255 F251
      obtain ⟨_, _, ⟨Tk259, Lk259, kk259, nk259⟩, -, Xk259, ⟨Lck259, hQk259, lk259, yk259, zk259⟩, stk259⟩ := Xk255.virtualBack hx (y := Y18) (z := Y18) hown (mvT hZ (tw hw 194 rfl)) (mvT hZ (tw hw 195 rfl)) (notFace_of_selects (args := #[]) (mvT hZ (tw hw 197 rfl))) (mvT hZ (tw hw 197 rfl)) (mvT hZ (tw hw 196 rfl)) (by decide) (backOf (W := 1) (rm_prop l Z a0 hw [] x1 p1  Tk248.heap n0 Z253 O254 F258) hZ (tw hw 198 rfl) (tw hw 113 rfl) (by decide) (by decide)) qk259a qk259c (g := (mkF m 47 #[.val (.ref ls), .val (.int ng), .val (.ref bo1), .val (.ref ik11), .val (.ref x1)] [(.ref x1), (.ref bo1)])) rfl (by rw [hml]; rfl) (Steps.refl _) (argsL := []) (rest := [(.ref bo1)]) (lenOf pd___I rfl) rfl (by show 2 * 0 + _ ≤ _; exact Nat.le_of_eq rfl) (hb hby d6_47) (fun _ _ => ⟨rfl, ek255, (by decide : 2 + 0 ≤ _), (by decide : 7 + 0 ≤ _)⟩)
      dsimp only [Pt.U, Pt.locs, Pt.cells, Pt.slots] at Xk259 lk259 yk259 zk259 stk259 hQk259
      subst lk259 yk259 zk259
      obtain ⟨rfl, Nk259q, ek259⟩ := hQk259
      have Nk259 := Fr.app Nk255 Nk259q
      obtain ⟨_, _, ⟨Tk260, Lk260, kk260, nk260⟩, -, Xk260, ⟨Lck260, hQk260, lk260, yk260, zk260⟩, stk260⟩ := Jvm.LawKit.callS Xk259 hx (y := Y27) hown (mvT hZ (tw hw 199 rfl)) (mvT hZ (tw hw 200 rfl)) (mvT hZ (tw hw 201 rfl)) (mvT hZ (tw hw 202 rfl)) (by decide) (backOf (W := 1) (rm_valueof l Z a0 hw [] p1 aD kD aL aC Tk248.heap n0 Z253 O254 ⟨S_DEF, V_DEF, S_LIT, E_LIT, O_LIT, S_HI, S_CA, C_CA⟩) hZ (tw hw 202 rfl) (tw hw 201 rfl) (by decide) (by decide)) (g := (mkF m 50 #[.val (.ref ls), .val (.int ng), .val (.ref bo1), .val (.ref ik11), .val (.ref x1)] [(.int p1), (.ref bo1)])) rfl (by rw [hml]; rfl) (argsL := [(.int p1)]) (rest := [(.ref bo1)]) (lenOf pd__I_Ljava_lang_Integer_ rfl) rfl (by show 2 * 0 + _ ≤ _; exact Nat.le_of_eq rfl) (hb hby d6_50) (fun _ _ => ⟨rfl, ek259, (by decide : 2 + 1 ≤ _), (by decide : 7 + 1 ≤ _)⟩)
      dsimp only [Pt.U, Pt.locs, Pt.cells, Pt.slots] at Xk260 lk260 yk260 zk260 stk260 hQk260
      subst lk260 yk260 zk260
      obtain ⟨rk260, rfl, Nk260q, Kk260q, Qk260_0, Qk260_1⟩ := hQk260
      have K261 : Keep h0 Tk260.heap [] := K249.trans Kk260q all0
      have Nk260 := Fr.app Nk259 Nk260q
      have F262 := (((((Ao1.keep Kk5q).keep Kk11q).keep Kk22q).keep Kk248q).keep Kk260q)
      have F264 := ((F241.keep Kk248q).keep Kk260q)
      have ne263 : bo1 ≠ ik11 := ne_exa F262 F264 (by decide)
      have F265 := ((((Qk5_0.keep Kk11q nin0).keep Kk22q (ninS ne263 nin0)).keep Kk248q (ninS ne263 nin0)).keep Kk260q nin0)
      have F266 := ((((Qk5_1.keep Kk11q nin0).keep Kk22q (ninS ne263 nin0)).keep Kk248q (ninS ne263 nin0)).keep Kk260q nin0)
      have F267 := ((((Qk5_2.keep Kk11q nin0).keep Kk22q (ninS ne263 nin0)).keep Kk248q (ninS ne263 nin0)).keep Kk260q nin0)
      have Z268 : n0 ≤ Tk260.heap.size := (Nat.le_trans Z253 Kk260q.1)
      have O269 : Old Z n0 Tk260.heap := (O254.keep Kk260q all0)
      obtain ⟨cqk270, kqk270, qk270a, qk270b, qk270c⟩ := isOf hZ rfl F262
      obtain ⟨_, _, ⟨Tk270, Lk270, kk270, nk270⟩, -, Xk270, ⟨Lck270, hQk270, lk270, yk270, zk270⟩, stk270⟩ := Xk260.interfaceBack hx (xi := Y34) (y := Y11) hown (mvT hZ (tw hw 206 rfl)) (mvT hZ (tw hw 207 rfl)) (mvT hZ (tw hw 208 rfl)) (mvT hZ (tw hw 209 rfl)) (mvT hZ (tw hw 147 rfl)) (mvT hZ (tw hw 210 rfl)) (mvT hZ (tw hw 211 rfl)) (mvT hZ (tw hw 83 rfl)) (by decide) (backOf (W := 0) (rm_add_0 l Z a0 hw [] bo1 rk260 (0 : Int32) (1 : Int32) aD kD aL aC Tk260.heap n0 Z268 O269 F262 F265 F266 F267 (Ins.of_exa Qk260_0 (tw hw 212 rfl)) ⟨S_DEF, V_DEF, S_LIT, E_LIT, O_LIT, S_HI, S_CA, C_CA⟩ g_bo1 (by decide)) hZ (tw hw 149 rfl) (tw hw 2 rfl) (by decide) (by decide)) qk270a qk270b qk270c (g := (mkF m 53 #[.val (.ref ls), .val (.int ng), .val (.ref bo1), .val (.ref ik11), .val (.ref x1)] [(.ref rk260), (.ref bo1)])) rfl (by rw [hml]; rfl) (Steps.refl _) (argsL := [(.ref rk260)]) (rest := []) (lenOf pd__Ljava_lang_Object__Z rfl) rfl (by show 2 * 0 + _ ≤ _; exact Nat.le_of_eq rfl) (hb hby d6_53) (fun _ _ => ⟨rfl, rfl, (by decide : 3 + 1 ≤ _), (by decide : 8 + 10 ≤ _)⟩)
      dsimp only [Pt.U, Pt.locs, Pt.cells, Pt.slots] at Xk270 lk270 yk270 zk270 stk270 hQk270
      subst lk270 yk270 zk270
      obtain ⟨bk270, kk270, rfl, Nk270q, Kk270q, Gk270_0, Qk270_0, Qk270_1, Qk270_2, Qk270_3, Qk270_4⟩ := hQk270
      have Y271 : h0.size ≤ Tk260.heap.size := (Nat.le_trans (Nat.le_trans (Nat.le_trans (Nat.le_trans Y12 Kk11q.1) Kk22q.1) Kk248q.1) Kk260q.1)
      have g_bk270 : n0 ≤ bk270 := Nat.le_trans Z268 Gk270_0
      have y_bk270 : h0.size ≤ bk270 := Nat.le_trans Y271 Gk270_0
      have K272 : Keep h0 Tk270.heap [] := K261.trans Kk270q (allS (P := fun x => x ∈ ([] : List Addr) ∨ h0.size ≤ x) (Or.inr y_bo1) all0)
      have Nk270 := Fr.app Nk260 Nk270q
      have F273 := ((Qk248_1.keep Kk260q nin0).keep Kk270q (ninS (Ne.symm ne263) nin0))
      have F274 := ((Qk248_0.keep Kk260q nin0).keep Kk270q (ninS (Ne.symm ne263) nin0))
      have ne275 : ls ≠ bo1 := Nat.ne_of_lt (Nat.lt_of_lt_of_le f0.lt (Nat.le_of_eq go1.symm))
      have F276 := (((F242.keep Kk248q (ninS ne239 nin0)).keep Kk260q nin0).keep Kk270q (ninS ne275 nin0))
      have Z277 : n0 ≤ Tk270.heap.size := (Nat.le_trans Z268 Kk270q.1)
      have O278 : Old Z n0 Tk270.heap := (O269.keep Kk270q (allS g_bo1 all0))
      have F280 := (F264.keep Kk270q)
      obtain ⟨cqk279, kqk279, qk279a, qk279b, qk279c⟩ := isOf hZ rfl F280
      obtain ⟨_, _, ⟨Tk279, Lk279, kk279, nk279⟩, -, Xk279, ⟨Lck279, hQk279, lk279, yk279, zk279⟩, stk279⟩ := Xk270.interfaceBack hx (xi := Y32) (y := Y14) hown (mvT hZ (tw hw 63 rfl)) (mvT hZ (tw hw 64 rfl)) (mvT hZ (tw hw 65 rfl)) (mvT hZ (tw hw 66 rfl)) (mvT hZ (tw hw 67 rfl)) (mvT hZ (tw hw 68 rfl)) (mvT hZ (tw hw 69 rfl)) (mvT hZ (tw hw 70 rfl)) (by decide) (backOf (W := 0) (rm_hasnext l Z a0 hw [] ik11 ls (2 : Int32) (3 : Int32) (1 : Int32)  Tk270.heap n0 Z277 O278 F273 F274 F276 (by decide)) hZ (tw hw 71 rfl) (tw hw 49 rfl) (by decide) (by decide)) qk279a qk279b qk279c (g := (mkF m 16 #[.val (.ref ls), .val (.int ng), .val (.ref bo1), .val (.ref ik11), .val (.ref x1)] [(.ref ik11)])) rfl (by rw [hml]; rfl) (Steps.refl _) (argsL := []) (rest := []) (lenOf pd___Z rfl) rfl (by show 2 * 0 + _ ≤ _; exact Nat.le_of_eq rfl) (hb hby d6_16) (fun _ _ => ⟨rfl, rfl, (by decide : 4 + 0 ≤ _), (by decide : 18 + 0 ≤ _)⟩)
      dsimp only [Pt.U, Pt.locs, Pt.cells, Pt.slots] at Xk279 lk279 yk279 zk279 stk279 hQk279
      subst lk279 yk279 zk279
      obtain ⟨rfl, Nk279q, ek279⟩ := hQk279
      have Nk279 := Fr.app Nk270 Nk279q
      have F281 := ((Qk248_2.keep Kk260q nin0).keep Kk270q (ninS (Ne.symm ne263) nin0))
      have F282 := ((Qk248_3.keep Kk260q nin0).keep Kk270q (ninS (Ne.symm ne263) nin0))
      have F283 := (((F240.keep Kk248q).keep Kk260q).keep Kk270q)
      have F284 := (((F244.keep Kk248q (ninS ne239 nin0)).keep Kk260q nin0).keep Kk270q (ninS ne275 nin0))
      have F285 := (((F245.keep Kk248q (ninS ne239 nin0)).keep Kk260q nin0).keep Kk270q (ninS ne275 nin0))
      have ne286 : bo1 ≠ ed := Exa.neArv (((Ao1.keep Kk5q).keep Kk11q).keep Kk22q) F247 (tw hw 1 rfl)
      have F287 := (((F247.keep Kk248q (ninS (Ne.symm ne246) nin0)).keep Kk260q nin0).keep Kk270q (ninS (Ne.symm ne286) nin0))
      obtain ⟨cqk288, kqk288, qk288a, qk288b, qk288c⟩ := isOf hZ ek279 F280
      obtain ⟨_, _, ⟨Tk288, Lk288, kk288, nk288⟩, -, Xk288, ⟨Lck288, hQk288, lk288, yk288, zk288⟩, stk288⟩ := Xk279.interfaceBack hx (xi := Y33) (y := Y16) hown (mvT hZ (tw hw 173 rfl)) (mvT hZ (tw hw 174 rfl)) (mvT hZ (tw hw 175 rfl)) (mvT hZ (tw hw 176 rfl)) (mvT hZ (tw hw 177 rfl)) (mvT hZ (tw hw 178 rfl)) (mvT hZ (tw hw 179 rfl)) (mvT hZ (tw hw 70 rfl)) (by decide) (backOf (W := 0) (rm_next l Z a0 hw [] ik11 ls (2 : Int32) (3 : Int32) (1 : Int32) mc (3 : Int32) ed ked [(.ref x0), (.ref x1), (.ref x2), .null, .null, .null, .null, .null, .null, .null] x2  Tk270.heap n0 Z277 O278 F280 F274 F273 F281 F282 F283 F284 F276 F285 F287 g_ik11 (by decide) (by decide) (by decide) (by decide) rfl) hZ (tw hw 180 rfl) (tw hw 49 rfl) (by decide) (by decide)) qk288a qk288b qk288c (g := (mkF m 25 #[.val (.ref ls), .val (.int ng), .val (.ref bo1), .val (.ref ik11), .val (.ref x1)] [(.ref ik11)])) rfl (by rw [hml]; rfl) (Steps.refl _) (argsL := []) (rest := []) (lenOf pd___Ljava_lang_Object_ rfl) rfl (by show 2 * 0 + _ ≤ _; exact Nat.le_of_eq rfl) (hb hby d6_25) (fun _ _ => ⟨rfl, ek279, (by decide : 4 + 0 ≤ _), (by decide : 18 + 0 ≤ _)⟩)
      dsimp only [Pt.U, Pt.locs, Pt.cells, Pt.slots] at Xk288 lk288 yk288 zk288 stk288 hQk288
      subst lk288 yk288 zk288
      obtain ⟨rfl, Nk288q, Kk288q, Qk288_0, Qk288_1, Qk288_2, Qk288_3⟩ := hQk288
      have K289 : Keep h0 Tk288.heap [] := K272.trans Kk288q (allS (P := fun x => x ∈ ([] : List Addr) ∨ h0.size ≤ x) (Or.inr y_ik11) all0)
      have Nk288 := Fr.app Nk279 Nk288q
      have F291 := (f11.keep K289)
      obtain ⟨Tx290, Xx290, ex290, stx290⟩ := castY Xk288 hx hZ hown (tw hw 187 rfl) rfl (Ins.self F291) (g := (mkF m 30 #[.val (.ref ls), .val (.int ng), .val (.ref bo1), .val (.ref ik11), .val (.ref x1)] [(.ref x2)])) rfl rfl (hb hby d6_30)
      have F292 := (f13.keep K289 nin0)
      have Z293 : n0 ≤ Tk288.heap.size := (Nat.le_trans Z277 Kk288q.1)
      have O294 : Old Z n0 Tk288.heap := (O278.keep Kk288q (allS g_ik11 all0))
      obtain ⟨cqk295, kqk295, qk295a, qk295b, qk295c⟩ := isOf hZ ex290 F291
      obtain ⟨_, _, ⟨Tk295, Lk295, kk295, nk295⟩, -, Xk295, ⟨Lck295, hQk295, lk295, yk295, zk295⟩, stk295⟩ := Xx290.virtualBack hx (y := Y17) (z := Y17) hown (mvT hZ (tw hw 189 rfl)) (mvT hZ (tw hw 190 rfl)) (notFace_of_selects (args := #[]) (mvT hZ (tw hw 192 rfl))) (mvT hZ (tw hw 192 rfl)) (mvT hZ (tw hw 191 rfl)) (by decide) (backOf (W := 0) (rm_isneg l Z a0 hw [] x2 g2  Tk288.heap n0 Z293 O294 F292 hg2) hZ (tw hw 193 rfl) (tw hw 113 rfl) (by decide) (by decide)) qk295a qk295c (g := (mkF m 37 #[.val (.ref ls), .val (.int ng), .val (.ref bo1), .val (.ref ik11), .val (.ref x2)] [(.ref x2)])) rfl (by rw [hml]; rfl) (Steps.refl _) (argsL := []) (rest := []) (lenOf pd___Z rfl) rfl (by show 2 * 0 + _ ≤ _; exact Nat.le_of_eq rfl) (hb hby d6_37) (fun _ _ => ⟨rfl, ex290, (by decide : 4 + 0 ≤ _), (by decide : 18 + 0 ≤ _)⟩)
      dsimp only [Pt.U, Pt.locs, Pt.cells, Pt.slots] at Xk295 lk295 yk295 zk295 stk295 hQk295
      subst lk295 yk295 zk295
      obtain ⟨rfl, Nk295q, ek295⟩ := hQk295
      have Nk295 := Fr.app Nk288 Nk295q
      have r296 : ∀ t_, Sp p e below Tk295 (mkF m 41 #[.val (.ref ls), .val (.int ng), .val (.ref bo1), .val (.ref ik11), .val (.ref x2)] [(.int ng), (.int g2)]) t_ → Sp p e below s₁ (entryFrame m #[(.ref ls), (.int ng)] 5) t_ := by
        intro t_ k_
        refine r256 _ ?_
        refine XS.icmpNo Xk255.here hx rfl (hb hby d6_41) rfl (teq c257).2 ?_
        refine XS.aloadN Xk255.here hx rfl (hb hby d6_44) rfl rfl ?_
        refine XS.aload Xk255.here hx rfl (hb hby d6_45) rfl rfl ?_
        refine stk259.trans ?_
        refine stk260 _ ?_
        refine stk270.trans ?_
        refine XS.pop Xk270.here hx rfl (hb hby d6_58) rfl rfl ?_
        refine XS.goto Xk270.here hx rfl (pc0 := 59) (pc' := 15) rfl (hb hby d6_59) (by decide) (by decide) ?_
        refine XS.aloadN Xk270.here hx rfl (hb hby d6_15) rfl rfl ?_
        refine stk279.trans ?_
        refine XS.ifNo Xk279.here hx rfl (hb hby d6_21) rfl ((if0 _ _).trans (feq (by decide : ¬ ((1 : Int32) = (0 : Int32)))).1) ?_
        refine XS.aloadN Xk279.here hx rfl (hb hby d6_24) rfl rfl ?_
        refine stk288.trans ?_
        refine stx290 _ ?_
        refine XS.astore Xx290.here hx rfl (hb hby d6_33) rfl rfl (l' := #[.val (.ref ls), .val (.int ng), .val (.ref bo1), .val (.ref ik11), .val (.ref x2)]) rfl ?_
        refine XS.aload Xx290.here hx rfl (hb hby d6_35) rfl rfl ?_
        refine stk295.trans ?_
        refine XS.iloadN Xk295.here hx rfl (hb hby d6_40) rfl ?_
        show Sp p e below Tk295 (mkF m 41 #[.val (.ref ls), .val (.int ng), .val (.ref bo1), .val (.ref ik11), .val (.ref x2)] [(.int ng), (.int g2)]) _
        exact k_
      by_cases c297 : g2 = ng
      · have F298 := (f12.keep K289 nin0)
        obtain ⟨cqk299, kqk299, qk299a, qk299b, qk299c⟩ := isOf hZ ek295 F291
        obtain ⟨_, _, ⟨Tk299, Lk299, kk299, nk299⟩, -, Xk299, ⟨Lck299, hQk299, lk299, yk299, zk299⟩, stk299⟩ := Xk295.virtualBack hx (y := Y18) (z := Y18) hown (mvT hZ (tw hw 194 rfl)) (mvT hZ (tw hw 195 rfl)) (notFace_of_selects (args := #[]) (mvT hZ (tw hw 197 rfl))) (mvT hZ (tw hw 197 rfl)) (mvT hZ (tw hw 196 rfl)) (by decide) (backOf (W := 1) (rm_prop l Z a0 hw [] x2 p2  Tk288.heap n0 Z293 O294 F298) hZ (tw hw 198 rfl) (tw hw 113 rfl) (by decide) (by decide)) qk299a qk299c (g := (mkF m 47 #[.val (.ref ls), .val (.int ng), .val (.ref bo1), .val (.ref ik11), .val (.ref x2)] [(.ref x2), (.ref bo1)])) rfl (by rw [hml]; rfl) (Steps.refl _) (argsL := []) (rest := [(.ref bo1)]) (lenOf pd___I rfl) rfl (by show 2 * 0 + _ ≤ _; exact Nat.le_of_eq rfl) (hb hby d6_47) (fun _ _ => ⟨rfl, ek295, (by decide : 4 + 0 ≤ _), (by decide : 18 + 0 ≤ _)⟩)
        dsimp only [Pt.U, Pt.locs, Pt.cells, Pt.slots] at Xk299 lk299 yk299 zk299 stk299 hQk299
        subst lk299 yk299 zk299
        obtain ⟨rfl, Nk299q, ek299⟩ := hQk299
        have Nk299 := Fr.app Nk295 Nk299q
        obtain ⟨_, _, ⟨Tk300, Lk300, kk300, nk300⟩, -, Xk300, ⟨Lck300, hQk300, lk300, yk300, zk300⟩, stk300⟩ := Jvm.LawKit.callS Xk299 hx (y := Y27) hown (mvT hZ (tw hw 199 rfl)) (mvT hZ (tw hw 200 rfl)) (mvT hZ (tw hw 201 rfl)) (mvT hZ (tw hw 202 rfl)) (by decide) (backOf (W := 1) (rm_valueof l Z a0 hw [] p2 aD kD aL aC Tk288.heap n0 Z293 O294 ⟨S_DEF, V_DEF, S_LIT, E_LIT, O_LIT, S_HI, S_CA, C_CA⟩) hZ (tw hw 202 rfl) (tw hw 201 rfl) (by decide) (by decide)) (g := (mkF m 50 #[.val (.ref ls), .val (.int ng), .val (.ref bo1), .val (.ref ik11), .val (.ref x2)] [(.int p2), (.ref bo1)])) rfl (by rw [hml]; rfl) (argsL := [(.int p2)]) (rest := [(.ref bo1)]) (lenOf pd__I_Ljava_lang_Integer_ rfl) rfl (by show 2 * 0 + _ ≤ _; exact Nat.le_of_eq rfl) (hb hby d6_50) (fun _ _ => ⟨rfl, ek299, (by decide : 4 + 1 ≤ _), (by decide : 18 + 1 ≤ _)⟩)
        dsimp only [Pt.U, Pt.locs, Pt.cells, Pt.slots] at Xk300 lk300 yk300 zk300 stk300 hQk300
        subst lk300 yk300 zk300
        obtain ⟨rk300, rfl, Nk300q, Kk300q, Qk300_0, Qk300_1⟩ := hQk300
        have K301 : Keep h0 Tk300.heap [] := K289.trans Kk300q all0
        have Nk300 := Fr.app Nk299 Nk300q
        have F302 := (((F262.keep Kk270q).keep Kk288q).keep Kk300q)
        have F303 := ((Qk270_0.keep Kk288q (ninS ne263 nin0)).keep Kk300q nin0)
        have F304 := ((Qk270_1.keep Kk288q (ninS ne263 nin0)).keep Kk300q nin0)
        have F305 := ((Qk270_2.keep Kk288q (ninS ne263 nin0)).keep Kk300q nin0)
        have ne306 : ik11 ≠ bk270 := Exa.neArv ((((Qk11_0.keep Kk22q).keep Kk248q).keep Kk260q).keep Kk270q) Qk270_3 (tw hw 48 rfl)
        have F307 := ((Qk270_3.keep Kk288q (ninS (Ne.symm ne306) nin0)).keep Kk300q nin0)
        have F308 := Qk270_4
        have ne309 : bo1 ≠ bk270 := Exa.neArv ((((((((Ao1.keep Kk5q).keep Kk11q).keep Kk22q).keep Kk248q).keep Kk260q).keep Kk270q).keep Kk288q).keep Kk300q) F307 (tw hw 1 rfl)
        have Z310 : n0 ≤ Tk300.heap.size := (Nat.le_trans Z293 Kk300q.1)
        have O311 : Old Z n0 Tk300.heap := (O294.keep Kk300q all0)
        obtain ⟨cqk312, kqk312, qk312a, qk312b, qk312c⟩ := isOf hZ rfl F302
        obtain ⟨_, _, ⟨Tk312, Lk312, kk312, nk312⟩, -, Xk312, ⟨Lck312, hQk312, lk312, yk312, zk312⟩, stk312⟩ := Xk300.interfaceBack hx (xi := Y34) (y := Y11) hown (mvT hZ (tw hw 206 rfl)) (mvT hZ (tw hw 207 rfl)) (mvT hZ (tw hw 208 rfl)) (mvT hZ (tw hw 209 rfl)) (mvT hZ (tw hw 147 rfl)) (mvT hZ (tw hw 210 rfl)) (mvT hZ (tw hw 211 rfl)) (mvT hZ (tw hw 83 rfl)) (by decide) (backOf (W := 0) (rm_add_1 l Z a0 hw [] bo1 rk300 bk270 kk270 (1 : Int32) (2 : Int32) rk260 aD kD aL aC Tk300.heap n0 Z310 O311 F302 F303 F304 F305 (Ins.of_exa Qk300_0 (tw hw 212 rfl)) F307 F308 ⟨S_DEF, V_DEF, S_LIT, E_LIT, O_LIT, S_HI, S_CA, C_CA⟩ g_bo1 g_bk270 ne309 (by decide)) hZ (tw hw 149 rfl) (tw hw 2 rfl) (by decide) (by decide)) qk312a qk312b qk312c (g := (mkF m 53 #[.val (.ref ls), .val (.int ng), .val (.ref bo1), .val (.ref ik11), .val (.ref x2)] [(.ref rk300), (.ref bo1)])) rfl (by rw [hml]; rfl) (Steps.refl _) (argsL := [(.ref rk300)]) (rest := []) (lenOf pd__Ljava_lang_Object__Z rfl) rfl (by show 2 * 0 + _ ≤ _; exact Nat.le_of_eq rfl) (hb hby d6_53) (fun _ _ => ⟨rfl, rfl, (by decide : 5 + 0 ≤ _), (by decide : 19 + 0 ≤ _)⟩)
        dsimp only [Pt.U, Pt.locs, Pt.cells, Pt.slots] at Xk312 lk312 yk312 zk312 stk312 hQk312
        subst lk312 yk312 zk312
        obtain ⟨rfl, Nk312q, Kk312q, Qk312_0, Qk312_1, Qk312_2, Qk312_3⟩ := hQk312
        have K313 : Keep h0 Tk312.heap [] := K301.trans Kk312q (allS (P := fun x => x ∈ ([] : List Addr) ∨ h0.size ≤ x) (Or.inr y_bo1) (allS (P := fun x => x ∈ ([] : List Addr) ∨ h0.size ≤ x) (Or.inr y_bk270) all0))
        have Nk312 := Fr.app Nk300 Nk312q
        have F314 := ((Qk288_1.keep Kk300q nin0).keep Kk312q (ninS (Ne.symm ne263) (ninS ne306 nin0)))
        have F315 := ((Qk288_0.keep Kk300q nin0).keep Kk312q (ninS (Ne.symm ne263) (ninS ne306 nin0)))
        have ne316 : ls ≠ bk270 := Exa.neArv ((((((((((f0.ext Eo1).keep Kk5q).keep Kk11q).keep Kk22q).keep Kk248q).keep Kk260q).keep Kk270q).keep Kk288q).keep Kk300q).keep Kk312q) Qk312_3 (tw hw 1 rfl)
        have F317 := (((F276.keep Kk288q (ninS ne239 nin0)).keep Kk300q nin0).keep Kk312q (ninS ne275 (ninS ne316 nin0)))
        have Z318 : n0 ≤ Tk312.heap.size := (Nat.le_trans Z310 Kk312q.1)
        have O319 : Old Z n0 Tk312.heap := (O311.keep Kk312q (allS g_bo1 (allS g_bk270 all0)))
        have F321 := (((F280.keep Kk288q).keep Kk300q).keep Kk312q)
        obtain ⟨cqk320, kqk320, qk320a, qk320b, qk320c⟩ := isOf hZ rfl F321
        obtain ⟨_, _, ⟨Tk320, Lk320, kk320, nk320⟩, -, Xk320, ⟨Lck320, hQk320, lk320, yk320, zk320⟩, stk320⟩ := Xk312.interfaceBack hx (xi := Y32) (y := Y14) hown (mvT hZ (tw hw 63 rfl)) (mvT hZ (tw hw 64 rfl)) (mvT hZ (tw hw 65 rfl)) (mvT hZ (tw hw 66 rfl)) (mvT hZ (tw hw 67 rfl)) (mvT hZ (tw hw 68 rfl)) (mvT hZ (tw hw 69 rfl)) (mvT hZ (tw hw 70 rfl)) (by decide) (backOf (W := 0) (rm_hasnext l Z a0 hw [] ik11 ls (3 : Int32) (3 : Int32) (0 : Int32)  Tk312.heap n0 Z318 O319 F314 F315 F317 (by decide)) hZ (tw hw 71 rfl) (tw hw 49 rfl) (by decide) (by decide)) qk320a qk320b qk320c (g := (mkF m 16 #[.val (.ref ls), .val (.int ng), .val (.ref bo1), .val (.ref ik11), .val (.ref x2)] [(.ref ik11)])) rfl (by rw [hml]; rfl) (Steps.refl _) (argsL := []) (rest := []) (lenOf pd___Z rfl) rfl (by show 2 * 0 + _ ≤ _; exact Nat.le_of_eq rfl) (hb hby d6_16) (fun _ _ => ⟨rfl, rfl, (by decide : 5 + 0 ≤ _), (by decide : 19 + 0 ≤ _)⟩)
        dsimp only [Pt.U, Pt.locs, Pt.cells, Pt.slots] at Xk320 lk320 yk320 zk320 stk320 hQk320
        subst lk320 yk320 zk320
        obtain ⟨rfl, Nk320q, ek320⟩ := hQk320
        have Nk320 := Fr.app Nk312 Nk320q
        have r322 : ∀ t_, Sp p e below Tk320 (mkF m 62 #[.val (.ref ls), .val (.int ng), .val (.ref bo1), .val (.ref ik11), .val (.ref x2)] []) t_ → Sp p e below s₁ (entryFrame m #[(.ref ls), (.int ng)] 5) t_ := by
          intro t_ k_
          refine r296 _ ?_
          refine XS.icmpNo Xk295.here hx rfl (hb hby d6_41) rfl (teq c297).2 ?_
          refine XS.aloadN Xk295.here hx rfl (hb hby d6_44) rfl rfl ?_
          refine XS.aload Xk295.here hx rfl (hb hby d6_45) rfl rfl ?_
          refine stk299.trans ?_
          refine stk300 _ ?_
          refine stk312.trans ?_
          refine XS.pop Xk312.here hx rfl (hb hby d6_58) rfl rfl ?_
          refine XS.goto Xk312.here hx rfl (pc0 := 59) (pc' := 15) rfl (hb hby d6_59) (by decide) (by decide) ?_
          refine XS.aloadN Xk312.here hx rfl (hb hby d6_15) rfl rfl ?_
          refine stk320.trans ?_
          refine XS.ifYes Xk320.here hx rfl (pc0 := 21) (pc' := 62) rfl (hb hby d6_21) rfl ((if0 _ _).trans (teq (by decide : (0 : Int32) = (0 : Int32))).1) (by decide) (by decide) ?_
          show Sp p e below Tk320 (mkF m 62 #[.val (.ref ls), .val (.int ng), .val (.ref bo1), .val (.ref ik11), .val (.ref x2)] []) _
          exact k_
        have hvs1 : vs = [(.int p1), (.int p2)] := by rw [hvs]; first | done | simp [own_f, c31, c257, c297]
        have hz1 : z = (2 : Int32) := by rw [hz, hvs1]; first | done | rfl
        have F323 := (F302.keep Kk312q)
        have F324 := ((((Qk260_0.keep Kk270q).keep Kk288q).keep Kk300q).keep Kk312q)
        have ne325 : rk260 ≠ bo1 := ne_exa F324 F323 (by decide)
        have ne326 : rk260 ≠ ik11 := ne_exa F324 F321 (by decide)
        have ne327 : rk260 ≠ bk270 := Exa.neArv ((((Qk260_0.keep Kk270q).keep Kk288q).keep Kk300q).keep Kk312q) Qk312_3 (tw hw 244 rfl)
        have F328 := ((((Qk260_1.keep Kk270q (ninS ne325 nin0)).keep Kk288q (ninS ne326 nin0)).keep Kk300q nin0).keep Kk312q (ninS ne325 (ninS ne327 nin0)))
        have F329 := (Qk300_0.keep Kk312q)
        have ne330 : rk300 ≠ bk270 := Exa.neArv (Qk300_0.keep Kk312q) Qk312_3 (tw hw 244 rfl)
        have ne331 : rk300 ≠ bo1 := ne_exa F329 F323 (by decide)
        have F332 := (Qk300_1.keep Kk312q (ninS ne331 (ninS ne330 nin0)))
        have Y333 : h0.size ≤ Tk312.heap.size := (Nat.le_trans (Nat.le_trans (Nat.le_trans (Nat.le_trans Y271 Kk270q.1) Kk288q.1) Kk300q.1) Kk312q.1)
        obtain ⟨s₂, _, u1, u2, u3, _, L, rfl, ⟨b, kb, rfl, Nb, Kb, gb, Eb, Vb⟩, u5⟩ := tl_pt2 p l e s m _ below meth c _ _ Z a0 hw ls ng bo1 ik11 x2 bk270 kk270 rk260 rk300 p1 p2 Tk312.heap n0 (Xk320.more (by decide) (by decide)) hx hZ hby hml hown hret Bd.notSynchronized ek320 Nk320 Z318 O319 F323 Qk312_1 Qk312_0 Qk312_3 F324 F328 F329 F332
        exact ⟨s₂, _, r322 _ u1, u2, u3, _, L, rfl, ⟨b, kb, rfl, Nb, Keep.trans K313 Kb all0, Nat.le_trans Y333 gb, Eb, by rw [hz1, hvs1]; exact Vb⟩, u5⟩
      · have F334 := (F276.keep Kk288q (ninS ne239 nin0))
        have F336 := (F280.keep Kk288q)
        obtain ⟨cqk335, kqk335, qk335a, qk335b, qk335c⟩ := isOf hZ ek295 F336
        obtain ⟨_, _, ⟨Tk335, Lk335, kk335, nk335⟩, -, Xk335, ⟨Lck335, hQk335, lk335, yk335, zk335⟩, stk335⟩ := Xk295.interfaceBack hx (xi := Y32) (y := Y14) hown (mvT hZ (tw hw 63 rfl)) (mvT hZ (tw hw 64 rfl)) (mvT hZ (tw hw 65 rfl)) (mvT hZ (tw hw 66 rfl)) (mvT hZ (tw hw 67 rfl)) (mvT hZ (tw hw 68 rfl)) (mvT hZ (tw hw 69 rfl)) (mvT hZ (tw hw 70 rfl)) (by decide) (backOf (W := 0) (rm_hasnext l Z a0 hw [] ik11 ls (3 : Int32) (3 : Int32) (0 : Int32)  Tk288.heap n0 Z293 O294 Qk288_1 Qk288_0 F334 (by decide)) hZ (tw hw 71 rfl) (tw hw 49 rfl) (by decide) (by decide)) qk335a qk335b qk335c (g := (mkF m 16 #[.val (.ref ls), .val (.int ng), .val (.ref bo1), .val (.ref ik11), .val (.ref x2)] [(.ref ik11)])) rfl (by rw [hml]; rfl) (Steps.refl _) (argsL := []) (rest := []) (lenOf pd___Z rfl) rfl (by show 2 * 0 + _ ≤ _; exact Nat.le_of_eq rfl) (hb hby d6_16) (fun _ _ => ⟨rfl, ek295, (by decide : 4 + 0 ≤ _), (by decide : 18 + 0 ≤ _)⟩)
        dsimp only [Pt.U, Pt.locs, Pt.cells, Pt.slots] at Xk335 lk335 yk335 zk335 stk335 hQk335
        subst lk335 yk335 zk335
        obtain ⟨rfl, Nk335q, ek335⟩ := hQk335
        have Nk335 := Fr.app Nk295 Nk335q
        have r337 : ∀ t_, Sp p e below Tk335 (mkF m 62 #[.val (.ref ls), .val (.int ng), .val (.ref bo1), .val (.ref ik11), .val (.ref x2)] []) t_ → Sp p e below s₁ (entryFrame m #[(.ref ls), (.int ng)] 5) t_ := by
          intro t_ k_
          refine r296 _ ?_
          refine XS.icmpYes Xk295.here hx rfl (pc0 := 41) (pc' := 59) rfl (hb hby d6_41) rfl (feq c297).2 (by decide) (by decide) ?_
          refine XS.goto Xk295.here hx rfl (pc0 := 59) (pc' := 15) rfl (hb hby d6_59) (by decide) (by decide) ?_
          refine XS.aloadN Xk295.here hx rfl (hb hby d6_15) rfl rfl ?_
          refine stk335.trans ?_
          refine XS.ifYes Xk335.here hx rfl (pc0 := 21) (pc' := 62) rfl (hb hby d6_21) rfl ((if0 _ _).trans (teq (by decide : (0 : Int32) = (0 : Int32))).1) (by decide) (by decide) ?_
          show Sp p e below Tk335 (mkF m 62 #[.val (.ref ls), .val (.int ng), .val (.ref bo1), .val (.ref ik11), .val (.ref x2)] []) _
          exact k_
        have hvs1 : vs = [(.int p1)] := by rw [hvs]; first | done | simp [own_f, c31, c257, c297]
        have hz1 : z = (1 : Int32) := by rw [hz, hvs1]; first | done | rfl
        have F338 := ((F262.keep Kk270q).keep Kk288q)
        have F339 := (Qk270_1.keep Kk288q (ninS ne263 nin0))
        have F340 := (Qk270_0.keep Kk288q (ninS ne263 nin0))
        have ne341 : ik11 ≠ bk270 := Exa.neArv ((((Qk11_0.keep Kk22q).keep Kk248q).keep Kk260q).keep Kk270q) Qk270_3 (tw hw 48 rfl)
        have F342 := (Qk270_3.keep Kk288q (ninS (Ne.symm ne341) nin0))
        have F343 := ((Qk260_0.keep Kk270q).keep Kk288q)
        have ne344 : rk260 ≠ bo1 := ne_exa F343 F338 (by decide)
        have ne345 : rk260 ≠ ik11 := ne_exa F343 F336 (by decide)
        have F346 := ((Qk260_1.keep Kk270q (ninS ne344 nin0)).keep Kk288q (ninS ne345 nin0))
        have Y347 : h0.size ≤ Tk288.heap.size := (Nat.le_trans (Nat.le_trans Y271 Kk270q.1) Kk288q.1)
        obtain ⟨s₂, _, u1, u2, u3, _, L, rfl, ⟨b, kb, rfl, Nb, Kb, gb, Eb, Vb⟩, u5⟩ := tl_pt1 p l e s m _ below meth c _ _ Z a0 hw ls ng bo1 ik11 x2 bk270 kk270 rk260 p1 Tk288.heap n0 (Xk335.more (by decide) (by decide)) hx hZ hby hml hown hret Bd.notSynchronized ek335 Nk335 Z293 O294 F338 F339 F340 F342 F343 F346
        exact ⟨s₂, _, r337 _ u1, u2, u3, _, L, rfl, ⟨b, kb, rfl, Nb, Keep.trans K289 Kb all0, Nat.le_trans Y347 gb, Eb, by rw [hz1, hvs1]; exact Vb⟩, u5⟩
    · have F348 := (F242.keep Kk248q (ninS ne239 nin0))
      have F350 := (F241.keep Kk248q)
      obtain ⟨cqk349, kqk349, qk349a, qk349b, qk349c⟩ := isOf hZ ek255 F350
      obtain ⟨_, _, ⟨Tk349, Lk349, kk349, nk349⟩, -, Xk349, ⟨Lck349, hQk349, lk349, yk349, zk349⟩, stk349⟩ := Xk255.interfaceBack hx (xi := Y32) (y := Y14) hown (mvT hZ (tw hw 63 rfl)) (mvT hZ (tw hw 64 rfl)) (mvT hZ (tw hw 65 rfl)) (mvT hZ (tw hw 66 rfl)) (mvT hZ (tw hw 67 rfl)) (mvT hZ (tw hw 68 rfl)) (mvT hZ (tw hw 69 rfl)) (mvT hZ (tw hw 70 rfl)) (by decide) (backOf (W := 0) (rm_hasnext l Z a0 hw [] ik11 ls (2 : Int32) (3 : Int32) (1 : Int32)  Tk248.heap n0 Z253 O254 Qk248_1 Qk248_0 F348 (by decide)) hZ (tw hw 71 rfl) (tw hw 49 rfl) (by decide) (by decide)) qk349a qk349b qk349c (g := (mkF m 16 #[.val (.ref ls), .val (.int ng), .val (.ref bo1), .val (.ref ik11), .val (.ref x1)] [(.ref ik11)])) rfl (by rw [hml]; rfl) (Steps.refl _) (argsL := []) (rest := []) (lenOf pd___Z rfl) rfl (by show 2 * 0 + _ ≤ _; exact Nat.le_of_eq rfl) (hb hby d6_16) (fun _ _ => ⟨rfl, ek255, (by decide : 2 + 0 ≤ _), (by decide : 7 + 0 ≤ _)⟩)
      dsimp only [Pt.U, Pt.locs, Pt.cells, Pt.slots] at Xk349 lk349 yk349 zk349 stk349 hQk349
      subst lk349 yk349 zk349
      obtain ⟨rfl, Nk349q, ek349⟩ := hQk349
      have Nk349 := Fr.app Nk255 Nk349q
      have F351 := (F240.keep Kk248q)
      have F352 := (F244.keep Kk248q (ninS ne239 nin0))
      have F353 := (F245.keep Kk248q (ninS ne239 nin0))
      have F354 := (F247.keep Kk248q (ninS (Ne.symm ne246) nin0))
      obtain ⟨cqk355, kqk355, qk355a, qk355b, qk355c⟩ := isOf hZ ek349 F350
      obtain ⟨_, _, ⟨Tk355, Lk355, kk355, nk355⟩, -, Xk355, ⟨Lck355, hQk355, lk355, yk355, zk355⟩, stk355⟩ := Xk349.interfaceBack hx (xi := Y33) (y := Y16) hown (mvT hZ (tw hw 173 rfl)) (mvT hZ (tw hw 174 rfl)) (mvT hZ (tw hw 175 rfl)) (mvT hZ (tw hw 176 rfl)) (mvT hZ (tw hw 177 rfl)) (mvT hZ (tw hw 178 rfl)) (mvT hZ (tw hw 179 rfl)) (mvT hZ (tw hw 70 rfl)) (by decide) (backOf (W := 0) (rm_next l Z a0 hw [] ik11 ls (2 : Int32) (3 : Int32) (1 : Int32) mc (3 : Int32) ed ked [(.ref x0), (.ref x1), (.ref x2), .null, .null, .null, .null, .null, .null, .null] x2  Tk248.heap n0 Z253 O254 F350 Qk248_0 Qk248_1 Qk248_2 Qk248_3 F351 F352 F348 F353 F354 g_ik11 (by decide) (by decide) (by decide) (by decide) rfl) hZ (tw hw 180 rfl) (tw hw 49 rfl) (by decide) (by decide)) qk355a qk355b qk355c (g := (mkF m 25 #[.val (.ref ls), .val (.int ng), .val (.ref bo1), .val (.ref ik11), .val (.ref x1)] [(.ref ik11)])) rfl (by rw [hml]; rfl) (Steps.refl _) (argsL := []) (rest := []) (lenOf pd___Ljava_lang_Object_ rfl) rfl (by show 2 * 0 + _ ≤ _; exact Nat.le_of_eq rfl) (hb hby d6_25) (fun _ _ => ⟨rfl, ek349, (by decide : 2 + 0 ≤ _), (by decide : 7 + 0 ≤ _)⟩)
      dsimp only [Pt.U, Pt.locs, Pt.cells, Pt.slots] at Xk355 lk355 yk355 zk355 stk355 hQk355
      subst lk355 yk355 zk355
      obtain ⟨rfl, Nk355q, Kk355q, Qk355_0, Qk355_1, Qk355_2, Qk355_3⟩ := hQk355
      have K356 : Keep h0 Tk355.heap [] := K249.trans Kk355q (allS (P := fun x => x ∈ ([] : List Addr) ∨ h0.size ≤ x) (Or.inr y_ik11) all0)
      have Nk355 := Fr.app Nk349 Nk355q
      have F358 := (f11.keep K356)
      obtain ⟨Tx357, Xx357, ex357, stx357⟩ := castY Xk355 hx hZ hown (tw hw 187 rfl) rfl (Ins.self F358) (g := (mkF m 30 #[.val (.ref ls), .val (.int ng), .val (.ref bo1), .val (.ref ik11), .val (.ref x1)] [(.ref x2)])) rfl rfl (hb hby d6_30)
      have F359 := (f13.keep K356 nin0)
      have Z360 : n0 ≤ Tk355.heap.size := (Nat.le_trans Z253 Kk355q.1)
      have O361 : Old Z n0 Tk355.heap := (O254.keep Kk355q (allS g_ik11 all0))
      obtain ⟨cqk362, kqk362, qk362a, qk362b, qk362c⟩ := isOf hZ ex357 F358
      obtain ⟨_, _, ⟨Tk362, Lk362, kk362, nk362⟩, -, Xk362, ⟨Lck362, hQk362, lk362, yk362, zk362⟩, stk362⟩ := Xx357.virtualBack hx (y := Y17) (z := Y17) hown (mvT hZ (tw hw 189 rfl)) (mvT hZ (tw hw 190 rfl)) (notFace_of_selects (args := #[]) (mvT hZ (tw hw 192 rfl))) (mvT hZ (tw hw 192 rfl)) (mvT hZ (tw hw 191 rfl)) (by decide) (backOf (W := 0) (rm_isneg l Z a0 hw [] x2 g2  Tk355.heap n0 Z360 O361 F359 hg2) hZ (tw hw 193 rfl) (tw hw 113 rfl) (by decide) (by decide)) qk362a qk362c (g := (mkF m 37 #[.val (.ref ls), .val (.int ng), .val (.ref bo1), .val (.ref ik11), .val (.ref x2)] [(.ref x2)])) rfl (by rw [hml]; rfl) (Steps.refl _) (argsL := []) (rest := []) (lenOf pd___Z rfl) rfl (by show 2 * 0 + _ ≤ _; exact Nat.le_of_eq rfl) (hb hby d6_37) (fun _ _ => ⟨rfl, ex357, (by decide : 2 + 0 ≤ _), (by decide : 7 + 0 ≤ _)⟩)
      dsimp only [Pt.U, Pt.locs, Pt.cells, Pt.slots] at Xk362 lk362 yk362 zk362 stk362 hQk362
      subst lk362 yk362 zk362
      obtain ⟨rfl, Nk362q, ek362⟩ := hQk362
      have Nk362 := Fr.app Nk355 Nk362q
      have r363 : ∀ t_, Sp p e below Tk362 (mkF m 41 #[.val (.ref ls), .val (.int ng), .val (.ref bo1), .val (.ref ik11), .val (.ref x2)] [(.int ng), (.int g2)]) t_ → Sp p e below s₁ (entryFrame m #[(.ref ls), (.int ng)] 5) t_ := by
        intro t_ k_
        refine r256 _ ?_
        refine XS.icmpYes Xk255.here hx rfl (pc0 := 41) (pc' := 59) rfl (hb hby d6_41) rfl (feq c257).2 (by decide) (by decide) ?_
        refine XS.goto Xk255.here hx rfl (pc0 := 59) (pc' := 15) rfl (hb hby d6_59) (by decide) (by decide) ?_
        refine XS.aloadN Xk255.here hx rfl (hb hby d6_15) rfl rfl ?_
        refine stk349.trans ?_
        refine XS.ifNo Xk349.here hx rfl (hb hby d6_21) rfl ((if0 _ _).trans (feq (by decide : ¬ ((1 : Int32) = (0 : Int32)))).1) ?_
        refine XS.aloadN Xk349.here hx rfl (hb hby d6_24) rfl rfl ?_
        refine stk355.trans ?_
        refine stx357 _ ?_
        refine XS.astore Xx357.here hx rfl (hb hby d6_33) rfl rfl (l' := #[.val (.ref ls), .val (.int ng), .val (.ref bo1), .val (.ref ik11), .val (.ref x2)]) rfl ?_
        refine XS.aload Xx357.here hx rfl (hb hby d6_35) rfl rfl ?_
        refine stk362.trans ?_
        refine XS.iloadN Xk362.here hx rfl (hb hby d6_40) rfl ?_
        show Sp p e below Tk362 (mkF m 41 #[.val (.ref ls), .val (.int ng), .val (.ref bo1), .val (.ref ik11), .val (.ref x2)] [(.int ng), (.int g2)]) _
        exact k_
      by_cases c364 : g2 = ng
      · have F365 := (f12.keep K356 nin0)
        obtain ⟨cqk366, kqk366, qk366a, qk366b, qk366c⟩ := isOf hZ ek362 F358
        obtain ⟨_, _, ⟨Tk366, Lk366, kk366, nk366⟩, -, Xk366, ⟨Lck366, hQk366, lk366, yk366, zk366⟩, stk366⟩ := Xk362.virtualBack hx (y := Y18) (z := Y18) hown (mvT hZ (tw hw 194 rfl)) (mvT hZ (tw hw 195 rfl)) (notFace_of_selects (args := #[]) (mvT hZ (tw hw 197 rfl))) (mvT hZ (tw hw 197 rfl)) (mvT hZ (tw hw 196 rfl)) (by decide) (backOf (W := 1) (rm_prop l Z a0 hw [] x2 p2  Tk355.heap n0 Z360 O361 F365) hZ (tw hw 198 rfl) (tw hw 113 rfl) (by decide) (by decide)) qk366a qk366c (g := (mkF m 47 #[.val (.ref ls), .val (.int ng), .val (.ref bo1), .val (.ref ik11), .val (.ref x2)] [(.ref x2), (.ref bo1)])) rfl (by rw [hml]; rfl) (Steps.refl _) (argsL := []) (rest := [(.ref bo1)]) (lenOf pd___I rfl) rfl (by show 2 * 0 + _ ≤ _; exact Nat.le_of_eq rfl) (hb hby d6_47) (fun _ _ => ⟨rfl, ek362, (by decide : 2 + 0 ≤ _), (by decide : 7 + 0 ≤ _)⟩)
        dsimp only [Pt.U, Pt.locs, Pt.cells, Pt.slots] at Xk366 lk366 yk366 zk366 stk366 hQk366
        subst lk366 yk366 zk366
        obtain ⟨rfl, Nk366q, ek366⟩ := hQk366
        have Nk366 := Fr.app Nk362 Nk366q
        obtain ⟨_, _, ⟨Tk367, Lk367, kk367, nk367⟩, -, Xk367, ⟨Lck367, hQk367, lk367, yk367, zk367⟩, stk367⟩ := Jvm.LawKit.callS Xk366 hx (y := Y27) hown (mvT hZ (tw hw 199 rfl)) (mvT hZ (tw hw 200 rfl)) (mvT hZ (tw hw 201 rfl)) (mvT hZ (tw hw 202 rfl)) (by decide) (backOf (W := 1) (rm_valueof l Z a0 hw [] p2 aD kD aL aC Tk355.heap n0 Z360 O361 ⟨S_DEF, V_DEF, S_LIT, E_LIT, O_LIT, S_HI, S_CA, C_CA⟩) hZ (tw hw 202 rfl) (tw hw 201 rfl) (by decide) (by decide)) (g := (mkF m 50 #[.val (.ref ls), .val (.int ng), .val (.ref bo1), .val (.ref ik11), .val (.ref x2)] [(.int p2), (.ref bo1)])) rfl (by rw [hml]; rfl) (argsL := [(.int p2)]) (rest := [(.ref bo1)]) (lenOf pd__I_Ljava_lang_Integer_ rfl) rfl (by show 2 * 0 + _ ≤ _; exact Nat.le_of_eq rfl) (hb hby d6_50) (fun _ _ => ⟨rfl, ek366, (by decide : 2 + 1 ≤ _), (by decide : 7 + 1 ≤ _)⟩)
        dsimp only [Pt.U, Pt.locs, Pt.cells, Pt.slots] at Xk367 lk367 yk367 zk367 stk367 hQk367
        subst lk367 yk367 zk367
        obtain ⟨rk367, rfl, Nk367q, Kk367q, Qk367_0, Qk367_1⟩ := hQk367
        have K368 : Keep h0 Tk367.heap [] := K356.trans Kk367q all0
        have Nk367 := Fr.app Nk366 Nk367q
        have F369 := ((((((Ao1.keep Kk5q).keep Kk11q).keep Kk22q).keep Kk248q).keep Kk355q).keep Kk367q)
        have F371 := ((F350.keep Kk355q).keep Kk367q)
        have ne370 : bo1 ≠ ik11 := ne_exa F369 F371 (by decide)
        have F372 := (((((Qk5_0.keep Kk11q nin0).keep Kk22q (ninS ne370 nin0)).keep Kk248q (ninS ne370 nin0)).keep Kk355q (ninS ne370 nin0)).keep Kk367q nin0)
        have F373 := (((((Qk5_1.keep Kk11q nin0).keep Kk22q (ninS ne370 nin0)).keep Kk248q (ninS ne370 nin0)).keep Kk355q (ninS ne370 nin0)).keep Kk367q nin0)
        have F374 := (((((Qk5_2.keep Kk11q nin0).keep Kk22q (ninS ne370 nin0)).keep Kk248q (ninS ne370 nin0)).keep Kk355q (ninS ne370 nin0)).keep Kk367q nin0)
        have Z375 : n0 ≤ Tk367.heap.size := (Nat.le_trans Z360 Kk367q.1)
        have O376 : Old Z n0 Tk367.heap := (O361.keep Kk367q all0)
        obtain ⟨cqk377, kqk377, qk377a, qk377b, qk377c⟩ := isOf hZ rfl F369
        obtain ⟨_, _, ⟨Tk377, Lk377, kk377, nk377⟩, -, Xk377, ⟨Lck377, hQk377, lk377, yk377, zk377⟩, stk377⟩ := Xk367.interfaceBack hx (xi := Y34) (y := Y11) hown (mvT hZ (tw hw 206 rfl)) (mvT hZ (tw hw 207 rfl)) (mvT hZ (tw hw 208 rfl)) (mvT hZ (tw hw 209 rfl)) (mvT hZ (tw hw 147 rfl)) (mvT hZ (tw hw 210 rfl)) (mvT hZ (tw hw 211 rfl)) (mvT hZ (tw hw 83 rfl)) (by decide) (backOf (W := 0) (rm_add_0 l Z a0 hw [] bo1 rk367 (0 : Int32) (1 : Int32) aD kD aL aC Tk367.heap n0 Z375 O376 F369 F372 F373 F374 (Ins.of_exa Qk367_0 (tw hw 212 rfl)) ⟨S_DEF, V_DEF, S_LIT, E_LIT, O_LIT, S_HI, S_CA, C_CA⟩ g_bo1 (by decide)) hZ (tw hw 149 rfl) (tw hw 2 rfl) (by decide) (by decide)) qk377a qk377b qk377c (g := (mkF m 53 #[.val (.ref ls), .val (.int ng), .val (.ref bo1), .val (.ref ik11), .val (.ref x2)] [(.ref rk367), (.ref bo1)])) rfl (by rw [hml]; rfl) (Steps.refl _) (argsL := [(.ref rk367)]) (rest := []) (lenOf pd__Ljava_lang_Object__Z rfl) rfl (by show 2 * 0 + _ ≤ _; exact Nat.le_of_eq rfl) (hb hby d6_53) (fun _ _ => ⟨rfl, rfl, (by decide : 3 + 1 ≤ _), (by decide : 8 + 10 ≤ _)⟩)
        dsimp only [Pt.U, Pt.locs, Pt.cells, Pt.slots] at Xk377 lk377 yk377 zk377 stk377 hQk377
        subst lk377 yk377 zk377
        obtain ⟨bk377, kk377, rfl, Nk377q, Kk377q, Gk377_0, Qk377_0, Qk377_1, Qk377_2, Qk377_3, Qk377_4⟩ := hQk377
        have Y378 : h0.size ≤ Tk367.heap.size := (Nat.le_trans (Nat.le_trans (Nat.le_trans (Nat.le_trans (Nat.le_trans Y12 Kk11q.1) Kk22q.1) Kk248q.1) Kk355q.1) Kk367q.1)
        have g_bk377 : n0 ≤ bk377 := Nat.le_trans Z375 Gk377_0
        have y_bk377 : h0.size ≤ bk377 := Nat.le_trans Y378 Gk377_0
        have K379 : Keep h0 Tk377.heap [] := K368.trans Kk377q (allS (P := fun x => x ∈ ([] : List Addr) ∨ h0.size ≤ x) (Or.inr y_bo1) all0)
        have Nk377 := Fr.app Nk367 Nk377q
        have F380 := ((Qk355_1.keep Kk367q nin0).keep Kk377q (ninS (Ne.symm ne370) nin0))
        have F381 := ((Qk355_0.keep Kk367q nin0).keep Kk377q (ninS (Ne.symm ne370) nin0))
        have ne382 : ls ≠ bo1 := Nat.ne_of_lt (Nat.lt_of_lt_of_le f0.lt (Nat.le_of_eq go1.symm))
        have F383 := (((F348.keep Kk355q (ninS ne239 nin0)).keep Kk367q nin0).keep Kk377q (ninS ne382 nin0))
        have Z384 : n0 ≤ Tk377.heap.size := (Nat.le_trans Z375 Kk377q.1)
        have O385 : Old Z n0 Tk377.heap := (O376.keep Kk377q (allS g_bo1 all0))
        have F387 := (F371.keep Kk377q)
        obtain ⟨cqk386, kqk386, qk386a, qk386b, qk386c⟩ := isOf hZ rfl F387
        obtain ⟨_, _, ⟨Tk386, Lk386, kk386, nk386⟩, -, Xk386, ⟨Lck386, hQk386, lk386, yk386, zk386⟩, stk386⟩ := Xk377.interfaceBack hx (xi := Y32) (y := Y14) hown (mvT hZ (tw hw 63 rfl)) (mvT hZ (tw hw 64 rfl)) (mvT hZ (tw hw 65 rfl)) (mvT hZ (tw hw 66 rfl)) (mvT hZ (tw hw 67 rfl)) (mvT hZ (tw hw 68 rfl)) (mvT hZ (tw hw 69 rfl)) (mvT hZ (tw hw 70 rfl)) (by decide) (backOf (W := 0) (rm_hasnext l Z a0 hw [] ik11 ls (3 : Int32) (3 : Int32) (0 : Int32)  Tk377.heap n0 Z384 O385 F380 F381 F383 (by decide)) hZ (tw hw 71 rfl) (tw hw 49 rfl) (by decide) (by decide)) qk386a qk386b qk386c (g := (mkF m 16 #[.val (.ref ls), .val (.int ng), .val (.ref bo1), .val (.ref ik11), .val (.ref x2)] [(.ref ik11)])) rfl (by rw [hml]; rfl) (Steps.refl _) (argsL := []) (rest := []) (lenOf pd___Z rfl) rfl (by show 2 * 0 + _ ≤ _; exact Nat.le_of_eq rfl) (hb hby d6_16) (fun _ _ => ⟨rfl, rfl, (by decide : 4 + 0 ≤ _), (by decide : 18 + 0 ≤ _)⟩)
        dsimp only [Pt.U, Pt.locs, Pt.cells, Pt.slots] at Xk386 lk386 yk386 zk386 stk386 hQk386
        subst lk386 yk386 zk386
        obtain ⟨rfl, Nk386q, ek386⟩ := hQk386
        have Nk386 := Fr.app Nk377 Nk386q
        have r388 : ∀ t_, Sp p e below Tk386 (mkF m 62 #[.val (.ref ls), .val (.int ng), .val (.ref bo1), .val (.ref ik11), .val (.ref x2)] []) t_ → Sp p e below s₁ (entryFrame m #[(.ref ls), (.int ng)] 5) t_ := by
          intro t_ k_
          refine r363 _ ?_
          refine XS.icmpNo Xk362.here hx rfl (hb hby d6_41) rfl (teq c364).2 ?_
          refine XS.aloadN Xk362.here hx rfl (hb hby d6_44) rfl rfl ?_
          refine XS.aload Xk362.here hx rfl (hb hby d6_45) rfl rfl ?_
          refine stk366.trans ?_
          refine stk367 _ ?_
          refine stk377.trans ?_
          refine XS.pop Xk377.here hx rfl (hb hby d6_58) rfl rfl ?_
          refine XS.goto Xk377.here hx rfl (pc0 := 59) (pc' := 15) rfl (hb hby d6_59) (by decide) (by decide) ?_
          refine XS.aloadN Xk377.here hx rfl (hb hby d6_15) rfl rfl ?_
          refine stk386.trans ?_
          refine XS.ifYes Xk386.here hx rfl (pc0 := 21) (pc' := 62) rfl (hb hby d6_21) rfl ((if0 _ _).trans (teq (by decide : (0 : Int32) = (0 : Int32))).1) (by decide) (by decide) ?_
          show Sp p e below Tk386 (mkF m 62 #[.val (.ref ls), .val (.int ng), .val (.ref bo1), .val (.ref ik11), .val (.ref x2)] []) _
          exact k_
        have hvs1 : vs = [(.int p2)] := by rw [hvs]; first | done | simp [own_f, c31, c257, c364]
        have hz1 : z = (1 : Int32) := by rw [hz, hvs1]; first | done | rfl
        have F389 := (F369.keep Kk377q)
        have F390 := (Qk367_0.keep Kk377q)
        have ne391 : rk367 ≠ bo1 := ne_exa F390 F389 (by decide)
        have F392 := (Qk367_1.keep Kk377q (ninS ne391 nin0))
        have Y393 : h0.size ≤ Tk377.heap.size := (Nat.le_trans Y378 Kk377q.1)
        obtain ⟨s₂, _, u1, u2, u3, _, L, rfl, ⟨b, kb, rfl, Nb, Kb, gb, Eb, Vb⟩, u5⟩ := tl_pt1 p l e s m _ below meth c _ _ Z a0 hw ls ng bo1 ik11 x2 bk377 kk377 rk367 p2 Tk377.heap n0 (Xk386.more (by decide) (by decide)) hx hZ hby hml hown hret Bd.notSynchronized ek386 Nk386 Z384 O385 F389 Qk377_1 Qk377_0 Qk377_3 F390 F392
        exact ⟨s₂, _, r388 _ u1, u2, u3, _, L, rfl, ⟨b, kb, rfl, Nb, Keep.trans K379 Kb all0, Nat.le_trans Y393 gb, Eb, by rw [hz1, hvs1]; exact Vb⟩, u5⟩
      · have F394 := (F348.keep Kk355q (ninS ne239 nin0))
        have F396 := (F350.keep Kk355q)
        obtain ⟨cqk395, kqk395, qk395a, qk395b, qk395c⟩ := isOf hZ ek362 F396
        obtain ⟨_, _, ⟨Tk395, Lk395, kk395, nk395⟩, -, Xk395, ⟨Lck395, hQk395, lk395, yk395, zk395⟩, stk395⟩ := Xk362.interfaceBack hx (xi := Y32) (y := Y14) hown (mvT hZ (tw hw 63 rfl)) (mvT hZ (tw hw 64 rfl)) (mvT hZ (tw hw 65 rfl)) (mvT hZ (tw hw 66 rfl)) (mvT hZ (tw hw 67 rfl)) (mvT hZ (tw hw 68 rfl)) (mvT hZ (tw hw 69 rfl)) (mvT hZ (tw hw 70 rfl)) (by decide) (backOf (W := 0) (rm_hasnext l Z a0 hw [] ik11 ls (3 : Int32) (3 : Int32) (0 : Int32)  Tk355.heap n0 Z360 O361 Qk355_1 Qk355_0 F394 (by decide)) hZ (tw hw 71 rfl) (tw hw 49 rfl) (by decide) (by decide)) qk395a qk395b qk395c (g := (mkF m 16 #[.val (.ref ls), .val (.int ng), .val (.ref bo1), .val (.ref ik11), .val (.ref x2)] [(.ref ik11)])) rfl (by rw [hml]; rfl) (Steps.refl _) (argsL := []) (rest := []) (lenOf pd___Z rfl) rfl (by show 2 * 0 + _ ≤ _; exact Nat.le_of_eq rfl) (hb hby d6_16) (fun _ _ => ⟨rfl, ek362, (by decide : 2 + 0 ≤ _), (by decide : 7 + 0 ≤ _)⟩)
        dsimp only [Pt.U, Pt.locs, Pt.cells, Pt.slots] at Xk395 lk395 yk395 zk395 stk395 hQk395
        subst lk395 yk395 zk395
        obtain ⟨rfl, Nk395q, ek395⟩ := hQk395
        have Nk395 := Fr.app Nk362 Nk395q
        have r397 : ∀ t_, Sp p e below Tk395 (mkF m 62 #[.val (.ref ls), .val (.int ng), .val (.ref bo1), .val (.ref ik11), .val (.ref x2)] []) t_ → Sp p e below s₁ (entryFrame m #[(.ref ls), (.int ng)] 5) t_ := by
          intro t_ k_
          refine r363 _ ?_
          refine XS.icmpYes Xk362.here hx rfl (pc0 := 41) (pc' := 59) rfl (hb hby d6_41) rfl (feq c364).2 (by decide) (by decide) ?_
          refine XS.goto Xk362.here hx rfl (pc0 := 59) (pc' := 15) rfl (hb hby d6_59) (by decide) (by decide) ?_
          refine XS.aloadN Xk362.here hx rfl (hb hby d6_15) rfl rfl ?_
          refine stk395.trans ?_
          refine XS.ifYes Xk395.here hx rfl (pc0 := 21) (pc' := 62) rfl (hb hby d6_21) rfl ((if0 _ _).trans (teq (by decide : (0 : Int32) = (0 : Int32))).1) (by decide) (by decide) ?_
          show Sp p e below Tk395 (mkF m 62 #[.val (.ref ls), .val (.int ng), .val (.ref bo1), .val (.ref ik11), .val (.ref x2)] []) _
          exact k_
        have hvs1 : vs = [] := by rw [hvs]; first | done | simp [own_f, c31, c257, c364]
        have hz1 : z = (0 : Int32) := by rw [hz, hvs1]; first | done | rfl
        have F398 := (((((Ao1.keep Kk5q).keep Kk11q).keep Kk22q).keep Kk248q).keep Kk355q)
        have ne399 : bo1 ≠ ik11 := ne_exa F398 F396 (by decide)
        have F400 := ((((Qk5_1.keep Kk11q nin0).keep Kk22q (ninS ne399 nin0)).keep Kk248q (ninS ne399 nin0)).keep Kk355q (ninS ne399 nin0))
        have F401 := ((((Qk5_0.keep Kk11q nin0).keep Kk22q (ninS ne399 nin0)).keep Kk248q (ninS ne399 nin0)).keep Kk355q (ninS ne399 nin0))
        have Y402 : h0.size ≤ Tk355.heap.size := (Nat.le_trans (Nat.le_trans (Nat.le_trans (Nat.le_trans Y12 Kk11q.1) Kk22q.1) Kk248q.1) Kk355q.1)
        obtain ⟨s₂, _, u1, u2, u3, _, L, rfl, ⟨b, kb, rfl, Nb, Kb, gb, Eb, Vb⟩, u5⟩ := tl_pt0 p l e s m _ below meth c _ _ Z a0 hw ls ng bo1 ik11 x2 aD   Tk355.heap n0 (Xk395.more (by decide) (by decide)) hx hZ hby hml hown hret Bd.notSynchronized ek395 Nk395 Z360 O361 F398 F400 F401
        exact ⟨s₂, _, r397 _ u1, u2, u3, _, L, rfl, ⟨b, kb, rfl, Nb, Keep.trans K356 Kb all0, Nat.le_trans Y402 gb, Eb, by rw [hz1, hvs1]; exact Vb⟩, u5⟩
theorem d5_0 : decode prog_25_method_1_code 0 = .ok (.aload_n 0, 1) := by decide +kernel
theorem d5_1 : decode prog_25_method_1_code 1 = .ok (.invokespecial 1, 3) := by decide +kernel
theorem d5_4 : decode prog_25_method_1_code 4 = .ok (.aload_n 0, 1) := by decide +kernel
theorem d5_5 : decode prog_25_method_1_code 5 = .ok (.aload_n 1, 1) := by decide +kernel
theorem d5_6 : decode prog_25_method_1_code 6 = .ok (.iconst 0, 1) := by decide +kernel
theorem d5_7 : decode prog_25_method_1_code 7 = .ok (.invokestatic 7, 3) := by decide +kernel
theorem d5_10 : decode prog_25_method_1_code 10 = .ok (.putfield 13, 3) := by decide +kernel
theorem d5_13 : decode prog_25_method_1_code 13 = .ok (.aload_n 0, 1) := by decide +kernel
theorem d5_14 : decode prog_25_method_1_code 14 = .ok (.aload_n 1, 1) := by decide +kernel
theorem d5_15 : decode prog_25_method_1_code 15 = .ok (.iconst 1, 1) := by decide +kernel
theorem d5_16 : decode prog_25_method_1_code 16 = .ok (.invokestatic 7, 3) := by decide +kernel
theorem d5_19 : decode prog_25_method_1_code 19 = .ok (.putfield 17, 3) := by decide +kernel
theorem d5_22 : decode prog_25_method_1_code 22 = .ok (.aload_n 0, 1) := by decide +kernel
theorem d5_23 : decode prog_25_method_1_code 23 = .ok (.iload_n 2, 1) := by decide +kernel
theorem d5_24 : decode prog_25_method_1_code 24 = .ok (.putfield 20, 3) := by decide +kernel
theorem d5_27 : decode prog_25_method_1_code 27 = .ok (.return_, 1) := by decide +kernel
theorem ef_5_RRI (m : MethodId) (x0 : Addr) (x1 : Addr) (x2 : Int32) : entryFrame m #[(.ref x0), (.ref x1), (.int x2)] 3 = mkF m 0 #[.val (.ref x0), .val (.ref x1), .val (.int x2)] [] := by first | (simp [entryFrame, mkF, argsToLocals, Value.category]; done) | rfl
theorem pd__Ljava_util_Collection_Z__I : parseMethodDescriptor "(Ljava/util/Collection;Z)[I" = some ⟨[(.object "java/util/Collection"), .boolean], some (.array .int)⟩ := by decide +kernel
def Q_trinit0 (Z : State) (a : Addr) (t : Int32) (ls : Addr) (mc : Int32) (z1 : Int32) (vs1 : List Value) (z2 : Int32) (vs2 : List Value) (aD : Addr) (kD : ClassId) (aL : Addr) (aC : Addr) (h0 : Heap) (n0 : Nat) (v : Option Value) (h : Heap) (L : List Loc) : Prop := ∃ b1 : Addr, ∃ k1 : ClassId, ∃ b2 : Addr, ∃ k2 : ClassId, v = none ∧ Fr n0 L ∧ Keep h0 h [a] ∧ h0.size ≤ b1 ∧ h0.size ≤ b2 ∧ Fld Z h a S8 "positive" "[I" (.ref b1) ∧ Fld Z h a S8 "negative" "[I" (.ref b2) ∧ Exa Z h b1 "[I" ∧ Arv Z h b1 k1 .int z1 vs1 (.int (0 : Int32)) ∧ Exa Z h b2 "[I" ∧ Arv Z h b2 k2 .int z2 vs2 (.int (0 : Int32)) ∧ b1 ≠ b2
set_option maxRecDepth 65536 in
set_option maxHeartbeats 40000000 in
theorem rm_trinit0 (l : Launch) (Z : State) (a0 : Array Value) (hw : ∀ d ∈ tables_1, d.before a0 Z = true) (ws : List Jvm.Cond) (a : Addr) (t : Int32) (ls : Addr) (mc : Int32) (z1 : Int32) (vs1 : List Value) (z2 : Int32) (vs2 : List Value) (aD : Addr) (kD : ClassId) (aL : Addr) (aC : Addr) (h0 : Heap) (n0 : Nat) (Z0 : n0 ≤ h0.size) (O0 : Old Z n0 h0) (f0 : Exa Z h0 ls S1) (f1 : Fld Z h0 ls S1 "elementData" S2 (.ref aD)) (f2 : Fld Z h0 ls S1 "size" "I" (.int (0 : Int32))) (f3 : Fld Z h0 ls S5 "modCount" "I" (.int mc)) (f4 : Exa Z h0 a S8) (f5 : Fld Z h0 a S8 "positive" "[I" .null) (f6 : Fld Z h0 a S8 "negative" "[I" .null) (f7 : Fld Z h0 a S8 "target" "I" (.int (0 : Int32))) (SS : own_start Z aD kD aL aC) (ga : n0 ≤ a) (hvs1 : vs1 = []) (hz1 : z1 = Int32.ofNat vs1.length) (hvs2 : vs2 = []) (hz2 : z2 = Int32.ofNat vs2.length) :
    MetFree l Y35 (head1 (Jvm.Cond.code Y35 prog_25_method_1_code 3 none :: ws) ({ frames := 6, cells := 14, slots := 46, locals := 86 } : Room)) (fun A_ U => A_ = #[(.ref a), (.ref ls), (.int t)] ∧ Z.Warmed39 U.vm ∧ U.heap = h0) (fun _ _ _ _ _ => True) (fun _ U o_ U' => ∃ v_ L_, o_ = .returned v_ ∧ Q_trinit0 Z a t ls mc z1 vs1 z2 vs2 aD kD aL aC h0 n0 v_ U'.heap L_ ∧ FrameEnd U o_ U' L_ ({ frames := 6, cells := 14, slots := 46, locals := 86 } : Room).cells ({ frames := 6, cells := 14, slots := 46, locals := 86 } : Room).slots) := by
  refine MetFree.of_bodySF (plainFor_of_name pn_10) hisR ?_
  intro p e s m args below meth c s₁ Bd hml0 hP hK
  obtain ⟨rfl, hZ, hh⟩ := hP
  have hx := Bd.exec
  have hby := Bd.bytes
  have hml : c.maxLocals = 3 := hml0
  have hown : s.vm.findClass S8 = some m.cls := findClass_of_methodNamed Bd.named
  have hnm := (name_of_methodNamed Bd.named Bd.method).1
  have hret := Bd.returns
  have X0 : Stand p l e ({ frames := 6, cells := 14, slots := 46, locals := 86 } : Room) s m #[(.ref a), (.ref ls), (.int t)] below meth c s₁ [] 0 0 := Stand.of_body Bd
  have e0 : s₁.heap = h0 := by rw [← hh, Bd.state]; rfl
  have N0 := Fr.nil n0
  have pre0 : ∀ t_, Sp p e below s₁ (mkF m 0 #[.val (.ref a), .val (.ref ls), .val (.int t)] []) t_ → Sp p e below s₁ (entryFrame m #[(.ref a), (.ref ls), (.int t)] 3) t_ := fun t_ k_ => castTop (ef_5_RRI m a ls t) k_
  obtain ⟨S_DEF, V_DEF, S_LIT, E_LIT, O_LIT, S_HI, S_CA, C_CA⟩ := SS
  obtain ⟨Ti1, Xi1, ei1, sti1⟩ := initO X0 hx hZ hown (tw hw 32 rfl) (tw hw 19 rfl) (tw hw 20 rfl) e0 (g := (mkF m 1 #[.val (.ref a), .val (.ref ls), .val (.int t)] [(.ref a)])) rfl (by rw [hml]; rfl) rfl (hb hby d5_1) (by decide) (W := 0) (by show 2 * 0 + _ ≤ _; exact Nat.le_of_eq rfl) (by decide)
  obtain ⟨_, _, ⟨Tk2, Lk2, kk2, nk2⟩, -, Xk2, ⟨Lck2, hQk2, lk2, yk2, zk2⟩, stk2⟩ := Jvm.LawKit.callS Xi1 hx (y := Y30) hown (mvT hZ (tw hw 33 rfl)) (mvT hZ (tw hw 34 rfl)) (mvT hZ (tw hw 28 rfl)) (mvT hZ (tw hw 35 rfl)) (by decide) (backOf (W := 1) (rm_props0 l Z a0 hw [] ls mc (0 : Int32) z1 vs1 aD kD aL aC h0 n0 Z0 O0 f0 f1 f2 f3 ⟨S_DEF, V_DEF, S_LIT, E_LIT, O_LIT, S_HI, S_CA, C_CA⟩ hvs1 hz1) hZ (tw hw 35 rfl) (tw hw 28 rfl) (by decide) (by decide)) (g := (mkF m 7 #[.val (.ref a), .val (.ref ls), .val (.int t)] [(.int (0 : Int32)), (.ref ls), (.ref a)])) rfl (by rw [hml]; rfl) (argsL := [(.ref ls), (.int (0 : Int32))]) (rest := [(.ref a)]) (lenOf pd__Ljava_util_Collection_Z__I rfl) rfl (by show 2 * 0 + _ ≤ _; exact Nat.le_of_eq rfl) (hb hby d5_7) (fun _ _ => ⟨rfl, ei1, (by decide : 0 + 7 ≤ _), (by decide : 0 + 23 ≤ _)⟩)
  dsimp only [Pt.U, Pt.locs, Pt.cells, Pt.slots] at Xk2 lk2 yk2 zk2 stk2 hQk2
  subst lk2 yk2 zk2
  obtain ⟨bk2, kbk2, rfl, Nk2q, Kk2q, Gk2_0, Qk2_0, Qk2_1⟩ := hQk2
  have g_bk2 : n0 ≤ bk2 := Nat.le_trans Z0 Gk2_0
  have y_bk2 : h0.size ≤ bk2 := Nat.le_trans (Nat.le_refl h0.size) Gk2_0
  have K3 : Keep h0 Tk2.heap [a] := (Keep.refl h0 [a]).trans Kk2q all0
  have Nk2 := Fr.app N0 Nk2q
  have F4 := (f5.keep Kk2q nin0)
  have F5 := (f4.keep Kk2q)
  obtain ⟨Tp6, hp6, Xp6, ep6, Wp6, stp6⟩ := putF Xk2 hx hZ hown (host := "") (Or.inl (tw hw 87 rfl)) Via.refl rfl F4 F5 (Or.inr ⟨(tw hw 88 rfl), rfl, hnm⟩) (tw hw 27 rfl) (ty := (.array .int)) (by decide) rfl rfl (g := (mkF m 10 #[.val (.ref a), .val (.ref ls), .val (.int t)] [(.ref bk2), (.ref a)])) rfl rfl (hb hby d5_10)
  have Fwp6 : Fld Z hp6 a S8 "positive" "[I" (.ref bk2) := F4.same Wp6
  have Np6 := Fr.snoc Xp6 Nk2 ga
  have K7 : Keep h0 hp6 [a] := K3.wr Wp6 (Or.inl (List.mem_of_getElem? (i := 0) rfl))
  have F8 := ((f0.keep Kk2q).wr Wp6)
  have F10 := (F5.wr Wp6)
  have ne9 : ls ≠ a := ne_exa F8 F10 (by decide)
  have F11 := ((f1.keep Kk2q nin0).other Wp6 (Or.inl ne9))
  have F12 := ((f2.keep Kk2q nin0).other Wp6 (Or.inl ne9))
  have F13 := ((f3.keep Kk2q nin0).other Wp6 (Or.inl ne9))
  have Z14 : n0 ≤ hp6.size := (Nat.le_trans (Nat.le_trans Z0 Kk2q.1) (Keep.of_wr Wp6).1)
  have O15 : Old Z n0 hp6 := ((O0.keep Kk2q all0).wr Wp6 ga)
  obtain ⟨_, _, ⟨Tk16, Lk16, kk16, nk16⟩, -, Xk16, ⟨Lck16, hQk16, lk16, yk16, zk16⟩, stk16⟩ := Jvm.LawKit.callS Xp6 hx (y := Y30) hown (mvT hZ (tw hw 33 rfl)) (mvT hZ (tw hw 34 rfl)) (mvT hZ (tw hw 28 rfl)) (mvT hZ (tw hw 35 rfl)) (by decide) (backOf (W := 1) (rm_props0 l Z a0 hw [] ls mc (1 : Int32) z2 vs2 aD kD aL aC hp6 n0 Z14 O15 F8 F11 F12 F13 ⟨S_DEF, V_DEF, S_LIT, E_LIT, O_LIT, S_HI, S_CA, C_CA⟩ hvs2 hz2) hZ (tw hw 35 rfl) (tw hw 28 rfl) (by decide) (by decide)) (g := (mkF m 16 #[.val (.ref a), .val (.ref ls), .val (.int t)] [(.int (1 : Int32)), (.ref ls), (.ref a)])) rfl (by rw [hml]; rfl) (argsL := [(.ref ls), (.int (1 : Int32))]) (rest := [(.ref a)]) (lenOf pd__Ljava_util_Collection_Z__I rfl) rfl (by show 2 * 0 + _ ≤ _; exact Nat.le_of_eq rfl) (hb hby d5_16) (fun _ _ => ⟨rfl, ep6, (by decide : 7 + 7 ≤ _), (by decide : 23 + 23 ≤ _)⟩)
  dsimp only [Pt.U, Pt.locs, Pt.cells, Pt.slots] at Xk16 lk16 yk16 zk16 stk16 hQk16
  subst lk16 yk16 zk16
  obtain ⟨bk16, kbk16, rfl, Nk16q, Kk16q, Gk16_0, Qk16_0, Qk16_1⟩ := hQk16
  have Y17 : h0.size ≤ hp6.size := (Nat.le_trans (Nat.le_trans (Nat.le_refl h0.size) Kk2q.1) (Keep.of_wr Wp6).1)
  have g_bk16 : n0 ≤ bk16 := Nat.le_trans Z14 Gk16_0
  have y_bk16 : h0.size ≤ bk16 := Nat.le_trans Y17 Gk16_0
  have K18 : Keep h0 Tk16.heap [a] := K7.trans Kk16q all0
  have Nk16 := Fr.app Np6 Nk16q
  have F19 := (((f6.keep Kk2q nin0).other Wp6 (Or.inr (slot_ne (Or.inr (tw hw 90 rfl)) (Or.inr (tw hw 88 rfl)) (by decide) (t := (.array .int)) (t' := (.array .int)) (by decide) (by decide)))).keep Kk16q nin0)
  have F20 := (F10.keep Kk16q)
  obtain ⟨Tp21, hp21, Xp21, ep21, Wp21, stp21⟩ := putF Xk16 hx hZ hown (host := "") (Or.inl (tw hw 89 rfl)) Via.refl rfl F19 F20 (Or.inr ⟨(tw hw 90 rfl), rfl, hnm⟩) (tw hw 27 rfl) (ty := (.array .int)) (by decide) rfl rfl (g := (mkF m 19 #[.val (.ref a), .val (.ref ls), .val (.int t)] [(.ref bk16), (.ref a)])) rfl rfl (hb hby d5_19)
  have Fwp21 : Fld Z hp21 a S8 "negative" "[I" (.ref bk16) := F19.same Wp21
  have Np21 := Fr.snoc Xp21 Nk16 ga
  have K22 : Keep h0 hp21 [a] := K18.wr Wp21 (Or.inl (List.mem_of_getElem? (i := 0) rfl))
  have F23 := ((((f7.keep Kk2q nin0).other Wp6 (Or.inr (slot_ne (Or.inr (tw hw 92 rfl)) (Or.inr (tw hw 88 rfl)) (by decide) (t := .int) (t' := (.array .int)) (by decide) (by decide)))).keep Kk16q nin0).other Wp21 (Or.inr (slot_ne (Or.inr (tw hw 92 rfl)) (Or.inr (tw hw 90 rfl)) (by decide) (t := .int) (t' := (.array .int)) (by decide) (by decide))))
  have F24 := (F20.wr Wp21)
  obtain ⟨Tp25, hp25, Xp25, ep25, Wp25, stp25⟩ := putF Xp21 hx hZ hown (host := "") (Or.inl (tw hw 91 rfl)) Via.refl ep21 F23 F24 (Or.inr ⟨(tw hw 92 rfl), rfl, hnm⟩) (tw hw 27 rfl) (ty := .int) (by decide) rfl rfl (g := (mkF m 24 #[.val (.ref a), .val (.ref ls), .val (.int t)] [(.int t), (.ref a)])) rfl rfl (hb hby d5_24)
  have Fwp25 : Fld Z hp25 a S8 "target" "I" (.int t) := F23.same Wp25
  have Np25 := Fr.snoc Xp25 Np21 ga
  have K26 : Keep h0 hp25 [a] := K22.wr Wp25 (Or.inl (List.mem_of_getElem? (i := 0) rfl))
  have F27 := (((Fwp6.keep Kk16q nin0).other Wp21 (Or.inr (slot_ne (Or.inr (tw hw 88 rfl)) (Or.inr (tw hw 90 rfl)) (by decide) (t := (.array .int)) (t' := (.array .int)) (by decide) (by decide)))).other Wp25 (Or.inr (slot_ne (Or.inr (tw hw 88 rfl)) (Or.inr (tw hw 92 rfl)) (by decide) (t := (.array .int)) (t' := .int) (by decide) (by decide))))
  have F28 := (Fwp21.other Wp25 (Or.inr (slot_ne (Or.inr (tw hw 90 rfl)) (Or.inr (tw hw 92 rfl)) (by decide) (t := (.array .int)) (t' := .int) (by decide) (by decide))))
  have F29 := ((((Qk2_0.wr Wp6).keep Kk16q).wr Wp21).wr Wp25)
  have F31 := (F24.wr Wp25)
  have ne30 : bk2 ≠ a := ne_exa F29 F31 (by decide)
  have F32 := ((((Qk2_1.other Wp6 ne30).keep Kk16q nin0).other Wp21 ne30).other Wp25 ne30)
  have F33 := ((Qk16_0.wr Wp21).wr Wp25)
  have ne34 : bk16 ≠ a := ne_exa F33 F31 (by decide)
  have F35 := ((Qk16_1.other Wp21 ne34).other Wp25 ne34)
  have ne36 : bk2 ≠ bk16 := Nat.ne_of_lt (Nat.lt_of_lt_of_le (Nat.lt_of_lt_of_le Qk2_0.lt (Keep.of_wr Wp6).1) Gk16_0)
  obtain ⟨fs, hlv, hrun, hended, hW, hsame⟩ := Xp25.leave (v := none) (fun _ => rfl)
  refine ⟨_, _, pre0 _ ?_, hrun, hended, _, _, rfl, ?_, ⟨_, rfl⟩, hW, hsame.mono (by decide) (by decide)⟩
  · refine XS.aloadN X0.here hx rfl (hb hby d5_0) rfl rfl ?_
    show Sp p e below s₁ (mkF m 1 #[.val (.ref a), .val (.ref ls), .val (.int t)] [(.ref a)]) _
    refine sti1 _ ?_
    refine XS.aloadN Xi1.here hx rfl (hb hby d5_4) rfl rfl ?_
    refine XS.aloadN Xi1.here hx rfl (hb hby d5_5) rfl rfl ?_
    refine XS.iconst Xi1.here hx rfl (hb hby d5_6) ?_
    refine stk2 _ ?_
    refine stp6 _ ?_
    refine XS.aloadN Xp6.here hx rfl (hb hby d5_13) rfl rfl ?_
    refine XS.aloadN Xp6.here hx rfl (hb hby d5_14) rfl rfl ?_
    refine XS.iconst Xp6.here hx rfl (hb hby d5_15) ?_
    refine stk16 _ ?_
    refine stp21 _ ?_
    refine XS.aloadN Xp21.here hx rfl (hb hby d5_22) rfl rfl ?_
    refine XS.iloadN Xp21.here hx rfl (hb hby d5_23) rfl ?_
    refine stp25 _ ?_
    show Sp p e below Tp25 (mkF m 27 #[.val (.ref a), .val (.ref ls), .val (.int t)] []) _
    exact Xp25.returnOut hx hret (hb hby d5_27) hlv
  · show Q_trinit0 Z a t ls mc z1 vs1 z2 vs2 aD kD aL aC h0 n0 _ Tp25.heap _
    rw [ep25]
    exact ⟨bk2, kbk2, bk16, kbk16, rfl, Np25, K26, y_bk2, y_bk16, F27, F28, F29, F32, F33, F35, ne36⟩
def Q_trinit1 (Z : State) (a : Addr) (t : Int32) (ls : Addr) (mc : Int32) (ed : Addr) (ked : ClassId) (x0 : Addr) (p0 : Int32) (g0 : Int32) (z1 : Int32) (vs1 : List Value) (z2 : Int32) (vs2 : List Value) (aD : Addr) (kD : ClassId) (aL : Addr) (aC : Addr) (h0 : Heap) (n0 : Nat) (v : Option Value) (h : Heap) (L : List Loc) : Prop := ∃ b1 : Addr, ∃ k1 : ClassId, ∃ b2 : Addr, ∃ k2 : ClassId, v = none ∧ Fr n0 L ∧ Keep h0 h [a] ∧ h0.size ≤ b1 ∧ h0.size ≤ b2 ∧ Fld Z h a S8 "positive" "[I" (.ref b1) ∧ Fld Z h a S8 "negative" "[I" (.ref b2) ∧ Exa Z h b1 "[I" ∧ Arv Z h b1 k1 .int z1 vs1 (.int (0 : Int32)) ∧ Exa Z h b2 "[I" ∧ Arv Z h b2 k2 .int z2 vs2 (.int (0 : Int32)) ∧ b1 ≠ b2
set_option maxRecDepth 65536 in
set_option maxHeartbeats 40000000 in
theorem rm_trinit1 (l : Launch) (Z : State) (a0 : Array Value) (hw : ∀ d ∈ tables_1, d.before a0 Z = true) (ws : List Jvm.Cond) (a : Addr) (t : Int32) (ls : Addr) (mc : Int32) (ed : Addr) (ked : ClassId) (x0 : Addr) (p0 : Int32) (g0 : Int32) (z1 : Int32) (vs1 : List Value) (z2 : Int32) (vs2 : List Value) (aD : Addr) (kD : ClassId) (aL : Addr) (aC : Addr) (h0 : Heap) (n0 : Nat) (Z0 : n0 ≤ h0.size) (O0 : Old Z n0 h0) (f0 : Exa Z h0 ls S1) (f1 : Fld Z h0 ls S1 "elementData" S2 (.ref ed)) (f2 : Fld Z h0 ls S1 "size" "I" (.int (1 : Int32))) (f3 : Fld Z h0 ls S5 "modCount" "I" (.int mc)) (f4 : Arv Z h0 ed ked (.object S3) (10 : Int32) [(.ref x0), .null, .null, .null, .null, .null, .null, .null, .null, .null] .null) (f5 : Exa Z h0 x0 S6) (f6 : Fld Z h0 x0 S6 "proposition" "I" (.int p0)) (f7 : Fld Z h0 x0 S6 "negated" "Z" (.int g0)) (f8 : Exa Z h0 a S8) (f9 : Fld Z h0 a S8 "positive" "[I" .null) (f10 : Fld Z h0 a S8 "negative" "[I" .null) (f11 : Fld Z h0 a S8 "target" "I" (.int (0 : Int32))) (SS : own_start Z aD kD aL aC) (ga : n0 ≤ a) (hg0 : g0 = 0 ∨ g0 = 1) (hvs1 : vs1 = own_f g0 (0 : Int32) p0) (hz1 : z1 = Int32.ofNat vs1.length) (hvs2 : vs2 = own_f g0 (1 : Int32) p0) (hz2 : z2 = Int32.ofNat vs2.length) :
    MetFree l Y35 (head1 (Jvm.Cond.code Y35 prog_25_method_1_code 3 none :: ws) ({ frames := 6, cells := 14, slots := 46, locals := 86 } : Room)) (fun A_ U => A_ = #[(.ref a), (.ref ls), (.int t)] ∧ Z.Warmed39 U.vm ∧ U.heap = h0) (fun _ _ _ _ _ => True) (fun _ U o_ U' => ∃ v_ L_, o_ = .returned v_ ∧ Q_trinit1 Z a t ls mc ed ked x0 p0 g0 z1 vs1 z2 vs2 aD kD aL aC h0 n0 v_ U'.heap L_ ∧ FrameEnd U o_ U' L_ ({ frames := 6, cells := 14, slots := 46, locals := 86 } : Room).cells ({ frames := 6, cells := 14, slots := 46, locals := 86 } : Room).slots) := by
  refine MetFree.of_bodySF (plainFor_of_name pn_10) hisR ?_
  intro p e s m args below meth c s₁ Bd hml0 hP hK
  obtain ⟨rfl, hZ, hh⟩ := hP
  have hx := Bd.exec
  have hby := Bd.bytes
  have hml : c.maxLocals = 3 := hml0
  have hown : s.vm.findClass S8 = some m.cls := findClass_of_methodNamed Bd.named
  have hnm := (name_of_methodNamed Bd.named Bd.method).1
  have hret := Bd.returns
  have X0 : Stand p l e ({ frames := 6, cells := 14, slots := 46, locals := 86 } : Room) s m #[(.ref a), (.ref ls), (.int t)] below meth c s₁ [] 0 0 := Stand.of_body Bd
  have e0 : s₁.heap = h0 := by rw [← hh, Bd.state]; rfl
  have N0 := Fr.nil n0
  have pre0 : ∀ t_, Sp p e below s₁ (mkF m 0 #[.val (.ref a), .val (.ref ls), .val (.int t)] []) t_ → Sp p e below s₁ (entryFrame m #[(.ref a), (.ref ls), (.int t)] 3) t_ := fun t_ k_ => castTop (ef_5_RRI m a ls t) k_
  obtain ⟨S_DEF, V_DEF, S_LIT, E_LIT, O_LIT, S_HI, S_CA, C_CA⟩ := SS
  obtain ⟨Ti1, Xi1, ei1, sti1⟩ := initO X0 hx hZ hown (tw hw 32 rfl) (tw hw 19 rfl) (tw hw 20 rfl) e0 (g := (mkF m 1 #[.val (.ref a), .val (.ref ls), .val (.int t)] [(.ref a)])) rfl (by rw [hml]; rfl) rfl (hb hby d5_1) (by decide) (W := 0) (by show 2 * 0 + _ ≤ _; exact Nat.le_of_eq rfl) (by decide)
  obtain ⟨_, _, ⟨Tk2, Lk2, kk2, nk2⟩, -, Xk2, ⟨Lck2, hQk2, lk2, yk2, zk2⟩, stk2⟩ := Jvm.LawKit.callS Xi1 hx (y := Y30) hown (mvT hZ (tw hw 33 rfl)) (mvT hZ (tw hw 34 rfl)) (mvT hZ (tw hw 28 rfl)) (mvT hZ (tw hw 35 rfl)) (by decide) (backOf (W := 1) (rm_props1 l Z a0 hw [] ls mc ed ked x0 p0 g0 (0 : Int32) z1 vs1 aD kD aL aC h0 n0 Z0 O0 f0 f1 f2 f3 f4 f5 f6 f7 ⟨S_DEF, V_DEF, S_LIT, E_LIT, O_LIT, S_HI, S_CA, C_CA⟩ hg0 hvs1 hz1) hZ (tw hw 35 rfl) (tw hw 28 rfl) (by decide) (by decide)) (g := (mkF m 7 #[.val (.ref a), .val (.ref ls), .val (.int t)] [(.int (0 : Int32)), (.ref ls), (.ref a)])) rfl (by rw [hml]; rfl) (argsL := [(.ref ls), (.int (0 : Int32))]) (rest := [(.ref a)]) (lenOf pd__Ljava_util_Collection_Z__I rfl) rfl (by show 2 * 0 + _ ≤ _; exact Nat.le_of_eq rfl) (hb hby d5_7) (fun _ _ => ⟨rfl, ei1, (by decide : 0 + 7 ≤ _), (by decide : 0 + 23 ≤ _)⟩)
  dsimp only [Pt.U, Pt.locs, Pt.cells, Pt.slots] at Xk2 lk2 yk2 zk2 stk2 hQk2
  subst lk2 yk2 zk2
  obtain ⟨bk2, kbk2, rfl, Nk2q, Kk2q, Gk2_0, Qk2_0, Qk2_1⟩ := hQk2
  have g_bk2 : n0 ≤ bk2 := Nat.le_trans Z0 Gk2_0
  have y_bk2 : h0.size ≤ bk2 := Nat.le_trans (Nat.le_refl h0.size) Gk2_0
  have K3 : Keep h0 Tk2.heap [a] := (Keep.refl h0 [a]).trans Kk2q all0
  have Nk2 := Fr.app N0 Nk2q
  have F4 := (f9.keep Kk2q nin0)
  have F5 := (f8.keep Kk2q)
  obtain ⟨Tp6, hp6, Xp6, ep6, Wp6, stp6⟩ := putF Xk2 hx hZ hown (host := "") (Or.inl (tw hw 87 rfl)) Via.refl rfl F4 F5 (Or.inr ⟨(tw hw 88 rfl), rfl, hnm⟩) (tw hw 27 rfl) (ty := (.array .int)) (by decide) rfl rfl (g := (mkF m 10 #[.val (.ref a), .val (.ref ls), .val (.int t)] [(.ref bk2), (.ref a)])) rfl rfl (hb hby d5_10)
  have Fwp6 : Fld Z hp6 a S8 "positive" "[I" (.ref bk2) := F4.same Wp6
  have Np6 := Fr.snoc Xp6 Nk2 ga
  have K7 : Keep h0 hp6 [a] := K3.wr Wp6 (Or.inl (List.mem_of_getElem? (i := 0) rfl))
  have F8 := ((f0.keep Kk2q).wr Wp6)
  have F10 := (F5.wr Wp6)
  have ne9 : ls ≠ a := ne_exa F8 F10 (by decide)
  have F11 := ((f1.keep Kk2q nin0).other Wp6 (Or.inl ne9))
  have F12 := ((f2.keep Kk2q nin0).other Wp6 (Or.inl ne9))
  have F13 := ((f3.keep Kk2q nin0).other Wp6 (Or.inl ne9))
  have ne14 : a ≠ ed := Exa.neArv f8 f4 (tw hw 27 rfl)
  have F15 := ((f4.keep Kk2q nin0).other Wp6 (Ne.symm ne14))
  have F16 := ((f5.keep Kk2q).wr Wp6)
  have ne17 : x0 ≠ a := ne_exa F16 F10 (by decide)
  have F18 := ((f6.keep Kk2q nin0).other Wp6 (Or.inl ne17))
  have F19 := ((f7.keep Kk2q nin0).other Wp6 (Or.inl ne17))
  have Z20 : n0 ≤ hp6.size := (Nat.le_trans (Nat.le_trans Z0 Kk2q.1) (Keep.of_wr Wp6).1)
  have O21 : Old Z n0 hp6 := ((O0.keep Kk2q all0).wr Wp6 ga)
  obtain ⟨_, _, ⟨Tk22, Lk22, kk22, nk22⟩, -, Xk22, ⟨Lck22, hQk22, lk22, yk22, zk22⟩, stk22⟩ := Jvm.LawKit.callS Xp6 hx (y := Y30) hown (mvT hZ (tw hw 33 rfl)) (mvT hZ (tw hw 34 rfl)) (mvT hZ (tw hw 28 rfl)) (mvT hZ (tw hw 35 rfl)) (by decide) (backOf (W := 1) (rm_props1 l Z a0 hw [] ls mc ed ked x0 p0 g0 (1 : Int32) z2 vs2 aD kD aL aC hp6 n0 Z20 O21 F8 F11 F12 F13 F15 F16 F18 F19 ⟨S_DEF, V_DEF, S_LIT, E_LIT, O_LIT, S_HI, S_CA, C_CA⟩ hg0 hvs2 hz2) hZ (tw hw 35 rfl) (tw hw 28 rfl) (by decide) (by decide)) (g := (mkF m 16 #[.val (.ref a), .val (.ref ls), .val (.int t)] [(.int (1 : Int32)), (.ref ls), (.ref a)])) rfl (by rw [hml]; rfl) (argsL := [(.ref ls), (.int (1 : Int32))]) (rest := [(.ref a)]) (lenOf pd__Ljava_util_Collection_Z__I rfl) rfl (by show 2 * 0 + _ ≤ _; exact Nat.le_of_eq rfl) (hb hby d5_16) (fun _ _ => ⟨rfl, ep6, (by decide : 7 + 7 ≤ _), (by decide : 23 + 23 ≤ _)⟩)
  dsimp only [Pt.U, Pt.locs, Pt.cells, Pt.slots] at Xk22 lk22 yk22 zk22 stk22 hQk22
  subst lk22 yk22 zk22
  obtain ⟨bk22, kbk22, rfl, Nk22q, Kk22q, Gk22_0, Qk22_0, Qk22_1⟩ := hQk22
  have Y23 : h0.size ≤ hp6.size := (Nat.le_trans (Nat.le_trans (Nat.le_refl h0.size) Kk2q.1) (Keep.of_wr Wp6).1)
  have g_bk22 : n0 ≤ bk22 := Nat.le_trans Z20 Gk22_0
  have y_bk22 : h0.size ≤ bk22 := Nat.le_trans Y23 Gk22_0
  have K24 : Keep h0 Tk22.heap [a] := K7.trans Kk22q all0
  have Nk22 := Fr.app Np6 Nk22q
  have F25 := (((f10.keep Kk2q nin0).other Wp6 (Or.inr (slot_ne (Or.inr (tw hw 90 rfl)) (Or.inr (tw hw 88 rfl)) (by decide) (t := (.array .int)) (t' := (.array .int)) (by decide) (by decide)))).keep Kk22q nin0)
  have F26 := (F10.keep Kk22q)
  obtain ⟨Tp27, hp27, Xp27, ep27, Wp27, stp27⟩ := putF Xk22 hx hZ hown (host := "") (Or.inl (tw hw 89 rfl)) Via.refl rfl F25 F26 (Or.inr ⟨(tw hw 90 rfl), rfl, hnm⟩) (tw hw 27 rfl) (ty := (.array .int)) (by decide) rfl rfl (g := (mkF m 19 #[.val (.ref a), .val (.ref ls), .val (.int t)] [(.ref bk22), (.ref a)])) rfl rfl (hb hby d5_19)
  have Fwp27 : Fld Z hp27 a S8 "negative" "[I" (.ref bk22) := F25.same Wp27
  have Np27 := Fr.snoc Xp27 Nk22 ga
  have K28 : Keep h0 hp27 [a] := K24.wr Wp27 (Or.inl (List.mem_of_getElem? (i := 0) rfl))
  have F29 := ((((f11.keep Kk2q nin0).other Wp6 (Or.inr (slot_ne (Or.inr (tw hw 92 rfl)) (Or.inr (tw hw 88 rfl)) (by decide) (t := .int) (t' := (.array .int)) (by decide) (by decide)))).keep Kk22q nin0).other Wp27 (Or.inr (slot_ne (Or.inr (tw hw 92 rfl)) (Or.inr (tw hw 90 rfl)) (by decide) (t := .int) (t' := (.array .int)) (by decide) (by decide))))
  have F30 := (F26.wr Wp27)
  obtain ⟨Tp31, hp31, Xp31, ep31, Wp31, stp31⟩ := putF Xp27 hx hZ hown (host := "") (Or.inl (tw hw 91 rfl)) Via.refl ep27 F29 F30 (Or.inr ⟨(tw hw 92 rfl), rfl, hnm⟩) (tw hw 27 rfl) (ty := .int) (by decide) rfl rfl (g := (mkF m 24 #[.val (.ref a), .val (.ref ls), .val (.int t)] [(.int t), (.ref a)])) rfl rfl (hb hby d5_24)
  have Fwp31 : Fld Z hp31 a S8 "target" "I" (.int t) := F29.same Wp31
  have Np31 := Fr.snoc Xp31 Np27 ga
  have K32 : Keep h0 hp31 [a] := K28.wr Wp31 (Or.inl (List.mem_of_getElem? (i := 0) rfl))
  have F33 := (((Fwp6.keep Kk22q nin0).other Wp27 (Or.inr (slot_ne (Or.inr (tw hw 88 rfl)) (Or.inr (tw hw 90 rfl)) (by decide) (t := (.array .int)) (t' := (.array .int)) (by decide) (by decide)))).other Wp31 (Or.inr (slot_ne (Or.inr (tw hw 88 rfl)) (Or.inr (tw hw 92 rfl)) (by decide) (t := (.array .int)) (t' := .int) (by decide) (by decide))))
  have F34 := (Fwp27.other Wp31 (Or.inr (slot_ne (Or.inr (tw hw 90 rfl)) (Or.inr (tw hw 92 rfl)) (by decide) (t := (.array .int)) (t' := .int) (by decide) (by decide))))
  have F35 := ((((Qk2_0.wr Wp6).keep Kk22q).wr Wp27).wr Wp31)
  have F37 := (F30.wr Wp31)
  have ne36 : bk2 ≠ a := ne_exa F35 F37 (by decide)
  have F38 := ((((Qk2_1.other Wp6 ne36).keep Kk22q nin0).other Wp27 ne36).other Wp31 ne36)
  have F39 := ((Qk22_0.wr Wp27).wr Wp31)
  have ne40 : bk22 ≠ a := ne_exa F39 F37 (by decide)
  have F41 := ((Qk22_1.other Wp27 ne40).other Wp31 ne40)
  have ne42 : bk2 ≠ bk22 := Nat.ne_of_lt (Nat.lt_of_lt_of_le (Nat.lt_of_lt_of_le Qk2_0.lt (Keep.of_wr Wp6).1) Gk22_0)
  obtain ⟨fs, hlv, hrun, hended, hW, hsame⟩ := Xp31.leave (v := none) (fun _ => rfl)
  refine ⟨_, _, pre0 _ ?_, hrun, hended, _, _, rfl, ?_, ⟨_, rfl⟩, hW, hsame.mono (by decide) (by decide)⟩
  · refine XS.aloadN X0.here hx rfl (hb hby d5_0) rfl rfl ?_
    show Sp p e below s₁ (mkF m 1 #[.val (.ref a), .val (.ref ls), .val (.int t)] [(.ref a)]) _
    refine sti1 _ ?_
    refine XS.aloadN Xi1.here hx rfl (hb hby d5_4) rfl rfl ?_
    refine XS.aloadN Xi1.here hx rfl (hb hby d5_5) rfl rfl ?_
    refine XS.iconst Xi1.here hx rfl (hb hby d5_6) ?_
    refine stk2 _ ?_
    refine stp6 _ ?_
    refine XS.aloadN Xp6.here hx rfl (hb hby d5_13) rfl rfl ?_
    refine XS.aloadN Xp6.here hx rfl (hb hby d5_14) rfl rfl ?_
    refine XS.iconst Xp6.here hx rfl (hb hby d5_15) ?_
    refine stk22 _ ?_
    refine stp27 _ ?_
    refine XS.aloadN Xp27.here hx rfl (hb hby d5_22) rfl rfl ?_
    refine XS.iloadN Xp27.here hx rfl (hb hby d5_23) rfl ?_
    refine stp31 _ ?_
    show Sp p e below Tp31 (mkF m 27 #[.val (.ref a), .val (.ref ls), .val (.int t)] []) _
    exact Xp31.returnOut hx hret (hb hby d5_27) hlv
  · show Q_trinit1 Z a t ls mc ed ked x0 p0 g0 z1 vs1 z2 vs2 aD kD aL aC h0 n0 _ Tp31.heap _
    rw [ep31]
    exact ⟨bk2, kbk2, bk22, kbk22, rfl, Np31, K32, y_bk2, y_bk22, F33, F34, F35, F38, F39, F41, ne42⟩
def Q_trinit2 (Z : State) (a : Addr) (t : Int32) (ls : Addr) (mc : Int32) (ed : Addr) (ked : ClassId) (x0 : Addr) (x1 : Addr) (p0 : Int32) (p1 : Int32) (g0 : Int32) (g1 : Int32) (z1 : Int32) (vs1 : List Value) (z2 : Int32) (vs2 : List Value) (aD : Addr) (kD : ClassId) (aL : Addr) (aC : Addr) (h0 : Heap) (n0 : Nat) (v : Option Value) (h : Heap) (L : List Loc) : Prop := ∃ b1 : Addr, ∃ k1 : ClassId, ∃ b2 : Addr, ∃ k2 : ClassId, v = none ∧ Fr n0 L ∧ Keep h0 h [a] ∧ h0.size ≤ b1 ∧ h0.size ≤ b2 ∧ Fld Z h a S8 "positive" "[I" (.ref b1) ∧ Fld Z h a S8 "negative" "[I" (.ref b2) ∧ Exa Z h b1 "[I" ∧ Arv Z h b1 k1 .int z1 vs1 (.int (0 : Int32)) ∧ Exa Z h b2 "[I" ∧ Arv Z h b2 k2 .int z2 vs2 (.int (0 : Int32)) ∧ b1 ≠ b2
set_option maxRecDepth 65536 in
set_option maxHeartbeats 40000000 in
theorem rm_trinit2 (l : Launch) (Z : State) (a0 : Array Value) (hw : ∀ d ∈ tables_1, d.before a0 Z = true) (ws : List Jvm.Cond) (a : Addr) (t : Int32) (ls : Addr) (mc : Int32) (ed : Addr) (ked : ClassId) (x0 : Addr) (x1 : Addr) (p0 : Int32) (p1 : Int32) (g0 : Int32) (g1 : Int32) (z1 : Int32) (vs1 : List Value) (z2 : Int32) (vs2 : List Value) (aD : Addr) (kD : ClassId) (aL : Addr) (aC : Addr) (h0 : Heap) (n0 : Nat) (Z0 : n0 ≤ h0.size) (O0 : Old Z n0 h0) (f0 : Exa Z h0 ls S1) (f1 : Fld Z h0 ls S1 "elementData" S2 (.ref ed)) (f2 : Fld Z h0 ls S1 "size" "I" (.int (2 : Int32))) (f3 : Fld Z h0 ls S5 "modCount" "I" (.int mc)) (f4 : Arv Z h0 ed ked (.object S3) (10 : Int32) [(.ref x0), (.ref x1), .null, .null, .null, .null, .null, .null, .null, .null] .null) (f5 : Exa Z h0 x0 S6) (f6 : Fld Z h0 x0 S6 "proposition" "I" (.int p0)) (f7 : Fld Z h0 x0 S6 "negated" "Z" (.int g0)) (f8 : Exa Z h0 x1 S6) (f9 : Fld Z h0 x1 S6 "proposition" "I" (.int p1)) (f10 : Fld Z h0 x1 S6 "negated" "Z" (.int g1)) (f11 : Exa Z h0 a S8) (f12 : Fld Z h0 a S8 "positive" "[I" .null) (f13 : Fld Z h0 a S8 "negative" "[I" .null) (f14 : Fld Z h0 a S8 "target" "I" (.int (0 : Int32))) (SS : own_start Z aD kD aL aC) (ga : n0 ≤ a) (hg0 : g0 = 0 ∨ g0 = 1) (hg1 : g1 = 0 ∨ g1 = 1) (hvs1 : vs1 = own_f g0 (0 : Int32) p0 ++ own_f g1 (0 : Int32) p1) (hz1 : z1 = Int32.ofNat vs1.length) (hvs2 : vs2 = own_f g0 (1 : Int32) p0 ++ own_f g1 (1 : Int32) p1) (hz2 : z2 = Int32.ofNat vs2.length) :
    MetFree l Y35 (head1 (Jvm.Cond.code Y35 prog_25_method_1_code 3 none :: ws) ({ frames := 6, cells := 14, slots := 46, locals := 86 } : Room)) (fun A_ U => A_ = #[(.ref a), (.ref ls), (.int t)] ∧ Z.Warmed39 U.vm ∧ U.heap = h0) (fun _ _ _ _ _ => True) (fun _ U o_ U' => ∃ v_ L_, o_ = .returned v_ ∧ Q_trinit2 Z a t ls mc ed ked x0 x1 p0 p1 g0 g1 z1 vs1 z2 vs2 aD kD aL aC h0 n0 v_ U'.heap L_ ∧ FrameEnd U o_ U' L_ ({ frames := 6, cells := 14, slots := 46, locals := 86 } : Room).cells ({ frames := 6, cells := 14, slots := 46, locals := 86 } : Room).slots) := by
  refine MetFree.of_bodySF (plainFor_of_name pn_10) hisR ?_
  intro p e s m args below meth c s₁ Bd hml0 hP hK
  obtain ⟨rfl, hZ, hh⟩ := hP
  have hx := Bd.exec
  have hby := Bd.bytes
  have hml : c.maxLocals = 3 := hml0
  have hown : s.vm.findClass S8 = some m.cls := findClass_of_methodNamed Bd.named
  have hnm := (name_of_methodNamed Bd.named Bd.method).1
  have hret := Bd.returns
  have X0 : Stand p l e ({ frames := 6, cells := 14, slots := 46, locals := 86 } : Room) s m #[(.ref a), (.ref ls), (.int t)] below meth c s₁ [] 0 0 := Stand.of_body Bd
  have e0 : s₁.heap = h0 := by rw [← hh, Bd.state]; rfl
  have N0 := Fr.nil n0
  have pre0 : ∀ t_, Sp p e below s₁ (mkF m 0 #[.val (.ref a), .val (.ref ls), .val (.int t)] []) t_ → Sp p e below s₁ (entryFrame m #[(.ref a), (.ref ls), (.int t)] 3) t_ := fun t_ k_ => castTop (ef_5_RRI m a ls t) k_
  obtain ⟨S_DEF, V_DEF, S_LIT, E_LIT, O_LIT, S_HI, S_CA, C_CA⟩ := SS
  obtain ⟨Ti1, Xi1, ei1, sti1⟩ := initO X0 hx hZ hown (tw hw 32 rfl) (tw hw 19 rfl) (tw hw 20 rfl) e0 (g := (mkF m 1 #[.val (.ref a), .val (.ref ls), .val (.int t)] [(.ref a)])) rfl (by rw [hml]; rfl) rfl (hb hby d5_1) (by decide) (W := 0) (by show 2 * 0 + _ ≤ _; exact Nat.le_of_eq rfl) (by decide)
  obtain ⟨_, _, ⟨Tk2, Lk2, kk2, nk2⟩, -, Xk2, ⟨Lck2, hQk2, lk2, yk2, zk2⟩, stk2⟩ := Jvm.LawKit.callS Xi1 hx (y := Y30) hown (mvT hZ (tw hw 33 rfl)) (mvT hZ (tw hw 34 rfl)) (mvT hZ (tw hw 28 rfl)) (mvT hZ (tw hw 35 rfl)) (by decide) (backOf (W := 1) (rm_props2 l Z a0 hw [] ls mc ed ked x0 x1 p0 p1 g0 g1 (0 : Int32) z1 vs1 aD kD aL aC h0 n0 Z0 O0 f0 f1 f2 f3 f4 f5 f6 f7 f8 f9 f10 ⟨S_DEF, V_DEF, S_LIT, E_LIT, O_LIT, S_HI, S_CA, C_CA⟩ hg0 hg1 hvs1 hz1) hZ (tw hw 35 rfl) (tw hw 28 rfl) (by decide) (by decide)) (g := (mkF m 7 #[.val (.ref a), .val (.ref ls), .val (.int t)] [(.int (0 : Int32)), (.ref ls), (.ref a)])) rfl (by rw [hml]; rfl) (argsL := [(.ref ls), (.int (0 : Int32))]) (rest := [(.ref a)]) (lenOf pd__Ljava_util_Collection_Z__I rfl) rfl (by show 2 * 0 + _ ≤ _; exact Nat.le_of_eq rfl) (hb hby d5_7) (fun _ _ => ⟨rfl, ei1, (by decide : 0 + 7 ≤ _), (by decide : 0 + 23 ≤ _)⟩)
  dsimp only [Pt.U, Pt.locs, Pt.cells, Pt.slots] at Xk2 lk2 yk2 zk2 stk2 hQk2
  subst lk2 yk2 zk2
  obtain ⟨bk2, kbk2, rfl, Nk2q, Kk2q, Gk2_0, Qk2_0, Qk2_1⟩ := hQk2
  have g_bk2 : n0 ≤ bk2 := Nat.le_trans Z0 Gk2_0
  have y_bk2 : h0.size ≤ bk2 := Nat.le_trans (Nat.le_refl h0.size) Gk2_0
  have K3 : Keep h0 Tk2.heap [a] := (Keep.refl h0 [a]).trans Kk2q all0
  have Nk2 := Fr.app N0 Nk2q
  have F4 := (f12.keep Kk2q nin0)
  have F5 := (f11.keep Kk2q)
  obtain ⟨Tp6, hp6, Xp6, ep6, Wp6, stp6⟩ := putF Xk2 hx hZ hown (host := "") (Or.inl (tw hw 87 rfl)) Via.refl rfl F4 F5 (Or.inr ⟨(tw hw 88 rfl), rfl, hnm⟩) (tw hw 27 rfl) (ty := (.array .int)) (by decide) rfl rfl (g := (mkF m 10 #[.val (.ref a), .val (.ref ls), .val (.int t)] [(.ref bk2), (.ref a)])) rfl rfl (hb hby d5_10)
  have Fwp6 : Fld Z hp6 a S8 "positive" "[I" (.ref bk2) := F4.same Wp6
  have Np6 := Fr.snoc Xp6 Nk2 ga
  have K7 : Keep h0 hp6 [a] := K3.wr Wp6 (Or.inl (List.mem_of_getElem? (i := 0) rfl))
  have F8 := ((f0.keep Kk2q).wr Wp6)
  have F10 := (F5.wr Wp6)
  have ne9 : ls ≠ a := ne_exa F8 F10 (by decide)
  have F11 := ((f1.keep Kk2q nin0).other Wp6 (Or.inl ne9))
  have F12 := ((f2.keep Kk2q nin0).other Wp6 (Or.inl ne9))
  have F13 := ((f3.keep Kk2q nin0).other Wp6 (Or.inl ne9))
  have ne14 : a ≠ ed := Exa.neArv f11 f4 (tw hw 27 rfl)
  have F15 := ((f4.keep Kk2q nin0).other Wp6 (Ne.symm ne14))
  have F16 := ((f5.keep Kk2q).wr Wp6)
  have ne17 : x0 ≠ a := ne_exa F16 F10 (by decide)
  have F18 := ((f6.keep Kk2q nin0).other Wp6 (Or.inl ne17))
  have F19 := ((f7.keep Kk2q nin0).other Wp6 (Or.inl ne17))
  have F20 := ((f8.keep Kk2q).wr Wp6)
  have ne21 : x1 ≠ a := ne_exa F20 F10 (by decide)
  have F22 := ((f9.keep Kk2q nin0).other Wp6 (Or.inl ne21))
  have F23 := ((f10.keep Kk2q nin0).other Wp6 (Or.inl ne21))
  have Z24 : n0 ≤ hp6.size := (Nat.le_trans (Nat.le_trans Z0 Kk2q.1) (Keep.of_wr Wp6).1)
  have O25 : Old Z n0 hp6 := ((O0.keep Kk2q all0).wr Wp6 ga)
  obtain ⟨_, _, ⟨Tk26, Lk26, kk26, nk26⟩, -, Xk26, ⟨Lck26, hQk26, lk26, yk26, zk26⟩, stk26⟩ := Jvm.LawKit.callS Xp6 hx (y := Y30) hown (mvT hZ (tw hw 33 rfl)) (mvT hZ (tw hw 34 rfl)) (mvT hZ (tw hw 28 rfl)) (mvT hZ (tw hw 35 rfl)) (by decide) (backOf (W := 1) (rm_props2 l Z a0 hw [] ls mc ed ked x0 x1 p0 p1 g0 g1 (1 : Int32) z2 vs2 aD kD aL aC hp6 n0 Z24 O25 F8 F11 F12 F13 F15 F16 F18 F19 F20 F22 F23 ⟨S_DEF, V_DEF, S_LIT, E_LIT, O_LIT, S_HI, S_CA, C_CA⟩ hg0 hg1 hvs2 hz2) hZ (tw hw 35 rfl) (tw hw 28 rfl) (by decide) (by decide)) (g := (mkF m 16 #[.val (.ref a), .val (.ref ls), .val (.int t)] [(.int (1 : Int32)), (.ref ls), (.ref a)])) rfl (by rw [hml]; rfl) (argsL := [(.ref ls), (.int (1 : Int32))]) (rest := [(.ref a)]) (lenOf pd__Ljava_util_Collection_Z__I rfl) rfl (by show 2 * 0 + _ ≤ _; exact Nat.le_of_eq rfl) (hb hby d5_16) (fun _ _ => ⟨rfl, ep6, (by decide : 7 + 7 ≤ _), (by decide : 23 + 23 ≤ _)⟩)
  dsimp only [Pt.U, Pt.locs, Pt.cells, Pt.slots] at Xk26 lk26 yk26 zk26 stk26 hQk26
  subst lk26 yk26 zk26
  obtain ⟨bk26, kbk26, rfl, Nk26q, Kk26q, Gk26_0, Qk26_0, Qk26_1⟩ := hQk26
  have Y27 : h0.size ≤ hp6.size := (Nat.le_trans (Nat.le_trans (Nat.le_refl h0.size) Kk2q.1) (Keep.of_wr Wp6).1)
  have g_bk26 : n0 ≤ bk26 := Nat.le_trans Z24 Gk26_0
  have y_bk26 : h0.size ≤ bk26 := Nat.le_trans Y27 Gk26_0
  have K28 : Keep h0 Tk26.heap [a] := K7.trans Kk26q all0
  have Nk26 := Fr.app Np6 Nk26q
  have F29 := (((f13.keep Kk2q nin0).other Wp6 (Or.inr (slot_ne (Or.inr (tw hw 90 rfl)) (Or.inr (tw hw 88 rfl)) (by decide) (t := (.array .int)) (t' := (.array .int)) (by decide) (by decide)))).keep Kk26q nin0)
  have F30 := (F10.keep Kk26q)
  obtain ⟨Tp31, hp31, Xp31, ep31, Wp31, stp31⟩ := putF Xk26 hx hZ hown (host := "") (Or.inl (tw hw 89 rfl)) Via.refl rfl F29 F30 (Or.inr ⟨(tw hw 90 rfl), rfl, hnm⟩) (tw hw 27 rfl) (ty := (.array .int)) (by decide) rfl rfl (g := (mkF m 19 #[.val (.ref a), .val (.ref ls), .val (.int t)] [(.ref bk26), (.ref a)])) rfl rfl (hb hby d5_19)
  have Fwp31 : Fld Z hp31 a S8 "negative" "[I" (.ref bk26) := F29.same Wp31
  have Np31 := Fr.snoc Xp31 Nk26 ga
  have K32 : Keep h0 hp31 [a] := K28.wr Wp31 (Or.inl (List.mem_of_getElem? (i := 0) rfl))
  have F33 := ((((f14.keep Kk2q nin0).other Wp6 (Or.inr (slot_ne (Or.inr (tw hw 92 rfl)) (Or.inr (tw hw 88 rfl)) (by decide) (t := .int) (t' := (.array .int)) (by decide) (by decide)))).keep Kk26q nin0).other Wp31 (Or.inr (slot_ne (Or.inr (tw hw 92 rfl)) (Or.inr (tw hw 90 rfl)) (by decide) (t := .int) (t' := (.array .int)) (by decide) (by decide))))
  have F34 := (F30.wr Wp31)
  obtain ⟨Tp35, hp35, Xp35, ep35, Wp35, stp35⟩ := putF Xp31 hx hZ hown (host := "") (Or.inl (tw hw 91 rfl)) Via.refl ep31 F33 F34 (Or.inr ⟨(tw hw 92 rfl), rfl, hnm⟩) (tw hw 27 rfl) (ty := .int) (by decide) rfl rfl (g := (mkF m 24 #[.val (.ref a), .val (.ref ls), .val (.int t)] [(.int t), (.ref a)])) rfl rfl (hb hby d5_24)
  have Fwp35 : Fld Z hp35 a S8 "target" "I" (.int t) := F33.same Wp35
  have Np35 := Fr.snoc Xp35 Np31 ga
  have K36 : Keep h0 hp35 [a] := K32.wr Wp35 (Or.inl (List.mem_of_getElem? (i := 0) rfl))
  have F37 := (((Fwp6.keep Kk26q nin0).other Wp31 (Or.inr (slot_ne (Or.inr (tw hw 88 rfl)) (Or.inr (tw hw 90 rfl)) (by decide) (t := (.array .int)) (t' := (.array .int)) (by decide) (by decide)))).other Wp35 (Or.inr (slot_ne (Or.inr (tw hw 88 rfl)) (Or.inr (tw hw 92 rfl)) (by decide) (t := (.array .int)) (t' := .int) (by decide) (by decide))))
  have F38 := (Fwp31.other Wp35 (Or.inr (slot_ne (Or.inr (tw hw 90 rfl)) (Or.inr (tw hw 92 rfl)) (by decide) (t := (.array .int)) (t' := .int) (by decide) (by decide))))
  have F39 := ((((Qk2_0.wr Wp6).keep Kk26q).wr Wp31).wr Wp35)
  have F41 := (F34.wr Wp35)
  have ne40 : bk2 ≠ a := ne_exa F39 F41 (by decide)
  have F42 := ((((Qk2_1.other Wp6 ne40).keep Kk26q nin0).other Wp31 ne40).other Wp35 ne40)
  have F43 := ((Qk26_0.wr Wp31).wr Wp35)
  have ne44 : bk26 ≠ a := ne_exa F43 F41 (by decide)
  have F45 := ((Qk26_1.other Wp31 ne44).other Wp35 ne44)
  have ne46 : bk2 ≠ bk26 := Nat.ne_of_lt (Nat.lt_of_lt_of_le (Nat.lt_of_lt_of_le Qk2_0.lt (Keep.of_wr Wp6).1) Gk26_0)
  obtain ⟨fs, hlv, hrun, hended, hW, hsame⟩ := Xp35.leave (v := none) (fun _ => rfl)
  refine ⟨_, _, pre0 _ ?_, hrun, hended, _, _, rfl, ?_, ⟨_, rfl⟩, hW, hsame.mono (by decide) (by decide)⟩
  · refine XS.aloadN X0.here hx rfl (hb hby d5_0) rfl rfl ?_
    show Sp p e below s₁ (mkF m 1 #[.val (.ref a), .val (.ref ls), .val (.int t)] [(.ref a)]) _
    refine sti1 _ ?_
    refine XS.aloadN Xi1.here hx rfl (hb hby d5_4) rfl rfl ?_
    refine XS.aloadN Xi1.here hx rfl (hb hby d5_5) rfl rfl ?_
    refine XS.iconst Xi1.here hx rfl (hb hby d5_6) ?_
    refine stk2 _ ?_
    refine stp6 _ ?_
    refine XS.aloadN Xp6.here hx rfl (hb hby d5_13) rfl rfl ?_
    refine XS.aloadN Xp6.here hx rfl (hb hby d5_14) rfl rfl ?_
    refine XS.iconst Xp6.here hx rfl (hb hby d5_15) ?_
    refine stk26 _ ?_
    refine stp31 _ ?_
    refine XS.aloadN Xp31.here hx rfl (hb hby d5_22) rfl rfl ?_
    refine XS.iloadN Xp31.here hx rfl (hb hby d5_23) rfl ?_
    refine stp35 _ ?_
    show Sp p e below Tp35 (mkF m 27 #[.val (.ref a), .val (.ref ls), .val (.int t)] []) _
    exact Xp35.returnOut hx hret (hb hby d5_27) hlv
  · show Q_trinit2 Z a t ls mc ed ked x0 x1 p0 p1 g0 g1 z1 vs1 z2 vs2 aD kD aL aC h0 n0 _ Tp35.heap _
    rw [ep35]
    exact ⟨bk2, kbk2, bk26, kbk26, rfl, Np35, K36, y_bk2, y_bk26, F37, F38, F39, F42, F43, F45, ne46⟩
def Q_trinit3 (Z : State) (a : Addr) (t : Int32) (ls : Addr) (mc : Int32) (ed : Addr) (ked : ClassId) (x0 : Addr) (x1 : Addr) (x2 : Addr) (p0 : Int32) (p1 : Int32) (p2 : Int32) (g0 : Int32) (g1 : Int32) (g2 : Int32) (z1 : Int32) (vs1 : List Value) (z2 : Int32) (vs2 : List Value) (aD : Addr) (kD : ClassId) (aL : Addr) (aC : Addr) (h0 : Heap) (n0 : Nat) (v : Option Value) (h : Heap) (L : List Loc) : Prop := ∃ b1 : Addr, ∃ k1 : ClassId, ∃ b2 : Addr, ∃ k2 : ClassId, v = none ∧ Fr n0 L ∧ Keep h0 h [a] ∧ h0.size ≤ b1 ∧ h0.size ≤ b2 ∧ Fld Z h a S8 "positive" "[I" (.ref b1) ∧ Fld Z h a S8 "negative" "[I" (.ref b2) ∧ Exa Z h b1 "[I" ∧ Arv Z h b1 k1 .int z1 vs1 (.int (0 : Int32)) ∧ Exa Z h b2 "[I" ∧ Arv Z h b2 k2 .int z2 vs2 (.int (0 : Int32)) ∧ b1 ≠ b2
set_option maxRecDepth 65536 in
set_option maxHeartbeats 40000000 in
theorem rm_trinit3 (l : Launch) (Z : State) (a0 : Array Value) (hw : ∀ d ∈ tables_1, d.before a0 Z = true) (ws : List Jvm.Cond) (a : Addr) (t : Int32) (ls : Addr) (mc : Int32) (ed : Addr) (ked : ClassId) (x0 : Addr) (x1 : Addr) (x2 : Addr) (p0 : Int32) (p1 : Int32) (p2 : Int32) (g0 : Int32) (g1 : Int32) (g2 : Int32) (z1 : Int32) (vs1 : List Value) (z2 : Int32) (vs2 : List Value) (aD : Addr) (kD : ClassId) (aL : Addr) (aC : Addr) (h0 : Heap) (n0 : Nat) (Z0 : n0 ≤ h0.size) (O0 : Old Z n0 h0) (f0 : Exa Z h0 ls S1) (f1 : Fld Z h0 ls S1 "elementData" S2 (.ref ed)) (f2 : Fld Z h0 ls S1 "size" "I" (.int (3 : Int32))) (f3 : Fld Z h0 ls S5 "modCount" "I" (.int mc)) (f4 : Arv Z h0 ed ked (.object S3) (10 : Int32) [(.ref x0), (.ref x1), (.ref x2), .null, .null, .null, .null, .null, .null, .null] .null) (f5 : Exa Z h0 x0 S6) (f6 : Fld Z h0 x0 S6 "proposition" "I" (.int p0)) (f7 : Fld Z h0 x0 S6 "negated" "Z" (.int g0)) (f8 : Exa Z h0 x1 S6) (f9 : Fld Z h0 x1 S6 "proposition" "I" (.int p1)) (f10 : Fld Z h0 x1 S6 "negated" "Z" (.int g1)) (f11 : Exa Z h0 x2 S6) (f12 : Fld Z h0 x2 S6 "proposition" "I" (.int p2)) (f13 : Fld Z h0 x2 S6 "negated" "Z" (.int g2)) (f14 : Exa Z h0 a S8) (f15 : Fld Z h0 a S8 "positive" "[I" .null) (f16 : Fld Z h0 a S8 "negative" "[I" .null) (f17 : Fld Z h0 a S8 "target" "I" (.int (0 : Int32))) (SS : own_start Z aD kD aL aC) (ga : n0 ≤ a) (hg0 : g0 = 0 ∨ g0 = 1) (hg1 : g1 = 0 ∨ g1 = 1) (hg2 : g2 = 0 ∨ g2 = 1) (hvs1 : vs1 = own_f g0 (0 : Int32) p0 ++ own_f g1 (0 : Int32) p1 ++ own_f g2 (0 : Int32) p2) (hz1 : z1 = Int32.ofNat vs1.length) (hvs2 : vs2 = own_f g0 (1 : Int32) p0 ++ own_f g1 (1 : Int32) p1 ++ own_f g2 (1 : Int32) p2) (hz2 : z2 = Int32.ofNat vs2.length) :
    MetFree l Y35 (head1 (Jvm.Cond.code Y35 prog_25_method_1_code 3 none :: ws) ({ frames := 6, cells := 14, slots := 46, locals := 86 } : Room)) (fun A_ U => A_ = #[(.ref a), (.ref ls), (.int t)] ∧ Z.Warmed39 U.vm ∧ U.heap = h0) (fun _ _ _ _ _ => True) (fun _ U o_ U' => ∃ v_ L_, o_ = .returned v_ ∧ Q_trinit3 Z a t ls mc ed ked x0 x1 x2 p0 p1 p2 g0 g1 g2 z1 vs1 z2 vs2 aD kD aL aC h0 n0 v_ U'.heap L_ ∧ FrameEnd U o_ U' L_ ({ frames := 6, cells := 14, slots := 46, locals := 86 } : Room).cells ({ frames := 6, cells := 14, slots := 46, locals := 86 } : Room).slots) := by
  refine MetFree.of_bodySF (plainFor_of_name pn_10) hisR ?_
  intro p e s m args below meth c s₁ Bd hml0 hP hK
  obtain ⟨rfl, hZ, hh⟩ := hP
  have hx := Bd.exec
  have hby := Bd.bytes
  have hml : c.maxLocals = 3 := hml0
  have hown : s.vm.findClass S8 = some m.cls := findClass_of_methodNamed Bd.named
  have hnm := (name_of_methodNamed Bd.named Bd.method).1
  have hret := Bd.returns
  have X0 : Stand p l e ({ frames := 6, cells := 14, slots := 46, locals := 86 } : Room) s m #[(.ref a), (.ref ls), (.int t)] below meth c s₁ [] 0 0 := Stand.of_body Bd
  have e0 : s₁.heap = h0 := by rw [← hh, Bd.state]; rfl
  have N0 := Fr.nil n0
  have pre0 : ∀ t_, Sp p e below s₁ (mkF m 0 #[.val (.ref a), .val (.ref ls), .val (.int t)] []) t_ → Sp p e below s₁ (entryFrame m #[(.ref a), (.ref ls), (.int t)] 3) t_ := fun t_ k_ => castTop (ef_5_RRI m a ls t) k_
  obtain ⟨S_DEF, V_DEF, S_LIT, E_LIT, O_LIT, S_HI, S_CA, C_CA⟩ := SS
  obtain ⟨Ti1, Xi1, ei1, sti1⟩ := initO X0 hx hZ hown (tw hw 32 rfl) (tw hw 19 rfl) (tw hw 20 rfl) e0 (g := (mkF m 1 #[.val (.ref a), .val (.ref ls), .val (.int t)] [(.ref a)])) rfl (by rw [hml]; rfl) rfl (hb hby d5_1) (by decide) (W := 0) (by show 2 * 0 + _ ≤ _; exact Nat.le_of_eq rfl) (by decide)
  obtain ⟨_, _, ⟨Tk2, Lk2, kk2, nk2⟩, -, Xk2, ⟨Lck2, hQk2, lk2, yk2, zk2⟩, stk2⟩ := Jvm.LawKit.callS Xi1 hx (y := Y30) hown (mvT hZ (tw hw 33 rfl)) (mvT hZ (tw hw 34 rfl)) (mvT hZ (tw hw 28 rfl)) (mvT hZ (tw hw 35 rfl)) (by decide) (backOf (W := 1) (rm_props3 l Z a0 hw [] ls mc ed ked x0 x1 x2 p0 p1 p2 g0 g1 g2 (0 : Int32) z1 vs1 aD kD aL aC h0 n0 Z0 O0 f0 f1 f2 f3 f4 f5 f6 f7 f8 f9 f10 f11 f12 f13 ⟨S_DEF, V_DEF, S_LIT, E_LIT, O_LIT, S_HI, S_CA, C_CA⟩ hg0 hg1 hg2 hvs1 hz1) hZ (tw hw 35 rfl) (tw hw 28 rfl) (by decide) (by decide)) (g := (mkF m 7 #[.val (.ref a), .val (.ref ls), .val (.int t)] [(.int (0 : Int32)), (.ref ls), (.ref a)])) rfl (by rw [hml]; rfl) (argsL := [(.ref ls), (.int (0 : Int32))]) (rest := [(.ref a)]) (lenOf pd__Ljava_util_Collection_Z__I rfl) rfl (by show 2 * 0 + _ ≤ _; exact Nat.le_of_eq rfl) (hb hby d5_7) (fun _ _ => ⟨rfl, ei1, (by decide : 0 + 7 ≤ _), (by decide : 0 + 23 ≤ _)⟩)
  dsimp only [Pt.U, Pt.locs, Pt.cells, Pt.slots] at Xk2 lk2 yk2 zk2 stk2 hQk2
  subst lk2 yk2 zk2
  obtain ⟨bk2, kbk2, rfl, Nk2q, Kk2q, Gk2_0, Qk2_0, Qk2_1⟩ := hQk2
  have g_bk2 : n0 ≤ bk2 := Nat.le_trans Z0 Gk2_0
  have y_bk2 : h0.size ≤ bk2 := Nat.le_trans (Nat.le_refl h0.size) Gk2_0
  have K3 : Keep h0 Tk2.heap [a] := (Keep.refl h0 [a]).trans Kk2q all0
  have Nk2 := Fr.app N0 Nk2q
  have F4 := (f15.keep Kk2q nin0)
  have F5 := (f14.keep Kk2q)
  obtain ⟨Tp6, hp6, Xp6, ep6, Wp6, stp6⟩ := putF Xk2 hx hZ hown (host := "") (Or.inl (tw hw 87 rfl)) Via.refl rfl F4 F5 (Or.inr ⟨(tw hw 88 rfl), rfl, hnm⟩) (tw hw 27 rfl) (ty := (.array .int)) (by decide) rfl rfl (g := (mkF m 10 #[.val (.ref a), .val (.ref ls), .val (.int t)] [(.ref bk2), (.ref a)])) rfl rfl (hb hby d5_10)
  have Fwp6 : Fld Z hp6 a S8 "positive" "[I" (.ref bk2) := F4.same Wp6
  have Np6 := Fr.snoc Xp6 Nk2 ga
  have K7 : Keep h0 hp6 [a] := K3.wr Wp6 (Or.inl (List.mem_of_getElem? (i := 0) rfl))
  have F8 := ((f0.keep Kk2q).wr Wp6)
  have F10 := (F5.wr Wp6)
  have ne9 : ls ≠ a := ne_exa F8 F10 (by decide)
  have F11 := ((f1.keep Kk2q nin0).other Wp6 (Or.inl ne9))
  have F12 := ((f2.keep Kk2q nin0).other Wp6 (Or.inl ne9))
  have F13 := ((f3.keep Kk2q nin0).other Wp6 (Or.inl ne9))
  have ne14 : a ≠ ed := Exa.neArv f14 f4 (tw hw 27 rfl)
  have F15 := ((f4.keep Kk2q nin0).other Wp6 (Ne.symm ne14))
  have F16 := ((f5.keep Kk2q).wr Wp6)
  have ne17 : x0 ≠ a := ne_exa F16 F10 (by decide)
  have F18 := ((f6.keep Kk2q nin0).other Wp6 (Or.inl ne17))
  have F19 := ((f7.keep Kk2q nin0).other Wp6 (Or.inl ne17))
  have F20 := ((f8.keep Kk2q).wr Wp6)
  have ne21 : x1 ≠ a := ne_exa F20 F10 (by decide)
  have F22 := ((f9.keep Kk2q nin0).other Wp6 (Or.inl ne21))
  have F23 := ((f10.keep Kk2q nin0).other Wp6 (Or.inl ne21))
  have F24 := ((f11.keep Kk2q).wr Wp6)
  have ne25 : x2 ≠ a := ne_exa F24 F10 (by decide)
  have F26 := ((f12.keep Kk2q nin0).other Wp6 (Or.inl ne25))
  have F27 := ((f13.keep Kk2q nin0).other Wp6 (Or.inl ne25))
  have Z28 : n0 ≤ hp6.size := (Nat.le_trans (Nat.le_trans Z0 Kk2q.1) (Keep.of_wr Wp6).1)
  have O29 : Old Z n0 hp6 := ((O0.keep Kk2q all0).wr Wp6 ga)
  obtain ⟨_, _, ⟨Tk30, Lk30, kk30, nk30⟩, -, Xk30, ⟨Lck30, hQk30, lk30, yk30, zk30⟩, stk30⟩ := Jvm.LawKit.callS Xp6 hx (y := Y30) hown (mvT hZ (tw hw 33 rfl)) (mvT hZ (tw hw 34 rfl)) (mvT hZ (tw hw 28 rfl)) (mvT hZ (tw hw 35 rfl)) (by decide) (backOf (W := 1) (rm_props3 l Z a0 hw [] ls mc ed ked x0 x1 x2 p0 p1 p2 g0 g1 g2 (1 : Int32) z2 vs2 aD kD aL aC hp6 n0 Z28 O29 F8 F11 F12 F13 F15 F16 F18 F19 F20 F22 F23 F24 F26 F27 ⟨S_DEF, V_DEF, S_LIT, E_LIT, O_LIT, S_HI, S_CA, C_CA⟩ hg0 hg1 hg2 hvs2 hz2) hZ (tw hw 35 rfl) (tw hw 28 rfl) (by decide) (by decide)) (g := (mkF m 16 #[.val (.ref a), .val (.ref ls), .val (.int t)] [(.int (1 : Int32)), (.ref ls), (.ref a)])) rfl (by rw [hml]; rfl) (argsL := [(.ref ls), (.int (1 : Int32))]) (rest := [(.ref a)]) (lenOf pd__Ljava_util_Collection_Z__I rfl) rfl (by show 2 * 0 + _ ≤ _; exact Nat.le_of_eq rfl) (hb hby d5_16) (fun _ _ => ⟨rfl, ep6, (by decide : 7 + 7 ≤ _), (by decide : 23 + 23 ≤ _)⟩)
  dsimp only [Pt.U, Pt.locs, Pt.cells, Pt.slots] at Xk30 lk30 yk30 zk30 stk30 hQk30
  subst lk30 yk30 zk30
  obtain ⟨bk30, kbk30, rfl, Nk30q, Kk30q, Gk30_0, Qk30_0, Qk30_1⟩ := hQk30
  have Y31 : h0.size ≤ hp6.size := (Nat.le_trans (Nat.le_trans (Nat.le_refl h0.size) Kk2q.1) (Keep.of_wr Wp6).1)
  have g_bk30 : n0 ≤ bk30 := Nat.le_trans Z28 Gk30_0
  have y_bk30 : h0.size ≤ bk30 := Nat.le_trans Y31 Gk30_0
  have K32 : Keep h0 Tk30.heap [a] := K7.trans Kk30q all0
  have Nk30 := Fr.app Np6 Nk30q
  have F33 := (((f16.keep Kk2q nin0).other Wp6 (Or.inr (slot_ne (Or.inr (tw hw 90 rfl)) (Or.inr (tw hw 88 rfl)) (by decide) (t := (.array .int)) (t' := (.array .int)) (by decide) (by decide)))).keep Kk30q nin0)
  have F34 := (F10.keep Kk30q)
  obtain ⟨Tp35, hp35, Xp35, ep35, Wp35, stp35⟩ := putF Xk30 hx hZ hown (host := "") (Or.inl (tw hw 89 rfl)) Via.refl rfl F33 F34 (Or.inr ⟨(tw hw 90 rfl), rfl, hnm⟩) (tw hw 27 rfl) (ty := (.array .int)) (by decide) rfl rfl (g := (mkF m 19 #[.val (.ref a), .val (.ref ls), .val (.int t)] [(.ref bk30), (.ref a)])) rfl rfl (hb hby d5_19)
  have Fwp35 : Fld Z hp35 a S8 "negative" "[I" (.ref bk30) := F33.same Wp35
  have Np35 := Fr.snoc Xp35 Nk30 ga
  have K36 : Keep h0 hp35 [a] := K32.wr Wp35 (Or.inl (List.mem_of_getElem? (i := 0) rfl))
  have F37 := ((((f17.keep Kk2q nin0).other Wp6 (Or.inr (slot_ne (Or.inr (tw hw 92 rfl)) (Or.inr (tw hw 88 rfl)) (by decide) (t := .int) (t' := (.array .int)) (by decide) (by decide)))).keep Kk30q nin0).other Wp35 (Or.inr (slot_ne (Or.inr (tw hw 92 rfl)) (Or.inr (tw hw 90 rfl)) (by decide) (t := .int) (t' := (.array .int)) (by decide) (by decide))))
  have F38 := (F34.wr Wp35)
  obtain ⟨Tp39, hp39, Xp39, ep39, Wp39, stp39⟩ := putF Xp35 hx hZ hown (host := "") (Or.inl (tw hw 91 rfl)) Via.refl ep35 F37 F38 (Or.inr ⟨(tw hw 92 rfl), rfl, hnm⟩) (tw hw 27 rfl) (ty := .int) (by decide) rfl rfl (g := (mkF m 24 #[.val (.ref a), .val (.ref ls), .val (.int t)] [(.int t), (.ref a)])) rfl rfl (hb hby d5_24)
  have Fwp39 : Fld Z hp39 a S8 "target" "I" (.int t) := F37.same Wp39
  have Np39 := Fr.snoc Xp39 Np35 ga
  have K40 : Keep h0 hp39 [a] := K36.wr Wp39 (Or.inl (List.mem_of_getElem? (i := 0) rfl))
  have F41 := (((Fwp6.keep Kk30q nin0).other Wp35 (Or.inr (slot_ne (Or.inr (tw hw 88 rfl)) (Or.inr (tw hw 90 rfl)) (by decide) (t := (.array .int)) (t' := (.array .int)) (by decide) (by decide)))).other Wp39 (Or.inr (slot_ne (Or.inr (tw hw 88 rfl)) (Or.inr (tw hw 92 rfl)) (by decide) (t := (.array .int)) (t' := .int) (by decide) (by decide))))
  have F42 := (Fwp35.other Wp39 (Or.inr (slot_ne (Or.inr (tw hw 90 rfl)) (Or.inr (tw hw 92 rfl)) (by decide) (t := (.array .int)) (t' := .int) (by decide) (by decide))))
  have F43 := ((((Qk2_0.wr Wp6).keep Kk30q).wr Wp35).wr Wp39)
  have F45 := (F38.wr Wp39)
  have ne44 : bk2 ≠ a := ne_exa F43 F45 (by decide)
  have F46 := ((((Qk2_1.other Wp6 ne44).keep Kk30q nin0).other Wp35 ne44).other Wp39 ne44)
  have F47 := ((Qk30_0.wr Wp35).wr Wp39)
  have ne48 : bk30 ≠ a := ne_exa F47 F45 (by decide)
  have F49 := ((Qk30_1.other Wp35 ne48).other Wp39 ne48)
  have ne50 : bk2 ≠ bk30 := Nat.ne_of_lt (Nat.lt_of_lt_of_le (Nat.lt_of_lt_of_le Qk2_0.lt (Keep.of_wr Wp6).1) Gk30_0)
  obtain ⟨fs, hlv, hrun, hended, hW, hsame⟩ := Xp39.leave (v := none) (fun _ => rfl)
  refine ⟨_, _, pre0 _ ?_, hrun, hended, _, _, rfl, ?_, ⟨_, rfl⟩, hW, hsame.mono (by decide) (by decide)⟩
  · refine XS.aloadN X0.here hx rfl (hb hby d5_0) rfl rfl ?_
    show Sp p e below s₁ (mkF m 1 #[.val (.ref a), .val (.ref ls), .val (.int t)] [(.ref a)]) _
    refine sti1 _ ?_
    refine XS.aloadN Xi1.here hx rfl (hb hby d5_4) rfl rfl ?_
    refine XS.aloadN Xi1.here hx rfl (hb hby d5_5) rfl rfl ?_
    refine XS.iconst Xi1.here hx rfl (hb hby d5_6) ?_
    refine stk2 _ ?_
    refine stp6 _ ?_
    refine XS.aloadN Xp6.here hx rfl (hb hby d5_13) rfl rfl ?_
    refine XS.aloadN Xp6.here hx rfl (hb hby d5_14) rfl rfl ?_
    refine XS.iconst Xp6.here hx rfl (hb hby d5_15) ?_
    refine stk30 _ ?_
    refine stp35 _ ?_
    refine XS.aloadN Xp35.here hx rfl (hb hby d5_22) rfl rfl ?_
    refine XS.iloadN Xp35.here hx rfl (hb hby d5_23) rfl ?_
    refine stp39 _ ?_
    show Sp p e below Tp39 (mkF m 27 #[.val (.ref a), .val (.ref ls), .val (.int t)] []) _
    exact Xp39.returnOut hx hret (hb hby d5_27) hlv
  · show Q_trinit3 Z a t ls mc ed ked x0 x1 x2 p0 p1 p2 g0 g1 g2 z1 vs1 z2 vs2 aD kD aL aC h0 n0 _ Tp39.heap _
    rw [ep39]
    exact ⟨bk2, kbk2, bk30, kbk30, rfl, Np39, K40, y_bk2, y_bk30, F41, F42, F43, F46, F47, F49, ne50⟩
theorem d11_0 : decode prog_25_method_5_code 0 = .ok (.iload_n 1, 1) := by decide +kernel
theorem d11_1 : decode prog_25_method_5_code 1 = .ok (.ifCond .eq 10, 3) := by decide +kernel
theorem d11_4 : decode prog_25_method_5_code 4 = .ok (.aload_n 0, 1) := by decide +kernel
theorem d11_5 : decode prog_25_method_5_code 5 = .ok (.getfield 13, 3) := by decide +kernel
theorem d11_8 : decode prog_25_method_5_code 8 = .ok (.goto 7, 3) := by decide +kernel
theorem d11_11 : decode prog_25_method_5_code 11 = .ok (.aload_n 0, 1) := by decide +kernel
theorem d11_12 : decode prog_25_method_5_code 12 = .ok (.getfield 17, 3) := by decide +kernel
theorem d11_15 : decode prog_25_method_5_code 15 = .ok (.invokevirtual 83, 3) := by decide +kernel
theorem d11_18 : decode prog_25_method_5_code 18 = .ok (.checkcast 84, 3) := by decide +kernel
theorem d11_21 : decode prog_25_method_5_code 21 = .ok (.areturn, 1) := by decide +kernel
theorem ef_11_RI (m : MethodId) (x0 : Addr) (x1 : Int32) : entryFrame m #[(.ref x0), (.int x1)] 2 = mkF m 0 #[.val (.ref x0), .val (.int x1)] [] := by first | (simp [entryFrame, mkF, argsToLocals, Value.category]; done) | rfl
def Q_lits1 (Z : State) (a : Addr) (b : Addr) (k : ClassId) (z : Int32) (vs : List Value) (h0 : Heap) (n0 : Nat) (v : Option Value) (h : Heap) (L : List Loc) : Prop := ∃ c_ : Addr, v = some (.ref c_) ∧ Fr n0 L ∧ Keep h0 h [] ∧ h0.size ≤ c_ ∧ Exa Z h c_ "[I" ∧ Arv Z h c_ k .int z vs (.int (0 : Int32))
set_option maxRecDepth 65536 in
set_option maxHeartbeats 40000000 in
theorem rm_lits1 (l : Launch) (Z : State) (a0 : Array Value) (hw : ∀ d ∈ tables_1, d.before a0 Z = true) (ws : List Jvm.Cond) (a : Addr) (b : Addr) (k : ClassId) (z : Int32) (vs : List Value) (h0 : Heap) (n0 : Nat) (Z0 : n0 ≤ h0.size) (O0 : Old Z n0 h0) (f0 : Exa Z h0 a S8) (f1 : Fld Z h0 a S8 "positive" "[I" (.ref b)) (f2 : Exa Z h0 b "[I") (f3 : Arv Z h0 b k .int z vs (.int (0 : Int32))) (hz3 : z.toNatClampNeg ≤ 3) :
    MetFree l Y36 (head1 (Jvm.Cond.code Y36 prog_25_method_5_code 2 (some (.array .int)) :: ws) ({ frames := 1, cells := 1, slots := 3, locals := 14 } : Room)) (fun A_ U => A_ = #[(.ref a), (.int (1 : Int32))] ∧ Z.Warmed39 U.vm ∧ U.heap = h0) (fun _ _ _ _ _ => True) (fun _ U o_ U' => ∃ v_ L_, o_ = .returned v_ ∧ Q_lits1 Z a b k z vs h0 n0 v_ U'.heap L_ ∧ FrameEnd U o_ U' L_ ({ frames := 1, cells := 1, slots := 3, locals := 14 } : Room).cells ({ frames := 1, cells := 1, slots := 3, locals := 14 } : Room).slots) := by
  refine MetFree.of_bodySF (plainFor_of_name pn_10) hisR ?_
  intro p e s m args below meth c s₁ Bd hml0 hP hK
  obtain ⟨rfl, hZ, hh⟩ := hP
  have hx := Bd.exec
  have hby := Bd.bytes
  have hml : c.maxLocals = 2 := hml0
  have hown : s.vm.findClass S8 = some m.cls := findClass_of_methodNamed Bd.named
  have hnm := (name_of_methodNamed Bd.named Bd.method).1
  have hret := Bd.returns
  have X0 : Stand p l e ({ frames := 1, cells := 1, slots := 3, locals := 14 } : Room) s m #[(.ref a), (.int (1 : Int32))] below meth c s₁ [] 0 0 := Stand.of_body Bd
  have e0 : s₁.heap = h0 := by rw [← hh, Bd.state]; rfl
  have N0 := Fr.nil n0
  have pre0 : ∀ t_, Sp p e below s₁ (mkF m 0 #[.val (.ref a), .val (.int (1 : Int32))] []) t_ → Sp p e below s₁ (entryFrame m #[(.ref a), (.int (1 : Int32))] 2) t_ := fun t_ k_ => castTop (ef_11_RI m a (1 : Int32)) k_
  obtain ⟨Tf1, Xf1, ef1, stf1⟩ := getF X0 hx hZ hown (host := "") (Or.inl (tw hw 87 rfl)) Via.refl e0 f1 (g := (mkF m 5 #[.val (.ref a), .val (.int (1 : Int32))] [(.ref a)])) rfl rfl (hb hby d11_5)
  obtain ⟨clv3, Arv3, qv3, Sv3, Nv3, Hv3, Gv3⟩ := id f3
  obtain ⟨Tc2, hc2, Xc2, ec2, Ec2, Ac2, Bc2, stc2⟩ := cloneA Xf1 hx hZ (ad := "[I") hown (tw hw 98 rfl) (tw hw 99 rfl) (tw hw 103 rfl) (tw hw 101 rfl) (tw hw 102 rfl) (tw hw 104 rfl) ef1 Arv3 f2 (own_fitc Arv3 Hv3 Gv3) (g := (mkF m 15 #[.val (.ref a), .val (.int (1 : Int32))] [(.ref b)])) rfl (by rw [hml]; rfl) rfl (hb hby d11_15) (by decide) (W := 0) (by show 2 * 0 + _ ≤ _; exact Nat.le_of_eq rfl) (by decide) (cap := 3) (Sv3 ▸ hz3) (by decide) (by decide)
  obtain ⟨bc2, gc2⟩ : ∃ z, z = h0.size := ⟨_, rfl⟩
  rw [← gc2] at Ac2 Bc2 stc2
  have g_bc2 : n0 ≤ bc2 := Nat.le_trans Z0 (Nat.le_of_eq gc2.symm)
  have y_bc2 : h0.size ≤ bc2 := Nat.le_trans (Nat.le_refl h0.size) (Nat.le_of_eq gc2.symm)
  have Vc2 : Arv Z hc2 bc2 k .int z vs (.int (0 : Int32)) := ⟨_, Ac2, qv3, Sv3, Nv3, Hv3, Gv3⟩
  have K4 : Keep h0 hc2 [] := (Keep.refl h0 []).ext Ec2
  obtain ⟨Tx5, Xx5, ex5, stx5⟩ := castY Xc2 hx hZ hown (tw hw 105 rfl) ec2 (Ins.self Bc2) (g := (mkF m 18 #[.val (.ref a), .val (.int (1 : Int32))] [(.ref bc2)])) rfl rfl (hb hby d11_18)
  obtain ⟨fs, hlv, hrun, hended, hW, hsame⟩ := Xx5.leave (v := some (.ref bc2)) (fun h => by rw [hret] at h; cases h)
  refine ⟨_, _, pre0 _ ?_, hrun, hended, _, _, rfl, ?_, ⟨_, rfl⟩, hW, hsame.mono (by decide) (by decide)⟩
  · refine XS.iloadN X0.here hx rfl (hb hby d11_0) rfl ?_
    show Sp p e below s₁ (mkF m 1 #[.val (.ref a), .val (.int (1 : Int32))] [(.int (1 : Int32))]) _
    refine XS.ifNo X0.here hx rfl (hb hby d11_1) rfl ((if0 _ _).trans (feq (by decide : ¬ ((1 : Int32) = (0 : Int32)))).1) ?_
    refine XS.aloadN X0.here hx rfl (hb hby d11_4) rfl rfl ?_
    refine stf1 _ ?_
    refine XS.goto Xf1.here hx rfl (pc0 := 8) (pc' := 15) rfl (hb hby d11_8) (by decide) (by decide) ?_
    refine stc2 _ ?_
    refine stx5 _ ?_
    show Sp p e below Tx5 (mkF m 21 #[.val (.ref a), .val (.int (1 : Int32))] [(.ref bc2)]) _
    jvm_step Xx5.here [Xx5.here.top, hx, (hb hby d11_21), Xx5.method', hret, Value.isRef, FieldType.isReference]
    first | (intro acts; rw [hlv _ acts rfl rfl rfl]) | rw [hlv _ _ rfl rfl rfl]
    exact Steps.refl _
  · show Q_lits1 Z a b k z vs h0 n0 _ Tx5.heap _
    rw [ex5]
    exact ⟨bc2, rfl, N0, K4, y_bc2, Bc2, Vc2⟩
def Q_lits0 (Z : State) (a : Addr) (b : Addr) (k : ClassId) (z : Int32) (vs : List Value) (h0 : Heap) (n0 : Nat) (v : Option Value) (h : Heap) (L : List Loc) : Prop := ∃ c_ : Addr, v = some (.ref c_) ∧ Fr n0 L ∧ Keep h0 h [] ∧ h0.size ≤ c_ ∧ Exa Z h c_ "[I" ∧ Arv Z h c_ k .int z vs (.int (0 : Int32))
set_option maxRecDepth 65536 in
set_option maxHeartbeats 40000000 in
theorem rm_lits0 (l : Launch) (Z : State) (a0 : Array Value) (hw : ∀ d ∈ tables_1, d.before a0 Z = true) (ws : List Jvm.Cond) (a : Addr) (b : Addr) (k : ClassId) (z : Int32) (vs : List Value) (h0 : Heap) (n0 : Nat) (Z0 : n0 ≤ h0.size) (O0 : Old Z n0 h0) (f0 : Exa Z h0 a S8) (f1 : Fld Z h0 a S8 "negative" "[I" (.ref b)) (f2 : Exa Z h0 b "[I") (f3 : Arv Z h0 b k .int z vs (.int (0 : Int32))) (hz3 : z.toNatClampNeg ≤ 3) :
    MetFree l Y36 (head1 (Jvm.Cond.code Y36 prog_25_method_5_code 2 (some (.array .int)) :: ws) ({ frames := 1, cells := 1, slots := 3, locals := 14 } : Room)) (fun A_ U => A_ = #[(.ref a), (.int (0 : Int32))] ∧ Z.Warmed39 U.vm ∧ U.heap = h0) (fun _ _ _ _ _ => True) (fun _ U o_ U' => ∃ v_ L_, o_ = .returned v_ ∧ Q_lits0 Z a b k z vs h0 n0 v_ U'.heap L_ ∧ FrameEnd U o_ U' L_ ({ frames := 1, cells := 1, slots := 3, locals := 14 } : Room).cells ({ frames := 1, cells := 1, slots := 3, locals := 14 } : Room).slots) := by
  refine MetFree.of_bodySF (plainFor_of_name pn_10) hisR ?_
  intro p e s m args below meth c s₁ Bd hml0 hP hK
  obtain ⟨rfl, hZ, hh⟩ := hP
  have hx := Bd.exec
  have hby := Bd.bytes
  have hml : c.maxLocals = 2 := hml0
  have hown : s.vm.findClass S8 = some m.cls := findClass_of_methodNamed Bd.named
  have hnm := (name_of_methodNamed Bd.named Bd.method).1
  have hret := Bd.returns
  have X0 : Stand p l e ({ frames := 1, cells := 1, slots := 3, locals := 14 } : Room) s m #[(.ref a), (.int (0 : Int32))] below meth c s₁ [] 0 0 := Stand.of_body Bd
  have e0 : s₁.heap = h0 := by rw [← hh, Bd.state]; rfl
  have N0 := Fr.nil n0
  have pre0 : ∀ t_, Sp p e below s₁ (mkF m 0 #[.val (.ref a), .val (.int (0 : Int32))] []) t_ → Sp p e below s₁ (entryFrame m #[(.ref a), (.int (0 : Int32))] 2) t_ := fun t_ k_ => castTop (ef_11_RI m a (0 : Int32)) k_
  obtain ⟨Tf1, Xf1, ef1, stf1⟩ := getF X0 hx hZ hown (host := "") (Or.inl (tw hw 89 rfl)) Via.refl e0 f1 (g := (mkF m 12 #[.val (.ref a), .val (.int (0 : Int32))] [(.ref a)])) rfl rfl (hb hby d11_12)
  obtain ⟨clv3, Arv3, qv3, Sv3, Nv3, Hv3, Gv3⟩ := id f3
  obtain ⟨Tc2, hc2, Xc2, ec2, Ec2, Ac2, Bc2, stc2⟩ := cloneA Xf1 hx hZ (ad := "[I") hown (tw hw 98 rfl) (tw hw 99 rfl) (tw hw 103 rfl) (tw hw 101 rfl) (tw hw 102 rfl) (tw hw 104 rfl) ef1 Arv3 f2 (own_fitc Arv3 Hv3 Gv3) (g := (mkF m 15 #[.val (.ref a), .val (.int (0 : Int32))] [(.ref b)])) rfl (by rw [hml]; rfl) rfl (hb hby d11_15) (by decide) (W := 0) (by show 2 * 0 + _ ≤ _; exact Nat.le_of_eq rfl) (by decide) (cap := 3) (Sv3 ▸ hz3) (by decide) (by decide)
  obtain ⟨bc2, gc2⟩ : ∃ z, z = h0.size := ⟨_, rfl⟩
  rw [← gc2] at Ac2 Bc2 stc2
  have g_bc2 : n0 ≤ bc2 := Nat.le_trans Z0 (Nat.le_of_eq gc2.symm)
  have y_bc2 : h0.size ≤ bc2 := Nat.le_trans (Nat.le_refl h0.size) (Nat.le_of_eq gc2.symm)
  have Vc2 : Arv Z hc2 bc2 k .int z vs (.int (0 : Int32)) := ⟨_, Ac2, qv3, Sv3, Nv3, Hv3, Gv3⟩
  have K4 : Keep h0 hc2 [] := (Keep.refl h0 []).ext Ec2
  obtain ⟨Tx5, Xx5, ex5, stx5⟩ := castY Xc2 hx hZ hown (tw hw 105 rfl) ec2 (Ins.self Bc2) (g := (mkF m 18 #[.val (.ref a), .val (.int (0 : Int32))] [(.ref bc2)])) rfl rfl (hb hby d11_18)
  obtain ⟨fs, hlv, hrun, hended, hW, hsame⟩ := Xx5.leave (v := some (.ref bc2)) (fun h => by rw [hret] at h; cases h)
  refine ⟨_, _, pre0 _ ?_, hrun, hended, _, _, rfl, ?_, ⟨_, rfl⟩, hW, hsame.mono (by decide) (by decide)⟩
  · refine XS.iloadN X0.here hx rfl (hb hby d11_0) rfl ?_
    show Sp p e below s₁ (mkF m 1 #[.val (.ref a), .val (.int (0 : Int32))] [(.int (0 : Int32))]) _
    refine XS.ifYes X0.here hx rfl (pc0 := 1) (pc' := 11) rfl (hb hby d11_1) rfl ((if0 _ _).trans (teq (by decide : (0 : Int32) = (0 : Int32))).1) (by decide) (by decide) ?_
    refine XS.aloadN X0.here hx rfl (hb hby d11_11) rfl rfl ?_
    refine stf1 _ ?_
    refine stc2 _ ?_
    refine stx5 _ ?_
    show Sp p e below Tx5 (mkF m 21 #[.val (.ref a), .val (.int (0 : Int32))] [(.ref bc2)]) _
    jvm_step Xx5.here [Xx5.here.top, hx, (hb hby d11_21), Xx5.method', hret, Value.isRef, FieldType.isReference]
    first | (intro acts; rw [hlv _ acts rfl rfl rfl]) | rw [hlv _ _ rfl rfl rfl]
    exact Steps.refl _
  · show Q_lits0 Z a b k z vs h0 n0 _ Tx5.heap _
    rw [ex5]
    exact ⟨bc2, rfl, N0, K4, y_bc2, Bc2, Vc2⟩
theorem d12_0 : decode method_3_code 0 = .ok (.iconst 3, 1) := by decide +kernel
theorem d12_1 : decode method_3_code 1 = .ok (.newarray .int, 2) := by decide +kernel
theorem d12_3 : decode method_3_code 3 = .ok (.astore 9, 2) := by decide +kernel
theorem d12_5 : decode method_3_code 5 = .ok (.iconst 0, 1) := by decide +kernel
theorem d12_6 : decode method_3_code 6 = .ok (.istore 10, 2) := by decide +kernel
theorem d12_8 : decode method_3_code 8 = .ok (.iload_n 1, 1) := by decide +kernel
theorem d12_9 : decode method_3_code 9 = .ok (.ifCond .le 19, 3) := by decide +kernel
theorem d12_12 : decode method_3_code 12 = .ok (.iload 5, 2) := by decide +kernel
theorem d12_14 : decode method_3_code 14 = .ok (.iload 8, 2) := by decide +kernel
theorem d12_16 : decode method_3_code 16 = .ok (.if_icmp .ne 12, 3) := by decide +kernel
theorem d12_19 : decode method_3_code 19 = .ok (.aload 9, 2) := by decide +kernel
theorem d12_21 : decode method_3_code 21 = .ok (.iload 10, 2) := by decide +kernel
theorem d12_23 : decode method_3_code 23 = .ok (.iload_n 2, 1) := by decide +kernel
theorem d12_24 : decode method_3_code 24 = .ok (.iastore, 1) := by decide +kernel
theorem d12_25 : decode method_3_code 25 = .ok (.iinc 10 1, 3) := by decide +kernel
theorem d12_28 : decode method_3_code 28 = .ok (.iload_n 1, 1) := by decide +kernel
theorem d12_29 : decode method_3_code 29 = .ok (.iconst 1, 1) := by decide +kernel
theorem d12_30 : decode method_3_code 30 = .ok (.if_icmp .le 19, 3) := by decide +kernel
theorem d12_33 : decode method_3_code 33 = .ok (.iload 6, 2) := by decide +kernel
theorem d12_35 : decode method_3_code 35 = .ok (.iload 8, 2) := by decide +kernel
theorem d12_37 : decode method_3_code 37 = .ok (.if_icmp .ne 12, 3) := by decide +kernel
theorem d12_40 : decode method_3_code 40 = .ok (.aload 9, 2) := by decide +kernel
theorem d12_42 : decode method_3_code 42 = .ok (.iload 10, 2) := by decide +kernel
theorem d12_44 : decode method_3_code 44 = .ok (.iload_n 3, 1) := by decide +kernel
theorem d12_45 : decode method_3_code 45 = .ok (.iastore, 1) := by decide +kernel
theorem d12_46 : decode method_3_code 46 = .ok (.iinc 10 1, 3) := by decide +kernel
theorem d12_49 : decode method_3_code 49 = .ok (.iload_n 1, 1) := by decide +kernel
theorem d12_50 : decode method_3_code 50 = .ok (.iconst 2, 1) := by decide +kernel
theorem d12_51 : decode method_3_code 51 = .ok (.if_icmp .le 20, 3) := by decide +kernel
theorem d12_54 : decode method_3_code 54 = .ok (.iload 7, 2) := by decide +kernel
theorem d12_56 : decode method_3_code 56 = .ok (.iload 8, 2) := by decide +kernel
theorem d12_58 : decode method_3_code 58 = .ok (.if_icmp .ne 13, 3) := by decide +kernel
theorem d12_61 : decode method_3_code 61 = .ok (.aload 9, 2) := by decide +kernel
theorem d12_63 : decode method_3_code 63 = .ok (.iload 10, 2) := by decide +kernel
theorem d12_65 : decode method_3_code 65 = .ok (.iload 4, 2) := by decide +kernel
theorem d12_67 : decode method_3_code 67 = .ok (.iastore, 1) := by decide +kernel
theorem d12_68 : decode method_3_code 68 = .ok (.iinc 10 1, 3) := by decide +kernel
theorem d12_71 : decode method_3_code 71 = .ok (.aload_n 0, 1) := by decide +kernel
theorem d12_72 : decode method_3_code 72 = .ok (.ifnull 62, 3) := by decide +kernel
theorem d12_75 : decode method_3_code 75 = .ok (.aload_n 0, 1) := by decide +kernel
theorem d12_76 : decode method_3_code 76 = .ok (.arraylength, 1) := by decide +kernel
theorem d12_77 : decode method_3_code 77 = .ok (.iload 10, 2) := by decide +kernel
theorem d12_79 : decode method_3_code 79 = .ok (.if_icmp .ne 55, 3) := by decide +kernel
theorem d12_82 : decode method_3_code 82 = .ok (.iload 10, 2) := by decide +kernel
theorem d12_84 : decode method_3_code 84 = .ok (.iconst 1, 1) := by decide +kernel
theorem d12_85 : decode method_3_code 85 = .ok (.if_icmp .lt 13, 3) := by decide +kernel
theorem d12_88 : decode method_3_code 88 = .ok (.aload_n 0, 1) := by decide +kernel
theorem d12_89 : decode method_3_code 89 = .ok (.iconst 0, 1) := by decide +kernel
theorem d12_90 : decode method_3_code 90 = .ok (.iaload, 1) := by decide +kernel
theorem d12_91 : decode method_3_code 91 = .ok (.aload 9, 2) := by decide +kernel
theorem d12_93 : decode method_3_code 93 = .ok (.iconst 0, 1) := by decide +kernel
theorem d12_94 : decode method_3_code 94 = .ok (.iaload, 1) := by decide +kernel
theorem d12_95 : decode method_3_code 95 = .ok (.if_icmp .ne 39, 3) := by decide +kernel
theorem d12_98 : decode method_3_code 98 = .ok (.iload 10, 2) := by decide +kernel
theorem d12_100 : decode method_3_code 100 = .ok (.iconst 2, 1) := by decide +kernel
theorem d12_101 : decode method_3_code 101 = .ok (.if_icmp .lt 13, 3) := by decide +kernel
theorem d12_104 : decode method_3_code 104 = .ok (.aload_n 0, 1) := by decide +kernel
theorem d12_105 : decode method_3_code 105 = .ok (.iconst 1, 1) := by decide +kernel
theorem d12_106 : decode method_3_code 106 = .ok (.iaload, 1) := by decide +kernel
theorem d12_107 : decode method_3_code 107 = .ok (.aload 9, 2) := by decide +kernel
theorem d12_109 : decode method_3_code 109 = .ok (.iconst 1, 1) := by decide +kernel
theorem d12_110 : decode method_3_code 110 = .ok (.iaload, 1) := by decide +kernel
theorem d12_111 : decode method_3_code 111 = .ok (.if_icmp .ne 23, 3) := by decide +kernel
theorem d12_114 : decode method_3_code 114 = .ok (.iload 10, 2) := by decide +kernel
theorem d12_116 : decode method_3_code 116 = .ok (.iconst 3, 1) := by decide +kernel
theorem d12_117 : decode method_3_code 117 = .ok (.if_icmp .lt 13, 3) := by decide +kernel
theorem d12_120 : decode method_3_code 120 = .ok (.aload_n 0, 1) := by decide +kernel
theorem d12_121 : decode method_3_code 121 = .ok (.iconst 2, 1) := by decide +kernel
theorem d12_122 : decode method_3_code 122 = .ok (.iaload, 1) := by decide +kernel
theorem d12_123 : decode method_3_code 123 = .ok (.aload 9, 2) := by decide +kernel
theorem d12_125 : decode method_3_code 125 = .ok (.iconst 2, 1) := by decide +kernel
theorem d12_126 : decode method_3_code 126 = .ok (.iaload, 1) := by decide +kernel
theorem d12_127 : decode method_3_code 127 = .ok (.if_icmp .ne 7, 3) := by decide +kernel
theorem d12_130 : decode method_3_code 130 = .ok (.iconst 1, 1) := by decide +kernel
theorem d12_131 : decode method_3_code 131 = .ok (.goto 4, 3) := by decide +kernel
theorem d12_135 : decode method_3_code 135 = .ok (.ireturn, 1) := by decide +kernel
theorem pn_11 : plainName "com/example/lassoo/lassoo/lang/TransitionLiteralsPinLaw" = true := by first | (simp [plainName, overriddenIn]; done) | decide +kernel
theorem ef_12_RIIIIIIII (m : MethodId) (x0 : Addr) (x1 : Int32) (x2 : Int32) (x3 : Int32) (x4 : Int32) (x5 : Int32) (x6 : Int32) (x7 : Int32) (x8 : Int32) : entryFrame m #[(.ref x0), (.int x1), (.int x2), (.int x3), (.int x4), (.int x5), (.int x6), (.int x7), (.int x8)] 11 = mkF m 0 #[.val (.ref x0), .val (.int x1), .val (.int x2), .val (.int x3), .val (.int x4), .val (.int x5), .val (.int x6), .val (.int x7), .val (.int x8), .unset, .unset] [] := by first | (simp [entryFrame, mkF, argsToLocals, Value.category]; done) | rfl
def Q_mat0 (Z : State) (a : Addr) (p0 : Int32) (p1 : Int32) (p2 : Int32) (g0 : Int32) (g1 : Int32) (g2 : Int32) (ng : Int32) (k : ClassId) (z : Int32) (vs : List Value) (h0 : Heap) (n0 : Nat) (v : Option Value) (h : Heap) (L : List Loc) : Prop := v = some (.int (1 : Int32)) ∧ Fr n0 L ∧ Keep h0 h []
set_option maxRecDepth 65536 in
set_option maxHeartbeats 40000000 in
theorem rm_mat0 (l : Launch) (Z : State) (a0 : Array Value) (hw : ∀ d ∈ tables_1, d.before a0 Z = true) (ws : List Jvm.Cond) (a : Addr) (p0 : Int32) (p1 : Int32) (p2 : Int32) (g0 : Int32) (g1 : Int32) (g2 : Int32) (ng : Int32) (k : ClassId) (z : Int32) (vs : List Value) (h0 : Heap) (n0 : Nat) (Z0 : n0 ≤ h0.size) (O0 : Old Z n0 h0) (f0 : Arv Z h0 a k .int z vs (.int (0 : Int32))) (hvs : vs = []) (hz : z = Int32.ofNat vs.length) :
    MetFree l Y37 (head1 (Jvm.Cond.code Y37 method_3_code 11 (some .boolean) :: ws) ({ frames := 0, cells := 1, slots := 3, locals := 0 } : Room)) (fun A_ U => A_ = #[(.ref a), (.int (0 : Int32)), (.int p0), (.int p1), (.int p2), (.int g0), (.int g1), (.int g2), (.int ng)] ∧ Z.Warmed39 U.vm ∧ U.heap = h0) (fun _ _ _ _ _ => True) (fun _ U o_ U' => ∃ v_ L_, o_ = .returned v_ ∧ Q_mat0 Z a p0 p1 p2 g0 g1 g2 ng k z vs h0 n0 v_ U'.heap L_ ∧ FrameEnd U o_ U' L_ ({ frames := 0, cells := 1, slots := 3, locals := 0 } : Room).cells ({ frames := 0, cells := 1, slots := 3, locals := 0 } : Room).slots) := by
  refine MetFree.of_bodySF (plainFor_of_name pn_11) hisR ?_
  intro p e s m args below meth c s₁ Bd hml0 hP hK
  obtain ⟨rfl, hZ, hh⟩ := hP
  have hx := Bd.exec
  have hby := Bd.bytes
  have hml : c.maxLocals = 11 := hml0
  have hown : s.vm.findClass "com/example/lassoo/lassoo/lang/TransitionLiteralsPinLaw" = some m.cls := findClass_of_methodNamed Bd.named
  have hnm := (name_of_methodNamed Bd.named Bd.method).1
  have hret := Bd.returns
  have X0 : Stand p l e ({ frames := 0, cells := 1, slots := 3, locals := 0 } : Room) s m #[(.ref a), (.int (0 : Int32)), (.int p0), (.int p1), (.int p2), (.int g0), (.int g1), (.int g2), (.int ng)] below meth c s₁ [] 0 0 := Stand.of_body Bd
  have e0 : s₁.heap = h0 := by rw [← hh, Bd.state]; rfl
  have N0 := Fr.nil n0
  have pre0 : ∀ t_, Sp p e below s₁ (mkF m 0 #[.val (.ref a), .val (.int (0 : Int32)), .val (.int p0), .val (.int p1), .val (.int p2), .val (.int g0), .val (.int g1), .val (.int g2), .val (.int ng), .unset, .unset] []) t_ → Sp p e below s₁ (entryFrame m #[(.ref a), (.int (0 : Int32)), (.int p0), (.int p1), (.int p2), (.int g0), (.int g1), (.int g2), (.int ng)] 11) t_ := fun t_ k_ => castTop (ef_12_RIIIIIIII m a (0 : Int32) p0 p1 p2 g0 g1 g2 ng) k_
  obtain ⟨Ta1, ha1, ka1, Xa1, ea1, Ea1, Aa1, Ba1, sta1⟩ := newPE X0 hx hZ (tw hw 86 rfl) e0 (g := (mkF m 1 #[.val (.ref a), .val (.int (0 : Int32)), .val (.int p0), .val (.int p1), .val (.int p2), .val (.int g0), .val (.int g1), .val (.int g2), .val (.int ng), .unset, .unset] [(.int (3 : Int32))])) rfl (hb hby d12_1) rfl (by decide) (cap := 3) (by decide) (by decide) (by decide) (by decide) (ad := "[I") (by decide)
  obtain ⟨ba1, ga1⟩ : ∃ z, z = h0.size := ⟨_, rfl⟩
  rw [← ga1] at Aa1 Ba1 sta1
  have g_ba1 : n0 ≤ ba1 := Nat.le_trans Z0 (Nat.le_of_eq ga1.symm)
  have y_ba1 : h0.size ≤ ba1 := Nat.le_trans (Nat.le_refl h0.size) (Nat.le_of_eq ga1.symm)
  have Va1 : Arv Z ha1 ba1 ka1 .int (3 : Int32) [(.int (0 : Int32)), (.int (0 : Int32)), (.int (0 : Int32))] (.int (0 : Int32)) := (Arv.new Aa1 (by decide)).pad (pad_rep [] (.int (0 : Int32)) 3)
  have K2 : Keep h0 ha1 [] := (Keep.refl h0 []).ext Ea1
  have F3 := (f0.keep K2 nin0)
  obtain ⟨clv4, Arv4, qv4, Sv4, Nv4, Hv4, Gv4⟩ := id F3
  have hvs1 : vs = [] := by rw [hvs]; first | done | simp [own_f]
  have hz1 : z = (0 : Int32) := by rw [hz, hvs1]; first | done | rfl
  obtain ⟨fs, hlv, hrun, hended, hW, hsame⟩ := Xa1.leave (v := some (.int (1 : Int32))) (fun h => by rw [hret] at h; cases h)
  refine ⟨_, _, pre0 _ ?_, hrun, hended, _, _, rfl, ?_, ⟨_, rfl⟩, hW, hsame.mono (by decide) (by decide)⟩
  · refine XS.iconst X0.here hx rfl (hb hby d12_0) ?_
    show Sp p e below s₁ (mkF m 1 #[.val (.ref a), .val (.int (0 : Int32)), .val (.int p0), .val (.int p1), .val (.int p2), .val (.int g0), .val (.int g1), .val (.int g2), .val (.int ng), .unset, .unset] [(.int (3 : Int32))]) _
    refine sta1 _ ?_
    refine XS.astore Xa1.here hx rfl (hb hby d12_3) rfl rfl (l' := #[.val (.ref a), .val (.int (0 : Int32)), .val (.int p0), .val (.int p1), .val (.int p2), .val (.int g0), .val (.int g1), .val (.int g2), .val (.int ng), .val (.ref ba1), .unset]) rfl ?_
    refine XS.iconst Xa1.here hx rfl (hb hby d12_5) ?_
    refine XS.istore Xa1.here hx rfl (hb hby d12_6) rfl (l' := #[.val (.ref a), .val (.int (0 : Int32)), .val (.int p0), .val (.int p1), .val (.int p2), .val (.int g0), .val (.int g1), .val (.int g2), .val (.int ng), .val (.ref ba1), .val (.int (0 : Int32))]) rfl ?_
    refine XS.iloadN Xa1.here hx rfl (hb hby d12_8) rfl ?_
    refine XS.ifYes Xa1.here hx rfl (pc0 := 9) (pc' := 28) rfl (hb hby d12_9) rfl ((if0 _ _).trans (flt (by decide : ¬ ((0 : Int32) < (0 : Int32)))).2.2.2) (by decide) (by decide) ?_
    refine XS.iloadN Xa1.here hx rfl (hb hby d12_28) rfl ?_
    refine XS.iconst Xa1.here hx rfl (hb hby d12_29) ?_
    refine XS.icmpYes Xa1.here hx rfl (pc0 := 30) (pc' := 49) rfl (hb hby d12_30) rfl (flt (by decide : ¬ ((1 : Int32) < (0 : Int32)))).2.2.2 (by decide) (by decide) ?_
    refine XS.iloadN Xa1.here hx rfl (hb hby d12_49) rfl ?_
    refine XS.iconst Xa1.here hx rfl (hb hby d12_50) ?_
    refine XS.icmpYes Xa1.here hx rfl (pc0 := 51) (pc' := 71) rfl (hb hby d12_51) rfl (flt (by decide : ¬ ((2 : Int32) < (0 : Int32)))).2.2.2 (by decide) (by decide) ?_
    refine XS.aloadN Xa1.here hx rfl (hb hby d12_71) rfl rfl ?_
    refine XS.ifnullNo Xa1.here hx rfl (hb hby d12_72) rfl ?_
    refine XS.aloadN Xa1.here hx rfl (hb hby d12_75) rfl rfl ?_
    show Sp p e below Ta1 (mkF m 76 #[.val (.ref a), .val (.int (0 : Int32)), .val (.int p0), .val (.int p1), .val (.int p2), .val (.int g0), .val (.int g1), .val (.int g2), .val (.int ng), .val (.ref ba1), .val (.int (0 : Int32))] [(.ref a)]) _
    refine Xa1.arraylength hx (own_eq ea1 Arv4.1) (State.isArrayOf_alike hZ.alike Arv4.2.1) (g := (mkF m 76 #[.val (.ref a), .val (.int (0 : Int32)), .val (.int p0), .val (.int p1), .val (.int p2), .val (.int g0), .val (.int g1), .val (.int g2), .val (.int ng), .val (.ref ba1), .val (.int (0 : Int32))] [(.ref a)])) rfl rfl (hb hby d12_76) _ ?_
    rw [len_of Sv4 Nv4]
    show Sp p e below Ta1 (mkF m 77 #[.val (.ref a), .val (.int (0 : Int32)), .val (.int p0), .val (.int p1), .val (.int p2), .val (.int g0), .val (.int g1), .val (.int g2), .val (.int ng), .val (.ref ba1), .val (.int (0 : Int32))] [(.int z)]) _
    refine XS.iload Xa1.here hx rfl (hb hby d12_77) rfl ?_
    refine XS.icmpNo Xa1.here hx rfl (hb hby d12_79) rfl (teq hz1).2 ?_
    refine XS.iload Xa1.here hx rfl (hb hby d12_82) rfl ?_
    refine XS.iconst Xa1.here hx rfl (hb hby d12_84) ?_
    refine XS.icmpYes Xa1.here hx rfl (pc0 := 85) (pc' := 98) rfl (hb hby d12_85) rfl (tlt (by decide : (0 : Int32) < (1 : Int32))).1 (by decide) (by decide) ?_
    refine XS.iload Xa1.here hx rfl (hb hby d12_98) rfl ?_
    refine XS.iconst Xa1.here hx rfl (hb hby d12_100) ?_
    refine XS.icmpYes Xa1.here hx rfl (pc0 := 101) (pc' := 114) rfl (hb hby d12_101) rfl (tlt (by decide : (0 : Int32) < (2 : Int32))).1 (by decide) (by decide) ?_
    refine XS.iload Xa1.here hx rfl (hb hby d12_114) rfl ?_
    refine XS.iconst Xa1.here hx rfl (hb hby d12_116) ?_
    refine XS.icmpYes Xa1.here hx rfl (pc0 := 117) (pc' := 130) rfl (hb hby d12_117) rfl (tlt (by decide : (0 : Int32) < (3 : Int32))).1 (by decide) (by decide) ?_
    refine XS.iconst Xa1.here hx rfl (hb hby d12_130) ?_
    refine XS.goto Xa1.here hx rfl (pc0 := 131) (pc' := 135) rfl (hb hby d12_131) (by decide) (by decide) ?_
    show Sp p e below Ta1 (mkF m 135 #[.val (.ref a), .val (.int (0 : Int32)), .val (.int p0), .val (.int p1), .val (.int p2), .val (.int g0), .val (.int g1), .val (.int g2), .val (.int ng), .val (.ref ba1), .val (.int (0 : Int32))] [(.int (1 : Int32))]) _
    exact retN Xa1 hx (t := .boolean) hret (by simp) (hb hby d12_135) hlv
  · show Q_mat0 Z a p0 p1 p2 g0 g1 g2 ng k z vs h0 n0 _ Ta1.heap _
    rw [ea1]
    exact ⟨rfl, N0, K2⟩
def Q_mat1 (Z : State) (a : Addr) (p0 : Int32) (p1 : Int32) (p2 : Int32) (g0 : Int32) (g1 : Int32) (g2 : Int32) (ng : Int32) (k : ClassId) (z : Int32) (vs : List Value) (h0 : Heap) (n0 : Nat) (v : Option Value) (h : Heap) (L : List Loc) : Prop := v = some (.int (1 : Int32)) ∧ Fr n0 L ∧ Keep h0 h []
set_option maxRecDepth 65536 in
set_option maxHeartbeats 40000000 in
theorem rm_mat1 (l : Launch) (Z : State) (a0 : Array Value) (hw : ∀ d ∈ tables_1, d.before a0 Z = true) (ws : List Jvm.Cond) (a : Addr) (p0 : Int32) (p1 : Int32) (p2 : Int32) (g0 : Int32) (g1 : Int32) (g2 : Int32) (ng : Int32) (k : ClassId) (z : Int32) (vs : List Value) (h0 : Heap) (n0 : Nat) (Z0 : n0 ≤ h0.size) (O0 : Old Z n0 h0) (f0 : Arv Z h0 a k .int z vs (.int (0 : Int32))) (hvs : vs = own_f g0 ng p0) (hz : z = Int32.ofNat vs.length) :
    MetFree l Y37 (head1 (Jvm.Cond.code Y37 method_3_code 11 (some .boolean) :: ws) ({ frames := 0, cells := 1, slots := 3, locals := 0 } : Room)) (fun A_ U => A_ = #[(.ref a), (.int (1 : Int32)), (.int p0), (.int p1), (.int p2), (.int g0), (.int g1), (.int g2), (.int ng)] ∧ Z.Warmed39 U.vm ∧ U.heap = h0) (fun _ _ _ _ _ => True) (fun _ U o_ U' => ∃ v_ L_, o_ = .returned v_ ∧ Q_mat1 Z a p0 p1 p2 g0 g1 g2 ng k z vs h0 n0 v_ U'.heap L_ ∧ FrameEnd U o_ U' L_ ({ frames := 0, cells := 1, slots := 3, locals := 0 } : Room).cells ({ frames := 0, cells := 1, slots := 3, locals := 0 } : Room).slots) := by
  refine MetFree.of_bodySF (plainFor_of_name pn_11) hisR ?_
  intro p e s m args below meth c s₁ Bd hml0 hP hK
  obtain ⟨rfl, hZ, hh⟩ := hP
  have hx := Bd.exec
  have hby := Bd.bytes
  have hml : c.maxLocals = 11 := hml0
  have hown : s.vm.findClass "com/example/lassoo/lassoo/lang/TransitionLiteralsPinLaw" = some m.cls := findClass_of_methodNamed Bd.named
  have hnm := (name_of_methodNamed Bd.named Bd.method).1
  have hret := Bd.returns
  have X0 : Stand p l e ({ frames := 0, cells := 1, slots := 3, locals := 0 } : Room) s m #[(.ref a), (.int (1 : Int32)), (.int p0), (.int p1), (.int p2), (.int g0), (.int g1), (.int g2), (.int ng)] below meth c s₁ [] 0 0 := Stand.of_body Bd
  have e0 : s₁.heap = h0 := by rw [← hh, Bd.state]; rfl
  have N0 := Fr.nil n0
  have pre0 : ∀ t_, Sp p e below s₁ (mkF m 0 #[.val (.ref a), .val (.int (1 : Int32)), .val (.int p0), .val (.int p1), .val (.int p2), .val (.int g0), .val (.int g1), .val (.int g2), .val (.int ng), .unset, .unset] []) t_ → Sp p e below s₁ (entryFrame m #[(.ref a), (.int (1 : Int32)), (.int p0), (.int p1), (.int p2), (.int g0), (.int g1), (.int g2), (.int ng)] 11) t_ := fun t_ k_ => castTop (ef_12_RIIIIIIII m a (1 : Int32) p0 p1 p2 g0 g1 g2 ng) k_
  obtain ⟨Ta1, ha1, ka1, Xa1, ea1, Ea1, Aa1, Ba1, sta1⟩ := newPE X0 hx hZ (tw hw 86 rfl) e0 (g := (mkF m 1 #[.val (.ref a), .val (.int (1 : Int32)), .val (.int p0), .val (.int p1), .val (.int p2), .val (.int g0), .val (.int g1), .val (.int g2), .val (.int ng), .unset, .unset] [(.int (3 : Int32))])) rfl (hb hby d12_1) rfl (by decide) (cap := 3) (by decide) (by decide) (by decide) (by decide) (ad := "[I") (by decide)
  obtain ⟨ba1, ga1⟩ : ∃ z, z = h0.size := ⟨_, rfl⟩
  rw [← ga1] at Aa1 Ba1 sta1
  have g_ba1 : n0 ≤ ba1 := Nat.le_trans Z0 (Nat.le_of_eq ga1.symm)
  have y_ba1 : h0.size ≤ ba1 := Nat.le_trans (Nat.le_refl h0.size) (Nat.le_of_eq ga1.symm)
  have Va1 : Arv Z ha1 ba1 ka1 .int (3 : Int32) [(.int (0 : Int32)), (.int (0 : Int32)), (.int (0 : Int32))] (.int (0 : Int32)) := (Arv.new Aa1 (by decide)).pad (pad_rep [] (.int (0 : Int32)) 3)
  have K2 : Keep h0 ha1 [] := (Keep.refl h0 []).ext Ea1
  have r3 : ∀ t_, Sp p e below Ta1 (mkF m 16 #[.val (.ref a), .val (.int (1 : Int32)), .val (.int p0), .val (.int p1), .val (.int p2), .val (.int g0), .val (.int g1), .val (.int g2), .val (.int ng), .val (.ref ba1), .val (.int (0 : Int32))] [(.int ng), (.int g0)]) t_ → Sp p e below s₁ (entryFrame m #[(.ref a), (.int (1 : Int32)), (.int p0), (.int p1), (.int p2), (.int g0), (.int g1), (.int g2), (.int ng)] 11) t_ := by
    intro t_ k_
    refine pre0 _ ?_
    refine XS.iconst X0.here hx rfl (hb hby d12_0) ?_
    refine sta1 _ ?_
    refine XS.astore Xa1.here hx rfl (hb hby d12_3) rfl rfl (l' := #[.val (.ref a), .val (.int (1 : Int32)), .val (.int p0), .val (.int p1), .val (.int p2), .val (.int g0), .val (.int g1), .val (.int g2), .val (.int ng), .val (.ref ba1), .unset]) rfl ?_
    refine XS.iconst Xa1.here hx rfl (hb hby d12_5) ?_
    refine XS.istore Xa1.here hx rfl (hb hby d12_6) rfl (l' := #[.val (.ref a), .val (.int (1 : Int32)), .val (.int p0), .val (.int p1), .val (.int p2), .val (.int g0), .val (.int g1), .val (.int g2), .val (.int ng), .val (.ref ba1), .val (.int (0 : Int32))]) rfl ?_
    refine XS.iloadN Xa1.here hx rfl (hb hby d12_8) rfl ?_
    refine XS.ifNo Xa1.here hx rfl (hb hby d12_9) rfl ((if0 _ _).trans (tlt (by decide : (0 : Int32) < (1 : Int32))).2.2.2) ?_
    refine XS.iload Xa1.here hx rfl (hb hby d12_12) rfl ?_
    refine XS.iload Xa1.here hx rfl (hb hby d12_14) rfl ?_
    show Sp p e below Ta1 (mkF m 16 #[.val (.ref a), .val (.int (1 : Int32)), .val (.int p0), .val (.int p1), .val (.int p2), .val (.int g0), .val (.int g1), .val (.int g2), .val (.int ng), .val (.ref ba1), .val (.int (0 : Int32))] [(.int ng), (.int g0)]) _
    exact k_
  by_cases c4 : g0 = ng
  · obtain ⟨clv5, Arv5, qv5, Sv5, Nv5, Hv5, Gv5⟩ := id Va1
    have in6 : ¬ ((0 : Int32) < 0 ∨ clv5.slots.size ≤ ((0 : Int32)).toNatClampNeg) := inb_of Sv5 ⟨by decide, by decide⟩
    obtain ⟨Tw7, hw7, Xw7, ew7, Ww7, stw7⟩ := stI Xa1 hx hZ ea1 Arv5 (j := (0 : Int32)) in6 (g := (mkF m 24 #[.val (.ref a), .val (.int (1 : Int32)), .val (.int p0), .val (.int p1), .val (.int p2), .val (.int g0), .val (.int g1), .val (.int g2), .val (.int ng), .val (.ref ba1), .val (.int (0 : Int32))] [(.int p0), (.int (0 : Int32)), (.ref ba1)])) rfl rfl (hb hby d12_24)
    have Vw7 : Arv Z hw7 ba1 ka1 .int (3 : Int32) [(.int p0), (.int (0 : Int32)), (.int (0 : Int32))] (.int (0 : Int32)) := Arv.set Arv5 qv5 Sv5 Nv5 Hv5 Gv5 rfl Ww7 0 rfl (Nat.le_of_ble_eq_true rfl)
    have Nw7 := Fr.snoc Xw7 N0 g_ba1
    have K8 : Keep h0 hw7 [] := K2.wr Ww7 (Or.inr y_ba1)
    have F9 := (f0.keep K8 nin0)
    obtain ⟨clv10, Arv10, qv10, Sv10, Nv10, Hv10, Gv10⟩ := id F9
    have hvs1 : vs = [(.int p0)] := by rw [hvs]; first | done | simp [own_f, c4]
    have hz1 : z = (1 : Int32) := by rw [hz, hvs1]; first | done | rfl
    have in11 : ¬ ((0 : Int32) < 0 ∨ clv10.slots.size ≤ ((0 : Int32)).toNatClampNeg) := inb_of Sv10 ⟨by decide, by rw [hz1]; decide⟩
    have atin11 : clv10.slots[((0 : Int32)).toNatClampNeg]? = some (.int p0) := Has.at Hv10 in11 (by rw [hvs1]; rfl)
    obtain ⟨clv12, Arv12, qv12, Sv12, Nv12, Hv12, Gv12⟩ := id Vw7
    have in13 : ¬ ((0 : Int32) < 0 ∨ clv12.slots.size ≤ ((0 : Int32)).toNatClampNeg) := inb_of Sv12 ⟨by decide, by decide⟩
    have atin13 : clv12.slots[((0 : Int32)).toNatClampNeg]? = some (.int p0) := Has.at Hv12 in13 rfl
    obtain ⟨fs, hlv, hrun, hended, hW, hsame⟩ := Xw7.leave (v := some (.int (1 : Int32))) (fun h => by rw [hret] at h; cases h)
    refine ⟨_, _, r3 _ ?_, hrun, hended, _, _, rfl, ?_, ⟨_, rfl⟩, hW, hsame.mono (by decide) (by decide)⟩
    · refine XS.icmpNo Xa1.here hx rfl (hb hby d12_16) rfl (teq c4).2 ?_
      show Sp p e below Ta1 (mkF m 19 #[.val (.ref a), .val (.int (1 : Int32)), .val (.int p0), .val (.int p1), .val (.int p2), .val (.int g0), .val (.int g1), .val (.int g2), .val (.int ng), .val (.ref ba1), .val (.int (0 : Int32))] []) _
      refine XS.aload Xa1.here hx rfl (hb hby d12_19) rfl rfl ?_
      refine XS.iload Xa1.here hx rfl (hb hby d12_21) rfl ?_
      refine XS.iloadN Xa1.here hx rfl (hb hby d12_23) rfl ?_
      refine stw7 _ ?_
      refine XS.iinc Xw7.here hx rfl (hb hby d12_25) rfl (l' := #[.val (.ref a), .val (.int (1 : Int32)), .val (.int p0), .val (.int p1), .val (.int p2), .val (.int g0), .val (.int g1), .val (.int g2), .val (.int ng), .val (.ref ba1), .val (.int (1 : Int32))]) rfl ?_
      refine XS.iloadN Xw7.here hx rfl (hb hby d12_28) rfl ?_
      refine XS.iconst Xw7.here hx rfl (hb hby d12_29) ?_
      refine XS.icmpYes Xw7.here hx rfl (pc0 := 30) (pc' := 49) rfl (hb hby d12_30) rfl (flt (by decide : ¬ ((1 : Int32) < (1 : Int32)))).2.2.2 (by decide) (by decide) ?_
      refine XS.iloadN Xw7.here hx rfl (hb hby d12_49) rfl ?_
      refine XS.iconst Xw7.here hx rfl (hb hby d12_50) ?_
      refine XS.icmpYes Xw7.here hx rfl (pc0 := 51) (pc' := 71) rfl (hb hby d12_51) rfl (flt (by decide : ¬ ((2 : Int32) < (1 : Int32)))).2.2.2 (by decide) (by decide) ?_
      refine XS.aloadN Xw7.here hx rfl (hb hby d12_71) rfl rfl ?_
      refine XS.ifnullNo Xw7.here hx rfl (hb hby d12_72) rfl ?_
      refine XS.aloadN Xw7.here hx rfl (hb hby d12_75) rfl rfl ?_
      show Sp p e below Tw7 (mkF m 76 #[.val (.ref a), .val (.int (1 : Int32)), .val (.int p0), .val (.int p1), .val (.int p2), .val (.int g0), .val (.int g1), .val (.int g2), .val (.int ng), .val (.ref ba1), .val (.int (1 : Int32))] [(.ref a)]) _
      refine Xw7.arraylength hx (own_eq ew7 Arv10.1) (State.isArrayOf_alike hZ.alike Arv10.2.1) (g := (mkF m 76 #[.val (.ref a), .val (.int (1 : Int32)), .val (.int p0), .val (.int p1), .val (.int p2), .val (.int g0), .val (.int g1), .val (.int g2), .val (.int ng), .val (.ref ba1), .val (.int (1 : Int32))] [(.ref a)])) rfl rfl (hb hby d12_76) _ ?_
      rw [len_of Sv10 Nv10]
      show Sp p e below Tw7 (mkF m 77 #[.val (.ref a), .val (.int (1 : Int32)), .val (.int p0), .val (.int p1), .val (.int p2), .val (.int g0), .val (.int g1), .val (.int g2), .val (.int ng), .val (.ref ba1), .val (.int (1 : Int32))] [(.int z)]) _
      refine XS.iload Xw7.here hx rfl (hb hby d12_77) rfl ?_
      refine XS.icmpNo Xw7.here hx rfl (hb hby d12_79) rfl (teq hz1).2 ?_
      refine XS.iload Xw7.here hx rfl (hb hby d12_82) rfl ?_
      refine XS.iconst Xw7.here hx rfl (hb hby d12_84) ?_
      refine XS.icmpNo Xw7.here hx rfl (hb hby d12_85) rfl (flt (by decide : ¬ ((1 : Int32) < (1 : Int32)))).1 ?_
      refine XS.aloadN Xw7.here hx rfl (hb hby d12_88) rfl rfl ?_
      refine XS.iconst Xw7.here hx rfl (hb hby d12_89) ?_
      show Sp p e below Tw7 (mkF m 90 #[.val (.ref a), .val (.int (1 : Int32)), .val (.int p0), .val (.int p1), .val (.int p2), .val (.int g0), .val (.int g1), .val (.int g2), .val (.int ng), .val (.ref ba1), .val (.int (1 : Int32))] [(.int (0 : Int32)), (.ref a)]) _
      refine Xw7.iaload hx (j := (0 : Int32)) (v := (.int p0)) (own_eq ew7 Arv10.1) (State.isArrayOf_alike hZ.alike Arv10.2.1) Arv10.2.2 in11 atin11 (g := (mkF m 90 #[.val (.ref a), .val (.int (1 : Int32)), .val (.int p0), .val (.int p1), .val (.int p2), .val (.int g0), .val (.int g1), .val (.int g2), .val (.int ng), .val (.ref ba1), .val (.int (1 : Int32))] [(.int (0 : Int32)), (.ref a)])) rfl rfl (hb hby d12_90) _ ?_
      show Sp p e below Tw7 (mkF m 91 #[.val (.ref a), .val (.int (1 : Int32)), .val (.int p0), .val (.int p1), .val (.int p2), .val (.int g0), .val (.int g1), .val (.int g2), .val (.int ng), .val (.ref ba1), .val (.int (1 : Int32))] [(.int p0)]) _
      refine XS.aload Xw7.here hx rfl (hb hby d12_91) rfl rfl ?_
      refine XS.iconst Xw7.here hx rfl (hb hby d12_93) ?_
      show Sp p e below Tw7 (mkF m 94 #[.val (.ref a), .val (.int (1 : Int32)), .val (.int p0), .val (.int p1), .val (.int p2), .val (.int g0), .val (.int g1), .val (.int g2), .val (.int ng), .val (.ref ba1), .val (.int (1 : Int32))] [(.int (0 : Int32)), (.ref ba1), (.int p0)]) _
      refine Xw7.iaload hx (j := (0 : Int32)) (v := (.int p0)) (own_eq ew7 Arv12.1) (State.isArrayOf_alike hZ.alike Arv12.2.1) Arv12.2.2 in13 atin13 (g := (mkF m 94 #[.val (.ref a), .val (.int (1 : Int32)), .val (.int p0), .val (.int p1), .val (.int p2), .val (.int g0), .val (.int g1), .val (.int g2), .val (.int ng), .val (.ref ba1), .val (.int (1 : Int32))] [(.int (0 : Int32)), (.ref ba1), (.int p0)])) rfl rfl (hb hby d12_94) _ ?_
      show Sp p e below Tw7 (mkF m 95 #[.val (.ref a), .val (.int (1 : Int32)), .val (.int p0), .val (.int p1), .val (.int p2), .val (.int g0), .val (.int g1), .val (.int g2), .val (.int ng), .val (.ref ba1), .val (.int (1 : Int32))] [(.int p0), (.int p0)]) _
      refine XS.icmpNo Xw7.here hx rfl (hb hby d12_95) rfl (teq (rfl : p0 = p0)).2 ?_
      refine XS.iload Xw7.here hx rfl (hb hby d12_98) rfl ?_
      refine XS.iconst Xw7.here hx rfl (hb hby d12_100) ?_
      refine XS.icmpYes Xw7.here hx rfl (pc0 := 101) (pc' := 114) rfl (hb hby d12_101) rfl (tlt (by decide : (1 : Int32) < (2 : Int32))).1 (by decide) (by decide) ?_
      refine XS.iload Xw7.here hx rfl (hb hby d12_114) rfl ?_
      refine XS.iconst Xw7.here hx rfl (hb hby d12_116) ?_
      refine XS.icmpYes Xw7.here hx rfl (pc0 := 117) (pc' := 130) rfl (hb hby d12_117) rfl (tlt (by decide : (1 : Int32) < (3 : Int32))).1 (by decide) (by decide) ?_
      refine XS.iconst Xw7.here hx rfl (hb hby d12_130) ?_
      refine XS.goto Xw7.here hx rfl (pc0 := 131) (pc' := 135) rfl (hb hby d12_131) (by decide) (by decide) ?_
      show Sp p e below Tw7 (mkF m 135 #[.val (.ref a), .val (.int (1 : Int32)), .val (.int p0), .val (.int p1), .val (.int p2), .val (.int g0), .val (.int g1), .val (.int g2), .val (.int ng), .val (.ref ba1), .val (.int (1 : Int32))] [(.int (1 : Int32))]) _
      exact retN Xw7 hx (t := .boolean) hret (by simp) (hb hby d12_135) hlv
    · show Q_mat1 Z a p0 p1 p2 g0 g1 g2 ng k z vs h0 n0 _ Tw7.heap _
      rw [ew7]
      exact ⟨rfl, Nw7, K8⟩
  · have F14 := (f0.keep K2 nin0)
    obtain ⟨clv15, Arv15, qv15, Sv15, Nv15, Hv15, Gv15⟩ := id F14
    have hvs1 : vs = [] := by rw [hvs]; first | done | simp [own_f, c4]
    have hz1 : z = (0 : Int32) := by rw [hz, hvs1]; first | done | rfl
    obtain ⟨fs, hlv, hrun, hended, hW, hsame⟩ := Xa1.leave (v := some (.int (1 : Int32))) (fun h => by rw [hret] at h; cases h)
    refine ⟨_, _, r3 _ ?_, hrun, hended, _, _, rfl, ?_, ⟨_, rfl⟩, hW, hsame.mono (by decide) (by decide)⟩
    · refine XS.icmpYes Xa1.here hx rfl (pc0 := 16) (pc' := 28) rfl (hb hby d12_16) rfl (feq c4).2 (by decide) (by decide) ?_
      show Sp p e below Ta1 (mkF m 28 #[.val (.ref a), .val (.int (1 : Int32)), .val (.int p0), .val (.int p1), .val (.int p2), .val (.int g0), .val (.int g1), .val (.int g2), .val (.int ng), .val (.ref ba1), .val (.int (0 : Int32))] []) _
      refine XS.iloadN Xa1.here hx rfl (hb hby d12_28) rfl ?_
      refine XS.iconst Xa1.here hx rfl (hb hby d12_29) ?_
      refine XS.icmpYes Xa1.here hx rfl (pc0 := 30) (pc' := 49) rfl (hb hby d12_30) rfl (flt (by decide : ¬ ((1 : Int32) < (1 : Int32)))).2.2.2 (by decide) (by decide) ?_
      refine XS.iloadN Xa1.here hx rfl (hb hby d12_49) rfl ?_
      refine XS.iconst Xa1.here hx rfl (hb hby d12_50) ?_
      refine XS.icmpYes Xa1.here hx rfl (pc0 := 51) (pc' := 71) rfl (hb hby d12_51) rfl (flt (by decide : ¬ ((2 : Int32) < (1 : Int32)))).2.2.2 (by decide) (by decide) ?_
      refine XS.aloadN Xa1.here hx rfl (hb hby d12_71) rfl rfl ?_
      refine XS.ifnullNo Xa1.here hx rfl (hb hby d12_72) rfl ?_
      refine XS.aloadN Xa1.here hx rfl (hb hby d12_75) rfl rfl ?_
      show Sp p e below Ta1 (mkF m 76 #[.val (.ref a), .val (.int (1 : Int32)), .val (.int p0), .val (.int p1), .val (.int p2), .val (.int g0), .val (.int g1), .val (.int g2), .val (.int ng), .val (.ref ba1), .val (.int (0 : Int32))] [(.ref a)]) _
      refine Xa1.arraylength hx (own_eq ea1 Arv15.1) (State.isArrayOf_alike hZ.alike Arv15.2.1) (g := (mkF m 76 #[.val (.ref a), .val (.int (1 : Int32)), .val (.int p0), .val (.int p1), .val (.int p2), .val (.int g0), .val (.int g1), .val (.int g2), .val (.int ng), .val (.ref ba1), .val (.int (0 : Int32))] [(.ref a)])) rfl rfl (hb hby d12_76) _ ?_
      rw [len_of Sv15 Nv15]
      show Sp p e below Ta1 (mkF m 77 #[.val (.ref a), .val (.int (1 : Int32)), .val (.int p0), .val (.int p1), .val (.int p2), .val (.int g0), .val (.int g1), .val (.int g2), .val (.int ng), .val (.ref ba1), .val (.int (0 : Int32))] [(.int z)]) _
      refine XS.iload Xa1.here hx rfl (hb hby d12_77) rfl ?_
      refine XS.icmpNo Xa1.here hx rfl (hb hby d12_79) rfl (teq hz1).2 ?_
      refine XS.iload Xa1.here hx rfl (hb hby d12_82) rfl ?_
      refine XS.iconst Xa1.here hx rfl (hb hby d12_84) ?_
      refine XS.icmpYes Xa1.here hx rfl (pc0 := 85) (pc' := 98) rfl (hb hby d12_85) rfl (tlt (by decide : (0 : Int32) < (1 : Int32))).1 (by decide) (by decide) ?_
      refine XS.iload Xa1.here hx rfl (hb hby d12_98) rfl ?_
      refine XS.iconst Xa1.here hx rfl (hb hby d12_100) ?_
      refine XS.icmpYes Xa1.here hx rfl (pc0 := 101) (pc' := 114) rfl (hb hby d12_101) rfl (tlt (by decide : (0 : Int32) < (2 : Int32))).1 (by decide) (by decide) ?_
      refine XS.iload Xa1.here hx rfl (hb hby d12_114) rfl ?_
      refine XS.iconst Xa1.here hx rfl (hb hby d12_116) ?_
      refine XS.icmpYes Xa1.here hx rfl (pc0 := 117) (pc' := 130) rfl (hb hby d12_117) rfl (tlt (by decide : (0 : Int32) < (3 : Int32))).1 (by decide) (by decide) ?_
      refine XS.iconst Xa1.here hx rfl (hb hby d12_130) ?_
      refine XS.goto Xa1.here hx rfl (pc0 := 131) (pc' := 135) rfl (hb hby d12_131) (by decide) (by decide) ?_
      show Sp p e below Ta1 (mkF m 135 #[.val (.ref a), .val (.int (1 : Int32)), .val (.int p0), .val (.int p1), .val (.int p2), .val (.int g0), .val (.int g1), .val (.int g2), .val (.int ng), .val (.ref ba1), .val (.int (0 : Int32))] [(.int (1 : Int32))]) _
      exact retN Xa1 hx (t := .boolean) hret (by simp) (hb hby d12_135) hlv
    · show Q_mat1 Z a p0 p1 p2 g0 g1 g2 ng k z vs h0 n0 _ Ta1.heap _
      rw [ea1]
      exact ⟨rfl, N0, K2⟩
def Q_mat2 (Z : State) (a : Addr) (p0 : Int32) (p1 : Int32) (p2 : Int32) (g0 : Int32) (g1 : Int32) (g2 : Int32) (ng : Int32) (k : ClassId) (z : Int32) (vs : List Value) (h0 : Heap) (n0 : Nat) (v : Option Value) (h : Heap) (L : List Loc) : Prop := v = some (.int (1 : Int32)) ∧ Fr n0 L ∧ Keep h0 h []
set_option maxRecDepth 65536 in
set_option maxHeartbeats 40000000 in
theorem rm_mat2 (l : Launch) (Z : State) (a0 : Array Value) (hw : ∀ d ∈ tables_1, d.before a0 Z = true) (ws : List Jvm.Cond) (a : Addr) (p0 : Int32) (p1 : Int32) (p2 : Int32) (g0 : Int32) (g1 : Int32) (g2 : Int32) (ng : Int32) (k : ClassId) (z : Int32) (vs : List Value) (h0 : Heap) (n0 : Nat) (Z0 : n0 ≤ h0.size) (O0 : Old Z n0 h0) (f0 : Arv Z h0 a k .int z vs (.int (0 : Int32))) (hvs : vs = own_f g0 ng p0 ++ own_f g1 ng p1) (hz : z = Int32.ofNat vs.length) :
    MetFree l Y37 (head1 (Jvm.Cond.code Y37 method_3_code 11 (some .boolean) :: ws) ({ frames := 0, cells := 1, slots := 3, locals := 0 } : Room)) (fun A_ U => A_ = #[(.ref a), (.int (2 : Int32)), (.int p0), (.int p1), (.int p2), (.int g0), (.int g1), (.int g2), (.int ng)] ∧ Z.Warmed39 U.vm ∧ U.heap = h0) (fun _ _ _ _ _ => True) (fun _ U o_ U' => ∃ v_ L_, o_ = .returned v_ ∧ Q_mat2 Z a p0 p1 p2 g0 g1 g2 ng k z vs h0 n0 v_ U'.heap L_ ∧ FrameEnd U o_ U' L_ ({ frames := 0, cells := 1, slots := 3, locals := 0 } : Room).cells ({ frames := 0, cells := 1, slots := 3, locals := 0 } : Room).slots) := by
  refine MetFree.of_bodySF (plainFor_of_name pn_11) hisR ?_
  intro p e s m args below meth c s₁ Bd hml0 hP hK
  obtain ⟨rfl, hZ, hh⟩ := hP
  have hx := Bd.exec
  have hby := Bd.bytes
  have hml : c.maxLocals = 11 := hml0
  have hown : s.vm.findClass "com/example/lassoo/lassoo/lang/TransitionLiteralsPinLaw" = some m.cls := findClass_of_methodNamed Bd.named
  have hnm := (name_of_methodNamed Bd.named Bd.method).1
  have hret := Bd.returns
  have X0 : Stand p l e ({ frames := 0, cells := 1, slots := 3, locals := 0 } : Room) s m #[(.ref a), (.int (2 : Int32)), (.int p0), (.int p1), (.int p2), (.int g0), (.int g1), (.int g2), (.int ng)] below meth c s₁ [] 0 0 := Stand.of_body Bd
  have e0 : s₁.heap = h0 := by rw [← hh, Bd.state]; rfl
  have N0 := Fr.nil n0
  have pre0 : ∀ t_, Sp p e below s₁ (mkF m 0 #[.val (.ref a), .val (.int (2 : Int32)), .val (.int p0), .val (.int p1), .val (.int p2), .val (.int g0), .val (.int g1), .val (.int g2), .val (.int ng), .unset, .unset] []) t_ → Sp p e below s₁ (entryFrame m #[(.ref a), (.int (2 : Int32)), (.int p0), (.int p1), (.int p2), (.int g0), (.int g1), (.int g2), (.int ng)] 11) t_ := fun t_ k_ => castTop (ef_12_RIIIIIIII m a (2 : Int32) p0 p1 p2 g0 g1 g2 ng) k_
  obtain ⟨Ta1, ha1, ka1, Xa1, ea1, Ea1, Aa1, Ba1, sta1⟩ := newPE X0 hx hZ (tw hw 86 rfl) e0 (g := (mkF m 1 #[.val (.ref a), .val (.int (2 : Int32)), .val (.int p0), .val (.int p1), .val (.int p2), .val (.int g0), .val (.int g1), .val (.int g2), .val (.int ng), .unset, .unset] [(.int (3 : Int32))])) rfl (hb hby d12_1) rfl (by decide) (cap := 3) (by decide) (by decide) (by decide) (by decide) (ad := "[I") (by decide)
  obtain ⟨ba1, ga1⟩ : ∃ z, z = h0.size := ⟨_, rfl⟩
  rw [← ga1] at Aa1 Ba1 sta1
  have g_ba1 : n0 ≤ ba1 := Nat.le_trans Z0 (Nat.le_of_eq ga1.symm)
  have y_ba1 : h0.size ≤ ba1 := Nat.le_trans (Nat.le_refl h0.size) (Nat.le_of_eq ga1.symm)
  have Va1 : Arv Z ha1 ba1 ka1 .int (3 : Int32) [(.int (0 : Int32)), (.int (0 : Int32)), (.int (0 : Int32))] (.int (0 : Int32)) := (Arv.new Aa1 (by decide)).pad (pad_rep [] (.int (0 : Int32)) 3)
  have K2 : Keep h0 ha1 [] := (Keep.refl h0 []).ext Ea1
  have r3 : ∀ t_, Sp p e below Ta1 (mkF m 16 #[.val (.ref a), .val (.int (2 : Int32)), .val (.int p0), .val (.int p1), .val (.int p2), .val (.int g0), .val (.int g1), .val (.int g2), .val (.int ng), .val (.ref ba1), .val (.int (0 : Int32))] [(.int ng), (.int g0)]) t_ → Sp p e below s₁ (entryFrame m #[(.ref a), (.int (2 : Int32)), (.int p0), (.int p1), (.int p2), (.int g0), (.int g1), (.int g2), (.int ng)] 11) t_ := by
    intro t_ k_
    refine pre0 _ ?_
    refine XS.iconst X0.here hx rfl (hb hby d12_0) ?_
    refine sta1 _ ?_
    refine XS.astore Xa1.here hx rfl (hb hby d12_3) rfl rfl (l' := #[.val (.ref a), .val (.int (2 : Int32)), .val (.int p0), .val (.int p1), .val (.int p2), .val (.int g0), .val (.int g1), .val (.int g2), .val (.int ng), .val (.ref ba1), .unset]) rfl ?_
    refine XS.iconst Xa1.here hx rfl (hb hby d12_5) ?_
    refine XS.istore Xa1.here hx rfl (hb hby d12_6) rfl (l' := #[.val (.ref a), .val (.int (2 : Int32)), .val (.int p0), .val (.int p1), .val (.int p2), .val (.int g0), .val (.int g1), .val (.int g2), .val (.int ng), .val (.ref ba1), .val (.int (0 : Int32))]) rfl ?_
    refine XS.iloadN Xa1.here hx rfl (hb hby d12_8) rfl ?_
    refine XS.ifNo Xa1.here hx rfl (hb hby d12_9) rfl ((if0 _ _).trans (tlt (by decide : (0 : Int32) < (2 : Int32))).2.2.2) ?_
    refine XS.iload Xa1.here hx rfl (hb hby d12_12) rfl ?_
    refine XS.iload Xa1.here hx rfl (hb hby d12_14) rfl ?_
    show Sp p e below Ta1 (mkF m 16 #[.val (.ref a), .val (.int (2 : Int32)), .val (.int p0), .val (.int p1), .val (.int p2), .val (.int g0), .val (.int g1), .val (.int g2), .val (.int ng), .val (.ref ba1), .val (.int (0 : Int32))] [(.int ng), (.int g0)]) _
    exact k_
  by_cases c4 : g0 = ng
  · obtain ⟨clv5, Arv5, qv5, Sv5, Nv5, Hv5, Gv5⟩ := id Va1
    have in6 : ¬ ((0 : Int32) < 0 ∨ clv5.slots.size ≤ ((0 : Int32)).toNatClampNeg) := inb_of Sv5 ⟨by decide, by decide⟩
    obtain ⟨Tw7, hw7, Xw7, ew7, Ww7, stw7⟩ := stI Xa1 hx hZ ea1 Arv5 (j := (0 : Int32)) in6 (g := (mkF m 24 #[.val (.ref a), .val (.int (2 : Int32)), .val (.int p0), .val (.int p1), .val (.int p2), .val (.int g0), .val (.int g1), .val (.int g2), .val (.int ng), .val (.ref ba1), .val (.int (0 : Int32))] [(.int p0), (.int (0 : Int32)), (.ref ba1)])) rfl rfl (hb hby d12_24)
    have Vw7 : Arv Z hw7 ba1 ka1 .int (3 : Int32) [(.int p0), (.int (0 : Int32)), (.int (0 : Int32))] (.int (0 : Int32)) := Arv.set Arv5 qv5 Sv5 Nv5 Hv5 Gv5 rfl Ww7 0 rfl (Nat.le_of_ble_eq_true rfl)
    have Nw7 := Fr.snoc Xw7 N0 g_ba1
    have K8 : Keep h0 hw7 [] := K2.wr Ww7 (Or.inr y_ba1)
    have r9 : ∀ t_, Sp p e below Tw7 (mkF m 37 #[.val (.ref a), .val (.int (2 : Int32)), .val (.int p0), .val (.int p1), .val (.int p2), .val (.int g0), .val (.int g1), .val (.int g2), .val (.int ng), .val (.ref ba1), .val (.int (1 : Int32))] [(.int ng), (.int g1)]) t_ → Sp p e below s₁ (entryFrame m #[(.ref a), (.int (2 : Int32)), (.int p0), (.int p1), (.int p2), (.int g0), (.int g1), (.int g2), (.int ng)] 11) t_ := by
      intro t_ k_
      refine r3 _ ?_
      refine XS.icmpNo Xa1.here hx rfl (hb hby d12_16) rfl (teq c4).2 ?_
      refine XS.aload Xa1.here hx rfl (hb hby d12_19) rfl rfl ?_
      refine XS.iload Xa1.here hx rfl (hb hby d12_21) rfl ?_
      refine XS.iloadN Xa1.here hx rfl (hb hby d12_23) rfl ?_
      refine stw7 _ ?_
      refine XS.iinc Xw7.here hx rfl (hb hby d12_25) rfl (l' := #[.val (.ref a), .val (.int (2 : Int32)), .val (.int p0), .val (.int p1), .val (.int p2), .val (.int g0), .val (.int g1), .val (.int g2), .val (.int ng), .val (.ref ba1), .val (.int (1 : Int32))]) rfl ?_
      refine XS.iloadN Xw7.here hx rfl (hb hby d12_28) rfl ?_
      refine XS.iconst Xw7.here hx rfl (hb hby d12_29) ?_
      refine XS.icmpNo Xw7.here hx rfl (hb hby d12_30) rfl (tlt (by decide : (1 : Int32) < (2 : Int32))).2.2.2 ?_
      refine XS.iload Xw7.here hx rfl (hb hby d12_33) rfl ?_
      refine XS.iload Xw7.here hx rfl (hb hby d12_35) rfl ?_
      show Sp p e below Tw7 (mkF m 37 #[.val (.ref a), .val (.int (2 : Int32)), .val (.int p0), .val (.int p1), .val (.int p2), .val (.int g0), .val (.int g1), .val (.int g2), .val (.int ng), .val (.ref ba1), .val (.int (1 : Int32))] [(.int ng), (.int g1)]) _
      exact k_
    by_cases c10 : g1 = ng
    · obtain ⟨clv11, Arv11, qv11, Sv11, Nv11, Hv11, Gv11⟩ := id Vw7
      have in12 : ¬ ((1 : Int32) < 0 ∨ clv11.slots.size ≤ ((1 : Int32)).toNatClampNeg) := inb_of Sv11 ⟨by decide, by decide⟩
      obtain ⟨Tw13, hw13, Xw13, ew13, Ww13, stw13⟩ := stI Xw7 hx hZ ew7 Arv11 (j := (1 : Int32)) in12 (g := (mkF m 45 #[.val (.ref a), .val (.int (2 : Int32)), .val (.int p0), .val (.int p1), .val (.int p2), .val (.int g0), .val (.int g1), .val (.int g2), .val (.int ng), .val (.ref ba1), .val (.int (1 : Int32))] [(.int p1), (.int (1 : Int32)), (.ref ba1)])) rfl rfl (hb hby d12_45)
      have Vw13 : Arv Z hw13 ba1 ka1 .int (3 : Int32) [(.int p0), (.int p1), (.int (0 : Int32))] (.int (0 : Int32)) := Arv.set Arv11 qv11 Sv11 Nv11 Hv11 Gv11 rfl Ww13 1 rfl (Nat.le_of_ble_eq_true rfl)
      have Nw13 := Fr.snoc Xw13 Nw7 g_ba1
      have K14 : Keep h0 hw13 [] := K8.wr Ww13 (Or.inr y_ba1)
      have F15 := (f0.keep K14 nin0)
      obtain ⟨clv16, Arv16, qv16, Sv16, Nv16, Hv16, Gv16⟩ := id F15
      have hvs1 : vs = [(.int p0), (.int p1)] := by rw [hvs]; first | done | simp [own_f, c4, c10]
      have hz1 : z = (2 : Int32) := by rw [hz, hvs1]; first | done | rfl
      have in17 : ¬ ((0 : Int32) < 0 ∨ clv16.slots.size ≤ ((0 : Int32)).toNatClampNeg) := inb_of Sv16 ⟨by decide, by rw [hz1]; decide⟩
      have atin17 : clv16.slots[((0 : Int32)).toNatClampNeg]? = some (.int p0) := Has.at Hv16 in17 (by rw [hvs1]; rfl)
      obtain ⟨clv18, Arv18, qv18, Sv18, Nv18, Hv18, Gv18⟩ := id Vw13
      have in19 : ¬ ((0 : Int32) < 0 ∨ clv18.slots.size ≤ ((0 : Int32)).toNatClampNeg) := inb_of Sv18 ⟨by decide, by decide⟩
      have atin19 : clv18.slots[((0 : Int32)).toNatClampNeg]? = some (.int p0) := Has.at Hv18 in19 rfl
      have in20 : ¬ ((1 : Int32) < 0 ∨ clv16.slots.size ≤ ((1 : Int32)).toNatClampNeg) := inb_of Sv16 ⟨by decide, by rw [hz1]; decide⟩
      have atin20 : clv16.slots[((1 : Int32)).toNatClampNeg]? = some (.int p1) := Has.at Hv16 in20 (by rw [hvs1]; rfl)
      have in21 : ¬ ((1 : Int32) < 0 ∨ clv18.slots.size ≤ ((1 : Int32)).toNatClampNeg) := inb_of Sv18 ⟨by decide, by decide⟩
      have atin21 : clv18.slots[((1 : Int32)).toNatClampNeg]? = some (.int p1) := Has.at Hv18 in21 rfl
      obtain ⟨fs, hlv, hrun, hended, hW, hsame⟩ := Xw13.leave (v := some (.int (1 : Int32))) (fun h => by rw [hret] at h; cases h)
      refine ⟨_, _, r9 _ ?_, hrun, hended, _, _, rfl, ?_, ⟨_, rfl⟩, hW, hsame.mono (by decide) (by decide)⟩
      · refine XS.icmpNo Xw7.here hx rfl (hb hby d12_37) rfl (teq c10).2 ?_
        show Sp p e below Tw7 (mkF m 40 #[.val (.ref a), .val (.int (2 : Int32)), .val (.int p0), .val (.int p1), .val (.int p2), .val (.int g0), .val (.int g1), .val (.int g2), .val (.int ng), .val (.ref ba1), .val (.int (1 : Int32))] []) _
        refine XS.aload Xw7.here hx rfl (hb hby d12_40) rfl rfl ?_
        refine XS.iload Xw7.here hx rfl (hb hby d12_42) rfl ?_
        refine XS.iloadN Xw7.here hx rfl (hb hby d12_44) rfl ?_
        refine stw13 _ ?_
        refine XS.iinc Xw13.here hx rfl (hb hby d12_46) rfl (l' := #[.val (.ref a), .val (.int (2 : Int32)), .val (.int p0), .val (.int p1), .val (.int p2), .val (.int g0), .val (.int g1), .val (.int g2), .val (.int ng), .val (.ref ba1), .val (.int (2 : Int32))]) rfl ?_
        refine XS.iloadN Xw13.here hx rfl (hb hby d12_49) rfl ?_
        refine XS.iconst Xw13.here hx rfl (hb hby d12_50) ?_
        refine XS.icmpYes Xw13.here hx rfl (pc0 := 51) (pc' := 71) rfl (hb hby d12_51) rfl (flt (by decide : ¬ ((2 : Int32) < (2 : Int32)))).2.2.2 (by decide) (by decide) ?_
        refine XS.aloadN Xw13.here hx rfl (hb hby d12_71) rfl rfl ?_
        refine XS.ifnullNo Xw13.here hx rfl (hb hby d12_72) rfl ?_
        refine XS.aloadN Xw13.here hx rfl (hb hby d12_75) rfl rfl ?_
        show Sp p e below Tw13 (mkF m 76 #[.val (.ref a), .val (.int (2 : Int32)), .val (.int p0), .val (.int p1), .val (.int p2), .val (.int g0), .val (.int g1), .val (.int g2), .val (.int ng), .val (.ref ba1), .val (.int (2 : Int32))] [(.ref a)]) _
        refine Xw13.arraylength hx (own_eq ew13 Arv16.1) (State.isArrayOf_alike hZ.alike Arv16.2.1) (g := (mkF m 76 #[.val (.ref a), .val (.int (2 : Int32)), .val (.int p0), .val (.int p1), .val (.int p2), .val (.int g0), .val (.int g1), .val (.int g2), .val (.int ng), .val (.ref ba1), .val (.int (2 : Int32))] [(.ref a)])) rfl rfl (hb hby d12_76) _ ?_
        rw [len_of Sv16 Nv16]
        show Sp p e below Tw13 (mkF m 77 #[.val (.ref a), .val (.int (2 : Int32)), .val (.int p0), .val (.int p1), .val (.int p2), .val (.int g0), .val (.int g1), .val (.int g2), .val (.int ng), .val (.ref ba1), .val (.int (2 : Int32))] [(.int z)]) _
        refine XS.iload Xw13.here hx rfl (hb hby d12_77) rfl ?_
        refine XS.icmpNo Xw13.here hx rfl (hb hby d12_79) rfl (teq hz1).2 ?_
        refine XS.iload Xw13.here hx rfl (hb hby d12_82) rfl ?_
        refine XS.iconst Xw13.here hx rfl (hb hby d12_84) ?_
        refine XS.icmpNo Xw13.here hx rfl (hb hby d12_85) rfl (flt (by decide : ¬ ((2 : Int32) < (1 : Int32)))).1 ?_
        refine XS.aloadN Xw13.here hx rfl (hb hby d12_88) rfl rfl ?_
        refine XS.iconst Xw13.here hx rfl (hb hby d12_89) ?_
        show Sp p e below Tw13 (mkF m 90 #[.val (.ref a), .val (.int (2 : Int32)), .val (.int p0), .val (.int p1), .val (.int p2), .val (.int g0), .val (.int g1), .val (.int g2), .val (.int ng), .val (.ref ba1), .val (.int (2 : Int32))] [(.int (0 : Int32)), (.ref a)]) _
        refine Xw13.iaload hx (j := (0 : Int32)) (v := (.int p0)) (own_eq ew13 Arv16.1) (State.isArrayOf_alike hZ.alike Arv16.2.1) Arv16.2.2 in17 atin17 (g := (mkF m 90 #[.val (.ref a), .val (.int (2 : Int32)), .val (.int p0), .val (.int p1), .val (.int p2), .val (.int g0), .val (.int g1), .val (.int g2), .val (.int ng), .val (.ref ba1), .val (.int (2 : Int32))] [(.int (0 : Int32)), (.ref a)])) rfl rfl (hb hby d12_90) _ ?_
        show Sp p e below Tw13 (mkF m 91 #[.val (.ref a), .val (.int (2 : Int32)), .val (.int p0), .val (.int p1), .val (.int p2), .val (.int g0), .val (.int g1), .val (.int g2), .val (.int ng), .val (.ref ba1), .val (.int (2 : Int32))] [(.int p0)]) _
        refine XS.aload Xw13.here hx rfl (hb hby d12_91) rfl rfl ?_
        refine XS.iconst Xw13.here hx rfl (hb hby d12_93) ?_
        show Sp p e below Tw13 (mkF m 94 #[.val (.ref a), .val (.int (2 : Int32)), .val (.int p0), .val (.int p1), .val (.int p2), .val (.int g0), .val (.int g1), .val (.int g2), .val (.int ng), .val (.ref ba1), .val (.int (2 : Int32))] [(.int (0 : Int32)), (.ref ba1), (.int p0)]) _
        refine Xw13.iaload hx (j := (0 : Int32)) (v := (.int p0)) (own_eq ew13 Arv18.1) (State.isArrayOf_alike hZ.alike Arv18.2.1) Arv18.2.2 in19 atin19 (g := (mkF m 94 #[.val (.ref a), .val (.int (2 : Int32)), .val (.int p0), .val (.int p1), .val (.int p2), .val (.int g0), .val (.int g1), .val (.int g2), .val (.int ng), .val (.ref ba1), .val (.int (2 : Int32))] [(.int (0 : Int32)), (.ref ba1), (.int p0)])) rfl rfl (hb hby d12_94) _ ?_
        show Sp p e below Tw13 (mkF m 95 #[.val (.ref a), .val (.int (2 : Int32)), .val (.int p0), .val (.int p1), .val (.int p2), .val (.int g0), .val (.int g1), .val (.int g2), .val (.int ng), .val (.ref ba1), .val (.int (2 : Int32))] [(.int p0), (.int p0)]) _
        refine XS.icmpNo Xw13.here hx rfl (hb hby d12_95) rfl (teq (rfl : p0 = p0)).2 ?_
        refine XS.iload Xw13.here hx rfl (hb hby d12_98) rfl ?_
        refine XS.iconst Xw13.here hx rfl (hb hby d12_100) ?_
        refine XS.icmpNo Xw13.here hx rfl (hb hby d12_101) rfl (flt (by decide : ¬ ((2 : Int32) < (2 : Int32)))).1 ?_
        refine XS.aloadN Xw13.here hx rfl (hb hby d12_104) rfl rfl ?_
        refine XS.iconst Xw13.here hx rfl (hb hby d12_105) ?_
        show Sp p e below Tw13 (mkF m 106 #[.val (.ref a), .val (.int (2 : Int32)), .val (.int p0), .val (.int p1), .val (.int p2), .val (.int g0), .val (.int g1), .val (.int g2), .val (.int ng), .val (.ref ba1), .val (.int (2 : Int32))] [(.int (1 : Int32)), (.ref a)]) _
        refine Xw13.iaload hx (j := (1 : Int32)) (v := (.int p1)) (own_eq ew13 Arv16.1) (State.isArrayOf_alike hZ.alike Arv16.2.1) Arv16.2.2 in20 atin20 (g := (mkF m 106 #[.val (.ref a), .val (.int (2 : Int32)), .val (.int p0), .val (.int p1), .val (.int p2), .val (.int g0), .val (.int g1), .val (.int g2), .val (.int ng), .val (.ref ba1), .val (.int (2 : Int32))] [(.int (1 : Int32)), (.ref a)])) rfl rfl (hb hby d12_106) _ ?_
        show Sp p e below Tw13 (mkF m 107 #[.val (.ref a), .val (.int (2 : Int32)), .val (.int p0), .val (.int p1), .val (.int p2), .val (.int g0), .val (.int g1), .val (.int g2), .val (.int ng), .val (.ref ba1), .val (.int (2 : Int32))] [(.int p1)]) _
        refine XS.aload Xw13.here hx rfl (hb hby d12_107) rfl rfl ?_
        refine XS.iconst Xw13.here hx rfl (hb hby d12_109) ?_
        show Sp p e below Tw13 (mkF m 110 #[.val (.ref a), .val (.int (2 : Int32)), .val (.int p0), .val (.int p1), .val (.int p2), .val (.int g0), .val (.int g1), .val (.int g2), .val (.int ng), .val (.ref ba1), .val (.int (2 : Int32))] [(.int (1 : Int32)), (.ref ba1), (.int p1)]) _
        refine Xw13.iaload hx (j := (1 : Int32)) (v := (.int p1)) (own_eq ew13 Arv18.1) (State.isArrayOf_alike hZ.alike Arv18.2.1) Arv18.2.2 in21 atin21 (g := (mkF m 110 #[.val (.ref a), .val (.int (2 : Int32)), .val (.int p0), .val (.int p1), .val (.int p2), .val (.int g0), .val (.int g1), .val (.int g2), .val (.int ng), .val (.ref ba1), .val (.int (2 : Int32))] [(.int (1 : Int32)), (.ref ba1), (.int p1)])) rfl rfl (hb hby d12_110) _ ?_
        show Sp p e below Tw13 (mkF m 111 #[.val (.ref a), .val (.int (2 : Int32)), .val (.int p0), .val (.int p1), .val (.int p2), .val (.int g0), .val (.int g1), .val (.int g2), .val (.int ng), .val (.ref ba1), .val (.int (2 : Int32))] [(.int p1), (.int p1)]) _
        refine XS.icmpNo Xw13.here hx rfl (hb hby d12_111) rfl (teq (rfl : p1 = p1)).2 ?_
        refine XS.iload Xw13.here hx rfl (hb hby d12_114) rfl ?_
        refine XS.iconst Xw13.here hx rfl (hb hby d12_116) ?_
        refine XS.icmpYes Xw13.here hx rfl (pc0 := 117) (pc' := 130) rfl (hb hby d12_117) rfl (tlt (by decide : (2 : Int32) < (3 : Int32))).1 (by decide) (by decide) ?_
        refine XS.iconst Xw13.here hx rfl (hb hby d12_130) ?_
        refine XS.goto Xw13.here hx rfl (pc0 := 131) (pc' := 135) rfl (hb hby d12_131) (by decide) (by decide) ?_
        show Sp p e below Tw13 (mkF m 135 #[.val (.ref a), .val (.int (2 : Int32)), .val (.int p0), .val (.int p1), .val (.int p2), .val (.int g0), .val (.int g1), .val (.int g2), .val (.int ng), .val (.ref ba1), .val (.int (2 : Int32))] [(.int (1 : Int32))]) _
        exact retN Xw13 hx (t := .boolean) hret (by simp) (hb hby d12_135) hlv
      · show Q_mat2 Z a p0 p1 p2 g0 g1 g2 ng k z vs h0 n0 _ Tw13.heap _
        rw [ew13]
        exact ⟨rfl, Nw13, K14⟩
    · have F22 := (f0.keep K8 nin0)
      obtain ⟨clv23, Arv23, qv23, Sv23, Nv23, Hv23, Gv23⟩ := id F22
      have hvs1 : vs = [(.int p0)] := by rw [hvs]; first | done | simp [own_f, c4, c10]
      have hz1 : z = (1 : Int32) := by rw [hz, hvs1]; first | done | rfl
      have in24 : ¬ ((0 : Int32) < 0 ∨ clv23.slots.size ≤ ((0 : Int32)).toNatClampNeg) := inb_of Sv23 ⟨by decide, by rw [hz1]; decide⟩
      have atin24 : clv23.slots[((0 : Int32)).toNatClampNeg]? = some (.int p0) := Has.at Hv23 in24 (by rw [hvs1]; rfl)
      obtain ⟨clv25, Arv25, qv25, Sv25, Nv25, Hv25, Gv25⟩ := id Vw7
      have in26 : ¬ ((0 : Int32) < 0 ∨ clv25.slots.size ≤ ((0 : Int32)).toNatClampNeg) := inb_of Sv25 ⟨by decide, by decide⟩
      have atin26 : clv25.slots[((0 : Int32)).toNatClampNeg]? = some (.int p0) := Has.at Hv25 in26 rfl
      obtain ⟨fs, hlv, hrun, hended, hW, hsame⟩ := Xw7.leave (v := some (.int (1 : Int32))) (fun h => by rw [hret] at h; cases h)
      refine ⟨_, _, r9 _ ?_, hrun, hended, _, _, rfl, ?_, ⟨_, rfl⟩, hW, hsame.mono (by decide) (by decide)⟩
      · refine XS.icmpYes Xw7.here hx rfl (pc0 := 37) (pc' := 49) rfl (hb hby d12_37) rfl (feq c10).2 (by decide) (by decide) ?_
        show Sp p e below Tw7 (mkF m 49 #[.val (.ref a), .val (.int (2 : Int32)), .val (.int p0), .val (.int p1), .val (.int p2), .val (.int g0), .val (.int g1), .val (.int g2), .val (.int ng), .val (.ref ba1), .val (.int (1 : Int32))] []) _
        refine XS.iloadN Xw7.here hx rfl (hb hby d12_49) rfl ?_
        refine XS.iconst Xw7.here hx rfl (hb hby d12_50) ?_
        refine XS.icmpYes Xw7.here hx rfl (pc0 := 51) (pc' := 71) rfl (hb hby d12_51) rfl (flt (by decide : ¬ ((2 : Int32) < (2 : Int32)))).2.2.2 (by decide) (by decide) ?_
        refine XS.aloadN Xw7.here hx rfl (hb hby d12_71) rfl rfl ?_
        refine XS.ifnullNo Xw7.here hx rfl (hb hby d12_72) rfl ?_
        refine XS.aloadN Xw7.here hx rfl (hb hby d12_75) rfl rfl ?_
        show Sp p e below Tw7 (mkF m 76 #[.val (.ref a), .val (.int (2 : Int32)), .val (.int p0), .val (.int p1), .val (.int p2), .val (.int g0), .val (.int g1), .val (.int g2), .val (.int ng), .val (.ref ba1), .val (.int (1 : Int32))] [(.ref a)]) _
        refine Xw7.arraylength hx (own_eq ew7 Arv23.1) (State.isArrayOf_alike hZ.alike Arv23.2.1) (g := (mkF m 76 #[.val (.ref a), .val (.int (2 : Int32)), .val (.int p0), .val (.int p1), .val (.int p2), .val (.int g0), .val (.int g1), .val (.int g2), .val (.int ng), .val (.ref ba1), .val (.int (1 : Int32))] [(.ref a)])) rfl rfl (hb hby d12_76) _ ?_
        rw [len_of Sv23 Nv23]
        show Sp p e below Tw7 (mkF m 77 #[.val (.ref a), .val (.int (2 : Int32)), .val (.int p0), .val (.int p1), .val (.int p2), .val (.int g0), .val (.int g1), .val (.int g2), .val (.int ng), .val (.ref ba1), .val (.int (1 : Int32))] [(.int z)]) _
        refine XS.iload Xw7.here hx rfl (hb hby d12_77) rfl ?_
        refine XS.icmpNo Xw7.here hx rfl (hb hby d12_79) rfl (teq hz1).2 ?_
        refine XS.iload Xw7.here hx rfl (hb hby d12_82) rfl ?_
        refine XS.iconst Xw7.here hx rfl (hb hby d12_84) ?_
        refine XS.icmpNo Xw7.here hx rfl (hb hby d12_85) rfl (flt (by decide : ¬ ((1 : Int32) < (1 : Int32)))).1 ?_
        refine XS.aloadN Xw7.here hx rfl (hb hby d12_88) rfl rfl ?_
        refine XS.iconst Xw7.here hx rfl (hb hby d12_89) ?_
        show Sp p e below Tw7 (mkF m 90 #[.val (.ref a), .val (.int (2 : Int32)), .val (.int p0), .val (.int p1), .val (.int p2), .val (.int g0), .val (.int g1), .val (.int g2), .val (.int ng), .val (.ref ba1), .val (.int (1 : Int32))] [(.int (0 : Int32)), (.ref a)]) _
        refine Xw7.iaload hx (j := (0 : Int32)) (v := (.int p0)) (own_eq ew7 Arv23.1) (State.isArrayOf_alike hZ.alike Arv23.2.1) Arv23.2.2 in24 atin24 (g := (mkF m 90 #[.val (.ref a), .val (.int (2 : Int32)), .val (.int p0), .val (.int p1), .val (.int p2), .val (.int g0), .val (.int g1), .val (.int g2), .val (.int ng), .val (.ref ba1), .val (.int (1 : Int32))] [(.int (0 : Int32)), (.ref a)])) rfl rfl (hb hby d12_90) _ ?_
        show Sp p e below Tw7 (mkF m 91 #[.val (.ref a), .val (.int (2 : Int32)), .val (.int p0), .val (.int p1), .val (.int p2), .val (.int g0), .val (.int g1), .val (.int g2), .val (.int ng), .val (.ref ba1), .val (.int (1 : Int32))] [(.int p0)]) _
        refine XS.aload Xw7.here hx rfl (hb hby d12_91) rfl rfl ?_
        refine XS.iconst Xw7.here hx rfl (hb hby d12_93) ?_
        show Sp p e below Tw7 (mkF m 94 #[.val (.ref a), .val (.int (2 : Int32)), .val (.int p0), .val (.int p1), .val (.int p2), .val (.int g0), .val (.int g1), .val (.int g2), .val (.int ng), .val (.ref ba1), .val (.int (1 : Int32))] [(.int (0 : Int32)), (.ref ba1), (.int p0)]) _
        refine Xw7.iaload hx (j := (0 : Int32)) (v := (.int p0)) (own_eq ew7 Arv25.1) (State.isArrayOf_alike hZ.alike Arv25.2.1) Arv25.2.2 in26 atin26 (g := (mkF m 94 #[.val (.ref a), .val (.int (2 : Int32)), .val (.int p0), .val (.int p1), .val (.int p2), .val (.int g0), .val (.int g1), .val (.int g2), .val (.int ng), .val (.ref ba1), .val (.int (1 : Int32))] [(.int (0 : Int32)), (.ref ba1), (.int p0)])) rfl rfl (hb hby d12_94) _ ?_
        show Sp p e below Tw7 (mkF m 95 #[.val (.ref a), .val (.int (2 : Int32)), .val (.int p0), .val (.int p1), .val (.int p2), .val (.int g0), .val (.int g1), .val (.int g2), .val (.int ng), .val (.ref ba1), .val (.int (1 : Int32))] [(.int p0), (.int p0)]) _
        refine XS.icmpNo Xw7.here hx rfl (hb hby d12_95) rfl (teq (rfl : p0 = p0)).2 ?_
        refine XS.iload Xw7.here hx rfl (hb hby d12_98) rfl ?_
        refine XS.iconst Xw7.here hx rfl (hb hby d12_100) ?_
        refine XS.icmpYes Xw7.here hx rfl (pc0 := 101) (pc' := 114) rfl (hb hby d12_101) rfl (tlt (by decide : (1 : Int32) < (2 : Int32))).1 (by decide) (by decide) ?_
        refine XS.iload Xw7.here hx rfl (hb hby d12_114) rfl ?_
        refine XS.iconst Xw7.here hx rfl (hb hby d12_116) ?_
        refine XS.icmpYes Xw7.here hx rfl (pc0 := 117) (pc' := 130) rfl (hb hby d12_117) rfl (tlt (by decide : (1 : Int32) < (3 : Int32))).1 (by decide) (by decide) ?_
        refine XS.iconst Xw7.here hx rfl (hb hby d12_130) ?_
        refine XS.goto Xw7.here hx rfl (pc0 := 131) (pc' := 135) rfl (hb hby d12_131) (by decide) (by decide) ?_
        show Sp p e below Tw7 (mkF m 135 #[.val (.ref a), .val (.int (2 : Int32)), .val (.int p0), .val (.int p1), .val (.int p2), .val (.int g0), .val (.int g1), .val (.int g2), .val (.int ng), .val (.ref ba1), .val (.int (1 : Int32))] [(.int (1 : Int32))]) _
        exact retN Xw7 hx (t := .boolean) hret (by simp) (hb hby d12_135) hlv
      · show Q_mat2 Z a p0 p1 p2 g0 g1 g2 ng k z vs h0 n0 _ Tw7.heap _
        rw [ew7]
        exact ⟨rfl, Nw7, K8⟩
  · have r27 : ∀ t_, Sp p e below Ta1 (mkF m 37 #[.val (.ref a), .val (.int (2 : Int32)), .val (.int p0), .val (.int p1), .val (.int p2), .val (.int g0), .val (.int g1), .val (.int g2), .val (.int ng), .val (.ref ba1), .val (.int (0 : Int32))] [(.int ng), (.int g1)]) t_ → Sp p e below s₁ (entryFrame m #[(.ref a), (.int (2 : Int32)), (.int p0), (.int p1), (.int p2), (.int g0), (.int g1), (.int g2), (.int ng)] 11) t_ := by
      intro t_ k_
      refine r3 _ ?_
      refine XS.icmpYes Xa1.here hx rfl (pc0 := 16) (pc' := 28) rfl (hb hby d12_16) rfl (feq c4).2 (by decide) (by decide) ?_
      refine XS.iloadN Xa1.here hx rfl (hb hby d12_28) rfl ?_
      refine XS.iconst Xa1.here hx rfl (hb hby d12_29) ?_
      refine XS.icmpNo Xa1.here hx rfl (hb hby d12_30) rfl (tlt (by decide : (1 : Int32) < (2 : Int32))).2.2.2 ?_
      refine XS.iload Xa1.here hx rfl (hb hby d12_33) rfl ?_
      refine XS.iload Xa1.here hx rfl (hb hby d12_35) rfl ?_
      show Sp p e below Ta1 (mkF m 37 #[.val (.ref a), .val (.int (2 : Int32)), .val (.int p0), .val (.int p1), .val (.int p2), .val (.int g0), .val (.int g1), .val (.int g2), .val (.int ng), .val (.ref ba1), .val (.int (0 : Int32))] [(.int ng), (.int g1)]) _
      exact k_
    by_cases c28 : g1 = ng
    · obtain ⟨clv29, Arv29, qv29, Sv29, Nv29, Hv29, Gv29⟩ := id Va1
      have in30 : ¬ ((0 : Int32) < 0 ∨ clv29.slots.size ≤ ((0 : Int32)).toNatClampNeg) := inb_of Sv29 ⟨by decide, by decide⟩
      obtain ⟨Tw31, hw31, Xw31, ew31, Ww31, stw31⟩ := stI Xa1 hx hZ ea1 Arv29 (j := (0 : Int32)) in30 (g := (mkF m 45 #[.val (.ref a), .val (.int (2 : Int32)), .val (.int p0), .val (.int p1), .val (.int p2), .val (.int g0), .val (.int g1), .val (.int g2), .val (.int ng), .val (.ref ba1), .val (.int (0 : Int32))] [(.int p1), (.int (0 : Int32)), (.ref ba1)])) rfl rfl (hb hby d12_45)
      have Vw31 : Arv Z hw31 ba1 ka1 .int (3 : Int32) [(.int p1), (.int (0 : Int32)), (.int (0 : Int32))] (.int (0 : Int32)) := Arv.set Arv29 qv29 Sv29 Nv29 Hv29 Gv29 rfl Ww31 0 rfl (Nat.le_of_ble_eq_true rfl)
      have Nw31 := Fr.snoc Xw31 N0 g_ba1
      have K32 : Keep h0 hw31 [] := K2.wr Ww31 (Or.inr y_ba1)
      have F33 := (f0.keep K32 nin0)
      obtain ⟨clv34, Arv34, qv34, Sv34, Nv34, Hv34, Gv34⟩ := id F33
      have hvs1 : vs = [(.int p1)] := by rw [hvs]; first | done | simp [own_f, c4, c28]
      have hz1 : z = (1 : Int32) := by rw [hz, hvs1]; first | done | rfl
      have in35 : ¬ ((0 : Int32) < 0 ∨ clv34.slots.size ≤ ((0 : Int32)).toNatClampNeg) := inb_of Sv34 ⟨by decide, by rw [hz1]; decide⟩
      have atin35 : clv34.slots[((0 : Int32)).toNatClampNeg]? = some (.int p1) := Has.at Hv34 in35 (by rw [hvs1]; rfl)
      obtain ⟨clv36, Arv36, qv36, Sv36, Nv36, Hv36, Gv36⟩ := id Vw31
      have in37 : ¬ ((0 : Int32) < 0 ∨ clv36.slots.size ≤ ((0 : Int32)).toNatClampNeg) := inb_of Sv36 ⟨by decide, by decide⟩
      have atin37 : clv36.slots[((0 : Int32)).toNatClampNeg]? = some (.int p1) := Has.at Hv36 in37 rfl
      obtain ⟨fs, hlv, hrun, hended, hW, hsame⟩ := Xw31.leave (v := some (.int (1 : Int32))) (fun h => by rw [hret] at h; cases h)
      refine ⟨_, _, r27 _ ?_, hrun, hended, _, _, rfl, ?_, ⟨_, rfl⟩, hW, hsame.mono (by decide) (by decide)⟩
      · refine XS.icmpNo Xa1.here hx rfl (hb hby d12_37) rfl (teq c28).2 ?_
        show Sp p e below Ta1 (mkF m 40 #[.val (.ref a), .val (.int (2 : Int32)), .val (.int p0), .val (.int p1), .val (.int p2), .val (.int g0), .val (.int g1), .val (.int g2), .val (.int ng), .val (.ref ba1), .val (.int (0 : Int32))] []) _
        refine XS.aload Xa1.here hx rfl (hb hby d12_40) rfl rfl ?_
        refine XS.iload Xa1.here hx rfl (hb hby d12_42) rfl ?_
        refine XS.iloadN Xa1.here hx rfl (hb hby d12_44) rfl ?_
        refine stw31 _ ?_
        refine XS.iinc Xw31.here hx rfl (hb hby d12_46) rfl (l' := #[.val (.ref a), .val (.int (2 : Int32)), .val (.int p0), .val (.int p1), .val (.int p2), .val (.int g0), .val (.int g1), .val (.int g2), .val (.int ng), .val (.ref ba1), .val (.int (1 : Int32))]) rfl ?_
        refine XS.iloadN Xw31.here hx rfl (hb hby d12_49) rfl ?_
        refine XS.iconst Xw31.here hx rfl (hb hby d12_50) ?_
        refine XS.icmpYes Xw31.here hx rfl (pc0 := 51) (pc' := 71) rfl (hb hby d12_51) rfl (flt (by decide : ¬ ((2 : Int32) < (2 : Int32)))).2.2.2 (by decide) (by decide) ?_
        refine XS.aloadN Xw31.here hx rfl (hb hby d12_71) rfl rfl ?_
        refine XS.ifnullNo Xw31.here hx rfl (hb hby d12_72) rfl ?_
        refine XS.aloadN Xw31.here hx rfl (hb hby d12_75) rfl rfl ?_
        show Sp p e below Tw31 (mkF m 76 #[.val (.ref a), .val (.int (2 : Int32)), .val (.int p0), .val (.int p1), .val (.int p2), .val (.int g0), .val (.int g1), .val (.int g2), .val (.int ng), .val (.ref ba1), .val (.int (1 : Int32))] [(.ref a)]) _
        refine Xw31.arraylength hx (own_eq ew31 Arv34.1) (State.isArrayOf_alike hZ.alike Arv34.2.1) (g := (mkF m 76 #[.val (.ref a), .val (.int (2 : Int32)), .val (.int p0), .val (.int p1), .val (.int p2), .val (.int g0), .val (.int g1), .val (.int g2), .val (.int ng), .val (.ref ba1), .val (.int (1 : Int32))] [(.ref a)])) rfl rfl (hb hby d12_76) _ ?_
        rw [len_of Sv34 Nv34]
        show Sp p e below Tw31 (mkF m 77 #[.val (.ref a), .val (.int (2 : Int32)), .val (.int p0), .val (.int p1), .val (.int p2), .val (.int g0), .val (.int g1), .val (.int g2), .val (.int ng), .val (.ref ba1), .val (.int (1 : Int32))] [(.int z)]) _
        refine XS.iload Xw31.here hx rfl (hb hby d12_77) rfl ?_
        refine XS.icmpNo Xw31.here hx rfl (hb hby d12_79) rfl (teq hz1).2 ?_
        refine XS.iload Xw31.here hx rfl (hb hby d12_82) rfl ?_
        refine XS.iconst Xw31.here hx rfl (hb hby d12_84) ?_
        refine XS.icmpNo Xw31.here hx rfl (hb hby d12_85) rfl (flt (by decide : ¬ ((1 : Int32) < (1 : Int32)))).1 ?_
        refine XS.aloadN Xw31.here hx rfl (hb hby d12_88) rfl rfl ?_
        refine XS.iconst Xw31.here hx rfl (hb hby d12_89) ?_
        show Sp p e below Tw31 (mkF m 90 #[.val (.ref a), .val (.int (2 : Int32)), .val (.int p0), .val (.int p1), .val (.int p2), .val (.int g0), .val (.int g1), .val (.int g2), .val (.int ng), .val (.ref ba1), .val (.int (1 : Int32))] [(.int (0 : Int32)), (.ref a)]) _
        refine Xw31.iaload hx (j := (0 : Int32)) (v := (.int p1)) (own_eq ew31 Arv34.1) (State.isArrayOf_alike hZ.alike Arv34.2.1) Arv34.2.2 in35 atin35 (g := (mkF m 90 #[.val (.ref a), .val (.int (2 : Int32)), .val (.int p0), .val (.int p1), .val (.int p2), .val (.int g0), .val (.int g1), .val (.int g2), .val (.int ng), .val (.ref ba1), .val (.int (1 : Int32))] [(.int (0 : Int32)), (.ref a)])) rfl rfl (hb hby d12_90) _ ?_
        show Sp p e below Tw31 (mkF m 91 #[.val (.ref a), .val (.int (2 : Int32)), .val (.int p0), .val (.int p1), .val (.int p2), .val (.int g0), .val (.int g1), .val (.int g2), .val (.int ng), .val (.ref ba1), .val (.int (1 : Int32))] [(.int p1)]) _
        refine XS.aload Xw31.here hx rfl (hb hby d12_91) rfl rfl ?_
        refine XS.iconst Xw31.here hx rfl (hb hby d12_93) ?_
        show Sp p e below Tw31 (mkF m 94 #[.val (.ref a), .val (.int (2 : Int32)), .val (.int p0), .val (.int p1), .val (.int p2), .val (.int g0), .val (.int g1), .val (.int g2), .val (.int ng), .val (.ref ba1), .val (.int (1 : Int32))] [(.int (0 : Int32)), (.ref ba1), (.int p1)]) _
        refine Xw31.iaload hx (j := (0 : Int32)) (v := (.int p1)) (own_eq ew31 Arv36.1) (State.isArrayOf_alike hZ.alike Arv36.2.1) Arv36.2.2 in37 atin37 (g := (mkF m 94 #[.val (.ref a), .val (.int (2 : Int32)), .val (.int p0), .val (.int p1), .val (.int p2), .val (.int g0), .val (.int g1), .val (.int g2), .val (.int ng), .val (.ref ba1), .val (.int (1 : Int32))] [(.int (0 : Int32)), (.ref ba1), (.int p1)])) rfl rfl (hb hby d12_94) _ ?_
        show Sp p e below Tw31 (mkF m 95 #[.val (.ref a), .val (.int (2 : Int32)), .val (.int p0), .val (.int p1), .val (.int p2), .val (.int g0), .val (.int g1), .val (.int g2), .val (.int ng), .val (.ref ba1), .val (.int (1 : Int32))] [(.int p1), (.int p1)]) _
        refine XS.icmpNo Xw31.here hx rfl (hb hby d12_95) rfl (teq (rfl : p1 = p1)).2 ?_
        refine XS.iload Xw31.here hx rfl (hb hby d12_98) rfl ?_
        refine XS.iconst Xw31.here hx rfl (hb hby d12_100) ?_
        refine XS.icmpYes Xw31.here hx rfl (pc0 := 101) (pc' := 114) rfl (hb hby d12_101) rfl (tlt (by decide : (1 : Int32) < (2 : Int32))).1 (by decide) (by decide) ?_
        refine XS.iload Xw31.here hx rfl (hb hby d12_114) rfl ?_
        refine XS.iconst Xw31.here hx rfl (hb hby d12_116) ?_
        refine XS.icmpYes Xw31.here hx rfl (pc0 := 117) (pc' := 130) rfl (hb hby d12_117) rfl (tlt (by decide : (1 : Int32) < (3 : Int32))).1 (by decide) (by decide) ?_
        refine XS.iconst Xw31.here hx rfl (hb hby d12_130) ?_
        refine XS.goto Xw31.here hx rfl (pc0 := 131) (pc' := 135) rfl (hb hby d12_131) (by decide) (by decide) ?_
        show Sp p e below Tw31 (mkF m 135 #[.val (.ref a), .val (.int (2 : Int32)), .val (.int p0), .val (.int p1), .val (.int p2), .val (.int g0), .val (.int g1), .val (.int g2), .val (.int ng), .val (.ref ba1), .val (.int (1 : Int32))] [(.int (1 : Int32))]) _
        exact retN Xw31 hx (t := .boolean) hret (by simp) (hb hby d12_135) hlv
      · show Q_mat2 Z a p0 p1 p2 g0 g1 g2 ng k z vs h0 n0 _ Tw31.heap _
        rw [ew31]
        exact ⟨rfl, Nw31, K32⟩
    · have F38 := (f0.keep K2 nin0)
      obtain ⟨clv39, Arv39, qv39, Sv39, Nv39, Hv39, Gv39⟩ := id F38
      have hvs1 : vs = [] := by rw [hvs]; first | done | simp [own_f, c4, c28]
      have hz1 : z = (0 : Int32) := by rw [hz, hvs1]; first | done | rfl
      obtain ⟨fs, hlv, hrun, hended, hW, hsame⟩ := Xa1.leave (v := some (.int (1 : Int32))) (fun h => by rw [hret] at h; cases h)
      refine ⟨_, _, r27 _ ?_, hrun, hended, _, _, rfl, ?_, ⟨_, rfl⟩, hW, hsame.mono (by decide) (by decide)⟩
      · refine XS.icmpYes Xa1.here hx rfl (pc0 := 37) (pc' := 49) rfl (hb hby d12_37) rfl (feq c28).2 (by decide) (by decide) ?_
        show Sp p e below Ta1 (mkF m 49 #[.val (.ref a), .val (.int (2 : Int32)), .val (.int p0), .val (.int p1), .val (.int p2), .val (.int g0), .val (.int g1), .val (.int g2), .val (.int ng), .val (.ref ba1), .val (.int (0 : Int32))] []) _
        refine XS.iloadN Xa1.here hx rfl (hb hby d12_49) rfl ?_
        refine XS.iconst Xa1.here hx rfl (hb hby d12_50) ?_
        refine XS.icmpYes Xa1.here hx rfl (pc0 := 51) (pc' := 71) rfl (hb hby d12_51) rfl (flt (by decide : ¬ ((2 : Int32) < (2 : Int32)))).2.2.2 (by decide) (by decide) ?_
        refine XS.aloadN Xa1.here hx rfl (hb hby d12_71) rfl rfl ?_
        refine XS.ifnullNo Xa1.here hx rfl (hb hby d12_72) rfl ?_
        refine XS.aloadN Xa1.here hx rfl (hb hby d12_75) rfl rfl ?_
        show Sp p e below Ta1 (mkF m 76 #[.val (.ref a), .val (.int (2 : Int32)), .val (.int p0), .val (.int p1), .val (.int p2), .val (.int g0), .val (.int g1), .val (.int g2), .val (.int ng), .val (.ref ba1), .val (.int (0 : Int32))] [(.ref a)]) _
        refine Xa1.arraylength hx (own_eq ea1 Arv39.1) (State.isArrayOf_alike hZ.alike Arv39.2.1) (g := (mkF m 76 #[.val (.ref a), .val (.int (2 : Int32)), .val (.int p0), .val (.int p1), .val (.int p2), .val (.int g0), .val (.int g1), .val (.int g2), .val (.int ng), .val (.ref ba1), .val (.int (0 : Int32))] [(.ref a)])) rfl rfl (hb hby d12_76) _ ?_
        rw [len_of Sv39 Nv39]
        show Sp p e below Ta1 (mkF m 77 #[.val (.ref a), .val (.int (2 : Int32)), .val (.int p0), .val (.int p1), .val (.int p2), .val (.int g0), .val (.int g1), .val (.int g2), .val (.int ng), .val (.ref ba1), .val (.int (0 : Int32))] [(.int z)]) _
        refine XS.iload Xa1.here hx rfl (hb hby d12_77) rfl ?_
        refine XS.icmpNo Xa1.here hx rfl (hb hby d12_79) rfl (teq hz1).2 ?_
        refine XS.iload Xa1.here hx rfl (hb hby d12_82) rfl ?_
        refine XS.iconst Xa1.here hx rfl (hb hby d12_84) ?_
        refine XS.icmpYes Xa1.here hx rfl (pc0 := 85) (pc' := 98) rfl (hb hby d12_85) rfl (tlt (by decide : (0 : Int32) < (1 : Int32))).1 (by decide) (by decide) ?_
        refine XS.iload Xa1.here hx rfl (hb hby d12_98) rfl ?_
        refine XS.iconst Xa1.here hx rfl (hb hby d12_100) ?_
        refine XS.icmpYes Xa1.here hx rfl (pc0 := 101) (pc' := 114) rfl (hb hby d12_101) rfl (tlt (by decide : (0 : Int32) < (2 : Int32))).1 (by decide) (by decide) ?_
        refine XS.iload Xa1.here hx rfl (hb hby d12_114) rfl ?_
        refine XS.iconst Xa1.here hx rfl (hb hby d12_116) ?_
        refine XS.icmpYes Xa1.here hx rfl (pc0 := 117) (pc' := 130) rfl (hb hby d12_117) rfl (tlt (by decide : (0 : Int32) < (3 : Int32))).1 (by decide) (by decide) ?_
        refine XS.iconst Xa1.here hx rfl (hb hby d12_130) ?_
        refine XS.goto Xa1.here hx rfl (pc0 := 131) (pc' := 135) rfl (hb hby d12_131) (by decide) (by decide) ?_
        show Sp p e below Ta1 (mkF m 135 #[.val (.ref a), .val (.int (2 : Int32)), .val (.int p0), .val (.int p1), .val (.int p2), .val (.int g0), .val (.int g1), .val (.int g2), .val (.int ng), .val (.ref ba1), .val (.int (0 : Int32))] [(.int (1 : Int32))]) _
        exact retN Xa1 hx (t := .boolean) hret (by simp) (hb hby d12_135) hlv
      · show Q_mat2 Z a p0 p1 p2 g0 g1 g2 ng k z vs h0 n0 _ Ta1.heap _
        rw [ea1]
        exact ⟨rfl, N0, K2⟩
def Q_mat3 (Z : State) (a : Addr) (p0 : Int32) (p1 : Int32) (p2 : Int32) (g0 : Int32) (g1 : Int32) (g2 : Int32) (ng : Int32) (k : ClassId) (z : Int32) (vs : List Value) (h0 : Heap) (n0 : Nat) (v : Option Value) (h : Heap) (L : List Loc) : Prop := v = some (.int (1 : Int32)) ∧ Fr n0 L ∧ Keep h0 h []
set_option maxRecDepth 65536 in
set_option maxHeartbeats 40000000 in
theorem rm_mat3 (l : Launch) (Z : State) (a0 : Array Value) (hw : ∀ d ∈ tables_1, d.before a0 Z = true) (ws : List Jvm.Cond) (a : Addr) (p0 : Int32) (p1 : Int32) (p2 : Int32) (g0 : Int32) (g1 : Int32) (g2 : Int32) (ng : Int32) (k : ClassId) (z : Int32) (vs : List Value) (h0 : Heap) (n0 : Nat) (Z0 : n0 ≤ h0.size) (O0 : Old Z n0 h0) (f0 : Arv Z h0 a k .int z vs (.int (0 : Int32))) (hvs : vs = own_f g0 ng p0 ++ own_f g1 ng p1 ++ own_f g2 ng p2) (hz : z = Int32.ofNat vs.length) :
    MetFree l Y37 (head1 (Jvm.Cond.code Y37 method_3_code 11 (some .boolean) :: ws) ({ frames := 0, cells := 1, slots := 3, locals := 0 } : Room)) (fun A_ U => A_ = #[(.ref a), (.int (3 : Int32)), (.int p0), (.int p1), (.int p2), (.int g0), (.int g1), (.int g2), (.int ng)] ∧ Z.Warmed39 U.vm ∧ U.heap = h0) (fun _ _ _ _ _ => True) (fun _ U o_ U' => ∃ v_ L_, o_ = .returned v_ ∧ Q_mat3 Z a p0 p1 p2 g0 g1 g2 ng k z vs h0 n0 v_ U'.heap L_ ∧ FrameEnd U o_ U' L_ ({ frames := 0, cells := 1, slots := 3, locals := 0 } : Room).cells ({ frames := 0, cells := 1, slots := 3, locals := 0 } : Room).slots) := by
  refine MetFree.of_bodySF (plainFor_of_name pn_11) hisR ?_
  intro p e s m args below meth c s₁ Bd hml0 hP hK
  obtain ⟨rfl, hZ, hh⟩ := hP
  have hx := Bd.exec
  have hby := Bd.bytes
  have hml : c.maxLocals = 11 := hml0
  have hown : s.vm.findClass "com/example/lassoo/lassoo/lang/TransitionLiteralsPinLaw" = some m.cls := findClass_of_methodNamed Bd.named
  have hnm := (name_of_methodNamed Bd.named Bd.method).1
  have hret := Bd.returns
  have X0 : Stand p l e ({ frames := 0, cells := 1, slots := 3, locals := 0 } : Room) s m #[(.ref a), (.int (3 : Int32)), (.int p0), (.int p1), (.int p2), (.int g0), (.int g1), (.int g2), (.int ng)] below meth c s₁ [] 0 0 := Stand.of_body Bd
  have e0 : s₁.heap = h0 := by rw [← hh, Bd.state]; rfl
  have N0 := Fr.nil n0
  have pre0 : ∀ t_, Sp p e below s₁ (mkF m 0 #[.val (.ref a), .val (.int (3 : Int32)), .val (.int p0), .val (.int p1), .val (.int p2), .val (.int g0), .val (.int g1), .val (.int g2), .val (.int ng), .unset, .unset] []) t_ → Sp p e below s₁ (entryFrame m #[(.ref a), (.int (3 : Int32)), (.int p0), (.int p1), (.int p2), (.int g0), (.int g1), (.int g2), (.int ng)] 11) t_ := fun t_ k_ => castTop (ef_12_RIIIIIIII m a (3 : Int32) p0 p1 p2 g0 g1 g2 ng) k_
  obtain ⟨Ta1, ha1, ka1, Xa1, ea1, Ea1, Aa1, Ba1, sta1⟩ := newPE X0 hx hZ (tw hw 86 rfl) e0 (g := (mkF m 1 #[.val (.ref a), .val (.int (3 : Int32)), .val (.int p0), .val (.int p1), .val (.int p2), .val (.int g0), .val (.int g1), .val (.int g2), .val (.int ng), .unset, .unset] [(.int (3 : Int32))])) rfl (hb hby d12_1) rfl (by decide) (cap := 3) (by decide) (by decide) (by decide) (by decide) (ad := "[I") (by decide)
  obtain ⟨ba1, ga1⟩ : ∃ z, z = h0.size := ⟨_, rfl⟩
  rw [← ga1] at Aa1 Ba1 sta1
  have g_ba1 : n0 ≤ ba1 := Nat.le_trans Z0 (Nat.le_of_eq ga1.symm)
  have y_ba1 : h0.size ≤ ba1 := Nat.le_trans (Nat.le_refl h0.size) (Nat.le_of_eq ga1.symm)
  have Va1 : Arv Z ha1 ba1 ka1 .int (3 : Int32) [(.int (0 : Int32)), (.int (0 : Int32)), (.int (0 : Int32))] (.int (0 : Int32)) := (Arv.new Aa1 (by decide)).pad (pad_rep [] (.int (0 : Int32)) 3)
  have K2 : Keep h0 ha1 [] := (Keep.refl h0 []).ext Ea1
  have r3 : ∀ t_, Sp p e below Ta1 (mkF m 16 #[.val (.ref a), .val (.int (3 : Int32)), .val (.int p0), .val (.int p1), .val (.int p2), .val (.int g0), .val (.int g1), .val (.int g2), .val (.int ng), .val (.ref ba1), .val (.int (0 : Int32))] [(.int ng), (.int g0)]) t_ → Sp p e below s₁ (entryFrame m #[(.ref a), (.int (3 : Int32)), (.int p0), (.int p1), (.int p2), (.int g0), (.int g1), (.int g2), (.int ng)] 11) t_ := by
    intro t_ k_
    refine pre0 _ ?_
    refine XS.iconst X0.here hx rfl (hb hby d12_0) ?_
    refine sta1 _ ?_
    refine XS.astore Xa1.here hx rfl (hb hby d12_3) rfl rfl (l' := #[.val (.ref a), .val (.int (3 : Int32)), .val (.int p0), .val (.int p1), .val (.int p2), .val (.int g0), .val (.int g1), .val (.int g2), .val (.int ng), .val (.ref ba1), .unset]) rfl ?_
    refine XS.iconst Xa1.here hx rfl (hb hby d12_5) ?_
    refine XS.istore Xa1.here hx rfl (hb hby d12_6) rfl (l' := #[.val (.ref a), .val (.int (3 : Int32)), .val (.int p0), .val (.int p1), .val (.int p2), .val (.int g0), .val (.int g1), .val (.int g2), .val (.int ng), .val (.ref ba1), .val (.int (0 : Int32))]) rfl ?_
    refine XS.iloadN Xa1.here hx rfl (hb hby d12_8) rfl ?_
    refine XS.ifNo Xa1.here hx rfl (hb hby d12_9) rfl ((if0 _ _).trans (tlt (by decide : (0 : Int32) < (3 : Int32))).2.2.2) ?_
    refine XS.iload Xa1.here hx rfl (hb hby d12_12) rfl ?_
    refine XS.iload Xa1.here hx rfl (hb hby d12_14) rfl ?_
    show Sp p e below Ta1 (mkF m 16 #[.val (.ref a), .val (.int (3 : Int32)), .val (.int p0), .val (.int p1), .val (.int p2), .val (.int g0), .val (.int g1), .val (.int g2), .val (.int ng), .val (.ref ba1), .val (.int (0 : Int32))] [(.int ng), (.int g0)]) _
    exact k_
  by_cases c4 : g0 = ng
  · obtain ⟨clv5, Arv5, qv5, Sv5, Nv5, Hv5, Gv5⟩ := id Va1
    have in6 : ¬ ((0 : Int32) < 0 ∨ clv5.slots.size ≤ ((0 : Int32)).toNatClampNeg) := inb_of Sv5 ⟨by decide, by decide⟩
    obtain ⟨Tw7, hw7, Xw7, ew7, Ww7, stw7⟩ := stI Xa1 hx hZ ea1 Arv5 (j := (0 : Int32)) in6 (g := (mkF m 24 #[.val (.ref a), .val (.int (3 : Int32)), .val (.int p0), .val (.int p1), .val (.int p2), .val (.int g0), .val (.int g1), .val (.int g2), .val (.int ng), .val (.ref ba1), .val (.int (0 : Int32))] [(.int p0), (.int (0 : Int32)), (.ref ba1)])) rfl rfl (hb hby d12_24)
    have Vw7 : Arv Z hw7 ba1 ka1 .int (3 : Int32) [(.int p0), (.int (0 : Int32)), (.int (0 : Int32))] (.int (0 : Int32)) := Arv.set Arv5 qv5 Sv5 Nv5 Hv5 Gv5 rfl Ww7 0 rfl (Nat.le_of_ble_eq_true rfl)
    have Nw7 := Fr.snoc Xw7 N0 g_ba1
    have K8 : Keep h0 hw7 [] := K2.wr Ww7 (Or.inr y_ba1)
    have r9 : ∀ t_, Sp p e below Tw7 (mkF m 37 #[.val (.ref a), .val (.int (3 : Int32)), .val (.int p0), .val (.int p1), .val (.int p2), .val (.int g0), .val (.int g1), .val (.int g2), .val (.int ng), .val (.ref ba1), .val (.int (1 : Int32))] [(.int ng), (.int g1)]) t_ → Sp p e below s₁ (entryFrame m #[(.ref a), (.int (3 : Int32)), (.int p0), (.int p1), (.int p2), (.int g0), (.int g1), (.int g2), (.int ng)] 11) t_ := by
      intro t_ k_
      refine r3 _ ?_
      refine XS.icmpNo Xa1.here hx rfl (hb hby d12_16) rfl (teq c4).2 ?_
      refine XS.aload Xa1.here hx rfl (hb hby d12_19) rfl rfl ?_
      refine XS.iload Xa1.here hx rfl (hb hby d12_21) rfl ?_
      refine XS.iloadN Xa1.here hx rfl (hb hby d12_23) rfl ?_
      refine stw7 _ ?_
      refine XS.iinc Xw7.here hx rfl (hb hby d12_25) rfl (l' := #[.val (.ref a), .val (.int (3 : Int32)), .val (.int p0), .val (.int p1), .val (.int p2), .val (.int g0), .val (.int g1), .val (.int g2), .val (.int ng), .val (.ref ba1), .val (.int (1 : Int32))]) rfl ?_
      refine XS.iloadN Xw7.here hx rfl (hb hby d12_28) rfl ?_
      refine XS.iconst Xw7.here hx rfl (hb hby d12_29) ?_
      refine XS.icmpNo Xw7.here hx rfl (hb hby d12_30) rfl (tlt (by decide : (1 : Int32) < (3 : Int32))).2.2.2 ?_
      refine XS.iload Xw7.here hx rfl (hb hby d12_33) rfl ?_
      refine XS.iload Xw7.here hx rfl (hb hby d12_35) rfl ?_
      show Sp p e below Tw7 (mkF m 37 #[.val (.ref a), .val (.int (3 : Int32)), .val (.int p0), .val (.int p1), .val (.int p2), .val (.int g0), .val (.int g1), .val (.int g2), .val (.int ng), .val (.ref ba1), .val (.int (1 : Int32))] [(.int ng), (.int g1)]) _
      exact k_
    by_cases c10 : g1 = ng
    · obtain ⟨clv11, Arv11, qv11, Sv11, Nv11, Hv11, Gv11⟩ := id Vw7
      have in12 : ¬ ((1 : Int32) < 0 ∨ clv11.slots.size ≤ ((1 : Int32)).toNatClampNeg) := inb_of Sv11 ⟨by decide, by decide⟩
      obtain ⟨Tw13, hw13, Xw13, ew13, Ww13, stw13⟩ := stI Xw7 hx hZ ew7 Arv11 (j := (1 : Int32)) in12 (g := (mkF m 45 #[.val (.ref a), .val (.int (3 : Int32)), .val (.int p0), .val (.int p1), .val (.int p2), .val (.int g0), .val (.int g1), .val (.int g2), .val (.int ng), .val (.ref ba1), .val (.int (1 : Int32))] [(.int p1), (.int (1 : Int32)), (.ref ba1)])) rfl rfl (hb hby d12_45)
      have Vw13 : Arv Z hw13 ba1 ka1 .int (3 : Int32) [(.int p0), (.int p1), (.int (0 : Int32))] (.int (0 : Int32)) := Arv.set Arv11 qv11 Sv11 Nv11 Hv11 Gv11 rfl Ww13 1 rfl (Nat.le_of_ble_eq_true rfl)
      have Nw13 := Fr.snoc Xw13 Nw7 g_ba1
      have K14 : Keep h0 hw13 [] := K8.wr Ww13 (Or.inr y_ba1)
      have r15 : ∀ t_, Sp p e below Tw13 (mkF m 58 #[.val (.ref a), .val (.int (3 : Int32)), .val (.int p0), .val (.int p1), .val (.int p2), .val (.int g0), .val (.int g1), .val (.int g2), .val (.int ng), .val (.ref ba1), .val (.int (2 : Int32))] [(.int ng), (.int g2)]) t_ → Sp p e below s₁ (entryFrame m #[(.ref a), (.int (3 : Int32)), (.int p0), (.int p1), (.int p2), (.int g0), (.int g1), (.int g2), (.int ng)] 11) t_ := by
        intro t_ k_
        refine r9 _ ?_
        refine XS.icmpNo Xw7.here hx rfl (hb hby d12_37) rfl (teq c10).2 ?_
        refine XS.aload Xw7.here hx rfl (hb hby d12_40) rfl rfl ?_
        refine XS.iload Xw7.here hx rfl (hb hby d12_42) rfl ?_
        refine XS.iloadN Xw7.here hx rfl (hb hby d12_44) rfl ?_
        refine stw13 _ ?_
        refine XS.iinc Xw13.here hx rfl (hb hby d12_46) rfl (l' := #[.val (.ref a), .val (.int (3 : Int32)), .val (.int p0), .val (.int p1), .val (.int p2), .val (.int g0), .val (.int g1), .val (.int g2), .val (.int ng), .val (.ref ba1), .val (.int (2 : Int32))]) rfl ?_
        refine XS.iloadN Xw13.here hx rfl (hb hby d12_49) rfl ?_
        refine XS.iconst Xw13.here hx rfl (hb hby d12_50) ?_
        refine XS.icmpNo Xw13.here hx rfl (hb hby d12_51) rfl (tlt (by decide : (2 : Int32) < (3 : Int32))).2.2.2 ?_
        refine XS.iload Xw13.here hx rfl (hb hby d12_54) rfl ?_
        refine XS.iload Xw13.here hx rfl (hb hby d12_56) rfl ?_
        show Sp p e below Tw13 (mkF m 58 #[.val (.ref a), .val (.int (3 : Int32)), .val (.int p0), .val (.int p1), .val (.int p2), .val (.int g0), .val (.int g1), .val (.int g2), .val (.int ng), .val (.ref ba1), .val (.int (2 : Int32))] [(.int ng), (.int g2)]) _
        exact k_
      by_cases c16 : g2 = ng
      · obtain ⟨clv17, Arv17, qv17, Sv17, Nv17, Hv17, Gv17⟩ := id Vw13
        have in18 : ¬ ((2 : Int32) < 0 ∨ clv17.slots.size ≤ ((2 : Int32)).toNatClampNeg) := inb_of Sv17 ⟨by decide, by decide⟩
        obtain ⟨Tw19, hw19, Xw19, ew19, Ww19, stw19⟩ := stI Xw13 hx hZ ew13 Arv17 (j := (2 : Int32)) in18 (g := (mkF m 67 #[.val (.ref a), .val (.int (3 : Int32)), .val (.int p0), .val (.int p1), .val (.int p2), .val (.int g0), .val (.int g1), .val (.int g2), .val (.int ng), .val (.ref ba1), .val (.int (2 : Int32))] [(.int p2), (.int (2 : Int32)), (.ref ba1)])) rfl rfl (hb hby d12_67)
        have Vw19 : Arv Z hw19 ba1 ka1 .int (3 : Int32) [(.int p0), (.int p1), (.int p2)] (.int (0 : Int32)) := Arv.set Arv17 qv17 Sv17 Nv17 Hv17 Gv17 rfl Ww19 2 rfl (Nat.le_of_ble_eq_true rfl)
        have Nw19 := Fr.snoc Xw19 Nw13 g_ba1
        have K20 : Keep h0 hw19 [] := K14.wr Ww19 (Or.inr y_ba1)
        have F21 := (f0.keep K20 nin0)
        obtain ⟨clv22, Arv22, qv22, Sv22, Nv22, Hv22, Gv22⟩ := id F21
        have hvs1 : vs = [(.int p0), (.int p1), (.int p2)] := by rw [hvs]; first | done | simp [own_f, c4, c10, c16]
        have hz1 : z = (3 : Int32) := by rw [hz, hvs1]; first | done | rfl
        have in23 : ¬ ((0 : Int32) < 0 ∨ clv22.slots.size ≤ ((0 : Int32)).toNatClampNeg) := inb_of Sv22 ⟨by decide, by rw [hz1]; decide⟩
        have atin23 : clv22.slots[((0 : Int32)).toNatClampNeg]? = some (.int p0) := Has.at Hv22 in23 (by rw [hvs1]; rfl)
        obtain ⟨clv24, Arv24, qv24, Sv24, Nv24, Hv24, Gv24⟩ := id Vw19
        have in25 : ¬ ((0 : Int32) < 0 ∨ clv24.slots.size ≤ ((0 : Int32)).toNatClampNeg) := inb_of Sv24 ⟨by decide, by decide⟩
        have atin25 : clv24.slots[((0 : Int32)).toNatClampNeg]? = some (.int p0) := Has.at Hv24 in25 rfl
        have in26 : ¬ ((1 : Int32) < 0 ∨ clv22.slots.size ≤ ((1 : Int32)).toNatClampNeg) := inb_of Sv22 ⟨by decide, by rw [hz1]; decide⟩
        have atin26 : clv22.slots[((1 : Int32)).toNatClampNeg]? = some (.int p1) := Has.at Hv22 in26 (by rw [hvs1]; rfl)
        have in27 : ¬ ((1 : Int32) < 0 ∨ clv24.slots.size ≤ ((1 : Int32)).toNatClampNeg) := inb_of Sv24 ⟨by decide, by decide⟩
        have atin27 : clv24.slots[((1 : Int32)).toNatClampNeg]? = some (.int p1) := Has.at Hv24 in27 rfl
        have in28 : ¬ ((2 : Int32) < 0 ∨ clv22.slots.size ≤ ((2 : Int32)).toNatClampNeg) := inb_of Sv22 ⟨by decide, by rw [hz1]; decide⟩
        have atin28 : clv22.slots[((2 : Int32)).toNatClampNeg]? = some (.int p2) := Has.at Hv22 in28 (by rw [hvs1]; rfl)
        have in29 : ¬ ((2 : Int32) < 0 ∨ clv24.slots.size ≤ ((2 : Int32)).toNatClampNeg) := inb_of Sv24 ⟨by decide, by decide⟩
        have atin29 : clv24.slots[((2 : Int32)).toNatClampNeg]? = some (.int p2) := Has.at Hv24 in29 rfl
        obtain ⟨fs, hlv, hrun, hended, hW, hsame⟩ := Xw19.leave (v := some (.int (1 : Int32))) (fun h => by rw [hret] at h; cases h)
        refine ⟨_, _, r15 _ ?_, hrun, hended, _, _, rfl, ?_, ⟨_, rfl⟩, hW, hsame.mono (by decide) (by decide)⟩
        · refine XS.icmpNo Xw13.here hx rfl (hb hby d12_58) rfl (teq c16).2 ?_
          show Sp p e below Tw13 (mkF m 61 #[.val (.ref a), .val (.int (3 : Int32)), .val (.int p0), .val (.int p1), .val (.int p2), .val (.int g0), .val (.int g1), .val (.int g2), .val (.int ng), .val (.ref ba1), .val (.int (2 : Int32))] []) _
          refine XS.aload Xw13.here hx rfl (hb hby d12_61) rfl rfl ?_
          refine XS.iload Xw13.here hx rfl (hb hby d12_63) rfl ?_
          refine XS.iload Xw13.here hx rfl (hb hby d12_65) rfl ?_
          refine stw19 _ ?_
          refine XS.iinc Xw19.here hx rfl (hb hby d12_68) rfl (l' := #[.val (.ref a), .val (.int (3 : Int32)), .val (.int p0), .val (.int p1), .val (.int p2), .val (.int g0), .val (.int g1), .val (.int g2), .val (.int ng), .val (.ref ba1), .val (.int (3 : Int32))]) rfl ?_
          refine XS.aloadN Xw19.here hx rfl (hb hby d12_71) rfl rfl ?_
          refine XS.ifnullNo Xw19.here hx rfl (hb hby d12_72) rfl ?_
          refine XS.aloadN Xw19.here hx rfl (hb hby d12_75) rfl rfl ?_
          show Sp p e below Tw19 (mkF m 76 #[.val (.ref a), .val (.int (3 : Int32)), .val (.int p0), .val (.int p1), .val (.int p2), .val (.int g0), .val (.int g1), .val (.int g2), .val (.int ng), .val (.ref ba1), .val (.int (3 : Int32))] [(.ref a)]) _
          refine Xw19.arraylength hx (own_eq ew19 Arv22.1) (State.isArrayOf_alike hZ.alike Arv22.2.1) (g := (mkF m 76 #[.val (.ref a), .val (.int (3 : Int32)), .val (.int p0), .val (.int p1), .val (.int p2), .val (.int g0), .val (.int g1), .val (.int g2), .val (.int ng), .val (.ref ba1), .val (.int (3 : Int32))] [(.ref a)])) rfl rfl (hb hby d12_76) _ ?_
          rw [len_of Sv22 Nv22]
          show Sp p e below Tw19 (mkF m 77 #[.val (.ref a), .val (.int (3 : Int32)), .val (.int p0), .val (.int p1), .val (.int p2), .val (.int g0), .val (.int g1), .val (.int g2), .val (.int ng), .val (.ref ba1), .val (.int (3 : Int32))] [(.int z)]) _
          refine XS.iload Xw19.here hx rfl (hb hby d12_77) rfl ?_
          refine XS.icmpNo Xw19.here hx rfl (hb hby d12_79) rfl (teq hz1).2 ?_
          refine XS.iload Xw19.here hx rfl (hb hby d12_82) rfl ?_
          refine XS.iconst Xw19.here hx rfl (hb hby d12_84) ?_
          refine XS.icmpNo Xw19.here hx rfl (hb hby d12_85) rfl (flt (by decide : ¬ ((3 : Int32) < (1 : Int32)))).1 ?_
          refine XS.aloadN Xw19.here hx rfl (hb hby d12_88) rfl rfl ?_
          refine XS.iconst Xw19.here hx rfl (hb hby d12_89) ?_
          show Sp p e below Tw19 (mkF m 90 #[.val (.ref a), .val (.int (3 : Int32)), .val (.int p0), .val (.int p1), .val (.int p2), .val (.int g0), .val (.int g1), .val (.int g2), .val (.int ng), .val (.ref ba1), .val (.int (3 : Int32))] [(.int (0 : Int32)), (.ref a)]) _
          refine Xw19.iaload hx (j := (0 : Int32)) (v := (.int p0)) (own_eq ew19 Arv22.1) (State.isArrayOf_alike hZ.alike Arv22.2.1) Arv22.2.2 in23 atin23 (g := (mkF m 90 #[.val (.ref a), .val (.int (3 : Int32)), .val (.int p0), .val (.int p1), .val (.int p2), .val (.int g0), .val (.int g1), .val (.int g2), .val (.int ng), .val (.ref ba1), .val (.int (3 : Int32))] [(.int (0 : Int32)), (.ref a)])) rfl rfl (hb hby d12_90) _ ?_
          show Sp p e below Tw19 (mkF m 91 #[.val (.ref a), .val (.int (3 : Int32)), .val (.int p0), .val (.int p1), .val (.int p2), .val (.int g0), .val (.int g1), .val (.int g2), .val (.int ng), .val (.ref ba1), .val (.int (3 : Int32))] [(.int p0)]) _
          refine XS.aload Xw19.here hx rfl (hb hby d12_91) rfl rfl ?_
          refine XS.iconst Xw19.here hx rfl (hb hby d12_93) ?_
          show Sp p e below Tw19 (mkF m 94 #[.val (.ref a), .val (.int (3 : Int32)), .val (.int p0), .val (.int p1), .val (.int p2), .val (.int g0), .val (.int g1), .val (.int g2), .val (.int ng), .val (.ref ba1), .val (.int (3 : Int32))] [(.int (0 : Int32)), (.ref ba1), (.int p0)]) _
          refine Xw19.iaload hx (j := (0 : Int32)) (v := (.int p0)) (own_eq ew19 Arv24.1) (State.isArrayOf_alike hZ.alike Arv24.2.1) Arv24.2.2 in25 atin25 (g := (mkF m 94 #[.val (.ref a), .val (.int (3 : Int32)), .val (.int p0), .val (.int p1), .val (.int p2), .val (.int g0), .val (.int g1), .val (.int g2), .val (.int ng), .val (.ref ba1), .val (.int (3 : Int32))] [(.int (0 : Int32)), (.ref ba1), (.int p0)])) rfl rfl (hb hby d12_94) _ ?_
          show Sp p e below Tw19 (mkF m 95 #[.val (.ref a), .val (.int (3 : Int32)), .val (.int p0), .val (.int p1), .val (.int p2), .val (.int g0), .val (.int g1), .val (.int g2), .val (.int ng), .val (.ref ba1), .val (.int (3 : Int32))] [(.int p0), (.int p0)]) _
          refine XS.icmpNo Xw19.here hx rfl (hb hby d12_95) rfl (teq (rfl : p0 = p0)).2 ?_
          refine XS.iload Xw19.here hx rfl (hb hby d12_98) rfl ?_
          refine XS.iconst Xw19.here hx rfl (hb hby d12_100) ?_
          refine XS.icmpNo Xw19.here hx rfl (hb hby d12_101) rfl (flt (by decide : ¬ ((3 : Int32) < (2 : Int32)))).1 ?_
          refine XS.aloadN Xw19.here hx rfl (hb hby d12_104) rfl rfl ?_
          refine XS.iconst Xw19.here hx rfl (hb hby d12_105) ?_
          show Sp p e below Tw19 (mkF m 106 #[.val (.ref a), .val (.int (3 : Int32)), .val (.int p0), .val (.int p1), .val (.int p2), .val (.int g0), .val (.int g1), .val (.int g2), .val (.int ng), .val (.ref ba1), .val (.int (3 : Int32))] [(.int (1 : Int32)), (.ref a)]) _
          refine Xw19.iaload hx (j := (1 : Int32)) (v := (.int p1)) (own_eq ew19 Arv22.1) (State.isArrayOf_alike hZ.alike Arv22.2.1) Arv22.2.2 in26 atin26 (g := (mkF m 106 #[.val (.ref a), .val (.int (3 : Int32)), .val (.int p0), .val (.int p1), .val (.int p2), .val (.int g0), .val (.int g1), .val (.int g2), .val (.int ng), .val (.ref ba1), .val (.int (3 : Int32))] [(.int (1 : Int32)), (.ref a)])) rfl rfl (hb hby d12_106) _ ?_
          show Sp p e below Tw19 (mkF m 107 #[.val (.ref a), .val (.int (3 : Int32)), .val (.int p0), .val (.int p1), .val (.int p2), .val (.int g0), .val (.int g1), .val (.int g2), .val (.int ng), .val (.ref ba1), .val (.int (3 : Int32))] [(.int p1)]) _
          refine XS.aload Xw19.here hx rfl (hb hby d12_107) rfl rfl ?_
          refine XS.iconst Xw19.here hx rfl (hb hby d12_109) ?_
          show Sp p e below Tw19 (mkF m 110 #[.val (.ref a), .val (.int (3 : Int32)), .val (.int p0), .val (.int p1), .val (.int p2), .val (.int g0), .val (.int g1), .val (.int g2), .val (.int ng), .val (.ref ba1), .val (.int (3 : Int32))] [(.int (1 : Int32)), (.ref ba1), (.int p1)]) _
          refine Xw19.iaload hx (j := (1 : Int32)) (v := (.int p1)) (own_eq ew19 Arv24.1) (State.isArrayOf_alike hZ.alike Arv24.2.1) Arv24.2.2 in27 atin27 (g := (mkF m 110 #[.val (.ref a), .val (.int (3 : Int32)), .val (.int p0), .val (.int p1), .val (.int p2), .val (.int g0), .val (.int g1), .val (.int g2), .val (.int ng), .val (.ref ba1), .val (.int (3 : Int32))] [(.int (1 : Int32)), (.ref ba1), (.int p1)])) rfl rfl (hb hby d12_110) _ ?_
          show Sp p e below Tw19 (mkF m 111 #[.val (.ref a), .val (.int (3 : Int32)), .val (.int p0), .val (.int p1), .val (.int p2), .val (.int g0), .val (.int g1), .val (.int g2), .val (.int ng), .val (.ref ba1), .val (.int (3 : Int32))] [(.int p1), (.int p1)]) _
          refine XS.icmpNo Xw19.here hx rfl (hb hby d12_111) rfl (teq (rfl : p1 = p1)).2 ?_
          refine XS.iload Xw19.here hx rfl (hb hby d12_114) rfl ?_
          refine XS.iconst Xw19.here hx rfl (hb hby d12_116) ?_
          refine XS.icmpNo Xw19.here hx rfl (hb hby d12_117) rfl (flt (by decide : ¬ ((3 : Int32) < (3 : Int32)))).1 ?_
          refine XS.aloadN Xw19.here hx rfl (hb hby d12_120) rfl rfl ?_
          refine XS.iconst Xw19.here hx rfl (hb hby d12_121) ?_
          show Sp p e below Tw19 (mkF m 122 #[.val (.ref a), .val (.int (3 : Int32)), .val (.int p0), .val (.int p1), .val (.int p2), .val (.int g0), .val (.int g1), .val (.int g2), .val (.int ng), .val (.ref ba1), .val (.int (3 : Int32))] [(.int (2 : Int32)), (.ref a)]) _
          refine Xw19.iaload hx (j := (2 : Int32)) (v := (.int p2)) (own_eq ew19 Arv22.1) (State.isArrayOf_alike hZ.alike Arv22.2.1) Arv22.2.2 in28 atin28 (g := (mkF m 122 #[.val (.ref a), .val (.int (3 : Int32)), .val (.int p0), .val (.int p1), .val (.int p2), .val (.int g0), .val (.int g1), .val (.int g2), .val (.int ng), .val (.ref ba1), .val (.int (3 : Int32))] [(.int (2 : Int32)), (.ref a)])) rfl rfl (hb hby d12_122) _ ?_
          show Sp p e below Tw19 (mkF m 123 #[.val (.ref a), .val (.int (3 : Int32)), .val (.int p0), .val (.int p1), .val (.int p2), .val (.int g0), .val (.int g1), .val (.int g2), .val (.int ng), .val (.ref ba1), .val (.int (3 : Int32))] [(.int p2)]) _
          refine XS.aload Xw19.here hx rfl (hb hby d12_123) rfl rfl ?_
          refine XS.iconst Xw19.here hx rfl (hb hby d12_125) ?_
          show Sp p e below Tw19 (mkF m 126 #[.val (.ref a), .val (.int (3 : Int32)), .val (.int p0), .val (.int p1), .val (.int p2), .val (.int g0), .val (.int g1), .val (.int g2), .val (.int ng), .val (.ref ba1), .val (.int (3 : Int32))] [(.int (2 : Int32)), (.ref ba1), (.int p2)]) _
          refine Xw19.iaload hx (j := (2 : Int32)) (v := (.int p2)) (own_eq ew19 Arv24.1) (State.isArrayOf_alike hZ.alike Arv24.2.1) Arv24.2.2 in29 atin29 (g := (mkF m 126 #[.val (.ref a), .val (.int (3 : Int32)), .val (.int p0), .val (.int p1), .val (.int p2), .val (.int g0), .val (.int g1), .val (.int g2), .val (.int ng), .val (.ref ba1), .val (.int (3 : Int32))] [(.int (2 : Int32)), (.ref ba1), (.int p2)])) rfl rfl (hb hby d12_126) _ ?_
          show Sp p e below Tw19 (mkF m 127 #[.val (.ref a), .val (.int (3 : Int32)), .val (.int p0), .val (.int p1), .val (.int p2), .val (.int g0), .val (.int g1), .val (.int g2), .val (.int ng), .val (.ref ba1), .val (.int (3 : Int32))] [(.int p2), (.int p2)]) _
          refine XS.icmpNo Xw19.here hx rfl (hb hby d12_127) rfl (teq (rfl : p2 = p2)).2 ?_
          refine XS.iconst Xw19.here hx rfl (hb hby d12_130) ?_
          refine XS.goto Xw19.here hx rfl (pc0 := 131) (pc' := 135) rfl (hb hby d12_131) (by decide) (by decide) ?_
          show Sp p e below Tw19 (mkF m 135 #[.val (.ref a), .val (.int (3 : Int32)), .val (.int p0), .val (.int p1), .val (.int p2), .val (.int g0), .val (.int g1), .val (.int g2), .val (.int ng), .val (.ref ba1), .val (.int (3 : Int32))] [(.int (1 : Int32))]) _
          exact retN Xw19 hx (t := .boolean) hret (by simp) (hb hby d12_135) hlv
        · show Q_mat3 Z a p0 p1 p2 g0 g1 g2 ng k z vs h0 n0 _ Tw19.heap _
          rw [ew19]
          exact ⟨rfl, Nw19, K20⟩
      · have F30 := (f0.keep K14 nin0)
        obtain ⟨clv31, Arv31, qv31, Sv31, Nv31, Hv31, Gv31⟩ := id F30
        have hvs1 : vs = [(.int p0), (.int p1)] := by rw [hvs]; first | done | simp [own_f, c4, c10, c16]
        have hz1 : z = (2 : Int32) := by rw [hz, hvs1]; first | done | rfl
        have in32 : ¬ ((0 : Int32) < 0 ∨ clv31.slots.size ≤ ((0 : Int32)).toNatClampNeg) := inb_of Sv31 ⟨by decide, by rw [hz1]; decide⟩
        have atin32 : clv31.slots[((0 : Int32)).toNatClampNeg]? = some (.int p0) := Has.at Hv31 in32 (by rw [hvs1]; rfl)
        obtain ⟨clv33, Arv33, qv33, Sv33, Nv33, Hv33, Gv33⟩ := id Vw13
        have in34 : ¬ ((0 : Int32) < 0 ∨ clv33.slots.size ≤ ((0 : Int32)).toNatClampNeg) := inb_of Sv33 ⟨by decide, by decide⟩
        have atin34 : clv33.slots[((0 : Int32)).toNatClampNeg]? = some (.int p0) := Has.at Hv33 in34 rfl
        have in35 : ¬ ((1 : Int32) < 0 ∨ clv31.slots.size ≤ ((1 : Int32)).toNatClampNeg) := inb_of Sv31 ⟨by decide, by rw [hz1]; decide⟩
        have atin35 : clv31.slots[((1 : Int32)).toNatClampNeg]? = some (.int p1) := Has.at Hv31 in35 (by rw [hvs1]; rfl)
        have in36 : ¬ ((1 : Int32) < 0 ∨ clv33.slots.size ≤ ((1 : Int32)).toNatClampNeg) := inb_of Sv33 ⟨by decide, by decide⟩
        have atin36 : clv33.slots[((1 : Int32)).toNatClampNeg]? = some (.int p1) := Has.at Hv33 in36 rfl
        obtain ⟨fs, hlv, hrun, hended, hW, hsame⟩ := Xw13.leave (v := some (.int (1 : Int32))) (fun h => by rw [hret] at h; cases h)
        refine ⟨_, _, r15 _ ?_, hrun, hended, _, _, rfl, ?_, ⟨_, rfl⟩, hW, hsame.mono (by decide) (by decide)⟩
        · refine XS.icmpYes Xw13.here hx rfl (pc0 := 58) (pc' := 71) rfl (hb hby d12_58) rfl (feq c16).2 (by decide) (by decide) ?_
          show Sp p e below Tw13 (mkF m 71 #[.val (.ref a), .val (.int (3 : Int32)), .val (.int p0), .val (.int p1), .val (.int p2), .val (.int g0), .val (.int g1), .val (.int g2), .val (.int ng), .val (.ref ba1), .val (.int (2 : Int32))] []) _
          refine XS.aloadN Xw13.here hx rfl (hb hby d12_71) rfl rfl ?_
          refine XS.ifnullNo Xw13.here hx rfl (hb hby d12_72) rfl ?_
          refine XS.aloadN Xw13.here hx rfl (hb hby d12_75) rfl rfl ?_
          show Sp p e below Tw13 (mkF m 76 #[.val (.ref a), .val (.int (3 : Int32)), .val (.int p0), .val (.int p1), .val (.int p2), .val (.int g0), .val (.int g1), .val (.int g2), .val (.int ng), .val (.ref ba1), .val (.int (2 : Int32))] [(.ref a)]) _
          refine Xw13.arraylength hx (own_eq ew13 Arv31.1) (State.isArrayOf_alike hZ.alike Arv31.2.1) (g := (mkF m 76 #[.val (.ref a), .val (.int (3 : Int32)), .val (.int p0), .val (.int p1), .val (.int p2), .val (.int g0), .val (.int g1), .val (.int g2), .val (.int ng), .val (.ref ba1), .val (.int (2 : Int32))] [(.ref a)])) rfl rfl (hb hby d12_76) _ ?_
          rw [len_of Sv31 Nv31]
          show Sp p e below Tw13 (mkF m 77 #[.val (.ref a), .val (.int (3 : Int32)), .val (.int p0), .val (.int p1), .val (.int p2), .val (.int g0), .val (.int g1), .val (.int g2), .val (.int ng), .val (.ref ba1), .val (.int (2 : Int32))] [(.int z)]) _
          refine XS.iload Xw13.here hx rfl (hb hby d12_77) rfl ?_
          refine XS.icmpNo Xw13.here hx rfl (hb hby d12_79) rfl (teq hz1).2 ?_
          refine XS.iload Xw13.here hx rfl (hb hby d12_82) rfl ?_
          refine XS.iconst Xw13.here hx rfl (hb hby d12_84) ?_
          refine XS.icmpNo Xw13.here hx rfl (hb hby d12_85) rfl (flt (by decide : ¬ ((2 : Int32) < (1 : Int32)))).1 ?_
          refine XS.aloadN Xw13.here hx rfl (hb hby d12_88) rfl rfl ?_
          refine XS.iconst Xw13.here hx rfl (hb hby d12_89) ?_
          show Sp p e below Tw13 (mkF m 90 #[.val (.ref a), .val (.int (3 : Int32)), .val (.int p0), .val (.int p1), .val (.int p2), .val (.int g0), .val (.int g1), .val (.int g2), .val (.int ng), .val (.ref ba1), .val (.int (2 : Int32))] [(.int (0 : Int32)), (.ref a)]) _
          refine Xw13.iaload hx (j := (0 : Int32)) (v := (.int p0)) (own_eq ew13 Arv31.1) (State.isArrayOf_alike hZ.alike Arv31.2.1) Arv31.2.2 in32 atin32 (g := (mkF m 90 #[.val (.ref a), .val (.int (3 : Int32)), .val (.int p0), .val (.int p1), .val (.int p2), .val (.int g0), .val (.int g1), .val (.int g2), .val (.int ng), .val (.ref ba1), .val (.int (2 : Int32))] [(.int (0 : Int32)), (.ref a)])) rfl rfl (hb hby d12_90) _ ?_
          show Sp p e below Tw13 (mkF m 91 #[.val (.ref a), .val (.int (3 : Int32)), .val (.int p0), .val (.int p1), .val (.int p2), .val (.int g0), .val (.int g1), .val (.int g2), .val (.int ng), .val (.ref ba1), .val (.int (2 : Int32))] [(.int p0)]) _
          refine XS.aload Xw13.here hx rfl (hb hby d12_91) rfl rfl ?_
          refine XS.iconst Xw13.here hx rfl (hb hby d12_93) ?_
          show Sp p e below Tw13 (mkF m 94 #[.val (.ref a), .val (.int (3 : Int32)), .val (.int p0), .val (.int p1), .val (.int p2), .val (.int g0), .val (.int g1), .val (.int g2), .val (.int ng), .val (.ref ba1), .val (.int (2 : Int32))] [(.int (0 : Int32)), (.ref ba1), (.int p0)]) _
          refine Xw13.iaload hx (j := (0 : Int32)) (v := (.int p0)) (own_eq ew13 Arv33.1) (State.isArrayOf_alike hZ.alike Arv33.2.1) Arv33.2.2 in34 atin34 (g := (mkF m 94 #[.val (.ref a), .val (.int (3 : Int32)), .val (.int p0), .val (.int p1), .val (.int p2), .val (.int g0), .val (.int g1), .val (.int g2), .val (.int ng), .val (.ref ba1), .val (.int (2 : Int32))] [(.int (0 : Int32)), (.ref ba1), (.int p0)])) rfl rfl (hb hby d12_94) _ ?_
          show Sp p e below Tw13 (mkF m 95 #[.val (.ref a), .val (.int (3 : Int32)), .val (.int p0), .val (.int p1), .val (.int p2), .val (.int g0), .val (.int g1), .val (.int g2), .val (.int ng), .val (.ref ba1), .val (.int (2 : Int32))] [(.int p0), (.int p0)]) _
          refine XS.icmpNo Xw13.here hx rfl (hb hby d12_95) rfl (teq (rfl : p0 = p0)).2 ?_
          refine XS.iload Xw13.here hx rfl (hb hby d12_98) rfl ?_
          refine XS.iconst Xw13.here hx rfl (hb hby d12_100) ?_
          refine XS.icmpNo Xw13.here hx rfl (hb hby d12_101) rfl (flt (by decide : ¬ ((2 : Int32) < (2 : Int32)))).1 ?_
          refine XS.aloadN Xw13.here hx rfl (hb hby d12_104) rfl rfl ?_
          refine XS.iconst Xw13.here hx rfl (hb hby d12_105) ?_
          show Sp p e below Tw13 (mkF m 106 #[.val (.ref a), .val (.int (3 : Int32)), .val (.int p0), .val (.int p1), .val (.int p2), .val (.int g0), .val (.int g1), .val (.int g2), .val (.int ng), .val (.ref ba1), .val (.int (2 : Int32))] [(.int (1 : Int32)), (.ref a)]) _
          refine Xw13.iaload hx (j := (1 : Int32)) (v := (.int p1)) (own_eq ew13 Arv31.1) (State.isArrayOf_alike hZ.alike Arv31.2.1) Arv31.2.2 in35 atin35 (g := (mkF m 106 #[.val (.ref a), .val (.int (3 : Int32)), .val (.int p0), .val (.int p1), .val (.int p2), .val (.int g0), .val (.int g1), .val (.int g2), .val (.int ng), .val (.ref ba1), .val (.int (2 : Int32))] [(.int (1 : Int32)), (.ref a)])) rfl rfl (hb hby d12_106) _ ?_
          show Sp p e below Tw13 (mkF m 107 #[.val (.ref a), .val (.int (3 : Int32)), .val (.int p0), .val (.int p1), .val (.int p2), .val (.int g0), .val (.int g1), .val (.int g2), .val (.int ng), .val (.ref ba1), .val (.int (2 : Int32))] [(.int p1)]) _
          refine XS.aload Xw13.here hx rfl (hb hby d12_107) rfl rfl ?_
          refine XS.iconst Xw13.here hx rfl (hb hby d12_109) ?_
          show Sp p e below Tw13 (mkF m 110 #[.val (.ref a), .val (.int (3 : Int32)), .val (.int p0), .val (.int p1), .val (.int p2), .val (.int g0), .val (.int g1), .val (.int g2), .val (.int ng), .val (.ref ba1), .val (.int (2 : Int32))] [(.int (1 : Int32)), (.ref ba1), (.int p1)]) _
          refine Xw13.iaload hx (j := (1 : Int32)) (v := (.int p1)) (own_eq ew13 Arv33.1) (State.isArrayOf_alike hZ.alike Arv33.2.1) Arv33.2.2 in36 atin36 (g := (mkF m 110 #[.val (.ref a), .val (.int (3 : Int32)), .val (.int p0), .val (.int p1), .val (.int p2), .val (.int g0), .val (.int g1), .val (.int g2), .val (.int ng), .val (.ref ba1), .val (.int (2 : Int32))] [(.int (1 : Int32)), (.ref ba1), (.int p1)])) rfl rfl (hb hby d12_110) _ ?_
          show Sp p e below Tw13 (mkF m 111 #[.val (.ref a), .val (.int (3 : Int32)), .val (.int p0), .val (.int p1), .val (.int p2), .val (.int g0), .val (.int g1), .val (.int g2), .val (.int ng), .val (.ref ba1), .val (.int (2 : Int32))] [(.int p1), (.int p1)]) _
          refine XS.icmpNo Xw13.here hx rfl (hb hby d12_111) rfl (teq (rfl : p1 = p1)).2 ?_
          refine XS.iload Xw13.here hx rfl (hb hby d12_114) rfl ?_
          refine XS.iconst Xw13.here hx rfl (hb hby d12_116) ?_
          refine XS.icmpYes Xw13.here hx rfl (pc0 := 117) (pc' := 130) rfl (hb hby d12_117) rfl (tlt (by decide : (2 : Int32) < (3 : Int32))).1 (by decide) (by decide) ?_
          refine XS.iconst Xw13.here hx rfl (hb hby d12_130) ?_
          refine XS.goto Xw13.here hx rfl (pc0 := 131) (pc' := 135) rfl (hb hby d12_131) (by decide) (by decide) ?_
          show Sp p e below Tw13 (mkF m 135 #[.val (.ref a), .val (.int (3 : Int32)), .val (.int p0), .val (.int p1), .val (.int p2), .val (.int g0), .val (.int g1), .val (.int g2), .val (.int ng), .val (.ref ba1), .val (.int (2 : Int32))] [(.int (1 : Int32))]) _
          exact retN Xw13 hx (t := .boolean) hret (by simp) (hb hby d12_135) hlv
        · show Q_mat3 Z a p0 p1 p2 g0 g1 g2 ng k z vs h0 n0 _ Tw13.heap _
          rw [ew13]
          exact ⟨rfl, Nw13, K14⟩
    · have r37 : ∀ t_, Sp p e below Tw7 (mkF m 58 #[.val (.ref a), .val (.int (3 : Int32)), .val (.int p0), .val (.int p1), .val (.int p2), .val (.int g0), .val (.int g1), .val (.int g2), .val (.int ng), .val (.ref ba1), .val (.int (1 : Int32))] [(.int ng), (.int g2)]) t_ → Sp p e below s₁ (entryFrame m #[(.ref a), (.int (3 : Int32)), (.int p0), (.int p1), (.int p2), (.int g0), (.int g1), (.int g2), (.int ng)] 11) t_ := by
        intro t_ k_
        refine r9 _ ?_
        refine XS.icmpYes Xw7.here hx rfl (pc0 := 37) (pc' := 49) rfl (hb hby d12_37) rfl (feq c10).2 (by decide) (by decide) ?_
        refine XS.iloadN Xw7.here hx rfl (hb hby d12_49) rfl ?_
        refine XS.iconst Xw7.here hx rfl (hb hby d12_50) ?_
        refine XS.icmpNo Xw7.here hx rfl (hb hby d12_51) rfl (tlt (by decide : (2 : Int32) < (3 : Int32))).2.2.2 ?_
        refine XS.iload Xw7.here hx rfl (hb hby d12_54) rfl ?_
        refine XS.iload Xw7.here hx rfl (hb hby d12_56) rfl ?_
        show Sp p e below Tw7 (mkF m 58 #[.val (.ref a), .val (.int (3 : Int32)), .val (.int p0), .val (.int p1), .val (.int p2), .val (.int g0), .val (.int g1), .val (.int g2), .val (.int ng), .val (.ref ba1), .val (.int (1 : Int32))] [(.int ng), (.int g2)]) _
        exact k_
      by_cases c38 : g2 = ng
      · obtain ⟨clv39, Arv39, qv39, Sv39, Nv39, Hv39, Gv39⟩ := id Vw7
        have in40 : ¬ ((1 : Int32) < 0 ∨ clv39.slots.size ≤ ((1 : Int32)).toNatClampNeg) := inb_of Sv39 ⟨by decide, by decide⟩
        obtain ⟨Tw41, hw41, Xw41, ew41, Ww41, stw41⟩ := stI Xw7 hx hZ ew7 Arv39 (j := (1 : Int32)) in40 (g := (mkF m 67 #[.val (.ref a), .val (.int (3 : Int32)), .val (.int p0), .val (.int p1), .val (.int p2), .val (.int g0), .val (.int g1), .val (.int g2), .val (.int ng), .val (.ref ba1), .val (.int (1 : Int32))] [(.int p2), (.int (1 : Int32)), (.ref ba1)])) rfl rfl (hb hby d12_67)
        have Vw41 : Arv Z hw41 ba1 ka1 .int (3 : Int32) [(.int p0), (.int p2), (.int (0 : Int32))] (.int (0 : Int32)) := Arv.set Arv39 qv39 Sv39 Nv39 Hv39 Gv39 rfl Ww41 1 rfl (Nat.le_of_ble_eq_true rfl)
        have Nw41 := Fr.snoc Xw41 Nw7 g_ba1
        have K42 : Keep h0 hw41 [] := K8.wr Ww41 (Or.inr y_ba1)
        have F43 := (f0.keep K42 nin0)
        obtain ⟨clv44, Arv44, qv44, Sv44, Nv44, Hv44, Gv44⟩ := id F43
        have hvs1 : vs = [(.int p0), (.int p2)] := by rw [hvs]; first | done | simp [own_f, c4, c10, c38]
        have hz1 : z = (2 : Int32) := by rw [hz, hvs1]; first | done | rfl
        have in45 : ¬ ((0 : Int32) < 0 ∨ clv44.slots.size ≤ ((0 : Int32)).toNatClampNeg) := inb_of Sv44 ⟨by decide, by rw [hz1]; decide⟩
        have atin45 : clv44.slots[((0 : Int32)).toNatClampNeg]? = some (.int p0) := Has.at Hv44 in45 (by rw [hvs1]; rfl)
        obtain ⟨clv46, Arv46, qv46, Sv46, Nv46, Hv46, Gv46⟩ := id Vw41
        have in47 : ¬ ((0 : Int32) < 0 ∨ clv46.slots.size ≤ ((0 : Int32)).toNatClampNeg) := inb_of Sv46 ⟨by decide, by decide⟩
        have atin47 : clv46.slots[((0 : Int32)).toNatClampNeg]? = some (.int p0) := Has.at Hv46 in47 rfl
        have in48 : ¬ ((1 : Int32) < 0 ∨ clv44.slots.size ≤ ((1 : Int32)).toNatClampNeg) := inb_of Sv44 ⟨by decide, by rw [hz1]; decide⟩
        have atin48 : clv44.slots[((1 : Int32)).toNatClampNeg]? = some (.int p2) := Has.at Hv44 in48 (by rw [hvs1]; rfl)
        have in49 : ¬ ((1 : Int32) < 0 ∨ clv46.slots.size ≤ ((1 : Int32)).toNatClampNeg) := inb_of Sv46 ⟨by decide, by decide⟩
        have atin49 : clv46.slots[((1 : Int32)).toNatClampNeg]? = some (.int p2) := Has.at Hv46 in49 rfl
        obtain ⟨fs, hlv, hrun, hended, hW, hsame⟩ := Xw41.leave (v := some (.int (1 : Int32))) (fun h => by rw [hret] at h; cases h)
        refine ⟨_, _, r37 _ ?_, hrun, hended, _, _, rfl, ?_, ⟨_, rfl⟩, hW, hsame.mono (by decide) (by decide)⟩
        · refine XS.icmpNo Xw7.here hx rfl (hb hby d12_58) rfl (teq c38).2 ?_
          show Sp p e below Tw7 (mkF m 61 #[.val (.ref a), .val (.int (3 : Int32)), .val (.int p0), .val (.int p1), .val (.int p2), .val (.int g0), .val (.int g1), .val (.int g2), .val (.int ng), .val (.ref ba1), .val (.int (1 : Int32))] []) _
          refine XS.aload Xw7.here hx rfl (hb hby d12_61) rfl rfl ?_
          refine XS.iload Xw7.here hx rfl (hb hby d12_63) rfl ?_
          refine XS.iload Xw7.here hx rfl (hb hby d12_65) rfl ?_
          refine stw41 _ ?_
          refine XS.iinc Xw41.here hx rfl (hb hby d12_68) rfl (l' := #[.val (.ref a), .val (.int (3 : Int32)), .val (.int p0), .val (.int p1), .val (.int p2), .val (.int g0), .val (.int g1), .val (.int g2), .val (.int ng), .val (.ref ba1), .val (.int (2 : Int32))]) rfl ?_
          refine XS.aloadN Xw41.here hx rfl (hb hby d12_71) rfl rfl ?_
          refine XS.ifnullNo Xw41.here hx rfl (hb hby d12_72) rfl ?_
          refine XS.aloadN Xw41.here hx rfl (hb hby d12_75) rfl rfl ?_
          show Sp p e below Tw41 (mkF m 76 #[.val (.ref a), .val (.int (3 : Int32)), .val (.int p0), .val (.int p1), .val (.int p2), .val (.int g0), .val (.int g1), .val (.int g2), .val (.int ng), .val (.ref ba1), .val (.int (2 : Int32))] [(.ref a)]) _
          refine Xw41.arraylength hx (own_eq ew41 Arv44.1) (State.isArrayOf_alike hZ.alike Arv44.2.1) (g := (mkF m 76 #[.val (.ref a), .val (.int (3 : Int32)), .val (.int p0), .val (.int p1), .val (.int p2), .val (.int g0), .val (.int g1), .val (.int g2), .val (.int ng), .val (.ref ba1), .val (.int (2 : Int32))] [(.ref a)])) rfl rfl (hb hby d12_76) _ ?_
          rw [len_of Sv44 Nv44]
          show Sp p e below Tw41 (mkF m 77 #[.val (.ref a), .val (.int (3 : Int32)), .val (.int p0), .val (.int p1), .val (.int p2), .val (.int g0), .val (.int g1), .val (.int g2), .val (.int ng), .val (.ref ba1), .val (.int (2 : Int32))] [(.int z)]) _
          refine XS.iload Xw41.here hx rfl (hb hby d12_77) rfl ?_
          refine XS.icmpNo Xw41.here hx rfl (hb hby d12_79) rfl (teq hz1).2 ?_
          refine XS.iload Xw41.here hx rfl (hb hby d12_82) rfl ?_
          refine XS.iconst Xw41.here hx rfl (hb hby d12_84) ?_
          refine XS.icmpNo Xw41.here hx rfl (hb hby d12_85) rfl (flt (by decide : ¬ ((2 : Int32) < (1 : Int32)))).1 ?_
          refine XS.aloadN Xw41.here hx rfl (hb hby d12_88) rfl rfl ?_
          refine XS.iconst Xw41.here hx rfl (hb hby d12_89) ?_
          show Sp p e below Tw41 (mkF m 90 #[.val (.ref a), .val (.int (3 : Int32)), .val (.int p0), .val (.int p1), .val (.int p2), .val (.int g0), .val (.int g1), .val (.int g2), .val (.int ng), .val (.ref ba1), .val (.int (2 : Int32))] [(.int (0 : Int32)), (.ref a)]) _
          refine Xw41.iaload hx (j := (0 : Int32)) (v := (.int p0)) (own_eq ew41 Arv44.1) (State.isArrayOf_alike hZ.alike Arv44.2.1) Arv44.2.2 in45 atin45 (g := (mkF m 90 #[.val (.ref a), .val (.int (3 : Int32)), .val (.int p0), .val (.int p1), .val (.int p2), .val (.int g0), .val (.int g1), .val (.int g2), .val (.int ng), .val (.ref ba1), .val (.int (2 : Int32))] [(.int (0 : Int32)), (.ref a)])) rfl rfl (hb hby d12_90) _ ?_
          show Sp p e below Tw41 (mkF m 91 #[.val (.ref a), .val (.int (3 : Int32)), .val (.int p0), .val (.int p1), .val (.int p2), .val (.int g0), .val (.int g1), .val (.int g2), .val (.int ng), .val (.ref ba1), .val (.int (2 : Int32))] [(.int p0)]) _
          refine XS.aload Xw41.here hx rfl (hb hby d12_91) rfl rfl ?_
          refine XS.iconst Xw41.here hx rfl (hb hby d12_93) ?_
          show Sp p e below Tw41 (mkF m 94 #[.val (.ref a), .val (.int (3 : Int32)), .val (.int p0), .val (.int p1), .val (.int p2), .val (.int g0), .val (.int g1), .val (.int g2), .val (.int ng), .val (.ref ba1), .val (.int (2 : Int32))] [(.int (0 : Int32)), (.ref ba1), (.int p0)]) _
          refine Xw41.iaload hx (j := (0 : Int32)) (v := (.int p0)) (own_eq ew41 Arv46.1) (State.isArrayOf_alike hZ.alike Arv46.2.1) Arv46.2.2 in47 atin47 (g := (mkF m 94 #[.val (.ref a), .val (.int (3 : Int32)), .val (.int p0), .val (.int p1), .val (.int p2), .val (.int g0), .val (.int g1), .val (.int g2), .val (.int ng), .val (.ref ba1), .val (.int (2 : Int32))] [(.int (0 : Int32)), (.ref ba1), (.int p0)])) rfl rfl (hb hby d12_94) _ ?_
          show Sp p e below Tw41 (mkF m 95 #[.val (.ref a), .val (.int (3 : Int32)), .val (.int p0), .val (.int p1), .val (.int p2), .val (.int g0), .val (.int g1), .val (.int g2), .val (.int ng), .val (.ref ba1), .val (.int (2 : Int32))] [(.int p0), (.int p0)]) _
          refine XS.icmpNo Xw41.here hx rfl (hb hby d12_95) rfl (teq (rfl : p0 = p0)).2 ?_
          refine XS.iload Xw41.here hx rfl (hb hby d12_98) rfl ?_
          refine XS.iconst Xw41.here hx rfl (hb hby d12_100) ?_
          refine XS.icmpNo Xw41.here hx rfl (hb hby d12_101) rfl (flt (by decide : ¬ ((2 : Int32) < (2 : Int32)))).1 ?_
          refine XS.aloadN Xw41.here hx rfl (hb hby d12_104) rfl rfl ?_
          refine XS.iconst Xw41.here hx rfl (hb hby d12_105) ?_
          show Sp p e below Tw41 (mkF m 106 #[.val (.ref a), .val (.int (3 : Int32)), .val (.int p0), .val (.int p1), .val (.int p2), .val (.int g0), .val (.int g1), .val (.int g2), .val (.int ng), .val (.ref ba1), .val (.int (2 : Int32))] [(.int (1 : Int32)), (.ref a)]) _
          refine Xw41.iaload hx (j := (1 : Int32)) (v := (.int p2)) (own_eq ew41 Arv44.1) (State.isArrayOf_alike hZ.alike Arv44.2.1) Arv44.2.2 in48 atin48 (g := (mkF m 106 #[.val (.ref a), .val (.int (3 : Int32)), .val (.int p0), .val (.int p1), .val (.int p2), .val (.int g0), .val (.int g1), .val (.int g2), .val (.int ng), .val (.ref ba1), .val (.int (2 : Int32))] [(.int (1 : Int32)), (.ref a)])) rfl rfl (hb hby d12_106) _ ?_
          show Sp p e below Tw41 (mkF m 107 #[.val (.ref a), .val (.int (3 : Int32)), .val (.int p0), .val (.int p1), .val (.int p2), .val (.int g0), .val (.int g1), .val (.int g2), .val (.int ng), .val (.ref ba1), .val (.int (2 : Int32))] [(.int p2)]) _
          refine XS.aload Xw41.here hx rfl (hb hby d12_107) rfl rfl ?_
          refine XS.iconst Xw41.here hx rfl (hb hby d12_109) ?_
          show Sp p e below Tw41 (mkF m 110 #[.val (.ref a), .val (.int (3 : Int32)), .val (.int p0), .val (.int p1), .val (.int p2), .val (.int g0), .val (.int g1), .val (.int g2), .val (.int ng), .val (.ref ba1), .val (.int (2 : Int32))] [(.int (1 : Int32)), (.ref ba1), (.int p2)]) _
          refine Xw41.iaload hx (j := (1 : Int32)) (v := (.int p2)) (own_eq ew41 Arv46.1) (State.isArrayOf_alike hZ.alike Arv46.2.1) Arv46.2.2 in49 atin49 (g := (mkF m 110 #[.val (.ref a), .val (.int (3 : Int32)), .val (.int p0), .val (.int p1), .val (.int p2), .val (.int g0), .val (.int g1), .val (.int g2), .val (.int ng), .val (.ref ba1), .val (.int (2 : Int32))] [(.int (1 : Int32)), (.ref ba1), (.int p2)])) rfl rfl (hb hby d12_110) _ ?_
          show Sp p e below Tw41 (mkF m 111 #[.val (.ref a), .val (.int (3 : Int32)), .val (.int p0), .val (.int p1), .val (.int p2), .val (.int g0), .val (.int g1), .val (.int g2), .val (.int ng), .val (.ref ba1), .val (.int (2 : Int32))] [(.int p2), (.int p2)]) _
          refine XS.icmpNo Xw41.here hx rfl (hb hby d12_111) rfl (teq (rfl : p2 = p2)).2 ?_
          refine XS.iload Xw41.here hx rfl (hb hby d12_114) rfl ?_
          refine XS.iconst Xw41.here hx rfl (hb hby d12_116) ?_
          refine XS.icmpYes Xw41.here hx rfl (pc0 := 117) (pc' := 130) rfl (hb hby d12_117) rfl (tlt (by decide : (2 : Int32) < (3 : Int32))).1 (by decide) (by decide) ?_
          refine XS.iconst Xw41.here hx rfl (hb hby d12_130) ?_
          refine XS.goto Xw41.here hx rfl (pc0 := 131) (pc' := 135) rfl (hb hby d12_131) (by decide) (by decide) ?_
          show Sp p e below Tw41 (mkF m 135 #[.val (.ref a), .val (.int (3 : Int32)), .val (.int p0), .val (.int p1), .val (.int p2), .val (.int g0), .val (.int g1), .val (.int g2), .val (.int ng), .val (.ref ba1), .val (.int (2 : Int32))] [(.int (1 : Int32))]) _
          exact retN Xw41 hx (t := .boolean) hret (by simp) (hb hby d12_135) hlv
        · show Q_mat3 Z a p0 p1 p2 g0 g1 g2 ng k z vs h0 n0 _ Tw41.heap _
          rw [ew41]
          exact ⟨rfl, Nw41, K42⟩
      · have F50 := (f0.keep K8 nin0)
        obtain ⟨clv51, Arv51, qv51, Sv51, Nv51, Hv51, Gv51⟩ := id F50
        have hvs1 : vs = [(.int p0)] := by rw [hvs]; first | done | simp [own_f, c4, c10, c38]
        have hz1 : z = (1 : Int32) := by rw [hz, hvs1]; first | done | rfl
        have in52 : ¬ ((0 : Int32) < 0 ∨ clv51.slots.size ≤ ((0 : Int32)).toNatClampNeg) := inb_of Sv51 ⟨by decide, by rw [hz1]; decide⟩
        have atin52 : clv51.slots[((0 : Int32)).toNatClampNeg]? = some (.int p0) := Has.at Hv51 in52 (by rw [hvs1]; rfl)
        obtain ⟨clv53, Arv53, qv53, Sv53, Nv53, Hv53, Gv53⟩ := id Vw7
        have in54 : ¬ ((0 : Int32) < 0 ∨ clv53.slots.size ≤ ((0 : Int32)).toNatClampNeg) := inb_of Sv53 ⟨by decide, by decide⟩
        have atin54 : clv53.slots[((0 : Int32)).toNatClampNeg]? = some (.int p0) := Has.at Hv53 in54 rfl
        obtain ⟨fs, hlv, hrun, hended, hW, hsame⟩ := Xw7.leave (v := some (.int (1 : Int32))) (fun h => by rw [hret] at h; cases h)
        refine ⟨_, _, r37 _ ?_, hrun, hended, _, _, rfl, ?_, ⟨_, rfl⟩, hW, hsame.mono (by decide) (by decide)⟩
        · refine XS.icmpYes Xw7.here hx rfl (pc0 := 58) (pc' := 71) rfl (hb hby d12_58) rfl (feq c38).2 (by decide) (by decide) ?_
          show Sp p e below Tw7 (mkF m 71 #[.val (.ref a), .val (.int (3 : Int32)), .val (.int p0), .val (.int p1), .val (.int p2), .val (.int g0), .val (.int g1), .val (.int g2), .val (.int ng), .val (.ref ba1), .val (.int (1 : Int32))] []) _
          refine XS.aloadN Xw7.here hx rfl (hb hby d12_71) rfl rfl ?_
          refine XS.ifnullNo Xw7.here hx rfl (hb hby d12_72) rfl ?_
          refine XS.aloadN Xw7.here hx rfl (hb hby d12_75) rfl rfl ?_
          show Sp p e below Tw7 (mkF m 76 #[.val (.ref a), .val (.int (3 : Int32)), .val (.int p0), .val (.int p1), .val (.int p2), .val (.int g0), .val (.int g1), .val (.int g2), .val (.int ng), .val (.ref ba1), .val (.int (1 : Int32))] [(.ref a)]) _
          refine Xw7.arraylength hx (own_eq ew7 Arv51.1) (State.isArrayOf_alike hZ.alike Arv51.2.1) (g := (mkF m 76 #[.val (.ref a), .val (.int (3 : Int32)), .val (.int p0), .val (.int p1), .val (.int p2), .val (.int g0), .val (.int g1), .val (.int g2), .val (.int ng), .val (.ref ba1), .val (.int (1 : Int32))] [(.ref a)])) rfl rfl (hb hby d12_76) _ ?_
          rw [len_of Sv51 Nv51]
          show Sp p e below Tw7 (mkF m 77 #[.val (.ref a), .val (.int (3 : Int32)), .val (.int p0), .val (.int p1), .val (.int p2), .val (.int g0), .val (.int g1), .val (.int g2), .val (.int ng), .val (.ref ba1), .val (.int (1 : Int32))] [(.int z)]) _
          refine XS.iload Xw7.here hx rfl (hb hby d12_77) rfl ?_
          refine XS.icmpNo Xw7.here hx rfl (hb hby d12_79) rfl (teq hz1).2 ?_
          refine XS.iload Xw7.here hx rfl (hb hby d12_82) rfl ?_
          refine XS.iconst Xw7.here hx rfl (hb hby d12_84) ?_
          refine XS.icmpNo Xw7.here hx rfl (hb hby d12_85) rfl (flt (by decide : ¬ ((1 : Int32) < (1 : Int32)))).1 ?_
          refine XS.aloadN Xw7.here hx rfl (hb hby d12_88) rfl rfl ?_
          refine XS.iconst Xw7.here hx rfl (hb hby d12_89) ?_
          show Sp p e below Tw7 (mkF m 90 #[.val (.ref a), .val (.int (3 : Int32)), .val (.int p0), .val (.int p1), .val (.int p2), .val (.int g0), .val (.int g1), .val (.int g2), .val (.int ng), .val (.ref ba1), .val (.int (1 : Int32))] [(.int (0 : Int32)), (.ref a)]) _
          refine Xw7.iaload hx (j := (0 : Int32)) (v := (.int p0)) (own_eq ew7 Arv51.1) (State.isArrayOf_alike hZ.alike Arv51.2.1) Arv51.2.2 in52 atin52 (g := (mkF m 90 #[.val (.ref a), .val (.int (3 : Int32)), .val (.int p0), .val (.int p1), .val (.int p2), .val (.int g0), .val (.int g1), .val (.int g2), .val (.int ng), .val (.ref ba1), .val (.int (1 : Int32))] [(.int (0 : Int32)), (.ref a)])) rfl rfl (hb hby d12_90) _ ?_
          show Sp p e below Tw7 (mkF m 91 #[.val (.ref a), .val (.int (3 : Int32)), .val (.int p0), .val (.int p1), .val (.int p2), .val (.int g0), .val (.int g1), .val (.int g2), .val (.int ng), .val (.ref ba1), .val (.int (1 : Int32))] [(.int p0)]) _
          refine XS.aload Xw7.here hx rfl (hb hby d12_91) rfl rfl ?_
          refine XS.iconst Xw7.here hx rfl (hb hby d12_93) ?_
          show Sp p e below Tw7 (mkF m 94 #[.val (.ref a), .val (.int (3 : Int32)), .val (.int p0), .val (.int p1), .val (.int p2), .val (.int g0), .val (.int g1), .val (.int g2), .val (.int ng), .val (.ref ba1), .val (.int (1 : Int32))] [(.int (0 : Int32)), (.ref ba1), (.int p0)]) _
          refine Xw7.iaload hx (j := (0 : Int32)) (v := (.int p0)) (own_eq ew7 Arv53.1) (State.isArrayOf_alike hZ.alike Arv53.2.1) Arv53.2.2 in54 atin54 (g := (mkF m 94 #[.val (.ref a), .val (.int (3 : Int32)), .val (.int p0), .val (.int p1), .val (.int p2), .val (.int g0), .val (.int g1), .val (.int g2), .val (.int ng), .val (.ref ba1), .val (.int (1 : Int32))] [(.int (0 : Int32)), (.ref ba1), (.int p0)])) rfl rfl (hb hby d12_94) _ ?_
          show Sp p e below Tw7 (mkF m 95 #[.val (.ref a), .val (.int (3 : Int32)), .val (.int p0), .val (.int p1), .val (.int p2), .val (.int g0), .val (.int g1), .val (.int g2), .val (.int ng), .val (.ref ba1), .val (.int (1 : Int32))] [(.int p0), (.int p0)]) _
          refine XS.icmpNo Xw7.here hx rfl (hb hby d12_95) rfl (teq (rfl : p0 = p0)).2 ?_
          refine XS.iload Xw7.here hx rfl (hb hby d12_98) rfl ?_
          refine XS.iconst Xw7.here hx rfl (hb hby d12_100) ?_
          refine XS.icmpYes Xw7.here hx rfl (pc0 := 101) (pc' := 114) rfl (hb hby d12_101) rfl (tlt (by decide : (1 : Int32) < (2 : Int32))).1 (by decide) (by decide) ?_
          refine XS.iload Xw7.here hx rfl (hb hby d12_114) rfl ?_
          refine XS.iconst Xw7.here hx rfl (hb hby d12_116) ?_
          refine XS.icmpYes Xw7.here hx rfl (pc0 := 117) (pc' := 130) rfl (hb hby d12_117) rfl (tlt (by decide : (1 : Int32) < (3 : Int32))).1 (by decide) (by decide) ?_
          refine XS.iconst Xw7.here hx rfl (hb hby d12_130) ?_
          refine XS.goto Xw7.here hx rfl (pc0 := 131) (pc' := 135) rfl (hb hby d12_131) (by decide) (by decide) ?_
          show Sp p e below Tw7 (mkF m 135 #[.val (.ref a), .val (.int (3 : Int32)), .val (.int p0), .val (.int p1), .val (.int p2), .val (.int g0), .val (.int g1), .val (.int g2), .val (.int ng), .val (.ref ba1), .val (.int (1 : Int32))] [(.int (1 : Int32))]) _
          exact retN Xw7 hx (t := .boolean) hret (by simp) (hb hby d12_135) hlv
        · show Q_mat3 Z a p0 p1 p2 g0 g1 g2 ng k z vs h0 n0 _ Tw7.heap _
          rw [ew7]
          exact ⟨rfl, Nw7, K8⟩
  · have r55 : ∀ t_, Sp p e below Ta1 (mkF m 37 #[.val (.ref a), .val (.int (3 : Int32)), .val (.int p0), .val (.int p1), .val (.int p2), .val (.int g0), .val (.int g1), .val (.int g2), .val (.int ng), .val (.ref ba1), .val (.int (0 : Int32))] [(.int ng), (.int g1)]) t_ → Sp p e below s₁ (entryFrame m #[(.ref a), (.int (3 : Int32)), (.int p0), (.int p1), (.int p2), (.int g0), (.int g1), (.int g2), (.int ng)] 11) t_ := by
      intro t_ k_
      refine r3 _ ?_
      refine XS.icmpYes Xa1.here hx rfl (pc0 := 16) (pc' := 28) rfl (hb hby d12_16) rfl (feq c4).2 (by decide) (by decide) ?_
      refine XS.iloadN Xa1.here hx rfl (hb hby d12_28) rfl ?_
      refine XS.iconst Xa1.here hx rfl (hb hby d12_29) ?_
      refine XS.icmpNo Xa1.here hx rfl (hb hby d12_30) rfl (tlt (by decide : (1 : Int32) < (3 : Int32))).2.2.2 ?_
      refine XS.iload Xa1.here hx rfl (hb hby d12_33) rfl ?_
      refine XS.iload Xa1.here hx rfl (hb hby d12_35) rfl ?_
      show Sp p e below Ta1 (mkF m 37 #[.val (.ref a), .val (.int (3 : Int32)), .val (.int p0), .val (.int p1), .val (.int p2), .val (.int g0), .val (.int g1), .val (.int g2), .val (.int ng), .val (.ref ba1), .val (.int (0 : Int32))] [(.int ng), (.int g1)]) _
      exact k_
    by_cases c56 : g1 = ng
    · obtain ⟨clv57, Arv57, qv57, Sv57, Nv57, Hv57, Gv57⟩ := id Va1
      have in58 : ¬ ((0 : Int32) < 0 ∨ clv57.slots.size ≤ ((0 : Int32)).toNatClampNeg) := inb_of Sv57 ⟨by decide, by decide⟩
      obtain ⟨Tw59, hw59, Xw59, ew59, Ww59, stw59⟩ := stI Xa1 hx hZ ea1 Arv57 (j := (0 : Int32)) in58 (g := (mkF m 45 #[.val (.ref a), .val (.int (3 : Int32)), .val (.int p0), .val (.int p1), .val (.int p2), .val (.int g0), .val (.int g1), .val (.int g2), .val (.int ng), .val (.ref ba1), .val (.int (0 : Int32))] [(.int p1), (.int (0 : Int32)), (.ref ba1)])) rfl rfl (hb hby d12_45)
      have Vw59 : Arv Z hw59 ba1 ka1 .int (3 : Int32) [(.int p1), (.int (0 : Int32)), (.int (0 : Int32))] (.int (0 : Int32)) := Arv.set Arv57 qv57 Sv57 Nv57 Hv57 Gv57 rfl Ww59 0 rfl (Nat.le_of_ble_eq_true rfl)
      have Nw59 := Fr.snoc Xw59 N0 g_ba1
      have K60 : Keep h0 hw59 [] := K2.wr Ww59 (Or.inr y_ba1)
      have r61 : ∀ t_, Sp p e below Tw59 (mkF m 58 #[.val (.ref a), .val (.int (3 : Int32)), .val (.int p0), .val (.int p1), .val (.int p2), .val (.int g0), .val (.int g1), .val (.int g2), .val (.int ng), .val (.ref ba1), .val (.int (1 : Int32))] [(.int ng), (.int g2)]) t_ → Sp p e below s₁ (entryFrame m #[(.ref a), (.int (3 : Int32)), (.int p0), (.int p1), (.int p2), (.int g0), (.int g1), (.int g2), (.int ng)] 11) t_ := by
        intro t_ k_
        refine r55 _ ?_
        refine XS.icmpNo Xa1.here hx rfl (hb hby d12_37) rfl (teq c56).2 ?_
        refine XS.aload Xa1.here hx rfl (hb hby d12_40) rfl rfl ?_
        refine XS.iload Xa1.here hx rfl (hb hby d12_42) rfl ?_
        refine XS.iloadN Xa1.here hx rfl (hb hby d12_44) rfl ?_
        refine stw59 _ ?_
        refine XS.iinc Xw59.here hx rfl (hb hby d12_46) rfl (l' := #[.val (.ref a), .val (.int (3 : Int32)), .val (.int p0), .val (.int p1), .val (.int p2), .val (.int g0), .val (.int g1), .val (.int g2), .val (.int ng), .val (.ref ba1), .val (.int (1 : Int32))]) rfl ?_
        refine XS.iloadN Xw59.here hx rfl (hb hby d12_49) rfl ?_
        refine XS.iconst Xw59.here hx rfl (hb hby d12_50) ?_
        refine XS.icmpNo Xw59.here hx rfl (hb hby d12_51) rfl (tlt (by decide : (2 : Int32) < (3 : Int32))).2.2.2 ?_
        refine XS.iload Xw59.here hx rfl (hb hby d12_54) rfl ?_
        refine XS.iload Xw59.here hx rfl (hb hby d12_56) rfl ?_
        show Sp p e below Tw59 (mkF m 58 #[.val (.ref a), .val (.int (3 : Int32)), .val (.int p0), .val (.int p1), .val (.int p2), .val (.int g0), .val (.int g1), .val (.int g2), .val (.int ng), .val (.ref ba1), .val (.int (1 : Int32))] [(.int ng), (.int g2)]) _
        exact k_
      by_cases c62 : g2 = ng
      · obtain ⟨clv63, Arv63, qv63, Sv63, Nv63, Hv63, Gv63⟩ := id Vw59
        have in64 : ¬ ((1 : Int32) < 0 ∨ clv63.slots.size ≤ ((1 : Int32)).toNatClampNeg) := inb_of Sv63 ⟨by decide, by decide⟩
        obtain ⟨Tw65, hw65, Xw65, ew65, Ww65, stw65⟩ := stI Xw59 hx hZ ew59 Arv63 (j := (1 : Int32)) in64 (g := (mkF m 67 #[.val (.ref a), .val (.int (3 : Int32)), .val (.int p0), .val (.int p1), .val (.int p2), .val (.int g0), .val (.int g1), .val (.int g2), .val (.int ng), .val (.ref ba1), .val (.int (1 : Int32))] [(.int p2), (.int (1 : Int32)), (.ref ba1)])) rfl rfl (hb hby d12_67)
        have Vw65 : Arv Z hw65 ba1 ka1 .int (3 : Int32) [(.int p1), (.int p2), (.int (0 : Int32))] (.int (0 : Int32)) := Arv.set Arv63 qv63 Sv63 Nv63 Hv63 Gv63 rfl Ww65 1 rfl (Nat.le_of_ble_eq_true rfl)
        have Nw65 := Fr.snoc Xw65 Nw59 g_ba1
        have K66 : Keep h0 hw65 [] := K60.wr Ww65 (Or.inr y_ba1)
        have F67 := (f0.keep K66 nin0)
        obtain ⟨clv68, Arv68, qv68, Sv68, Nv68, Hv68, Gv68⟩ := id F67
        have hvs1 : vs = [(.int p1), (.int p2)] := by rw [hvs]; first | done | simp [own_f, c4, c56, c62]
        have hz1 : z = (2 : Int32) := by rw [hz, hvs1]; first | done | rfl
        have in69 : ¬ ((0 : Int32) < 0 ∨ clv68.slots.size ≤ ((0 : Int32)).toNatClampNeg) := inb_of Sv68 ⟨by decide, by rw [hz1]; decide⟩
        have atin69 : clv68.slots[((0 : Int32)).toNatClampNeg]? = some (.int p1) := Has.at Hv68 in69 (by rw [hvs1]; rfl)
        obtain ⟨clv70, Arv70, qv70, Sv70, Nv70, Hv70, Gv70⟩ := id Vw65
        have in71 : ¬ ((0 : Int32) < 0 ∨ clv70.slots.size ≤ ((0 : Int32)).toNatClampNeg) := inb_of Sv70 ⟨by decide, by decide⟩
        have atin71 : clv70.slots[((0 : Int32)).toNatClampNeg]? = some (.int p1) := Has.at Hv70 in71 rfl
        have in72 : ¬ ((1 : Int32) < 0 ∨ clv68.slots.size ≤ ((1 : Int32)).toNatClampNeg) := inb_of Sv68 ⟨by decide, by rw [hz1]; decide⟩
        have atin72 : clv68.slots[((1 : Int32)).toNatClampNeg]? = some (.int p2) := Has.at Hv68 in72 (by rw [hvs1]; rfl)
        have in73 : ¬ ((1 : Int32) < 0 ∨ clv70.slots.size ≤ ((1 : Int32)).toNatClampNeg) := inb_of Sv70 ⟨by decide, by decide⟩
        have atin73 : clv70.slots[((1 : Int32)).toNatClampNeg]? = some (.int p2) := Has.at Hv70 in73 rfl
        obtain ⟨fs, hlv, hrun, hended, hW, hsame⟩ := Xw65.leave (v := some (.int (1 : Int32))) (fun h => by rw [hret] at h; cases h)
        refine ⟨_, _, r61 _ ?_, hrun, hended, _, _, rfl, ?_, ⟨_, rfl⟩, hW, hsame.mono (by decide) (by decide)⟩
        · refine XS.icmpNo Xw59.here hx rfl (hb hby d12_58) rfl (teq c62).2 ?_
          show Sp p e below Tw59 (mkF m 61 #[.val (.ref a), .val (.int (3 : Int32)), .val (.int p0), .val (.int p1), .val (.int p2), .val (.int g0), .val (.int g1), .val (.int g2), .val (.int ng), .val (.ref ba1), .val (.int (1 : Int32))] []) _
          refine XS.aload Xw59.here hx rfl (hb hby d12_61) rfl rfl ?_
          refine XS.iload Xw59.here hx rfl (hb hby d12_63) rfl ?_
          refine XS.iload Xw59.here hx rfl (hb hby d12_65) rfl ?_
          refine stw65 _ ?_
          refine XS.iinc Xw65.here hx rfl (hb hby d12_68) rfl (l' := #[.val (.ref a), .val (.int (3 : Int32)), .val (.int p0), .val (.int p1), .val (.int p2), .val (.int g0), .val (.int g1), .val (.int g2), .val (.int ng), .val (.ref ba1), .val (.int (2 : Int32))]) rfl ?_
          refine XS.aloadN Xw65.here hx rfl (hb hby d12_71) rfl rfl ?_
          refine XS.ifnullNo Xw65.here hx rfl (hb hby d12_72) rfl ?_
          refine XS.aloadN Xw65.here hx rfl (hb hby d12_75) rfl rfl ?_
          show Sp p e below Tw65 (mkF m 76 #[.val (.ref a), .val (.int (3 : Int32)), .val (.int p0), .val (.int p1), .val (.int p2), .val (.int g0), .val (.int g1), .val (.int g2), .val (.int ng), .val (.ref ba1), .val (.int (2 : Int32))] [(.ref a)]) _
          refine Xw65.arraylength hx (own_eq ew65 Arv68.1) (State.isArrayOf_alike hZ.alike Arv68.2.1) (g := (mkF m 76 #[.val (.ref a), .val (.int (3 : Int32)), .val (.int p0), .val (.int p1), .val (.int p2), .val (.int g0), .val (.int g1), .val (.int g2), .val (.int ng), .val (.ref ba1), .val (.int (2 : Int32))] [(.ref a)])) rfl rfl (hb hby d12_76) _ ?_
          rw [len_of Sv68 Nv68]
          show Sp p e below Tw65 (mkF m 77 #[.val (.ref a), .val (.int (3 : Int32)), .val (.int p0), .val (.int p1), .val (.int p2), .val (.int g0), .val (.int g1), .val (.int g2), .val (.int ng), .val (.ref ba1), .val (.int (2 : Int32))] [(.int z)]) _
          refine XS.iload Xw65.here hx rfl (hb hby d12_77) rfl ?_
          refine XS.icmpNo Xw65.here hx rfl (hb hby d12_79) rfl (teq hz1).2 ?_
          refine XS.iload Xw65.here hx rfl (hb hby d12_82) rfl ?_
          refine XS.iconst Xw65.here hx rfl (hb hby d12_84) ?_
          refine XS.icmpNo Xw65.here hx rfl (hb hby d12_85) rfl (flt (by decide : ¬ ((2 : Int32) < (1 : Int32)))).1 ?_
          refine XS.aloadN Xw65.here hx rfl (hb hby d12_88) rfl rfl ?_
          refine XS.iconst Xw65.here hx rfl (hb hby d12_89) ?_
          show Sp p e below Tw65 (mkF m 90 #[.val (.ref a), .val (.int (3 : Int32)), .val (.int p0), .val (.int p1), .val (.int p2), .val (.int g0), .val (.int g1), .val (.int g2), .val (.int ng), .val (.ref ba1), .val (.int (2 : Int32))] [(.int (0 : Int32)), (.ref a)]) _
          refine Xw65.iaload hx (j := (0 : Int32)) (v := (.int p1)) (own_eq ew65 Arv68.1) (State.isArrayOf_alike hZ.alike Arv68.2.1) Arv68.2.2 in69 atin69 (g := (mkF m 90 #[.val (.ref a), .val (.int (3 : Int32)), .val (.int p0), .val (.int p1), .val (.int p2), .val (.int g0), .val (.int g1), .val (.int g2), .val (.int ng), .val (.ref ba1), .val (.int (2 : Int32))] [(.int (0 : Int32)), (.ref a)])) rfl rfl (hb hby d12_90) _ ?_
          show Sp p e below Tw65 (mkF m 91 #[.val (.ref a), .val (.int (3 : Int32)), .val (.int p0), .val (.int p1), .val (.int p2), .val (.int g0), .val (.int g1), .val (.int g2), .val (.int ng), .val (.ref ba1), .val (.int (2 : Int32))] [(.int p1)]) _
          refine XS.aload Xw65.here hx rfl (hb hby d12_91) rfl rfl ?_
          refine XS.iconst Xw65.here hx rfl (hb hby d12_93) ?_
          show Sp p e below Tw65 (mkF m 94 #[.val (.ref a), .val (.int (3 : Int32)), .val (.int p0), .val (.int p1), .val (.int p2), .val (.int g0), .val (.int g1), .val (.int g2), .val (.int ng), .val (.ref ba1), .val (.int (2 : Int32))] [(.int (0 : Int32)), (.ref ba1), (.int p1)]) _
          refine Xw65.iaload hx (j := (0 : Int32)) (v := (.int p1)) (own_eq ew65 Arv70.1) (State.isArrayOf_alike hZ.alike Arv70.2.1) Arv70.2.2 in71 atin71 (g := (mkF m 94 #[.val (.ref a), .val (.int (3 : Int32)), .val (.int p0), .val (.int p1), .val (.int p2), .val (.int g0), .val (.int g1), .val (.int g2), .val (.int ng), .val (.ref ba1), .val (.int (2 : Int32))] [(.int (0 : Int32)), (.ref ba1), (.int p1)])) rfl rfl (hb hby d12_94) _ ?_
          show Sp p e below Tw65 (mkF m 95 #[.val (.ref a), .val (.int (3 : Int32)), .val (.int p0), .val (.int p1), .val (.int p2), .val (.int g0), .val (.int g1), .val (.int g2), .val (.int ng), .val (.ref ba1), .val (.int (2 : Int32))] [(.int p1), (.int p1)]) _
          refine XS.icmpNo Xw65.here hx rfl (hb hby d12_95) rfl (teq (rfl : p1 = p1)).2 ?_
          refine XS.iload Xw65.here hx rfl (hb hby d12_98) rfl ?_
          refine XS.iconst Xw65.here hx rfl (hb hby d12_100) ?_
          refine XS.icmpNo Xw65.here hx rfl (hb hby d12_101) rfl (flt (by decide : ¬ ((2 : Int32) < (2 : Int32)))).1 ?_
          refine XS.aloadN Xw65.here hx rfl (hb hby d12_104) rfl rfl ?_
          refine XS.iconst Xw65.here hx rfl (hb hby d12_105) ?_
          show Sp p e below Tw65 (mkF m 106 #[.val (.ref a), .val (.int (3 : Int32)), .val (.int p0), .val (.int p1), .val (.int p2), .val (.int g0), .val (.int g1), .val (.int g2), .val (.int ng), .val (.ref ba1), .val (.int (2 : Int32))] [(.int (1 : Int32)), (.ref a)]) _
          refine Xw65.iaload hx (j := (1 : Int32)) (v := (.int p2)) (own_eq ew65 Arv68.1) (State.isArrayOf_alike hZ.alike Arv68.2.1) Arv68.2.2 in72 atin72 (g := (mkF m 106 #[.val (.ref a), .val (.int (3 : Int32)), .val (.int p0), .val (.int p1), .val (.int p2), .val (.int g0), .val (.int g1), .val (.int g2), .val (.int ng), .val (.ref ba1), .val (.int (2 : Int32))] [(.int (1 : Int32)), (.ref a)])) rfl rfl (hb hby d12_106) _ ?_
          show Sp p e below Tw65 (mkF m 107 #[.val (.ref a), .val (.int (3 : Int32)), .val (.int p0), .val (.int p1), .val (.int p2), .val (.int g0), .val (.int g1), .val (.int g2), .val (.int ng), .val (.ref ba1), .val (.int (2 : Int32))] [(.int p2)]) _
          refine XS.aload Xw65.here hx rfl (hb hby d12_107) rfl rfl ?_
          refine XS.iconst Xw65.here hx rfl (hb hby d12_109) ?_
          show Sp p e below Tw65 (mkF m 110 #[.val (.ref a), .val (.int (3 : Int32)), .val (.int p0), .val (.int p1), .val (.int p2), .val (.int g0), .val (.int g1), .val (.int g2), .val (.int ng), .val (.ref ba1), .val (.int (2 : Int32))] [(.int (1 : Int32)), (.ref ba1), (.int p2)]) _
          refine Xw65.iaload hx (j := (1 : Int32)) (v := (.int p2)) (own_eq ew65 Arv70.1) (State.isArrayOf_alike hZ.alike Arv70.2.1) Arv70.2.2 in73 atin73 (g := (mkF m 110 #[.val (.ref a), .val (.int (3 : Int32)), .val (.int p0), .val (.int p1), .val (.int p2), .val (.int g0), .val (.int g1), .val (.int g2), .val (.int ng), .val (.ref ba1), .val (.int (2 : Int32))] [(.int (1 : Int32)), (.ref ba1), (.int p2)])) rfl rfl (hb hby d12_110) _ ?_
          show Sp p e below Tw65 (mkF m 111 #[.val (.ref a), .val (.int (3 : Int32)), .val (.int p0), .val (.int p1), .val (.int p2), .val (.int g0), .val (.int g1), .val (.int g2), .val (.int ng), .val (.ref ba1), .val (.int (2 : Int32))] [(.int p2), (.int p2)]) _
          refine XS.icmpNo Xw65.here hx rfl (hb hby d12_111) rfl (teq (rfl : p2 = p2)).2 ?_
          refine XS.iload Xw65.here hx rfl (hb hby d12_114) rfl ?_
          refine XS.iconst Xw65.here hx rfl (hb hby d12_116) ?_
          refine XS.icmpYes Xw65.here hx rfl (pc0 := 117) (pc' := 130) rfl (hb hby d12_117) rfl (tlt (by decide : (2 : Int32) < (3 : Int32))).1 (by decide) (by decide) ?_
          refine XS.iconst Xw65.here hx rfl (hb hby d12_130) ?_
          refine XS.goto Xw65.here hx rfl (pc0 := 131) (pc' := 135) rfl (hb hby d12_131) (by decide) (by decide) ?_
          show Sp p e below Tw65 (mkF m 135 #[.val (.ref a), .val (.int (3 : Int32)), .val (.int p0), .val (.int p1), .val (.int p2), .val (.int g0), .val (.int g1), .val (.int g2), .val (.int ng), .val (.ref ba1), .val (.int (2 : Int32))] [(.int (1 : Int32))]) _
          exact retN Xw65 hx (t := .boolean) hret (by simp) (hb hby d12_135) hlv
        · show Q_mat3 Z a p0 p1 p2 g0 g1 g2 ng k z vs h0 n0 _ Tw65.heap _
          rw [ew65]
          exact ⟨rfl, Nw65, K66⟩
      · have F74 := (f0.keep K60 nin0)
        obtain ⟨clv75, Arv75, qv75, Sv75, Nv75, Hv75, Gv75⟩ := id F74
        have hvs1 : vs = [(.int p1)] := by rw [hvs]; first | done | simp [own_f, c4, c56, c62]
        have hz1 : z = (1 : Int32) := by rw [hz, hvs1]; first | done | rfl
        have in76 : ¬ ((0 : Int32) < 0 ∨ clv75.slots.size ≤ ((0 : Int32)).toNatClampNeg) := inb_of Sv75 ⟨by decide, by rw [hz1]; decide⟩
        have atin76 : clv75.slots[((0 : Int32)).toNatClampNeg]? = some (.int p1) := Has.at Hv75 in76 (by rw [hvs1]; rfl)
        obtain ⟨clv77, Arv77, qv77, Sv77, Nv77, Hv77, Gv77⟩ := id Vw59
        have in78 : ¬ ((0 : Int32) < 0 ∨ clv77.slots.size ≤ ((0 : Int32)).toNatClampNeg) := inb_of Sv77 ⟨by decide, by decide⟩
        have atin78 : clv77.slots[((0 : Int32)).toNatClampNeg]? = some (.int p1) := Has.at Hv77 in78 rfl
        obtain ⟨fs, hlv, hrun, hended, hW, hsame⟩ := Xw59.leave (v := some (.int (1 : Int32))) (fun h => by rw [hret] at h; cases h)
        refine ⟨_, _, r61 _ ?_, hrun, hended, _, _, rfl, ?_, ⟨_, rfl⟩, hW, hsame.mono (by decide) (by decide)⟩
        · refine XS.icmpYes Xw59.here hx rfl (pc0 := 58) (pc' := 71) rfl (hb hby d12_58) rfl (feq c62).2 (by decide) (by decide) ?_
          show Sp p e below Tw59 (mkF m 71 #[.val (.ref a), .val (.int (3 : Int32)), .val (.int p0), .val (.int p1), .val (.int p2), .val (.int g0), .val (.int g1), .val (.int g2), .val (.int ng), .val (.ref ba1), .val (.int (1 : Int32))] []) _
          refine XS.aloadN Xw59.here hx rfl (hb hby d12_71) rfl rfl ?_
          refine XS.ifnullNo Xw59.here hx rfl (hb hby d12_72) rfl ?_
          refine XS.aloadN Xw59.here hx rfl (hb hby d12_75) rfl rfl ?_
          show Sp p e below Tw59 (mkF m 76 #[.val (.ref a), .val (.int (3 : Int32)), .val (.int p0), .val (.int p1), .val (.int p2), .val (.int g0), .val (.int g1), .val (.int g2), .val (.int ng), .val (.ref ba1), .val (.int (1 : Int32))] [(.ref a)]) _
          refine Xw59.arraylength hx (own_eq ew59 Arv75.1) (State.isArrayOf_alike hZ.alike Arv75.2.1) (g := (mkF m 76 #[.val (.ref a), .val (.int (3 : Int32)), .val (.int p0), .val (.int p1), .val (.int p2), .val (.int g0), .val (.int g1), .val (.int g2), .val (.int ng), .val (.ref ba1), .val (.int (1 : Int32))] [(.ref a)])) rfl rfl (hb hby d12_76) _ ?_
          rw [len_of Sv75 Nv75]
          show Sp p e below Tw59 (mkF m 77 #[.val (.ref a), .val (.int (3 : Int32)), .val (.int p0), .val (.int p1), .val (.int p2), .val (.int g0), .val (.int g1), .val (.int g2), .val (.int ng), .val (.ref ba1), .val (.int (1 : Int32))] [(.int z)]) _
          refine XS.iload Xw59.here hx rfl (hb hby d12_77) rfl ?_
          refine XS.icmpNo Xw59.here hx rfl (hb hby d12_79) rfl (teq hz1).2 ?_
          refine XS.iload Xw59.here hx rfl (hb hby d12_82) rfl ?_
          refine XS.iconst Xw59.here hx rfl (hb hby d12_84) ?_
          refine XS.icmpNo Xw59.here hx rfl (hb hby d12_85) rfl (flt (by decide : ¬ ((1 : Int32) < (1 : Int32)))).1 ?_
          refine XS.aloadN Xw59.here hx rfl (hb hby d12_88) rfl rfl ?_
          refine XS.iconst Xw59.here hx rfl (hb hby d12_89) ?_
          show Sp p e below Tw59 (mkF m 90 #[.val (.ref a), .val (.int (3 : Int32)), .val (.int p0), .val (.int p1), .val (.int p2), .val (.int g0), .val (.int g1), .val (.int g2), .val (.int ng), .val (.ref ba1), .val (.int (1 : Int32))] [(.int (0 : Int32)), (.ref a)]) _
          refine Xw59.iaload hx (j := (0 : Int32)) (v := (.int p1)) (own_eq ew59 Arv75.1) (State.isArrayOf_alike hZ.alike Arv75.2.1) Arv75.2.2 in76 atin76 (g := (mkF m 90 #[.val (.ref a), .val (.int (3 : Int32)), .val (.int p0), .val (.int p1), .val (.int p2), .val (.int g0), .val (.int g1), .val (.int g2), .val (.int ng), .val (.ref ba1), .val (.int (1 : Int32))] [(.int (0 : Int32)), (.ref a)])) rfl rfl (hb hby d12_90) _ ?_
          show Sp p e below Tw59 (mkF m 91 #[.val (.ref a), .val (.int (3 : Int32)), .val (.int p0), .val (.int p1), .val (.int p2), .val (.int g0), .val (.int g1), .val (.int g2), .val (.int ng), .val (.ref ba1), .val (.int (1 : Int32))] [(.int p1)]) _
          refine XS.aload Xw59.here hx rfl (hb hby d12_91) rfl rfl ?_
          refine XS.iconst Xw59.here hx rfl (hb hby d12_93) ?_
          show Sp p e below Tw59 (mkF m 94 #[.val (.ref a), .val (.int (3 : Int32)), .val (.int p0), .val (.int p1), .val (.int p2), .val (.int g0), .val (.int g1), .val (.int g2), .val (.int ng), .val (.ref ba1), .val (.int (1 : Int32))] [(.int (0 : Int32)), (.ref ba1), (.int p1)]) _
          refine Xw59.iaload hx (j := (0 : Int32)) (v := (.int p1)) (own_eq ew59 Arv77.1) (State.isArrayOf_alike hZ.alike Arv77.2.1) Arv77.2.2 in78 atin78 (g := (mkF m 94 #[.val (.ref a), .val (.int (3 : Int32)), .val (.int p0), .val (.int p1), .val (.int p2), .val (.int g0), .val (.int g1), .val (.int g2), .val (.int ng), .val (.ref ba1), .val (.int (1 : Int32))] [(.int (0 : Int32)), (.ref ba1), (.int p1)])) rfl rfl (hb hby d12_94) _ ?_
          show Sp p e below Tw59 (mkF m 95 #[.val (.ref a), .val (.int (3 : Int32)), .val (.int p0), .val (.int p1), .val (.int p2), .val (.int g0), .val (.int g1), .val (.int g2), .val (.int ng), .val (.ref ba1), .val (.int (1 : Int32))] [(.int p1), (.int p1)]) _
          refine XS.icmpNo Xw59.here hx rfl (hb hby d12_95) rfl (teq (rfl : p1 = p1)).2 ?_
          refine XS.iload Xw59.here hx rfl (hb hby d12_98) rfl ?_
          refine XS.iconst Xw59.here hx rfl (hb hby d12_100) ?_
          refine XS.icmpYes Xw59.here hx rfl (pc0 := 101) (pc' := 114) rfl (hb hby d12_101) rfl (tlt (by decide : (1 : Int32) < (2 : Int32))).1 (by decide) (by decide) ?_
          refine XS.iload Xw59.here hx rfl (hb hby d12_114) rfl ?_
          refine XS.iconst Xw59.here hx rfl (hb hby d12_116) ?_
          refine XS.icmpYes Xw59.here hx rfl (pc0 := 117) (pc' := 130) rfl (hb hby d12_117) rfl (tlt (by decide : (1 : Int32) < (3 : Int32))).1 (by decide) (by decide) ?_
          refine XS.iconst Xw59.here hx rfl (hb hby d12_130) ?_
          refine XS.goto Xw59.here hx rfl (pc0 := 131) (pc' := 135) rfl (hb hby d12_131) (by decide) (by decide) ?_
          show Sp p e below Tw59 (mkF m 135 #[.val (.ref a), .val (.int (3 : Int32)), .val (.int p0), .val (.int p1), .val (.int p2), .val (.int g0), .val (.int g1), .val (.int g2), .val (.int ng), .val (.ref ba1), .val (.int (1 : Int32))] [(.int (1 : Int32))]) _
          exact retN Xw59 hx (t := .boolean) hret (by simp) (hb hby d12_135) hlv
        · show Q_mat3 Z a p0 p1 p2 g0 g1 g2 ng k z vs h0 n0 _ Tw59.heap _
          rw [ew59]
          exact ⟨rfl, Nw59, K60⟩
    · have r79 : ∀ t_, Sp p e below Ta1 (mkF m 58 #[.val (.ref a), .val (.int (3 : Int32)), .val (.int p0), .val (.int p1), .val (.int p2), .val (.int g0), .val (.int g1), .val (.int g2), .val (.int ng), .val (.ref ba1), .val (.int (0 : Int32))] [(.int ng), (.int g2)]) t_ → Sp p e below s₁ (entryFrame m #[(.ref a), (.int (3 : Int32)), (.int p0), (.int p1), (.int p2), (.int g0), (.int g1), (.int g2), (.int ng)] 11) t_ := by
        intro t_ k_
        refine r55 _ ?_
        refine XS.icmpYes Xa1.here hx rfl (pc0 := 37) (pc' := 49) rfl (hb hby d12_37) rfl (feq c56).2 (by decide) (by decide) ?_
        refine XS.iloadN Xa1.here hx rfl (hb hby d12_49) rfl ?_
        refine XS.iconst Xa1.here hx rfl (hb hby d12_50) ?_
        refine XS.icmpNo Xa1.here hx rfl (hb hby d12_51) rfl (tlt (by decide : (2 : Int32) < (3 : Int32))).2.2.2 ?_
        refine XS.iload Xa1.here hx rfl (hb hby d12_54) rfl ?_
        refine XS.iload Xa1.here hx rfl (hb hby d12_56) rfl ?_
        show Sp p e below Ta1 (mkF m 58 #[.val (.ref a), .val (.int (3 : Int32)), .val (.int p0), .val (.int p1), .val (.int p2), .val (.int g0), .val (.int g1), .val (.int g2), .val (.int ng), .val (.ref ba1), .val (.int (0 : Int32))] [(.int ng), (.int g2)]) _
        exact k_
      by_cases c80 : g2 = ng
      · obtain ⟨clv81, Arv81, qv81, Sv81, Nv81, Hv81, Gv81⟩ := id Va1
        have in82 : ¬ ((0 : Int32) < 0 ∨ clv81.slots.size ≤ ((0 : Int32)).toNatClampNeg) := inb_of Sv81 ⟨by decide, by decide⟩
        obtain ⟨Tw83, hw83, Xw83, ew83, Ww83, stw83⟩ := stI Xa1 hx hZ ea1 Arv81 (j := (0 : Int32)) in82 (g := (mkF m 67 #[.val (.ref a), .val (.int (3 : Int32)), .val (.int p0), .val (.int p1), .val (.int p2), .val (.int g0), .val (.int g1), .val (.int g2), .val (.int ng), .val (.ref ba1), .val (.int (0 : Int32))] [(.int p2), (.int (0 : Int32)), (.ref ba1)])) rfl rfl (hb hby d12_67)
        have Vw83 : Arv Z hw83 ba1 ka1 .int (3 : Int32) [(.int p2), (.int (0 : Int32)), (.int (0 : Int32))] (.int (0 : Int32)) := Arv.set Arv81 qv81 Sv81 Nv81 Hv81 Gv81 rfl Ww83 0 rfl (Nat.le_of_ble_eq_true rfl)
        have Nw83 := Fr.snoc Xw83 N0 g_ba1
        have K84 : Keep h0 hw83 [] := K2.wr Ww83 (Or.inr y_ba1)
        have F85 := (f0.keep K84 nin0)
        obtain ⟨clv86, Arv86, qv86, Sv86, Nv86, Hv86, Gv86⟩ := id F85
        have hvs1 : vs = [(.int p2)] := by rw [hvs]; first | done | simp [own_f, c4, c56, c80]
        have hz1 : z = (1 : Int32) := by rw [hz, hvs1]; first | done | rfl
        have in87 : ¬ ((0 : Int32) < 0 ∨ clv86.slots.size ≤ ((0 : Int32)).toNatClampNeg) := inb_of Sv86 ⟨by decide, by rw [hz1]; decide⟩
        have atin87 : clv86.slots[((0 : Int32)).toNatClampNeg]? = some (.int p2) := Has.at Hv86 in87 (by rw [hvs1]; rfl)
        obtain ⟨clv88, Arv88, qv88, Sv88, Nv88, Hv88, Gv88⟩ := id Vw83
        have in89 : ¬ ((0 : Int32) < 0 ∨ clv88.slots.size ≤ ((0 : Int32)).toNatClampNeg) := inb_of Sv88 ⟨by decide, by decide⟩
        have atin89 : clv88.slots[((0 : Int32)).toNatClampNeg]? = some (.int p2) := Has.at Hv88 in89 rfl
        obtain ⟨fs, hlv, hrun, hended, hW, hsame⟩ := Xw83.leave (v := some (.int (1 : Int32))) (fun h => by rw [hret] at h; cases h)
        refine ⟨_, _, r79 _ ?_, hrun, hended, _, _, rfl, ?_, ⟨_, rfl⟩, hW, hsame.mono (by decide) (by decide)⟩
        · refine XS.icmpNo Xa1.here hx rfl (hb hby d12_58) rfl (teq c80).2 ?_
          show Sp p e below Ta1 (mkF m 61 #[.val (.ref a), .val (.int (3 : Int32)), .val (.int p0), .val (.int p1), .val (.int p2), .val (.int g0), .val (.int g1), .val (.int g2), .val (.int ng), .val (.ref ba1), .val (.int (0 : Int32))] []) _
          refine XS.aload Xa1.here hx rfl (hb hby d12_61) rfl rfl ?_
          refine XS.iload Xa1.here hx rfl (hb hby d12_63) rfl ?_
          refine XS.iload Xa1.here hx rfl (hb hby d12_65) rfl ?_
          refine stw83 _ ?_
          refine XS.iinc Xw83.here hx rfl (hb hby d12_68) rfl (l' := #[.val (.ref a), .val (.int (3 : Int32)), .val (.int p0), .val (.int p1), .val (.int p2), .val (.int g0), .val (.int g1), .val (.int g2), .val (.int ng), .val (.ref ba1), .val (.int (1 : Int32))]) rfl ?_
          refine XS.aloadN Xw83.here hx rfl (hb hby d12_71) rfl rfl ?_
          refine XS.ifnullNo Xw83.here hx rfl (hb hby d12_72) rfl ?_
          refine XS.aloadN Xw83.here hx rfl (hb hby d12_75) rfl rfl ?_
          show Sp p e below Tw83 (mkF m 76 #[.val (.ref a), .val (.int (3 : Int32)), .val (.int p0), .val (.int p1), .val (.int p2), .val (.int g0), .val (.int g1), .val (.int g2), .val (.int ng), .val (.ref ba1), .val (.int (1 : Int32))] [(.ref a)]) _
          refine Xw83.arraylength hx (own_eq ew83 Arv86.1) (State.isArrayOf_alike hZ.alike Arv86.2.1) (g := (mkF m 76 #[.val (.ref a), .val (.int (3 : Int32)), .val (.int p0), .val (.int p1), .val (.int p2), .val (.int g0), .val (.int g1), .val (.int g2), .val (.int ng), .val (.ref ba1), .val (.int (1 : Int32))] [(.ref a)])) rfl rfl (hb hby d12_76) _ ?_
          rw [len_of Sv86 Nv86]
          show Sp p e below Tw83 (mkF m 77 #[.val (.ref a), .val (.int (3 : Int32)), .val (.int p0), .val (.int p1), .val (.int p2), .val (.int g0), .val (.int g1), .val (.int g2), .val (.int ng), .val (.ref ba1), .val (.int (1 : Int32))] [(.int z)]) _
          refine XS.iload Xw83.here hx rfl (hb hby d12_77) rfl ?_
          refine XS.icmpNo Xw83.here hx rfl (hb hby d12_79) rfl (teq hz1).2 ?_
          refine XS.iload Xw83.here hx rfl (hb hby d12_82) rfl ?_
          refine XS.iconst Xw83.here hx rfl (hb hby d12_84) ?_
          refine XS.icmpNo Xw83.here hx rfl (hb hby d12_85) rfl (flt (by decide : ¬ ((1 : Int32) < (1 : Int32)))).1 ?_
          refine XS.aloadN Xw83.here hx rfl (hb hby d12_88) rfl rfl ?_
          refine XS.iconst Xw83.here hx rfl (hb hby d12_89) ?_
          show Sp p e below Tw83 (mkF m 90 #[.val (.ref a), .val (.int (3 : Int32)), .val (.int p0), .val (.int p1), .val (.int p2), .val (.int g0), .val (.int g1), .val (.int g2), .val (.int ng), .val (.ref ba1), .val (.int (1 : Int32))] [(.int (0 : Int32)), (.ref a)]) _
          refine Xw83.iaload hx (j := (0 : Int32)) (v := (.int p2)) (own_eq ew83 Arv86.1) (State.isArrayOf_alike hZ.alike Arv86.2.1) Arv86.2.2 in87 atin87 (g := (mkF m 90 #[.val (.ref a), .val (.int (3 : Int32)), .val (.int p0), .val (.int p1), .val (.int p2), .val (.int g0), .val (.int g1), .val (.int g2), .val (.int ng), .val (.ref ba1), .val (.int (1 : Int32))] [(.int (0 : Int32)), (.ref a)])) rfl rfl (hb hby d12_90) _ ?_
          show Sp p e below Tw83 (mkF m 91 #[.val (.ref a), .val (.int (3 : Int32)), .val (.int p0), .val (.int p1), .val (.int p2), .val (.int g0), .val (.int g1), .val (.int g2), .val (.int ng), .val (.ref ba1), .val (.int (1 : Int32))] [(.int p2)]) _
          refine XS.aload Xw83.here hx rfl (hb hby d12_91) rfl rfl ?_
          refine XS.iconst Xw83.here hx rfl (hb hby d12_93) ?_
          show Sp p e below Tw83 (mkF m 94 #[.val (.ref a), .val (.int (3 : Int32)), .val (.int p0), .val (.int p1), .val (.int p2), .val (.int g0), .val (.int g1), .val (.int g2), .val (.int ng), .val (.ref ba1), .val (.int (1 : Int32))] [(.int (0 : Int32)), (.ref ba1), (.int p2)]) _
          refine Xw83.iaload hx (j := (0 : Int32)) (v := (.int p2)) (own_eq ew83 Arv88.1) (State.isArrayOf_alike hZ.alike Arv88.2.1) Arv88.2.2 in89 atin89 (g := (mkF m 94 #[.val (.ref a), .val (.int (3 : Int32)), .val (.int p0), .val (.int p1), .val (.int p2), .val (.int g0), .val (.int g1), .val (.int g2), .val (.int ng), .val (.ref ba1), .val (.int (1 : Int32))] [(.int (0 : Int32)), (.ref ba1), (.int p2)])) rfl rfl (hb hby d12_94) _ ?_
          show Sp p e below Tw83 (mkF m 95 #[.val (.ref a), .val (.int (3 : Int32)), .val (.int p0), .val (.int p1), .val (.int p2), .val (.int g0), .val (.int g1), .val (.int g2), .val (.int ng), .val (.ref ba1), .val (.int (1 : Int32))] [(.int p2), (.int p2)]) _
          refine XS.icmpNo Xw83.here hx rfl (hb hby d12_95) rfl (teq (rfl : p2 = p2)).2 ?_
          refine XS.iload Xw83.here hx rfl (hb hby d12_98) rfl ?_
          refine XS.iconst Xw83.here hx rfl (hb hby d12_100) ?_
          refine XS.icmpYes Xw83.here hx rfl (pc0 := 101) (pc' := 114) rfl (hb hby d12_101) rfl (tlt (by decide : (1 : Int32) < (2 : Int32))).1 (by decide) (by decide) ?_
          refine XS.iload Xw83.here hx rfl (hb hby d12_114) rfl ?_
          refine XS.iconst Xw83.here hx rfl (hb hby d12_116) ?_
          refine XS.icmpYes Xw83.here hx rfl (pc0 := 117) (pc' := 130) rfl (hb hby d12_117) rfl (tlt (by decide : (1 : Int32) < (3 : Int32))).1 (by decide) (by decide) ?_
          refine XS.iconst Xw83.here hx rfl (hb hby d12_130) ?_
          refine XS.goto Xw83.here hx rfl (pc0 := 131) (pc' := 135) rfl (hb hby d12_131) (by decide) (by decide) ?_
          show Sp p e below Tw83 (mkF m 135 #[.val (.ref a), .val (.int (3 : Int32)), .val (.int p0), .val (.int p1), .val (.int p2), .val (.int g0), .val (.int g1), .val (.int g2), .val (.int ng), .val (.ref ba1), .val (.int (1 : Int32))] [(.int (1 : Int32))]) _
          exact retN Xw83 hx (t := .boolean) hret (by simp) (hb hby d12_135) hlv
        · show Q_mat3 Z a p0 p1 p2 g0 g1 g2 ng k z vs h0 n0 _ Tw83.heap _
          rw [ew83]
          exact ⟨rfl, Nw83, K84⟩
      · have F90 := (f0.keep K2 nin0)
        obtain ⟨clv91, Arv91, qv91, Sv91, Nv91, Hv91, Gv91⟩ := id F90
        have hvs1 : vs = [] := by rw [hvs]; first | done | simp [own_f, c4, c56, c80]
        have hz1 : z = (0 : Int32) := by rw [hz, hvs1]; first | done | rfl
        obtain ⟨fs, hlv, hrun, hended, hW, hsame⟩ := Xa1.leave (v := some (.int (1 : Int32))) (fun h => by rw [hret] at h; cases h)
        refine ⟨_, _, r79 _ ?_, hrun, hended, _, _, rfl, ?_, ⟨_, rfl⟩, hW, hsame.mono (by decide) (by decide)⟩
        · refine XS.icmpYes Xa1.here hx rfl (pc0 := 58) (pc' := 71) rfl (hb hby d12_58) rfl (feq c80).2 (by decide) (by decide) ?_
          show Sp p e below Ta1 (mkF m 71 #[.val (.ref a), .val (.int (3 : Int32)), .val (.int p0), .val (.int p1), .val (.int p2), .val (.int g0), .val (.int g1), .val (.int g2), .val (.int ng), .val (.ref ba1), .val (.int (0 : Int32))] []) _
          refine XS.aloadN Xa1.here hx rfl (hb hby d12_71) rfl rfl ?_
          refine XS.ifnullNo Xa1.here hx rfl (hb hby d12_72) rfl ?_
          refine XS.aloadN Xa1.here hx rfl (hb hby d12_75) rfl rfl ?_
          show Sp p e below Ta1 (mkF m 76 #[.val (.ref a), .val (.int (3 : Int32)), .val (.int p0), .val (.int p1), .val (.int p2), .val (.int g0), .val (.int g1), .val (.int g2), .val (.int ng), .val (.ref ba1), .val (.int (0 : Int32))] [(.ref a)]) _
          refine Xa1.arraylength hx (own_eq ea1 Arv91.1) (State.isArrayOf_alike hZ.alike Arv91.2.1) (g := (mkF m 76 #[.val (.ref a), .val (.int (3 : Int32)), .val (.int p0), .val (.int p1), .val (.int p2), .val (.int g0), .val (.int g1), .val (.int g2), .val (.int ng), .val (.ref ba1), .val (.int (0 : Int32))] [(.ref a)])) rfl rfl (hb hby d12_76) _ ?_
          rw [len_of Sv91 Nv91]
          show Sp p e below Ta1 (mkF m 77 #[.val (.ref a), .val (.int (3 : Int32)), .val (.int p0), .val (.int p1), .val (.int p2), .val (.int g0), .val (.int g1), .val (.int g2), .val (.int ng), .val (.ref ba1), .val (.int (0 : Int32))] [(.int z)]) _
          refine XS.iload Xa1.here hx rfl (hb hby d12_77) rfl ?_
          refine XS.icmpNo Xa1.here hx rfl (hb hby d12_79) rfl (teq hz1).2 ?_
          refine XS.iload Xa1.here hx rfl (hb hby d12_82) rfl ?_
          refine XS.iconst Xa1.here hx rfl (hb hby d12_84) ?_
          refine XS.icmpYes Xa1.here hx rfl (pc0 := 85) (pc' := 98) rfl (hb hby d12_85) rfl (tlt (by decide : (0 : Int32) < (1 : Int32))).1 (by decide) (by decide) ?_
          refine XS.iload Xa1.here hx rfl (hb hby d12_98) rfl ?_
          refine XS.iconst Xa1.here hx rfl (hb hby d12_100) ?_
          refine XS.icmpYes Xa1.here hx rfl (pc0 := 101) (pc' := 114) rfl (hb hby d12_101) rfl (tlt (by decide : (0 : Int32) < (2 : Int32))).1 (by decide) (by decide) ?_
          refine XS.iload Xa1.here hx rfl (hb hby d12_114) rfl ?_
          refine XS.iconst Xa1.here hx rfl (hb hby d12_116) ?_
          refine XS.icmpYes Xa1.here hx rfl (pc0 := 117) (pc' := 130) rfl (hb hby d12_117) rfl (tlt (by decide : (0 : Int32) < (3 : Int32))).1 (by decide) (by decide) ?_
          refine XS.iconst Xa1.here hx rfl (hb hby d12_130) ?_
          refine XS.goto Xa1.here hx rfl (pc0 := 131) (pc' := 135) rfl (hb hby d12_131) (by decide) (by decide) ?_
          show Sp p e below Ta1 (mkF m 135 #[.val (.ref a), .val (.int (3 : Int32)), .val (.int p0), .val (.int p1), .val (.int p2), .val (.int g0), .val (.int g1), .val (.int g2), .val (.int ng), .val (.ref ba1), .val (.int (0 : Int32))] [(.int (1 : Int32))]) _
          exact retN Xa1 hx (t := .boolean) hret (by simp) (hb hby d12_135) hlv
        · show Q_mat3 Z a p0 p1 p2 g0 g1 g2 ng k z vs h0 n0 _ Ta1.heap _
          rw [ea1]
          exact ⟨rfl, N0, K2⟩
def Q_mat (Z : State) (a : Addr) (n : Int32) (p0 : Int32) (p1 : Int32) (p2 : Int32) (g0 : Int32) (g1 : Int32) (g2 : Int32) (ng : Int32) (k : ClassId) (z : Int32) (vs : List Value) (h0 : Heap) (n0 : Nat) (v : Option Value) (h : Heap) (L : List Loc) : Prop := v = some (.int (1 : Int32)) ∧ Fr n0 L ∧ Keep h0 h []
set_option maxRecDepth 65536 in
set_option maxHeartbeats 40000000 in
theorem rm_mat (l : Launch) (Z : State) (a0 : Array Value) (hw : ∀ d ∈ tables_1, d.before a0 Z = true) (ws : List Jvm.Cond) (a : Addr) (n : Int32) (p0 : Int32) (p1 : Int32) (p2 : Int32) (g0 : Int32) (g1 : Int32) (g2 : Int32) (ng : Int32) (k : ClassId) (z : Int32) (vs : List Value) (h0 : Heap) (n0 : Nat) (Z0 : n0 ≤ h0.size) (O0 : Old Z n0 h0) (f0 : Arv Z h0 a k .int z vs (.int (0 : Int32))) (hn : n = 0 ∨ n = 1 ∨ n = 2 ∨ n = 3) (hvs : vs = own_sel n g0 p0 g1 p1 g2 p2 ng) (hz : z = Int32.ofNat vs.length) :
    MetFree l Y37 (head1 (Jvm.Cond.code Y37 method_3_code 11 (some .boolean) :: ws) ({ frames := 0, cells := 1, slots := 3, locals := 0 } : Room)) (fun A_ U => A_ = #[(.ref a), (.int n), (.int p0), (.int p1), (.int p2), (.int g0), (.int g1), (.int g2), (.int ng)] ∧ Z.Warmed39 U.vm ∧ U.heap = h0) (fun _ _ _ _ _ => True) (fun _ U o_ U' => ∃ v_ L_, o_ = .returned v_ ∧ Q_mat Z a n p0 p1 p2 g0 g1 g2 ng k z vs h0 n0 v_ U'.heap L_ ∧ FrameEnd U o_ U' L_ ({ frames := 0, cells := 1, slots := 3, locals := 0 } : Room).cells ({ frames := 0, cells := 1, slots := 3, locals := 0 } : Room).slots) := by
  rcases hn with rfl | rfl | rfl | rfl
  · exact rm_mat0 l Z a0 hw ws a p0 p1 p2 g0 g1 g2 ng k z vs h0 n0 Z0 O0 f0 (by rw [hvs]; simp [own_sel]) hz
  · exact rm_mat1 l Z a0 hw ws a p0 p1 p2 g0 g1 g2 ng k z vs h0 n0 Z0 O0 f0 (by rw [hvs]; simp [own_sel]) hz
  · exact rm_mat2 l Z a0 hw ws a p0 p1 p2 g0 g1 g2 ng k z vs h0 n0 Z0 O0 f0 (by rw [hvs]; simp [own_sel]) hz
  · exact rm_mat3 l Z a0 hw ws a p0 p1 p2 g0 g1 g2 ng k z vs h0 n0 Z0 O0 f0 (by rw [hvs]; simp [own_sel]) hz
def Q_law (Z : State) (p1 p2 p3 p4 p5 : Int32) (aD : Addr) (kD : ClassId) (aL aC : Addr) (h0 : Heap) (n0 : Nat) (v : Option Value) (h : Heap) (L : List Loc) : Prop := v = some (.int 1) ∧ Fr n0 L
theorem pd__Z__I : parseMethodDescriptor "(Z)[I" = some ⟨[.boolean], some (.array .int)⟩ := by decide +kernel
theorem pd___IIIIIZZZZ_Z : parseMethodDescriptor "([IIIIIZZZZ)Z" = some ⟨[(.array .int), .int, .int, .int, .int, .boolean, .boolean, .boolean, .boolean], some .boolean⟩ := by decide +kernel
set_option maxRecDepth 65536 in
set_option maxHeartbeats 40000000 in
theorem tl_tail (p : Program) (l : Launch) (e : Env) (s : State) (m : MethodId) (args : Array Value) (below : List Frame) (meth : Method) (c : Code) (T0 : State) (locs : List Loc) (Z : State) (a0 : Array Value) (hw : ∀ d ∈ tables_1, d.before a0 Z = true) (p1 : Int32) (p2 : Int32) (p3 : Int32) (p4 : Int32) (p5 : Int32) (n : Int32) (g0 : Int32) (g1 : Int32) (g2 : Int32) (ls : Addr) (t : Addr) (b1 : Addr) (k1 : ClassId) (z1 : Int32) (vs1 : List Value) (b2 : Addr) (k2 : ClassId) (z2 : Int32) (vs2 : List Value) (aD : Addr) (kD : ClassId) (aL : Addr) (aC : Addr) (h0 : Heap) (n0 : Nat)
    (X0 : Stand p l e room_1 s m args below meth c T0 locs 40 150) (hx : p.tables.exec = Jvm.exec) (hZ : Z.Warmed39 s.vm) (hby : c.code = code) (hml : c.maxLocals = 16) (hown : s.vm.findClass "com/example/lassoo/lassoo/lang/TransitionLiteralsPinLaw" = some m.cls) (hret : meth.sig.returnType = (some .boolean)) (hlk : meth.locks = false) (e0 : T0.heap = h0) (N0 : Fr n0 locs) (Z0 : n0 ≤ h0.size) (O0 : Old Z n0 h0) (f0 : Exa Z h0 t S8) (f1 : Fld Z h0 t S8 "positive" "[I" (.ref b1)) (f2 : Fld Z h0 t S8 "negative" "[I" (.ref b2)) (f3 : Exa Z h0 b1 "[I") (f4 : Arv Z h0 b1 k1 .int z1 vs1 (.int (0 : Int32))) (f5 : Exa Z h0 b2 "[I") (f6 : Arv Z h0 b2 k2 .int z2 vs2 (.int (0 : Int32))) (hn : n = 0 ∨ n = 1 ∨ n = 2 ∨ n = 3) (hvs1 : vs1 = own_sel n g0 p2 g1 p3 g2 p4 (0 : Int32)) (hz1 : z1 = Int32.ofNat vs1.length) (hvs2 : vs2 = own_sel n g0 p2 g1 p3 g2 p4 (1 : Int32)) (hz2 : z2 = Int32.ofNat vs2.length) (b12 : b1 ≠ b2) :
    ∃ s₂ o, Sp p e below T0 (mkF m 123 #[.val (.int p1), .val (.int p2), .val (.int p3), .val (.int p4), .val (.int p5), .val (.int n), .val (.int g0), .val (.int g1), .val (.int g2), .val (.ref ls), .unset, .unset, .unset, .unset, .unset, .unset] [(.ref t)]) s₂ ∧ s₂.status = .running ∧ Ended s₂ below o ∧ ∃ v L, o = .returned v ∧ Q_law Z p1 p2 p3 p4 p5 aD kD aL aC h0 n0 v s₂.heap L ∧ FrameEnd s o s₂ L room_1.cells room_1.slots := by
  have pre0 : ∀ t_, Sp p e below T0 (mkF m 123 #[.val (.int p1), .val (.int p2), .val (.int p3), .val (.int p4), .val (.int p5), .val (.int n), .val (.int g0), .val (.int g1), .val (.int g2), .val (.ref ls), .unset, .unset, .unset, .unset, .unset, .unset] [(.ref t)]) t_ → Sp p e below T0 (mkF m 123 #[.val (.int p1), .val (.int p2), .val (.int p3), .val (.int p4), .val (.int p5), .val (.int n), .val (.int g0), .val (.int g1), .val (.int g2), .val (.ref ls), .unset, .unset, .unset, .unset, .unset, .unset] [(.ref t)]) t_ := fun t_ k_ => k_
  have hc1 : z1.toNatClampNeg ≤ 3 := own_cap3 (by rw [hvs1]; exact own_sel_len _ _ _ _ _ _ _ _) hz1
  obtain ⟨y1, hy1⟩ := own_first (vs := vs1) (by rw [hvs1]; exact own_sel_int _ _ _ _ _ _ _ _)
  have hc2 : z2.toNatClampNeg ≤ 3 := own_cap3 (by rw [hvs2]; exact own_sel_len _ _ _ _ _ _ _ _) hz2
  obtain ⟨y2, hy2⟩ := own_first (vs := vs2) (by rw [hvs2]; exact own_sel_int _ _ _ _ _ _ _ _)
  obtain ⟨cqk1, kqk1, qk1a, qk1b, qk1c⟩ := isOf hZ e0 f0
  obtain ⟨_, _, ⟨Tk1, Lk1, kk1, nk1⟩, -, Xk1, ⟨Lck1, hQk1, lk1, yk1, zk1⟩, stk1⟩ := X0.virtualBack hx (y := Y36) (z := Y36) hown (mvT hZ (tw hw 93 rfl)) (mvT hZ (tw hw 94 rfl)) (notFace_of_selects (args := #[]) (mvT hZ (tw hw 96 rfl))) (mvT hZ (tw hw 96 rfl)) (mvT hZ (tw hw 95 rfl)) (by decide) (backOf (W := 0) (rm_lits1 l Z a0 hw [] t b1 k1 z1 vs1  h0 n0 Z0 O0 f0 f1 f3 f4 hc1) hZ (tw hw 97 rfl) (tw hw 28 rfl) (by decide) (by decide)) qk1a qk1c (g := (mkF m 128 #[.val (.int p1), .val (.int p2), .val (.int p3), .val (.int p4), .val (.int p5), .val (.int n), .val (.int g0), .val (.int g1), .val (.int g2), .val (.ref ls), .val (.ref t), .unset, .unset, .unset, .unset, .unset] [(.int (1 : Int32)), (.ref t)])) rfl (by rw [hml]; rfl) (Steps.refl _) (argsL := [(.int (1 : Int32))]) (rest := []) (lenOf pd__Z__I rfl) rfl (by show 2 * 0 + _ ≤ _; exact Nat.le_of_eq rfl) (hb hby at_128) (fun _ _ => ⟨rfl, e0, (by decide : 40 + 1 ≤ _), (by decide : 150 + 3 ≤ _)⟩)
  dsimp only [Pt.U, Pt.locs, Pt.cells, Pt.slots] at Xk1 lk1 yk1 zk1 stk1 hQk1
  subst lk1 yk1 zk1
  obtain ⟨c_k1, rfl, Nk1q, Kk1q, Gk1_0, Qk1_0, Qk1_1⟩ := hQk1
  have g_c_k1 : n0 ≤ c_k1 := Nat.le_trans Z0 Gk1_0
  have y_c_k1 : h0.size ≤ c_k1 := Nat.le_trans (Nat.le_refl h0.size) Gk1_0
  have K2 : Keep h0 Tk1.heap [] := (Keep.refl h0 []).trans Kk1q all0
  have Nk1 := Fr.app N0 Nk1q
  have F3 := (f0.keep K2)
  have F4 := (f2.keep K2 nin0)
  have F5 := (f5.keep K2)
  have F6 := (f6.keep K2 nin0)
  have Z7 : n0 ≤ Tk1.heap.size := (Nat.le_trans Z0 Kk1q.1)
  have O8 : Old Z n0 Tk1.heap := (O0.keep Kk1q all0)
  obtain ⟨cqk9, kqk9, qk9a, qk9b, qk9c⟩ := isOf hZ rfl F3
  obtain ⟨_, _, ⟨Tk9, Lk9, kk9, nk9⟩, -, Xk9, ⟨Lck9, hQk9, lk9, yk9, zk9⟩, stk9⟩ := Xk1.virtualBack hx (y := Y36) (z := Y36) hown (mvT hZ (tw hw 93 rfl)) (mvT hZ (tw hw 94 rfl)) (notFace_of_selects (args := #[]) (mvT hZ (tw hw 96 rfl))) (mvT hZ (tw hw 96 rfl)) (mvT hZ (tw hw 95 rfl)) (by decide) (backOf (W := 0) (rm_lits0 l Z a0 hw [] t b2 k2 z2 vs2  Tk1.heap n0 Z7 O8 F3 F4 F5 F6 hc2) hZ (tw hw 97 rfl) (tw hw 28 rfl) (by decide) (by decide)) qk9a qk9c (g := (mkF m 136 #[.val (.int p1), .val (.int p2), .val (.int p3), .val (.int p4), .val (.int p5), .val (.int n), .val (.int g0), .val (.int g1), .val (.int g2), .val (.ref ls), .val (.ref t), .val (.ref c_k1), .unset, .unset, .unset, .unset] [(.int (0 : Int32)), (.ref t)])) rfl (by rw [hml]; rfl) (Steps.refl _) (argsL := [(.int (0 : Int32))]) (rest := []) (lenOf pd__Z__I rfl) rfl (by show 2 * 0 + _ ≤ _; exact Nat.le_of_eq rfl) (hb hby at_136) (fun _ _ => ⟨rfl, rfl, (by decide : 41 + 1 ≤ _), (by decide : 153 + 3 ≤ _)⟩)
  dsimp only [Pt.U, Pt.locs, Pt.cells, Pt.slots] at Xk9 lk9 yk9 zk9 stk9 hQk9
  subst lk9 yk9 zk9
  obtain ⟨c_k9, rfl, Nk9q, Kk9q, Gk9_0, Qk9_0, Qk9_1⟩ := hQk9
  have Y10 : h0.size ≤ Tk1.heap.size := (Nat.le_trans (Nat.le_refl h0.size) Kk1q.1)
  have g_c_k9 : n0 ≤ c_k9 := Nat.le_trans Z7 Gk9_0
  have y_c_k9 : h0.size ≤ c_k9 := Nat.le_trans Y10 Gk9_0
  have K11 : Keep h0 Tk9.heap [] := K2.trans Kk9q all0
  have Nk9 := Fr.app Nk1 Nk9q
  have F12 := (Qk1_1.keep Kk9q nin0)
  have Z13 : n0 ≤ Tk9.heap.size := (Nat.le_trans Z7 Kk9q.1)
  have O14 : Old Z n0 Tk9.heap := (O8.keep Kk9q all0)
  obtain ⟨_, _, ⟨Tk15, Lk15, kk15, nk15⟩, -, Xk15, ⟨Lck15, hQk15, lk15, yk15, zk15⟩, stk15⟩ := Jvm.LawKit.callS Xk9 hx (y := Y37) hown (mvT hZ (tw hw 107 rfl)) (mvT hZ (tw hw 108 rfl)) (mvT hZ (tw hw 109 rfl)) (mvT hZ (tw hw 110 rfl)) (by decide) (backOf (W := 0) (rm_mat l Z a0 hw [] c_k1 n p2 p3 p4 g0 g1 g2 (0 : Int32) k1 z1 vs1  Tk9.heap n0 Z13 O14 F12 hn hvs1 hz1) hZ (tw hw 110 rfl) (tw hw 109 rfl) (by decide) (by decide)) (g := (mkF m 155 #[.val (.int p1), .val (.int p2), .val (.int p3), .val (.int p4), .val (.int p5), .val (.int n), .val (.int g0), .val (.int g1), .val (.int g2), .val (.ref ls), .val (.ref t), .val (.ref c_k1), .val (.ref c_k9), .unset, .unset, .unset] [(.int (0 : Int32)), (.int g2), (.int g1), (.int g0), (.int p4), (.int p3), (.int p2), (.int n), (.ref c_k1)])) rfl (by rw [hml]; rfl) (argsL := [(.ref c_k1), (.int n), (.int p2), (.int p3), (.int p4), (.int g0), (.int g1), (.int g2), (.int (0 : Int32))]) (rest := []) (lenOf pd___IIIIIZZZZ_Z rfl) rfl (by show 2 * 0 + _ ≤ _; exact Nat.le_of_eq rfl) (hb hby at_155) (fun _ _ => ⟨rfl, rfl, (by decide : 42 + 1 ≤ _), (by decide : 156 + 3 ≤ _)⟩)
  dsimp only [Pt.U, Pt.locs, Pt.cells, Pt.slots] at Xk15 lk15 yk15 zk15 stk15 hQk15
  subst lk15 yk15 zk15
  obtain ⟨rfl, Nk15q, Kk15q⟩ := hQk15
  have K16 : Keep h0 Tk15.heap [] := K11.trans Kk15q all0
  have Nk15 := Fr.app Nk9 Nk15q
  have F17 := (Qk9_1.keep Kk15q nin0)
  have Z18 : n0 ≤ Tk15.heap.size := (Nat.le_trans Z13 Kk15q.1)
  have O19 : Old Z n0 Tk15.heap := (O14.keep Kk15q all0)
  obtain ⟨_, _, ⟨Tk20, Lk20, kk20, nk20⟩, -, Xk20, ⟨Lck20, hQk20, lk20, yk20, zk20⟩, stk20⟩ := Jvm.LawKit.callS Xk15 hx (y := Y37) hown (mvT hZ (tw hw 107 rfl)) (mvT hZ (tw hw 108 rfl)) (mvT hZ (tw hw 109 rfl)) (mvT hZ (tw hw 110 rfl)) (by decide) (backOf (W := 0) (rm_mat l Z a0 hw [] c_k9 n p2 p3 p4 g0 g1 g2 (1 : Int32) k2 z2 vs2  Tk15.heap n0 Z18 O19 F17 hn hvs2 hz2) hZ (tw hw 110 rfl) (tw hw 109 rfl) (by decide) (by decide)) (g := (mkF m 175 #[.val (.int p1), .val (.int p2), .val (.int p3), .val (.int p4), .val (.int p5), .val (.int n), .val (.int g0), .val (.int g1), .val (.int g2), .val (.ref ls), .val (.ref t), .val (.ref c_k1), .val (.ref c_k9), .unset, .unset, .unset] [(.int (1 : Int32)), (.int g2), (.int g1), (.int g0), (.int p4), (.int p3), (.int p2), (.int n), (.ref c_k9)])) rfl (by rw [hml]; rfl) (argsL := [(.ref c_k9), (.int n), (.int p2), (.int p3), (.int p4), (.int g0), (.int g1), (.int g2), (.int (1 : Int32))]) (rest := []) (lenOf pd___IIIIIZZZZ_Z rfl) rfl (by show 2 * 0 + _ ≤ _; exact Nat.le_of_eq rfl) (hb hby at_175) (fun _ _ => ⟨rfl, rfl, (by decide : 43 + 1 ≤ _), (by decide : 159 + 3 ≤ _)⟩)
  dsimp only [Pt.U, Pt.locs, Pt.cells, Pt.slots] at Xk20 lk20 yk20 zk20 stk20 hQk20
  subst lk20 yk20 zk20
  obtain ⟨rfl, Nk20q, Kk20q⟩ := hQk20
  have K21 : Keep h0 Tk20.heap [] := K16.trans Kk20q all0
  have Nk20 := Fr.app Nk15 Nk20q
  have F22 := ((F12.keep Kk15q nin0).keep Kk20q nin0)
  obtain ⟨clv23, Arv23, qv23, Sv23, Nv23, Hv23, Gv23⟩ := id F22
  have r24 : ∀ t_, Sp p e below Tk20 (mkF m 191 #[.val (.int p1), .val (.int p2), .val (.int p3), .val (.int p4), .val (.int p5), .val (.int n), .val (.int g0), .val (.int g1), .val (.int g2), .val (.ref ls), .val (.ref t), .val (.ref c_k1), .val (.ref c_k9), .val (.int (1 : Int32)), .unset, .unset] [(.int z1)]) t_ → Sp p e below T0 (mkF m 123 #[.val (.int p1), .val (.int p2), .val (.int p3), .val (.int p4), .val (.int p5), .val (.int n), .val (.int g0), .val (.int g1), .val (.int g2), .val (.ref ls), .unset, .unset, .unset, .unset, .unset, .unset] [(.ref t)]) t_ := by
    intro t_ k_
    refine pre0 _ ?_
    refine XS.astore X0.here hx rfl (hb hby at_123) rfl rfl (l' := #[.val (.int p1), .val (.int p2), .val (.int p3), .val (.int p4), .val (.int p5), .val (.int n), .val (.int g0), .val (.int g1), .val (.int g2), .val (.ref ls), .val (.ref t), .unset, .unset, .unset, .unset, .unset]) rfl ?_
    refine XS.aload X0.here hx rfl (hb hby at_125) rfl rfl ?_
    refine XS.iconst X0.here hx rfl (hb hby at_127) ?_
    refine stk1.trans ?_
    refine XS.astore Xk1.here hx rfl (hb hby at_131) rfl rfl (l' := #[.val (.int p1), .val (.int p2), .val (.int p3), .val (.int p4), .val (.int p5), .val (.int n), .val (.int g0), .val (.int g1), .val (.int g2), .val (.ref ls), .val (.ref t), .val (.ref c_k1), .unset, .unset, .unset, .unset]) rfl ?_
    refine XS.aload Xk1.here hx rfl (hb hby at_133) rfl rfl ?_
    refine XS.iconst Xk1.here hx rfl (hb hby at_135) ?_
    refine stk9.trans ?_
    refine XS.astore Xk9.here hx rfl (hb hby at_139) rfl rfl (l' := #[.val (.int p1), .val (.int p2), .val (.int p3), .val (.int p4), .val (.int p5), .val (.int n), .val (.int g0), .val (.int g1), .val (.int g2), .val (.ref ls), .val (.ref t), .val (.ref c_k1), .val (.ref c_k9), .unset, .unset, .unset]) rfl ?_
    refine XS.aload Xk9.here hx rfl (hb hby at_141) rfl rfl ?_
    refine XS.iload Xk9.here hx rfl (hb hby at_143) rfl ?_
    refine XS.iloadN Xk9.here hx rfl (hb hby at_145) rfl ?_
    refine XS.iloadN Xk9.here hx rfl (hb hby at_146) rfl ?_
    refine XS.iloadN Xk9.here hx rfl (hb hby at_147) rfl ?_
    refine XS.iload Xk9.here hx rfl (hb hby at_148) rfl ?_
    refine XS.iload Xk9.here hx rfl (hb hby at_150) rfl ?_
    refine XS.iload Xk9.here hx rfl (hb hby at_152) rfl ?_
    refine XS.iconst Xk9.here hx rfl (hb hby at_154) ?_
    refine stk15 _ ?_
    refine XS.ifNo Xk15.here hx rfl (hb hby at_158) rfl ((if0 _ _).trans (feq (by decide : ¬ ((1 : Int32) = (0 : Int32)))).1) ?_
    refine XS.aload Xk15.here hx rfl (hb hby at_161) rfl rfl ?_
    show Sp p e below Tk15 (mkF m 163 #[.val (.int p1), .val (.int p2), .val (.int p3), .val (.int p4), .val (.int p5), .val (.int n), .val (.int g0), .val (.int g1), .val (.int g2), .val (.ref ls), .val (.ref t), .val (.ref c_k1), .val (.ref c_k9), .unset, .unset, .unset] [(.ref c_k9)]) _
    refine XS.iload Xk15.here hx rfl (hb hby at_163) rfl ?_
    refine XS.iloadN Xk15.here hx rfl (hb hby at_165) rfl ?_
    refine XS.iloadN Xk15.here hx rfl (hb hby at_166) rfl ?_
    refine XS.iloadN Xk15.here hx rfl (hb hby at_167) rfl ?_
    refine XS.iload Xk15.here hx rfl (hb hby at_168) rfl ?_
    refine XS.iload Xk15.here hx rfl (hb hby at_170) rfl ?_
    refine XS.iload Xk15.here hx rfl (hb hby at_172) rfl ?_
    refine XS.iconst Xk15.here hx rfl (hb hby at_174) ?_
    refine stk20 _ ?_
    refine XS.ifNo Xk20.here hx rfl (hb hby at_178) rfl ((if0 _ _).trans (feq (by decide : ¬ ((1 : Int32) = (0 : Int32)))).1) ?_
    refine XS.iconst Xk20.here hx rfl (hb hby at_181) ?_
    refine XS.goto Xk20.here hx rfl (pc0 := 182) (pc' := 186) rfl (hb hby at_182) (by decide) (by decide) ?_
    refine XS.istore Xk20.here hx rfl (hb hby at_186) rfl (l' := #[.val (.int p1), .val (.int p2), .val (.int p3), .val (.int p4), .val (.int p5), .val (.int n), .val (.int g0), .val (.int g1), .val (.int g2), .val (.ref ls), .val (.ref t), .val (.ref c_k1), .val (.ref c_k9), .val (.int (1 : Int32)), .unset, .unset]) rfl ?_
    refine XS.aload Xk20.here hx rfl (hb hby at_188) rfl rfl ?_
    show Sp p e below Tk20 (mkF m 190 #[.val (.int p1), .val (.int p2), .val (.int p3), .val (.int p4), .val (.int p5), .val (.int n), .val (.int g0), .val (.int g1), .val (.int g2), .val (.ref ls), .val (.ref t), .val (.ref c_k1), .val (.ref c_k9), .val (.int (1 : Int32)), .unset, .unset] [(.ref c_k1)]) _
    refine Xk20.arraylength hx (own_eq rfl Arv23.1) (State.isArrayOf_alike hZ.alike Arv23.2.1) (g := (mkF m 190 #[.val (.int p1), .val (.int p2), .val (.int p3), .val (.int p4), .val (.int p5), .val (.int n), .val (.int g0), .val (.int g1), .val (.int g2), .val (.ref ls), .val (.ref t), .val (.ref c_k1), .val (.ref c_k9), .val (.int (1 : Int32)), .unset, .unset] [(.ref c_k1)])) rfl rfl (hb hby at_190) _ ?_
    rw [len_of Sv23 Nv23]
    show Sp p e below Tk20 (mkF m 191 #[.val (.int p1), .val (.int p2), .val (.int p3), .val (.int p4), .val (.int p5), .val (.int n), .val (.int g0), .val (.int g1), .val (.int g2), .val (.ref ls), .val (.ref t), .val (.ref c_k1), .val (.ref c_k9), .val (.int (1 : Int32)), .unset, .unset] [(.int z1)]) _
    exact k_
  by_cases c25 : (0 : Int32) < z1
  · have in26 : ¬ ((0 : Int32) < 0 ∨ clv23.slots.size ≤ ((0 : Int32)).toNatClampNeg) := inb_of Sv23 ⟨by decide, c25⟩
    have atin26 : clv23.slots[((0 : Int32)).toNatClampNeg]? = some (.int y1) := Has.at Hv23 in26 hy1
    have in27 : ¬ ((0 : Int32) < 0 ∨ clv23.slots.size ≤ ((0 : Int32)).toNatClampNeg) := inb_of Sv23 ⟨by decide, c25⟩
    obtain ⟨Tw28, hw28, Xw28, ew28, Ww28, stw28⟩ := stI Xk20 hx hZ rfl Arv23 (j := (0 : Int32)) in27 (g := (mkF m 203 #[.val (.int p1), .val (.int p2), .val (.int p3), .val (.int p4), .val (.int p5), .val (.int n), .val (.int g0), .val (.int g1), .val (.int g2), .val (.ref ls), .val (.ref t), .val (.ref c_k1), .val (.ref c_k9), .val (.int (1 : Int32)), .unset, .unset] [(.int (y1 ^^^ (-1 : Int32))), (.int (0 : Int32)), (.ref c_k1)])) rfl rfl (hb hby at_203)
    have Nw28 := Fr.snoc Xw28 Nk20 g_c_k1
    have K29 : Keep h0 hw28 [] := K21.wr Ww28 (Or.inr y_c_k1)
    have ne30 : c_k1 ≠ c_k9 := Nat.ne_of_lt (Nat.lt_of_lt_of_le Qk1_0.lt Gk9_0)
    have F31 := ((F17.keep Kk20q nin0).other Ww28 (Ne.symm ne30))
    obtain ⟨clv32, Arv32, qv32, Sv32, Nv32, Hv32, Gv32⟩ := id F31
    have r33 : ∀ t_, Sp p e below Tw28 (mkF m 207 #[.val (.int p1), .val (.int p2), .val (.int p3), .val (.int p4), .val (.int p5), .val (.int n), .val (.int g0), .val (.int g1), .val (.int g2), .val (.ref ls), .val (.ref t), .val (.ref c_k1), .val (.ref c_k9), .val (.int (1 : Int32)), .unset, .unset] [(.int z2)]) t_ → Sp p e below T0 (mkF m 123 #[.val (.int p1), .val (.int p2), .val (.int p3), .val (.int p4), .val (.int p5), .val (.int n), .val (.int g0), .val (.int g1), .val (.int g2), .val (.ref ls), .unset, .unset, .unset, .unset, .unset, .unset] [(.ref t)]) t_ := by
      intro t_ k_
      refine r24 _ ?_
      refine XS.ifNo Xk20.here hx rfl (hb hby at_191) rfl ((if0 _ _).trans (tlt c25).2.2.2) ?_
      refine XS.aload Xk20.here hx rfl (hb hby at_194) rfl rfl ?_
      refine XS.iconst Xk20.here hx rfl (hb hby at_196) ?_
      refine XS.aload Xk20.here hx rfl (hb hby at_197) rfl rfl ?_
      refine XS.iconst Xk20.here hx rfl (hb hby at_199) ?_
      show Sp p e below Tk20 (mkF m 200 #[.val (.int p1), .val (.int p2), .val (.int p3), .val (.int p4), .val (.int p5), .val (.int n), .val (.int g0), .val (.int g1), .val (.int g2), .val (.ref ls), .val (.ref t), .val (.ref c_k1), .val (.ref c_k9), .val (.int (1 : Int32)), .unset, .unset] [(.int (0 : Int32)), (.ref c_k1), (.int (0 : Int32)), (.ref c_k1)]) _
      refine Xk20.iaload hx (j := (0 : Int32)) (v := (.int y1)) (own_eq rfl Arv23.1) (State.isArrayOf_alike hZ.alike Arv23.2.1) Arv23.2.2 in26 atin26 (g := (mkF m 200 #[.val (.int p1), .val (.int p2), .val (.int p3), .val (.int p4), .val (.int p5), .val (.int n), .val (.int g0), .val (.int g1), .val (.int g2), .val (.ref ls), .val (.ref t), .val (.ref c_k1), .val (.ref c_k9), .val (.int (1 : Int32)), .unset, .unset] [(.int (0 : Int32)), (.ref c_k1), (.int (0 : Int32)), (.ref c_k1)])) rfl rfl (hb hby at_200) _ ?_
      show Sp p e below Tk20 (mkF m 201 #[.val (.int p1), .val (.int p2), .val (.int p3), .val (.int p4), .val (.int p5), .val (.int n), .val (.int g0), .val (.int g1), .val (.int g2), .val (.ref ls), .val (.ref t), .val (.ref c_k1), .val (.ref c_k9), .val (.int (1 : Int32)), .unset, .unset] [(.int y1), (.int (0 : Int32)), (.ref c_k1)]) _
      refine XS.iconst Xk20.here hx rfl (hb hby at_201) ?_
      refine XS.ixor Xk20.here hx rfl (hb hby at_202) rfl ?_
      refine stw28 _ ?_
      refine XS.aload Xw28.here hx rfl (hb hby at_204) rfl rfl ?_
      show Sp p e below Tw28 (mkF m 206 #[.val (.int p1), .val (.int p2), .val (.int p3), .val (.int p4), .val (.int p5), .val (.int n), .val (.int g0), .val (.int g1), .val (.int g2), .val (.ref ls), .val (.ref t), .val (.ref c_k1), .val (.ref c_k9), .val (.int (1 : Int32)), .unset, .unset] [(.ref c_k9)]) _
      refine Xw28.arraylength hx (own_eq ew28 Arv32.1) (State.isArrayOf_alike hZ.alike Arv32.2.1) (g := (mkF m 206 #[.val (.int p1), .val (.int p2), .val (.int p3), .val (.int p4), .val (.int p5), .val (.int n), .val (.int g0), .val (.int g1), .val (.int g2), .val (.ref ls), .val (.ref t), .val (.ref c_k1), .val (.ref c_k9), .val (.int (1 : Int32)), .unset, .unset] [(.ref c_k9)])) rfl rfl (hb hby at_206) _ ?_
      rw [len_of Sv32 Nv32]
      show Sp p e below Tw28 (mkF m 207 #[.val (.int p1), .val (.int p2), .val (.int p3), .val (.int p4), .val (.int p5), .val (.int n), .val (.int g0), .val (.int g1), .val (.int g2), .val (.ref ls), .val (.ref t), .val (.ref c_k1), .val (.ref c_k9), .val (.int (1 : Int32)), .unset, .unset] [(.int z2)]) _
      exact k_
    by_cases c34 : (0 : Int32) < z2
    · have in35 : ¬ ((0 : Int32) < 0 ∨ clv32.slots.size ≤ ((0 : Int32)).toNatClampNeg) := inb_of Sv32 ⟨by decide, c34⟩
      have atin35 : clv32.slots[((0 : Int32)).toNatClampNeg]? = some (.int y2) := Has.at Hv32 in35 hy2
      have in36 : ¬ ((0 : Int32) < 0 ∨ clv32.slots.size ≤ ((0 : Int32)).toNatClampNeg) := inb_of Sv32 ⟨by decide, c34⟩
      obtain ⟨Tw37, hw37, Xw37, ew37, Ww37, stw37⟩ := stI Xw28 hx hZ ew28 Arv32 (j := (0 : Int32)) in36 (g := (mkF m 219 #[.val (.int p1), .val (.int p2), .val (.int p3), .val (.int p4), .val (.int p5), .val (.int n), .val (.int g0), .val (.int g1), .val (.int g2), .val (.ref ls), .val (.ref t), .val (.ref c_k1), .val (.ref c_k9), .val (.int (1 : Int32)), .unset, .unset] [(.int (y2 ^^^ (-1 : Int32))), (.int (0 : Int32)), (.ref c_k9)])) rfl rfl (hb hby at_219)
      have Nw37 := Fr.snoc Xw37 Nw28 g_c_k9
      have K38 : Keep h0 hw37 [] := K29.wr Ww37 (Or.inr y_c_k9)
      have F39 := (((((F3.keep Kk9q).keep Kk15q).keep Kk20q).wr Ww28).wr Ww37)
      have F40 := (f1.keep K38 nin0)
      have F41 := (f3.keep K38)
      have F42 := (f4.keep K38 nin0)
      have Z43 : n0 ≤ hw37.size := (Nat.le_trans (Nat.le_trans (Nat.le_trans Z18 Kk20q.1) (Keep.of_wr Ww28).1) (Keep.of_wr Ww37).1)
      have O44 : Old Z n0 hw37 := (((O19.keep Kk20q all0).wr Ww28 g_c_k1).wr Ww37 g_c_k9)
      obtain ⟨cqk45, kqk45, qk45a, qk45b, qk45c⟩ := isOf hZ ew37 F39
      obtain ⟨_, _, ⟨Tk45, Lk45, kk45, nk45⟩, -, Xk45, ⟨Lck45, hQk45, lk45, yk45, zk45⟩, stk45⟩ := Xw37.virtualBack hx (y := Y36) (z := Y36) hown (mvT hZ (tw hw 93 rfl)) (mvT hZ (tw hw 94 rfl)) (notFace_of_selects (args := #[]) (mvT hZ (tw hw 96 rfl))) (mvT hZ (tw hw 96 rfl)) (mvT hZ (tw hw 95 rfl)) (by decide) (backOf (W := 0) (rm_lits1 l Z a0 hw [] t b1 k1 z1 vs1  hw37 n0 Z43 O44 F39 F40 F41 F42 hc1) hZ (tw hw 97 rfl) (tw hw 28 rfl) (by decide) (by decide)) qk45a qk45c (g := (mkF m 223 #[.val (.int p1), .val (.int p2), .val (.int p3), .val (.int p4), .val (.int p5), .val (.int n), .val (.int g0), .val (.int g1), .val (.int g2), .val (.ref ls), .val (.ref t), .val (.ref c_k1), .val (.ref c_k9), .val (.int (1 : Int32)), .unset, .unset] [(.int (1 : Int32)), (.ref t)])) rfl (by rw [hml]; rfl) (Steps.refl _) (argsL := [(.int (1 : Int32))]) (rest := []) (lenOf pd__Z__I rfl) rfl (by show 2 * 0 + _ ≤ _; exact Nat.le_of_eq rfl) (hb hby at_223) (fun _ _ => ⟨rfl, ew37, (by decide : 44 + 1 ≤ _), (by decide : 162 + 3 ≤ _)⟩)
      dsimp only [Pt.U, Pt.locs, Pt.cells, Pt.slots] at Xk45 lk45 yk45 zk45 stk45 hQk45
      subst lk45 yk45 zk45
      obtain ⟨c_k45, rfl, Nk45q, Kk45q, Gk45_0, Qk45_0, Qk45_1⟩ := hQk45
      have Y46 : h0.size ≤ hw37.size := (Nat.le_trans (Nat.le_trans (Nat.le_trans (Nat.le_trans (Nat.le_trans Y10 Kk9q.1) Kk15q.1) Kk20q.1) (Keep.of_wr Ww28).1) (Keep.of_wr Ww37).1)
      have g_c_k45 : n0 ≤ c_k45 := Nat.le_trans Z43 Gk45_0
      have y_c_k45 : h0.size ≤ c_k45 := Nat.le_trans Y46 Gk45_0
      have K47 : Keep h0 Tk45.heap [] := K38.trans Kk45q all0
      have Nk45 := Fr.app Nw37 Nk45q
      have F48 := (F39.keep Kk45q)
      have F50 := ((((((Qk1_0.keep Kk9q).keep Kk15q).keep Kk20q).wr Ww28).wr Ww37).keep Kk45q)
      have ne49 : t ≠ c_k1 := ne_exa F48 F50 (by decide)
      have F52 := (((((Qk9_0.keep Kk15q).keep Kk20q).wr Ww28).wr Ww37).keep Kk45q)
      have ne51 : t ≠ c_k9 := ne_exa F48 F52 (by decide)
      have F53 := ((((((F4.keep Kk9q nin0).keep Kk15q nin0).keep Kk20q nin0).other Ww28 (Or.inl ne49)).other Ww37 (Or.inl ne51)).keep Kk45q nin0)
      have F54 := ((((((F5.keep Kk9q).keep Kk15q).keep Kk20q).wr Ww28).wr Ww37).keep Kk45q)
      have ne55 : b2 ≠ c_k1 := Nat.ne_of_lt (Nat.lt_of_lt_of_le f5.lt Gk1_0)
      have ne56 : b2 ≠ c_k9 := Nat.ne_of_lt (Nat.lt_of_lt_of_le (Nat.lt_of_lt_of_le f5.lt Kk1q.1) Gk9_0)
      have F57 := ((((((F6.keep Kk9q nin0).keep Kk15q nin0).keep Kk20q nin0).other Ww28 ne55).other Ww37 ne56).keep Kk45q nin0)
      have Z58 : n0 ≤ Tk45.heap.size := (Nat.le_trans Z43 Kk45q.1)
      have O59 : Old Z n0 Tk45.heap := (O44.keep Kk45q all0)
      obtain ⟨cqk60, kqk60, qk60a, qk60b, qk60c⟩ := isOf hZ rfl F48
      obtain ⟨_, _, ⟨Tk60, Lk60, kk60, nk60⟩, -, Xk60, ⟨Lck60, hQk60, lk60, yk60, zk60⟩, stk60⟩ := Xk45.virtualBack hx (y := Y36) (z := Y36) hown (mvT hZ (tw hw 93 rfl)) (mvT hZ (tw hw 94 rfl)) (notFace_of_selects (args := #[]) (mvT hZ (tw hw 96 rfl))) (mvT hZ (tw hw 96 rfl)) (mvT hZ (tw hw 95 rfl)) (by decide) (backOf (W := 0) (rm_lits0 l Z a0 hw [] t b2 k2 z2 vs2  Tk45.heap n0 Z58 O59 F48 F53 F54 F57 hc2) hZ (tw hw 97 rfl) (tw hw 28 rfl) (by decide) (by decide)) qk60a qk60c (g := (mkF m 231 #[.val (.int p1), .val (.int p2), .val (.int p3), .val (.int p4), .val (.int p5), .val (.int n), .val (.int g0), .val (.int g1), .val (.int g2), .val (.ref ls), .val (.ref t), .val (.ref c_k1), .val (.ref c_k9), .val (.int (1 : Int32)), .val (.ref c_k45), .unset] [(.int (0 : Int32)), (.ref t)])) rfl (by rw [hml]; rfl) (Steps.refl _) (argsL := [(.int (0 : Int32))]) (rest := []) (lenOf pd__Z__I rfl) rfl (by show 2 * 0 + _ ≤ _; exact Nat.le_of_eq rfl) (hb hby at_231) (fun _ _ => ⟨rfl, rfl, (by decide : 45 + 1 ≤ _), (by decide : 165 + 3 ≤ _)⟩)
      dsimp only [Pt.U, Pt.locs, Pt.cells, Pt.slots] at Xk60 lk60 yk60 zk60 stk60 hQk60
      subst lk60 yk60 zk60
      obtain ⟨c_k60, rfl, Nk60q, Kk60q, Gk60_0, Qk60_0, Qk60_1⟩ := hQk60
      have Y61 : h0.size ≤ Tk45.heap.size := (Nat.le_trans Y46 Kk45q.1)
      have g_c_k60 : n0 ≤ c_k60 := Nat.le_trans Z58 Gk60_0
      have y_c_k60 : h0.size ≤ c_k60 := Nat.le_trans Y61 Gk60_0
      have K62 : Keep h0 Tk60.heap [] := K47.trans Kk60q all0
      have Nk60 := Fr.app Nk45 Nk60q
      have F63 := (Qk45_1.keep Kk60q nin0)
      have Z64 : n0 ≤ Tk60.heap.size := (Nat.le_trans Z58 Kk60q.1)
      have O65 : Old Z n0 Tk60.heap := (O59.keep Kk60q all0)
      obtain ⟨_, _, ⟨Tk66, Lk66, kk66, nk66⟩, -, Xk66, ⟨Lck66, hQk66, lk66, yk66, zk66⟩, stk66⟩ := Jvm.LawKit.callS Xk60 hx (y := Y37) hown (mvT hZ (tw hw 107 rfl)) (mvT hZ (tw hw 108 rfl)) (mvT hZ (tw hw 109 rfl)) (mvT hZ (tw hw 110 rfl)) (by decide) (backOf (W := 0) (rm_mat l Z a0 hw [] c_k45 n p2 p3 p4 g0 g1 g2 (0 : Int32) k1 z1 vs1  Tk60.heap n0 Z64 O65 F63 hn hvs1 hz1) hZ (tw hw 110 rfl) (tw hw 109 rfl) (by decide) (by decide)) (g := (mkF m 255 #[.val (.int p1), .val (.int p2), .val (.int p3), .val (.int p4), .val (.int p5), .val (.int n), .val (.int g0), .val (.int g1), .val (.int g2), .val (.ref ls), .val (.ref t), .val (.ref c_k1), .val (.ref c_k9), .val (.int (1 : Int32)), .val (.ref c_k45), .val (.ref c_k60)] [(.int (0 : Int32)), (.int g2), (.int g1), (.int g0), (.int p4), (.int p3), (.int p2), (.int n), (.ref c_k45)])) rfl (by rw [hml]; rfl) (argsL := [(.ref c_k45), (.int n), (.int p2), (.int p3), (.int p4), (.int g0), (.int g1), (.int g2), (.int (0 : Int32))]) (rest := []) (lenOf pd___IIIIIZZZZ_Z rfl) rfl (by show 2 * 0 + _ ≤ _; exact Nat.le_of_eq rfl) (hb hby at_255) (fun _ _ => ⟨rfl, rfl, (by decide : 46 + 1 ≤ _), (by decide : 168 + 3 ≤ _)⟩)
      dsimp only [Pt.U, Pt.locs, Pt.cells, Pt.slots] at Xk66 lk66 yk66 zk66 stk66 hQk66
      subst lk66 yk66 zk66
      obtain ⟨rfl, Nk66q, Kk66q⟩ := hQk66
      have K67 : Keep h0 Tk66.heap [] := K62.trans Kk66q all0
      have Nk66 := Fr.app Nk60 Nk66q
      have F68 := (Qk60_1.keep Kk66q nin0)
      have Z69 : n0 ≤ Tk66.heap.size := (Nat.le_trans Z64 Kk66q.1)
      have O70 : Old Z n0 Tk66.heap := (O65.keep Kk66q all0)
      obtain ⟨_, _, ⟨Tk71, Lk71, kk71, nk71⟩, -, Xk71, ⟨Lck71, hQk71, lk71, yk71, zk71⟩, stk71⟩ := Jvm.LawKit.callS Xk66 hx (y := Y37) hown (mvT hZ (tw hw 107 rfl)) (mvT hZ (tw hw 108 rfl)) (mvT hZ (tw hw 109 rfl)) (mvT hZ (tw hw 110 rfl)) (by decide) (backOf (W := 0) (rm_mat l Z a0 hw [] c_k60 n p2 p3 p4 g0 g1 g2 (1 : Int32) k2 z2 vs2  Tk66.heap n0 Z69 O70 F68 hn hvs2 hz2) hZ (tw hw 110 rfl) (tw hw 109 rfl) (by decide) (by decide)) (g := (mkF m 275 #[.val (.int p1), .val (.int p2), .val (.int p3), .val (.int p4), .val (.int p5), .val (.int n), .val (.int g0), .val (.int g1), .val (.int g2), .val (.ref ls), .val (.ref t), .val (.ref c_k1), .val (.ref c_k9), .val (.int (1 : Int32)), .val (.ref c_k45), .val (.ref c_k60)] [(.int (1 : Int32)), (.int g2), (.int g1), (.int g0), (.int p4), (.int p3), (.int p2), (.int n), (.ref c_k60)])) rfl (by rw [hml]; rfl) (argsL := [(.ref c_k60), (.int n), (.int p2), (.int p3), (.int p4), (.int g0), (.int g1), (.int g2), (.int (1 : Int32))]) (rest := []) (lenOf pd___IIIIIZZZZ_Z rfl) rfl (by show 2 * 0 + _ ≤ _; exact Nat.le_of_eq rfl) (hb hby at_275) (fun _ _ => ⟨rfl, rfl, (by decide : 47 + 1 ≤ _), (by decide : 171 + 3 ≤ _)⟩)
      dsimp only [Pt.U, Pt.locs, Pt.cells, Pt.slots] at Xk71 lk71 yk71 zk71 stk71 hQk71
      subst lk71 yk71 zk71
      obtain ⟨rfl, Nk71q, Kk71q⟩ := hQk71
      have K72 : Keep h0 Tk71.heap [] := K67.trans Kk71q all0
      have Nk71 := Fr.app Nk66 Nk71q
      obtain ⟨fs, hlv, hrun, hended, hW, hsame⟩ := Xk71.leave (v := some (.int (1 : Int32))) (fun h => by rw [hret] at h; cases h)
      refine ⟨_, _, r33 _ ?_, hrun, hended, _, _, rfl, ?_, ⟨_, rfl⟩, hW, hsame.mono (by decide) (by decide)⟩
      · refine XS.ifNo Xw28.here hx rfl (hb hby at_207) rfl ((if0 _ _).trans (tlt c34).2.2.2) ?_
        show Sp p e below Tw28 (mkF m 210 #[.val (.int p1), .val (.int p2), .val (.int p3), .val (.int p4), .val (.int p5), .val (.int n), .val (.int g0), .val (.int g1), .val (.int g2), .val (.ref ls), .val (.ref t), .val (.ref c_k1), .val (.ref c_k9), .val (.int (1 : Int32)), .unset, .unset] []) _
        refine XS.aload Xw28.here hx rfl (hb hby at_210) rfl rfl ?_
        refine XS.iconst Xw28.here hx rfl (hb hby at_212) ?_
        refine XS.aload Xw28.here hx rfl (hb hby at_213) rfl rfl ?_
        refine XS.iconst Xw28.here hx rfl (hb hby at_215) ?_
        show Sp p e below Tw28 (mkF m 216 #[.val (.int p1), .val (.int p2), .val (.int p3), .val (.int p4), .val (.int p5), .val (.int n), .val (.int g0), .val (.int g1), .val (.int g2), .val (.ref ls), .val (.ref t), .val (.ref c_k1), .val (.ref c_k9), .val (.int (1 : Int32)), .unset, .unset] [(.int (0 : Int32)), (.ref c_k9), (.int (0 : Int32)), (.ref c_k9)]) _
        refine Xw28.iaload hx (j := (0 : Int32)) (v := (.int y2)) (own_eq ew28 Arv32.1) (State.isArrayOf_alike hZ.alike Arv32.2.1) Arv32.2.2 in35 atin35 (g := (mkF m 216 #[.val (.int p1), .val (.int p2), .val (.int p3), .val (.int p4), .val (.int p5), .val (.int n), .val (.int g0), .val (.int g1), .val (.int g2), .val (.ref ls), .val (.ref t), .val (.ref c_k1), .val (.ref c_k9), .val (.int (1 : Int32)), .unset, .unset] [(.int (0 : Int32)), (.ref c_k9), (.int (0 : Int32)), (.ref c_k9)])) rfl rfl (hb hby at_216) _ ?_
        show Sp p e below Tw28 (mkF m 217 #[.val (.int p1), .val (.int p2), .val (.int p3), .val (.int p4), .val (.int p5), .val (.int n), .val (.int g0), .val (.int g1), .val (.int g2), .val (.ref ls), .val (.ref t), .val (.ref c_k1), .val (.ref c_k9), .val (.int (1 : Int32)), .unset, .unset] [(.int y2), (.int (0 : Int32)), (.ref c_k9)]) _
        refine XS.iconst Xw28.here hx rfl (hb hby at_217) ?_
        refine XS.ixor Xw28.here hx rfl (hb hby at_218) rfl ?_
        refine stw37 _ ?_
        refine XS.aload Xw37.here hx rfl (hb hby at_220) rfl rfl ?_
        refine XS.iconst Xw37.here hx rfl (hb hby at_222) ?_
        refine stk45.trans ?_
        refine XS.astore Xk45.here hx rfl (hb hby at_226) rfl rfl (l' := #[.val (.int p1), .val (.int p2), .val (.int p3), .val (.int p4), .val (.int p5), .val (.int n), .val (.int g0), .val (.int g1), .val (.int g2), .val (.ref ls), .val (.ref t), .val (.ref c_k1), .val (.ref c_k9), .val (.int (1 : Int32)), .val (.ref c_k45), .unset]) rfl ?_
        refine XS.aload Xk45.here hx rfl (hb hby at_228) rfl rfl ?_
        refine XS.iconst Xk45.here hx rfl (hb hby at_230) ?_
        refine stk60.trans ?_
        refine XS.astore Xk60.here hx rfl (hb hby at_234) rfl rfl (l' := #[.val (.int p1), .val (.int p2), .val (.int p3), .val (.int p4), .val (.int p5), .val (.int n), .val (.int g0), .val (.int g1), .val (.int g2), .val (.ref ls), .val (.ref t), .val (.ref c_k1), .val (.ref c_k9), .val (.int (1 : Int32)), .val (.ref c_k45), .val (.ref c_k60)]) rfl ?_
        refine XS.iload Xk60.here hx rfl (hb hby at_236) rfl ?_
        refine XS.ifNo Xk60.here hx rfl (hb hby at_238) rfl ((if0 _ _).trans (feq (by decide : ¬ ((1 : Int32) = (0 : Int32)))).1) ?_
        refine XS.aload Xk60.here hx rfl (hb hby at_241) rfl rfl ?_
        refine XS.iload Xk60.here hx rfl (hb hby at_243) rfl ?_
        refine XS.iloadN Xk60.here hx rfl (hb hby at_245) rfl ?_
        refine XS.iloadN Xk60.here hx rfl (hb hby at_246) rfl ?_
        refine XS.iloadN Xk60.here hx rfl (hb hby at_247) rfl ?_
        refine XS.iload Xk60.here hx rfl (hb hby at_248) rfl ?_
        refine XS.iload Xk60.here hx rfl (hb hby at_250) rfl ?_
        refine XS.iload Xk60.here hx rfl (hb hby at_252) rfl ?_
        show Sp p e below Tk60 (mkF m 254 #[.val (.int p1), .val (.int p2), .val (.int p3), .val (.int p4), .val (.int p5), .val (.int n), .val (.int g0), .val (.int g1), .val (.int g2), .val (.ref ls), .val (.ref t), .val (.ref c_k1), .val (.ref c_k9), .val (.int (1 : Int32)), .val (.ref c_k45), .val (.ref c_k60)] [(.int g2), (.int g1), (.int g0), (.int p4), (.int p3), (.int p2), (.int n), (.ref c_k45)]) _
        refine XS.iconst Xk60.here hx rfl (hb hby at_254) ?_
        refine stk66 _ ?_
        refine XS.ifNo Xk66.here hx rfl (hb hby at_258) rfl ((if0 _ _).trans (feq (by decide : ¬ ((1 : Int32) = (0 : Int32)))).1) ?_
        refine XS.aload Xk66.here hx rfl (hb hby at_261) rfl rfl ?_
        refine XS.iload Xk66.here hx rfl (hb hby at_263) rfl ?_
        refine XS.iloadN Xk66.here hx rfl (hb hby at_265) rfl ?_
        refine XS.iloadN Xk66.here hx rfl (hb hby at_266) rfl ?_
        refine XS.iloadN Xk66.here hx rfl (hb hby at_267) rfl ?_
        refine XS.iload Xk66.here hx rfl (hb hby at_268) rfl ?_
        refine XS.iload Xk66.here hx rfl (hb hby at_270) rfl ?_
        refine XS.iload Xk66.here hx rfl (hb hby at_272) rfl ?_
        refine XS.iconst Xk66.here hx rfl (hb hby at_274) ?_
        refine stk71 _ ?_
        refine XS.ifNo Xk71.here hx rfl (hb hby at_278) rfl ((if0 _ _).trans (feq (by decide : ¬ ((1 : Int32) = (0 : Int32)))).1) ?_
        refine XS.iconst Xk71.here hx rfl (hb hby at_281) ?_
        refine XS.goto Xk71.here hx rfl (pc0 := 282) (pc' := 286) rfl (hb hby at_282) (by decide) (by decide) ?_
        refine XS.istore Xk71.here hx rfl (hb hby at_286) rfl (l' := #[.val (.int p1), .val (.int p2), .val (.int p3), .val (.int p4), .val (.int p5), .val (.int n), .val (.int g0), .val (.int g1), .val (.int g2), .val (.ref ls), .val (.ref t), .val (.ref c_k1), .val (.ref c_k9), .val (.int (1 : Int32)), .val (.ref c_k45), .val (.ref c_k60)]) rfl ?_
        refine XS.iload Xk71.here hx rfl (hb hby at_288) rfl ?_
        show Sp p e below Tk71 (mkF m 290 #[.val (.int p1), .val (.int p2), .val (.int p3), .val (.int p4), .val (.int p5), .val (.int n), .val (.int g0), .val (.int g1), .val (.int g2), .val (.ref ls), .val (.ref t), .val (.ref c_k1), .val (.ref c_k9), .val (.int (1 : Int32)), .val (.ref c_k45), .val (.ref c_k60)] [(.int (1 : Int32))]) _
        exact retN Xk71 hx (t := .boolean) hret (by simp) (hb hby at_290) hlv
      · show Q_law Z p1 p2 p3 p4 p5 aD kD aL aC h0 n0 _ Tk71.heap _
        exact ⟨rfl, Nk71⟩
    · have F73 := ((((F3.keep Kk9q).keep Kk15q).keep Kk20q).wr Ww28)
      have F74 := (f1.keep K29 nin0)
      have F75 := (f3.keep K29)
      have F76 := (f4.keep K29 nin0)
      have Z77 : n0 ≤ hw28.size := (Nat.le_trans (Nat.le_trans Z18 Kk20q.1) (Keep.of_wr Ww28).1)
      have O78 : Old Z n0 hw28 := ((O19.keep Kk20q all0).wr Ww28 g_c_k1)
      obtain ⟨cqk79, kqk79, qk79a, qk79b, qk79c⟩ := isOf hZ ew28 F73
      obtain ⟨_, _, ⟨Tk79, Lk79, kk79, nk79⟩, -, Xk79, ⟨Lck79, hQk79, lk79, yk79, zk79⟩, stk79⟩ := Xw28.virtualBack hx (y := Y36) (z := Y36) hown (mvT hZ (tw hw 93 rfl)) (mvT hZ (tw hw 94 rfl)) (notFace_of_selects (args := #[]) (mvT hZ (tw hw 96 rfl))) (mvT hZ (tw hw 96 rfl)) (mvT hZ (tw hw 95 rfl)) (by decide) (backOf (W := 0) (rm_lits1 l Z a0 hw [] t b1 k1 z1 vs1  hw28 n0 Z77 O78 F73 F74 F75 F76 hc1) hZ (tw hw 97 rfl) (tw hw 28 rfl) (by decide) (by decide)) qk79a qk79c (g := (mkF m 223 #[.val (.int p1), .val (.int p2), .val (.int p3), .val (.int p4), .val (.int p5), .val (.int n), .val (.int g0), .val (.int g1), .val (.int g2), .val (.ref ls), .val (.ref t), .val (.ref c_k1), .val (.ref c_k9), .val (.int (1 : Int32)), .unset, .unset] [(.int (1 : Int32)), (.ref t)])) rfl (by rw [hml]; rfl) (Steps.refl _) (argsL := [(.int (1 : Int32))]) (rest := []) (lenOf pd__Z__I rfl) rfl (by show 2 * 0 + _ ≤ _; exact Nat.le_of_eq rfl) (hb hby at_223) (fun _ _ => ⟨rfl, ew28, (by decide : 44 + 1 ≤ _), (by decide : 162 + 3 ≤ _)⟩)
      dsimp only [Pt.U, Pt.locs, Pt.cells, Pt.slots] at Xk79 lk79 yk79 zk79 stk79 hQk79
      subst lk79 yk79 zk79
      obtain ⟨c_k79, rfl, Nk79q, Kk79q, Gk79_0, Qk79_0, Qk79_1⟩ := hQk79
      have Y80 : h0.size ≤ hw28.size := (Nat.le_trans (Nat.le_trans (Nat.le_trans (Nat.le_trans Y10 Kk9q.1) Kk15q.1) Kk20q.1) (Keep.of_wr Ww28).1)
      have g_c_k79 : n0 ≤ c_k79 := Nat.le_trans Z77 Gk79_0
      have y_c_k79 : h0.size ≤ c_k79 := Nat.le_trans Y80 Gk79_0
      have K81 : Keep h0 Tk79.heap [] := K29.trans Kk79q all0
      have Nk79 := Fr.app Nw28 Nk79q
      have F82 := (F73.keep Kk79q)
      have F84 := (((((Qk1_0.keep Kk9q).keep Kk15q).keep Kk20q).wr Ww28).keep Kk79q)
      have ne83 : t ≠ c_k1 := ne_exa F82 F84 (by decide)
      have F85 := (((((F4.keep Kk9q nin0).keep Kk15q nin0).keep Kk20q nin0).other Ww28 (Or.inl ne83)).keep Kk79q nin0)
      have F86 := (((((F5.keep Kk9q).keep Kk15q).keep Kk20q).wr Ww28).keep Kk79q)
      have ne87 : b2 ≠ c_k1 := Nat.ne_of_lt (Nat.lt_of_lt_of_le f5.lt Gk1_0)
      have F88 := (((((F6.keep Kk9q nin0).keep Kk15q nin0).keep Kk20q nin0).other Ww28 ne87).keep Kk79q nin0)
      have Z89 : n0 ≤ Tk79.heap.size := (Nat.le_trans Z77 Kk79q.1)
      have O90 : Old Z n0 Tk79.heap := (O78.keep Kk79q all0)
      obtain ⟨cqk91, kqk91, qk91a, qk91b, qk91c⟩ := isOf hZ rfl F82
      obtain ⟨_, _, ⟨Tk91, Lk91, kk91, nk91⟩, -, Xk91, ⟨Lck91, hQk91, lk91, yk91, zk91⟩, stk91⟩ := Xk79.virtualBack hx (y := Y36) (z := Y36) hown (mvT hZ (tw hw 93 rfl)) (mvT hZ (tw hw 94 rfl)) (notFace_of_selects (args := #[]) (mvT hZ (tw hw 96 rfl))) (mvT hZ (tw hw 96 rfl)) (mvT hZ (tw hw 95 rfl)) (by decide) (backOf (W := 0) (rm_lits0 l Z a0 hw [] t b2 k2 z2 vs2  Tk79.heap n0 Z89 O90 F82 F85 F86 F88 hc2) hZ (tw hw 97 rfl) (tw hw 28 rfl) (by decide) (by decide)) qk91a qk91c (g := (mkF m 231 #[.val (.int p1), .val (.int p2), .val (.int p3), .val (.int p4), .val (.int p5), .val (.int n), .val (.int g0), .val (.int g1), .val (.int g2), .val (.ref ls), .val (.ref t), .val (.ref c_k1), .val (.ref c_k9), .val (.int (1 : Int32)), .val (.ref c_k79), .unset] [(.int (0 : Int32)), (.ref t)])) rfl (by rw [hml]; rfl) (Steps.refl _) (argsL := [(.int (0 : Int32))]) (rest := []) (lenOf pd__Z__I rfl) rfl (by show 2 * 0 + _ ≤ _; exact Nat.le_of_eq rfl) (hb hby at_231) (fun _ _ => ⟨rfl, rfl, (by decide : 45 + 1 ≤ _), (by decide : 165 + 3 ≤ _)⟩)
      dsimp only [Pt.U, Pt.locs, Pt.cells, Pt.slots] at Xk91 lk91 yk91 zk91 stk91 hQk91
      subst lk91 yk91 zk91
      obtain ⟨c_k91, rfl, Nk91q, Kk91q, Gk91_0, Qk91_0, Qk91_1⟩ := hQk91
      have Y92 : h0.size ≤ Tk79.heap.size := (Nat.le_trans Y80 Kk79q.1)
      have g_c_k91 : n0 ≤ c_k91 := Nat.le_trans Z89 Gk91_0
      have y_c_k91 : h0.size ≤ c_k91 := Nat.le_trans Y92 Gk91_0
      have K93 : Keep h0 Tk91.heap [] := K81.trans Kk91q all0
      have Nk91 := Fr.app Nk79 Nk91q
      have F94 := (Qk79_1.keep Kk91q nin0)
      have Z95 : n0 ≤ Tk91.heap.size := (Nat.le_trans Z89 Kk91q.1)
      have O96 : Old Z n0 Tk91.heap := (O90.keep Kk91q all0)
      obtain ⟨_, _, ⟨Tk97, Lk97, kk97, nk97⟩, -, Xk97, ⟨Lck97, hQk97, lk97, yk97, zk97⟩, stk97⟩ := Jvm.LawKit.callS Xk91 hx (y := Y37) hown (mvT hZ (tw hw 107 rfl)) (mvT hZ (tw hw 108 rfl)) (mvT hZ (tw hw 109 rfl)) (mvT hZ (tw hw 110 rfl)) (by decide) (backOf (W := 0) (rm_mat l Z a0 hw [] c_k79 n p2 p3 p4 g0 g1 g2 (0 : Int32) k1 z1 vs1  Tk91.heap n0 Z95 O96 F94 hn hvs1 hz1) hZ (tw hw 110 rfl) (tw hw 109 rfl) (by decide) (by decide)) (g := (mkF m 255 #[.val (.int p1), .val (.int p2), .val (.int p3), .val (.int p4), .val (.int p5), .val (.int n), .val (.int g0), .val (.int g1), .val (.int g2), .val (.ref ls), .val (.ref t), .val (.ref c_k1), .val (.ref c_k9), .val (.int (1 : Int32)), .val (.ref c_k79), .val (.ref c_k91)] [(.int (0 : Int32)), (.int g2), (.int g1), (.int g0), (.int p4), (.int p3), (.int p2), (.int n), (.ref c_k79)])) rfl (by rw [hml]; rfl) (argsL := [(.ref c_k79), (.int n), (.int p2), (.int p3), (.int p4), (.int g0), (.int g1), (.int g2), (.int (0 : Int32))]) (rest := []) (lenOf pd___IIIIIZZZZ_Z rfl) rfl (by show 2 * 0 + _ ≤ _; exact Nat.le_of_eq rfl) (hb hby at_255) (fun _ _ => ⟨rfl, rfl, (by decide : 46 + 1 ≤ _), (by decide : 168 + 3 ≤ _)⟩)
      dsimp only [Pt.U, Pt.locs, Pt.cells, Pt.slots] at Xk97 lk97 yk97 zk97 stk97 hQk97
      subst lk97 yk97 zk97
      obtain ⟨rfl, Nk97q, Kk97q⟩ := hQk97
      have K98 : Keep h0 Tk97.heap [] := K93.trans Kk97q all0
      have Nk97 := Fr.app Nk91 Nk97q
      have F99 := (Qk91_1.keep Kk97q nin0)
      have Z100 : n0 ≤ Tk97.heap.size := (Nat.le_trans Z95 Kk97q.1)
      have O101 : Old Z n0 Tk97.heap := (O96.keep Kk97q all0)
      obtain ⟨_, _, ⟨Tk102, Lk102, kk102, nk102⟩, -, Xk102, ⟨Lck102, hQk102, lk102, yk102, zk102⟩, stk102⟩ := Jvm.LawKit.callS Xk97 hx (y := Y37) hown (mvT hZ (tw hw 107 rfl)) (mvT hZ (tw hw 108 rfl)) (mvT hZ (tw hw 109 rfl)) (mvT hZ (tw hw 110 rfl)) (by decide) (backOf (W := 0) (rm_mat l Z a0 hw [] c_k91 n p2 p3 p4 g0 g1 g2 (1 : Int32) k2 z2 vs2  Tk97.heap n0 Z100 O101 F99 hn hvs2 hz2) hZ (tw hw 110 rfl) (tw hw 109 rfl) (by decide) (by decide)) (g := (mkF m 275 #[.val (.int p1), .val (.int p2), .val (.int p3), .val (.int p4), .val (.int p5), .val (.int n), .val (.int g0), .val (.int g1), .val (.int g2), .val (.ref ls), .val (.ref t), .val (.ref c_k1), .val (.ref c_k9), .val (.int (1 : Int32)), .val (.ref c_k79), .val (.ref c_k91)] [(.int (1 : Int32)), (.int g2), (.int g1), (.int g0), (.int p4), (.int p3), (.int p2), (.int n), (.ref c_k91)])) rfl (by rw [hml]; rfl) (argsL := [(.ref c_k91), (.int n), (.int p2), (.int p3), (.int p4), (.int g0), (.int g1), (.int g2), (.int (1 : Int32))]) (rest := []) (lenOf pd___IIIIIZZZZ_Z rfl) rfl (by show 2 * 0 + _ ≤ _; exact Nat.le_of_eq rfl) (hb hby at_275) (fun _ _ => ⟨rfl, rfl, (by decide : 47 + 1 ≤ _), (by decide : 171 + 3 ≤ _)⟩)
      dsimp only [Pt.U, Pt.locs, Pt.cells, Pt.slots] at Xk102 lk102 yk102 zk102 stk102 hQk102
      subst lk102 yk102 zk102
      obtain ⟨rfl, Nk102q, Kk102q⟩ := hQk102
      have K103 : Keep h0 Tk102.heap [] := K98.trans Kk102q all0
      have Nk102 := Fr.app Nk97 Nk102q
      obtain ⟨fs, hlv, hrun, hended, hW, hsame⟩ := Xk102.leave (v := some (.int (1 : Int32))) (fun h => by rw [hret] at h; cases h)
      refine ⟨_, _, r33 _ ?_, hrun, hended, _, _, rfl, ?_, ⟨_, rfl⟩, hW, hsame.mono (by decide) (by decide)⟩
      · refine XS.ifYes Xw28.here hx rfl (pc0 := 207) (pc' := 220) rfl (hb hby at_207) rfl ((if0 _ _).trans (flt c34).2.2.2) (by decide) (by decide) ?_
        show Sp p e below Tw28 (mkF m 220 #[.val (.int p1), .val (.int p2), .val (.int p3), .val (.int p4), .val (.int p5), .val (.int n), .val (.int g0), .val (.int g1), .val (.int g2), .val (.ref ls), .val (.ref t), .val (.ref c_k1), .val (.ref c_k9), .val (.int (1 : Int32)), .unset, .unset] []) _
        refine XS.aload Xw28.here hx rfl (hb hby at_220) rfl rfl ?_
        refine XS.iconst Xw28.here hx rfl (hb hby at_222) ?_
        refine stk79.trans ?_
        refine XS.astore Xk79.here hx rfl (hb hby at_226) rfl rfl (l' := #[.val (.int p1), .val (.int p2), .val (.int p3), .val (.int p4), .val (.int p5), .val (.int n), .val (.int g0), .val (.int g1), .val (.int g2), .val (.ref ls), .val (.ref t), .val (.ref c_k1), .val (.ref c_k9), .val (.int (1 : Int32)), .val (.ref c_k79), .unset]) rfl ?_
        refine XS.aload Xk79.here hx rfl (hb hby at_228) rfl rfl ?_
        refine XS.iconst Xk79.here hx rfl (hb hby at_230) ?_
        refine stk91.trans ?_
        refine XS.astore Xk91.here hx rfl (hb hby at_234) rfl rfl (l' := #[.val (.int p1), .val (.int p2), .val (.int p3), .val (.int p4), .val (.int p5), .val (.int n), .val (.int g0), .val (.int g1), .val (.int g2), .val (.ref ls), .val (.ref t), .val (.ref c_k1), .val (.ref c_k9), .val (.int (1 : Int32)), .val (.ref c_k79), .val (.ref c_k91)]) rfl ?_
        refine XS.iload Xk91.here hx rfl (hb hby at_236) rfl ?_
        refine XS.ifNo Xk91.here hx rfl (hb hby at_238) rfl ((if0 _ _).trans (feq (by decide : ¬ ((1 : Int32) = (0 : Int32)))).1) ?_
        refine XS.aload Xk91.here hx rfl (hb hby at_241) rfl rfl ?_
        refine XS.iload Xk91.here hx rfl (hb hby at_243) rfl ?_
        refine XS.iloadN Xk91.here hx rfl (hb hby at_245) rfl ?_
        refine XS.iloadN Xk91.here hx rfl (hb hby at_246) rfl ?_
        refine XS.iloadN Xk91.here hx rfl (hb hby at_247) rfl ?_
        refine XS.iload Xk91.here hx rfl (hb hby at_248) rfl ?_
        refine XS.iload Xk91.here hx rfl (hb hby at_250) rfl ?_
        refine XS.iload Xk91.here hx rfl (hb hby at_252) rfl ?_
        refine XS.iconst Xk91.here hx rfl (hb hby at_254) ?_
        refine stk97 _ ?_
        refine XS.ifNo Xk97.here hx rfl (hb hby at_258) rfl ((if0 _ _).trans (feq (by decide : ¬ ((1 : Int32) = (0 : Int32)))).1) ?_
        show Sp p e below Tk97 (mkF m 261 #[.val (.int p1), .val (.int p2), .val (.int p3), .val (.int p4), .val (.int p5), .val (.int n), .val (.int g0), .val (.int g1), .val (.int g2), .val (.ref ls), .val (.ref t), .val (.ref c_k1), .val (.ref c_k9), .val (.int (1 : Int32)), .val (.ref c_k79), .val (.ref c_k91)] []) _
        refine XS.aload Xk97.here hx rfl (hb hby at_261) rfl rfl ?_
        refine XS.iload Xk97.here hx rfl (hb hby at_263) rfl ?_
        refine XS.iloadN Xk97.here hx rfl (hb hby at_265) rfl ?_
        refine XS.iloadN Xk97.here hx rfl (hb hby at_266) rfl ?_
        refine XS.iloadN Xk97.here hx rfl (hb hby at_267) rfl ?_
        refine XS.iload Xk97.here hx rfl (hb hby at_268) rfl ?_
        refine XS.iload Xk97.here hx rfl (hb hby at_270) rfl ?_
        refine XS.iload Xk97.here hx rfl (hb hby at_272) rfl ?_
        refine XS.iconst Xk97.here hx rfl (hb hby at_274) ?_
        refine stk102 _ ?_
        refine XS.ifNo Xk102.here hx rfl (hb hby at_278) rfl ((if0 _ _).trans (feq (by decide : ¬ ((1 : Int32) = (0 : Int32)))).1) ?_
        refine XS.iconst Xk102.here hx rfl (hb hby at_281) ?_
        refine XS.goto Xk102.here hx rfl (pc0 := 282) (pc' := 286) rfl (hb hby at_282) (by decide) (by decide) ?_
        refine XS.istore Xk102.here hx rfl (hb hby at_286) rfl (l' := #[.val (.int p1), .val (.int p2), .val (.int p3), .val (.int p4), .val (.int p5), .val (.int n), .val (.int g0), .val (.int g1), .val (.int g2), .val (.ref ls), .val (.ref t), .val (.ref c_k1), .val (.ref c_k9), .val (.int (1 : Int32)), .val (.ref c_k79), .val (.ref c_k91)]) rfl ?_
        refine XS.iload Xk102.here hx rfl (hb hby at_288) rfl ?_
        show Sp p e below Tk102 (mkF m 290 #[.val (.int p1), .val (.int p2), .val (.int p3), .val (.int p4), .val (.int p5), .val (.int n), .val (.int g0), .val (.int g1), .val (.int g2), .val (.ref ls), .val (.ref t), .val (.ref c_k1), .val (.ref c_k9), .val (.int (1 : Int32)), .val (.ref c_k79), .val (.ref c_k91)] [(.int (1 : Int32))]) _
        exact retN Xk102 hx (t := .boolean) hret (by simp) (hb hby at_290) hlv
      · show Q_law Z p1 p2 p3 p4 p5 aD kD aL aC h0 n0 _ Tk102.heap _
        exact ⟨rfl, Nk102⟩
  · have F104 := (F17.keep Kk20q nin0)
    obtain ⟨clv105, Arv105, qv105, Sv105, Nv105, Hv105, Gv105⟩ := id F104
    have r106 : ∀ t_, Sp p e below Tk20 (mkF m 207 #[.val (.int p1), .val (.int p2), .val (.int p3), .val (.int p4), .val (.int p5), .val (.int n), .val (.int g0), .val (.int g1), .val (.int g2), .val (.ref ls), .val (.ref t), .val (.ref c_k1), .val (.ref c_k9), .val (.int (1 : Int32)), .unset, .unset] [(.int z2)]) t_ → Sp p e below T0 (mkF m 123 #[.val (.int p1), .val (.int p2), .val (.int p3), .val (.int p4), .val (.int p5), .val (.int n), .val (.int g0), .val (.int g1), .val (.int g2), .val (.ref ls), .unset, .unset, .unset, .unset, .unset, .unset] [(.ref t)]) t_ := by
      intro t_ k_
      refine r24 _ ?_
      refine XS.ifYes Xk20.here hx rfl (pc0 := 191) (pc' := 204) rfl (hb hby at_191) rfl ((if0 _ _).trans (flt c25).2.2.2) (by decide) (by decide) ?_
      refine XS.aload Xk20.here hx rfl (hb hby at_204) rfl rfl ?_
      show Sp p e below Tk20 (mkF m 206 #[.val (.int p1), .val (.int p2), .val (.int p3), .val (.int p4), .val (.int p5), .val (.int n), .val (.int g0), .val (.int g1), .val (.int g2), .val (.ref ls), .val (.ref t), .val (.ref c_k1), .val (.ref c_k9), .val (.int (1 : Int32)), .unset, .unset] [(.ref c_k9)]) _
      refine Xk20.arraylength hx (own_eq rfl Arv105.1) (State.isArrayOf_alike hZ.alike Arv105.2.1) (g := (mkF m 206 #[.val (.int p1), .val (.int p2), .val (.int p3), .val (.int p4), .val (.int p5), .val (.int n), .val (.int g0), .val (.int g1), .val (.int g2), .val (.ref ls), .val (.ref t), .val (.ref c_k1), .val (.ref c_k9), .val (.int (1 : Int32)), .unset, .unset] [(.ref c_k9)])) rfl rfl (hb hby at_206) _ ?_
      rw [len_of Sv105 Nv105]
      show Sp p e below Tk20 (mkF m 207 #[.val (.int p1), .val (.int p2), .val (.int p3), .val (.int p4), .val (.int p5), .val (.int n), .val (.int g0), .val (.int g1), .val (.int g2), .val (.ref ls), .val (.ref t), .val (.ref c_k1), .val (.ref c_k9), .val (.int (1 : Int32)), .unset, .unset] [(.int z2)]) _
      exact k_
    by_cases c107 : (0 : Int32) < z2
    · have in108 : ¬ ((0 : Int32) < 0 ∨ clv105.slots.size ≤ ((0 : Int32)).toNatClampNeg) := inb_of Sv105 ⟨by decide, c107⟩
      have atin108 : clv105.slots[((0 : Int32)).toNatClampNeg]? = some (.int y2) := Has.at Hv105 in108 hy2
      have in109 : ¬ ((0 : Int32) < 0 ∨ clv105.slots.size ≤ ((0 : Int32)).toNatClampNeg) := inb_of Sv105 ⟨by decide, c107⟩
      obtain ⟨Tw110, hw110, Xw110, ew110, Ww110, stw110⟩ := stI Xk20 hx hZ rfl Arv105 (j := (0 : Int32)) in109 (g := (mkF m 219 #[.val (.int p1), .val (.int p2), .val (.int p3), .val (.int p4), .val (.int p5), .val (.int n), .val (.int g0), .val (.int g1), .val (.int g2), .val (.ref ls), .val (.ref t), .val (.ref c_k1), .val (.ref c_k9), .val (.int (1 : Int32)), .unset, .unset] [(.int (y2 ^^^ (-1 : Int32))), (.int (0 : Int32)), (.ref c_k9)])) rfl rfl (hb hby at_219)
      have Nw110 := Fr.snoc Xw110 Nk20 g_c_k9
      have K111 : Keep h0 hw110 [] := K21.wr Ww110 (Or.inr y_c_k9)
      have F112 := ((((F3.keep Kk9q).keep Kk15q).keep Kk20q).wr Ww110)
      have F113 := (f1.keep K111 nin0)
      have F114 := (f3.keep K111)
      have F115 := (f4.keep K111 nin0)
      have Z116 : n0 ≤ hw110.size := (Nat.le_trans (Nat.le_trans Z18 Kk20q.1) (Keep.of_wr Ww110).1)
      have O117 : Old Z n0 hw110 := ((O19.keep Kk20q all0).wr Ww110 g_c_k9)
      obtain ⟨cqk118, kqk118, qk118a, qk118b, qk118c⟩ := isOf hZ ew110 F112
      obtain ⟨_, _, ⟨Tk118, Lk118, kk118, nk118⟩, -, Xk118, ⟨Lck118, hQk118, lk118, yk118, zk118⟩, stk118⟩ := Xw110.virtualBack hx (y := Y36) (z := Y36) hown (mvT hZ (tw hw 93 rfl)) (mvT hZ (tw hw 94 rfl)) (notFace_of_selects (args := #[]) (mvT hZ (tw hw 96 rfl))) (mvT hZ (tw hw 96 rfl)) (mvT hZ (tw hw 95 rfl)) (by decide) (backOf (W := 0) (rm_lits1 l Z a0 hw [] t b1 k1 z1 vs1  hw110 n0 Z116 O117 F112 F113 F114 F115 hc1) hZ (tw hw 97 rfl) (tw hw 28 rfl) (by decide) (by decide)) qk118a qk118c (g := (mkF m 223 #[.val (.int p1), .val (.int p2), .val (.int p3), .val (.int p4), .val (.int p5), .val (.int n), .val (.int g0), .val (.int g1), .val (.int g2), .val (.ref ls), .val (.ref t), .val (.ref c_k1), .val (.ref c_k9), .val (.int (1 : Int32)), .unset, .unset] [(.int (1 : Int32)), (.ref t)])) rfl (by rw [hml]; rfl) (Steps.refl _) (argsL := [(.int (1 : Int32))]) (rest := []) (lenOf pd__Z__I rfl) rfl (by show 2 * 0 + _ ≤ _; exact Nat.le_of_eq rfl) (hb hby at_223) (fun _ _ => ⟨rfl, ew110, (by decide : 44 + 1 ≤ _), (by decide : 162 + 3 ≤ _)⟩)
      dsimp only [Pt.U, Pt.locs, Pt.cells, Pt.slots] at Xk118 lk118 yk118 zk118 stk118 hQk118
      subst lk118 yk118 zk118
      obtain ⟨c_k118, rfl, Nk118q, Kk118q, Gk118_0, Qk118_0, Qk118_1⟩ := hQk118
      have Y119 : h0.size ≤ hw110.size := (Nat.le_trans (Nat.le_trans (Nat.le_trans (Nat.le_trans Y10 Kk9q.1) Kk15q.1) Kk20q.1) (Keep.of_wr Ww110).1)
      have g_c_k118 : n0 ≤ c_k118 := Nat.le_trans Z116 Gk118_0
      have y_c_k118 : h0.size ≤ c_k118 := Nat.le_trans Y119 Gk118_0
      have K120 : Keep h0 Tk118.heap [] := K111.trans Kk118q all0
      have Nk118 := Fr.app Nw110 Nk118q
      have F121 := (F112.keep Kk118q)
      have F123 := ((((Qk9_0.keep Kk15q).keep Kk20q).wr Ww110).keep Kk118q)
      have ne122 : t ≠ c_k9 := ne_exa F121 F123 (by decide)
      have F124 := (((((F4.keep Kk9q nin0).keep Kk15q nin0).keep Kk20q nin0).other Ww110 (Or.inl ne122)).keep Kk118q nin0)
      have F125 := (((((F5.keep Kk9q).keep Kk15q).keep Kk20q).wr Ww110).keep Kk118q)
      have ne126 : b2 ≠ c_k9 := Nat.ne_of_lt (Nat.lt_of_lt_of_le (Nat.lt_of_lt_of_le f5.lt Kk1q.1) Gk9_0)
      have F127 := (((((F6.keep Kk9q nin0).keep Kk15q nin0).keep Kk20q nin0).other Ww110 ne126).keep Kk118q nin0)
      have Z128 : n0 ≤ Tk118.heap.size := (Nat.le_trans Z116 Kk118q.1)
      have O129 : Old Z n0 Tk118.heap := (O117.keep Kk118q all0)
      obtain ⟨cqk130, kqk130, qk130a, qk130b, qk130c⟩ := isOf hZ rfl F121
      obtain ⟨_, _, ⟨Tk130, Lk130, kk130, nk130⟩, -, Xk130, ⟨Lck130, hQk130, lk130, yk130, zk130⟩, stk130⟩ := Xk118.virtualBack hx (y := Y36) (z := Y36) hown (mvT hZ (tw hw 93 rfl)) (mvT hZ (tw hw 94 rfl)) (notFace_of_selects (args := #[]) (mvT hZ (tw hw 96 rfl))) (mvT hZ (tw hw 96 rfl)) (mvT hZ (tw hw 95 rfl)) (by decide) (backOf (W := 0) (rm_lits0 l Z a0 hw [] t b2 k2 z2 vs2  Tk118.heap n0 Z128 O129 F121 F124 F125 F127 hc2) hZ (tw hw 97 rfl) (tw hw 28 rfl) (by decide) (by decide)) qk130a qk130c (g := (mkF m 231 #[.val (.int p1), .val (.int p2), .val (.int p3), .val (.int p4), .val (.int p5), .val (.int n), .val (.int g0), .val (.int g1), .val (.int g2), .val (.ref ls), .val (.ref t), .val (.ref c_k1), .val (.ref c_k9), .val (.int (1 : Int32)), .val (.ref c_k118), .unset] [(.int (0 : Int32)), (.ref t)])) rfl (by rw [hml]; rfl) (Steps.refl _) (argsL := [(.int (0 : Int32))]) (rest := []) (lenOf pd__Z__I rfl) rfl (by show 2 * 0 + _ ≤ _; exact Nat.le_of_eq rfl) (hb hby at_231) (fun _ _ => ⟨rfl, rfl, (by decide : 45 + 1 ≤ _), (by decide : 165 + 3 ≤ _)⟩)
      dsimp only [Pt.U, Pt.locs, Pt.cells, Pt.slots] at Xk130 lk130 yk130 zk130 stk130 hQk130
      subst lk130 yk130 zk130
      obtain ⟨c_k130, rfl, Nk130q, Kk130q, Gk130_0, Qk130_0, Qk130_1⟩ := hQk130
      have Y131 : h0.size ≤ Tk118.heap.size := (Nat.le_trans Y119 Kk118q.1)
      have g_c_k130 : n0 ≤ c_k130 := Nat.le_trans Z128 Gk130_0
      have y_c_k130 : h0.size ≤ c_k130 := Nat.le_trans Y131 Gk130_0
      have K132 : Keep h0 Tk130.heap [] := K120.trans Kk130q all0
      have Nk130 := Fr.app Nk118 Nk130q
      have F133 := (Qk118_1.keep Kk130q nin0)
      have Z134 : n0 ≤ Tk130.heap.size := (Nat.le_trans Z128 Kk130q.1)
      have O135 : Old Z n0 Tk130.heap := (O129.keep Kk130q all0)
      obtain ⟨_, _, ⟨Tk136, Lk136, kk136, nk136⟩, -, Xk136, ⟨Lck136, hQk136, lk136, yk136, zk136⟩, stk136⟩ := Jvm.LawKit.callS Xk130 hx (y := Y37) hown (mvT hZ (tw hw 107 rfl)) (mvT hZ (tw hw 108 rfl)) (mvT hZ (tw hw 109 rfl)) (mvT hZ (tw hw 110 rfl)) (by decide) (backOf (W := 0) (rm_mat l Z a0 hw [] c_k118 n p2 p3 p4 g0 g1 g2 (0 : Int32) k1 z1 vs1  Tk130.heap n0 Z134 O135 F133 hn hvs1 hz1) hZ (tw hw 110 rfl) (tw hw 109 rfl) (by decide) (by decide)) (g := (mkF m 255 #[.val (.int p1), .val (.int p2), .val (.int p3), .val (.int p4), .val (.int p5), .val (.int n), .val (.int g0), .val (.int g1), .val (.int g2), .val (.ref ls), .val (.ref t), .val (.ref c_k1), .val (.ref c_k9), .val (.int (1 : Int32)), .val (.ref c_k118), .val (.ref c_k130)] [(.int (0 : Int32)), (.int g2), (.int g1), (.int g0), (.int p4), (.int p3), (.int p2), (.int n), (.ref c_k118)])) rfl (by rw [hml]; rfl) (argsL := [(.ref c_k118), (.int n), (.int p2), (.int p3), (.int p4), (.int g0), (.int g1), (.int g2), (.int (0 : Int32))]) (rest := []) (lenOf pd___IIIIIZZZZ_Z rfl) rfl (by show 2 * 0 + _ ≤ _; exact Nat.le_of_eq rfl) (hb hby at_255) (fun _ _ => ⟨rfl, rfl, (by decide : 46 + 1 ≤ _), (by decide : 168 + 3 ≤ _)⟩)
      dsimp only [Pt.U, Pt.locs, Pt.cells, Pt.slots] at Xk136 lk136 yk136 zk136 stk136 hQk136
      subst lk136 yk136 zk136
      obtain ⟨rfl, Nk136q, Kk136q⟩ := hQk136
      have K137 : Keep h0 Tk136.heap [] := K132.trans Kk136q all0
      have Nk136 := Fr.app Nk130 Nk136q
      have F138 := (Qk130_1.keep Kk136q nin0)
      have Z139 : n0 ≤ Tk136.heap.size := (Nat.le_trans Z134 Kk136q.1)
      have O140 : Old Z n0 Tk136.heap := (O135.keep Kk136q all0)
      obtain ⟨_, _, ⟨Tk141, Lk141, kk141, nk141⟩, -, Xk141, ⟨Lck141, hQk141, lk141, yk141, zk141⟩, stk141⟩ := Jvm.LawKit.callS Xk136 hx (y := Y37) hown (mvT hZ (tw hw 107 rfl)) (mvT hZ (tw hw 108 rfl)) (mvT hZ (tw hw 109 rfl)) (mvT hZ (tw hw 110 rfl)) (by decide) (backOf (W := 0) (rm_mat l Z a0 hw [] c_k130 n p2 p3 p4 g0 g1 g2 (1 : Int32) k2 z2 vs2  Tk136.heap n0 Z139 O140 F138 hn hvs2 hz2) hZ (tw hw 110 rfl) (tw hw 109 rfl) (by decide) (by decide)) (g := (mkF m 275 #[.val (.int p1), .val (.int p2), .val (.int p3), .val (.int p4), .val (.int p5), .val (.int n), .val (.int g0), .val (.int g1), .val (.int g2), .val (.ref ls), .val (.ref t), .val (.ref c_k1), .val (.ref c_k9), .val (.int (1 : Int32)), .val (.ref c_k118), .val (.ref c_k130)] [(.int (1 : Int32)), (.int g2), (.int g1), (.int g0), (.int p4), (.int p3), (.int p2), (.int n), (.ref c_k130)])) rfl (by rw [hml]; rfl) (argsL := [(.ref c_k130), (.int n), (.int p2), (.int p3), (.int p4), (.int g0), (.int g1), (.int g2), (.int (1 : Int32))]) (rest := []) (lenOf pd___IIIIIZZZZ_Z rfl) rfl (by show 2 * 0 + _ ≤ _; exact Nat.le_of_eq rfl) (hb hby at_275) (fun _ _ => ⟨rfl, rfl, (by decide : 47 + 1 ≤ _), (by decide : 171 + 3 ≤ _)⟩)
      dsimp only [Pt.U, Pt.locs, Pt.cells, Pt.slots] at Xk141 lk141 yk141 zk141 stk141 hQk141
      subst lk141 yk141 zk141
      obtain ⟨rfl, Nk141q, Kk141q⟩ := hQk141
      have K142 : Keep h0 Tk141.heap [] := K137.trans Kk141q all0
      have Nk141 := Fr.app Nk136 Nk141q
      obtain ⟨fs, hlv, hrun, hended, hW, hsame⟩ := Xk141.leave (v := some (.int (1 : Int32))) (fun h => by rw [hret] at h; cases h)
      refine ⟨_, _, r106 _ ?_, hrun, hended, _, _, rfl, ?_, ⟨_, rfl⟩, hW, hsame.mono (by decide) (by decide)⟩
      · refine XS.ifNo Xk20.here hx rfl (hb hby at_207) rfl ((if0 _ _).trans (tlt c107).2.2.2) ?_
        show Sp p e below Tk20 (mkF m 210 #[.val (.int p1), .val (.int p2), .val (.int p3), .val (.int p4), .val (.int p5), .val (.int n), .val (.int g0), .val (.int g1), .val (.int g2), .val (.ref ls), .val (.ref t), .val (.ref c_k1), .val (.ref c_k9), .val (.int (1 : Int32)), .unset, .unset] []) _
        refine XS.aload Xk20.here hx rfl (hb hby at_210) rfl rfl ?_
        refine XS.iconst Xk20.here hx rfl (hb hby at_212) ?_
        refine XS.aload Xk20.here hx rfl (hb hby at_213) rfl rfl ?_
        refine XS.iconst Xk20.here hx rfl (hb hby at_215) ?_
        show Sp p e below Tk20 (mkF m 216 #[.val (.int p1), .val (.int p2), .val (.int p3), .val (.int p4), .val (.int p5), .val (.int n), .val (.int g0), .val (.int g1), .val (.int g2), .val (.ref ls), .val (.ref t), .val (.ref c_k1), .val (.ref c_k9), .val (.int (1 : Int32)), .unset, .unset] [(.int (0 : Int32)), (.ref c_k9), (.int (0 : Int32)), (.ref c_k9)]) _
        refine Xk20.iaload hx (j := (0 : Int32)) (v := (.int y2)) (own_eq rfl Arv105.1) (State.isArrayOf_alike hZ.alike Arv105.2.1) Arv105.2.2 in108 atin108 (g := (mkF m 216 #[.val (.int p1), .val (.int p2), .val (.int p3), .val (.int p4), .val (.int p5), .val (.int n), .val (.int g0), .val (.int g1), .val (.int g2), .val (.ref ls), .val (.ref t), .val (.ref c_k1), .val (.ref c_k9), .val (.int (1 : Int32)), .unset, .unset] [(.int (0 : Int32)), (.ref c_k9), (.int (0 : Int32)), (.ref c_k9)])) rfl rfl (hb hby at_216) _ ?_
        show Sp p e below Tk20 (mkF m 217 #[.val (.int p1), .val (.int p2), .val (.int p3), .val (.int p4), .val (.int p5), .val (.int n), .val (.int g0), .val (.int g1), .val (.int g2), .val (.ref ls), .val (.ref t), .val (.ref c_k1), .val (.ref c_k9), .val (.int (1 : Int32)), .unset, .unset] [(.int y2), (.int (0 : Int32)), (.ref c_k9)]) _
        refine XS.iconst Xk20.here hx rfl (hb hby at_217) ?_
        refine XS.ixor Xk20.here hx rfl (hb hby at_218) rfl ?_
        refine stw110 _ ?_
        refine XS.aload Xw110.here hx rfl (hb hby at_220) rfl rfl ?_
        refine XS.iconst Xw110.here hx rfl (hb hby at_222) ?_
        refine stk118.trans ?_
        refine XS.astore Xk118.here hx rfl (hb hby at_226) rfl rfl (l' := #[.val (.int p1), .val (.int p2), .val (.int p3), .val (.int p4), .val (.int p5), .val (.int n), .val (.int g0), .val (.int g1), .val (.int g2), .val (.ref ls), .val (.ref t), .val (.ref c_k1), .val (.ref c_k9), .val (.int (1 : Int32)), .val (.ref c_k118), .unset]) rfl ?_
        refine XS.aload Xk118.here hx rfl (hb hby at_228) rfl rfl ?_
        refine XS.iconst Xk118.here hx rfl (hb hby at_230) ?_
        refine stk130.trans ?_
        refine XS.astore Xk130.here hx rfl (hb hby at_234) rfl rfl (l' := #[.val (.int p1), .val (.int p2), .val (.int p3), .val (.int p4), .val (.int p5), .val (.int n), .val (.int g0), .val (.int g1), .val (.int g2), .val (.ref ls), .val (.ref t), .val (.ref c_k1), .val (.ref c_k9), .val (.int (1 : Int32)), .val (.ref c_k118), .val (.ref c_k130)]) rfl ?_
        refine XS.iload Xk130.here hx rfl (hb hby at_236) rfl ?_
        refine XS.ifNo Xk130.here hx rfl (hb hby at_238) rfl ((if0 _ _).trans (feq (by decide : ¬ ((1 : Int32) = (0 : Int32)))).1) ?_
        refine XS.aload Xk130.here hx rfl (hb hby at_241) rfl rfl ?_
        refine XS.iload Xk130.here hx rfl (hb hby at_243) rfl ?_
        refine XS.iloadN Xk130.here hx rfl (hb hby at_245) rfl ?_
        refine XS.iloadN Xk130.here hx rfl (hb hby at_246) rfl ?_
        refine XS.iloadN Xk130.here hx rfl (hb hby at_247) rfl ?_
        refine XS.iload Xk130.here hx rfl (hb hby at_248) rfl ?_
        refine XS.iload Xk130.here hx rfl (hb hby at_250) rfl ?_
        refine XS.iload Xk130.here hx rfl (hb hby at_252) rfl ?_
        show Sp p e below Tk130 (mkF m 254 #[.val (.int p1), .val (.int p2), .val (.int p3), .val (.int p4), .val (.int p5), .val (.int n), .val (.int g0), .val (.int g1), .val (.int g2), .val (.ref ls), .val (.ref t), .val (.ref c_k1), .val (.ref c_k9), .val (.int (1 : Int32)), .val (.ref c_k118), .val (.ref c_k130)] [(.int g2), (.int g1), (.int g0), (.int p4), (.int p3), (.int p2), (.int n), (.ref c_k118)]) _
        refine XS.iconst Xk130.here hx rfl (hb hby at_254) ?_
        refine stk136 _ ?_
        refine XS.ifNo Xk136.here hx rfl (hb hby at_258) rfl ((if0 _ _).trans (feq (by decide : ¬ ((1 : Int32) = (0 : Int32)))).1) ?_
        refine XS.aload Xk136.here hx rfl (hb hby at_261) rfl rfl ?_
        refine XS.iload Xk136.here hx rfl (hb hby at_263) rfl ?_
        refine XS.iloadN Xk136.here hx rfl (hb hby at_265) rfl ?_
        refine XS.iloadN Xk136.here hx rfl (hb hby at_266) rfl ?_
        refine XS.iloadN Xk136.here hx rfl (hb hby at_267) rfl ?_
        refine XS.iload Xk136.here hx rfl (hb hby at_268) rfl ?_
        refine XS.iload Xk136.here hx rfl (hb hby at_270) rfl ?_
        refine XS.iload Xk136.here hx rfl (hb hby at_272) rfl ?_
        refine XS.iconst Xk136.here hx rfl (hb hby at_274) ?_
        refine stk141 _ ?_
        refine XS.ifNo Xk141.here hx rfl (hb hby at_278) rfl ((if0 _ _).trans (feq (by decide : ¬ ((1 : Int32) = (0 : Int32)))).1) ?_
        refine XS.iconst Xk141.here hx rfl (hb hby at_281) ?_
        refine XS.goto Xk141.here hx rfl (pc0 := 282) (pc' := 286) rfl (hb hby at_282) (by decide) (by decide) ?_
        refine XS.istore Xk141.here hx rfl (hb hby at_286) rfl (l' := #[.val (.int p1), .val (.int p2), .val (.int p3), .val (.int p4), .val (.int p5), .val (.int n), .val (.int g0), .val (.int g1), .val (.int g2), .val (.ref ls), .val (.ref t), .val (.ref c_k1), .val (.ref c_k9), .val (.int (1 : Int32)), .val (.ref c_k118), .val (.ref c_k130)]) rfl ?_
        refine XS.iload Xk141.here hx rfl (hb hby at_288) rfl ?_
        show Sp p e below Tk141 (mkF m 290 #[.val (.int p1), .val (.int p2), .val (.int p3), .val (.int p4), .val (.int p5), .val (.int n), .val (.int g0), .val (.int g1), .val (.int g2), .val (.ref ls), .val (.ref t), .val (.ref c_k1), .val (.ref c_k9), .val (.int (1 : Int32)), .val (.ref c_k118), .val (.ref c_k130)] [(.int (1 : Int32))]) _
        exact retN Xk141 hx (t := .boolean) hret (by simp) (hb hby at_290) hlv
      · show Q_law Z p1 p2 p3 p4 p5 aD kD aL aC h0 n0 _ Tk141.heap _
        exact ⟨rfl, Nk141⟩
    · have F143 := (((F3.keep Kk9q).keep Kk15q).keep Kk20q)
      have F144 := (f1.keep K21 nin0)
      have F145 := (f3.keep K21)
      have F146 := (f4.keep K21 nin0)
      have Z147 : n0 ≤ Tk20.heap.size := (Nat.le_trans Z18 Kk20q.1)
      have O148 : Old Z n0 Tk20.heap := (O19.keep Kk20q all0)
      obtain ⟨cqk149, kqk149, qk149a, qk149b, qk149c⟩ := isOf hZ rfl F143
      obtain ⟨_, _, ⟨Tk149, Lk149, kk149, nk149⟩, -, Xk149, ⟨Lck149, hQk149, lk149, yk149, zk149⟩, stk149⟩ := Xk20.virtualBack hx (y := Y36) (z := Y36) hown (mvT hZ (tw hw 93 rfl)) (mvT hZ (tw hw 94 rfl)) (notFace_of_selects (args := #[]) (mvT hZ (tw hw 96 rfl))) (mvT hZ (tw hw 96 rfl)) (mvT hZ (tw hw 95 rfl)) (by decide) (backOf (W := 0) (rm_lits1 l Z a0 hw [] t b1 k1 z1 vs1  Tk20.heap n0 Z147 O148 F143 F144 F145 F146 hc1) hZ (tw hw 97 rfl) (tw hw 28 rfl) (by decide) (by decide)) qk149a qk149c (g := (mkF m 223 #[.val (.int p1), .val (.int p2), .val (.int p3), .val (.int p4), .val (.int p5), .val (.int n), .val (.int g0), .val (.int g1), .val (.int g2), .val (.ref ls), .val (.ref t), .val (.ref c_k1), .val (.ref c_k9), .val (.int (1 : Int32)), .unset, .unset] [(.int (1 : Int32)), (.ref t)])) rfl (by rw [hml]; rfl) (Steps.refl _) (argsL := [(.int (1 : Int32))]) (rest := []) (lenOf pd__Z__I rfl) rfl (by show 2 * 0 + _ ≤ _; exact Nat.le_of_eq rfl) (hb hby at_223) (fun _ _ => ⟨rfl, rfl, (by decide : 44 + 1 ≤ _), (by decide : 162 + 3 ≤ _)⟩)
      dsimp only [Pt.U, Pt.locs, Pt.cells, Pt.slots] at Xk149 lk149 yk149 zk149 stk149 hQk149
      subst lk149 yk149 zk149
      obtain ⟨c_k149, rfl, Nk149q, Kk149q, Gk149_0, Qk149_0, Qk149_1⟩ := hQk149
      have Y150 : h0.size ≤ Tk20.heap.size := (Nat.le_trans (Nat.le_trans (Nat.le_trans Y10 Kk9q.1) Kk15q.1) Kk20q.1)
      have g_c_k149 : n0 ≤ c_k149 := Nat.le_trans Z147 Gk149_0
      have y_c_k149 : h0.size ≤ c_k149 := Nat.le_trans Y150 Gk149_0
      have K151 : Keep h0 Tk149.heap [] := K21.trans Kk149q all0
      have Nk149 := Fr.app Nk20 Nk149q
      have F152 := (F143.keep Kk149q)
      have F153 := ((((F4.keep Kk9q nin0).keep Kk15q nin0).keep Kk20q nin0).keep Kk149q nin0)
      have F154 := ((((F5.keep Kk9q).keep Kk15q).keep Kk20q).keep Kk149q)
      have F155 := ((((F6.keep Kk9q nin0).keep Kk15q nin0).keep Kk20q nin0).keep Kk149q nin0)
      have Z156 : n0 ≤ Tk149.heap.size := (Nat.le_trans Z147 Kk149q.1)
      have O157 : Old Z n0 Tk149.heap := (O148.keep Kk149q all0)
      obtain ⟨cqk158, kqk158, qk158a, qk158b, qk158c⟩ := isOf hZ rfl F152
      obtain ⟨_, _, ⟨Tk158, Lk158, kk158, nk158⟩, -, Xk158, ⟨Lck158, hQk158, lk158, yk158, zk158⟩, stk158⟩ := Xk149.virtualBack hx (y := Y36) (z := Y36) hown (mvT hZ (tw hw 93 rfl)) (mvT hZ (tw hw 94 rfl)) (notFace_of_selects (args := #[]) (mvT hZ (tw hw 96 rfl))) (mvT hZ (tw hw 96 rfl)) (mvT hZ (tw hw 95 rfl)) (by decide) (backOf (W := 0) (rm_lits0 l Z a0 hw [] t b2 k2 z2 vs2  Tk149.heap n0 Z156 O157 F152 F153 F154 F155 hc2) hZ (tw hw 97 rfl) (tw hw 28 rfl) (by decide) (by decide)) qk158a qk158c (g := (mkF m 231 #[.val (.int p1), .val (.int p2), .val (.int p3), .val (.int p4), .val (.int p5), .val (.int n), .val (.int g0), .val (.int g1), .val (.int g2), .val (.ref ls), .val (.ref t), .val (.ref c_k1), .val (.ref c_k9), .val (.int (1 : Int32)), .val (.ref c_k149), .unset] [(.int (0 : Int32)), (.ref t)])) rfl (by rw [hml]; rfl) (Steps.refl _) (argsL := [(.int (0 : Int32))]) (rest := []) (lenOf pd__Z__I rfl) rfl (by show 2 * 0 + _ ≤ _; exact Nat.le_of_eq rfl) (hb hby at_231) (fun _ _ => ⟨rfl, rfl, (by decide : 45 + 1 ≤ _), (by decide : 165 + 3 ≤ _)⟩)
      dsimp only [Pt.U, Pt.locs, Pt.cells, Pt.slots] at Xk158 lk158 yk158 zk158 stk158 hQk158
      subst lk158 yk158 zk158
      obtain ⟨c_k158, rfl, Nk158q, Kk158q, Gk158_0, Qk158_0, Qk158_1⟩ := hQk158
      have Y159 : h0.size ≤ Tk149.heap.size := (Nat.le_trans Y150 Kk149q.1)
      have g_c_k158 : n0 ≤ c_k158 := Nat.le_trans Z156 Gk158_0
      have y_c_k158 : h0.size ≤ c_k158 := Nat.le_trans Y159 Gk158_0
      have K160 : Keep h0 Tk158.heap [] := K151.trans Kk158q all0
      have Nk158 := Fr.app Nk149 Nk158q
      have F161 := (Qk149_1.keep Kk158q nin0)
      have Z162 : n0 ≤ Tk158.heap.size := (Nat.le_trans Z156 Kk158q.1)
      have O163 : Old Z n0 Tk158.heap := (O157.keep Kk158q all0)
      obtain ⟨_, _, ⟨Tk164, Lk164, kk164, nk164⟩, -, Xk164, ⟨Lck164, hQk164, lk164, yk164, zk164⟩, stk164⟩ := Jvm.LawKit.callS Xk158 hx (y := Y37) hown (mvT hZ (tw hw 107 rfl)) (mvT hZ (tw hw 108 rfl)) (mvT hZ (tw hw 109 rfl)) (mvT hZ (tw hw 110 rfl)) (by decide) (backOf (W := 0) (rm_mat l Z a0 hw [] c_k149 n p2 p3 p4 g0 g1 g2 (0 : Int32) k1 z1 vs1  Tk158.heap n0 Z162 O163 F161 hn hvs1 hz1) hZ (tw hw 110 rfl) (tw hw 109 rfl) (by decide) (by decide)) (g := (mkF m 255 #[.val (.int p1), .val (.int p2), .val (.int p3), .val (.int p4), .val (.int p5), .val (.int n), .val (.int g0), .val (.int g1), .val (.int g2), .val (.ref ls), .val (.ref t), .val (.ref c_k1), .val (.ref c_k9), .val (.int (1 : Int32)), .val (.ref c_k149), .val (.ref c_k158)] [(.int (0 : Int32)), (.int g2), (.int g1), (.int g0), (.int p4), (.int p3), (.int p2), (.int n), (.ref c_k149)])) rfl (by rw [hml]; rfl) (argsL := [(.ref c_k149), (.int n), (.int p2), (.int p3), (.int p4), (.int g0), (.int g1), (.int g2), (.int (0 : Int32))]) (rest := []) (lenOf pd___IIIIIZZZZ_Z rfl) rfl (by show 2 * 0 + _ ≤ _; exact Nat.le_of_eq rfl) (hb hby at_255) (fun _ _ => ⟨rfl, rfl, (by decide : 46 + 1 ≤ _), (by decide : 168 + 3 ≤ _)⟩)
      dsimp only [Pt.U, Pt.locs, Pt.cells, Pt.slots] at Xk164 lk164 yk164 zk164 stk164 hQk164
      subst lk164 yk164 zk164
      obtain ⟨rfl, Nk164q, Kk164q⟩ := hQk164
      have K165 : Keep h0 Tk164.heap [] := K160.trans Kk164q all0
      have Nk164 := Fr.app Nk158 Nk164q
      have F166 := (Qk158_1.keep Kk164q nin0)
      have Z167 : n0 ≤ Tk164.heap.size := (Nat.le_trans Z162 Kk164q.1)
      have O168 : Old Z n0 Tk164.heap := (O163.keep Kk164q all0)
      obtain ⟨_, _, ⟨Tk169, Lk169, kk169, nk169⟩, -, Xk169, ⟨Lck169, hQk169, lk169, yk169, zk169⟩, stk169⟩ := Jvm.LawKit.callS Xk164 hx (y := Y37) hown (mvT hZ (tw hw 107 rfl)) (mvT hZ (tw hw 108 rfl)) (mvT hZ (tw hw 109 rfl)) (mvT hZ (tw hw 110 rfl)) (by decide) (backOf (W := 0) (rm_mat l Z a0 hw [] c_k158 n p2 p3 p4 g0 g1 g2 (1 : Int32) k2 z2 vs2  Tk164.heap n0 Z167 O168 F166 hn hvs2 hz2) hZ (tw hw 110 rfl) (tw hw 109 rfl) (by decide) (by decide)) (g := (mkF m 275 #[.val (.int p1), .val (.int p2), .val (.int p3), .val (.int p4), .val (.int p5), .val (.int n), .val (.int g0), .val (.int g1), .val (.int g2), .val (.ref ls), .val (.ref t), .val (.ref c_k1), .val (.ref c_k9), .val (.int (1 : Int32)), .val (.ref c_k149), .val (.ref c_k158)] [(.int (1 : Int32)), (.int g2), (.int g1), (.int g0), (.int p4), (.int p3), (.int p2), (.int n), (.ref c_k158)])) rfl (by rw [hml]; rfl) (argsL := [(.ref c_k158), (.int n), (.int p2), (.int p3), (.int p4), (.int g0), (.int g1), (.int g2), (.int (1 : Int32))]) (rest := []) (lenOf pd___IIIIIZZZZ_Z rfl) rfl (by show 2 * 0 + _ ≤ _; exact Nat.le_of_eq rfl) (hb hby at_275) (fun _ _ => ⟨rfl, rfl, (by decide : 47 + 1 ≤ _), (by decide : 171 + 3 ≤ _)⟩)
      dsimp only [Pt.U, Pt.locs, Pt.cells, Pt.slots] at Xk169 lk169 yk169 zk169 stk169 hQk169
      subst lk169 yk169 zk169
      obtain ⟨rfl, Nk169q, Kk169q⟩ := hQk169
      have K170 : Keep h0 Tk169.heap [] := K165.trans Kk169q all0
      have Nk169 := Fr.app Nk164 Nk169q
      obtain ⟨fs, hlv, hrun, hended, hW, hsame⟩ := Xk169.leave (v := some (.int (1 : Int32))) (fun h => by rw [hret] at h; cases h)
      refine ⟨_, _, r106 _ ?_, hrun, hended, _, _, rfl, ?_, ⟨_, rfl⟩, hW, hsame.mono (by decide) (by decide)⟩
      · refine XS.ifYes Xk20.here hx rfl (pc0 := 207) (pc' := 220) rfl (hb hby at_207) rfl ((if0 _ _).trans (flt c107).2.2.2) (by decide) (by decide) ?_
        show Sp p e below Tk20 (mkF m 220 #[.val (.int p1), .val (.int p2), .val (.int p3), .val (.int p4), .val (.int p5), .val (.int n), .val (.int g0), .val (.int g1), .val (.int g2), .val (.ref ls), .val (.ref t), .val (.ref c_k1), .val (.ref c_k9), .val (.int (1 : Int32)), .unset, .unset] []) _
        refine XS.aload Xk20.here hx rfl (hb hby at_220) rfl rfl ?_
        refine XS.iconst Xk20.here hx rfl (hb hby at_222) ?_
        refine stk149.trans ?_
        refine XS.astore Xk149.here hx rfl (hb hby at_226) rfl rfl (l' := #[.val (.int p1), .val (.int p2), .val (.int p3), .val (.int p4), .val (.int p5), .val (.int n), .val (.int g0), .val (.int g1), .val (.int g2), .val (.ref ls), .val (.ref t), .val (.ref c_k1), .val (.ref c_k9), .val (.int (1 : Int32)), .val (.ref c_k149), .unset]) rfl ?_
        refine XS.aload Xk149.here hx rfl (hb hby at_228) rfl rfl ?_
        refine XS.iconst Xk149.here hx rfl (hb hby at_230) ?_
        refine stk158.trans ?_
        refine XS.astore Xk158.here hx rfl (hb hby at_234) rfl rfl (l' := #[.val (.int p1), .val (.int p2), .val (.int p3), .val (.int p4), .val (.int p5), .val (.int n), .val (.int g0), .val (.int g1), .val (.int g2), .val (.ref ls), .val (.ref t), .val (.ref c_k1), .val (.ref c_k9), .val (.int (1 : Int32)), .val (.ref c_k149), .val (.ref c_k158)]) rfl ?_
        refine XS.iload Xk158.here hx rfl (hb hby at_236) rfl ?_
        refine XS.ifNo Xk158.here hx rfl (hb hby at_238) rfl ((if0 _ _).trans (feq (by decide : ¬ ((1 : Int32) = (0 : Int32)))).1) ?_
        refine XS.aload Xk158.here hx rfl (hb hby at_241) rfl rfl ?_
        refine XS.iload Xk158.here hx rfl (hb hby at_243) rfl ?_
        refine XS.iloadN Xk158.here hx rfl (hb hby at_245) rfl ?_
        refine XS.iloadN Xk158.here hx rfl (hb hby at_246) rfl ?_
        refine XS.iloadN Xk158.here hx rfl (hb hby at_247) rfl ?_
        refine XS.iload Xk158.here hx rfl (hb hby at_248) rfl ?_
        refine XS.iload Xk158.here hx rfl (hb hby at_250) rfl ?_
        refine XS.iload Xk158.here hx rfl (hb hby at_252) rfl ?_
        refine XS.iconst Xk158.here hx rfl (hb hby at_254) ?_
        refine stk164 _ ?_
        refine XS.ifNo Xk164.here hx rfl (hb hby at_258) rfl ((if0 _ _).trans (feq (by decide : ¬ ((1 : Int32) = (0 : Int32)))).1) ?_
        show Sp p e below Tk164 (mkF m 261 #[.val (.int p1), .val (.int p2), .val (.int p3), .val (.int p4), .val (.int p5), .val (.int n), .val (.int g0), .val (.int g1), .val (.int g2), .val (.ref ls), .val (.ref t), .val (.ref c_k1), .val (.ref c_k9), .val (.int (1 : Int32)), .val (.ref c_k149), .val (.ref c_k158)] []) _
        refine XS.aload Xk164.here hx rfl (hb hby at_261) rfl rfl ?_
        refine XS.iload Xk164.here hx rfl (hb hby at_263) rfl ?_
        refine XS.iloadN Xk164.here hx rfl (hb hby at_265) rfl ?_
        refine XS.iloadN Xk164.here hx rfl (hb hby at_266) rfl ?_
        refine XS.iloadN Xk164.here hx rfl (hb hby at_267) rfl ?_
        refine XS.iload Xk164.here hx rfl (hb hby at_268) rfl ?_
        refine XS.iload Xk164.here hx rfl (hb hby at_270) rfl ?_
        refine XS.iload Xk164.here hx rfl (hb hby at_272) rfl ?_
        refine XS.iconst Xk164.here hx rfl (hb hby at_274) ?_
        refine stk169 _ ?_
        refine XS.ifNo Xk169.here hx rfl (hb hby at_278) rfl ((if0 _ _).trans (feq (by decide : ¬ ((1 : Int32) = (0 : Int32)))).1) ?_
        refine XS.iconst Xk169.here hx rfl (hb hby at_281) ?_
        refine XS.goto Xk169.here hx rfl (pc0 := 282) (pc' := 286) rfl (hb hby at_282) (by decide) (by decide) ?_
        refine XS.istore Xk169.here hx rfl (hb hby at_286) rfl (l' := #[.val (.int p1), .val (.int p2), .val (.int p3), .val (.int p4), .val (.int p5), .val (.int n), .val (.int g0), .val (.int g1), .val (.int g2), .val (.ref ls), .val (.ref t), .val (.ref c_k1), .val (.ref c_k9), .val (.int (1 : Int32)), .val (.ref c_k149), .val (.ref c_k158)]) rfl ?_
        refine XS.iload Xk169.here hx rfl (hb hby at_288) rfl ?_
        show Sp p e below Tk169 (mkF m 290 #[.val (.int p1), .val (.int p2), .val (.int p3), .val (.int p4), .val (.int p5), .val (.int n), .val (.int g0), .val (.int g1), .val (.int g2), .val (.ref ls), .val (.ref t), .val (.ref c_k1), .val (.ref c_k9), .val (.int (1 : Int32)), .val (.ref c_k149), .val (.ref c_k158)] [(.int (1 : Int32))]) _
        exact retN Xk169 hx (t := .boolean) hret (by simp) (hb hby at_290) hlv
      · show Q_law Z p1 p2 p3 p4 p5 aD kD aL aC h0 n0 _ Tk169.heap _
        exact ⟨rfl, Nk169⟩
theorem own_and3 (p : Int32) : (p &&& (3 : Int32)) = 0 ∨ (p &&& (3 : Int32)) = 1 ∨ (p &&& (3 : Int32)) = 2 ∨ (p &&& (3 : Int32)) = 3 := by
  have h := c_and p (3 : Int32) (by decide)
  generalize (p &&& (3 : Int32)) = z at h ⊢
  have e3 : (3 : Int32).toInt = 3 := by decide
  have h3 : z.toInt = 0 ∨ z.toInt = 1 ∨ z.toInt = 2 ∨ z.toInt = 3 := by omega
  rcases h3 with h | h | h | h
  · exact Or.inl (Int32.toInt_inj.mp (h.trans (by decide)))
  · exact Or.inr (Or.inl (Int32.toInt_inj.mp (h.trans (by decide))))
  · exact Or.inr (Or.inr (Or.inl (Int32.toInt_inj.mp (h.trans (by decide)))))
  · exact Or.inr (Or.inr (Or.inr (Int32.toInt_inj.mp (h.trans (by decide)))))
theorem ef_0_IIIII (m : MethodId) (x0 : Int32) (x1 : Int32) (x2 : Int32) (x3 : Int32) (x4 : Int32) : entryFrame m #[(.int x0), (.int x1), (.int x2), (.int x3), (.int x4)] maxLocals = mkF m 0 #[.val (.int x0), .val (.int x1), .val (.int x2), .val (.int x3), .val (.int x4), .unset, .unset, .unset, .unset, .unset, .unset, .unset, .unset, .unset, .unset, .unset] [] := by first | (simp [entryFrame, mkF, argsToLocals, Value.category, maxLocals]; done) | rfl
theorem pd__Ljava_util_Collection_I_V : parseMethodDescriptor "(Ljava/util/Collection;I)V" = some ⟨[(.object "java/util/Collection"), .int], none⟩ := by decide +kernel
theorem pd__IZ_Lcom_example_lassoo_lassoo_lang_NormalFormula_ : parseMethodDescriptor "(IZ)Lcom/example/lassoo/lassoo/lang/NormalFormula;" = some ⟨[.int, .boolean], some (.object "com/example/lassoo/lassoo/lang/NormalFormula")⟩ := by decide +kernel
set_option maxRecDepth 65536 in
set_option maxHeartbeats 40000000 in
theorem rm_law (l : Launch) (Z : State) (a0 : Array Value) (hw : ∀ d ∈ tables_1, d.before a0 Z = true) (ws : List Jvm.Cond) (p1 : Int32) (p2 : Int32) (p3 : Int32) (p4 : Int32) (p5 : Int32) (aD : Addr) (kD : ClassId) (aL : Addr) (aC : Addr) (h0 : Heap) (n0 : Nat) (Z0 : n0 ≤ h0.size) (O0 : Old Z n0 h0) (SS : own_start Z aD kD aL aC) :
    MetFree l x (head1 (Jvm.Cond.code x code maxLocals ret :: ws) room_1) (fun A_ U => A_ = #[(.int p1), (.int p2), (.int p3), (.int p4), (.int p5)] ∧ Z.Warmed39 U.vm ∧ U.heap = h0) (fun _ _ _ _ _ => True) (fun _ U o_ U' => ∃ v_ L_, o_ = .returned v_ ∧ Q_law Z p1 p2 p3 p4 p5 aD kD aL aC h0 n0 v_ U'.heap L_ ∧ FrameEnd U o_ U' L_ room_1.cells room_1.slots) := by
  refine MetFree.of_bodySF (plainFor_of_name pn_11) hisR ?_
  intro p e s m args below meth c s₁ Bd hml0 hP hK
  obtain ⟨rfl, hZ, hh⟩ := hP
  have hx := Bd.exec
  have hby := Bd.bytes
  have hml : c.maxLocals = 16 := hml0
  have hown : s.vm.findClass "com/example/lassoo/lassoo/lang/TransitionLiteralsPinLaw" = some m.cls := findClass_of_methodNamed Bd.named
  have hnm := (name_of_methodNamed Bd.named Bd.method).1
  have hret := Bd.returns
  have X0 : Stand p l e room_1 s m #[(.int p1), (.int p2), (.int p3), (.int p4), (.int p5)] below meth c s₁ [] 0 0 := Stand.of_body Bd
  have e0 : s₁.heap = h0 := by rw [← hh, Bd.state]; rfl
  have N0 := Fr.nil n0
  have pre0 : ∀ t_, Sp p e below s₁ (mkF m 0 #[.val (.int p1), .val (.int p2), .val (.int p3), .val (.int p4), .val (.int p5), .unset, .unset, .unset, .unset, .unset, .unset, .unset, .unset, .unset, .unset, .unset] []) t_ → Sp p e below s₁ (entryFrame m #[(.int p1), (.int p2), (.int p3), (.int p4), (.int p5)] maxLocals) t_ := fun t_ k_ => castTop (ef_0_IIIII m p1 p2 p3 p4 p5) k_
  obtain ⟨S_DEF, V_DEF, S_LIT, E_LIT, O_LIT, S_HI, S_CA, C_CA⟩ := SS
  have r1 : ∀ t_, Sp p e below s₁ (mkF m 10 #[.val (.int p1), .val (.int p2), .val (.int p3), .val (.int p4), .val (.int p5), .val (.int (p1 &&& (3 : Int32))), .unset, .unset, .unset, .unset, .unset, .unset, .unset, .unset, .unset, .unset] [(.int ((p1 >>> ((2 : Int32) &&& 31)) &&& (1 : Int32)))]) t_ → Sp p e below s₁ (entryFrame m #[(.int p1), (.int p2), (.int p3), (.int p4), (.int p5)] maxLocals) t_ := by
    intro t_ k_
    refine pre0 _ ?_
    refine XS.iloadN X0.here hx rfl (hb hby at_0) rfl ?_
    refine XS.iconst X0.here hx rfl (hb hby at_1) ?_
    refine XS.iand X0.here hx rfl (hb hby at_2) rfl ?_
    refine XS.istore X0.here hx rfl (hb hby at_3) rfl (l' := #[.val (.int p1), .val (.int p2), .val (.int p3), .val (.int p4), .val (.int p5), .val (.int (p1 &&& (3 : Int32))), .unset, .unset, .unset, .unset, .unset, .unset, .unset, .unset, .unset, .unset]) rfl ?_
    refine XS.iloadN X0.here hx rfl (hb hby at_5) rfl ?_
    refine XS.iconst X0.here hx rfl (hb hby at_6) ?_
    refine XS.ishr X0.here hx rfl (hb hby at_7) rfl ?_
    refine XS.iconst X0.here hx rfl (hb hby at_8) ?_
    refine XS.iand X0.here hx rfl (hb hby at_9) rfl ?_
    show Sp p e below s₁ (mkF m 10 #[.val (.int p1), .val (.int p2), .val (.int p3), .val (.int p4), .val (.int p5), .val (.int (p1 &&& (3 : Int32))), .unset, .unset, .unset, .unset, .unset, .unset, .unset, .unset, .unset, .unset] [(.int ((p1 >>> ((2 : Int32) &&& 31)) &&& (1 : Int32)))]) _
    exact k_
  obtain ⟨g0, hqg0⟩ : ∃ z : Int32, z = if ((p1 >>> ((2 : Int32) &&& 31)) &&& (1 : Int32)) = (0 : Int32) then 0 else 1 := ⟨_, rfl⟩
  have hg0 : g0 = 0 ∨ g0 = 1 := by rw [hqg0]; split <;> simp
  have r2 : ∀ t_, Sp p e below s₁ (mkF m 18 #[.val (.int p1), .val (.int p2), .val (.int p3), .val (.int p4), .val (.int p5), .val (.int (p1 &&& (3 : Int32))), .unset, .unset, .unset, .unset, .unset, .unset, .unset, .unset, .unset, .unset] [(.int g0)]) t_ → Sp p e below s₁ (entryFrame m #[(.int p1), (.int p2), (.int p3), (.int p4), (.int p5)] maxLocals) t_ := by
    intro t_ k_
    refine r1 _ ?_
    by_cases q : ((p1 >>> ((2 : Int32) &&& 31)) &&& (1 : Int32)) = (0 : Int32)
    · rw [hqg0, if_pos q] at k_
      refine XS.ifYes X0.here hx rfl (pc0 := 10) (pc' := 17) rfl (hb hby at_10) rfl ((if0 _ _).trans (teq q).1) (by decide) (by decide) ?_
      refine XS.iconst X0.here hx rfl (hb hby at_17) ?_
      exact k_
    · rw [hqg0, if_neg q] at k_
      refine XS.ifNo X0.here hx rfl (hb hby at_10) rfl ((if0 _ _).trans (feq q).1) ?_
      refine XS.iconst X0.here hx rfl (hb hby at_13) ?_
      refine XS.goto X0.here hx rfl (pc0 := 14) (pc' := 18) rfl (hb hby at_14) (by decide) (by decide) ?_
      exact k_
  have r3 : ∀ t_, Sp p e below s₁ (mkF m 25 #[.val (.int p1), .val (.int p2), .val (.int p3), .val (.int p4), .val (.int p5), .val (.int (p1 &&& (3 : Int32))), .val (.int g0), .unset, .unset, .unset, .unset, .unset, .unset, .unset, .unset, .unset] [(.int ((p1 >>> ((3 : Int32) &&& 31)) &&& (1 : Int32)))]) t_ → Sp p e below s₁ (entryFrame m #[(.int p1), (.int p2), (.int p3), (.int p4), (.int p5)] maxLocals) t_ := by
    intro t_ k_
    refine r2 _ ?_
    refine XS.istore X0.here hx rfl (hb hby at_18) rfl (l' := #[.val (.int p1), .val (.int p2), .val (.int p3), .val (.int p4), .val (.int p5), .val (.int (p1 &&& (3 : Int32))), .val (.int g0), .unset, .unset, .unset, .unset, .unset, .unset, .unset, .unset, .unset]) rfl ?_
    refine XS.iloadN X0.here hx rfl (hb hby at_20) rfl ?_
    refine XS.iconst X0.here hx rfl (hb hby at_21) ?_
    refine XS.ishr X0.here hx rfl (hb hby at_22) rfl ?_
    refine XS.iconst X0.here hx rfl (hb hby at_23) ?_
    refine XS.iand X0.here hx rfl (hb hby at_24) rfl ?_
    show Sp p e below s₁ (mkF m 25 #[.val (.int p1), .val (.int p2), .val (.int p3), .val (.int p4), .val (.int p5), .val (.int (p1 &&& (3 : Int32))), .val (.int g0), .unset, .unset, .unset, .unset, .unset, .unset, .unset, .unset, .unset] [(.int ((p1 >>> ((3 : Int32) &&& 31)) &&& (1 : Int32)))]) _
    exact k_
  obtain ⟨g1, hqg1⟩ : ∃ z : Int32, z = if ((p1 >>> ((3 : Int32) &&& 31)) &&& (1 : Int32)) = (0 : Int32) then 0 else 1 := ⟨_, rfl⟩
  have hg1 : g1 = 0 ∨ g1 = 1 := by rw [hqg1]; split <;> simp
  have r4 : ∀ t_, Sp p e below s₁ (mkF m 33 #[.val (.int p1), .val (.int p2), .val (.int p3), .val (.int p4), .val (.int p5), .val (.int (p1 &&& (3 : Int32))), .val (.int g0), .unset, .unset, .unset, .unset, .unset, .unset, .unset, .unset, .unset] [(.int g1)]) t_ → Sp p e below s₁ (entryFrame m #[(.int p1), (.int p2), (.int p3), (.int p4), (.int p5)] maxLocals) t_ := by
    intro t_ k_
    refine r3 _ ?_
    by_cases q : ((p1 >>> ((3 : Int32) &&& 31)) &&& (1 : Int32)) = (0 : Int32)
    · rw [hqg1, if_pos q] at k_
      refine XS.ifYes X0.here hx rfl (pc0 := 25) (pc' := 32) rfl (hb hby at_25) rfl ((if0 _ _).trans (teq q).1) (by decide) (by decide) ?_
      refine XS.iconst X0.here hx rfl (hb hby at_32) ?_
      exact k_
    · rw [hqg1, if_neg q] at k_
      refine XS.ifNo X0.here hx rfl (hb hby at_25) rfl ((if0 _ _).trans (feq q).1) ?_
      refine XS.iconst X0.here hx rfl (hb hby at_28) ?_
      refine XS.goto X0.here hx rfl (pc0 := 29) (pc' := 33) rfl (hb hby at_29) (by decide) (by decide) ?_
      exact k_
  have r5 : ∀ t_, Sp p e below s₁ (mkF m 40 #[.val (.int p1), .val (.int p2), .val (.int p3), .val (.int p4), .val (.int p5), .val (.int (p1 &&& (3 : Int32))), .val (.int g0), .val (.int g1), .unset, .unset, .unset, .unset, .unset, .unset, .unset, .unset] [(.int ((p1 >>> ((4 : Int32) &&& 31)) &&& (1 : Int32)))]) t_ → Sp p e below s₁ (entryFrame m #[(.int p1), (.int p2), (.int p3), (.int p4), (.int p5)] maxLocals) t_ := by
    intro t_ k_
    refine r4 _ ?_
    refine XS.istore X0.here hx rfl (hb hby at_33) rfl (l' := #[.val (.int p1), .val (.int p2), .val (.int p3), .val (.int p4), .val (.int p5), .val (.int (p1 &&& (3 : Int32))), .val (.int g0), .val (.int g1), .unset, .unset, .unset, .unset, .unset, .unset, .unset, .unset]) rfl ?_
    refine XS.iloadN X0.here hx rfl (hb hby at_35) rfl ?_
    refine XS.iconst X0.here hx rfl (hb hby at_36) ?_
    refine XS.ishr X0.here hx rfl (hb hby at_37) rfl ?_
    refine XS.iconst X0.here hx rfl (hb hby at_38) ?_
    refine XS.iand X0.here hx rfl (hb hby at_39) rfl ?_
    show Sp p e below s₁ (mkF m 40 #[.val (.int p1), .val (.int p2), .val (.int p3), .val (.int p4), .val (.int p5), .val (.int (p1 &&& (3 : Int32))), .val (.int g0), .val (.int g1), .unset, .unset, .unset, .unset, .unset, .unset, .unset, .unset] [(.int ((p1 >>> ((4 : Int32) &&& 31)) &&& (1 : Int32)))]) _
    exact k_
  obtain ⟨g2, hqg2⟩ : ∃ z : Int32, z = if ((p1 >>> ((4 : Int32) &&& 31)) &&& (1 : Int32)) = (0 : Int32) then 0 else 1 := ⟨_, rfl⟩
  have hg2 : g2 = 0 ∨ g2 = 1 := by rw [hqg2]; split <;> simp
  have r6 : ∀ t_, Sp p e below s₁ (mkF m 48 #[.val (.int p1), .val (.int p2), .val (.int p3), .val (.int p4), .val (.int p5), .val (.int (p1 &&& (3 : Int32))), .val (.int g0), .val (.int g1), .unset, .unset, .unset, .unset, .unset, .unset, .unset, .unset] [(.int g2)]) t_ → Sp p e below s₁ (entryFrame m #[(.int p1), (.int p2), (.int p3), (.int p4), (.int p5)] maxLocals) t_ := by
    intro t_ k_
    refine r5 _ ?_
    by_cases q : ((p1 >>> ((4 : Int32) &&& 31)) &&& (1 : Int32)) = (0 : Int32)
    · rw [hqg2, if_pos q] at k_
      refine XS.ifYes X0.here hx rfl (pc0 := 40) (pc' := 47) rfl (hb hby at_40) rfl ((if0 _ _).trans (teq q).1) (by decide) (by decide) ?_
      refine XS.iconst X0.here hx rfl (hb hby at_47) ?_
      exact k_
    · rw [hqg2, if_neg q] at k_
      refine XS.ifNo X0.here hx rfl (hb hby at_40) rfl ((if0 _ _).trans (feq q).1) ?_
      refine XS.iconst X0.here hx rfl (hb hby at_43) ?_
      refine XS.goto X0.here hx rfl (pc0 := 44) (pc' := 48) rfl (hb hby at_44) (by decide) (by decide) ?_
      exact k_
  obtain ⟨To7, ho7, Xo7, eo7, Eo7, Ao7, Do7, -, sto7⟩ := newO X0 hx hZ hown (tw hw 0 rfl) (tw hw 1 rfl) (tw hw 2 rfl) e0 (g := (mkF m 50 #[.val (.int p1), .val (.int p2), .val (.int p3), .val (.int p4), .val (.int p5), .val (.int (p1 &&& (3 : Int32))), .val (.int g0), .val (.int g1), .val (.int g2), .unset, .unset, .unset, .unset, .unset, .unset, .unset] [])) rfl (hb hby at_50) (by decide) (by decide)
  obtain ⟨bo7, go7⟩ : ∃ z, z = h0.size := ⟨_, rfl⟩
  rw [← go7] at Ao7 Do7 sto7
  have g_bo7 : n0 ≤ bo7 := Nat.le_trans Z0 (Nat.le_of_eq go7.symm)
  have y_bo7 : h0.size ≤ bo7 := Nat.le_trans (Nat.le_refl h0.size) (Nat.le_of_eq go7.symm)
  have K8 : Keep h0 ho7 [] := (Keep.refl h0 []).ext Eo7
  have Fo7_modCount : Fld Z ho7 bo7 S5 "modCount" "I" (.int (0 : Int32)) := Do7 (Or.inl (tw hw 22 rfl)) (ty := .int) (by decide)
  have Fo7_elementData : Fld Z ho7 bo7 S1 "elementData" S2 .null := Do7 (Or.inl (tw hw 25 rfl)) (ty := (.array (.object S3))) (by decide)
  have Fo7_size : Fld Z ho7 bo7 S1 "size" "I" (.int (0 : Int32)) := Do7 (Or.inl (tw hw 75 rfl)) (ty := .int) (by decide)
  have Z9 : n0 ≤ ho7.size := (Nat.le_trans Z0 Eo7.1)
  have O10 : Old Z n0 ho7 := (O0.ext Eo7)
  obtain ⟨_, _, ⟨Tk11, Lk11, kk11, nk11⟩, -, Xk11, ⟨Lck11, hQk11, lk11, yk11, zk11⟩, stk11⟩ := Xo7.specialBack hx (y := Y2) rfl hown (mvT hZ (tw hw 3 rfl)) (mvT hZ (tw hw 4 rfl)) (mvT hZ (tw hw 5 rfl)) (by decide) (backOf (W := 1) (rm_alinit l Z a0 hw [] bo7 aD kD aL aC ho7 n0 Z9 O10 Ao7 Fo7_elementData Fo7_size Fo7_modCount ⟨S_DEF, V_DEF, S_LIT, E_LIT, O_LIT, S_HI, S_CA, C_CA⟩ g_bo7) hZ (tw hw 5 rfl) (tw hw 2 rfl) (by decide) (by decide)) (g := (mkF m 54 #[.val (.int p1), .val (.int p2), .val (.int p3), .val (.int p4), .val (.int p5), .val (.int (p1 &&& (3 : Int32))), .val (.int g0), .val (.int g1), .val (.int g2), .unset, .unset, .unset, .unset, .unset, .unset, .unset] [(.ref bo7), (.ref bo7)])) rfl (by rw [hml]; rfl) (Steps.refl _) (a := bo7) (argsL := []) (rest := [(.ref bo7)]) (lenOf pd___V rfl) rfl (by show 2 * 0 + _ ≤ _; exact Nat.le_of_eq rfl) (hb hby at_54) (fun _ _ => ⟨rfl, eo7, (by decide : 1 + 0 ≤ _), (by decide : 3 + 0 ≤ _)⟩)
  dsimp only [Pt.U, Pt.locs, Pt.cells, Pt.slots] at Xk11 lk11 yk11 zk11 stk11 hQk11
  subst lk11 yk11 zk11
  obtain ⟨rfl, Nk11q, Kk11q, Qk11_0, Qk11_1, Qk11_2⟩ := hQk11
  have K12 : Keep h0 Tk11.heap [] := K8.trans Kk11q (allS (P := fun x => x ∈ ([] : List Addr) ∨ h0.size ≤ x) (Or.inr y_bo7) all0)
  have Nk11 := Fr.app N0 Nk11q
  have r13 : ∀ t_, Sp p e below Tk11 (mkF m 59 #[.val (.int p1), .val (.int p2), .val (.int p3), .val (.int p4), .val (.int p5), .val (.int (p1 &&& (3 : Int32))), .val (.int g0), .val (.int g1), .val (.int g2), .val (.ref bo7), .unset, .unset, .unset, .unset, .unset, .unset] []) t_ → Sp p e below s₁ (entryFrame m #[(.int p1), (.int p2), (.int p3), (.int p4), (.int p5)] maxLocals) t_ := by
    intro t_ k_
    refine r6 _ ?_
    refine XS.istore X0.here hx rfl (hb hby at_48) rfl (l' := #[.val (.int p1), .val (.int p2), .val (.int p3), .val (.int p4), .val (.int p5), .val (.int (p1 &&& (3 : Int32))), .val (.int g0), .val (.int g1), .val (.int g2), .unset, .unset, .unset, .unset, .unset, .unset, .unset]) rfl ?_
    refine sto7 _ ?_
    refine XS.dup Xo7.here hx rfl (hb hby at_53) rfl rfl ?_
    refine stk11.trans ?_
    refine XS.astore Xk11.here hx rfl (hb hby at_57) rfl rfl (l' := #[.val (.int p1), .val (.int p2), .val (.int p3), .val (.int p4), .val (.int p5), .val (.int (p1 &&& (3 : Int32))), .val (.int g0), .val (.int g1), .val (.int g2), .val (.ref bo7), .unset, .unset, .unset, .unset, .unset, .unset]) rfl ?_
    show Sp p e below Tk11 (mkF m 59 #[.val (.int p1), .val (.int p2), .val (.int p3), .val (.int p4), .val (.int p5), .val (.int (p1 &&& (3 : Int32))), .val (.int g0), .val (.int g1), .val (.int g2), .val (.ref bo7), .unset, .unset, .unset, .unset, .unset, .unset] []) _
    exact k_
  obtain ⟨n, hn0⟩ : ∃ z : Int32, z = (p1 &&& (3 : Int32)) := ⟨_, rfl⟩
  have hn := own_and3 p1
  rw [← hn0] at hn r13
  have Z14 : n0 ≤ Tk11.heap.size := (Nat.le_trans Z9 Kk11q.1)
  have O15 : Old Z n0 Tk11.heap := (O10.keep Kk11q (allS g_bo7 all0))
  rcases hn with hn | hn | hn | hn
  · rw [hn] at r13
    obtain ⟨To16, ho16, Xo16, eo16, Eo16, Ao16, Do16, -, sto16⟩ := newO Xk11 hx hZ hown (tw hw 26 rfl) (tw hw 27 rfl) (tw hw 28 rfl) rfl (g := (mkF m 112 #[.val (.int p1), .val (.int p2), .val (.int p3), .val (.int p4), .val (.int p5), .val (.int (0 : Int32)), .val (.int g0), .val (.int g1), .val (.int g2), .val (.ref bo7), .unset, .unset, .unset, .unset, .unset, .unset] [])) rfl (hb hby at_112) (by decide) (by decide)
    obtain ⟨bo16, go16⟩ : ∃ z, z = Tk11.heap.size := ⟨_, rfl⟩
    rw [← go16] at Ao16 Do16 sto16
    have Y17 : h0.size ≤ Tk11.heap.size := (Nat.le_trans (Nat.le_trans (Nat.le_refl h0.size) Eo7.1) Kk11q.1)
    have g_bo16 : n0 ≤ bo16 := Nat.le_trans Z14 (Nat.le_of_eq go16.symm)
    have y_bo16 : h0.size ≤ bo16 := Nat.le_trans Y17 (Nat.le_of_eq go16.symm)
    have K18 : Keep h0 ho16 [] := K12.ext Eo16
    have Fo16_positive : Fld Z ho16 bo16 S8 "positive" "[I" .null := Do16 (Or.inr (tw hw 88 rfl)) (ty := (.array .int)) (by decide)
    have Fo16_negative : Fld Z ho16 bo16 S8 "negative" "[I" .null := Do16 (Or.inr (tw hw 90 rfl)) (ty := (.array .int)) (by decide)
    have Fo16_target : Fld Z ho16 bo16 S8 "target" "I" (.int (0 : Int32)) := Do16 (Or.inr (tw hw 92 rfl)) (ty := .int) (by decide)
    have F19 := ((Ao7.keep Kk11q).ext Eo16)
    have F20 := (Qk11_0.ext Eo16)
    have F21 := (Qk11_1.ext Eo16)
    have F22 := (Qk11_2.ext Eo16)
    have Z23 : n0 ≤ ho16.size := (Nat.le_trans Z14 Eo16.1)
    have O24 : Old Z n0 ho16 := (O15.ext Eo16)
    obtain ⟨_, _, ⟨Tk25, Lk25, kk25, nk25⟩, -, Xk25, ⟨Lck25, hQk25, lk25, yk25, zk25⟩, stk25⟩ := Xo16.specialBack hx (y := Y35) rfl hown (mvT hZ (tw hw 29 rfl)) (mvT hZ (tw hw 30 rfl)) (mvT hZ (tw hw 31 rfl)) (by decide) (backOf (W := 1) (rm_trinit0 l Z a0 hw [] bo16 p5 bo7 (0 : Int32) (Int32.ofNat (([] : List Value)).length) (([] : List Value)) (Int32.ofNat (([] : List Value)).length) (([] : List Value)) aD kD aL aC ho16 n0 Z23 O24 F19 F20 F21 F22 Ao16 Fo16_positive Fo16_negative Fo16_target ⟨S_DEF, V_DEF, S_LIT, E_LIT, O_LIT, S_HI, S_CA, C_CA⟩ g_bo16 rfl rfl rfl rfl) hZ (tw hw 31 rfl) (tw hw 28 rfl) (by decide) (by decide)) (g := (mkF m 120 #[.val (.int p1), .val (.int p2), .val (.int p3), .val (.int p4), .val (.int p5), .val (.int (0 : Int32)), .val (.int g0), .val (.int g1), .val (.int g2), .val (.ref bo7), .unset, .unset, .unset, .unset, .unset, .unset] [(.int p5), (.ref bo7), (.ref bo16), (.ref bo16)])) rfl (by rw [hml]; rfl) (Steps.refl _) (a := bo16) (argsL := [(.ref bo7), (.int p5)]) (rest := [(.ref bo16)]) (lenOf pd__Ljava_util_Collection_I_V rfl) rfl (by show 2 * 0 + _ ≤ _; exact Nat.le_of_eq rfl) (hb hby at_120) (fun _ _ => ⟨rfl, eo16, (by decide : 2 + 14 ≤ _), (by decide : 6 + 46 ≤ _)⟩)
    dsimp only [Pt.U, Pt.locs, Pt.cells, Pt.slots] at Xk25 lk25 yk25 zk25 stk25 hQk25
    subst lk25 yk25 zk25
    obtain ⟨b1k25, k1k25, b2k25, k2k25, rfl, Nk25q, Kk25q, Gk25_0, Gk25_1, Qk25_0, Qk25_1, Qk25_2, Qk25_3, Qk25_4, Qk25_5, Mk25_0⟩ := hQk25
    have Y26 : h0.size ≤ ho16.size := (Nat.le_trans Y17 Eo16.1)
    have g_b1k25 : n0 ≤ b1k25 := Nat.le_trans Z23 Gk25_0
    have y_b1k25 : h0.size ≤ b1k25 := Nat.le_trans Y26 Gk25_0
    have g_b2k25 : n0 ≤ b2k25 := Nat.le_trans Z23 Gk25_1
    have y_b2k25 : h0.size ≤ b2k25 := Nat.le_trans Y26 Gk25_1
    have K27 : Keep h0 Tk25.heap [] := K18.trans Kk25q (allS (P := fun x => x ∈ ([] : List Addr) ∨ h0.size ≤ x) (Or.inr y_bo16) all0)
    have Nk25 := Fr.app Nk11 Nk25q
    have r28 : ∀ t_, Sp p e below Tk25 (mkF m 123 #[.val (.int p1), .val (.int p2), .val (.int p3), .val (.int p4), .val (.int p5), .val (.int (0 : Int32)), .val (.int g0), .val (.int g1), .val (.int g2), .val (.ref bo7), .unset, .unset, .unset, .unset, .unset, .unset] [(.ref bo16)]) t_ → Sp p e below s₁ (entryFrame m #[(.int p1), (.int p2), (.int p3), (.int p4), (.int p5)] maxLocals) t_ := by
      intro t_ k_
      refine r13 _ ?_
      refine XS.iload Xk11.here hx rfl (hb hby at_59) rfl ?_
      refine XS.ifYes Xk11.here hx rfl (pc0 := 61) (pc' := 76) rfl (hb hby at_61) rfl ((if0 _ _).trans (flt (by decide : ¬ ((0 : Int32) < (0 : Int32)))).2.2.2) (by decide) (by decide) ?_
      refine XS.iload Xk11.here hx rfl (hb hby at_76) rfl ?_
      refine XS.iconst Xk11.here hx rfl (hb hby at_78) ?_
      refine XS.icmpYes Xk11.here hx rfl (pc0 := 79) (pc' := 94) rfl (hb hby at_79) rfl (flt (by decide : ¬ ((1 : Int32) < (0 : Int32)))).2.2.2 (by decide) (by decide) ?_
      refine XS.iload Xk11.here hx rfl (hb hby at_94) rfl ?_
      refine XS.iconst Xk11.here hx rfl (hb hby at_96) ?_
      refine XS.icmpYes Xk11.here hx rfl (pc0 := 97) (pc' := 112) rfl (hb hby at_97) rfl (flt (by decide : ¬ ((2 : Int32) < (0 : Int32)))).2.2.2 (by decide) (by decide) ?_
      refine sto16 _ ?_
      refine XS.dup Xo16.here hx rfl (hb hby at_115) rfl rfl ?_
      refine XS.aload Xo16.here hx rfl (hb hby at_116) rfl rfl ?_
      refine XS.iload Xo16.here hx rfl (hb hby at_118) rfl ?_
      refine stk25.trans ?_
      show Sp p e below Tk25 (mkF m 123 #[.val (.int p1), .val (.int p2), .val (.int p3), .val (.int p4), .val (.int p5), .val (.int (0 : Int32)), .val (.int g0), .val (.int g1), .val (.int g2), .val (.ref bo7), .unset, .unset, .unset, .unset, .unset, .unset] [(.ref bo16)]) _
      exact k_
    have F29 := (Ao16.keep Kk25q)
    have Z30 : n0 ≤ Tk25.heap.size := (Nat.le_trans Z23 Kk25q.1)
    have O31 : Old Z n0 Tk25.heap := (O24.keep Kk25q (allS g_bo16 all0))
    obtain ⟨s₂, o, q1, q2, q3, q4⟩ := tl_tail p l e s m _ below meth c _ _ Z a0 hw p1 p2 p3 p4 p5 (0 : Int32) g0 g1 g2 bo7 bo16 b1k25 k1k25 (Int32.ofNat (([] : List Value)).length) (([] : List Value)) b2k25 k2k25 (Int32.ofNat (([] : List Value)).length) (([] : List Value)) aD kD aL aC Tk25.heap n0 (Xk25.more (by decide) (by decide)) hx hZ hby hml hown hret (BodyLoose.notSynchronized Bd) rfl Nk25 Z30 O31 F29 Qk25_0 Qk25_1 Qk25_2 Qk25_3 Qk25_4 Qk25_5 (by decide) (by simp [own_sel]) rfl (by simp [own_sel]) rfl Mk25_0
    exact ⟨s₂, o, r28 _ q1, q2, q3, q4⟩
  · rw [hn] at r13
    obtain ⟨_, _, ⟨Tk32, Lk32, kk32, nk32⟩, -, Xk32, ⟨Lck32, hQk32, lk32, yk32, zk32⟩, stk32⟩ := Jvm.LawKit.callS Xk11 hx (y := Y6) hown (mvT hZ (tw hw 111 rfl)) (mvT hZ (tw hw 112 rfl)) (mvT hZ (tw hw 113 rfl)) (mvT hZ (tw hw 114 rfl)) (by decide) (backOf (W := 1) (rm_literal l Z a0 hw [] p2 g0 aD kD aL aC Tk11.heap n0 Z14 O15 ⟨S_DEF, V_DEF, S_LIT, E_LIT, O_LIT, S_HI, S_CA, C_CA⟩ hg0) hZ (tw hw 114 rfl) (tw hw 113 rfl) (by decide) (by decide)) (g := (mkF m 69 #[.val (.int p1), .val (.int p2), .val (.int p3), .val (.int p4), .val (.int p5), .val (.int (1 : Int32)), .val (.int g0), .val (.int g1), .val (.int g2), .val (.ref bo7), .unset, .unset, .unset, .unset, .unset, .unset] [(.int g0), (.int p2), (.ref bo7)])) rfl (by rw [hml]; rfl) (argsL := [(.int p2), (.int g0)]) (rest := [(.ref bo7)]) (lenOf pd__IZ_Lcom_example_lassoo_lassoo_lang_NormalFormula_ rfl) rfl (by show 2 * 0 + _ ≤ _; exact Nat.le_of_eq rfl) (hb hby at_69) (fun _ _ => ⟨rfl, rfl, (by decide : 1 + 1 ≤ _), (by decide : 3 + 6 ≤ _)⟩)
    dsimp only [Pt.U, Pt.locs, Pt.cells, Pt.slots] at Xk32 lk32 yk32 zk32 stk32 hQk32
    subst lk32 yk32 zk32
    obtain ⟨bk32, rfl, Nk32q, Kk32q, Gk32_0, Qk32_0, Qk32_1, Qk32_2⟩ := hQk32
    have Y33 : h0.size ≤ Tk11.heap.size := (Nat.le_trans (Nat.le_trans (Nat.le_refl h0.size) Eo7.1) Kk11q.1)
    have g_bk32 : n0 ≤ bk32 := Nat.le_trans Z14 Gk32_0
    have y_bk32 : h0.size ≤ bk32 := Nat.le_trans Y33 Gk32_0
    have K34 : Keep h0 Tk32.heap [] := K12.trans Kk32q all0
    have Nk32 := Fr.app Nk11 Nk32q
    have F35 := ((Ao7.keep Kk11q).keep Kk32q)
    have F36 := (Qk11_0.keep Kk32q nin0)
    have F37 := (Qk11_1.keep Kk32q nin0)
    have F38 := (Qk11_2.keep Kk32q nin0)
    have Z39 : n0 ≤ Tk32.heap.size := (Nat.le_trans Z14 Kk32q.1)
    have O40 : Old Z n0 Tk32.heap := (O15.keep Kk32q all0)
    obtain ⟨cqk41, kqk41, qk41a, qk41b, qk41c⟩ := isOf hZ rfl F35
    obtain ⟨_, _, ⟨Tk41, Lk41, kk41, nk41⟩, -, Xk41, ⟨Lck41, hQk41, lk41, yk41, zk41⟩, stk41⟩ := Xk32.virtualBack hx (y := Y11) (z := Y11) hown (mvT hZ (tw hw 145 rfl)) (mvT hZ (tw hw 146 rfl)) (notFace_of_selects (args := #[]) (mvT hZ (tw hw 148 rfl))) (mvT hZ (tw hw 148 rfl)) (mvT hZ (tw hw 147 rfl)) (by decide) (backOf (W := 0) (rm_add_0 l Z a0 hw [] bo7 bk32 (0 : Int32) (1 : Int32) aD kD aL aC Tk32.heap n0 Z39 O40 F35 F36 F37 F38 (Ins.of_exa Qk32_0 (tw hw 172 rfl)) ⟨S_DEF, V_DEF, S_LIT, E_LIT, O_LIT, S_HI, S_CA, C_CA⟩ g_bo7 (by decide)) hZ (tw hw 149 rfl) (tw hw 2 rfl) (by decide) (by decide)) qk41a qk41c (g := (mkF m 72 #[.val (.int p1), .val (.int p2), .val (.int p3), .val (.int p4), .val (.int p5), .val (.int (1 : Int32)), .val (.int g0), .val (.int g1), .val (.int g2), .val (.ref bo7), .unset, .unset, .unset, .unset, .unset, .unset] [(.ref bk32), (.ref bo7)])) rfl (by rw [hml]; rfl) (Steps.refl _) (argsL := [(.ref bk32)]) (rest := []) (lenOf pd__Ljava_lang_Object__Z rfl) rfl (by show 2 * 0 + _ ≤ _; exact Nat.le_of_eq rfl) (hb hby at_72) (fun _ _ => ⟨rfl, rfl, (by decide : 2 + 1 ≤ _), (by decide : 9 + 10 ≤ _)⟩)
    dsimp only [Pt.U, Pt.locs, Pt.cells, Pt.slots] at Xk41 lk41 yk41 zk41 stk41 hQk41
    subst lk41 yk41 zk41
    obtain ⟨bk41, kk41, rfl, Nk41q, Kk41q, Gk41_0, Qk41_0, Qk41_1, Qk41_2, Qk41_3, Qk41_4⟩ := hQk41
    have Y42 : h0.size ≤ Tk32.heap.size := (Nat.le_trans Y33 Kk32q.1)
    have g_bk41 : n0 ≤ bk41 := Nat.le_trans Z39 Gk41_0
    have y_bk41 : h0.size ≤ bk41 := Nat.le_trans Y42 Gk41_0
    have K43 : Keep h0 Tk41.heap [] := K34.trans Kk41q (allS (P := fun x => x ∈ ([] : List Addr) ∨ h0.size ≤ x) (Or.inr y_bo7) all0)
    have Nk41 := Fr.app Nk32 Nk41q
    obtain ⟨To44, ho44, Xo44, eo44, Eo44, Ao44, Do44, -, sto44⟩ := newO Xk41 hx hZ hown (tw hw 26 rfl) (tw hw 27 rfl) (tw hw 28 rfl) rfl (g := (mkF m 112 #[.val (.int p1), .val (.int p2), .val (.int p3), .val (.int p4), .val (.int p5), .val (.int (1 : Int32)), .val (.int g0), .val (.int g1), .val (.int g2), .val (.ref bo7), .unset, .unset, .unset, .unset, .unset, .unset] [])) rfl (hb hby at_112) (by decide) (by decide)
    obtain ⟨bo44, go44⟩ : ∃ z, z = Tk41.heap.size := ⟨_, rfl⟩
    rw [← go44] at Ao44 Do44 sto44
    have Z45 : n0 ≤ Tk41.heap.size := (Nat.le_trans Z39 Kk41q.1)
    have Y46 : h0.size ≤ Tk41.heap.size := (Nat.le_trans Y42 Kk41q.1)
    have g_bo44 : n0 ≤ bo44 := Nat.le_trans Z45 (Nat.le_of_eq go44.symm)
    have y_bo44 : h0.size ≤ bo44 := Nat.le_trans Y46 (Nat.le_of_eq go44.symm)
    have K47 : Keep h0 ho44 [] := K43.ext Eo44
    have Fo44_positive : Fld Z ho44 bo44 S8 "positive" "[I" .null := Do44 (Or.inr (tw hw 88 rfl)) (ty := (.array .int)) (by decide)
    have Fo44_negative : Fld Z ho44 bo44 S8 "negative" "[I" .null := Do44 (Or.inr (tw hw 90 rfl)) (ty := (.array .int)) (by decide)
    have Fo44_target : Fld Z ho44 bo44 S8 "target" "I" (.int (0 : Int32)) := Do44 (Or.inr (tw hw 92 rfl)) (ty := .int) (by decide)
    have F48 := ((F35.keep Kk41q).ext Eo44)
    have F49 := (Qk41_0.ext Eo44)
    have F50 := (Qk41_1.ext Eo44)
    have F51 := (Qk41_2.ext Eo44)
    have F52 := (Qk41_3.ext Eo44)
    have F53 := ((Qk32_0.keep Kk41q).ext Eo44)
    have ne54 : bk32 ≠ bo7 := ne_exa F53 F48 (by decide)
    have F55 := ((Qk32_1.keep Kk41q (ninS ne54 nin0)).ext Eo44)
    have F56 := ((Qk32_2.keep Kk41q (ninS ne54 nin0)).ext Eo44)
    have Z57 : n0 ≤ ho44.size := (Nat.le_trans Z45 Eo44.1)
    have O58 : Old Z n0 ho44 := ((O40.keep Kk41q (allS g_bo7 all0)).ext Eo44)
    obtain ⟨_, _, ⟨Tk59, Lk59, kk59, nk59⟩, -, Xk59, ⟨Lck59, hQk59, lk59, yk59, zk59⟩, stk59⟩ := Xo44.specialBack hx (y := Y35) rfl hown (mvT hZ (tw hw 29 rfl)) (mvT hZ (tw hw 30 rfl)) (mvT hZ (tw hw 31 rfl)) (by decide) (backOf (W := 1) (rm_trinit1 l Z a0 hw [] bo44 p5 bo7 (1 : Int32) bk41 kk41 bk32 p2 g0 (Int32.ofNat (own_f g0 (0 : Int32) p2).length) (own_f g0 (0 : Int32) p2) (Int32.ofNat (own_f g0 (1 : Int32) p2).length) (own_f g0 (1 : Int32) p2) aD kD aL aC ho44 n0 Z57 O58 F48 F49 F50 F51 F52 F53 F55 F56 Ao44 Fo44_positive Fo44_negative Fo44_target ⟨S_DEF, V_DEF, S_LIT, E_LIT, O_LIT, S_HI, S_CA, C_CA⟩ g_bo44 hg0 rfl rfl rfl rfl) hZ (tw hw 31 rfl) (tw hw 28 rfl) (by decide) (by decide)) (g := (mkF m 120 #[.val (.int p1), .val (.int p2), .val (.int p3), .val (.int p4), .val (.int p5), .val (.int (1 : Int32)), .val (.int g0), .val (.int g1), .val (.int g2), .val (.ref bo7), .unset, .unset, .unset, .unset, .unset, .unset] [(.int p5), (.ref bo7), (.ref bo44), (.ref bo44)])) rfl (by rw [hml]; rfl) (Steps.refl _) (a := bo44) (argsL := [(.ref bo7), (.int p5)]) (rest := [(.ref bo44)]) (lenOf pd__Ljava_util_Collection_I_V rfl) rfl (by show 2 * 0 + _ ≤ _; exact Nat.le_of_eq rfl) (hb hby at_120) (fun _ _ => ⟨rfl, eo44, (by decide : 4 + 14 ≤ _), (by decide : 22 + 46 ≤ _)⟩)
    dsimp only [Pt.U, Pt.locs, Pt.cells, Pt.slots] at Xk59 lk59 yk59 zk59 stk59 hQk59
    subst lk59 yk59 zk59
    obtain ⟨b1k59, k1k59, b2k59, k2k59, rfl, Nk59q, Kk59q, Gk59_0, Gk59_1, Qk59_0, Qk59_1, Qk59_2, Qk59_3, Qk59_4, Qk59_5, Mk59_0⟩ := hQk59
    have Y60 : h0.size ≤ ho44.size := (Nat.le_trans Y46 Eo44.1)
    have g_b1k59 : n0 ≤ b1k59 := Nat.le_trans Z57 Gk59_0
    have y_b1k59 : h0.size ≤ b1k59 := Nat.le_trans Y60 Gk59_0
    have g_b2k59 : n0 ≤ b2k59 := Nat.le_trans Z57 Gk59_1
    have y_b2k59 : h0.size ≤ b2k59 := Nat.le_trans Y60 Gk59_1
    have K61 : Keep h0 Tk59.heap [] := K47.trans Kk59q (allS (P := fun x => x ∈ ([] : List Addr) ∨ h0.size ≤ x) (Or.inr y_bo44) all0)
    have Nk59 := Fr.app Nk41 Nk59q
    have r62 : ∀ t_, Sp p e below Tk59 (mkF m 123 #[.val (.int p1), .val (.int p2), .val (.int p3), .val (.int p4), .val (.int p5), .val (.int (1 : Int32)), .val (.int g0), .val (.int g1), .val (.int g2), .val (.ref bo7), .unset, .unset, .unset, .unset, .unset, .unset] [(.ref bo44)]) t_ → Sp p e below s₁ (entryFrame m #[(.int p1), (.int p2), (.int p3), (.int p4), (.int p5)] maxLocals) t_ := by
      intro t_ k_
      refine r13 _ ?_
      refine XS.iload Xk11.here hx rfl (hb hby at_59) rfl ?_
      refine XS.ifNo Xk11.here hx rfl (hb hby at_61) rfl ((if0 _ _).trans (tlt (by decide : (0 : Int32) < (1 : Int32))).2.2.2) ?_
      refine XS.aload Xk11.here hx rfl (hb hby at_64) rfl rfl ?_
      refine XS.iloadN Xk11.here hx rfl (hb hby at_66) rfl ?_
      refine XS.iload Xk11.here hx rfl (hb hby at_67) rfl ?_
      refine stk32 _ ?_
      refine stk41.trans ?_
      refine XS.pop Xk41.here hx rfl (hb hby at_75) rfl rfl ?_
      refine XS.iload Xk41.here hx rfl (hb hby at_76) rfl ?_
      refine XS.iconst Xk41.here hx rfl (hb hby at_78) ?_
      refine XS.icmpYes Xk41.here hx rfl (pc0 := 79) (pc' := 94) rfl (hb hby at_79) rfl (flt (by decide : ¬ ((1 : Int32) < (1 : Int32)))).2.2.2 (by decide) (by decide) ?_
      refine XS.iload Xk41.here hx rfl (hb hby at_94) rfl ?_
      refine XS.iconst Xk41.here hx rfl (hb hby at_96) ?_
      refine XS.icmpYes Xk41.here hx rfl (pc0 := 97) (pc' := 112) rfl (hb hby at_97) rfl (flt (by decide : ¬ ((2 : Int32) < (1 : Int32)))).2.2.2 (by decide) (by decide) ?_
      refine sto44 _ ?_
      refine XS.dup Xo44.here hx rfl (hb hby at_115) rfl rfl ?_
      refine XS.aload Xo44.here hx rfl (hb hby at_116) rfl rfl ?_
      refine XS.iload Xo44.here hx rfl (hb hby at_118) rfl ?_
      refine stk59.trans ?_
      show Sp p e below Tk59 (mkF m 123 #[.val (.int p1), .val (.int p2), .val (.int p3), .val (.int p4), .val (.int p5), .val (.int (1 : Int32)), .val (.int g0), .val (.int g1), .val (.int g2), .val (.ref bo7), .unset, .unset, .unset, .unset, .unset, .unset] [(.ref bo44)]) _
      exact k_
    have F63 := (Ao44.keep Kk59q)
    have Z64 : n0 ≤ Tk59.heap.size := (Nat.le_trans Z57 Kk59q.1)
    have O65 : Old Z n0 Tk59.heap := (O58.keep Kk59q (allS g_bo44 all0))
    obtain ⟨s₂, o, q1, q2, q3, q4⟩ := tl_tail p l e s m _ below meth c _ _ Z a0 hw p1 p2 p3 p4 p5 (1 : Int32) g0 g1 g2 bo7 bo44 b1k59 k1k59 (Int32.ofNat (own_f g0 (0 : Int32) p2).length) (own_f g0 (0 : Int32) p2) b2k59 k2k59 (Int32.ofNat (own_f g0 (1 : Int32) p2).length) (own_f g0 (1 : Int32) p2) aD kD aL aC Tk59.heap n0 (Xk59.more (by decide) (by decide)) hx hZ hby hml hown hret (BodyLoose.notSynchronized Bd) rfl Nk59 Z64 O65 F63 Qk59_0 Qk59_1 Qk59_2 Qk59_3 Qk59_4 Qk59_5 (by decide) (by simp [own_sel]) rfl (by simp [own_sel]) rfl Mk59_0
    exact ⟨s₂, o, r62 _ q1, q2, q3, q4⟩
  · rw [hn] at r13
    obtain ⟨_, _, ⟨Tk66, Lk66, kk66, nk66⟩, -, Xk66, ⟨Lck66, hQk66, lk66, yk66, zk66⟩, stk66⟩ := Jvm.LawKit.callS Xk11 hx (y := Y6) hown (mvT hZ (tw hw 111 rfl)) (mvT hZ (tw hw 112 rfl)) (mvT hZ (tw hw 113 rfl)) (mvT hZ (tw hw 114 rfl)) (by decide) (backOf (W := 1) (rm_literal l Z a0 hw [] p2 g0 aD kD aL aC Tk11.heap n0 Z14 O15 ⟨S_DEF, V_DEF, S_LIT, E_LIT, O_LIT, S_HI, S_CA, C_CA⟩ hg0) hZ (tw hw 114 rfl) (tw hw 113 rfl) (by decide) (by decide)) (g := (mkF m 69 #[.val (.int p1), .val (.int p2), .val (.int p3), .val (.int p4), .val (.int p5), .val (.int (2 : Int32)), .val (.int g0), .val (.int g1), .val (.int g2), .val (.ref bo7), .unset, .unset, .unset, .unset, .unset, .unset] [(.int g0), (.int p2), (.ref bo7)])) rfl (by rw [hml]; rfl) (argsL := [(.int p2), (.int g0)]) (rest := [(.ref bo7)]) (lenOf pd__IZ_Lcom_example_lassoo_lassoo_lang_NormalFormula_ rfl) rfl (by show 2 * 0 + _ ≤ _; exact Nat.le_of_eq rfl) (hb hby at_69) (fun _ _ => ⟨rfl, rfl, (by decide : 1 + 1 ≤ _), (by decide : 3 + 6 ≤ _)⟩)
    dsimp only [Pt.U, Pt.locs, Pt.cells, Pt.slots] at Xk66 lk66 yk66 zk66 stk66 hQk66
    subst lk66 yk66 zk66
    obtain ⟨bk66, rfl, Nk66q, Kk66q, Gk66_0, Qk66_0, Qk66_1, Qk66_2⟩ := hQk66
    have Y67 : h0.size ≤ Tk11.heap.size := (Nat.le_trans (Nat.le_trans (Nat.le_refl h0.size) Eo7.1) Kk11q.1)
    have g_bk66 : n0 ≤ bk66 := Nat.le_trans Z14 Gk66_0
    have y_bk66 : h0.size ≤ bk66 := Nat.le_trans Y67 Gk66_0
    have K68 : Keep h0 Tk66.heap [] := K12.trans Kk66q all0
    have Nk66 := Fr.app Nk11 Nk66q
    have F69 := ((Ao7.keep Kk11q).keep Kk66q)
    have F70 := (Qk11_0.keep Kk66q nin0)
    have F71 := (Qk11_1.keep Kk66q nin0)
    have F72 := (Qk11_2.keep Kk66q nin0)
    have Z73 : n0 ≤ Tk66.heap.size := (Nat.le_trans Z14 Kk66q.1)
    have O74 : Old Z n0 Tk66.heap := (O15.keep Kk66q all0)
    obtain ⟨cqk75, kqk75, qk75a, qk75b, qk75c⟩ := isOf hZ rfl F69
    obtain ⟨_, _, ⟨Tk75, Lk75, kk75, nk75⟩, -, Xk75, ⟨Lck75, hQk75, lk75, yk75, zk75⟩, stk75⟩ := Xk66.virtualBack hx (y := Y11) (z := Y11) hown (mvT hZ (tw hw 145 rfl)) (mvT hZ (tw hw 146 rfl)) (notFace_of_selects (args := #[]) (mvT hZ (tw hw 148 rfl))) (mvT hZ (tw hw 148 rfl)) (mvT hZ (tw hw 147 rfl)) (by decide) (backOf (W := 0) (rm_add_0 l Z a0 hw [] bo7 bk66 (0 : Int32) (1 : Int32) aD kD aL aC Tk66.heap n0 Z73 O74 F69 F70 F71 F72 (Ins.of_exa Qk66_0 (tw hw 172 rfl)) ⟨S_DEF, V_DEF, S_LIT, E_LIT, O_LIT, S_HI, S_CA, C_CA⟩ g_bo7 (by decide)) hZ (tw hw 149 rfl) (tw hw 2 rfl) (by decide) (by decide)) qk75a qk75c (g := (mkF m 72 #[.val (.int p1), .val (.int p2), .val (.int p3), .val (.int p4), .val (.int p5), .val (.int (2 : Int32)), .val (.int g0), .val (.int g1), .val (.int g2), .val (.ref bo7), .unset, .unset, .unset, .unset, .unset, .unset] [(.ref bk66), (.ref bo7)])) rfl (by rw [hml]; rfl) (Steps.refl _) (argsL := [(.ref bk66)]) (rest := []) (lenOf pd__Ljava_lang_Object__Z rfl) rfl (by show 2 * 0 + _ ≤ _; exact Nat.le_of_eq rfl) (hb hby at_72) (fun _ _ => ⟨rfl, rfl, (by decide : 2 + 1 ≤ _), (by decide : 9 + 10 ≤ _)⟩)
    dsimp only [Pt.U, Pt.locs, Pt.cells, Pt.slots] at Xk75 lk75 yk75 zk75 stk75 hQk75
    subst lk75 yk75 zk75
    obtain ⟨bk75, kk75, rfl, Nk75q, Kk75q, Gk75_0, Qk75_0, Qk75_1, Qk75_2, Qk75_3, Qk75_4⟩ := hQk75
    have Y76 : h0.size ≤ Tk66.heap.size := (Nat.le_trans Y67 Kk66q.1)
    have g_bk75 : n0 ≤ bk75 := Nat.le_trans Z73 Gk75_0
    have y_bk75 : h0.size ≤ bk75 := Nat.le_trans Y76 Gk75_0
    have K77 : Keep h0 Tk75.heap [] := K68.trans Kk75q (allS (P := fun x => x ∈ ([] : List Addr) ∨ h0.size ≤ x) (Or.inr y_bo7) all0)
    have Nk75 := Fr.app Nk66 Nk75q
    have Z78 : n0 ≤ Tk75.heap.size := (Nat.le_trans Z73 Kk75q.1)
    have O79 : Old Z n0 Tk75.heap := (O74.keep Kk75q (allS g_bo7 all0))
    obtain ⟨_, _, ⟨Tk80, Lk80, kk80, nk80⟩, -, Xk80, ⟨Lck80, hQk80, lk80, yk80, zk80⟩, stk80⟩ := Jvm.LawKit.callS Xk75 hx (y := Y6) hown (mvT hZ (tw hw 111 rfl)) (mvT hZ (tw hw 112 rfl)) (mvT hZ (tw hw 113 rfl)) (mvT hZ (tw hw 114 rfl)) (by decide) (backOf (W := 1) (rm_literal l Z a0 hw [] p3 g1 aD kD aL aC Tk75.heap n0 Z78 O79 ⟨S_DEF, V_DEF, S_LIT, E_LIT, O_LIT, S_HI, S_CA, C_CA⟩ hg1) hZ (tw hw 114 rfl) (tw hw 113 rfl) (by decide) (by decide)) (g := (mkF m 87 #[.val (.int p1), .val (.int p2), .val (.int p3), .val (.int p4), .val (.int p5), .val (.int (2 : Int32)), .val (.int g0), .val (.int g1), .val (.int g2), .val (.ref bo7), .unset, .unset, .unset, .unset, .unset, .unset] [(.int g1), (.int p3), (.ref bo7)])) rfl (by rw [hml]; rfl) (argsL := [(.int p3), (.int g1)]) (rest := [(.ref bo7)]) (lenOf pd__IZ_Lcom_example_lassoo_lassoo_lang_NormalFormula_ rfl) rfl (by show 2 * 0 + _ ≤ _; exact Nat.le_of_eq rfl) (hb hby at_87) (fun _ _ => ⟨rfl, rfl, (by decide : 3 + 1 ≤ _), (by decide : 19 + 6 ≤ _)⟩)
    dsimp only [Pt.U, Pt.locs, Pt.cells, Pt.slots] at Xk80 lk80 yk80 zk80 stk80 hQk80
    subst lk80 yk80 zk80
    obtain ⟨bk80, rfl, Nk80q, Kk80q, Gk80_0, Qk80_0, Qk80_1, Qk80_2⟩ := hQk80
    have Y81 : h0.size ≤ Tk75.heap.size := (Nat.le_trans Y76 Kk75q.1)
    have g_bk80 : n0 ≤ bk80 := Nat.le_trans Z78 Gk80_0
    have y_bk80 : h0.size ≤ bk80 := Nat.le_trans Y81 Gk80_0
    have K82 : Keep h0 Tk80.heap [] := K77.trans Kk80q all0
    have Nk80 := Fr.app Nk75 Nk80q
    have F83 := ((F69.keep Kk75q).keep Kk80q)
    have F84 := (Qk75_0.keep Kk80q nin0)
    have F85 := (Qk75_1.keep Kk80q nin0)
    have F86 := (Qk75_2.keep Kk80q nin0)
    have F87 := (Qk75_3.keep Kk80q nin0)
    have F88 := Qk75_4
    have ne89 : bo7 ≠ bk75 := Exa.neArv ((((Ao7.keep Kk11q).keep Kk66q).keep Kk75q).keep Kk80q) F87 (tw hw 1 rfl)
    have Z90 : n0 ≤ Tk80.heap.size := (Nat.le_trans Z78 Kk80q.1)
    have O91 : Old Z n0 Tk80.heap := (O79.keep Kk80q all0)
    obtain ⟨cqk92, kqk92, qk92a, qk92b, qk92c⟩ := isOf hZ rfl F83
    obtain ⟨_, _, ⟨Tk92, Lk92, kk92, nk92⟩, -, Xk92, ⟨Lck92, hQk92, lk92, yk92, zk92⟩, stk92⟩ := Xk80.virtualBack hx (y := Y11) (z := Y11) hown (mvT hZ (tw hw 145 rfl)) (mvT hZ (tw hw 146 rfl)) (notFace_of_selects (args := #[]) (mvT hZ (tw hw 148 rfl))) (mvT hZ (tw hw 148 rfl)) (mvT hZ (tw hw 147 rfl)) (by decide) (backOf (W := 0) (rm_add_1 l Z a0 hw [] bo7 bk80 bk75 kk75 (1 : Int32) (2 : Int32) bk66 aD kD aL aC Tk80.heap n0 Z90 O91 F83 F84 F85 F86 (Ins.of_exa Qk80_0 (tw hw 172 rfl)) F87 F88 ⟨S_DEF, V_DEF, S_LIT, E_LIT, O_LIT, S_HI, S_CA, C_CA⟩ g_bo7 g_bk75 ne89 (by decide)) hZ (tw hw 149 rfl) (tw hw 2 rfl) (by decide) (by decide)) qk92a qk92c (g := (mkF m 90 #[.val (.int p1), .val (.int p2), .val (.int p3), .val (.int p4), .val (.int p5), .val (.int (2 : Int32)), .val (.int g0), .val (.int g1), .val (.int g2), .val (.ref bo7), .unset, .unset, .unset, .unset, .unset, .unset] [(.ref bk80), (.ref bo7)])) rfl (by rw [hml]; rfl) (Steps.refl _) (argsL := [(.ref bk80)]) (rest := []) (lenOf pd__Ljava_lang_Object__Z rfl) rfl (by show 2 * 0 + _ ≤ _; exact Nat.le_of_eq rfl) (hb hby at_90) (fun _ _ => ⟨rfl, rfl, (by decide : 4 + 0 ≤ _), (by decide : 25 + 0 ≤ _)⟩)
    dsimp only [Pt.U, Pt.locs, Pt.cells, Pt.slots] at Xk92 lk92 yk92 zk92 stk92 hQk92
    subst lk92 yk92 zk92
    obtain ⟨rfl, Nk92q, Kk92q, Qk92_0, Qk92_1, Qk92_2, Qk92_3⟩ := hQk92
    have K93 : Keep h0 Tk92.heap [] := K82.trans Kk92q (allS (P := fun x => x ∈ ([] : List Addr) ∨ h0.size ≤ x) (Or.inr y_bo7) (allS (P := fun x => x ∈ ([] : List Addr) ∨ h0.size ≤ x) (Or.inr y_bk75) all0))
    have Nk92 := Fr.app Nk80 Nk92q
    obtain ⟨To94, ho94, Xo94, eo94, Eo94, Ao94, Do94, -, sto94⟩ := newO Xk92 hx hZ hown (tw hw 26 rfl) (tw hw 27 rfl) (tw hw 28 rfl) rfl (g := (mkF m 112 #[.val (.int p1), .val (.int p2), .val (.int p3), .val (.int p4), .val (.int p5), .val (.int (2 : Int32)), .val (.int g0), .val (.int g1), .val (.int g2), .val (.ref bo7), .unset, .unset, .unset, .unset, .unset, .unset] [])) rfl (hb hby at_112) (by decide) (by decide)
    obtain ⟨bo94, go94⟩ : ∃ z, z = Tk92.heap.size := ⟨_, rfl⟩
    rw [← go94] at Ao94 Do94 sto94
    have Z95 : n0 ≤ Tk92.heap.size := (Nat.le_trans Z90 Kk92q.1)
    have Y96 : h0.size ≤ Tk92.heap.size := (Nat.le_trans (Nat.le_trans Y81 Kk80q.1) Kk92q.1)
    have g_bo94 : n0 ≤ bo94 := Nat.le_trans Z95 (Nat.le_of_eq go94.symm)
    have y_bo94 : h0.size ≤ bo94 := Nat.le_trans Y96 (Nat.le_of_eq go94.symm)
    have K97 : Keep h0 ho94 [] := K93.ext Eo94
    have Fo94_positive : Fld Z ho94 bo94 S8 "positive" "[I" .null := Do94 (Or.inr (tw hw 88 rfl)) (ty := (.array .int)) (by decide)
    have Fo94_negative : Fld Z ho94 bo94 S8 "negative" "[I" .null := Do94 (Or.inr (tw hw 90 rfl)) (ty := (.array .int)) (by decide)
    have Fo94_target : Fld Z ho94 bo94 S8 "target" "I" (.int (0 : Int32)) := Do94 (Or.inr (tw hw 92 rfl)) (ty := .int) (by decide)
    have F98 := ((F83.keep Kk92q).ext Eo94)
    have F99 := (Qk92_0.ext Eo94)
    have F100 := (Qk92_1.ext Eo94)
    have F101 := (Qk92_2.ext Eo94)
    have F102 := (Qk92_3.ext Eo94)
    have F103 := ((((Qk66_0.keep Kk75q).keep Kk80q).keep Kk92q).ext Eo94)
    have ne104 : bk66 ≠ bo7 := ne_exa F103 F98 (by decide)
    have ne105 : bk66 ≠ bk75 := Exa.neArv ((((Qk66_0.keep Kk75q).keep Kk80q).keep Kk92q).ext Eo94) F102 (tw hw 116 rfl)
    have F106 := ((((Qk66_1.keep Kk75q (ninS ne104 nin0)).keep Kk80q nin0).keep Kk92q (ninS ne104 (ninS ne105 nin0))).ext Eo94)
    have F107 := ((((Qk66_2.keep Kk75q (ninS ne104 nin0)).keep Kk80q nin0).keep Kk92q (ninS ne104 (ninS ne105 nin0))).ext Eo94)
    have F108 := ((Qk80_0.keep Kk92q).ext Eo94)
    have ne109 : bk80 ≠ bk75 := Exa.neArv ((Qk80_0.keep Kk92q).ext Eo94) F102 (tw hw 116 rfl)
    have ne110 : bk80 ≠ bo7 := ne_exa F108 F98 (by decide)
    have F111 := ((Qk80_1.keep Kk92q (ninS ne110 (ninS ne109 nin0))).ext Eo94)
    have F112 := ((Qk80_2.keep Kk92q (ninS ne110 (ninS ne109 nin0))).ext Eo94)
    have Z113 : n0 ≤ ho94.size := (Nat.le_trans Z95 Eo94.1)
    have O114 : Old Z n0 ho94 := ((O91.keep Kk92q (allS g_bo7 (allS g_bk75 all0))).ext Eo94)
    obtain ⟨_, _, ⟨Tk115, Lk115, kk115, nk115⟩, -, Xk115, ⟨Lck115, hQk115, lk115, yk115, zk115⟩, stk115⟩ := Xo94.specialBack hx (y := Y35) rfl hown (mvT hZ (tw hw 29 rfl)) (mvT hZ (tw hw 30 rfl)) (mvT hZ (tw hw 31 rfl)) (by decide) (backOf (W := 1) (rm_trinit2 l Z a0 hw [] bo94 p5 bo7 (2 : Int32) bk75 kk75 bk66 bk80 p2 p3 g0 g1 (Int32.ofNat (own_f g0 (0 : Int32) p2 ++ own_f g1 (0 : Int32) p3).length) (own_f g0 (0 : Int32) p2 ++ own_f g1 (0 : Int32) p3) (Int32.ofNat (own_f g0 (1 : Int32) p2 ++ own_f g1 (1 : Int32) p3).length) (own_f g0 (1 : Int32) p2 ++ own_f g1 (1 : Int32) p3) aD kD aL aC ho94 n0 Z113 O114 F98 F99 F100 F101 F102 F103 F106 F107 F108 F111 F112 Ao94 Fo94_positive Fo94_negative Fo94_target ⟨S_DEF, V_DEF, S_LIT, E_LIT, O_LIT, S_HI, S_CA, C_CA⟩ g_bo94 hg0 hg1 rfl rfl rfl rfl) hZ (tw hw 31 rfl) (tw hw 28 rfl) (by decide) (by decide)) (g := (mkF m 120 #[.val (.int p1), .val (.int p2), .val (.int p3), .val (.int p4), .val (.int p5), .val (.int (2 : Int32)), .val (.int g0), .val (.int g1), .val (.int g2), .val (.ref bo7), .unset, .unset, .unset, .unset, .unset, .unset] [(.int p5), (.ref bo7), (.ref bo94), (.ref bo94)])) rfl (by rw [hml]; rfl) (Steps.refl _) (a := bo94) (argsL := [(.ref bo7), (.int p5)]) (rest := [(.ref bo94)]) (lenOf pd__Ljava_util_Collection_I_V rfl) rfl (by show 2 * 0 + _ ≤ _; exact Nat.le_of_eq rfl) (hb hby at_120) (fun _ _ => ⟨rfl, eo94, (by decide : 5 + 14 ≤ _), (by decide : 28 + 46 ≤ _)⟩)
    dsimp only [Pt.U, Pt.locs, Pt.cells, Pt.slots] at Xk115 lk115 yk115 zk115 stk115 hQk115
    subst lk115 yk115 zk115
    obtain ⟨b1k115, k1k115, b2k115, k2k115, rfl, Nk115q, Kk115q, Gk115_0, Gk115_1, Qk115_0, Qk115_1, Qk115_2, Qk115_3, Qk115_4, Qk115_5, Mk115_0⟩ := hQk115
    have Y116 : h0.size ≤ ho94.size := (Nat.le_trans Y96 Eo94.1)
    have g_b1k115 : n0 ≤ b1k115 := Nat.le_trans Z113 Gk115_0
    have y_b1k115 : h0.size ≤ b1k115 := Nat.le_trans Y116 Gk115_0
    have g_b2k115 : n0 ≤ b2k115 := Nat.le_trans Z113 Gk115_1
    have y_b2k115 : h0.size ≤ b2k115 := Nat.le_trans Y116 Gk115_1
    have K117 : Keep h0 Tk115.heap [] := K97.trans Kk115q (allS (P := fun x => x ∈ ([] : List Addr) ∨ h0.size ≤ x) (Or.inr y_bo94) all0)
    have Nk115 := Fr.app Nk92 Nk115q
    have r118 : ∀ t_, Sp p e below Tk115 (mkF m 123 #[.val (.int p1), .val (.int p2), .val (.int p3), .val (.int p4), .val (.int p5), .val (.int (2 : Int32)), .val (.int g0), .val (.int g1), .val (.int g2), .val (.ref bo7), .unset, .unset, .unset, .unset, .unset, .unset] [(.ref bo94)]) t_ → Sp p e below s₁ (entryFrame m #[(.int p1), (.int p2), (.int p3), (.int p4), (.int p5)] maxLocals) t_ := by
      intro t_ k_
      refine r13 _ ?_
      refine XS.iload Xk11.here hx rfl (hb hby at_59) rfl ?_
      refine XS.ifNo Xk11.here hx rfl (hb hby at_61) rfl ((if0 _ _).trans (tlt (by decide : (0 : Int32) < (2 : Int32))).2.2.2) ?_
      refine XS.aload Xk11.here hx rfl (hb hby at_64) rfl rfl ?_
      refine XS.iloadN Xk11.here hx rfl (hb hby at_66) rfl ?_
      refine XS.iload Xk11.here hx rfl (hb hby at_67) rfl ?_
      refine stk66 _ ?_
      refine stk75.trans ?_
      refine XS.pop Xk75.here hx rfl (hb hby at_75) rfl rfl ?_
      refine XS.iload Xk75.here hx rfl (hb hby at_76) rfl ?_
      refine XS.iconst Xk75.here hx rfl (hb hby at_78) ?_
      refine XS.icmpNo Xk75.here hx rfl (hb hby at_79) rfl (tlt (by decide : (1 : Int32) < (2 : Int32))).2.2.2 ?_
      refine XS.aload Xk75.here hx rfl (hb hby at_82) rfl rfl ?_
      refine XS.iloadN Xk75.here hx rfl (hb hby at_84) rfl ?_
      refine XS.iload Xk75.here hx rfl (hb hby at_85) rfl ?_
      refine stk80 _ ?_
      refine stk92.trans ?_
      refine XS.pop Xk92.here hx rfl (hb hby at_93) rfl rfl ?_
      refine XS.iload Xk92.here hx rfl (hb hby at_94) rfl ?_
      refine XS.iconst Xk92.here hx rfl (hb hby at_96) ?_
      refine XS.icmpYes Xk92.here hx rfl (pc0 := 97) (pc' := 112) rfl (hb hby at_97) rfl (flt (by decide : ¬ ((2 : Int32) < (2 : Int32)))).2.2.2 (by decide) (by decide) ?_
      refine sto94 _ ?_
      show Sp p e below To94 (mkF m 115 #[.val (.int p1), .val (.int p2), .val (.int p3), .val (.int p4), .val (.int p5), .val (.int (2 : Int32)), .val (.int g0), .val (.int g1), .val (.int g2), .val (.ref bo7), .unset, .unset, .unset, .unset, .unset, .unset] [(.ref bo94)]) _
      refine XS.dup Xo94.here hx rfl (hb hby at_115) rfl rfl ?_
      refine XS.aload Xo94.here hx rfl (hb hby at_116) rfl rfl ?_
      refine XS.iload Xo94.here hx rfl (hb hby at_118) rfl ?_
      refine stk115.trans ?_
      show Sp p e below Tk115 (mkF m 123 #[.val (.int p1), .val (.int p2), .val (.int p3), .val (.int p4), .val (.int p5), .val (.int (2 : Int32)), .val (.int g0), .val (.int g1), .val (.int g2), .val (.ref bo7), .unset, .unset, .unset, .unset, .unset, .unset] [(.ref bo94)]) _
      exact k_
    have F119 := (Ao94.keep Kk115q)
    have Z120 : n0 ≤ Tk115.heap.size := (Nat.le_trans Z113 Kk115q.1)
    have O121 : Old Z n0 Tk115.heap := (O114.keep Kk115q (allS g_bo94 all0))
    obtain ⟨s₂, o, q1, q2, q3, q4⟩ := tl_tail p l e s m _ below meth c _ _ Z a0 hw p1 p2 p3 p4 p5 (2 : Int32) g0 g1 g2 bo7 bo94 b1k115 k1k115 (Int32.ofNat (own_f g0 (0 : Int32) p2 ++ own_f g1 (0 : Int32) p3).length) (own_f g0 (0 : Int32) p2 ++ own_f g1 (0 : Int32) p3) b2k115 k2k115 (Int32.ofNat (own_f g0 (1 : Int32) p2 ++ own_f g1 (1 : Int32) p3).length) (own_f g0 (1 : Int32) p2 ++ own_f g1 (1 : Int32) p3) aD kD aL aC Tk115.heap n0 (Xk115.more (by decide) (by decide)) hx hZ hby hml hown hret (BodyLoose.notSynchronized Bd) rfl Nk115 Z120 O121 F119 Qk115_0 Qk115_1 Qk115_2 Qk115_3 Qk115_4 Qk115_5 (by decide) (by simp [own_sel]) rfl (by simp [own_sel]) rfl Mk115_0
    exact ⟨s₂, o, r118 _ q1, q2, q3, q4⟩
  · rw [hn] at r13
    obtain ⟨_, _, ⟨Tk122, Lk122, kk122, nk122⟩, -, Xk122, ⟨Lck122, hQk122, lk122, yk122, zk122⟩, stk122⟩ := Jvm.LawKit.callS Xk11 hx (y := Y6) hown (mvT hZ (tw hw 111 rfl)) (mvT hZ (tw hw 112 rfl)) (mvT hZ (tw hw 113 rfl)) (mvT hZ (tw hw 114 rfl)) (by decide) (backOf (W := 1) (rm_literal l Z a0 hw [] p2 g0 aD kD aL aC Tk11.heap n0 Z14 O15 ⟨S_DEF, V_DEF, S_LIT, E_LIT, O_LIT, S_HI, S_CA, C_CA⟩ hg0) hZ (tw hw 114 rfl) (tw hw 113 rfl) (by decide) (by decide)) (g := (mkF m 69 #[.val (.int p1), .val (.int p2), .val (.int p3), .val (.int p4), .val (.int p5), .val (.int (3 : Int32)), .val (.int g0), .val (.int g1), .val (.int g2), .val (.ref bo7), .unset, .unset, .unset, .unset, .unset, .unset] [(.int g0), (.int p2), (.ref bo7)])) rfl (by rw [hml]; rfl) (argsL := [(.int p2), (.int g0)]) (rest := [(.ref bo7)]) (lenOf pd__IZ_Lcom_example_lassoo_lassoo_lang_NormalFormula_ rfl) rfl (by show 2 * 0 + _ ≤ _; exact Nat.le_of_eq rfl) (hb hby at_69) (fun _ _ => ⟨rfl, rfl, (by decide : 1 + 1 ≤ _), (by decide : 3 + 6 ≤ _)⟩)
    dsimp only [Pt.U, Pt.locs, Pt.cells, Pt.slots] at Xk122 lk122 yk122 zk122 stk122 hQk122
    subst lk122 yk122 zk122
    obtain ⟨bk122, rfl, Nk122q, Kk122q, Gk122_0, Qk122_0, Qk122_1, Qk122_2⟩ := hQk122
    have Y123 : h0.size ≤ Tk11.heap.size := (Nat.le_trans (Nat.le_trans (Nat.le_refl h0.size) Eo7.1) Kk11q.1)
    have g_bk122 : n0 ≤ bk122 := Nat.le_trans Z14 Gk122_0
    have y_bk122 : h0.size ≤ bk122 := Nat.le_trans Y123 Gk122_0
    have K124 : Keep h0 Tk122.heap [] := K12.trans Kk122q all0
    have Nk122 := Fr.app Nk11 Nk122q
    have F125 := ((Ao7.keep Kk11q).keep Kk122q)
    have F126 := (Qk11_0.keep Kk122q nin0)
    have F127 := (Qk11_1.keep Kk122q nin0)
    have F128 := (Qk11_2.keep Kk122q nin0)
    have Z129 : n0 ≤ Tk122.heap.size := (Nat.le_trans Z14 Kk122q.1)
    have O130 : Old Z n0 Tk122.heap := (O15.keep Kk122q all0)
    obtain ⟨cqk131, kqk131, qk131a, qk131b, qk131c⟩ := isOf hZ rfl F125
    obtain ⟨_, _, ⟨Tk131, Lk131, kk131, nk131⟩, -, Xk131, ⟨Lck131, hQk131, lk131, yk131, zk131⟩, stk131⟩ := Xk122.virtualBack hx (y := Y11) (z := Y11) hown (mvT hZ (tw hw 145 rfl)) (mvT hZ (tw hw 146 rfl)) (notFace_of_selects (args := #[]) (mvT hZ (tw hw 148 rfl))) (mvT hZ (tw hw 148 rfl)) (mvT hZ (tw hw 147 rfl)) (by decide) (backOf (W := 0) (rm_add_0 l Z a0 hw [] bo7 bk122 (0 : Int32) (1 : Int32) aD kD aL aC Tk122.heap n0 Z129 O130 F125 F126 F127 F128 (Ins.of_exa Qk122_0 (tw hw 172 rfl)) ⟨S_DEF, V_DEF, S_LIT, E_LIT, O_LIT, S_HI, S_CA, C_CA⟩ g_bo7 (by decide)) hZ (tw hw 149 rfl) (tw hw 2 rfl) (by decide) (by decide)) qk131a qk131c (g := (mkF m 72 #[.val (.int p1), .val (.int p2), .val (.int p3), .val (.int p4), .val (.int p5), .val (.int (3 : Int32)), .val (.int g0), .val (.int g1), .val (.int g2), .val (.ref bo7), .unset, .unset, .unset, .unset, .unset, .unset] [(.ref bk122), (.ref bo7)])) rfl (by rw [hml]; rfl) (Steps.refl _) (argsL := [(.ref bk122)]) (rest := []) (lenOf pd__Ljava_lang_Object__Z rfl) rfl (by show 2 * 0 + _ ≤ _; exact Nat.le_of_eq rfl) (hb hby at_72) (fun _ _ => ⟨rfl, rfl, (by decide : 2 + 1 ≤ _), (by decide : 9 + 10 ≤ _)⟩)
    dsimp only [Pt.U, Pt.locs, Pt.cells, Pt.slots] at Xk131 lk131 yk131 zk131 stk131 hQk131
    subst lk131 yk131 zk131
    obtain ⟨bk131, kk131, rfl, Nk131q, Kk131q, Gk131_0, Qk131_0, Qk131_1, Qk131_2, Qk131_3, Qk131_4⟩ := hQk131
    have Y132 : h0.size ≤ Tk122.heap.size := (Nat.le_trans Y123 Kk122q.1)
    have g_bk131 : n0 ≤ bk131 := Nat.le_trans Z129 Gk131_0
    have y_bk131 : h0.size ≤ bk131 := Nat.le_trans Y132 Gk131_0
    have K133 : Keep h0 Tk131.heap [] := K124.trans Kk131q (allS (P := fun x => x ∈ ([] : List Addr) ∨ h0.size ≤ x) (Or.inr y_bo7) all0)
    have Nk131 := Fr.app Nk122 Nk131q
    have Z134 : n0 ≤ Tk131.heap.size := (Nat.le_trans Z129 Kk131q.1)
    have O135 : Old Z n0 Tk131.heap := (O130.keep Kk131q (allS g_bo7 all0))
    obtain ⟨_, _, ⟨Tk136, Lk136, kk136, nk136⟩, -, Xk136, ⟨Lck136, hQk136, lk136, yk136, zk136⟩, stk136⟩ := Jvm.LawKit.callS Xk131 hx (y := Y6) hown (mvT hZ (tw hw 111 rfl)) (mvT hZ (tw hw 112 rfl)) (mvT hZ (tw hw 113 rfl)) (mvT hZ (tw hw 114 rfl)) (by decide) (backOf (W := 1) (rm_literal l Z a0 hw [] p3 g1 aD kD aL aC Tk131.heap n0 Z134 O135 ⟨S_DEF, V_DEF, S_LIT, E_LIT, O_LIT, S_HI, S_CA, C_CA⟩ hg1) hZ (tw hw 114 rfl) (tw hw 113 rfl) (by decide) (by decide)) (g := (mkF m 87 #[.val (.int p1), .val (.int p2), .val (.int p3), .val (.int p4), .val (.int p5), .val (.int (3 : Int32)), .val (.int g0), .val (.int g1), .val (.int g2), .val (.ref bo7), .unset, .unset, .unset, .unset, .unset, .unset] [(.int g1), (.int p3), (.ref bo7)])) rfl (by rw [hml]; rfl) (argsL := [(.int p3), (.int g1)]) (rest := [(.ref bo7)]) (lenOf pd__IZ_Lcom_example_lassoo_lassoo_lang_NormalFormula_ rfl) rfl (by show 2 * 0 + _ ≤ _; exact Nat.le_of_eq rfl) (hb hby at_87) (fun _ _ => ⟨rfl, rfl, (by decide : 3 + 1 ≤ _), (by decide : 19 + 6 ≤ _)⟩)
    dsimp only [Pt.U, Pt.locs, Pt.cells, Pt.slots] at Xk136 lk136 yk136 zk136 stk136 hQk136
    subst lk136 yk136 zk136
    obtain ⟨bk136, rfl, Nk136q, Kk136q, Gk136_0, Qk136_0, Qk136_1, Qk136_2⟩ := hQk136
    have Y137 : h0.size ≤ Tk131.heap.size := (Nat.le_trans Y132 Kk131q.1)
    have g_bk136 : n0 ≤ bk136 := Nat.le_trans Z134 Gk136_0
    have y_bk136 : h0.size ≤ bk136 := Nat.le_trans Y137 Gk136_0
    have K138 : Keep h0 Tk136.heap [] := K133.trans Kk136q all0
    have Nk136 := Fr.app Nk131 Nk136q
    have F139 := ((F125.keep Kk131q).keep Kk136q)
    have F140 := (Qk131_0.keep Kk136q nin0)
    have F141 := (Qk131_1.keep Kk136q nin0)
    have F142 := (Qk131_2.keep Kk136q nin0)
    have F143 := (Qk131_3.keep Kk136q nin0)
    have F144 := Qk131_4
    have ne145 : bo7 ≠ bk131 := Exa.neArv ((((Ao7.keep Kk11q).keep Kk122q).keep Kk131q).keep Kk136q) F143 (tw hw 1 rfl)
    have Z146 : n0 ≤ Tk136.heap.size := (Nat.le_trans Z134 Kk136q.1)
    have O147 : Old Z n0 Tk136.heap := (O135.keep Kk136q all0)
    obtain ⟨cqk148, kqk148, qk148a, qk148b, qk148c⟩ := isOf hZ rfl F139
    obtain ⟨_, _, ⟨Tk148, Lk148, kk148, nk148⟩, -, Xk148, ⟨Lck148, hQk148, lk148, yk148, zk148⟩, stk148⟩ := Xk136.virtualBack hx (y := Y11) (z := Y11) hown (mvT hZ (tw hw 145 rfl)) (mvT hZ (tw hw 146 rfl)) (notFace_of_selects (args := #[]) (mvT hZ (tw hw 148 rfl))) (mvT hZ (tw hw 148 rfl)) (mvT hZ (tw hw 147 rfl)) (by decide) (backOf (W := 0) (rm_add_1 l Z a0 hw [] bo7 bk136 bk131 kk131 (1 : Int32) (2 : Int32) bk122 aD kD aL aC Tk136.heap n0 Z146 O147 F139 F140 F141 F142 (Ins.of_exa Qk136_0 (tw hw 172 rfl)) F143 F144 ⟨S_DEF, V_DEF, S_LIT, E_LIT, O_LIT, S_HI, S_CA, C_CA⟩ g_bo7 g_bk131 ne145 (by decide)) hZ (tw hw 149 rfl) (tw hw 2 rfl) (by decide) (by decide)) qk148a qk148c (g := (mkF m 90 #[.val (.int p1), .val (.int p2), .val (.int p3), .val (.int p4), .val (.int p5), .val (.int (3 : Int32)), .val (.int g0), .val (.int g1), .val (.int g2), .val (.ref bo7), .unset, .unset, .unset, .unset, .unset, .unset] [(.ref bk136), (.ref bo7)])) rfl (by rw [hml]; rfl) (Steps.refl _) (argsL := [(.ref bk136)]) (rest := []) (lenOf pd__Ljava_lang_Object__Z rfl) rfl (by show 2 * 0 + _ ≤ _; exact Nat.le_of_eq rfl) (hb hby at_90) (fun _ _ => ⟨rfl, rfl, (by decide : 4 + 0 ≤ _), (by decide : 25 + 0 ≤ _)⟩)
    dsimp only [Pt.U, Pt.locs, Pt.cells, Pt.slots] at Xk148 lk148 yk148 zk148 stk148 hQk148
    subst lk148 yk148 zk148
    obtain ⟨rfl, Nk148q, Kk148q, Qk148_0, Qk148_1, Qk148_2, Qk148_3⟩ := hQk148
    have K149 : Keep h0 Tk148.heap [] := K138.trans Kk148q (allS (P := fun x => x ∈ ([] : List Addr) ∨ h0.size ≤ x) (Or.inr y_bo7) (allS (P := fun x => x ∈ ([] : List Addr) ∨ h0.size ≤ x) (Or.inr y_bk131) all0))
    have Nk148 := Fr.app Nk136 Nk148q
    have Z150 : n0 ≤ Tk148.heap.size := (Nat.le_trans Z146 Kk148q.1)
    have O151 : Old Z n0 Tk148.heap := (O147.keep Kk148q (allS g_bo7 (allS g_bk131 all0)))
    obtain ⟨_, _, ⟨Tk152, Lk152, kk152, nk152⟩, -, Xk152, ⟨Lck152, hQk152, lk152, yk152, zk152⟩, stk152⟩ := Jvm.LawKit.callS Xk148 hx (y := Y6) hown (mvT hZ (tw hw 111 rfl)) (mvT hZ (tw hw 112 rfl)) (mvT hZ (tw hw 113 rfl)) (mvT hZ (tw hw 114 rfl)) (by decide) (backOf (W := 1) (rm_literal l Z a0 hw [] p4 g2 aD kD aL aC Tk148.heap n0 Z150 O151 ⟨S_DEF, V_DEF, S_LIT, E_LIT, O_LIT, S_HI, S_CA, C_CA⟩ hg2) hZ (tw hw 114 rfl) (tw hw 113 rfl) (by decide) (by decide)) (g := (mkF m 105 #[.val (.int p1), .val (.int p2), .val (.int p3), .val (.int p4), .val (.int p5), .val (.int (3 : Int32)), .val (.int g0), .val (.int g1), .val (.int g2), .val (.ref bo7), .unset, .unset, .unset, .unset, .unset, .unset] [(.int g2), (.int p4), (.ref bo7)])) rfl (by rw [hml]; rfl) (argsL := [(.int p4), (.int g2)]) (rest := [(.ref bo7)]) (lenOf pd__IZ_Lcom_example_lassoo_lassoo_lang_NormalFormula_ rfl) rfl (by show 2 * 0 + _ ≤ _; exact Nat.le_of_eq rfl) (hb hby at_105) (fun _ _ => ⟨rfl, rfl, (by decide : 4 + 1 ≤ _), (by decide : 25 + 6 ≤ _)⟩)
    dsimp only [Pt.U, Pt.locs, Pt.cells, Pt.slots] at Xk152 lk152 yk152 zk152 stk152 hQk152
    subst lk152 yk152 zk152
    obtain ⟨bk152, rfl, Nk152q, Kk152q, Gk152_0, Qk152_0, Qk152_1, Qk152_2⟩ := hQk152
    have Y153 : h0.size ≤ Tk148.heap.size := (Nat.le_trans (Nat.le_trans Y137 Kk136q.1) Kk148q.1)
    have g_bk152 : n0 ≤ bk152 := Nat.le_trans Z150 Gk152_0
    have y_bk152 : h0.size ≤ bk152 := Nat.le_trans Y153 Gk152_0
    have K154 : Keep h0 Tk152.heap [] := K149.trans Kk152q all0
    have Nk152 := Fr.app Nk148 Nk152q
    have F155 := ((F139.keep Kk148q).keep Kk152q)
    have F156 := (Qk148_0.keep Kk152q nin0)
    have F157 := (Qk148_1.keep Kk152q nin0)
    have F158 := (Qk148_2.keep Kk152q nin0)
    have F159 := (Qk148_3.keep Kk152q nin0)
    have F160 := F144
    have Z161 : n0 ≤ Tk152.heap.size := (Nat.le_trans Z150 Kk152q.1)
    have O162 : Old Z n0 Tk152.heap := (O151.keep Kk152q all0)
    obtain ⟨cqk163, kqk163, qk163a, qk163b, qk163c⟩ := isOf hZ rfl F155
    obtain ⟨_, _, ⟨Tk163, Lk163, kk163, nk163⟩, -, Xk163, ⟨Lck163, hQk163, lk163, yk163, zk163⟩, stk163⟩ := Xk152.virtualBack hx (y := Y11) (z := Y11) hown (mvT hZ (tw hw 145 rfl)) (mvT hZ (tw hw 146 rfl)) (notFace_of_selects (args := #[]) (mvT hZ (tw hw 148 rfl))) (mvT hZ (tw hw 148 rfl)) (mvT hZ (tw hw 147 rfl)) (by decide) (backOf (W := 0) (rm_add_2 l Z a0 hw [] bo7 bk152 bk131 kk131 (2 : Int32) (3 : Int32) bk122 bk136 aD kD aL aC Tk152.heap n0 Z161 O162 F155 F156 F157 F158 (Ins.of_exa Qk152_0 (tw hw 172 rfl)) F159 F160 ⟨S_DEF, V_DEF, S_LIT, E_LIT, O_LIT, S_HI, S_CA, C_CA⟩ g_bo7 g_bk131 ne145 (by decide)) hZ (tw hw 149 rfl) (tw hw 2 rfl) (by decide) (by decide)) qk163a qk163c (g := (mkF m 108 #[.val (.int p1), .val (.int p2), .val (.int p3), .val (.int p4), .val (.int p5), .val (.int (3 : Int32)), .val (.int g0), .val (.int g1), .val (.int g2), .val (.ref bo7), .unset, .unset, .unset, .unset, .unset, .unset] [(.ref bk152), (.ref bo7)])) rfl (by rw [hml]; rfl) (Steps.refl _) (argsL := [(.ref bk152)]) (rest := []) (lenOf pd__Ljava_lang_Object__Z rfl) rfl (by show 2 * 0 + _ ≤ _; exact Nat.le_of_eq rfl) (hb hby at_108) (fun _ _ => ⟨rfl, rfl, (by decide : 5 + 0 ≤ _), (by decide : 31 + 0 ≤ _)⟩)
    dsimp only [Pt.U, Pt.locs, Pt.cells, Pt.slots] at Xk163 lk163 yk163 zk163 stk163 hQk163
    subst lk163 yk163 zk163
    obtain ⟨rfl, Nk163q, Kk163q, Qk163_0, Qk163_1, Qk163_2, Qk163_3⟩ := hQk163
    have K164 : Keep h0 Tk163.heap [] := K154.trans Kk163q (allS (P := fun x => x ∈ ([] : List Addr) ∨ h0.size ≤ x) (Or.inr y_bo7) (allS (P := fun x => x ∈ ([] : List Addr) ∨ h0.size ≤ x) (Or.inr y_bk131) all0))
    have Nk163 := Fr.app Nk152 Nk163q
    obtain ⟨To165, ho165, Xo165, eo165, Eo165, Ao165, Do165, -, sto165⟩ := newO Xk163 hx hZ hown (tw hw 26 rfl) (tw hw 27 rfl) (tw hw 28 rfl) rfl (g := (mkF m 112 #[.val (.int p1), .val (.int p2), .val (.int p3), .val (.int p4), .val (.int p5), .val (.int (3 : Int32)), .val (.int g0), .val (.int g1), .val (.int g2), .val (.ref bo7), .unset, .unset, .unset, .unset, .unset, .unset] [])) rfl (hb hby at_112) (by decide) (by decide)
    obtain ⟨bo165, go165⟩ : ∃ z, z = Tk163.heap.size := ⟨_, rfl⟩
    rw [← go165] at Ao165 Do165 sto165
    have Z166 : n0 ≤ Tk163.heap.size := (Nat.le_trans Z161 Kk163q.1)
    have Y167 : h0.size ≤ Tk163.heap.size := (Nat.le_trans (Nat.le_trans Y153 Kk152q.1) Kk163q.1)
    have g_bo165 : n0 ≤ bo165 := Nat.le_trans Z166 (Nat.le_of_eq go165.symm)
    have y_bo165 : h0.size ≤ bo165 := Nat.le_trans Y167 (Nat.le_of_eq go165.symm)
    have K168 : Keep h0 ho165 [] := K164.ext Eo165
    have Fo165_positive : Fld Z ho165 bo165 S8 "positive" "[I" .null := Do165 (Or.inr (tw hw 88 rfl)) (ty := (.array .int)) (by decide)
    have Fo165_negative : Fld Z ho165 bo165 S8 "negative" "[I" .null := Do165 (Or.inr (tw hw 90 rfl)) (ty := (.array .int)) (by decide)
    have Fo165_target : Fld Z ho165 bo165 S8 "target" "I" (.int (0 : Int32)) := Do165 (Or.inr (tw hw 92 rfl)) (ty := .int) (by decide)
    have F169 := ((F155.keep Kk163q).ext Eo165)
    have F170 := (Qk163_0.ext Eo165)
    have F171 := (Qk163_1.ext Eo165)
    have F172 := (Qk163_2.ext Eo165)
    have F173 := (Qk163_3.ext Eo165)
    have F174 := ((((((Qk122_0.keep Kk131q).keep Kk136q).keep Kk148q).keep Kk152q).keep Kk163q).ext Eo165)
    have ne175 : bk122 ≠ bo7 := ne_exa F174 F169 (by decide)
    have ne176 : bk122 ≠ bk131 := Exa.neArv ((((((Qk122_0.keep Kk131q).keep Kk136q).keep Kk148q).keep Kk152q).keep Kk163q).ext Eo165) F173 (tw hw 116 rfl)
    have F177 := ((((((Qk122_1.keep Kk131q (ninS ne175 nin0)).keep Kk136q nin0).keep Kk148q (ninS ne175 (ninS ne176 nin0))).keep Kk152q nin0).keep Kk163q (ninS ne175 (ninS ne176 nin0))).ext Eo165)
    have F178 := ((((((Qk122_2.keep Kk131q (ninS ne175 nin0)).keep Kk136q nin0).keep Kk148q (ninS ne175 (ninS ne176 nin0))).keep Kk152q nin0).keep Kk163q (ninS ne175 (ninS ne176 nin0))).ext Eo165)
    have F179 := ((((Qk136_0.keep Kk148q).keep Kk152q).keep Kk163q).ext Eo165)
    have ne180 : bk136 ≠ bk131 := Exa.neArv ((((Qk136_0.keep Kk148q).keep Kk152q).keep Kk163q).ext Eo165) F173 (tw hw 116 rfl)
    have ne181 : bk136 ≠ bo7 := ne_exa F179 F169 (by decide)
    have F182 := ((((Qk136_1.keep Kk148q (ninS ne181 (ninS ne180 nin0))).keep Kk152q nin0).keep Kk163q (ninS ne181 (ninS ne180 nin0))).ext Eo165)
    have F183 := ((((Qk136_2.keep Kk148q (ninS ne181 (ninS ne180 nin0))).keep Kk152q nin0).keep Kk163q (ninS ne181 (ninS ne180 nin0))).ext Eo165)
    have F184 := ((Qk152_0.keep Kk163q).ext Eo165)
    have ne185 : bk152 ≠ bk131 := Exa.neArv ((Qk152_0.keep Kk163q).ext Eo165) F173 (tw hw 116 rfl)
    have ne186 : bk152 ≠ bo7 := ne_exa F184 F169 (by decide)
    have F187 := ((Qk152_1.keep Kk163q (ninS ne186 (ninS ne185 nin0))).ext Eo165)
    have F188 := ((Qk152_2.keep Kk163q (ninS ne186 (ninS ne185 nin0))).ext Eo165)
    have Z189 : n0 ≤ ho165.size := (Nat.le_trans Z166 Eo165.1)
    have O190 : Old Z n0 ho165 := ((O162.keep Kk163q (allS g_bo7 (allS g_bk131 all0))).ext Eo165)
    obtain ⟨_, _, ⟨Tk191, Lk191, kk191, nk191⟩, -, Xk191, ⟨Lck191, hQk191, lk191, yk191, zk191⟩, stk191⟩ := Xo165.specialBack hx (y := Y35) rfl hown (mvT hZ (tw hw 29 rfl)) (mvT hZ (tw hw 30 rfl)) (mvT hZ (tw hw 31 rfl)) (by decide) (backOf (W := 1) (rm_trinit3 l Z a0 hw [] bo165 p5 bo7 (3 : Int32) bk131 kk131 bk122 bk136 bk152 p2 p3 p4 g0 g1 g2 (Int32.ofNat (own_f g0 (0 : Int32) p2 ++ own_f g1 (0 : Int32) p3 ++ own_f g2 (0 : Int32) p4).length) (own_f g0 (0 : Int32) p2 ++ own_f g1 (0 : Int32) p3 ++ own_f g2 (0 : Int32) p4) (Int32.ofNat (own_f g0 (1 : Int32) p2 ++ own_f g1 (1 : Int32) p3 ++ own_f g2 (1 : Int32) p4).length) (own_f g0 (1 : Int32) p2 ++ own_f g1 (1 : Int32) p3 ++ own_f g2 (1 : Int32) p4) aD kD aL aC ho165 n0 Z189 O190 F169 F170 F171 F172 F173 F174 F177 F178 F179 F182 F183 F184 F187 F188 Ao165 Fo165_positive Fo165_negative Fo165_target ⟨S_DEF, V_DEF, S_LIT, E_LIT, O_LIT, S_HI, S_CA, C_CA⟩ g_bo165 hg0 hg1 hg2 rfl rfl rfl rfl) hZ (tw hw 31 rfl) (tw hw 28 rfl) (by decide) (by decide)) (g := (mkF m 120 #[.val (.int p1), .val (.int p2), .val (.int p3), .val (.int p4), .val (.int p5), .val (.int (3 : Int32)), .val (.int g0), .val (.int g1), .val (.int g2), .val (.ref bo7), .unset, .unset, .unset, .unset, .unset, .unset] [(.int p5), (.ref bo7), (.ref bo165), (.ref bo165)])) rfl (by rw [hml]; rfl) (Steps.refl _) (a := bo165) (argsL := [(.ref bo7), (.int p5)]) (rest := [(.ref bo165)]) (lenOf pd__Ljava_util_Collection_I_V rfl) rfl (by show 2 * 0 + _ ≤ _; exact Nat.le_of_eq rfl) (hb hby at_120) (fun _ _ => ⟨rfl, eo165, (by decide : 6 + 14 ≤ _), (by decide : 34 + 46 ≤ _)⟩)
    dsimp only [Pt.U, Pt.locs, Pt.cells, Pt.slots] at Xk191 lk191 yk191 zk191 stk191 hQk191
    subst lk191 yk191 zk191
    obtain ⟨b1k191, k1k191, b2k191, k2k191, rfl, Nk191q, Kk191q, Gk191_0, Gk191_1, Qk191_0, Qk191_1, Qk191_2, Qk191_3, Qk191_4, Qk191_5, Mk191_0⟩ := hQk191
    have Y192 : h0.size ≤ ho165.size := (Nat.le_trans Y167 Eo165.1)
    have g_b1k191 : n0 ≤ b1k191 := Nat.le_trans Z189 Gk191_0
    have y_b1k191 : h0.size ≤ b1k191 := Nat.le_trans Y192 Gk191_0
    have g_b2k191 : n0 ≤ b2k191 := Nat.le_trans Z189 Gk191_1
    have y_b2k191 : h0.size ≤ b2k191 := Nat.le_trans Y192 Gk191_1
    have K193 : Keep h0 Tk191.heap [] := K168.trans Kk191q (allS (P := fun x => x ∈ ([] : List Addr) ∨ h0.size ≤ x) (Or.inr y_bo165) all0)
    have Nk191 := Fr.app Nk163 Nk191q
    have r194 : ∀ t_, Sp p e below Tk191 (mkF m 123 #[.val (.int p1), .val (.int p2), .val (.int p3), .val (.int p4), .val (.int p5), .val (.int (3 : Int32)), .val (.int g0), .val (.int g1), .val (.int g2), .val (.ref bo7), .unset, .unset, .unset, .unset, .unset, .unset] [(.ref bo165)]) t_ → Sp p e below s₁ (entryFrame m #[(.int p1), (.int p2), (.int p3), (.int p4), (.int p5)] maxLocals) t_ := by
      intro t_ k_
      refine r13 _ ?_
      refine XS.iload Xk11.here hx rfl (hb hby at_59) rfl ?_
      refine XS.ifNo Xk11.here hx rfl (hb hby at_61) rfl ((if0 _ _).trans (tlt (by decide : (0 : Int32) < (3 : Int32))).2.2.2) ?_
      refine XS.aload Xk11.here hx rfl (hb hby at_64) rfl rfl ?_
      refine XS.iloadN Xk11.here hx rfl (hb hby at_66) rfl ?_
      refine XS.iload Xk11.here hx rfl (hb hby at_67) rfl ?_
      refine stk122 _ ?_
      refine stk131.trans ?_
      refine XS.pop Xk131.here hx rfl (hb hby at_75) rfl rfl ?_
      refine XS.iload Xk131.here hx rfl (hb hby at_76) rfl ?_
      refine XS.iconst Xk131.here hx rfl (hb hby at_78) ?_
      refine XS.icmpNo Xk131.here hx rfl (hb hby at_79) rfl (tlt (by decide : (1 : Int32) < (3 : Int32))).2.2.2 ?_
      refine XS.aload Xk131.here hx rfl (hb hby at_82) rfl rfl ?_
      refine XS.iloadN Xk131.here hx rfl (hb hby at_84) rfl ?_
      refine XS.iload Xk131.here hx rfl (hb hby at_85) rfl ?_
      refine stk136 _ ?_
      refine stk148.trans ?_
      refine XS.pop Xk148.here hx rfl (hb hby at_93) rfl rfl ?_
      refine XS.iload Xk148.here hx rfl (hb hby at_94) rfl ?_
      refine XS.iconst Xk148.here hx rfl (hb hby at_96) ?_
      refine XS.icmpNo Xk148.here hx rfl (hb hby at_97) rfl (tlt (by decide : (2 : Int32) < (3 : Int32))).2.2.2 ?_
      refine XS.aload Xk148.here hx rfl (hb hby at_100) rfl rfl ?_
      show Sp p e below Tk148 (mkF m 102 #[.val (.int p1), .val (.int p2), .val (.int p3), .val (.int p4), .val (.int p5), .val (.int (3 : Int32)), .val (.int g0), .val (.int g1), .val (.int g2), .val (.ref bo7), .unset, .unset, .unset, .unset, .unset, .unset] [(.ref bo7)]) _
      refine XS.iloadN Xk148.here hx rfl (hb hby at_102) rfl ?_
      refine XS.iload Xk148.here hx rfl (hb hby at_103) rfl ?_
      refine stk152 _ ?_
      refine stk163.trans ?_
      refine XS.pop Xk163.here hx rfl (hb hby at_111) rfl rfl ?_
      refine sto165 _ ?_
      refine XS.dup Xo165.here hx rfl (hb hby at_115) rfl rfl ?_
      refine XS.aload Xo165.here hx rfl (hb hby at_116) rfl rfl ?_
      refine XS.iload Xo165.here hx rfl (hb hby at_118) rfl ?_
      refine stk191.trans ?_
      show Sp p e below Tk191 (mkF m 123 #[.val (.int p1), .val (.int p2), .val (.int p3), .val (.int p4), .val (.int p5), .val (.int (3 : Int32)), .val (.int g0), .val (.int g1), .val (.int g2), .val (.ref bo7), .unset, .unset, .unset, .unset, .unset, .unset] [(.ref bo165)]) _
      exact k_
    have F195 := (Ao165.keep Kk191q)
    have Z196 : n0 ≤ Tk191.heap.size := (Nat.le_trans Z189 Kk191q.1)
    have O197 : Old Z n0 Tk191.heap := (O190.keep Kk191q (allS g_bo165 all0))
    obtain ⟨s₂, o, q1, q2, q3, q4⟩ := tl_tail p l e s m _ below meth c _ _ Z a0 hw p1 p2 p3 p4 p5 (3 : Int32) g0 g1 g2 bo7 bo165 b1k191 k1k191 (Int32.ofNat (own_f g0 (0 : Int32) p2 ++ own_f g1 (0 : Int32) p3 ++ own_f g2 (0 : Int32) p4).length) (own_f g0 (0 : Int32) p2 ++ own_f g1 (0 : Int32) p3 ++ own_f g2 (0 : Int32) p4) b2k191 k2k191 (Int32.ofNat (own_f g0 (1 : Int32) p2 ++ own_f g1 (1 : Int32) p3 ++ own_f g2 (1 : Int32) p4).length) (own_f g0 (1 : Int32) p2 ++ own_f g1 (1 : Int32) p3 ++ own_f g2 (1 : Int32) p4) aD kD aL aC Tk191.heap n0 (Xk191.more (by decide) (by decide)) hx hZ hby hml hown hret (BodyLoose.notSynchronized Bd) rfl Nk191 Z196 O197 F195 Qk191_0 Qk191_1 Qk191_2 Qk191_3 Qk191_4 Qk191_5 (by decide) (by simp [own_sel]) rfl (by simp [own_sel]) rfl Mk191_0
    exact ⟨s₂, o, r194 _ q1, q2, q3, q4⟩
theorem own_len {args : Array Value} {Z : State} {t : Term} {n : Int32} {x : Addr} {cl : Cell} {ty : FieldType} (ev : t.eval args Z none [] Z = some (.ref x)) (A : Arr Z Z.heap x cl ty) (h : (Jvm.Cond.eq (.length t) (.int n)).before args Z = true) : cl.slots.size < 2 ^ 31 ∧ cl.slots.size.toInt32 = n := Jvm.Free.IntBox.length_fwd h ev A.1 A.2.1 A.2.2
theorem own_eqint {args : Array Value} {Z : State} {a : Term} {k : Int32} {idx : List Nat} {b : Term} (hb : b.eval args Z none idx Z = some (.int k)) (h : (Jvm.Cond.eq a b).value args Z none Z idx = some true) : a.eval args Z none idx Z = some (.int k) := by
  obtain ⟨u, w, e1, e2, -, -⟩ := cmp_v (Or.inl h)
  cases hb.symm.trans e2
  simp only [Jvm.Cond.value, e1, e2] at h
  cases u <;> simp_all
theorem own_cache_of {args : Array Value} {Z : State} {aC : Addr} (hA : (Jvm.Cond.arrayOf (.static "java/lang/Integer$IntegerCache" "cache" "[Ljava/lang/Integer;") (.object S0)).value args Z none Z [] = some true) (ev : (Term.static "java/lang/Integer$IntegerCache" "cache" "[Ljava/lang/Integer;").eval args Z none [] Z = some (.ref aC))
    (hL : (Jvm.Cond.eq (.length (.static "java/lang/Integer$IntegerCache" "cache" "[Ljava/lang/Integer;")) (.int 256)).before args Z = true)
    (hall : (Jvm.Cond.all (.static "java/lang/Integer$IntegerCache" "cache" "[Ljava/lang/Integer;") (.and (.exactly (.elem (.static "java/lang/Integer$IntegerCache" "cache" "[Ljava/lang/Integer;") (.index 0)) S0) (.eq (.field (.elem (.static "java/lang/Integer$IntegerCache" "cache" "[Ljava/lang/Integer;") (.index 0)) S0 "value" "I") (.sub (.index 0) (.int 128))))).value args Z none Z [] = some true) : own_cache Z aC := by
  obtain ⟨cl, A⟩ := Arr.start ev hA
  have hat := A.fin (Vm.Alike.refl _)
  obtain ⟨hs, hl⟩ := own_len ev A hL
  have hsz : cl.slots.size = 256 := by
    have e := len_toInt hs
    rw [hl] at e
    have e2 : (256 : Int32).toInt = 256 := by decide
    omega
  refine ⟨cl, A, hsz, fun j h0 h1 => ?_⟩
  have hi : j.toNatClampNeg < cl.slots.size := by
    rw [hsz]
    rw [Int32.lt_iff_toInt_lt] at h0 h1
    have e2 : (256 : Int32).toInt = 256 := by decide
    have e0 : (0 : Int32).toInt = 0 := by decide
    simp only [Int32.toNatClampNeg]
    omega
  obtain ⟨k1, k2⟩ := and_e (Cond.all_elim ev hat hall _ hi)
  obtain ⟨x, ex⟩ := exa_v k1
  have evi : (Term.static "java/lang/Integer$IntegerCache" "cache" "[Ljava/lang/Integer;").eval args Z none [j.toNatClampNeg] Z = some (.ref aC) := ev
  have hj : (Term.index 0).eval args Z none [j.toNatClampNeg] Z = some (.int j) := idx_at h0
  have hx := elem_f evi hj hat h0
  refine ⟨x, hx.symm.trans ex, exa_at ex k1, Fld.start ?_⟩
  have hsub : (Term.sub (.index 0) (.int 128)).eval args Z none [j.toNatClampNeg] Z = some (.int (j - 128)) := by
    simp only [Term.eval] at hj ⊢
    simp_all
  rw [← fld_at ex]
  exact own_eqint hsub k2
set_option maxRecDepth 65536 in
set_option maxHeartbeats 40000000 in
theorem comes_1 {Post : Tables → Env → Array Value → State → Outcome → State → Prop} (hpost : ∀ tb e args s v u, (limb_1_1.after args s (.returned v) u = true ∧ limb_1_2.after args s (.returned v) u = true ∧ True) → FrameEnd s (.returned v) u (Jvm.fieldLocs frame_1_writes args s ++ Jvm.arrayLocs frame_1_arrays args s ++ Jvm.staticLocs frame_1_statics s) 64 256 → Post tb e args s (.returned v) u) :
    ArmFor flags0 classFile x code maxLocals ret World_1 tables_1 room_1 Calls_1 rest_1 Pre_1 Post := by
  intro l hfl _ _ p e ha hc hk s m args below hf hA hF happ hP
  obtain ⟨hcalls, hrest, hpre⟩ := hP
  obtain ⟨-, -, -, hnamed, -, -, -, hat⟩ := (Spec.applies_iff hf).mp happ
  obtain ⟨hg, hn⟩ := and_e (Cond.before_iff.mp (show (Jvm.Cond.and given_1 narrow_1).before args s = true from hpre))
  obtain ⟨hcount, hg0⟩ := and_e hg
  obtain ⟨w0, w1, w2, w3, w4, rfl⟩ : ∃ w0 w1 w2 w3 w4 : Value, args = #[w0, w1, w2, w3, w4] := by
    have hs : args.size = 5 := by simpa [Cond.value, given_1] using hcount
    obtain ⟨L⟩ := args
    match L, hs with
    | [w0, w1, w2, w3, w4], _ => exact ⟨w0, w1, w2, w3, w4, rfl⟩
  obtain ⟨ha0, hg1⟩ := and_e hg0
  obtain ⟨i0, ei0⟩ := is_v ha0
  obtain rfl : w0 = (.int i0) := Option.some.inj ei0
  obtain ⟨ha1, hg2⟩ := and_e hg1
  obtain ⟨i1, ei1⟩ := is_v ha1
  obtain rfl : w1 = (.int i1) := Option.some.inj ei1
  obtain ⟨ha2, hg3⟩ := and_e hg2
  obtain ⟨i2, ei2⟩ := is_v ha2
  obtain rfl : w2 = (.int i2) := Option.some.inj ei2
  obtain ⟨ha3, hg4⟩ := and_e hg3
  obtain ⟨i3, ei3⟩ := is_v ha3
  obtain rfl : w3 = (.int i3) := Option.some.inj ei3
  obtain ⟨i4, ei4⟩ := is_v hg4
  obtain rfl : w4 = (.int i4) := Option.some.inj ei4
  have hw := fun d (hd : d ∈ tables_1) => atoms_spec (ws := Jvm.Cond.code x code maxLocals ret :: tables_1) hat d (List.mem_cons_of_mem _ hd)
  have hfit : Fit s := fun {y c} hc i hi => by
    obtain ⟨ha, rfl⟩ := Array.getElem?_eq_some_iff.mp hc
    have q := List.all_eq_true.mp ((Array.all_eq_true_iff_forall_mem.mp hF) _ (Array.getElem_mem ha)) i (List.mem_range.mpr hi)
    simpa [Array.getElem?_eq_getElem hi] using q
  obtain ⟨hsets, hown0⟩ := atoms_of _ (rest_1_c_eq ▸ (show rest_1_c.before _ s = true from hrest))
  have hr0 := Cond.before_iff.mp hown0
  obtain ⟨nw0, hn0⟩ := and_e hn
  have nw1 := hn0
  obtain ⟨aD, evD⟩ := arr_v (Cond.before_iff.mp (hsets _ (List.mem_of_getElem? (i := 6) rfl)))
  have S_DEF := Sta.start evD (Or.inr ⟨(tw hw 2 rfl), (hsets _ (List.mem_of_getElem? (i := 2) rfl))⟩)
  obtain ⟨clD, ArD⟩ := Arr.start evD (Cond.before_iff.mp (hsets _ (List.mem_of_getElem? (i := 6) rfl)))
  obtain ⟨szD, lnD⟩ := own_len evD ArD (hsets _ (List.mem_of_getElem? (i := 8) rfl))
  have V_DEF : Arv s s.heap aD clD.cls (.object S3) (0 : Int32) [] .null := Arv.start hfit ArD szD lnD (by decide) (by decide) trivial
  obtain ⟨aL, evL⟩ := exa_v nw0
  have S_LIT := Sta.start evL (Or.inr ⟨(tw hw 118 rfl), (tw hw 119 rfl)⟩)
  have E_LIT := Exa.start evL nw0
  have O_LIT := own_fld evL nw1
  have evH := own_eqint (Term.int_eval (127 : Int32)) (Cond.before_iff.mp (hsets _ (List.mem_of_getElem? (i := 12) rfl)))
  have S_HI := Sta.start evH (Or.inl (hsets _ (List.mem_of_getElem? (i := 10) rfl)))
  obtain ⟨aC, evC⟩ := arr_v (Cond.before_iff.mp (hsets _ (List.mem_of_getElem? (i := 13) rfl)))
  have S_CA := Sta.start evC (Or.inr ⟨(tw hw 204 rfl), (hsets _ (List.mem_of_getElem? (i := 11) rfl))⟩)
  have C_CA := own_cache_of (Cond.before_iff.mp (hsets _ (List.mem_of_getElem? (i := 13) rfl))) evC (hsets _ (List.mem_of_getElem? (i := 15) rfl)) (Cond.before_iff.mp (hsets _ (List.mem_of_getElem? (i := 16) rfl)))
  obtain ⟨n, o, h1, h2, h3, _, L, rfl, ⟨rfl, N⟩, hq⟩ := rm_law l s _ hw tables_1 i0 i1 i2 i3 i4 aD clD.cls aL aC s.heap s.heap.size (Nat.le_refl _) (Old.start s) ⟨S_DEF, V_DEF, S_LIT, E_LIT, O_LIT, S_HI, S_CA, C_CA⟩ p e ha hc hk s m _ below hf ((Spec.applies_iff_loose hf).mp happ).1 ⟨rfl, State.Warmed39.refl s, rfl⟩ trivial
  refine ⟨n, _, h1, h2, h3, hpost _ _ _ _ _ _ ⟨Cond.after_iff.mpr rfl, Cond.after_iff.mpr (eq_i res_at (Term.int_eval (1)) rfl), trivial⟩ ⟨hq.1, hq.2.1, (hq.2.2.sift fun y hy => Or.inr (N y hy)).mono (by decide) (by decide)⟩⟩
theorem main_1_1 : Claimed_1_1 := comes_1 fun _ _ _ _ _ _ h hF => ⟨h.1, hF⟩
theorem main_1_2 : Claimed_1_2 := comes_1 fun _ _ _ _ _ _ h hF => ⟨h.2.1, hF⟩
end Jvm.Pilot.@@N@@
namespace Jvm.Pilot.@@N@@
open Jvm Jvm.ClassFile Sem Op Lib Jvm.Free Jvm.Stand Jvm.Pilot.@@N@@.Jvm.D
/-! MADE BY PROGRAM (witnessworld.py) out of the Statement's table words and the real class files: 33 classes; the members and pool entries that the words name. The judged class is class 1, her method 1. -/
namespace start1
open Jvm.ClassFile
def u (s : String) : CpInfo := .utf8 (stringToUtf16 s)
/-- a pool by its gaps: so many unusable entries, then the entry; so many at the end -/
def gap : Nat → List CpInfo → List CpInfo
  | 0, r => r
  | n + 1, r => .unusable :: gap n r
def poolList (es : List (Nat × CpInfo)) (last : Nat) : List CpInfo := es.foldr (fun e r => gap e.1 (e.2 :: r)) (gap last [])
def pool (es : List (Nat × CpInfo)) (last : Nat) : Array CpInfo := ⟨poolList es last⟩
def fileOf (pool : Array CpInfo) (this : Nat) (attrs : Array Attribute := #[]) (ms : Array MethodInfo := #[]) (fl : Nat := 33) (sup : Nat := 0) (ifs : Array Nat := #[]) (fds : Array FieldInfo := #[]) : ClassFile where
  minorVersion := 0
  majorVersion := 65
  constantPool := pool
  accessFlags := fl
  thisClass := this
  superClass := sup
  interfaces := ifs
  fields := fds
  methods := ms
  attributes := attrs
def plain (name : String) (sup : Option ClassId) : Class where
  name := name
  kind := .ordinary
  loader := none
  accessFlags := 33
  super := sup
  interfaces := #[]
  cf := none
  fields := #[]
  methods := #[]
  instanceTypes := #[]
  staticTypes := #[]
  resolved := #[]
  callSites := []
  init := .initialized
  statics := none
  mirror := none

def pool0 : Array CpInfo := pool [(5, u "<init>"), (0, u "()V"), (1, .class_ 10), (1, u "java/lang/Object"), (85, u "clone"), (0, u "()Ljava/lang/Object;")] 26

def k0c0 : Code := { maxStack := 0, maxLocals := 1, code := object_method_1_code, exceptionTable := #[], attributes := #[] }
def k0m0 : Method := { name := "<init>", desc := "()V", sig := { parameters := [], returnType := none }, accessFlags := 1, code := some k0c0 }
def k0m1 : Method := { name := "clone", desc := "()Ljava/lang/Object;", sig := { parameters := [], returnType := some (.object "java/lang/Object") }, accessFlags := 260, code := none }
/-- java/lang/Object -/
def k0 : Class := { plain "java/lang/Object" none with
  accessFlags := 33
  interfaces := #[]
  cf := some (fileOf pool0 8 #[] #[{ accessFlags := 1, nameIndex := 5, descriptorIndex := 6, attributes := #[] }, { accessFlags := 260, nameIndex := 96, descriptorIndex := 97, attributes := #[] }] 33 0 #[] #[])
  fields := #[]
  methods := #[k0m0, k0m1]
  instanceTypes := #[]
  staticTypes := #[]
  resolved := Array.replicate 124 none
  statics := none }

def pool1 : Array CpInfo := pool [(2, .class_ 4), (0, .nameAndType 5 6), (0, u "java/lang/Object"), (0, u "<init>"), (0, u "()V"), (0, .class_ 8), (0, u "java/util/ArrayList"), (0, .methodref 7 3), (0, .methodref 11 12), (0, .class_ 13), (0, .nameAndType 14 15), (0, u "com/example/lassoo/lassoo/lang/NormalFormula"), (0, u "literal"), (0, u "(IZ)Lcom/example/lassoo/lassoo/lang/NormalFormula;"), (0, .methodref 7 17), (0, .nameAndType 18 19), (0, u "add"), (0, u "(Ljava/lang/Object;)Z"), (0, .class_ 21), (0, u "com/example/lassoo/lassoo/lang/BuchiAutomaton$Transition"), (0, .methodref 20 23), (0, .nameAndType 5 24), (0, u "(Ljava/util/Collection;I)V"), (0, .methodref 20 26), (0, .nameAndType 27 28), (0, u "literals"), (0, u "(Z)[I"), (0, .methodref 30 31), (0, .class_ 32), (0, .nameAndType 33 34), (0, u "com/example/lassoo/lassoo/lang/TransitionLiteralsPinLaw"), (0, u "matches"), (0, u "([IIIIIZZZZ)Z"), (2, u "law"), (0, u "(IIIII)Z")] 9

def k1m0 : Method := { name := "<init>", desc := "()V", sig := { parameters := [], returnType := none }, accessFlags := 1, code := none }
def k1c1 : Code := { maxStack := 9, maxLocals := 16, code := code, exceptionTable := #[], attributes := #[] }
def k1m1 : Method := { name := "law", desc := "(IIIII)Z", sig := { parameters := [.int, .int, .int, .int, .int], returnType := some .boolean }, accessFlags := 9, code := some k1c1 }
def k1c2 : Code := { maxStack := 3, maxLocals := 11, code := method_3_code, exceptionTable := #[], attributes := #[] }
def k1m2 : Method := { name := "matches", desc := "([IIIIIZZZZ)Z", sig := { parameters := [(.array .int), .int, .int, .int, .int, .boolean, .boolean, .boolean, .boolean], returnType := some .boolean }, accessFlags := 10, code := some k1c2 }
/-- com/example/lassoo/lassoo/lang/TransitionLiteralsPinLaw -/
def k1 : Class := { plain "com/example/lassoo/lassoo/lang/TransitionLiteralsPinLaw" (some 0) with
  accessFlags := 49
  interfaces := #[]
  cf := some (fileOf pool1 30 #[] #[{ accessFlags := 1, nameIndex := 5, descriptorIndex := 6, attributes := #[] }, { accessFlags := 9, nameIndex := 37, descriptorIndex := 38, attributes := #[] }, { accessFlags := 10, nameIndex := 33, descriptorIndex := 34, attributes := #[] }] 49 2 #[] #[])
  fields := #[]
  methods := #[k1m0, k1m1, k1m2]
  instanceTypes := #[]
  staticTypes := #[]
  resolved := Array.replicate 48 none
  statics := none }

def pool2 : Array CpInfo := pool [(8, .class_ 10), (1, u "java/lang/Iterable"), (24, .class_ 36), (0, u "java/lang/Object")] 25

/-- java/lang/Iterable -/
def k2 : Class := { plain "java/lang/Iterable" (some 0) with
  accessFlags := 1537
  interfaces := #[]
  cf := some (fileOf pool2 8 #[] #[] 1537 35 #[] #[])
  fields := #[]
  methods := #[]
  instanceTypes := #[]
  staticTypes := #[]
  resolved := Array.replicate 62 none
  statics := none }

def pool3 : Array CpInfo := pool [(10, .class_ 12), (1, u "java/util/Collection"), (10, u "iterator"), (0, u "()Ljava/util/Iterator;"), (35, .class_ 61), (0, u "java/lang/Object"), (0, .class_ 63), (0, u "java/lang/Iterable")] 51

def k3m0 : Method := { name := "iterator", desc := "()Ljava/util/Iterator;", sig := { parameters := [], returnType := some (.object "java/util/Iterator") }, accessFlags := 1025, code := none }
/-- java/util/Collection -/
def k3 : Class := { plain "java/util/Collection" (some 0) with
  accessFlags := 1537
  interfaces := #[2]
  cf := some (fileOf pool3 10 #[] #[{ accessFlags := 1025, nameIndex := 23, descriptorIndex := 24, attributes := #[] }] 1537 60 #[62] #[])
  fields := #[]
  methods := #[k3m0]
  instanceTypes := #[]
  staticTypes := #[]
  resolved := Array.replicate 115 none
  statics := none }

def pool4 : Array CpInfo := pool [(1, .methodref 2 3), (0, .class_ 4), (0, .nameAndType 5 6), (0, u "java/lang/Object"), (0, u "<init>"), (0, u "()V"), (1, .class_ 10), (1, u "java/util/AbstractCollection"), (66, .class_ 78), (0, u "java/util/Collection")] 81

def k4c0 : Code := { maxStack := 1, maxLocals := 1, code := jdk_22_method_1_code, exceptionTable := #[], attributes := #[] }
def k4m0 : Method := { name := "<init>", desc := "()V", sig := { parameters := [], returnType := none }, accessFlags := 4, code := some k4c0 }
/-- java/util/AbstractCollection -/
def k4 : Class := { plain "java/util/AbstractCollection" (some 0) with
  accessFlags := 1057
  interfaces := #[3]
  cf := some (fileOf pool4 8 #[] #[{ accessFlags := 4, nameIndex := 5, descriptorIndex := 6, attributes := #[] }] 1057 2 #[77] #[])
  fields := #[]
  methods := #[k4m0]
  instanceTypes := #[]
  staticTypes := #[]
  resolved := Array.replicate 160 none
  statics := none }

def pool5 : Array CpInfo := pool [(8, .class_ 10), (1, u "java/util/SequencedCollection"), (15, .class_ 27), (0, u "java/lang/Object"), (0, .class_ 29), (0, u "java/util/Collection")] 27

/-- java/util/SequencedCollection -/
def k5 : Class := { plain "java/util/SequencedCollection" (some 0) with
  accessFlags := 1537
  interfaces := #[3]
  cf := some (fileOf pool5 8 #[] #[] 1537 26 #[28] #[])
  fields := #[]
  methods := #[]
  instanceTypes := #[]
  staticTypes := #[]
  resolved := Array.replicate 57 none
  statics := none }

def pool6 : Array CpInfo := pool [(8, .class_ 10), (1, u "java/util/List"), (49, u "add"), (3, u "(Ljava/lang/Object;)Z"), (10, u "get"), (0, u "(I)Ljava/lang/Object;"), (2, u "size"), (0, u "()I"), (22, .class_ 104), (0, u "java/lang/Object"), (15, .class_ 121), (0, u "java/util/SequencedCollection")] 129

def k6m0 : Method := { name := "size", desc := "()I", sig := { parameters := [], returnType := some .int }, accessFlags := 1025, code := none }
def k6m1 : Method := { name := "add", desc := "(Ljava/lang/Object;)Z", sig := { parameters := [(.object "java/lang/Object")], returnType := some .boolean }, accessFlags := 1025, code := none }
def k6m2 : Method := { name := "get", desc := "(I)Ljava/lang/Object;", sig := { parameters := [.int], returnType := some (.object "java/lang/Object") }, accessFlags := 1025, code := none }
/-- java/util/List -/
def k6 : Class := { plain "java/util/List" (some 0) with
  accessFlags := 1537
  interfaces := #[5]
  cf := some (fileOf pool6 8 #[] #[{ accessFlags := 1025, nameIndex := 79, descriptorIndex := 80, attributes := #[] }, { accessFlags := 1025, nameIndex := 60, descriptorIndex := 64, attributes := #[] }, { accessFlags := 1025, nameIndex := 75, descriptorIndex := 76, attributes := #[] }] 1537 103 #[120] #[])
  fields := #[]
  methods := #[k6m0, k6m1, k6m2]
  instanceTypes := #[]
  staticTypes := #[]
  resolved := Array.replicate 251 none
  statics := none }

def pool7 : Array CpInfo := pool [(1, .methodref 2 3), (0, .class_ 4), (0, .nameAndType 5 6), (0, u "java/util/AbstractCollection"), (0, u "<init>"), (0, u "()V"), (0, .fieldref 8 9), (0, .class_ 10), (0, .nameAndType 11 12), (0, u "java/util/AbstractList"), (0, u "modCount"), (0, u "I"), (64, .class_ 78), (0, u "java/util/AbstractList$Itr"), (3, .class_ 83), (0, u "java/util/AbstractList$ListItr"), (9, .class_ 94), (0, u "java/util/AbstractList$RandomAccessSubList"), (3, .class_ 99), (0, u "java/util/AbstractList$SubList"), (33, .class_ 134), (0, u "java/util/List"), (73, .class_ 209), (0, u "java/util/AbstractList$SubList$1"), (0, .class_ 211), (0, u "java/util/AbstractList$RandomAccessSpliterator")] 6

def k7c0 : Code := { maxStack := 2, maxLocals := 1, code := jdk_39_method_1_code, exceptionTable := #[], attributes := #[] }
def k7m0 : Method := { name := "<init>", desc := "()V", sig := { parameters := [], returnType := none }, accessFlags := 4, code := some k7c0 }
/-- java/util/AbstractList -/
def k7 : Class := { plain "java/util/AbstractList" (some 4) with
  accessFlags := 1057
  interfaces := #[6]
  cf := some (fileOf pool7 8 #[.nestMembers #[93, 98, 208, 210, 82, 77]] #[{ accessFlags := 4, nameIndex := 5, descriptorIndex := 6, attributes := #[] }] 1057 2 #[133] #[{ accessFlags := 132, nameIndex := 11, descriptorIndex := 12, attributes := #[] }])
  fields := #[{ name := "modCount", type := .int, accessFlags := 132, slot := 0, constantValue := 0 }]
  methods := #[k7m0]
  instanceTypes := #[.int]
  staticTypes := #[]
  resolved := Array.replicate 218 none
  statics := none }

def pool8 : Array CpInfo := pool [(1, .class_ 2), (0, u "java/util/RandomAccess"), (0, .class_ 4), (0, u "java/lang/Object")] 2

/-- java/util/RandomAccess -/
def k8 : Class := { plain "java/util/RandomAccess" (some 0) with
  accessFlags := 1537
  interfaces := #[]
  cf := some (fileOf pool8 1 #[] #[] 1537 3 #[] #[])
  fields := #[]
  methods := #[]
  instanceTypes := #[]
  staticTypes := #[]
  resolved := Array.replicate 7 none
  statics := none }

def pool9 : Array CpInfo := pool [(1, .class_ 2), (0, u "java/lang/Cloneable"), (0, .class_ 4), (0, u "java/lang/Object")] 2

/-- java/lang/Cloneable -/
def k9 : Class := { plain "java/lang/Cloneable" (some 0) with
  accessFlags := 1537
  interfaces := #[]
  cf := some (fileOf pool9 1 #[] #[] 1537 3 #[] #[])
  fields := #[]
  methods := #[]
  instanceTypes := #[]
  staticTypes := #[]
  resolved := Array.replicate 7 none
  statics := none }

def pool10 : Array CpInfo := pool [(1, .class_ 2), (0, u "java/io/Serializable"), (0, .class_ 4), (0, u "java/lang/Object")] 2

/-- java/io/Serializable -/
def k10 : Class := { plain "java/io/Serializable" (some 0) with
  accessFlags := 1537
  interfaces := #[]
  cf := some (fileOf pool10 1 #[] #[] 1537 3 #[] #[])
  fields := #[]
  methods := #[]
  instanceTypes := #[]
  staticTypes := #[]
  resolved := Array.replicate 7 none
  statics := none }

def pool11 : Array CpInfo := pool [(1, .methodref 2 3), (0, .class_ 4), (0, .nameAndType 5 6), (0, u "java/util/AbstractList"), (0, u "<init>"), (0, u "()V"), (0, .class_ 8), (0, u "java/lang/Object"), (0, .fieldref 10 11), (0, .class_ 12), (0, .nameAndType 13 14), (0, u "java/util/ArrayList"), (0, u "elementData"), (0, u "[Ljava/lang/Object;"), (2, u "EMPTY_ELEMENTDATA"), (21, .fieldref 10 40), (0, .nameAndType 41 14), (0, u "DEFAULTCAPACITY_EMPTY_ELEMENTDATA"), (5, u "()[Ljava/lang/Object;"), (0, .fieldref 10 49), (0, .nameAndType 50 51), (0, u "size"), (0, u "I"), (11, .fieldref 10 64), (0, .nameAndType 65 51), (0, u "modCount"), (3, .methodref 10 70), (0, .nameAndType 71 72), (0, u "grow"), (0, u "(I)[Ljava/lang/Object;"), (6, .methodref 80 81), (0, .class_ 82), (0, .nameAndType 83 84), (0, u "java/lang/Math"), (0, u "max"), (0, u "(II)I"), (11, u "(Ljava/lang/Object;)Z"), (21, .methodref 119 120), (0, .class_ 121), (0, .nameAndType 122 84), (0, u "java/util/Objects"), (0, u "checkIndex"), (0, .methodref 10 124), (0, .nameAndType 13 125), (0, u "(I)Ljava/lang/Object;"), (3, .methodref 10 130), (0, .nameAndType 71 47), (0, .methodref 10 132), (0, .nameAndType 133 134), (0, u "add"), (0, u "(Ljava/lang/Object;[Ljava/lang/Object;I)V"), (13, .class_ 149), (0, u "java/util/List"), (16, u "iterator"), (0, u "()Ljava/util/Iterator;"), (18, u "()I"), (75, .class_ 263), (0, u "java/util/ArrayList$ListItr"), (3, .class_ 268), (0, u "java/util/ArrayList$Itr"), (0, .methodref 267 270), (0, .nameAndType 5 271), (0, u "(Ljava/util/ArrayList;)V"), (4, .class_ 277), (0, u "java/util/ArrayList$SubList"), (12, .class_ 291), (0, u "java/util/ArrayList$ArrayListSpliterator"), (37, .class_ 330), (0, u "java/util/RandomAccess"), (0, .class_ 332), (0, u "java/lang/Cloneable"), (0, .class_ 334), (0, u "java/io/Serializable"), (0, u "serialVersionUID"), (0, u "J"), (3, u "DEFAULT_CAPACITY"), (40, u "get"), (118, .class_ 501), (0, u "java/util/ArrayList$SubList$2"), (0, .class_ 503), (0, u "java/util/ArrayList$SubList$1")] 5

def k11c0 : Code := { maxStack := 2, maxLocals := 1, code := jdk_38_method_2_code, exceptionTable := #[], attributes := #[] }
def k11m0 : Method := { name := "<init>", desc := "()V", sig := { parameters := [], returnType := none }, accessFlags := 1, code := some k11c0 }
def k11c1 : Code := { maxStack := 4, maxLocals := 4, code := jdk_38_method_6_code, exceptionTable := #[], attributes := #[] }
def k11m1 : Method := { name := "grow", desc := "(I)[Ljava/lang/Object;", sig := { parameters := [.int], returnType := some (.array (.object "java/lang/Object")) }, accessFlags := 2, code := some k11c1 }
def k11c2 : Code := { maxStack := 3, maxLocals := 1, code := jdk_38_method_7_code, exceptionTable := #[], attributes := #[] }
def k11m2 : Method := { name := "grow", desc := "()[Ljava/lang/Object;", sig := { parameters := [], returnType := some (.array (.object "java/lang/Object")) }, accessFlags := 2, code := some k11c2 }
def k11c3 : Code := { maxStack := 1, maxLocals := 1, code := jdk_38_method_8_code, exceptionTable := #[], attributes := #[] }
def k11m3 : Method := { name := "size", desc := "()I", sig := { parameters := [], returnType := some .int }, accessFlags := 1, code := some k11c3 }
def k11c4 : Code := { maxStack := 2, maxLocals := 2, code := jdk_38_method_18_code, exceptionTable := #[], attributes := #[] }
def k11m4 : Method := { name := "elementData", desc := "(I)Ljava/lang/Object;", sig := { parameters := [.int], returnType := some (.object "java/lang/Object") }, accessFlags := 0, code := some k11c4 }
def k11c5 : Code := { maxStack := 2, maxLocals := 2, code := jdk_38_method_20_code, exceptionTable := #[], attributes := #[] }
def k11m5 : Method := { name := "get", desc := "(I)Ljava/lang/Object;", sig := { parameters := [.int], returnType := some (.object "java/lang/Object") }, accessFlags := 1, code := some k11c5 }
def k11c6 : Code := { maxStack := 3, maxLocals := 4, code := jdk_38_method_24_code, exceptionTable := #[], attributes := #[] }
def k11m6 : Method := { name := "add", desc := "(Ljava/lang/Object;[Ljava/lang/Object;I)V", sig := { parameters := [(.object "java/lang/Object"), (.array (.object "java/lang/Object")), .int], returnType := none }, accessFlags := 2, code := some k11c6 }
def k11c7 : Code := { maxStack := 4, maxLocals := 2, code := jdk_38_method_25_code, exceptionTable := #[], attributes := #[] }
def k11m7 : Method := { name := "add", desc := "(Ljava/lang/Object;)Z", sig := { parameters := [(.object "java/lang/Object")], returnType := some .boolean }, accessFlags := 1, code := some k11c7 }
def k11c8 : Code := { maxStack := 3, maxLocals := 1, code := jdk_38_method_55_code, exceptionTable := #[], attributes := #[] }
def k11m8 : Method := { name := "iterator", desc := "()Ljava/util/Iterator;", sig := { parameters := [], returnType := some (.object "java/util/Iterator") }, accessFlags := 1, code := some k11c8 }
/-- java/util/ArrayList -/
def k11 : Class := { plain "java/util/ArrayList" (some 7) with
  accessFlags := 33
  interfaces := #[6, 8, 9, 10]
  cf := some (fileOf pool11 10 #[.nestMembers #[290, 276, 500, 502, 262, 267]] #[{ accessFlags := 1, nameIndex := 5, descriptorIndex := 6, attributes := #[] }, { accessFlags := 2, nameIndex := 71, descriptorIndex := 72, attributes := #[] }, { accessFlags := 2, nameIndex := 71, descriptorIndex := 47, attributes := #[] }, { accessFlags := 1, nameIndex := 50, descriptorIndex := 186, attributes := #[] }, { accessFlags := 0, nameIndex := 13, descriptorIndex := 125, attributes := #[] }, { accessFlags := 1, nameIndex := 381, descriptorIndex := 125, attributes := #[] }, { accessFlags := 2, nameIndex := 133, descriptorIndex := 134, attributes := #[] }, { accessFlags := 1, nameIndex := 133, descriptorIndex := 96, attributes := #[] }, { accessFlags := 1, nameIndex := 166, descriptorIndex := 167, attributes := #[] }] 33 2 #[148, 329, 331, 333] #[{ accessFlags := 26, nameIndex := 335, descriptorIndex := 336, attributes := #[] }, { accessFlags := 26, nameIndex := 340, descriptorIndex := 51, attributes := #[] }, { accessFlags := 26, nameIndex := 17, descriptorIndex := 14, attributes := #[] }, { accessFlags := 26, nameIndex := 41, descriptorIndex := 14, attributes := #[] }, { accessFlags := 128, nameIndex := 13, descriptorIndex := 14, attributes := #[] }, { accessFlags := 2, nameIndex := 50, descriptorIndex := 51, attributes := #[] }])
  fields := #[{ name := "serialVersionUID", type := .long, accessFlags := 26, slot := 0, constantValue := 0 }, { name := "DEFAULT_CAPACITY", type := .int, accessFlags := 26, slot := 1, constantValue := 0 }, { name := "EMPTY_ELEMENTDATA", type := (.array (.object "java/lang/Object")), accessFlags := 26, slot := 2, constantValue := 0 }, { name := "DEFAULTCAPACITY_EMPTY_ELEMENTDATA", type := (.array (.object "java/lang/Object")), accessFlags := 26, slot := 3, constantValue := 0 }, { name := "elementData", type := (.array (.object "java/lang/Object")), accessFlags := 128, slot := 1, constantValue := 0 }, { name := "size", type := .int, accessFlags := 2, slot := 2, constantValue := 0 }]
  methods := #[k11m0, k11m1, k11m2, k11m3, k11m4, k11m5, k11m6, k11m7, k11m8]
  instanceTypes := #[.int, (.array (.object "java/lang/Object")), .int]
  staticTypes := #[.long, .int, (.array (.object "java/lang/Object")), (.array (.object "java/lang/Object"))]
  resolved := Array.replicate 509 none
  statics := some 0 }

def pool12 : Array CpInfo := pool [(1, .methodref 2 3), (0, .class_ 4), (0, .nameAndType 5 6), (0, u "java/lang/Object"), (0, u "<init>"), (0, u "()V"), (0, .methodref 8 9), (0, .class_ 10), (0, .nameAndType 11 12), (0, u "com/example/lassoo/lassoo/lang/BuchiAutomaton$Transition"), (0, u "propositions"), (0, u "(Ljava/util/Collection;Z)[I"), (0, .fieldref 8 14), (0, .nameAndType 15 16), (0, u "positive"), (0, u "[I"), (0, .fieldref 8 18), (0, .nameAndType 19 16), (0, u "negative"), (0, .fieldref 8 21), (0, .nameAndType 22 23), (0, u "target"), (0, u "I"), (0, .class_ 25), (0, u "java/util/ArrayList"), (0, .methodref 24 3), (0, .interfaceMethodref 28 29), (0, .class_ 30), (0, .nameAndType 31 32), (0, u "java/util/Collection"), (0, u "iterator"), (0, u "()Ljava/util/Iterator;"), (0, .interfaceMethodref 34 35), (0, .class_ 36), (0, .nameAndType 37 38), (0, u "java/util/Iterator"), (0, u "hasNext"), (0, u "()Z"), (0, .interfaceMethodref 34 40), (0, .nameAndType 41 42), (0, u "next"), (0, u "()Ljava/lang/Object;"), (0, .class_ 44), (0, u "com/example/lassoo/lassoo/lang/NormalFormula"), (0, .methodref 43 46), (0, .nameAndType 47 38), (0, u "isNegated"), (0, .methodref 43 49), (0, .nameAndType 50 51), (0, u "proposition"), (0, u "()I"), (0, .methodref 53 54), (0, .class_ 55), (0, .nameAndType 56 57), (0, u "java/lang/Integer"), (0, u "valueOf"), (0, u "(I)Ljava/lang/Integer;"), (0, .interfaceMethodref 59 60), (0, .class_ 61), (0, .nameAndType 62 63), (0, u "java/util/List"), (0, u "add"), (0, u "(Ljava/lang/Object;)Z"), (0, .interfaceMethodref 59 65), (0, .nameAndType 66 51), (0, u "size"), (0, .interfaceMethodref 59 68), (0, .nameAndType 69 70), (0, u "get"), (0, u "(I)Ljava/lang/Object;"), (0, .methodref 53 72), (0, .nameAndType 73 51), (0, u "intValue"), (9, .methodref 84 85), (0, .class_ 16), (0, .nameAndType 86 42), (0, u "clone"), (0, u "(Ljava/util/Collection;I)V"), (10, u "literals"), (0, u "(Z)[I"), (3, .class_ 104), (0, u "com/example/lassoo/lassoo/lang/BuchiAutomaton")] 2

def k12c0 : Code := { maxStack := 3, maxLocals := 3, code := prog_25_method_1_code, exceptionTable := #[], attributes := #[] }
def k12m0 : Method := { name := "<init>", desc := "(Ljava/util/Collection;I)V", sig := { parameters := [(.object "java/util/Collection"), .int], returnType := none }, accessFlags := 0, code := some k12c0 }
def k12c1 : Code := { maxStack := 4, maxLocals := 5, code := prog_25_method_2_code, exceptionTable := #[], attributes := #[] }
def k12m1 : Method := { name := "propositions", desc := "(Ljava/util/Collection;Z)[I", sig := { parameters := [(.object "java/util/Collection"), .boolean], returnType := some (.array .int) }, accessFlags := 10, code := some k12c1 }
def k12c2 : Code := { maxStack := 1, maxLocals := 2, code := prog_25_method_5_code, exceptionTable := #[], attributes := #[] }
def k12m2 : Method := { name := "literals", desc := "(Z)[I", sig := { parameters := [.boolean], returnType := some (.array .int) }, accessFlags := 1, code := some k12c2 }
/-- com/example/lassoo/lassoo/lang/BuchiAutomaton$Transition -/
def k12 : Class := { plain "com/example/lassoo/lassoo/lang/BuchiAutomaton$Transition" (some 0) with
  accessFlags := 49
  interfaces := #[]
  cf := some (fileOf pool12 8 #[.nestHost 103] #[{ accessFlags := 0, nameIndex := 5, descriptorIndex := 87, attributes := #[] }, { accessFlags := 10, nameIndex := 11, descriptorIndex := 12, attributes := #[] }, { accessFlags := 1, nameIndex := 98, descriptorIndex := 99, attributes := #[] }] 49 2 #[] #[{ accessFlags := 18, nameIndex := 15, descriptorIndex := 16, attributes := #[] }, { accessFlags := 18, nameIndex := 19, descriptorIndex := 16, attributes := #[] }, { accessFlags := 18, nameIndex := 22, descriptorIndex := 23, attributes := #[] }])
  fields := #[{ name := "positive", type := (.array .int), accessFlags := 18, slot := 0, constantValue := 0 }, { name := "negative", type := (.array .int), accessFlags := 18, slot := 1, constantValue := 0 }, { name := "target", type := .int, accessFlags := 18, slot := 2, constantValue := 0 }]
  methods := #[k12m0, k12m1, k12m2]
  instanceTypes := #[(.array .int), (.array .int), .int]
  staticTypes := #[]
  resolved := Array.replicate 107 none
  statics := none }

def pool13 : Array CpInfo := pool [(16, .class_ 18), (1, u "java/util/Iterator"), (0, u "hasNext"), (0, u "()Z"), (2, u "next"), (0, u "()Ljava/lang/Object;"), (6, .class_ 32), (0, u "java/lang/Object")] 20

def k13m0 : Method := { name := "hasNext", desc := "()Z", sig := { parameters := [], returnType := some .boolean }, accessFlags := 1025, code := none }
def k13m1 : Method := { name := "next", desc := "()Ljava/lang/Object;", sig := { parameters := [], returnType := some (.object "java/lang/Object") }, accessFlags := 1025, code := none }
/-- java/util/Iterator -/
def k13 : Class := { plain "java/util/Iterator" (some 0) with
  accessFlags := 1537
  interfaces := #[]
  cf := some (fileOf pool13 16 #[] #[{ accessFlags := 1025, nameIndex := 19, descriptorIndex := 20, attributes := #[] }, { accessFlags := 1025, nameIndex := 23, descriptorIndex := 24, attributes := #[] }] 1537 31 #[] #[])
  fields := #[]
  methods := #[k13m0, k13m1]
  instanceTypes := #[]
  staticTypes := #[]
  resolved := Array.replicate 53 none
  statics := none }

def pool14 : Array CpInfo := pool [(1, .fieldref 2 3), (0, .class_ 4), (0, .nameAndType 5 6), (0, u "java/util/ArrayList$Itr"), (0, u "this$0"), (0, u "Ljava/util/ArrayList;"), (0, .methodref 8 9), (0, .class_ 10), (0, .nameAndType 11 12), (0, u "java/lang/Object"), (0, u "<init>"), (0, u "()V"), (0, .fieldref 2 14), (0, .nameAndType 15 16), (0, u "lastRet"), (0, u "I"), (0, .fieldref 18 19), (0, .class_ 20), (0, .nameAndType 21 16), (0, u "java/util/ArrayList"), (0, u "modCount"), (0, .fieldref 2 23), (0, .nameAndType 24 16), (0, u "expectedModCount"), (0, .fieldref 2 26), (0, .nameAndType 27 16), (0, u "cursor"), (0, .fieldref 18 29), (0, .nameAndType 30 16), (0, u "size"), (0, .methodref 2 32), (0, .nameAndType 33 12), (0, u "checkForComodification"), (3, .fieldref 18 38), (0, .nameAndType 39 40), (0, u "elementData"), (0, u "[Ljava/lang/Object;"), (28, .class_ 70), (0, u "java/util/Iterator"), (0, u "(Ljava/util/ArrayList;)V"), (8, u "hasNext"), (0, u "()Z"), (1, u "next"), (0, u "()Ljava/lang/Object;")] 19

def k14c0 : Code := { maxStack := 2, maxLocals := 2, code := jdk_49_method_1_code, exceptionTable := #[], attributes := #[] }
def k14m0 : Method := { name := "<init>", desc := "(Ljava/util/ArrayList;)V", sig := { parameters := [(.object "java/util/ArrayList")], returnType := none }, accessFlags := 0, code := some k14c0 }
def k14c1 : Code := { maxStack := 2, maxLocals := 1, code := jdk_49_method_2_code, exceptionTable := #[], attributes := #[] }
def k14m1 : Method := { name := "hasNext", desc := "()Z", sig := { parameters := [], returnType := some .boolean }, accessFlags := 1, code := some k14c1 }
def k14c2 : Code := { maxStack := 4, maxLocals := 3, code := jdk_49_method_3_code, exceptionTable := #[], attributes := #[] }
def k14m2 : Method := { name := "next", desc := "()Ljava/lang/Object;", sig := { parameters := [], returnType := some (.object "java/lang/Object") }, accessFlags := 1, code := some k14c2 }
def k14c3 : Code := { maxStack := 2, maxLocals := 1, code := jdk_49_method_6_code, exceptionTable := #[], attributes := #[] }
def k14m3 : Method := { name := "checkForComodification", desc := "()V", sig := { parameters := [], returnType := none }, accessFlags := 16, code := some k14c3 }
/-- java/util/ArrayList$Itr -/
def k14 : Class := { plain "java/util/ArrayList$Itr" (some 0) with
  accessFlags := 32
  interfaces := #[13]
  cf := some (fileOf pool14 2 #[.nestHost 18] #[{ accessFlags := 0, nameIndex := 11, descriptorIndex := 71, attributes := #[] }, { accessFlags := 1, nameIndex := 80, descriptorIndex := 81, attributes := #[] }, { accessFlags := 1, nameIndex := 83, descriptorIndex := 84, attributes := #[] }, { accessFlags := 16, nameIndex := 33, descriptorIndex := 12, attributes := #[] }] 32 8 #[69] #[{ accessFlags := 0, nameIndex := 27, descriptorIndex := 16, attributes := #[] }, { accessFlags := 0, nameIndex := 15, descriptorIndex := 16, attributes := #[] }, { accessFlags := 0, nameIndex := 24, descriptorIndex := 16, attributes := #[] }, { accessFlags := 4112, nameIndex := 5, descriptorIndex := 6, attributes := #[] }])
  fields := #[{ name := "cursor", type := .int, accessFlags := 0, slot := 0, constantValue := 0 }, { name := "lastRet", type := .int, accessFlags := 0, slot := 1, constantValue := 0 }, { name := "expectedModCount", type := .int, accessFlags := 0, slot := 2, constantValue := 0 }, { name := "this$0", type := (.object "java/util/ArrayList"), accessFlags := 4112, slot := 3, constantValue := 0 }]
  methods := #[k14m0, k14m1, k14m2, k14m3]
  instanceTypes := #[.int, .int, .int, (.object "java/util/ArrayList")]
  staticTypes := #[]
  resolved := Array.replicate 104 none
  statics := none }

def pool15 : Array CpInfo := pool [(1, .methodref 2 3), (0, .class_ 4), (0, .nameAndType 5 6), (0, u "java/lang/Object"), (0, u "<init>"), (0, u "()V"), (0, .fieldref 8 9), (0, .class_ 10), (0, .nameAndType 11 12), (0, u "com/example/lassoo/lassoo/lang/NormalFormula"), (0, u "kind"), (0, u "Lcom/example/lassoo/lassoo/lang/NormalFormula$Kind;"), (0, .fieldref 8 14), (0, .nameAndType 15 16), (0, u "proposition"), (0, u "I"), (0, .fieldref 8 18), (0, .nameAndType 19 20), (0, u "negated"), (0, u "Z"), (0, .fieldref 8 22), (0, .nameAndType 23 24), (0, u "left"), (0, u "Lcom/example/lassoo/lassoo/lang/NormalFormula;"), (0, .fieldref 8 26), (0, .nameAndType 27 24), (0, u "right"), (0, .methodref 29 30), (0, .class_ 31), (0, .nameAndType 32 33), (0, u "com/example/lassoo/lassoo/lang/NormalFormula$Kind"), (0, u "ordinal"), (0, u "()I"), (0, .fieldref 8 35), (0, .nameAndType 36 16), (0, u "hash"), (0, .fieldref 29 38), (0, .nameAndType 39 12), (0, u "LITERAL"), (0, .methodref 8 41), (0, .nameAndType 5 42), (0, u "(Lcom/example/lassoo/lassoo/lang/NormalFormula$Kind;IZLcom/example/lassoo/lassoo/lang/NormalFormula;Lcom/example/lassoo/lassoo/lang/NormalFormula;)V"), (5, u "FALSE"), (9, u "TRUE"), (22, u "literal"), (0, u "(IZ)Lcom/example/lassoo/lassoo/lang/NormalFormula;"), (15, u "isNegated"), (0, u "()Z")] 9

def k15c0 : Code := { maxStack := 3, maxLocals := 7, code := prog_48_method_1_code, exceptionTable := #[], attributes := #[] }
def k15m0 : Method := { name := "<init>", desc := "(Lcom/example/lassoo/lassoo/lang/NormalFormula$Kind;IZLcom/example/lassoo/lassoo/lang/NormalFormula;Lcom/example/lassoo/lassoo/lang/NormalFormula;)V", sig := { parameters := [(.object "com/example/lassoo/lassoo/lang/NormalFormula$Kind"), .int, .boolean, (.object "com/example/lassoo/lassoo/lang/NormalFormula"), (.object "com/example/lassoo/lassoo/lang/NormalFormula")], returnType := none }, accessFlags := 2, code := some k15c0 }
def k15c1 : Code := { maxStack := 7, maxLocals := 2, code := prog_48_method_2_code, exceptionTable := #[], attributes := #[] }
def k15m1 : Method := { name := "literal", desc := "(IZ)Lcom/example/lassoo/lassoo/lang/NormalFormula;", sig := { parameters := [.int, .boolean], returnType := some (.object "com/example/lassoo/lassoo/lang/NormalFormula") }, accessFlags := 8, code := some k15c1 }
def k15c2 : Code := { maxStack := 1, maxLocals := 1, code := prog_48_method_12_code, exceptionTable := #[], attributes := #[] }
def k15m2 : Method := { name := "proposition", desc := "()I", sig := { parameters := [], returnType := some .int }, accessFlags := 0, code := some k15c2 }
def k15c3 : Code := { maxStack := 1, maxLocals := 1, code := prog_48_method_13_code, exceptionTable := #[], attributes := #[] }
def k15m3 : Method := { name := "isNegated", desc := "()Z", sig := { parameters := [], returnType := some .boolean }, accessFlags := 0, code := some k15c3 }
/-- com/example/lassoo/lassoo/lang/NormalFormula -/
def k15 : Class := { plain "com/example/lassoo/lassoo/lang/NormalFormula" (some 0) with
  accessFlags := 48
  interfaces := #[]
  cf := some (fileOf pool15 8 #[.nestMembers #[29]] #[{ accessFlags := 2, nameIndex := 5, descriptorIndex := 42, attributes := #[] }, { accessFlags := 8, nameIndex := 81, descriptorIndex := 82, attributes := #[] }, { accessFlags := 0, nameIndex := 15, descriptorIndex := 33, attributes := #[] }, { accessFlags := 0, nameIndex := 98, descriptorIndex := 99, attributes := #[] }] 48 2 #[] #[{ accessFlags := 24, nameIndex := 58, descriptorIndex := 24, attributes := #[] }, { accessFlags := 24, nameIndex := 48, descriptorIndex := 24, attributes := #[] }, { accessFlags := 18, nameIndex := 11, descriptorIndex := 12, attributes := #[] }, { accessFlags := 18, nameIndex := 15, descriptorIndex := 16, attributes := #[] }, { accessFlags := 18, nameIndex := 19, descriptorIndex := 20, attributes := #[] }, { accessFlags := 18, nameIndex := 23, descriptorIndex := 24, attributes := #[] }, { accessFlags := 18, nameIndex := 27, descriptorIndex := 24, attributes := #[] }, { accessFlags := 18, nameIndex := 36, descriptorIndex := 16, attributes := #[] }])
  fields := #[{ name := "TRUE", type := (.object "com/example/lassoo/lassoo/lang/NormalFormula"), accessFlags := 24, slot := 0, constantValue := 0 }, { name := "FALSE", type := (.object "com/example/lassoo/lassoo/lang/NormalFormula"), accessFlags := 24, slot := 1, constantValue := 0 }, { name := "kind", type := (.object "com/example/lassoo/lassoo/lang/NormalFormula$Kind"), accessFlags := 18, slot := 0, constantValue := 0 }, { name := "proposition", type := .int, accessFlags := 18, slot := 1, constantValue := 0 }, { name := "negated", type := .boolean, accessFlags := 18, slot := 2, constantValue := 0 }, { name := "left", type := (.object "com/example/lassoo/lassoo/lang/NormalFormula"), accessFlags := 18, slot := 3, constantValue := 0 }, { name := "right", type := (.object "com/example/lassoo/lassoo/lang/NormalFormula"), accessFlags := 18, slot := 4, constantValue := 0 }, { name := "hash", type := .int, accessFlags := 18, slot := 5, constantValue := 0 }]
  methods := #[k15m0, k15m1, k15m2, k15m3]
  instanceTypes := #[(.object "com/example/lassoo/lassoo/lang/NormalFormula$Kind"), .int, .boolean, (.object "com/example/lassoo/lassoo/lang/NormalFormula"), (.object "com/example/lassoo/lassoo/lang/NormalFormula"), .int]
  staticTypes := #[(.object "com/example/lassoo/lassoo/lang/NormalFormula"), (.object "com/example/lassoo/lassoo/lang/NormalFormula")]
  resolved := Array.replicate 109 none
  statics := none }

def pool16 : Array CpInfo := pool [(1, .class_ 2), (0, u "java/lang/constant/Constable"), (0, .class_ 4), (0, u "java/lang/Object")] 6

/-- java/lang/constant/Constable -/
def k16 : Class := { plain "java/lang/constant/Constable" (some 0) with
  accessFlags := 1537
  interfaces := #[]
  cf := some (fileOf pool16 1 #[] #[] 1537 3 #[] #[])
  fields := #[]
  methods := #[]
  instanceTypes := #[]
  staticTypes := #[]
  resolved := Array.replicate 11 none
  statics := none }

def pool17 : Array CpInfo := pool [(1, .class_ 2), (0, u "java/lang/Comparable"), (0, .class_ 4), (0, u "java/lang/Object")] 7

/-- java/lang/Comparable -/
def k17 : Class := { plain "java/lang/Comparable" (some 0) with
  accessFlags := 1537
  interfaces := #[]
  cf := some (fileOf pool17 1 #[] #[] 1537 3 #[] #[])
  fields := #[]
  methods := #[]
  instanceTypes := #[]
  staticTypes := #[]
  resolved := Array.replicate 12 none
  statics := none }

def pool18 : Array CpInfo := pool [(2, .class_ 4), (1, u "java/lang/Enum"), (0, u "name"), (0, u "Ljava/lang/String;"), (0, .fieldref 2 8), (0, .nameAndType 9 10), (0, u "ordinal"), (0, u "I"), (1, .class_ 14), (1, u "java/lang/Object"), (4, u "hash"), (86, .class_ 108), (1, u "java/lang/Enum$EnumDesc"), (2, .class_ 112), (0, u "java/lang/constant/Constable"), (0, .class_ 114), (0, u "java/lang/Comparable"), (0, .class_ 116), (0, u "java/io/Serializable"), (9, u "()I")] 77

def k18c0 : Code := { maxStack := 1, maxLocals := 1, code := jdk_37_method_2_code, exceptionTable := #[], attributes := #[] }
def k18m0 : Method := { name := "ordinal", desc := "()I", sig := { parameters := [], returnType := some .int }, accessFlags := 17, code := some k18c0 }
/-- java/lang/Enum -/
def k18 : Class := { plain "java/lang/Enum" (some 0) with
  accessFlags := 1057
  interfaces := #[16, 17, 10]
  cf := some (fileOf pool18 2 #[.nestMembers #[106]] #[{ accessFlags := 17, nameIndex := 9, descriptorIndex := 126, attributes := #[] }] 1057 12 #[111, 113, 115] #[{ accessFlags := 18, nameIndex := 5, descriptorIndex := 6, attributes := #[] }, { accessFlags := 18, nameIndex := 9, descriptorIndex := 10, attributes := #[] }, { accessFlags := 2, nameIndex := 19, descriptorIndex := 10, attributes := #[] }])
  fields := #[{ name := "name", type := (.object "java/lang/String"), accessFlags := 18, slot := 0, constantValue := 0 }, { name := "ordinal", type := .int, accessFlags := 18, slot := 1, constantValue := 0 }, { name := "hash", type := .int, accessFlags := 2, slot := 2, constantValue := 0 }]
  methods := #[k18m0]
  instanceTypes := #[(.object "java/lang/String"), .int, .int]
  staticTypes := #[]
  resolved := Array.replicate 204 none
  statics := none }

def pool19 : Array CpInfo := pool [(1, .class_ 2), (0, u "com/example/lassoo/lassoo/lang/NormalFormula$Kind"), (2, u "TRUE"), (0, u "Lcom/example/lassoo/lassoo/lang/NormalFormula$Kind;"), (2, u "FALSE"), (2, u "LITERAL"), (2, u "AND"), (2, u "OR"), (2, u "NEXT"), (2, u "UNTIL"), (2, u "RELEASE"), (2, u "$VALUES"), (0, u "[Lcom/example/lassoo/lassoo/lang/NormalFormula$Kind;"), (6, .class_ 40), (1, u "java/lang/Enum"), (31, .class_ 73), (0, u "com/example/lassoo/lassoo/lang/NormalFormula")] 2

/-- com/example/lassoo/lassoo/lang/NormalFormula$Kind -/
def k19 : Class := { plain "com/example/lassoo/lassoo/lang/NormalFormula$Kind" (some 18) with
  accessFlags := 16432
  interfaces := #[]
  cf := some (fileOf pool19 1 #[.nestHost 72] #[] 16432 38 #[] #[{ accessFlags := 16409, nameIndex := 5, descriptorIndex := 6, attributes := #[] }, { accessFlags := 16409, nameIndex := 9, descriptorIndex := 6, attributes := #[] }, { accessFlags := 16409, nameIndex := 12, descriptorIndex := 6, attributes := #[] }, { accessFlags := 16409, nameIndex := 15, descriptorIndex := 6, attributes := #[] }, { accessFlags := 16409, nameIndex := 18, descriptorIndex := 6, attributes := #[] }, { accessFlags := 16409, nameIndex := 21, descriptorIndex := 6, attributes := #[] }, { accessFlags := 16409, nameIndex := 24, descriptorIndex := 6, attributes := #[] }, { accessFlags := 16409, nameIndex := 27, descriptorIndex := 6, attributes := #[] }, { accessFlags := 4122, nameIndex := 30, descriptorIndex := 31, attributes := #[] }])
  fields := #[{ name := "TRUE", type := (.object "com/example/lassoo/lassoo/lang/NormalFormula$Kind"), accessFlags := 16409, slot := 0, constantValue := 0 }, { name := "FALSE", type := (.object "com/example/lassoo/lassoo/lang/NormalFormula$Kind"), accessFlags := 16409, slot := 1, constantValue := 0 }, { name := "LITERAL", type := (.object "com/example/lassoo/lassoo/lang/NormalFormula$Kind"), accessFlags := 16409, slot := 2, constantValue := 0 }, { name := "AND", type := (.object "com/example/lassoo/lassoo/lang/NormalFormula$Kind"), accessFlags := 16409, slot := 3, constantValue := 0 }, { name := "OR", type := (.object "com/example/lassoo/lassoo/lang/NormalFormula$Kind"), accessFlags := 16409, slot := 4, constantValue := 0 }, { name := "NEXT", type := (.object "com/example/lassoo/lassoo/lang/NormalFormula$Kind"), accessFlags := 16409, slot := 5, constantValue := 0 }, { name := "UNTIL", type := (.object "com/example/lassoo/lassoo/lang/NormalFormula$Kind"), accessFlags := 16409, slot := 6, constantValue := 0 }, { name := "RELEASE", type := (.object "com/example/lassoo/lassoo/lang/NormalFormula$Kind"), accessFlags := 16409, slot := 7, constantValue := 0 }, { name := "$VALUES", type := (.array (.object "com/example/lassoo/lassoo/lang/NormalFormula$Kind")), accessFlags := 4122, slot := 8, constantValue := 0 }]
  methods := #[]
  instanceTypes := #[(.object "java/lang/String"), .int, .int]
  staticTypes := #[(.object "com/example/lassoo/lassoo/lang/NormalFormula$Kind"), (.object "com/example/lassoo/lassoo/lang/NormalFormula$Kind"), (.object "com/example/lassoo/lassoo/lang/NormalFormula$Kind"), (.object "com/example/lassoo/lassoo/lang/NormalFormula$Kind"), (.object "com/example/lassoo/lassoo/lang/NormalFormula$Kind"), (.object "com/example/lassoo/lassoo/lang/NormalFormula$Kind"), (.object "com/example/lassoo/lassoo/lang/NormalFormula$Kind"), (.object "com/example/lassoo/lassoo/lang/NormalFormula$Kind"), (.array (.object "com/example/lassoo/lassoo/lang/NormalFormula$Kind"))]
  resolved := Array.replicate 76 none
  statics := some 1 }

def pool20 : Array CpInfo := pool [(1, .class_ 2), (0, u "java/lang/Math"), (1, .class_ 6), (1, u "java/lang/Object"), (0, u "<init>"), (0, u "()V"), (89, .class_ 100), (1, u "java/lang/Math$RandomNumberGeneratorHolder"), (71, u "negativeZeroFloatBits"), (0, u "J"), (2, u "negativeZeroDoubleBits"), (21, u "max"), (46, u "$assertionsDisabled"), (0, u "Z"), (88, u "(II)I"), (2, u "twoToTheDoubleScaleDown"), (0, u "D"), (4, u "twoToTheDoubleScaleUp"), (9, u "E"), (3, u "PI"), (2, u "TAU"), (2, u "DEGREES_TO_RADIANS"), (0, u "RADIANS_TO_DEGREES")] 94

def k20m0 : Method := { name := "<init>", desc := "()V", sig := { parameters := [], returnType := none }, accessFlags := 2, code := none }
def k20c1 : Code := { maxStack := 2, maxLocals := 2, code := jdk_29_method_65_code, exceptionTable := #[], attributes := #[] }
def k20m1 : Method := { name := "max", desc := "(II)I", sig := { parameters := [.int, .int], returnType := some .int }, accessFlags := 9, code := some k20c1 }
/-- java/lang/Math -/
def k20 : Class := { plain "java/lang/Math" (some 0) with
  accessFlags := 49
  interfaces := #[]
  cf := some (fileOf pool20 1 #[.nestMembers #[98]] #[{ accessFlags := 2, nameIndex := 7, descriptorIndex := 8, attributes := #[] }, { accessFlags := 9, nameIndex := 198, descriptorIndex := 335, attributes := #[] }] 49 4 #[] #[{ accessFlags := 25, nameIndex := 354, descriptorIndex := 339, attributes := #[] }, { accessFlags := 25, nameIndex := 358, descriptorIndex := 339, attributes := #[] }, { accessFlags := 25, nameIndex := 361, descriptorIndex := 339, attributes := #[] }, { accessFlags := 26, nameIndex := 364, descriptorIndex := 339, attributes := #[] }, { accessFlags := 26, nameIndex := 365, descriptorIndex := 339, attributes := #[] }, { accessFlags := 26, nameIndex := 172, descriptorIndex := 173, attributes := #[] }, { accessFlags := 26, nameIndex := 176, descriptorIndex := 173, attributes := #[] }, { accessFlags := 8, nameIndex := 344, descriptorIndex := 339, attributes := #[] }, { accessFlags := 8, nameIndex := 338, descriptorIndex := 339, attributes := #[] }, { accessFlags := 4120, nameIndex := 245, descriptorIndex := 246, attributes := #[] }])
  fields := #[{ name := "E", type := .double, accessFlags := 25, slot := 0, constantValue := 0 }, { name := "PI", type := .double, accessFlags := 25, slot := 1, constantValue := 0 }, { name := "TAU", type := .double, accessFlags := 25, slot := 2, constantValue := 0 }, { name := "DEGREES_TO_RADIANS", type := .double, accessFlags := 26, slot := 3, constantValue := 0 }, { name := "RADIANS_TO_DEGREES", type := .double, accessFlags := 26, slot := 4, constantValue := 0 }, { name := "negativeZeroFloatBits", type := .long, accessFlags := 26, slot := 5, constantValue := 0 }, { name := "negativeZeroDoubleBits", type := .long, accessFlags := 26, slot := 6, constantValue := 0 }, { name := "twoToTheDoubleScaleUp", type := .double, accessFlags := 8, slot := 7, constantValue := 0 }, { name := "twoToTheDoubleScaleDown", type := .double, accessFlags := 8, slot := 8, constantValue := 0 }, { name := "$assertionsDisabled", type := .boolean, accessFlags := 4120, slot := 9, constantValue := 0 }]
  methods := #[k20m0, k20m1]
  instanceTypes := #[]
  staticTypes := #[.double, .double, .double, .double, .double, .long, .long, .double, .double, .boolean]
  resolved := Array.replicate 460 none
  statics := none }

def pool21 : Array CpInfo := pool [(1, .methodref 2 3), (0, .class_ 4), (0, .nameAndType 5 6), (0, u "java/lang/Object"), (0, u "<init>"), (0, u "()V"), (1, .class_ 10), (1, u "java/lang/Number"), (2, .class_ 14), (0, u "java/io/Serializable"), (0, u "serialVersionUID"), (0, u "J")] 20

def k21c0 : Code := { maxStack := 1, maxLocals := 1, code := jdk_18_method_1_code, exceptionTable := #[], attributes := #[] }
def k21m0 : Method := { name := "<init>", desc := "()V", sig := { parameters := [], returnType := none }, accessFlags := 1, code := some k21c0 }
/-- java/lang/Number -/
def k21 : Class := { plain "java/lang/Number" (some 0) with
  accessFlags := 1057
  interfaces := #[10]
  cf := some (fileOf pool21 8 #[] #[{ accessFlags := 1, nameIndex := 5, descriptorIndex := 6, attributes := #[] }] 1057 2 #[13] #[{ accessFlags := 26, nameIndex := 15, descriptorIndex := 16, attributes := #[] }])
  fields := #[{ name := "serialVersionUID", type := .long, accessFlags := 26, slot := 0, constantValue := 0 }]
  methods := #[k21m0]
  instanceTypes := #[]
  staticTypes := #[.long]
  resolved := Array.replicate 37 none
  statics := none }

def pool22 : Array CpInfo := pool [(1, .class_ 2), (0, u "java/lang/constant/ConstantDesc"), (0, .class_ 4), (0, u "java/lang/Object")] 32

/-- java/lang/constant/ConstantDesc -/
def k22 : Class := { plain "java/lang/constant/ConstantDesc" (some 0) with
  accessFlags := 1537
  interfaces := #[]
  cf := some (fileOf pool22 1 #[] #[] 1537 3 #[] #[])
  fields := #[]
  methods := #[]
  instanceTypes := #[]
  staticTypes := #[]
  resolved := Array.replicate 37 none
  statics := none }

def pool23 : Array CpInfo := pool [(1, .class_ 2), (0, u "java/lang/Integer"), (16, u "digits"), (0, u "[C"), (46, u "<init>"), (17, u "DigitOnes"), (0, u "[B"), (2, u "DigitTens"), (10, .nameAndType 67 101), (0, u "()V"), (19, u "()I"), (65, u "valueOf"), (0, u "(I)Ljava/lang/Integer;"), (0, .class_ 190), (0, u "java/lang/Integer$IntegerCache"), (0, .fieldref 189 192), (0, .nameAndType 193 194), (0, u "high"), (0, u "I"), (0, .fieldref 189 196), (0, .nameAndType 197 198), (0, u "cache"), (0, u "[Ljava/lang/Integer;"), (0, .methodref 1 200), (0, .nameAndType 67 201), (0, u "(I)V"), (0, .methodref 203 100), (0, .class_ 204), (0, u "java/lang/Number"), (0, .fieldref 1 206), (0, .nameAndType 207 194), (0, u "value"), (5, u "intValue"), (88, u "TYPE"), (0, u "Ljava/lang/Class;"), (0, .class_ 305), (0, u "java/lang/Comparable"), (0, .class_ 307), (0, u "java/lang/constant/Constable"), (0, .class_ 309), (0, u "java/lang/constant/ConstantDesc"), (0, u "MIN_VALUE"), (1, u "MAX_VALUE"), (3, u "SIZE"), (1, u "BYTES"), (1, u "serialVersionUID"), (0, u "J")] 131

def k23c0 : Code := { maxStack := 3, maxLocals := 1, code := jdk_33_method_22_code, exceptionTable := #[], attributes := #[] }
def k23m0 : Method := { name := "valueOf", desc := "(I)Ljava/lang/Integer;", sig := { parameters := [.int], returnType := some (.object "java/lang/Integer") }, accessFlags := 9, code := some k23c0 }
def k23c1 : Code := { maxStack := 2, maxLocals := 2, code := jdk_33_method_23_code, exceptionTable := #[], attributes := #[] }
def k23m1 : Method := { name := "<init>", desc := "(I)V", sig := { parameters := [.int], returnType := none }, accessFlags := 1, code := some k23c1 }
def k23c2 : Code := { maxStack := 1, maxLocals := 1, code := jdk_33_method_27_code, exceptionTable := #[], attributes := #[] }
def k23m2 : Method := { name := "intValue", desc := "()I", sig := { parameters := [], returnType := some .int }, accessFlags := 1, code := some k23c2 }
/-- java/lang/Integer -/
def k23 : Class := { plain "java/lang/Integer" (some 21) with
  accessFlags := 49
  interfaces := #[17, 16, 22]
  cf := some (fileOf pool23 1 #[.nestMembers #[189]] #[{ accessFlags := 9, nameIndex := 187, descriptorIndex := 188, attributes := #[] }, { accessFlags := 1, nameIndex := 67, descriptorIndex := 201, attributes := #[] }, { accessFlags := 1, nameIndex := 213, descriptorIndex := 121, attributes := #[] }] 49 203 #[304, 306, 308] #[{ accessFlags := 25, nameIndex := 310, descriptorIndex := 194, attributes := #[] }, { accessFlags := 25, nameIndex := 312, descriptorIndex := 194, attributes := #[] }, { accessFlags := 25, nameIndex := 302, descriptorIndex := 303, attributes := #[] }, { accessFlags := 24, nameIndex := 19, descriptorIndex := 20, attributes := #[] }, { accessFlags := 24, nameIndex := 89, descriptorIndex := 86, attributes := #[] }, { accessFlags := 24, nameIndex := 85, descriptorIndex := 86, attributes := #[] }, { accessFlags := 18, nameIndex := 207, descriptorIndex := 194, attributes := #[] }, { accessFlags := 25, nameIndex := 316, descriptorIndex := 194, attributes := #[] }, { accessFlags := 25, nameIndex := 318, descriptorIndex := 194, attributes := #[] }, { accessFlags := 26, nameIndex := 320, descriptorIndex := 321, attributes := #[] }])
  fields := #[{ name := "MIN_VALUE", type := .int, accessFlags := 25, slot := 0, constantValue := 0 }, { name := "MAX_VALUE", type := .int, accessFlags := 25, slot := 1, constantValue := 0 }, { name := "TYPE", type := (.object "java/lang/Class"), accessFlags := 25, slot := 2, constantValue := 0 }, { name := "digits", type := (.array .char), accessFlags := 24, slot := 3, constantValue := 0 }, { name := "DigitTens", type := (.array .byte), accessFlags := 24, slot := 4, constantValue := 0 }, { name := "DigitOnes", type := (.array .byte), accessFlags := 24, slot := 5, constantValue := 0 }, { name := "value", type := .int, accessFlags := 18, slot := 0, constantValue := 0 }, { name := "SIZE", type := .int, accessFlags := 25, slot := 6, constantValue := 0 }, { name := "BYTES", type := .int, accessFlags := 25, slot := 7, constantValue := 0 }, { name := "serialVersionUID", type := .long, accessFlags := 26, slot := 8, constantValue := 0 }]
  methods := #[k23m0, k23m1, k23m2]
  instanceTypes := #[.int]
  staticTypes := #[.int, .int, (.object "java/lang/Class"), (.array .char), (.array .byte), (.array .byte), .int, .int, .long]
  resolved := Array.replicate 453 none
  statics := none }

def pool24 : Array CpInfo := pool [(2, .class_ 4), (1, u "java/lang/Object"), (0, u "<init>"), (0, u "()V"), (0, .class_ 8), (0, u "java/lang/Integer"), (7, .class_ 18), (1, u "java/lang/Integer$IntegerCache"), (0, u "$assertionsDisabled"), (0, u "Z"), (26, u "high"), (0, u "I"), (8, u "archivedCache"), (0, u "[Ljava/lang/Integer;"), (12, u "cache"), (0, u "low")] 27

def k24m0 : Method := { name := "<init>", desc := "()V", sig := { parameters := [], returnType := none }, accessFlags := 2, code := none }
/-- java/lang/Integer$IntegerCache -/
def k24 : Class := { plain "java/lang/Integer$IntegerCache" (some 0) with
  accessFlags := 48
  interfaces := #[]
  cf := some (fileOf pool24 16 #[.nestHost 7] #[{ accessFlags := 2, nameIndex := 5, descriptorIndex := 6, attributes := #[] }] 48 2 #[] #[{ accessFlags := 24, nameIndex := 72, descriptorIndex := 48, attributes := #[] }, { accessFlags := 24, nameIndex := 47, descriptorIndex := 48, attributes := #[] }, { accessFlags := 24, nameIndex := 71, descriptorIndex := 58, attributes := #[] }, { accessFlags := 8, nameIndex := 57, descriptorIndex := 58, attributes := #[] }, { accessFlags := 4120, nameIndex := 19, descriptorIndex := 20, attributes := #[] }])
  fields := #[{ name := "low", type := .int, accessFlags := 24, slot := 0, constantValue := 0 }, { name := "high", type := .int, accessFlags := 24, slot := 1, constantValue := 0 }, { name := "cache", type := (.array (.object "java/lang/Integer")), accessFlags := 24, slot := 2, constantValue := 0 }, { name := "archivedCache", type := (.array (.object "java/lang/Integer")), accessFlags := 8, slot := 3, constantValue := 0 }, { name := "$assertionsDisabled", type := .boolean, accessFlags := 4120, slot := 4, constantValue := 0 }]
  methods := #[k24m0]
  instanceTypes := #[]
  staticTypes := #[.int, .int, (.array (.object "java/lang/Integer")), (.array (.object "java/lang/Integer")), .boolean]
  resolved := Array.replicate 100 none
  statics := some 2 }

def pool25 : Array CpInfo := pool [(2, .class_ 4), (1, u "java/lang/Object"), (0, u "<init>"), (0, u "()V"), (35, .class_ 44), (1, u "java/util/Objects"), (60, .methodref 106 107), (0, .class_ 108), (0, .nameAndType 109 110), (0, u "jdk/internal/util/Preconditions"), (0, u "checkIndex"), (0, u "(IILjava/util/function/BiFunction;)I"), (60, u "(II)I")] 12

def k25m0 : Method := { name := "<init>", desc := "()V", sig := { parameters := [], returnType := none }, accessFlags := 2, code := none }
def k25c1 : Code := { maxStack := 3, maxLocals := 2, code := jdk_31_method_17_code, exceptionTable := #[], attributes := #[] }
def k25m1 : Method := { name := "checkIndex", desc := "(II)I", sig := { parameters := [.int, .int], returnType := some .int }, accessFlags := 9, code := some k25c1 }
/-- java/util/Objects -/
def k25 : Class := { plain "java/util/Objects" (some 0) with
  accessFlags := 49
  interfaces := #[]
  cf := some (fileOf pool25 42 #[] #[{ accessFlags := 2, nameIndex := 5, descriptorIndex := 6, attributes := #[] }, { accessFlags := 9, nameIndex := 109, descriptorIndex := 171, attributes := #[] }] 49 2 #[] #[])
  fields := #[]
  methods := #[k25m0, k25m1]
  instanceTypes := #[]
  staticTypes := #[]
  resolved := Array.replicate 184 none
  statics := none }

def pool26 : Array CpInfo := pool [(2, .class_ 4), (1, u "java/lang/Object"), (0, u "<init>"), (0, u "()V"), (17, .class_ 26), (1, u "jdk/internal/util/Preconditions"), (6, u "checkIndex"), (21, .class_ 56), (0, u "jdk/internal/util/Preconditions$4"), (57, .class_ 115), (0, u "jdk/internal/util/Preconditions$1"), (7, u "SIOOBE_FORMATTER"), (0, u "Ljava/util/function/BiFunction;"), (0, .class_ 126), (0, u "jdk/internal/util/Preconditions$2"), (3, u "AIOOBE_FORMATTER"), (0, .class_ 132), (0, u "jdk/internal/util/Preconditions$3"), (3, u "IOOBE_FORMATTER"), (41, u "(IILjava/util/function/BiFunction;)I")] 15

def k26m0 : Method := { name := "<init>", desc := "()V", sig := { parameters := [], returnType := none }, accessFlags := 1, code := none }
def k26c1 : Code := { maxStack := 3, maxLocals := 3, code := jdk_41_method_11_code, exceptionTable := #[], attributes := #[] }
def k26m1 : Method := { name := "checkIndex", desc := "(IILjava/util/function/BiFunction;)I", sig := { parameters := [.int, .int, (.object "java/util/function/BiFunction")], returnType := some .int }, accessFlags := 9, code := some k26c1 }
/-- jdk/internal/util/Preconditions -/
def k26 : Class := { plain "jdk/internal/util/Preconditions" (some 0) with
  accessFlags := 33
  interfaces := #[]
  cf := some (fileOf pool26 24 #[.nestMembers #[55, 131, 125, 114]] #[{ accessFlags := 1, nameIndex := 5, descriptorIndex := 6, attributes := #[] }, { accessFlags := 9, nameIndex := 33, descriptorIndex := 178, attributes := #[] }] 33 2 #[] #[{ accessFlags := 25, nameIndex := 123, descriptorIndex := 124, attributes := #[] }, { accessFlags := 25, nameIndex := 130, descriptorIndex := 124, attributes := #[] }, { accessFlags := 25, nameIndex := 136, descriptorIndex := 124, attributes := #[] }])
  fields := #[{ name := "SIOOBE_FORMATTER", type := (.object "java/util/function/BiFunction"), accessFlags := 25, slot := 0, constantValue := 0 }, { name := "AIOOBE_FORMATTER", type := (.object "java/util/function/BiFunction"), accessFlags := 25, slot := 1, constantValue := 0 }, { name := "IOOBE_FORMATTER", type := (.object "java/util/function/BiFunction"), accessFlags := 25, slot := 2, constantValue := 0 }]
  methods := #[k26m0, k26m1]
  instanceTypes := #[]
  staticTypes := #[(.object "java/util/function/BiFunction"), (.object "java/util/function/BiFunction"), (.object "java/util/function/BiFunction")]
  resolved := Array.replicate 194 none
  statics := none }

/-- the primitive byte -/
def k27 : Class := { plain "byte" none with kind := .primitive 'B', accessFlags := 0x411 }
/-- [B -/
def k28 : Class := { plain "[B" (some 0) with kind := .array 27 .byte, interfaces := #[9, 10], accessFlags := 1041 }

/-- the primitive int -/
def k29 : Class := { plain "int" none with kind := .primitive 'I', accessFlags := 0x411 }
/-- [I -/
def k30 : Class := { plain "[I" (some 0) with kind := .array 29 .int, interfaces := #[9, 10], accessFlags := 1041 }

/-- [Ljava/lang/Integer; -/
def k31 : Class := { plain "[Ljava/lang/Integer;" (some 0) with kind := .array 23 (.object "java/lang/Integer"), interfaces := #[9, 10], accessFlags := 1041 }

/-- [Ljava/lang/Object; -/
def k32 : Class := { plain "[Ljava/lang/Object;" (some 0) with kind := .array 0 (.object "java/lang/Object"), interfaces := #[9, 10], accessFlags := 1041 }

def heap : Heap := #[{ cls := 11, slots := #[.long 0, .int 0, .ref 261, .ref 262], vm := .statics 11 },
  { cls := 19, slots := #[.null, .null, .ref 260, .null, .null, .null, .null, .null, .null], vm := .statics 19 },
  { cls := 24, slots := #[.int 0, .int 127, .ref 3, .null, .int 0], vm := .statics 24 },
  { cls := 31, slots := #[.ref 4, .ref 5, .ref 6, .ref 7, .ref 8, .ref 9, .ref 10, .ref 11, .ref 12, .ref 13, .ref 14, .ref 15, .ref 16, .ref 17, .ref 18, .ref 19, .ref 20, .ref 21, .ref 22, .ref 23, .ref 24, .ref 25, .ref 26, .ref 27, .ref 28, .ref 29, .ref 30, .ref 31, .ref 32, .ref 33, .ref 34, .ref 35, .ref 36, .ref 37, .ref 38, .ref 39, .ref 40, .ref 41, .ref 42, .ref 43, .ref 44, .ref 45, .ref 46, .ref 47, .ref 48, .ref 49, .ref 50, .ref 51, .ref 52, .ref 53, .ref 54, .ref 55, .ref 56, .ref 57, .ref 58, .ref 59, .ref 60, .ref 61, .ref 62, .ref 63, .ref 64, .ref 65, .ref 66, .ref 67, .ref 68, .ref 69, .ref 70, .ref 71, .ref 72, .ref 73, .ref 74, .ref 75, .ref 76, .ref 77, .ref 78, .ref 79, .ref 80, .ref 81, .ref 82, .ref 83, .ref 84, .ref 85, .ref 86, .ref 87, .ref 88, .ref 89, .ref 90, .ref 91, .ref 92, .ref 93, .ref 94, .ref 95, .ref 96, .ref 97, .ref 98, .ref 99, .ref 100, .ref 101, .ref 102, .ref 103, .ref 104, .ref 105, .ref 106, .ref 107, .ref 108, .ref 109, .ref 110, .ref 111, .ref 112, .ref 113, .ref 114, .ref 115, .ref 116, .ref 117, .ref 118, .ref 119, .ref 120, .ref 121, .ref 122, .ref 123, .ref 124, .ref 125, .ref 126, .ref 127, .ref 128, .ref 129, .ref 130, .ref 131, .ref 132, .ref 133, .ref 134, .ref 135, .ref 136, .ref 137, .ref 138, .ref 139, .ref 140, .ref 141, .ref 142, .ref 143, .ref 144, .ref 145, .ref 146, .ref 147, .ref 148, .ref 149, .ref 150, .ref 151, .ref 152, .ref 153, .ref 154, .ref 155, .ref 156, .ref 157, .ref 158, .ref 159, .ref 160, .ref 161, .ref 162, .ref 163, .ref 164, .ref 165, .ref 166, .ref 167, .ref 168, .ref 169, .ref 170, .ref 171, .ref 172, .ref 173, .ref 174, .ref 175, .ref 176, .ref 177, .ref 178, .ref 179, .ref 180, .ref 181, .ref 182, .ref 183, .ref 184, .ref 185, .ref 186, .ref 187, .ref 188, .ref 189, .ref 190, .ref 191, .ref 192, .ref 193, .ref 194, .ref 195, .ref 196, .ref 197, .ref 198, .ref 199, .ref 200, .ref 201, .ref 202, .ref 203, .ref 204, .ref 205, .ref 206, .ref 207, .ref 208, .ref 209, .ref 210, .ref 211, .ref 212, .ref 213, .ref 214, .ref 215, .ref 216, .ref 217, .ref 218, .ref 219, .ref 220, .ref 221, .ref 222, .ref 223, .ref 224, .ref 225, .ref 226, .ref 227, .ref 228, .ref 229, .ref 230, .ref 231, .ref 232, .ref 233, .ref 234, .ref 235, .ref 236, .ref 237, .ref 238, .ref 239, .ref 240, .ref 241, .ref 242, .ref 243, .ref 244, .ref 245, .ref 246, .ref 247, .ref 248, .ref 249, .ref 250, .ref 251, .ref 252, .ref 253, .ref 254, .ref 255, .ref 256, .ref 257, .ref 258, .ref 259], vm := .none },
  { cls := 23, slots := #[.int (-128)], vm := .none },
  { cls := 23, slots := #[.int (-127)], vm := .none },
  { cls := 23, slots := #[.int (-126)], vm := .none },
  { cls := 23, slots := #[.int (-125)], vm := .none },
  { cls := 23, slots := #[.int (-124)], vm := .none },
  { cls := 23, slots := #[.int (-123)], vm := .none },
  { cls := 23, slots := #[.int (-122)], vm := .none },
  { cls := 23, slots := #[.int (-121)], vm := .none },
  { cls := 23, slots := #[.int (-120)], vm := .none },
  { cls := 23, slots := #[.int (-119)], vm := .none },
  { cls := 23, slots := #[.int (-118)], vm := .none },
  { cls := 23, slots := #[.int (-117)], vm := .none },
  { cls := 23, slots := #[.int (-116)], vm := .none },
  { cls := 23, slots := #[.int (-115)], vm := .none },
  { cls := 23, slots := #[.int (-114)], vm := .none },
  { cls := 23, slots := #[.int (-113)], vm := .none },
  { cls := 23, slots := #[.int (-112)], vm := .none },
  { cls := 23, slots := #[.int (-111)], vm := .none },
  { cls := 23, slots := #[.int (-110)], vm := .none },
  { cls := 23, slots := #[.int (-109)], vm := .none },
  { cls := 23, slots := #[.int (-108)], vm := .none },
  { cls := 23, slots := #[.int (-107)], vm := .none },
  { cls := 23, slots := #[.int (-106)], vm := .none },
  { cls := 23, slots := #[.int (-105)], vm := .none },
  { cls := 23, slots := #[.int (-104)], vm := .none },
  { cls := 23, slots := #[.int (-103)], vm := .none },
  { cls := 23, slots := #[.int (-102)], vm := .none },
  { cls := 23, slots := #[.int (-101)], vm := .none },
  { cls := 23, slots := #[.int (-100)], vm := .none },
  { cls := 23, slots := #[.int (-99)], vm := .none },
  { cls := 23, slots := #[.int (-98)], vm := .none },
  { cls := 23, slots := #[.int (-97)], vm := .none },
  { cls := 23, slots := #[.int (-96)], vm := .none },
  { cls := 23, slots := #[.int (-95)], vm := .none },
  { cls := 23, slots := #[.int (-94)], vm := .none },
  { cls := 23, slots := #[.int (-93)], vm := .none },
  { cls := 23, slots := #[.int (-92)], vm := .none },
  { cls := 23, slots := #[.int (-91)], vm := .none },
  { cls := 23, slots := #[.int (-90)], vm := .none },
  { cls := 23, slots := #[.int (-89)], vm := .none },
  { cls := 23, slots := #[.int (-88)], vm := .none },
  { cls := 23, slots := #[.int (-87)], vm := .none },
  { cls := 23, slots := #[.int (-86)], vm := .none },
  { cls := 23, slots := #[.int (-85)], vm := .none },
  { cls := 23, slots := #[.int (-84)], vm := .none },
  { cls := 23, slots := #[.int (-83)], vm := .none },
  { cls := 23, slots := #[.int (-82)], vm := .none },
  { cls := 23, slots := #[.int (-81)], vm := .none },
  { cls := 23, slots := #[.int (-80)], vm := .none },
  { cls := 23, slots := #[.int (-79)], vm := .none },
  { cls := 23, slots := #[.int (-78)], vm := .none },
  { cls := 23, slots := #[.int (-77)], vm := .none },
  { cls := 23, slots := #[.int (-76)], vm := .none },
  { cls := 23, slots := #[.int (-75)], vm := .none },
  { cls := 23, slots := #[.int (-74)], vm := .none },
  { cls := 23, slots := #[.int (-73)], vm := .none },
  { cls := 23, slots := #[.int (-72)], vm := .none },
  { cls := 23, slots := #[.int (-71)], vm := .none },
  { cls := 23, slots := #[.int (-70)], vm := .none },
  { cls := 23, slots := #[.int (-69)], vm := .none },
  { cls := 23, slots := #[.int (-68)], vm := .none },
  { cls := 23, slots := #[.int (-67)], vm := .none },
  { cls := 23, slots := #[.int (-66)], vm := .none },
  { cls := 23, slots := #[.int (-65)], vm := .none },
  { cls := 23, slots := #[.int (-64)], vm := .none },
  { cls := 23, slots := #[.int (-63)], vm := .none },
  { cls := 23, slots := #[.int (-62)], vm := .none },
  { cls := 23, slots := #[.int (-61)], vm := .none },
  { cls := 23, slots := #[.int (-60)], vm := .none },
  { cls := 23, slots := #[.int (-59)], vm := .none },
  { cls := 23, slots := #[.int (-58)], vm := .none },
  { cls := 23, slots := #[.int (-57)], vm := .none },
  { cls := 23, slots := #[.int (-56)], vm := .none },
  { cls := 23, slots := #[.int (-55)], vm := .none },
  { cls := 23, slots := #[.int (-54)], vm := .none },
  { cls := 23, slots := #[.int (-53)], vm := .none },
  { cls := 23, slots := #[.int (-52)], vm := .none },
  { cls := 23, slots := #[.int (-51)], vm := .none },
  { cls := 23, slots := #[.int (-50)], vm := .none },
  { cls := 23, slots := #[.int (-49)], vm := .none },
  { cls := 23, slots := #[.int (-48)], vm := .none },
  { cls := 23, slots := #[.int (-47)], vm := .none },
  { cls := 23, slots := #[.int (-46)], vm := .none },
  { cls := 23, slots := #[.int (-45)], vm := .none },
  { cls := 23, slots := #[.int (-44)], vm := .none },
  { cls := 23, slots := #[.int (-43)], vm := .none },
  { cls := 23, slots := #[.int (-42)], vm := .none },
  { cls := 23, slots := #[.int (-41)], vm := .none },
  { cls := 23, slots := #[.int (-40)], vm := .none },
  { cls := 23, slots := #[.int (-39)], vm := .none },
  { cls := 23, slots := #[.int (-38)], vm := .none },
  { cls := 23, slots := #[.int (-37)], vm := .none },
  { cls := 23, slots := #[.int (-36)], vm := .none },
  { cls := 23, slots := #[.int (-35)], vm := .none },
  { cls := 23, slots := #[.int (-34)], vm := .none },
  { cls := 23, slots := #[.int (-33)], vm := .none },
  { cls := 23, slots := #[.int (-32)], vm := .none },
  { cls := 23, slots := #[.int (-31)], vm := .none },
  { cls := 23, slots := #[.int (-30)], vm := .none },
  { cls := 23, slots := #[.int (-29)], vm := .none },
  { cls := 23, slots := #[.int (-28)], vm := .none },
  { cls := 23, slots := #[.int (-27)], vm := .none },
  { cls := 23, slots := #[.int (-26)], vm := .none },
  { cls := 23, slots := #[.int (-25)], vm := .none },
  { cls := 23, slots := #[.int (-24)], vm := .none },
  { cls := 23, slots := #[.int (-23)], vm := .none },
  { cls := 23, slots := #[.int (-22)], vm := .none },
  { cls := 23, slots := #[.int (-21)], vm := .none },
  { cls := 23, slots := #[.int (-20)], vm := .none },
  { cls := 23, slots := #[.int (-19)], vm := .none },
  { cls := 23, slots := #[.int (-18)], vm := .none },
  { cls := 23, slots := #[.int (-17)], vm := .none },
  { cls := 23, slots := #[.int (-16)], vm := .none },
  { cls := 23, slots := #[.int (-15)], vm := .none },
  { cls := 23, slots := #[.int (-14)], vm := .none },
  { cls := 23, slots := #[.int (-13)], vm := .none },
  { cls := 23, slots := #[.int (-12)], vm := .none },
  { cls := 23, slots := #[.int (-11)], vm := .none },
  { cls := 23, slots := #[.int (-10)], vm := .none },
  { cls := 23, slots := #[.int (-9)], vm := .none },
  { cls := 23, slots := #[.int (-8)], vm := .none },
  { cls := 23, slots := #[.int (-7)], vm := .none },
  { cls := 23, slots := #[.int (-6)], vm := .none },
  { cls := 23, slots := #[.int (-5)], vm := .none },
  { cls := 23, slots := #[.int (-4)], vm := .none },
  { cls := 23, slots := #[.int (-3)], vm := .none },
  { cls := 23, slots := #[.int (-2)], vm := .none },
  { cls := 23, slots := #[.int (-1)], vm := .none },
  { cls := 23, slots := #[.int 0], vm := .none },
  { cls := 23, slots := #[.int 1], vm := .none },
  { cls := 23, slots := #[.int 2], vm := .none },
  { cls := 23, slots := #[.int 3], vm := .none },
  { cls := 23, slots := #[.int 4], vm := .none },
  { cls := 23, slots := #[.int 5], vm := .none },
  { cls := 23, slots := #[.int 6], vm := .none },
  { cls := 23, slots := #[.int 7], vm := .none },
  { cls := 23, slots := #[.int 8], vm := .none },
  { cls := 23, slots := #[.int 9], vm := .none },
  { cls := 23, slots := #[.int 10], vm := .none },
  { cls := 23, slots := #[.int 11], vm := .none },
  { cls := 23, slots := #[.int 12], vm := .none },
  { cls := 23, slots := #[.int 13], vm := .none },
  { cls := 23, slots := #[.int 14], vm := .none },
  { cls := 23, slots := #[.int 15], vm := .none },
  { cls := 23, slots := #[.int 16], vm := .none },
  { cls := 23, slots := #[.int 17], vm := .none },
  { cls := 23, slots := #[.int 18], vm := .none },
  { cls := 23, slots := #[.int 19], vm := .none },
  { cls := 23, slots := #[.int 20], vm := .none },
  { cls := 23, slots := #[.int 21], vm := .none },
  { cls := 23, slots := #[.int 22], vm := .none },
  { cls := 23, slots := #[.int 23], vm := .none },
  { cls := 23, slots := #[.int 24], vm := .none },
  { cls := 23, slots := #[.int 25], vm := .none },
  { cls := 23, slots := #[.int 26], vm := .none },
  { cls := 23, slots := #[.int 27], vm := .none },
  { cls := 23, slots := #[.int 28], vm := .none },
  { cls := 23, slots := #[.int 29], vm := .none },
  { cls := 23, slots := #[.int 30], vm := .none },
  { cls := 23, slots := #[.int 31], vm := .none },
  { cls := 23, slots := #[.int 32], vm := .none },
  { cls := 23, slots := #[.int 33], vm := .none },
  { cls := 23, slots := #[.int 34], vm := .none },
  { cls := 23, slots := #[.int 35], vm := .none },
  { cls := 23, slots := #[.int 36], vm := .none },
  { cls := 23, slots := #[.int 37], vm := .none },
  { cls := 23, slots := #[.int 38], vm := .none },
  { cls := 23, slots := #[.int 39], vm := .none },
  { cls := 23, slots := #[.int 40], vm := .none },
  { cls := 23, slots := #[.int 41], vm := .none },
  { cls := 23, slots := #[.int 42], vm := .none },
  { cls := 23, slots := #[.int 43], vm := .none },
  { cls := 23, slots := #[.int 44], vm := .none },
  { cls := 23, slots := #[.int 45], vm := .none },
  { cls := 23, slots := #[.int 46], vm := .none },
  { cls := 23, slots := #[.int 47], vm := .none },
  { cls := 23, slots := #[.int 48], vm := .none },
  { cls := 23, slots := #[.int 49], vm := .none },
  { cls := 23, slots := #[.int 50], vm := .none },
  { cls := 23, slots := #[.int 51], vm := .none },
  { cls := 23, slots := #[.int 52], vm := .none },
  { cls := 23, slots := #[.int 53], vm := .none },
  { cls := 23, slots := #[.int 54], vm := .none },
  { cls := 23, slots := #[.int 55], vm := .none },
  { cls := 23, slots := #[.int 56], vm := .none },
  { cls := 23, slots := #[.int 57], vm := .none },
  { cls := 23, slots := #[.int 58], vm := .none },
  { cls := 23, slots := #[.int 59], vm := .none },
  { cls := 23, slots := #[.int 60], vm := .none },
  { cls := 23, slots := #[.int 61], vm := .none },
  { cls := 23, slots := #[.int 62], vm := .none },
  { cls := 23, slots := #[.int 63], vm := .none },
  { cls := 23, slots := #[.int 64], vm := .none },
  { cls := 23, slots := #[.int 65], vm := .none },
  { cls := 23, slots := #[.int 66], vm := .none },
  { cls := 23, slots := #[.int 67], vm := .none },
  { cls := 23, slots := #[.int 68], vm := .none },
  { cls := 23, slots := #[.int 69], vm := .none },
  { cls := 23, slots := #[.int 70], vm := .none },
  { cls := 23, slots := #[.int 71], vm := .none },
  { cls := 23, slots := #[.int 72], vm := .none },
  { cls := 23, slots := #[.int 73], vm := .none },
  { cls := 23, slots := #[.int 74], vm := .none },
  { cls := 23, slots := #[.int 75], vm := .none },
  { cls := 23, slots := #[.int 76], vm := .none },
  { cls := 23, slots := #[.int 77], vm := .none },
  { cls := 23, slots := #[.int 78], vm := .none },
  { cls := 23, slots := #[.int 79], vm := .none },
  { cls := 23, slots := #[.int 80], vm := .none },
  { cls := 23, slots := #[.int 81], vm := .none },
  { cls := 23, slots := #[.int 82], vm := .none },
  { cls := 23, slots := #[.int 83], vm := .none },
  { cls := 23, slots := #[.int 84], vm := .none },
  { cls := 23, slots := #[.int 85], vm := .none },
  { cls := 23, slots := #[.int 86], vm := .none },
  { cls := 23, slots := #[.int 87], vm := .none },
  { cls := 23, slots := #[.int 88], vm := .none },
  { cls := 23, slots := #[.int 89], vm := .none },
  { cls := 23, slots := #[.int 90], vm := .none },
  { cls := 23, slots := #[.int 91], vm := .none },
  { cls := 23, slots := #[.int 92], vm := .none },
  { cls := 23, slots := #[.int 93], vm := .none },
  { cls := 23, slots := #[.int 94], vm := .none },
  { cls := 23, slots := #[.int 95], vm := .none },
  { cls := 23, slots := #[.int 96], vm := .none },
  { cls := 23, slots := #[.int 97], vm := .none },
  { cls := 23, slots := #[.int 98], vm := .none },
  { cls := 23, slots := #[.int 99], vm := .none },
  { cls := 23, slots := #[.int 100], vm := .none },
  { cls := 23, slots := #[.int 101], vm := .none },
  { cls := 23, slots := #[.int 102], vm := .none },
  { cls := 23, slots := #[.int 103], vm := .none },
  { cls := 23, slots := #[.int 104], vm := .none },
  { cls := 23, slots := #[.int 105], vm := .none },
  { cls := 23, slots := #[.int 106], vm := .none },
  { cls := 23, slots := #[.int 107], vm := .none },
  { cls := 23, slots := #[.int 108], vm := .none },
  { cls := 23, slots := #[.int 109], vm := .none },
  { cls := 23, slots := #[.int 110], vm := .none },
  { cls := 23, slots := #[.int 111], vm := .none },
  { cls := 23, slots := #[.int 112], vm := .none },
  { cls := 23, slots := #[.int 113], vm := .none },
  { cls := 23, slots := #[.int 114], vm := .none },
  { cls := 23, slots := #[.int 115], vm := .none },
  { cls := 23, slots := #[.int 116], vm := .none },
  { cls := 23, slots := #[.int 117], vm := .none },
  { cls := 23, slots := #[.int 118], vm := .none },
  { cls := 23, slots := #[.int 119], vm := .none },
  { cls := 23, slots := #[.int 120], vm := .none },
  { cls := 23, slots := #[.int 121], vm := .none },
  { cls := 23, slots := #[.int 122], vm := .none },
  { cls := 23, slots := #[.int 123], vm := .none },
  { cls := 23, slots := #[.int 124], vm := .none },
  { cls := 23, slots := #[.int 125], vm := .none },
  { cls := 23, slots := #[.int 126], vm := .none },
  { cls := 23, slots := #[.int 127], vm := .none },
  { cls := 19, slots := #[.null, .int 2, .int 0], vm := .none },
  { cls := 32, slots := #[], vm := .none },
  { cls := 32, slots := #[], vm := .none }]
def classes : Array Class := #[k0, k1, k2, k3, k4, k5, k6, k7, k8, k9, k10, k11, k12, k13, k14, k15, k16, k17, k18, k19, k20, k21, k22, k23, k24, k25, k26, k27, k28, k29, k30, k31, k32]
def interned : List (Array UInt16 × Addr) := []
def slotsUsed : Nat := 533
def theMethod : MethodId := ⟨1, 1⟩
def args0 : Array Value := #[.int 7, .int 1, .int 200, .int 3, .int 4]
def aboutOver (below : List Frame) : State where
  vm := { classes := classes, interned := interned.toArray }
  heap := heap
  slotsUsed := slotsUsed
  threads := #[{ frames := .invoking theMethod args0 :: below }]
def below0 : List Frame := [.native { method := ⟨0, 0⟩, args := #[] }]
def about1 : State := aboutOver below0
def p0 : Program := .bare "" "" ""
def e0 : Env := launch0.env 0 0 0
theorem w_frames : about1.frames = Frame.invoking theMethod args0 :: below0 := rfl
set_option maxRecDepth 65536 in
theorem w_args : argsFit about1.vm theMethod args0 = true := by decide +kernel
set_option maxRecDepth 65536 in
theorem w_heap : heapFits about1 = true := by decide +kernel
set_option maxRecDepth 65536 in
theorem w_runnable : about1.curStatus? = some .runnable := by decide +kernel
set_option maxRecDepth 65536 in
theorem w_alone : about1.alone = true := by decide +kernel
set_option maxRecDepth 65536 in
theorem w_named : about1.methodNamed? x = some theMethod := by decide +kernel
set_option maxRecDepth 65536 in
theorem w_hears : about1.hears theMethod below0 = true := by decide +kernel
set_option maxRecDepth 65536 in
theorem w_ripe : about1.ripe theMethod args0 below0 = true := by decide +kernel
theorem w_running : about1.status = .running := rfl
set_option maxRecDepth 65536 in
theorem w_room : about1.hasRoom e0.platform room_1 = true :=
  launch0.hasRoom_least _ room_1 (by decide +kernel) (by decide +kernel) (by decide +kernel) (by decide +kernel) (by decide +kernel) (by decide +kernel)
theorem allAtoms_all (ts : List Jvm.Cond) (a : Array Jvm.Value) (st : Jvm.State) : (allAtoms ts).before a st = ts.all (fun c => c.before a st) := by
  induction ts with
  | nil => rfl
  | cons c t ih =>
    show (Jvm.Cond.and c (allAtoms t)).before a st = _
    rw [Jvm.Cond.before_and, ih, List.all_cons]
def words1 : List Jvm.Cond := Jvm.Cond.code x code maxLocals ret :: tables_1
/-- a 'code' word, met by the world's own term for the bytes: nothing is compared byte by byte -/
theorem code_word {y : MethodName} {bytes : ByteArray} {mx : Nat} {rt : Option FieldType} {a : Array Value} {s : State} {m : MethodId} {meth : Method} {c : Code} (h1 : s.methodNamed? y = some m) (h2 : s.vm.method? m = some meth) (h3 : meth.code = some c) (h4 : c.code = bytes)
    (h5 : (c.maxLocals == mx && c.exceptionTable.isEmpty && decide (c.maxStack ≤ mostOperands) && decide (meth.sig.returnType = rt) && !meth.locks && decide (parseMethodDescriptor y.desc = some meth.sig)) = true) : (Jvm.Cond.code y bytes mx rt).before a s = true := by
  simp only [Bool.and_eq_true, beq_iff_eq, Bool.not_eq_true', decide_eq_true_eq] at h5
  obtain ⟨⟨⟨⟨⟨g1, g2⟩, g3⟩, g4⟩, g5⟩, g6⟩ := h5
  simp [Cond.before, Cond.holds, Cond.value, h1, h2, h3, h4, g1, g2, g3, g4, g5, g6]
def isCode : Jvm.Cond → Bool
  | .code _ _ _ _ => true
  | _ => false
theorem all_split {L : List Jvm.Cond} {P : Jvm.Cond → Bool} (h1 : L.all (fun c => isCode c || P c) = true) (h2 : ∀ c ∈ L.filter isCode, P c = true) : L.all P = true := by
  refine List.all_eq_true.mpr fun c hc => ?_
  have h := List.all_eq_true.mp h1 c hc
  rcases Bool.eq_false_or_eq_true (isCode c) with hi | hi
  · exact h2 c (List.mem_filter.mpr ⟨hc, hi⟩)
  · simpa [hi] using h
set_option maxRecDepth 65536 in
theorem w_c0 : (Jvm.Cond.code x code maxLocals ret).before args0 about1 = true := code_word (m := ⟨1, 1⟩) (meth := k1m1) (c := k1c1) (by decide +kernel) rfl rfl rfl (by decide +kernel)
set_option maxRecDepth 65536 in
theorem w_c1 : (Jvm.Cond.code ({ cls := "java/util/ArrayList", name := "<init>", desc := "()V" } : Jvm.MethodName) jdk_38_method_2_code (1 : Nat) (Option.none : Option Jvm.ClassFile.FieldType)).before args0 about1 = true := code_word (m := ⟨11, 0⟩) (meth := k11m0) (c := k11c0) (by decide +kernel) rfl rfl rfl (by decide +kernel)
set_option maxRecDepth 65536 in
theorem w_c2 : (Jvm.Cond.code ({ cls := "java/util/AbstractList", name := "<init>", desc := "()V" } : Jvm.MethodName) jdk_39_method_1_code (1 : Nat) (Option.none : Option Jvm.ClassFile.FieldType)).before args0 about1 = true := code_word (m := ⟨7, 0⟩) (meth := k7m0) (c := k7c0) (by decide +kernel) rfl rfl rfl (by decide +kernel)
set_option maxRecDepth 65536 in
theorem w_c3 : (Jvm.Cond.code ({ cls := "java/util/AbstractCollection", name := "<init>", desc := "()V" } : Jvm.MethodName) jdk_22_method_1_code (1 : Nat) (Option.none : Option Jvm.ClassFile.FieldType)).before args0 about1 = true := code_word (m := ⟨4, 0⟩) (meth := k4m0) (c := k4c0) (by decide +kernel) rfl rfl rfl (by decide +kernel)
set_option maxRecDepth 65536 in
theorem w_c4 : (Jvm.Cond.code ({ cls := "java/lang/Object", name := "<init>", desc := "()V" } : Jvm.MethodName) object_method_1_code (1 : Nat) (Option.none : Option Jvm.ClassFile.FieldType)).before args0 about1 = true := code_word (m := ⟨0, 0⟩) (meth := k0m0) (c := k0c0) (by decide +kernel) rfl rfl rfl (by decide +kernel)
set_option maxRecDepth 65536 in
theorem w_c5 : (Jvm.Cond.code ({ cls := "com/example/lassoo/lassoo/lang/BuchiAutomaton$Transition", name := "<init>", desc := "(Ljava/util/Collection;I)V" } : Jvm.MethodName) prog_25_method_1_code (3 : Nat) (Option.none : Option Jvm.ClassFile.FieldType)).before args0 about1 = true := code_word (m := ⟨12, 0⟩) (meth := k12m0) (c := k12c0) (by decide +kernel) rfl rfl rfl (by decide +kernel)
set_option maxRecDepth 65536 in
theorem w_c6 : (Jvm.Cond.code ({ cls := "com/example/lassoo/lassoo/lang/BuchiAutomaton$Transition", name := "propositions", desc := "(Ljava/util/Collection;Z)[I" } : Jvm.MethodName) prog_25_method_2_code (5 : Nat) (Option.some (Jvm.ClassFile.FieldType.array Jvm.ClassFile.FieldType.int))).before args0 about1 = true := code_word (m := ⟨12, 1⟩) (meth := k12m1) (c := k12c1) (by decide +kernel) rfl rfl rfl (by decide +kernel)
set_option maxRecDepth 65536 in
theorem w_c7 : (Jvm.Cond.code ({ cls := "java/util/ArrayList", name := "iterator", desc := "()Ljava/util/Iterator;" } : Jvm.MethodName) jdk_38_method_55_code (1 : Nat) (Option.some (Jvm.ClassFile.FieldType.object "java/util/Iterator"))).before args0 about1 = true := code_word (m := ⟨11, 8⟩) (meth := k11m8) (c := k11c8) (by decide +kernel) rfl rfl rfl (by decide +kernel)
set_option maxRecDepth 65536 in
theorem w_c8 : (Jvm.Cond.code ({ cls := "java/util/ArrayList$Itr", name := "<init>", desc := "(Ljava/util/ArrayList;)V" } : Jvm.MethodName) jdk_49_method_1_code (2 : Nat) (Option.none : Option Jvm.ClassFile.FieldType)).before args0 about1 = true := code_word (m := ⟨14, 0⟩) (meth := k14m0) (c := k14c0) (by decide +kernel) rfl rfl rfl (by decide +kernel)
set_option maxRecDepth 65536 in
theorem w_c9 : (Jvm.Cond.code ({ cls := "java/util/ArrayList$Itr", name := "hasNext", desc := "()Z" } : Jvm.MethodName) jdk_49_method_2_code (1 : Nat) (Option.some Jvm.ClassFile.FieldType.boolean)).before args0 about1 = true := code_word (m := ⟨14, 1⟩) (meth := k14m1) (c := k14c1) (by decide +kernel) rfl rfl rfl (by decide +kernel)
set_option maxRecDepth 65536 in
theorem w_c10 : (Jvm.Cond.code ({ cls := "java/util/ArrayList", name := "size", desc := "()I" } : Jvm.MethodName) jdk_38_method_8_code (1 : Nat) (Option.some Jvm.ClassFile.FieldType.int)).before args0 about1 = true := code_word (m := ⟨11, 3⟩) (meth := k11m3) (c := k11c3) (by decide +kernel) rfl rfl rfl (by decide +kernel)
set_option maxRecDepth 65536 in
theorem w_c11 : (Jvm.Cond.code ({ cls := "com/example/lassoo/lassoo/lang/BuchiAutomaton$Transition", name := "literals", desc := "(Z)[I" } : Jvm.MethodName) prog_25_method_5_code (2 : Nat) (Option.some (Jvm.ClassFile.FieldType.array Jvm.ClassFile.FieldType.int))).before args0 about1 = true := code_word (m := ⟨12, 2⟩) (meth := k12m2) (c := k12c2) (by decide +kernel) rfl rfl rfl (by decide +kernel)
set_option maxRecDepth 65536 in
theorem w_c12 : (Jvm.Cond.code ({ cls := "com/example/lassoo/lassoo/lang/TransitionLiteralsPinLaw", name := "matches", desc := "([IIIIIZZZZ)Z" } : Jvm.MethodName) method_3_code (11 : Nat) (Option.some Jvm.ClassFile.FieldType.boolean)).before args0 about1 = true := code_word (m := ⟨1, 2⟩) (meth := k1m2) (c := k1c2) (by decide +kernel) rfl rfl rfl (by decide +kernel)
set_option maxRecDepth 65536 in
theorem w_c13 : (Jvm.Cond.code ({ cls := "com/example/lassoo/lassoo/lang/NormalFormula", name := "literal", desc := "(IZ)Lcom/example/lassoo/lassoo/lang/NormalFormula;" } : Jvm.MethodName) prog_48_method_2_code (2 : Nat) (Option.some (Jvm.ClassFile.FieldType.object "com/example/lassoo/lassoo/lang/NormalFormula"))).before args0 about1 = true := code_word (m := ⟨15, 1⟩) (meth := k15m1) (c := k15c1) (by decide +kernel) rfl rfl rfl (by decide +kernel)
set_option maxRecDepth 65536 in
theorem w_c14 : (Jvm.Cond.code ({ cls := "com/example/lassoo/lassoo/lang/NormalFormula", name := "<init>", desc := "(Lcom/example/lassoo/lassoo/lang/NormalFormula$Kind;IZLcom/example/lassoo/lassoo/lang/NormalFormula;Lcom/example/lassoo/lassoo/lang/NormalFormula;)V" } : Jvm.MethodName) prog_48_method_1_code (7 : Nat) (Option.none : Option Jvm.ClassFile.FieldType)).before args0 about1 = true := code_word (m := ⟨15, 0⟩) (meth := k15m0) (c := k15c0) (by decide +kernel) rfl rfl rfl (by decide +kernel)
set_option maxRecDepth 65536 in
theorem w_c15 : (Jvm.Cond.code ({ cls := "java/lang/Enum", name := "ordinal", desc := "()I" } : Jvm.MethodName) jdk_37_method_2_code (1 : Nat) (Option.some Jvm.ClassFile.FieldType.int)).before args0 about1 = true := code_word (m := ⟨18, 0⟩) (meth := k18m0) (c := k18c0) (by decide +kernel) rfl rfl rfl (by decide +kernel)
set_option maxRecDepth 65536 in
theorem w_c16 : (Jvm.Cond.code ({ cls := "java/util/ArrayList", name := "add", desc := "(Ljava/lang/Object;)Z" } : Jvm.MethodName) jdk_38_method_25_code (2 : Nat) (Option.some Jvm.ClassFile.FieldType.boolean)).before args0 about1 = true := code_word (m := ⟨11, 7⟩) (meth := k11m7) (c := k11c7) (by decide +kernel) rfl rfl rfl (by decide +kernel)
set_option maxRecDepth 65536 in
theorem w_c17 : (Jvm.Cond.code ({ cls := "java/util/ArrayList", name := "add", desc := "(Ljava/lang/Object;[Ljava/lang/Object;I)V" } : Jvm.MethodName) jdk_38_method_24_code (4 : Nat) (Option.none : Option Jvm.ClassFile.FieldType)).before args0 about1 = true := code_word (m := ⟨11, 6⟩) (meth := k11m6) (c := k11c6) (by decide +kernel) rfl rfl rfl (by decide +kernel)
set_option maxRecDepth 65536 in
theorem w_c18 : (Jvm.Cond.code ({ cls := "java/util/ArrayList", name := "grow", desc := "()[Ljava/lang/Object;" } : Jvm.MethodName) jdk_38_method_7_code (1 : Nat) (Option.some (Jvm.ClassFile.FieldType.array (Jvm.ClassFile.FieldType.object "java/lang/Object")))).before args0 about1 = true := code_word (m := ⟨11, 2⟩) (meth := k11m2) (c := k11c2) (by decide +kernel) rfl rfl rfl (by decide +kernel)
set_option maxRecDepth 65536 in
theorem w_c19 : (Jvm.Cond.code ({ cls := "java/util/ArrayList", name := "grow", desc := "(I)[Ljava/lang/Object;" } : Jvm.MethodName) jdk_38_method_6_code (4 : Nat) (Option.some (Jvm.ClassFile.FieldType.array (Jvm.ClassFile.FieldType.object "java/lang/Object")))).before args0 about1 = true := code_word (m := ⟨11, 1⟩) (meth := k11m1) (c := k11c1) (by decide +kernel) rfl rfl rfl (by decide +kernel)
set_option maxRecDepth 65536 in
theorem w_c20 : (Jvm.Cond.code ({ cls := "java/lang/Math", name := "max", desc := "(II)I" } : Jvm.MethodName) jdk_29_method_65_code (2 : Nat) (Option.some Jvm.ClassFile.FieldType.int)).before args0 about1 = true := code_word (m := ⟨20, 1⟩) (meth := k20m1) (c := k20c1) (by decide +kernel) rfl rfl rfl (by decide +kernel)
set_option maxRecDepth 65536 in
theorem w_c21 : (Jvm.Cond.code ({ cls := "java/util/ArrayList$Itr", name := "next", desc := "()Ljava/lang/Object;" } : Jvm.MethodName) jdk_49_method_3_code (3 : Nat) (Option.some (Jvm.ClassFile.FieldType.object "java/lang/Object"))).before args0 about1 = true := code_word (m := ⟨14, 2⟩) (meth := k14m2) (c := k14c2) (by decide +kernel) rfl rfl rfl (by decide +kernel)
set_option maxRecDepth 65536 in
theorem w_c22 : (Jvm.Cond.code ({ cls := "java/util/ArrayList$Itr", name := "checkForComodification", desc := "()V" } : Jvm.MethodName) jdk_49_method_6_code (1 : Nat) (Option.none : Option Jvm.ClassFile.FieldType)).before args0 about1 = true := code_word (m := ⟨14, 3⟩) (meth := k14m3) (c := k14c3) (by decide +kernel) rfl rfl rfl (by decide +kernel)
set_option maxRecDepth 65536 in
theorem w_c23 : (Jvm.Cond.code ({ cls := "com/example/lassoo/lassoo/lang/NormalFormula", name := "isNegated", desc := "()Z" } : Jvm.MethodName) prog_48_method_13_code (1 : Nat) (Option.some Jvm.ClassFile.FieldType.boolean)).before args0 about1 = true := code_word (m := ⟨15, 3⟩) (meth := k15m3) (c := k15c3) (by decide +kernel) rfl rfl rfl (by decide +kernel)
set_option maxRecDepth 65536 in
theorem w_c24 : (Jvm.Cond.code ({ cls := "com/example/lassoo/lassoo/lang/NormalFormula", name := "proposition", desc := "()I" } : Jvm.MethodName) prog_48_method_12_code (1 : Nat) (Option.some Jvm.ClassFile.FieldType.int)).before args0 about1 = true := code_word (m := ⟨15, 2⟩) (meth := k15m2) (c := k15c2) (by decide +kernel) rfl rfl rfl (by decide +kernel)
set_option maxRecDepth 65536 in
theorem w_c25 : (Jvm.Cond.code ({ cls := "java/lang/Integer", name := "valueOf", desc := "(I)Ljava/lang/Integer;" } : Jvm.MethodName) jdk_33_method_22_code (1 : Nat) (Option.some (Jvm.ClassFile.FieldType.object "java/lang/Integer"))).before args0 about1 = true := code_word (m := ⟨23, 0⟩) (meth := k23m0) (c := k23c0) (by decide +kernel) rfl rfl rfl (by decide +kernel)
set_option maxRecDepth 65536 in
theorem w_c26 : (Jvm.Cond.code ({ cls := "java/util/ArrayList", name := "get", desc := "(I)Ljava/lang/Object;" } : Jvm.MethodName) jdk_38_method_20_code (2 : Nat) (Option.some (Jvm.ClassFile.FieldType.object "java/lang/Object"))).before args0 about1 = true := code_word (m := ⟨11, 5⟩) (meth := k11m5) (c := k11c5) (by decide +kernel) rfl rfl rfl (by decide +kernel)
set_option maxRecDepth 65536 in
theorem w_c27 : (Jvm.Cond.code ({ cls := "java/util/Objects", name := "checkIndex", desc := "(II)I" } : Jvm.MethodName) jdk_31_method_17_code (2 : Nat) (Option.some Jvm.ClassFile.FieldType.int)).before args0 about1 = true := code_word (m := ⟨25, 1⟩) (meth := k25m1) (c := k25c1) (by decide +kernel) rfl rfl rfl (by decide +kernel)
set_option maxRecDepth 65536 in
theorem w_c28 : (Jvm.Cond.code ({ cls := "jdk/internal/util/Preconditions", name := "checkIndex", desc := "(IILjava/util/function/BiFunction;)I" } : Jvm.MethodName) jdk_41_method_11_code (3 : Nat) (Option.some Jvm.ClassFile.FieldType.int)).before args0 about1 = true := code_word (m := ⟨26, 1⟩) (meth := k26m1) (c := k26c1) (by decide +kernel) rfl rfl rfl (by decide +kernel)
set_option maxRecDepth 65536 in
theorem w_c29 : (Jvm.Cond.code ({ cls := "java/util/ArrayList", name := "elementData", desc := "(I)Ljava/lang/Object;" } : Jvm.MethodName) jdk_38_method_18_code (2 : Nat) (Option.some (Jvm.ClassFile.FieldType.object "java/lang/Object"))).before args0 about1 = true := code_word (m := ⟨11, 4⟩) (meth := k11m4) (c := k11c4) (by decide +kernel) rfl rfl rfl (by decide +kernel)
set_option maxRecDepth 65536 in
theorem w_c30 : (Jvm.Cond.code ({ cls := "java/lang/Integer", name := "intValue", desc := "()I" } : Jvm.MethodName) jdk_33_method_27_code (1 : Nat) (Option.some Jvm.ClassFile.FieldType.int)).before args0 about1 = true := code_word (m := ⟨23, 2⟩) (meth := k23m2) (c := k23c2) (by decide +kernel) rfl rfl rfl (by decide +kernel)
set_option maxRecDepth 65536 in
theorem w_c31 : (Jvm.Cond.code ({ cls := "java/lang/Integer", name := "<init>", desc := "(I)V" } : Jvm.MethodName) jdk_33_method_23_code (2 : Nat) (Option.none : Option Jvm.ClassFile.FieldType)).before args0 about1 = true := code_word (m := ⟨23, 1⟩) (meth := k23m1) (c := k23c1) (by decide +kernel) rfl rfl rfl (by decide +kernel)
set_option maxRecDepth 65536 in
theorem w_c32 : (Jvm.Cond.code ({ cls := "java/lang/Number", name := "<init>", desc := "()V" } : Jvm.MethodName) jdk_18_method_1_code (1 : Nat) (Option.none : Option Jvm.ClassFile.FieldType)).before args0 about1 = true := code_word (m := ⟨21, 0⟩) (meth := k21m0) (c := k21c0) (by decide +kernel) rfl rfl rfl (by decide +kernel)
def codes1 : List Jvm.Cond := [Jvm.Cond.code x code maxLocals ret, Jvm.Cond.code ({ cls := "java/util/ArrayList", name := "<init>", desc := "()V" } : Jvm.MethodName) jdk_38_method_2_code (1 : Nat) (Option.none : Option Jvm.ClassFile.FieldType), Jvm.Cond.code ({ cls := "java/util/AbstractList", name := "<init>", desc := "()V" } : Jvm.MethodName) jdk_39_method_1_code (1 : Nat) (Option.none : Option Jvm.ClassFile.FieldType), Jvm.Cond.code ({ cls := "java/util/AbstractCollection", name := "<init>", desc := "()V" } : Jvm.MethodName) jdk_22_method_1_code (1 : Nat) (Option.none : Option Jvm.ClassFile.FieldType), Jvm.Cond.code ({ cls := "java/lang/Object", name := "<init>", desc := "()V" } : Jvm.MethodName) object_method_1_code (1 : Nat) (Option.none : Option Jvm.ClassFile.FieldType), Jvm.Cond.code ({ cls := "com/example/lassoo/lassoo/lang/BuchiAutomaton$Transition", name := "<init>", desc := "(Ljava/util/Collection;I)V" } : Jvm.MethodName) prog_25_method_1_code (3 : Nat) (Option.none : Option Jvm.ClassFile.FieldType), Jvm.Cond.code ({ cls := "com/example/lassoo/lassoo/lang/BuchiAutomaton$Transition", name := "propositions", desc := "(Ljava/util/Collection;Z)[I" } : Jvm.MethodName) prog_25_method_2_code (5 : Nat) (Option.some (Jvm.ClassFile.FieldType.array Jvm.ClassFile.FieldType.int)), Jvm.Cond.code ({ cls := "java/util/ArrayList", name := "iterator", desc := "()Ljava/util/Iterator;" } : Jvm.MethodName) jdk_38_method_55_code (1 : Nat) (Option.some (Jvm.ClassFile.FieldType.object "java/util/Iterator")), Jvm.Cond.code ({ cls := "java/util/ArrayList$Itr", name := "<init>", desc := "(Ljava/util/ArrayList;)V" } : Jvm.MethodName) jdk_49_method_1_code (2 : Nat) (Option.none : Option Jvm.ClassFile.FieldType), Jvm.Cond.code ({ cls := "java/util/ArrayList$Itr", name := "hasNext", desc := "()Z" } : Jvm.MethodName) jdk_49_method_2_code (1 : Nat) (Option.some Jvm.ClassFile.FieldType.boolean), Jvm.Cond.code ({ cls := "java/util/ArrayList", name := "size", desc := "()I" } : Jvm.MethodName) jdk_38_method_8_code (1 : Nat) (Option.some Jvm.ClassFile.FieldType.int), Jvm.Cond.code ({ cls := "com/example/lassoo/lassoo/lang/BuchiAutomaton$Transition", name := "literals", desc := "(Z)[I" } : Jvm.MethodName) prog_25_method_5_code (2 : Nat) (Option.some (Jvm.ClassFile.FieldType.array Jvm.ClassFile.FieldType.int)), Jvm.Cond.code ({ cls := "com/example/lassoo/lassoo/lang/TransitionLiteralsPinLaw", name := "matches", desc := "([IIIIIZZZZ)Z" } : Jvm.MethodName) method_3_code (11 : Nat) (Option.some Jvm.ClassFile.FieldType.boolean), Jvm.Cond.code ({ cls := "com/example/lassoo/lassoo/lang/NormalFormula", name := "literal", desc := "(IZ)Lcom/example/lassoo/lassoo/lang/NormalFormula;" } : Jvm.MethodName) prog_48_method_2_code (2 : Nat) (Option.some (Jvm.ClassFile.FieldType.object "com/example/lassoo/lassoo/lang/NormalFormula")), Jvm.Cond.code ({ cls := "com/example/lassoo/lassoo/lang/NormalFormula", name := "<init>", desc := "(Lcom/example/lassoo/lassoo/lang/NormalFormula$Kind;IZLcom/example/lassoo/lassoo/lang/NormalFormula;Lcom/example/lassoo/lassoo/lang/NormalFormula;)V" } : Jvm.MethodName) prog_48_method_1_code (7 : Nat) (Option.none : Option Jvm.ClassFile.FieldType), Jvm.Cond.code ({ cls := "java/lang/Enum", name := "ordinal", desc := "()I" } : Jvm.MethodName) jdk_37_method_2_code (1 : Nat) (Option.some Jvm.ClassFile.FieldType.int), Jvm.Cond.code ({ cls := "java/util/ArrayList", name := "add", desc := "(Ljava/lang/Object;)Z" } : Jvm.MethodName) jdk_38_method_25_code (2 : Nat) (Option.some Jvm.ClassFile.FieldType.boolean), Jvm.Cond.code ({ cls := "java/util/ArrayList", name := "add", desc := "(Ljava/lang/Object;[Ljava/lang/Object;I)V" } : Jvm.MethodName) jdk_38_method_24_code (4 : Nat) (Option.none : Option Jvm.ClassFile.FieldType), Jvm.Cond.code ({ cls := "java/util/ArrayList", name := "grow", desc := "()[Ljava/lang/Object;" } : Jvm.MethodName) jdk_38_method_7_code (1 : Nat) (Option.some (Jvm.ClassFile.FieldType.array (Jvm.ClassFile.FieldType.object "java/lang/Object"))), Jvm.Cond.code ({ cls := "java/util/ArrayList", name := "grow", desc := "(I)[Ljava/lang/Object;" } : Jvm.MethodName) jdk_38_method_6_code (4 : Nat) (Option.some (Jvm.ClassFile.FieldType.array (Jvm.ClassFile.FieldType.object "java/lang/Object"))), Jvm.Cond.code ({ cls := "java/lang/Math", name := "max", desc := "(II)I" } : Jvm.MethodName) jdk_29_method_65_code (2 : Nat) (Option.some Jvm.ClassFile.FieldType.int), Jvm.Cond.code ({ cls := "java/util/ArrayList$Itr", name := "next", desc := "()Ljava/lang/Object;" } : Jvm.MethodName) jdk_49_method_3_code (3 : Nat) (Option.some (Jvm.ClassFile.FieldType.object "java/lang/Object")), Jvm.Cond.code ({ cls := "java/util/ArrayList$Itr", name := "checkForComodification", desc := "()V" } : Jvm.MethodName) jdk_49_method_6_code (1 : Nat) (Option.none : Option Jvm.ClassFile.FieldType), Jvm.Cond.code ({ cls := "com/example/lassoo/lassoo/lang/NormalFormula", name := "isNegated", desc := "()Z" } : Jvm.MethodName) prog_48_method_13_code (1 : Nat) (Option.some Jvm.ClassFile.FieldType.boolean), Jvm.Cond.code ({ cls := "com/example/lassoo/lassoo/lang/NormalFormula", name := "proposition", desc := "()I" } : Jvm.MethodName) prog_48_method_12_code (1 : Nat) (Option.some Jvm.ClassFile.FieldType.int), Jvm.Cond.code ({ cls := "java/lang/Integer", name := "valueOf", desc := "(I)Ljava/lang/Integer;" } : Jvm.MethodName) jdk_33_method_22_code (1 : Nat) (Option.some (Jvm.ClassFile.FieldType.object "java/lang/Integer")), Jvm.Cond.code ({ cls := "java/util/ArrayList", name := "get", desc := "(I)Ljava/lang/Object;" } : Jvm.MethodName) jdk_38_method_20_code (2 : Nat) (Option.some (Jvm.ClassFile.FieldType.object "java/lang/Object")), Jvm.Cond.code ({ cls := "java/util/Objects", name := "checkIndex", desc := "(II)I" } : Jvm.MethodName) jdk_31_method_17_code (2 : Nat) (Option.some Jvm.ClassFile.FieldType.int), Jvm.Cond.code ({ cls := "jdk/internal/util/Preconditions", name := "checkIndex", desc := "(IILjava/util/function/BiFunction;)I" } : Jvm.MethodName) jdk_41_method_11_code (3 : Nat) (Option.some Jvm.ClassFile.FieldType.int), Jvm.Cond.code ({ cls := "java/util/ArrayList", name := "elementData", desc := "(I)Ljava/lang/Object;" } : Jvm.MethodName) jdk_38_method_18_code (2 : Nat) (Option.some (Jvm.ClassFile.FieldType.object "java/lang/Object")), Jvm.Cond.code ({ cls := "java/lang/Integer", name := "intValue", desc := "()I" } : Jvm.MethodName) jdk_33_method_27_code (1 : Nat) (Option.some Jvm.ClassFile.FieldType.int), Jvm.Cond.code ({ cls := "java/lang/Integer", name := "<init>", desc := "(I)V" } : Jvm.MethodName) jdk_33_method_23_code (2 : Nat) (Option.none : Option Jvm.ClassFile.FieldType), Jvm.Cond.code ({ cls := "java/lang/Number", name := "<init>", desc := "()V" } : Jvm.MethodName) jdk_18_method_1_code (1 : Nat) (Option.none : Option Jvm.ClassFile.FieldType)]
set_option maxRecDepth 65536 in
theorem codes_eq : words1.filter isCode = codes1 := rfl
theorem w_codes : ∀ c ∈ words1.filter isCode, c.before args0 about1 = true := by
  rw [codes_eq]
  intro c hc
  simp only [codes1, List.mem_cons, List.not_mem_nil, or_false] at hc
  rcases hc with rfl | rfl | rfl | rfl | rfl | rfl | rfl | rfl | rfl | rfl | rfl | rfl | rfl | rfl | rfl | rfl | rfl | rfl | rfl | rfl | rfl | rfl | rfl | rfl | rfl | rfl | rfl | rfl | rfl | rfl | rfl | rfl | rfl
  · exact w_c0
  · exact w_c1
  · exact w_c2
  · exact w_c3
  · exact w_c4
  · exact w_c5
  · exact w_c6
  · exact w_c7
  · exact w_c8
  · exact w_c9
  · exact w_c10
  · exact w_c11
  · exact w_c12
  · exact w_c13
  · exact w_c14
  · exact w_c15
  · exact w_c16
  · exact w_c17
  · exact w_c18
  · exact w_c19
  · exact w_c20
  · exact w_c21
  · exact w_c22
  · exact w_c23
  · exact w_c24
  · exact w_c25
  · exact w_c26
  · exact w_c27
  · exact w_c28
  · exact w_c29
  · exact w_c30
  · exact w_c31
  · exact w_c32
set_option maxRecDepth 65536 in
theorem w_t1 : (words1.take 24).all (fun c => isCode c || c.before args0 about1) = true := by decide +kernel
set_option maxRecDepth 65536 in
theorem w_t2 : ((words1.drop 24).take 24).all (fun c => isCode c || c.before args0 about1) = true := by decide +kernel
set_option maxRecDepth 65536 in
theorem w_t3 : (((words1.drop 24).drop 24).take 24).all (fun c => isCode c || c.before args0 about1) = true := by decide +kernel
set_option maxRecDepth 65536 in
theorem w_t4 : ((((words1.drop 24).drop 24).drop 24).take 24).all (fun c => isCode c || c.before args0 about1) = true := by decide +kernel
set_option maxRecDepth 65536 in
theorem w_t5 : (((((words1.drop 24).drop 24).drop 24).drop 24).take 24).all (fun c => isCode c || c.before args0 about1) = true := by decide +kernel
set_option maxRecDepth 65536 in
theorem w_t6 : ((((((words1.drop 24).drop 24).drop 24).drop 24).drop 24).take 24).all (fun c => isCode c || c.before args0 about1) = true := by decide +kernel
set_option maxRecDepth 65536 in
theorem w_t7 : (((((((words1.drop 24).drop 24).drop 24).drop 24).drop 24).drop 24).take 24).all (fun c => isCode c || c.before args0 about1) = true := by decide +kernel
set_option maxRecDepth 65536 in
theorem w_t8 : ((((((((words1.drop 24).drop 24).drop 24).drop 24).drop 24).drop 24).drop 24).take 24).all (fun c => isCode c || c.before args0 about1) = true := by decide +kernel
set_option maxRecDepth 65536 in
theorem w_t9 : (((((((((words1.drop 24).drop 24).drop 24).drop 24).drop 24).drop 24).drop 24).drop 24).take 24).all (fun c => isCode c || c.before args0 about1) = true := by decide +kernel
set_option maxRecDepth 65536 in
theorem w_t10 : ((((((((((words1.drop 24).drop 24).drop 24).drop 24).drop 24).drop 24).drop 24).drop 24).drop 24).take 24).all (fun c => isCode c || c.before args0 about1) = true := by decide +kernel
set_option maxRecDepth 65536 in
theorem w_t11 : ((((((((((words1.drop 24).drop 24).drop 24).drop 24).drop 24).drop 24).drop 24).drop 24).drop 24).drop 24).all (fun c => isCode c || c.before args0 about1) = true := by decide +kernel
theorem w_tables : (allAtoms (Jvm.Cond.code x code maxLocals ret :: tables_1)).before args0 about1 = true := by
  rw [allAtoms_all]
  show words1.all (fun c => c.before args0 about1) = true
  refine all_split ?_ w_codes
  rw [← List.take_append_drop 24 words1, List.all_append, w_t1, ← List.take_append_drop 24 (words1.drop 24), List.all_append, w_t2, ← List.take_append_drop 24 ((words1.drop 24).drop 24), List.all_append, w_t3, ← List.take_append_drop 24 (((words1.drop 24).drop 24).drop 24), List.all_append, w_t4, ← List.take_append_drop 24 ((((words1.drop 24).drop 24).drop 24).drop 24), List.all_append, w_t5, ← List.take_append_drop 24 (((((words1.drop 24).drop 24).drop 24).drop 24).drop 24), List.all_append, w_t6, ← List.take_append_drop 24 ((((((words1.drop 24).drop 24).drop 24).drop 24).drop 24).drop 24), List.all_append, w_t7, ← List.take_append_drop 24 (((((((words1.drop 24).drop 24).drop 24).drop 24).drop 24).drop 24).drop 24), List.all_append, w_t8, ← List.take_append_drop 24 ((((((((words1.drop 24).drop 24).drop 24).drop 24).drop 24).drop 24).drop 24).drop 24), List.all_append, w_t9, ← List.take_append_drop 24 (((((((((words1.drop 24).drop 24).drop 24).drop 24).drop 24).drop 24).drop 24).drop 24).drop 24), List.all_append, w_t10, w_t11]
  rfl
set_option maxRecDepth 65536 in
theorem w_rest : rest_1_c.before args0 about1 = true := by decide +kernel
set_option maxRecDepth 65536 in
theorem w_case : (Jvm.Cond.and given_1 narrow_1).before args0 about1 = true := by decide +kernel
theorem w_applies : (headSpec (Jvm.Cond.code x code maxLocals ret :: tables_1) room_1).applies x e0.platform about1 = true :=
  (Spec.applies_iff w_frames).mpr ⟨w_running, w_runnable, w_alone, w_named, w_hears, w_ripe, w_room, w_tables⟩
theorem atStart : AtStart classFile x code maxLocals ret World_1 tables_1 room_1 Calls_1 rest_1 Pre_1 launch0 p0 e0 about1 theMethod args0 below0 :=
  ⟨lists_1, trivial, launch0.admits_env _ _ _, launch0.least_env, fairChoices_fair.cas, fairChoices_fair.clock, w_frames, w_args, w_heap, w_applies, trivial, w_rest, w_case⟩
end start1
theorem witness_1 : WitnessClaimed_1 := ⟨start1.p0, start1.e0, start1.about1, start1.theMethod, start1.args0, start1.below0, start1.atStart⟩
end Jvm.Pilot.@@N@@
