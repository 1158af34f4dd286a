import JvmDerived
import JvmDerived.Pilot.@@N@@Statement
import JvmDerived.Pilot.@@N@@Code
set_option linter.unusedVariables false
set_option linter.unusedSimpArgs false
namespace Jvm.RoadKit
open Sem ClassFile Op Lib Jvm.Stand Jvm.Free Jvm.LawKit
section New
variable {p : Program} {l : Launch} {e : Env} {R : Room} {s : State} {m : MethodId} {args : Array Value} {below : List Frame} {meth : Method} {c : Code} {T : State} {locs : List Loc} {cells slots : Nat}
theorem retI (X : Stand p l e R s m args below meth c T locs cells slots) (hx : p.tables.exec = Jvm.exec) {pc : Nat} {Ls : Array Slot} {z : Int32} {rest : List Value} (hret : meth.sig.returnType = some .int) (hd : decode c.code pc = .ok (.ireturn, 1)) {fs : List Frame}
    (hl : ∀ (f : JFrame) (acts : List Action), f.method = m → f.locked = none → f.entered = [] → (doReturn e (T.setTop f) acts (some (.int z))).1 = T.setFrames fs) : Steps p.tables e below (T.setTop (mkF m pc Ls (.int z :: rest))) (T.setFrames fs) := by
  have hm' : T.vm.method? m = some meth := X.method'
  have hn : narrow .int (.int z) = .int z := rfl
  show Steps p.tables e below (T.setTop { method := m, pc := pc, locals := Ls, stack := _ :: rest, locked := none }) _
  jvm_step X.here [X.here.top, hx, hd, hm', hret, hn]
  first | (intro acts; rw [hl _ acts rfl rfl rfl]) | rw [hl _ _ rfl rfl rfl]
  exact Steps.refl _
end New
end Jvm.RoadKit
namespace Jvm.Pilot.@@N@@
open Jvm Jvm.ClassFile Sem Op Lib Jvm.Free Jvm.Stand Jvm.LawKit Jvm.RoadKit Bundle Jvm.Pilot.@@N@@.Jvm.D
abbrev Sp (p : Program) (e : Env) (b : List Frame) (T : State) (f : JFrame) (t : State) : Prop := Steps p.tables e b (T.setTop f) t
theorem own_eq {h h' : Heap} {a : Addr} {c : Cell} (e : h = h') (q : h'[a]? = some c) : h[a]? = some c := e ▸ q
theorem own_fld {args : Array Value} {Z : State} {t : Term} {C n d : String} {k : Int32} {x : Addr} (ev : t.eval args Z none [] Z = some (.ref x)) (h : (Jvm.Cond.eq (.field t C n d) (.int k)).value args Z none Z [] = some true) : Fld Z Z.heap x C n d (.int k) := by
  refine Fld.start ?_
  have h1 := fld_at (C := C) (n := n) (dd := d) ev
  obtain ⟨u, w, e1, e2, -, -⟩ := cmp_v (Or.inl h)
  have e3 : w = .int k := (Option.some.inj (e2.symm.trans (Term.int_eval k)))
  subst e3
  rw [← h1, e1]
  simp only [Jvm.Cond.value, e1, e2] at h
  cases u <;> simp_all
theorem own_sta_keep0 {Z : State} {h h' : Heap} {C n d : String} {v : Value} (F : Sta Z h C n d v) (K : Keep h h' []) : Sta Z h' C n d v := by
  obtain ⟨cf, i, k, f, st, cell, h1, h2, h3, h4, h5, r⟩ := F
  exact ⟨cf, i, k, f, st, cell, h1, h2, h3, h4, K.2.1 _ _ h5 nin0, r⟩
theorem tw {Z : State} {a0 : Array Value} (hw : ∀ d ∈ tables_1, d.before a0 Z = true) {d : Jvm.Cond} (i : Nat) (h : tables_1[i]? = some d) : d.before a0 Z = true := hw _ (List.mem_of_getElem? h)
abbrev S0 : String := "java/lang/String"
abbrev S1 : String := "com/example/munim/munim/csv/TextKeys"
abbrev S2 : String := "com/example/munim/munim/csv/TextKeysFitPinLaw"
abbrev Y0 : MethodName := ⟨"java/lang/String", "coder", "()B"⟩
abbrev Y1 : MethodName := ⟨"java/lang/StringCoding", "countPositives", "([BII)I"⟩
abbrev Y2 : MethodName := ⟨"java/lang/StringCoding", "hasNegatives", "([BII)Z"⟩
abbrev Y3 : MethodName := ⟨"java/lang/String", "encodeUTF8", "(B[BZ)[B"⟩
abbrev Y4 : MethodName := ⟨"java/lang/String", "encode", "(Ljava/nio/charset/Charset;B[B)[B"⟩
abbrev Y5 : MethodName := ⟨"java/lang/String", "getBytes", "(Ljava/nio/charset/Charset;)[B"⟩
abbrev Y6 : MethodName := ⟨"com/example/munim/munim/csv/TextKeys", "hash", "([B)I"⟩
abbrev Y7 : MethodName := ⟨"com/example/munim/munim/csv/TextKeys", "find", "([BI)I"⟩
abbrev Y8 : MethodName := ⟨"java/lang/Math", "max", "(II)I"⟩
abbrev Y9 : MethodName := ⟨"java/lang/Math", "min", "(II)I"⟩
abbrev Y10 : MethodName := ⟨"com/example/munim/munim/csv/TextKeys", "store", "([B)V"⟩
abbrev Y11 : MethodName := ⟨"com/example/munim/munim/csv/TextKeys", "room", "(I)I"⟩
abbrev Y12 : MethodName := ⟨"java/util/Arrays", "copyOf", "([II)[I"⟩
abbrev Y13 : MethodName := ⟨"com/example/munim/munim/csv/TextKeys", "fit", "([I)[I"⟩
abbrev Y14 : MethodName := ⟨"com/example/munim/munim/csv/TextKeys", "<init>", "()V"⟩
abbrev Y15 : MethodName := ⟨"com/example/munim/munim/csv/TextKeys", "add", "(Ljava/lang/String;)Z"⟩
abbrev Y16 : MethodName := ⟨"com/example/munim/munim/csv/TextKeysFitPinLaw", "v", "(III)I"⟩
abbrev Y17 : MethodName := ⟨"com/example/munim/munim/csv/TextKeysFitPinLaw", "cell", "([IIIII)Z"⟩
abbrev Y18 : MethodName := ⟨"com/example/munim/munim/csv/TextKeysFitPinLaw", "same", "([IIII)Z"⟩
theorem own_selp {s : State} {args : Array Value} {y y2 : MethodName} (hw : (Jvm.Cond.selects y.cls y2 y2).before args s = true) (h2 : y2.cls = y.cls) (hpriv : s.PrivateAt y) (hinst : (Jvm.Cond.instanceMethod y).before args s = true) (hy : y.cls ≠ "java/lang/invoke/MethodHandle" ∧ y.cls ≠ "java/lang/invoke/VarHandle") : (Jvm.Cond.selects y.cls y y).before args s = true := by
  obtain ⟨c, r, m, q1, q2, q3, q4, k, hk, hki⟩ := Cond.selects_spec hw
  have hc := findClass_of_methodNamed q3
  rw [h2] at hc
  exact selects_self_of_private hc hk hki hpriv hinst hy
theorem own_ins_keep {Z : State} {h h' : Heap} {a : Addr} {C : String} {ws : List Addr} (F : Ins Z h a C true) (K : Keep h h' ws) : Ins Z h' a C true := by
  obtain ⟨cell, cT, h1, h2, h3⟩ := F
  obtain ⟨c', e1, e2, e3, -⟩ := K.2.2 _ _ h1
  exact ⟨c', cT, e1, h2, by rw [e2, e3]; exact h3⟩
theorem own_fitc {Z : State} {h : Heap} {a : Addr} {c : Cell} {ty : FieldType} {vs : List Value} {d : Value} (A : Arr Z h a c ty) (H : Has c vs d) (G : ∀ i, i < c.slots.size → fits ty (vs.getD i d) = true) : FitC Z c := fun i v hv => by
  have hi := (Array.getElem?_eq_some_iff.mp hv).1
  have e : vs.getD i d = v := Option.some.inj ((H i hi).symm.trans hv)
  have g := G i hi
  rw [e] at g
  obtain ⟨hs, k, hk, comp, hkind⟩ := A.2.1
  simp [State.fitsSlot, State.slotType?, hk, hkind, g]
def own_start (Z : State) (aU : Addr) (cs : Int32) : Prop := Sta Z Z.heap "java/nio/charset/StandardCharsets" "UTF_8" "Ljava/nio/charset/Charset;" (.ref aU) ∧ Sta Z Z.heap "sun/nio/cs/UTF_8" "INSTANCE" "Lsun/nio/cs/UTF_8;" (.ref aU) ∧ Sta Z Z.heap S0 "COMPACT_STRINGS" "Z" (.int cs) ∧ ¬ (cs = (0 : Int32))
theorem d9_0 : decode jdk_42_method_152_code 0 = .ok (.getstatic 38, 3) := by decide +kernel
theorem d9_3 : decode jdk_42_method_152_code 3 = .ok (.ifCond .eq 10, 3) := by decide +kernel
theorem d9_6 : decode jdk_42_method_152_code 6 = .ok (.aload_n 0, 1) := by decide +kernel
theorem d9_7 : decode jdk_42_method_152_code 7 = .ok (.getfield 15, 3) := by decide +kernel
theorem d9_10 : decode jdk_42_method_152_code 10 = .ok (.goto 4, 3) := by decide +kernel
theorem d9_14 : decode jdk_42_method_152_code 14 = .ok (.ireturn, 1) := by decide +kernel
theorem pn_0 : plainName "java/lang/String" = true := by first | (simp [plainName, overriddenIn]; done) | decide +kernel
theorem ef_9_R (m : MethodId) (x0 : Addr) : entryFrame m #[(.ref x0)] 1 = mkF m 0 #[.val (.ref x0)] [] := by first | (simp [entryFrame, mkF, argsToLocals, Value.category]; done) | rfl
def Q_coder (Z : State) (a : Addr) (aU : Addr) (cs : Int32) (h0 : Heap) (n0 : Nat) (v : Option Value) (h : Heap) (L : List Loc) : Prop := v = some (.int (0 : Int32)) ∧ Fr n0 L ∧ h = h0
set_option maxRecDepth 65536 in
set_option maxHeartbeats 40000000 in
theorem rm_coder (l : Launch) (Z : State) (a0 : Array Value) (hw : ∀ d ∈ tables_1, d.before a0 Z = true) (ws : List Jvm.Cond) (a : Addr) (aU : Addr) (cs : Int32) (h0 : Heap) (n0 : Nat) (Z0 : n0 ≤ h0.size) (O0 : Old Z n0 h0) (f0 : Fld Z h0 a S0 "coder" "B" (.int (0 : Int32))) (SS : own_start Z aU cs) :
    MetFree l Y0 (head1 (Jvm.Cond.code Y0 jdk_42_method_152_code 1 (some .byte) :: ws) ({ frames := 0, cells := 0, slots := 0, locals := 0 } : Room)) (fun A_ U => A_ = #[(.ref a)] ∧ Z.Warmed39 U.vm ∧ U.heap = h0) (fun _ _ _ _ _ => True) (fun _ U o_ U' => ∃ v_ L_, o_ = .returned v_ ∧ Q_coder Z a aU cs h0 n0 v_ U'.heap L_ ∧ FrameEnd U o_ U' L_ ({ frames := 0, cells := 0, slots := 0, locals := 0 } : Room).cells ({ frames := 0, cells := 0, slots := 0, locals := 0 } : Room).slots) := by
  refine MetFree.of_bodySF (plainFor_of_name pn_0) hisR ?_
  intro p e s m args below meth c s₁ Bd hml0 hP hK
  obtain ⟨rfl, hZ, hh⟩ := hP
  have hx := Bd.exec
  have hby := Bd.bytes
  have hml : c.maxLocals = 1 := hml0
  have hown : s.vm.findClass S0 = some m.cls := findClass_of_methodNamed Bd.named
  have hnm := (name_of_methodNamed Bd.named Bd.method).1
  have hret := Bd.returns
  have X0 : Stand p l e ({ frames := 0, cells := 0, slots := 0, locals := 0 } : Room) s m #[(.ref a)] below meth c s₁ [] 0 0 := Stand.of_body Bd
  have e0 : s₁.heap = h0 := by rw [← hh, Bd.state]; rfl
  have N0 := Fr.nil n0
  have pre0 : ∀ t_, Sp p e below s₁ (mkF m 0 #[.val (.ref a)] []) t_ → Sp p e below s₁ (entryFrame m #[(.ref a)] 1) t_ := fun t_ k_ => castTop (ef_9_R m a) k_
  obtain ⟨S_U8, S_IN, S_CS, H_CS⟩ := SS
  have F1 := S_CS.ext O0.2
  obtain ⟨Tg2, Xg2, eg2, stg2⟩ := getS2 X0 hx hZ hown (host := "") (Or.inl (tw hw 62 rfl)) Via.refl e0 F1 (g := (mkF m 0 #[.val (.ref a)] [])) rfl (hb hby d9_0)
  obtain ⟨Tf3, Xf3, ef3, stf3⟩ := getF Xg2 hx hZ hown (host := "") (Or.inl (tw hw 63 rfl)) Via.refl eg2 f0 (g := (mkF m 7 #[.val (.ref a)] [(.ref a)])) rfl rfl (hb hby d9_7)
  obtain ⟨fs, hlv, hrun, hended, hW, hsame⟩ := Xf3.leave (v := some (.int (0 : Int32))) (fun h => by rw [hret] at h; cases h)
  refine ⟨_, _, pre0 _ ?_, hrun, hended, _, _, rfl, ?_, ⟨_, rfl⟩, hW, hsame.mono (by decide) (by decide)⟩
  · refine stg2 _ ?_
    show Sp p e below Tg2 (mkF m 3 #[.val (.ref a)] [(.int cs)]) _
    refine XS.ifNo Xg2.here hx rfl (hb hby d9_3) rfl ((if0 _ _).trans (feq H_CS).1) ?_
    refine XS.aloadN Xg2.here hx rfl (hb hby d9_6) rfl rfl ?_
    refine stf3 _ ?_
    refine XS.goto Xf3.here hx rfl (pc0 := 10) (pc' := 14) rfl (hb hby d9_10) (by decide) (by decide) ?_
    show Sp p e below Tf3 (mkF m 14 #[.val (.ref a)] [(.int (0 : Int32))]) _
    exact retN Xf3 hx (t := .byte) hret (by simp) (hb hby d9_14) hlv
  · show Q_coder Z a aU cs h0 n0 _ Tf3.heap _
    rw [ef3]
    exact ⟨rfl, N0, rfl⟩
theorem d13_0 : decode jdk_123_method_3_code 0 = .ok (.iload_n 1, 1) := by decide +kernel
theorem d13_1 : decode jdk_123_method_3_code 1 = .ok (.iload_n 2, 1) := by decide +kernel
theorem d13_2 : decode jdk_123_method_3_code 2 = .ok (.iadd, 1) := by decide +kernel
theorem d13_3 : decode jdk_123_method_3_code 3 = .ok (.istore_n 3, 1) := by decide +kernel
theorem d13_4 : decode jdk_123_method_3_code 4 = .ok (.iload_n 1, 1) := by decide +kernel
theorem d13_5 : decode jdk_123_method_3_code 5 = .ok (.istore 4, 2) := by decide +kernel
theorem d13_7 : decode jdk_123_method_3_code 7 = .ok (.iload 4, 2) := by decide +kernel
theorem d13_9 : decode jdk_123_method_3_code 9 = .ok (.iload_n 3, 1) := by decide +kernel
theorem d13_10 : decode jdk_123_method_3_code 10 = .ok (.if_icmp .ge 21, 3) := by decide +kernel
theorem d13_13 : decode jdk_123_method_3_code 13 = .ok (.aload_n 0, 1) := by decide +kernel
theorem d13_14 : decode jdk_123_method_3_code 14 = .ok (.iload 4, 2) := by decide +kernel
theorem d13_16 : decode jdk_123_method_3_code 16 = .ok (.baload, 1) := by decide +kernel
theorem d13_17 : decode jdk_123_method_3_code 17 = .ok (.ifCond .ge 8, 3) := by decide +kernel
theorem d13_25 : decode jdk_123_method_3_code 25 = .ok (.iinc 4 1, 3) := by decide +kernel
theorem d13_28 : decode jdk_123_method_3_code 28 = .ok (.goto (-21), 3) := by decide +kernel
theorem d13_31 : decode jdk_123_method_3_code 31 = .ok (.iload_n 2, 1) := by decide +kernel
theorem d13_32 : decode jdk_123_method_3_code 32 = .ok (.ireturn, 1) := by decide +kernel
theorem pn_1 : plainName "java/lang/StringCoding" = true := by first | (simp [plainName, overriddenIn]; done) | decide +kernel
theorem ef_13_RII (m : MethodId) (x0 : Addr) (x1 : Int32) (x2 : Int32) : entryFrame m #[(.ref x0), (.int x1), (.int x2)] 5 = mkF m 0 #[.val (.ref x0), .val (.int x1), .val (.int x2), .unset, .unset] [] := by first | (simp [entryFrame, mkF, argsToLocals, Value.category]; done) | rfl
def Q_countpos (Z : State) (b : Addr) (k : ClassId) (ch : Int32) (h0 : Heap) (n0 : Nat) (v : Option Value) (h : Heap) (L : List Loc) : Prop := v = some (.int (1 : Int32)) ∧ Fr n0 L ∧ h = h0
set_option maxRecDepth 65536 in
set_option maxHeartbeats 40000000 in
theorem rm_countpos (l : Launch) (Z : State) (a0 : Array Value) (hw : ∀ d ∈ tables_1, d.before a0 Z = true) (ws : List Jvm.Cond) (b : Addr) (k : ClassId) (ch : Int32) (h0 : Heap) (n0 : Nat) (Z0 : n0 ≤ h0.size) (O0 : Old Z n0 h0) (f0 : Arv Z h0 b k .byte (1 : Int32) [(.int ch)] (.int (0 : Int32))) (hc : ¬ (ch < (0 : Int32))) :
    MetFree l Y1 (head1 (Jvm.Cond.code Y1 jdk_123_method_3_code 5 (some .int) :: ws) ({ frames := 0, cells := 0, slots := 0, locals := 0 } : Room)) (fun A_ U => A_ = #[(.ref b), (.int (0 : Int32)), (.int (1 : Int32))] ∧ Z.Warmed39 U.vm ∧ U.heap = h0) (fun _ _ _ _ _ => True) (fun _ U o_ U' => ∃ v_ L_, o_ = .returned v_ ∧ Q_countpos Z b k ch h0 n0 v_ U'.heap L_ ∧ FrameEnd U o_ U' L_ ({ frames := 0, cells := 0, slots := 0, locals := 0 } : Room).cells ({ frames := 0, cells := 0, slots := 0, locals := 0 } : Room).slots) := by
  refine MetFree.of_bodySF (plainFor_of_name pn_1) hisR ?_
  intro p e s m args below meth c s₁ Bd hml0 hP hK
  obtain ⟨rfl, hZ, hh⟩ := hP
  have hx := Bd.exec
  have hby := Bd.bytes
  have hml : c.maxLocals = 5 := hml0
  have hown : s.vm.findClass "java/lang/StringCoding" = some m.cls := findClass_of_methodNamed Bd.named
  have hnm := (name_of_methodNamed Bd.named Bd.method).1
  have hret := Bd.returns
  have X0 : Stand p l e ({ frames := 0, cells := 0, slots := 0, locals := 0 } : Room) s m #[(.ref b), (.int (0 : Int32)), (.int (1 : Int32))] below meth c s₁ [] 0 0 := Stand.of_body Bd
  have e0 : s₁.heap = h0 := by rw [← hh, Bd.state]; rfl
  have N0 := Fr.nil n0
  have pre0 : ∀ t_, Sp p e below s₁ (mkF m 0 #[.val (.ref b), .val (.int (0 : Int32)), .val (.int (1 : Int32)), .unset, .unset] []) t_ → Sp p e below s₁ (entryFrame m #[(.ref b), (.int (0 : Int32)), (.int (1 : Int32))] 5) t_ := fun t_ k_ => castTop (ef_13_RII m b (0 : Int32) (1 : Int32)) k_
  obtain ⟨clv1, Arv1, qv1, Sv1, Nv1, Hv1, Gv1⟩ := id f0
  have in2 : ¬ ((0 : Int32) < 0 ∨ clv1.slots.size ≤ ((0 : Int32)).toNatClampNeg) := inb_of Sv1 ⟨by decide, by decide⟩
  have atin2 : clv1.slots[((0 : Int32)).toNatClampNeg]? = some (.int ch) := Has.at Hv1 in2 rfl
  obtain ⟨fs, hlv, hrun, hended, hW, hsame⟩ := X0.leave (v := some (.int (1 : Int32))) (fun h => by rw [hret] at h; cases h)
  refine ⟨_, _, pre0 _ ?_, hrun, hended, _, _, rfl, ?_, ⟨_, rfl⟩, hW, hsame.mono (by decide) (by decide)⟩
  · refine XS.iloadN X0.here hx rfl (hb hby d13_0) rfl ?_
    show Sp p e below s₁ (mkF m 1 #[.val (.ref b), .val (.int (0 : Int32)), .val (.int (1 : Int32)), .unset, .unset] [(.int (0 : Int32))]) _
    refine XS.iloadN X0.here hx rfl (hb hby d13_1) rfl ?_
    refine XS.iadd X0.here hx rfl (hb hby d13_2) rfl ?_
    refine XS.istoreN X0.here hx rfl (hb hby d13_3) rfl (l' := #[.val (.ref b), .val (.int (0 : Int32)), .val (.int (1 : Int32)), .val (.int (1 : Int32)), .unset]) rfl ?_
    refine XS.iloadN X0.here hx rfl (hb hby d13_4) rfl ?_
    refine XS.istore X0.here hx rfl (hb hby d13_5) rfl (l' := #[.val (.ref b), .val (.int (0 : Int32)), .val (.int (1 : Int32)), .val (.int (1 : Int32)), .val (.int (0 : Int32))]) rfl ?_
    refine XS.iload X0.here hx rfl (hb hby d13_7) rfl ?_
    refine XS.iloadN X0.here hx rfl (hb hby d13_9) rfl ?_
    refine XS.icmpNo X0.here hx rfl (hb hby d13_10) rfl (tlt (by decide : (0 : Int32) < (1 : Int32))).2.1 ?_
    refine XS.aloadN X0.here hx rfl (hb hby d13_13) rfl rfl ?_
    refine XS.iload X0.here hx rfl (hb hby d13_14) rfl ?_
    show Sp p e below s₁ (mkF m 16 #[.val (.ref b), .val (.int (0 : Int32)), .val (.int (1 : Int32)), .val (.int (1 : Int32)), .val (.int (0 : Int32))] [(.int (0 : Int32)), (.ref b)]) _
    refine X0.baloadBytes hx (j := (0 : Int32)) (v := (.int ch)) (own_eq e0 Arv1.1) (State.isArrayOf_alike hZ.alike Arv1.2.1) Arv1.2.2 in2 atin2 (g := (mkF m 16 #[.val (.ref b), .val (.int (0 : Int32)), .val (.int (1 : Int32)), .val (.int (1 : Int32)), .val (.int (0 : Int32))] [(.int (0 : Int32)), (.ref b)])) rfl rfl (hb hby d13_16) _ ?_
    show Sp p e below s₁ (mkF m 17 #[.val (.ref b), .val (.int (0 : Int32)), .val (.int (1 : Int32)), .val (.int (1 : Int32)), .val (.int (0 : Int32))] [(.int ch)]) _
    refine XS.ifYes X0.here hx rfl (pc0 := 17) (pc' := 25) rfl (hb hby d13_17) rfl ((if0 _ _).trans (flt hc).2.1) (by decide) (by decide) ?_
    refine XS.iinc X0.here hx rfl (hb hby d13_25) rfl (l' := #[.val (.ref b), .val (.int (0 : Int32)), .val (.int (1 : Int32)), .val (.int (1 : Int32)), .val (.int (1 : Int32))]) rfl ?_
    refine XS.goto X0.here hx rfl (pc0 := 28) (pc' := 7) rfl (hb hby d13_28) (by decide) (by decide) ?_
    refine XS.iload X0.here hx rfl (hb hby d13_7) rfl ?_
    refine XS.iloadN X0.here hx rfl (hb hby d13_9) rfl ?_
    refine XS.icmpYes X0.here hx rfl (pc0 := 10) (pc' := 31) rfl (hb hby d13_10) rfl (flt (by decide : ¬ ((1 : Int32) < (1 : Int32)))).2.1 (by decide) (by decide) ?_
    refine XS.iloadN X0.here hx rfl (hb hby d13_31) rfl ?_
    show Sp p e below s₁ (mkF m 32 #[.val (.ref b), .val (.int (0 : Int32)), .val (.int (1 : Int32)), .val (.int (1 : Int32)), .val (.int (1 : Int32))] [(.int (1 : Int32))]) _
    exact retI X0 hx hret (hb hby d13_32) hlv
  · show Q_countpos Z b k ch h0 n0 _ s₁.heap _
    rw [e0]
    exact ⟨rfl, N0, rfl⟩
theorem d12_0 : decode jdk_123_method_2_code 0 = .ok (.aload_n 0, 1) := by decide +kernel
theorem d12_1 : decode jdk_123_method_2_code 1 = .ok (.iload_n 1, 1) := by decide +kernel
theorem d12_2 : decode jdk_123_method_2_code 2 = .ok (.iload_n 2, 1) := by decide +kernel
theorem d12_3 : decode jdk_123_method_2_code 3 = .ok (.invokestatic 7, 3) := by decide +kernel
theorem d12_6 : decode jdk_123_method_2_code 6 = .ok (.iload_n 2, 1) := by decide +kernel
theorem d12_7 : decode jdk_123_method_2_code 7 = .ok (.if_icmp .eq 7, 3) := by decide +kernel
theorem d12_14 : decode jdk_123_method_2_code 14 = .ok (.iconst 0, 1) := by decide +kernel
theorem d12_15 : decode jdk_123_method_2_code 15 = .ok (.ireturn, 1) := by decide +kernel
theorem ef_12_RII (m : MethodId) (x0 : Addr) (x1 : Int32) (x2 : Int32) : entryFrame m #[(.ref x0), (.int x1), (.int x2)] 3 = mkF m 0 #[.val (.ref x0), .val (.int x1), .val (.int x2)] [] := by first | (simp [entryFrame, mkF, argsToLocals, Value.category]; done) | rfl
theorem pd___BII_I : parseMethodDescriptor "([BII)I" = some ⟨[(.array .byte), .int, .int], some .int⟩ := by decide +kernel
def Q_hasneg (Z : State) (b : Addr) (k : ClassId) (ch : Int32) (h0 : Heap) (n0 : Nat) (v : Option Value) (h : Heap) (L : List Loc) : Prop := v = some (.int (0 : Int32)) ∧ Fr n0 L ∧ h = h0
set_option maxRecDepth 65536 in
set_option maxHeartbeats 40000000 in
theorem rm_hasneg (l : Launch) (Z : State) (a0 : Array Value) (hw : ∀ d ∈ tables_1, d.before a0 Z = true) (ws : List Jvm.Cond) (b : Addr) (k : ClassId) (ch : Int32) (h0 : Heap) (n0 : Nat) (Z0 : n0 ≤ h0.size) (O0 : Old Z n0 h0) (f0 : Arv Z h0 b k .byte (1 : Int32) [(.int ch)] (.int (0 : Int32))) (hc : ¬ (ch < (0 : Int32))) :
    MetFree l Y2 (head1 (Jvm.Cond.code Y2 jdk_123_method_2_code 3 (some .boolean) :: ws) ({ frames := 1, cells := 0, slots := 0, locals := 16 } : Room)) (fun A_ U => A_ = #[(.ref b), (.int (0 : Int32)), (.int (1 : Int32))] ∧ Z.Warmed39 U.vm ∧ U.heap = h0) (fun _ _ _ _ _ => True) (fun _ U o_ U' => ∃ v_ L_, o_ = .returned v_ ∧ Q_hasneg Z b k ch h0 n0 v_ U'.heap L_ ∧ FrameEnd U o_ U' L_ ({ frames := 1, cells := 0, slots := 0, locals := 16 } : Room).cells ({ frames := 1, cells := 0, slots := 0, locals := 16 } : Room).slots) := by
  refine MetFree.of_bodySF (plainFor_of_name pn_1) hisR ?_
  intro p e s m args below meth c s₁ Bd hml0 hP hK
  obtain ⟨rfl, hZ, hh⟩ := hP
  have hx := Bd.exec
  have hby := Bd.bytes
  have hml : c.maxLocals = 3 := hml0
  have hown : s.vm.findClass "java/lang/StringCoding" = some m.cls := findClass_of_methodNamed Bd.named
  have hnm := (name_of_methodNamed Bd.named Bd.method).1
  have hret := Bd.returns
  have X0 : Stand p l e ({ frames := 1, cells := 0, slots := 0, locals := 16 } : Room) s m #[(.ref b), (.int (0 : Int32)), (.int (1 : Int32))] below meth c s₁ [] 0 0 := Stand.of_body Bd
  have e0 : s₁.heap = h0 := by rw [← hh, Bd.state]; rfl
  have N0 := Fr.nil n0
  have pre0 : ∀ t_, Sp p e below s₁ (mkF m 0 #[.val (.ref b), .val (.int (0 : Int32)), .val (.int (1 : Int32))] []) t_ → Sp p e below s₁ (entryFrame m #[(.ref b), (.int (0 : Int32)), (.int (1 : Int32))] 3) t_ := fun t_ k_ => castTop (ef_12_RII m b (0 : Int32) (1 : Int32)) k_
  obtain ⟨_, _, ⟨Tk1, Lk1, kk1, nk1⟩, -, Xk1, ⟨Lck1, hQk1, lk1, yk1, zk1⟩, stk1⟩ := Jvm.LawKit.callS X0 hx (y := Y1) hown (mvT hZ (tw hw 77 rfl)) (mvT hZ (tw hw 78 rfl)) (mvT hZ (tw hw 75 rfl)) (mvT hZ (tw hw 79 rfl)) (by decide) (backOf (W := 0) (rm_countpos l Z a0 hw [] b k ch  h0 n0 Z0 O0 f0 hc) hZ (tw hw 79 rfl) (tw hw 75 rfl) (by decide) (by decide)) (g := (mkF m 3 #[.val (.ref b), .val (.int (0 : Int32)), .val (.int (1 : Int32))] [(.int (1 : Int32)), (.int (0 : Int32)), (.ref b)])) rfl (by rw [hml]; rfl) (argsL := [(.ref b), (.int (0 : Int32)), (.int (1 : Int32))]) (rest := []) (lenOf pd___BII_I rfl) rfl (by show 2 * 0 + _ ≤ _; exact Nat.le_of_eq rfl) (hb hby d12_3) (fun _ _ => ⟨rfl, e0, (by decide : 0 + 0 ≤ _), (by decide : 0 + 0 ≤ _)⟩)
  dsimp only [Pt.U, Pt.locs, Pt.cells, Pt.slots] at Xk1 lk1 yk1 zk1 stk1 hQk1
  subst lk1 yk1 zk1
  obtain ⟨rfl, Nk1q, ek1⟩ := hQk1
  have Nk1 := Fr.app N0 Nk1q
  obtain ⟨fs, hlv, hrun, hended, hW, hsame⟩ := Xk1.leave (v := some (.int (0 : Int32))) (fun h => by rw [hret] at h; cases h)
  refine ⟨_, _, pre0 _ ?_, hrun, hended, _, _, rfl, ?_, ⟨_, rfl⟩, hW, hsame.mono (by decide) (by decide)⟩
  · refine XS.aloadN X0.here hx rfl (hb hby d12_0) rfl rfl ?_
    show Sp p e below s₁ (mkF m 1 #[.val (.ref b), .val (.int (0 : Int32)), .val (.int (1 : Int32))] [(.ref b)]) _
    refine XS.iloadN X0.here hx rfl (hb hby d12_1) rfl ?_
    refine XS.iloadN X0.here hx rfl (hb hby d12_2) rfl ?_
    refine stk1 _ ?_
    refine XS.iloadN Xk1.here hx rfl (hb hby d12_6) rfl ?_
    refine XS.icmpYes Xk1.here hx rfl (pc0 := 7) (pc' := 14) rfl (hb hby d12_7) rfl (teq (by decide : (1 : Int32) = (1 : Int32))).1 (by decide) (by decide) ?_
    refine XS.iconst Xk1.here hx rfl (hb hby d12_14) ?_
    show Sp p e below Tk1 (mkF m 15 #[.val (.ref b), .val (.int (0 : Int32)), .val (.int (1 : Int32))] [(.int (0 : Int32))]) _
    exact retN Xk1 hx (t := .boolean) hret (by simp) (hb hby d12_15) hlv
  · show Q_hasneg Z b k ch h0 n0 _ Tk1.heap _
    rw [ek1]
    exact ⟨rfl, Nk1, rfl⟩
theorem d11_0 : decode jdk_42_method_46_code 0 = .ok (.iload_n 0, 1) := by decide +kernel
theorem d11_1 : decode jdk_42_method_46_code 1 = .ok (.iconst 1, 1) := by decide +kernel
theorem d11_2 : decode jdk_42_method_46_code 2 = .ok (.if_icmp .ne 9, 3) := by decide +kernel
theorem d11_11 : decode jdk_42_method_46_code 11 = .ok (.aload_n 1, 1) := by decide +kernel
theorem d11_12 : decode jdk_42_method_46_code 12 = .ok (.iconst 0, 1) := by decide +kernel
theorem d11_13 : decode jdk_42_method_46_code 13 = .ok (.aload_n 1, 1) := by decide +kernel
theorem d11_14 : decode jdk_42_method_46_code 14 = .ok (.arraylength, 1) := by decide +kernel
theorem d11_15 : decode jdk_42_method_46_code 15 = .ok (.invokestatic 128, 3) := by decide +kernel
theorem d11_18 : decode jdk_42_method_46_code 18 = .ok (.ifCond .ne 11, 3) := by decide +kernel
theorem d11_21 : decode jdk_42_method_46_code 21 = .ok (.aload_n 1, 1) := by decide +kernel
theorem d11_22 : decode jdk_42_method_46_code 22 = .ok (.invokevirtual 279, 3) := by decide +kernel
theorem d11_25 : decode jdk_42_method_46_code 25 = .ok (.checkcast 280, 3) := by decide +kernel
theorem d11_28 : decode jdk_42_method_46_code 28 = .ok (.areturn, 1) := by decide +kernel
theorem ef_11_IRI (m : MethodId) (x0 : Int32) (x1 : Addr) (x2 : Int32) : entryFrame m #[(.int x0), (.ref x1), (.int x2)] 9 = mkF m 0 #[.val (.int x0), .val (.ref x1), .val (.int x2), .unset, .unset, .unset, .unset, .unset, .unset] [] := by first | (simp [entryFrame, mkF, argsToLocals, Value.category]; done) | rfl
theorem pd___BII_Z : parseMethodDescriptor "([BII)Z" = some ⟨[(.array .byte), .int, .int], some .boolean⟩ := by decide +kernel
def Q_encutf8 (Z : State) (b : Addr) (k : ClassId) (ch : Int32) (h0 : Heap) (n0 : Nat) (v : Option Value) (h : Heap) (L : List Loc) : Prop := ∃ d : Addr, v = some (.ref d) ∧ Fr n0 L ∧ Keep h0 h [] ∧ h0.size ≤ d ∧ Arv Z h d k .byte (1 : Int32) [(.int ch)] (.int (0 : Int32)) ∧ Exa Z h d "[B"
set_option maxRecDepth 65536 in
set_option maxHeartbeats 40000000 in
theorem rm_encutf8 (l : Launch) (Z : State) (a0 : Array Value) (hw : ∀ d ∈ tables_1, d.before a0 Z = true) (ws : List Jvm.Cond) (b : Addr) (k : ClassId) (ch : Int32) (h0 : Heap) (n0 : Nat) (Z0 : n0 ≤ h0.size) (O0 : Old Z n0 h0) (f0 : Arv Z h0 b k .byte (1 : Int32) [(.int ch)] (.int (0 : Int32))) (f1 : Exa Z h0 b "[B") (hc : ¬ (ch < (0 : Int32))) :
    MetFree l Y3 (head1 (Jvm.Cond.code Y3 jdk_42_method_46_code 9 (some (.array .byte)) :: ws) ({ frames := 2, cells := 1, slots := 1, locals := 30 } : Room)) (fun A_ U => A_ = #[(.int (0 : Int32)), (.ref b), (.int (1 : Int32))] ∧ Z.Warmed39 U.vm ∧ U.heap = h0) (fun _ _ _ _ _ => True) (fun _ U o_ U' => ∃ v_ L_, o_ = .returned v_ ∧ Q_encutf8 Z b k ch h0 n0 v_ U'.heap L_ ∧ FrameEnd U o_ U' L_ ({ frames := 2, cells := 1, slots := 1, locals := 30 } : Room).cells ({ frames := 2, cells := 1, slots := 1, locals := 30 } : Room).slots) := by
  refine MetFree.of_bodySF (plainFor_of_name pn_0) hisR ?_
  intro p e s m args below meth c s₁ Bd hml0 hP hK
  obtain ⟨rfl, hZ, hh⟩ := hP
  have hx := Bd.exec
  have hby := Bd.bytes
  have hml : c.maxLocals = 9 := hml0
  have hown : s.vm.findClass S0 = some m.cls := findClass_of_methodNamed Bd.named
  have hnm := (name_of_methodNamed Bd.named Bd.method).1
  have hret := Bd.returns
  have X0 : Stand p l e ({ frames := 2, cells := 1, slots := 1, locals := 30 } : Room) s m #[(.int (0 : Int32)), (.ref b), (.int (1 : Int32))] below meth c s₁ [] 0 0 := Stand.of_body Bd
  have e0 : s₁.heap = h0 := by rw [← hh, Bd.state]; rfl
  have N0 := Fr.nil n0
  have pre0 : ∀ t_, Sp p e below s₁ (mkF m 0 #[.val (.int (0 : Int32)), .val (.ref b), .val (.int (1 : Int32)), .unset, .unset, .unset, .unset, .unset, .unset] []) t_ → Sp p e below s₁ (entryFrame m #[(.int (0 : Int32)), (.ref b), (.int (1 : Int32))] 9) t_ := fun t_ k_ => castTop (ef_11_IRI m (0 : Int32) b (1 : Int32)) k_
  obtain ⟨clv1, Arv1, qv1, Sv1, Nv1, Hv1, Gv1⟩ := id f0
  obtain ⟨_, _, ⟨Tk2, Lk2, kk2, nk2⟩, -, Xk2, ⟨Lck2, hQk2, lk2, yk2, zk2⟩, stk2⟩ := Jvm.LawKit.callS X0 hx (y := Y2) hown (mvT hZ (tw hw 73 rfl)) (mvT hZ (tw hw 74 rfl)) (mvT hZ (tw hw 75 rfl)) (mvT hZ (tw hw 76 rfl)) (by decide) (backOf (W := 0) (rm_hasneg l Z a0 hw [] b k ch  h0 n0 Z0 O0 f0 hc) hZ (tw hw 76 rfl) (tw hw 75 rfl) (by decide) (by decide)) (g := (mkF m 15 #[.val (.int (0 : Int32)), .val (.ref b), .val (.int (1 : Int32)), .unset, .unset, .unset, .unset, .unset, .unset] [(.int (1 : Int32)), (.int (0 : Int32)), (.ref b)])) rfl (by rw [hml]; rfl) (argsL := [(.ref b), (.int (0 : Int32)), (.int (1 : Int32))]) (rest := []) (lenOf pd___BII_Z rfl) rfl (by show 2 * 0 + _ ≤ _; exact Nat.le_of_eq rfl) (hb hby d11_15) (fun _ _ => ⟨rfl, e0, (by decide : 0 + 0 ≤ _), (by decide : 0 + 0 ≤ _)⟩)
  dsimp only [Pt.U, Pt.locs, Pt.cells, Pt.slots] at Xk2 lk2 yk2 zk2 stk2 hQk2
  subst lk2 yk2 zk2
  obtain ⟨rfl, Nk2q, ek2⟩ := hQk2
  have Nk2 := Fr.app N0 Nk2q
  obtain ⟨Tc3, hc3, Xc3, ec3, Ec3, Ac3, Bc3, stc3⟩ := cloneA Xk2 hx hZ (ad := "[B") hown (tw hw 80 rfl) (tw hw 81 rfl) (tw hw 85 rfl) (tw hw 83 rfl) (tw hw 84 rfl) (tw hw 86 rfl) ek2 Arv1 f1 (own_fitc Arv1 Hv1 Gv1) (g := (mkF m 22 #[.val (.int (0 : Int32)), .val (.ref b), .val (.int (1 : Int32)), .unset, .unset, .unset, .unset, .unset, .unset] [(.ref b)])) rfl (by rw [hml]; rfl) rfl (hb hby d11_22) (by decide) (W := 0) (by show 2 * 0 + _ ≤ _; exact Nat.le_of_eq rfl) (by decide) (cap := 1) (by rw [Sv1]; decide) (by decide) (by decide)
  obtain ⟨bc3, gc3⟩ : ∃ z, z = h0.size := ⟨_, rfl⟩
  rw [← gc3] at Ac3 Bc3 stc3
  have g_bc3 : n0 ≤ bc3 := Nat.le_trans Z0 (Nat.le_of_eq gc3.symm)
  have y_bc3 : h0.size ≤ bc3 := Nat.le_trans (Nat.le_refl h0.size) (Nat.le_of_eq gc3.symm)
  have Vc3 : Arv Z hc3 bc3 k .byte (1 : Int32) [(.int ch)] (.int (0 : Int32)) := ⟨_, Ac3, qv1, Sv1, Nv1, Hv1, Gv1⟩
  have K4 : Keep h0 hc3 [] := (Keep.refl h0 []).ext Ec3
  obtain ⟨Tx5, Xx5, ex5, stx5⟩ := castY Xc3 hx hZ hown (tw hw 87 rfl) ec3 (Ins.self Bc3) (g := (mkF m 25 #[.val (.int (0 : Int32)), .val (.ref b), .val (.int (1 : Int32)), .unset, .unset, .unset, .unset, .unset, .unset] [(.ref bc3)])) rfl rfl (hb hby d11_25)
  obtain ⟨fs, hlv, hrun, hended, hW, hsame⟩ := Xx5.leave (v := some (.ref bc3)) (fun h => by rw [hret] at h; cases h)
  refine ⟨_, _, pre0 _ ?_, hrun, hended, _, _, rfl, ?_, ⟨_, rfl⟩, hW, hsame.mono (by decide) (by decide)⟩
  · refine XS.iloadN X0.here hx rfl (hb hby d11_0) rfl ?_
    show Sp p e below s₁ (mkF m 1 #[.val (.int (0 : Int32)), .val (.ref b), .val (.int (1 : Int32)), .unset, .unset, .unset, .unset, .unset, .unset] [(.int (0 : Int32))]) _
    refine XS.iconst X0.here hx rfl (hb hby d11_1) ?_
    refine XS.icmpYes X0.here hx rfl (pc0 := 2) (pc' := 11) rfl (hb hby d11_2) rfl (feq (by decide : ¬ ((0 : Int32) = (1 : Int32)))).2 (by decide) (by decide) ?_
    refine XS.aloadN X0.here hx rfl (hb hby d11_11) rfl rfl ?_
    refine XS.iconst X0.here hx rfl (hb hby d11_12) ?_
    refine XS.aloadN X0.here hx rfl (hb hby d11_13) rfl rfl ?_
    show Sp p e below s₁ (mkF m 14 #[.val (.int (0 : Int32)), .val (.ref b), .val (.int (1 : Int32)), .unset, .unset, .unset, .unset, .unset, .unset] [(.ref b), (.int (0 : Int32)), (.ref b)]) _
    refine X0.arraylength hx (own_eq e0 Arv1.1) (State.isArrayOf_alike hZ.alike Arv1.2.1) (g := (mkF m 14 #[.val (.int (0 : Int32)), .val (.ref b), .val (.int (1 : Int32)), .unset, .unset, .unset, .unset, .unset, .unset] [(.ref b), (.int (0 : Int32)), (.ref b)])) rfl rfl (hb hby d11_14) _ ?_
    rw [len_of Sv1 Nv1]
    show Sp p e below s₁ (mkF m 15 #[.val (.int (0 : Int32)), .val (.ref b), .val (.int (1 : Int32)), .unset, .unset, .unset, .unset, .unset, .unset] [(.int (1 : Int32)), (.int (0 : Int32)), (.ref b)]) _
    refine stk2 _ ?_
    refine XS.ifNo Xk2.here hx rfl (hb hby d11_18) rfl ((if0 _ _).trans (teq (by decide : (0 : Int32) = (0 : Int32))).2) ?_
    refine XS.aloadN Xk2.here hx rfl (hb hby d11_21) rfl rfl ?_
    refine stc3 _ ?_
    refine stx5 _ ?_
    show Sp p e below Tx5 (mkF m 28 #[.val (.int (0 : Int32)), .val (.ref b), .val (.int (1 : Int32)), .unset, .unset, .unset, .unset, .unset, .unset] [(.ref bc3)]) _
    jvm_step Xx5.here [Xx5.here.top, hx, (hb hby d11_28), Xx5.method', hret, Value.isRef, FieldType.isReference]
    first | (intro acts; rw [hlv _ acts rfl rfl rfl]) | rw [hlv _ _ rfl rfl rfl]
    exact Steps.refl _
  · show Q_encutf8 Z b k ch h0 n0 _ Tx5.heap _
    rw [ex5]
    exact ⟨bc3, rfl, Nk2, K4, y_bc3, Vc3, Bc3⟩
theorem d10_0 : decode jdk_42_method_18_code 0 = .ok (.aload_n 0, 1) := by decide +kernel
theorem d10_1 : decode jdk_42_method_18_code 1 = .ok (.getstatic 86, 3) := by decide +kernel
theorem d10_4 : decode jdk_42_method_18_code 4 = .ok (.if_acmp .ne 10, 3) := by decide +kernel
theorem d10_7 : decode jdk_42_method_18_code 7 = .ok (.iload_n 1, 1) := by decide +kernel
theorem d10_8 : decode jdk_42_method_18_code 8 = .ok (.aload_n 2, 1) := by decide +kernel
theorem d10_9 : decode jdk_42_method_18_code 9 = .ok (.iconst 1, 1) := by decide +kernel
theorem d10_10 : decode jdk_42_method_18_code 10 = .ok (.invokestatic 252, 3) := by decide +kernel
theorem d10_13 : decode jdk_42_method_18_code 13 = .ok (.areturn, 1) := by decide +kernel
theorem ef_10_RIR (m : MethodId) (x0 : Addr) (x1 : Int32) (x2 : Addr) : entryFrame m #[(.ref x0), (.int x1), (.ref x2)] 3 = mkF m 0 #[.val (.ref x0), .val (.int x1), .val (.ref x2)] [] := by first | (simp [entryFrame, mkF, argsToLocals, Value.category]; done) | rfl
theorem pd__B_BZ__B : parseMethodDescriptor "(B[BZ)[B" = some ⟨[.byte, (.array .byte), .boolean], some (.array .byte)⟩ := by decide +kernel
def Q_encode (Z : State) (b : Addr) (k : ClassId) (ch : Int32) (aU : Addr) (cs : Int32) (h0 : Heap) (n0 : Nat) (v : Option Value) (h : Heap) (L : List Loc) : Prop := ∃ d : Addr, v = some (.ref d) ∧ Fr n0 L ∧ Keep h0 h [] ∧ h0.size ≤ d ∧ Arv Z h d k .byte (1 : Int32) [(.int ch)] (.int (0 : Int32)) ∧ Exa Z h d "[B"
set_option maxRecDepth 65536 in
set_option maxHeartbeats 40000000 in
theorem rm_encode (l : Launch) (Z : State) (a0 : Array Value) (hw : ∀ d ∈ tables_1, d.before a0 Z = true) (ws : List Jvm.Cond) (b : Addr) (k : ClassId) (ch : Int32) (aU : Addr) (cs : Int32) (h0 : Heap) (n0 : Nat) (Z0 : n0 ≤ h0.size) (O0 : Old Z n0 h0) (f0 : Arv Z h0 b k .byte (1 : Int32) [(.int ch)] (.int (0 : Int32))) (f1 : Exa Z h0 b "[B") (SS : own_start Z aU cs) (hc : ¬ (ch < (0 : Int32))) :
    MetFree l Y4 (head1 (Jvm.Cond.code Y4 jdk_42_method_18_code 3 (some (.array .byte)) :: ws) ({ frames := 3, cells := 1, slots := 1, locals := 50 } : Room)) (fun A_ U => A_ = #[(.ref aU), (.int (0 : Int32)), (.ref b)] ∧ Z.Warmed39 U.vm ∧ U.heap = h0) (fun _ _ _ _ _ => True) (fun _ U o_ U' => ∃ v_ L_, o_ = .returned v_ ∧ Q_encode Z b k ch aU cs h0 n0 v_ U'.heap L_ ∧ FrameEnd U o_ U' L_ ({ frames := 3, cells := 1, slots := 1, locals := 50 } : Room).cells ({ frames := 3, cells := 1, slots := 1, locals := 50 } : Room).slots) := by
  refine MetFree.of_bodySF (plainFor_of_name pn_0) hisR ?_
  intro p e s m args below meth c s₁ Bd hml0 hP hK
  obtain ⟨rfl, hZ, hh⟩ := hP
  have hx := Bd.exec
  have hby := Bd.bytes
  have hml : c.maxLocals = 3 := hml0
  have hown : s.vm.findClass S0 = some m.cls := findClass_of_methodNamed Bd.named
  have hnm := (name_of_methodNamed Bd.named Bd.method).1
  have hret := Bd.returns
  have X0 : Stand p l e ({ frames := 3, cells := 1, slots := 1, locals := 50 } : Room) s m #[(.ref aU), (.int (0 : Int32)), (.ref b)] below meth c s₁ [] 0 0 := Stand.of_body Bd
  have e0 : s₁.heap = h0 := by rw [← hh, Bd.state]; rfl
  have N0 := Fr.nil n0
  have pre0 : ∀ t_, Sp p e below s₁ (mkF m 0 #[.val (.ref aU), .val (.int (0 : Int32)), .val (.ref b)] []) t_ → Sp p e below s₁ (entryFrame m #[(.ref aU), (.int (0 : Int32)), (.ref b)] 3) t_ := fun t_ k_ => castTop (ef_10_RIR m aU (0 : Int32) b) k_
  obtain ⟨S_U8, S_IN, S_CS, H_CS⟩ := SS
  have F1 := S_IN.ext O0.2
  obtain ⟨Tg2, Xg2, eg2, stg2⟩ := getS2 X0 hx hZ hown (host := "") (Or.inl (tw hw 68 rfl)) Via.refl e0 F1 (g := (mkF m 1 #[.val (.ref aU), .val (.int (0 : Int32)), .val (.ref b)] [(.ref aU)])) rfl (hb hby d10_1)
  obtain ⟨_, _, ⟨Tk3, Lk3, kk3, nk3⟩, -, Xk3, ⟨Lck3, hQk3, lk3, yk3, zk3⟩, stk3⟩ := Jvm.LawKit.callS Xg2 hx (y := Y3) hown (mvT hZ (tw hw 70 rfl)) (mvT hZ (tw hw 71 rfl)) (mvT hZ (tw hw 38 rfl)) (mvT hZ (tw hw 72 rfl)) (by decide) (backOf (W := 0) (rm_encutf8 l Z a0 hw [] b k ch  h0 n0 Z0 O0 f0 f1 hc) hZ (tw hw 72 rfl) (tw hw 38 rfl) (by decide) (by decide)) (g := (mkF m 10 #[.val (.ref aU), .val (.int (0 : Int32)), .val (.ref b)] [(.int (1 : Int32)), (.ref b), (.int (0 : Int32))])) rfl (by rw [hml]; rfl) (argsL := [(.int (0 : Int32)), (.ref b), (.int (1 : Int32))]) (rest := []) (lenOf pd__B_BZ__B rfl) rfl (by show 2 * 0 + _ ≤ _; exact Nat.le_of_eq rfl) (hb hby d10_10) (fun _ _ => ⟨rfl, eg2, (by decide : 0 + 1 ≤ _), (by decide : 0 + 1 ≤ _)⟩)
  dsimp only [Pt.U, Pt.locs, Pt.cells, Pt.slots] at Xk3 lk3 yk3 zk3 stk3 hQk3
  subst lk3 yk3 zk3
  obtain ⟨dk3, rfl, Nk3q, Kk3q, Gk3_0, Qk3_0, Qk3_1⟩ := hQk3
  have g_dk3 : n0 ≤ dk3 := Nat.le_trans Z0 Gk3_0
  have y_dk3 : h0.size ≤ dk3 := Nat.le_trans (Nat.le_refl h0.size) Gk3_0
  have K4 : Keep h0 Tk3.heap [] := (Keep.refl h0 []).trans Kk3q all0
  have Nk3 := Fr.app N0 Nk3q
  obtain ⟨fs, hlv, hrun, hended, hW, hsame⟩ := Xk3.leave (v := some (.ref dk3)) (fun h => by rw [hret] at h; cases h)
  refine ⟨_, _, pre0 _ ?_, hrun, hended, _, _, rfl, ?_, ⟨_, rfl⟩, hW, hsame.mono (by decide) (by decide)⟩
  · refine XS.aloadN X0.here hx rfl (hb hby d10_0) rfl rfl ?_
    show Sp p e below s₁ (mkF m 1 #[.val (.ref aU), .val (.int (0 : Int32)), .val (.ref b)] [(.ref aU)]) _
    refine stg2 _ ?_
    show Sp p e below Tg2 (mkF m 4 #[.val (.ref aU), .val (.int (0 : Int32)), .val (.ref b)] [(.ref aU), (.ref aU)]) _
    refine Jvm.RoadKit.acmp (g := (mkF m 4 #[.val (.ref aU), .val (.int (0 : Int32)), .val (.ref b)] [(.ref aU), (.ref aU)])) Xg2 hx rfl rfl rfl (pc0 := 4) (pc' := 7) (same := true) rfl (hb hby d10_4) rfl (decide_eq_true rfl) (by decide) (by decide) ?_
    show Sp p e below Tg2 (mkF m 7 #[.val (.ref aU), .val (.int (0 : Int32)), .val (.ref b)] []) _
    refine XS.iloadN Xg2.here hx rfl (hb hby d10_7) rfl ?_
    refine XS.aloadN Xg2.here hx rfl (hb hby d10_8) rfl rfl ?_
    refine XS.iconst Xg2.here hx rfl (hb hby d10_9) ?_
    refine stk3 _ ?_
    show Sp p e below Tk3 (mkF m 13 #[.val (.ref aU), .val (.int (0 : Int32)), .val (.ref b)] [(.ref dk3)]) _
    jvm_step Xk3.here [Xk3.here.top, hx, (hb hby d10_13), Xk3.method', hret, Value.isRef, FieldType.isReference]
    first | (intro acts; rw [hlv _ acts rfl rfl rfl]) | rw [hlv _ _ rfl rfl rfl]
    exact Steps.refl _
  · show Q_encode Z b k ch aU cs h0 n0 _ Tk3.heap _
    exact ⟨dk3, rfl, Nk3, K4, y_dk3, Qk3_0, Qk3_1⟩
theorem d8_0 : decode jdk_42_method_64_code 0 = .ok (.aload_n 1, 1) := by decide +kernel
theorem d8_1 : decode jdk_42_method_64_code 1 = .ok (.ifnonnull 11, 3) := by decide +kernel
theorem d8_12 : decode jdk_42_method_64_code 12 = .ok (.aload_n 1, 1) := by decide +kernel
theorem d8_13 : decode jdk_42_method_64_code 13 = .ok (.aload_n 0, 1) := by decide +kernel
theorem d8_14 : decode jdk_42_method_64_code 14 = .ok (.invokevirtual 335, 3) := by decide +kernel
theorem d8_17 : decode jdk_42_method_64_code 17 = .ok (.aload_n 0, 1) := by decide +kernel
theorem d8_18 : decode jdk_42_method_64_code 18 = .ok (.getfield 9, 3) := by decide +kernel
theorem d8_21 : decode jdk_42_method_64_code 21 = .ok (.invokestatic 535, 3) := by decide +kernel
theorem d8_24 : decode jdk_42_method_64_code 24 = .ok (.areturn, 1) := by decide +kernel
theorem ef_8_RR (m : MethodId) (x0 : Addr) (x1 : Addr) : entryFrame m #[(.ref x0), (.ref x1)] 2 = mkF m 0 #[.val (.ref x0), .val (.ref x1)] [] := by first | (simp [entryFrame, mkF, argsToLocals, Value.category]; done) | rfl
theorem pd___B : parseMethodDescriptor "()B" = some ⟨[], some .byte⟩ := by decide +kernel
theorem pd__Ljava_nio_charset_Charset_B_B__B : parseMethodDescriptor "(Ljava/nio/charset/Charset;B[B)[B" = some ⟨[(.object "java/nio/charset/Charset"), .byte, (.array .byte)], some (.array .byte)⟩ := by decide +kernel
def Q_getbytes (Z : State) (a : Addr) (b : Addr) (k : ClassId) (ch : Int32) (aU : Addr) (cs : Int32) (h0 : Heap) (n0 : Nat) (v : Option Value) (h : Heap) (L : List Loc) : Prop := ∃ d : Addr, v = some (.ref d) ∧ Fr n0 L ∧ Keep h0 h [] ∧ h0.size ≤ d ∧ Arv Z h d k .byte (1 : Int32) [(.int ch)] (.int (0 : Int32)) ∧ Exa Z h d "[B"
set_option maxRecDepth 65536 in
set_option maxHeartbeats 40000000 in
theorem rm_getbytes (l : Launch) (Z : State) (a0 : Array Value) (hw : ∀ d ∈ tables_1, d.before a0 Z = true) (ws : List Jvm.Cond) (a : Addr) (b : Addr) (k : ClassId) (ch : Int32) (aU : Addr) (cs : Int32) (h0 : Heap) (n0 : Nat) (Z0 : n0 ≤ h0.size) (O0 : Old Z n0 h0) (f0 : Exa Z h0 a S0) (f1 : Fld Z h0 a S0 "coder" "B" (.int (0 : Int32))) (f2 : Fld Z h0 a S0 "value" "[B" (.ref b)) (f3 : Arv Z h0 b k .byte (1 : Int32) [(.int ch)] (.int (0 : Int32))) (f4 : Exa Z h0 b "[B") (SS : own_start Z aU cs) (hc : ¬ (ch < (0 : Int32))) :
    MetFree l Y5 (head1 (Jvm.Cond.code Y5 jdk_42_method_64_code 2 (some (.array .byte)) :: ws) ({ frames := 4, cells := 1, slots := 1, locals := 64 } : Room)) (fun A_ U => A_ = #[(.ref a), (.ref aU)] ∧ Z.Warmed39 U.vm ∧ U.heap = h0) (fun _ _ _ _ _ => True) (fun _ U o_ U' => ∃ v_ L_, o_ = .returned v_ ∧ Q_getbytes Z a b k ch aU cs h0 n0 v_ U'.heap L_ ∧ FrameEnd U o_ U' L_ ({ frames := 4, cells := 1, slots := 1, locals := 64 } : Room).cells ({ frames := 4, cells := 1, slots := 1, locals := 64 } : Room).slots) := by
  refine MetFree.of_bodySF (plainFor_of_name pn_0) hisR ?_
  intro p e s m args below meth c s₁ Bd hml0 hP hK
  obtain ⟨rfl, hZ, hh⟩ := hP
  have hx := Bd.exec
  have hby := Bd.bytes
  have hml : c.maxLocals = 2 := hml0
  have hown : s.vm.findClass S0 = some m.cls := findClass_of_methodNamed Bd.named
  have hnm := (name_of_methodNamed Bd.named Bd.method).1
  have hret := Bd.returns
  have X0 : Stand p l e ({ frames := 4, cells := 1, slots := 1, locals := 64 } : Room) s m #[(.ref a), (.ref aU)] below meth c s₁ [] 0 0 := Stand.of_body Bd
  have e0 : s₁.heap = h0 := by rw [← hh, Bd.state]; rfl
  have N0 := Fr.nil n0
  have pre0 : ∀ t_, Sp p e below s₁ (mkF m 0 #[.val (.ref a), .val (.ref aU)] []) t_ → Sp p e below s₁ (entryFrame m #[(.ref a), (.ref aU)] 2) t_ := fun t_ k_ => castTop (ef_8_RR m a aU) k_
  obtain ⟨S_U8, S_IN, S_CS, H_CS⟩ := SS
  obtain ⟨cqk1, kqk1, qk1a, qk1b, qk1c⟩ := isOf hZ e0 f0
  obtain ⟨_, _, ⟨Tk1, Lk1, kk1, nk1⟩, -, Xk1, ⟨Lck1, hQk1, lk1, yk1, zk1⟩, stk1⟩ := X0.virtualBack hx (y := Y0) (z := Y0) hown (mvT hZ (tw hw 57 rfl)) (mvT hZ (tw hw 58 rfl)) (notFace_of_selects (args := #[]) (mvT hZ (tw hw 60 rfl))) (mvT hZ (tw hw 60 rfl)) (mvT hZ (tw hw 59 rfl)) (by decide) (backOf (W := 1) (rm_coder l Z a0 hw [] a aU cs h0 n0 Z0 O0 f1 ⟨S_U8, S_IN, S_CS, H_CS⟩) hZ (tw hw 61 rfl) (tw hw 38 rfl) (by decide) (by decide)) qk1a qk1c (g := (mkF m 14 #[.val (.ref a), .val (.ref aU)] [(.ref a), (.ref aU)])) rfl (by rw [hml]; rfl) (Steps.refl _) (argsL := []) (rest := [(.ref aU)]) (lenOf pd___B rfl) rfl (by show 2 * 0 + _ ≤ _; exact Nat.le_of_eq rfl) (hb hby d8_14) (fun _ _ => ⟨rfl, e0, (by decide : 0 + 0 ≤ _), (by decide : 0 + 0 ≤ _)⟩)
  dsimp only [Pt.U, Pt.locs, Pt.cells, Pt.slots] at Xk1 lk1 yk1 zk1 stk1 hQk1
  subst lk1 yk1 zk1
  obtain ⟨rfl, Nk1q, ek1⟩ := hQk1
  have Nk1 := Fr.app N0 Nk1q
  obtain ⟨Tf2, Xf2, ef2, stf2⟩ := getF Xk1 hx hZ hown (host := "") (Or.inl (tw hw 64 rfl)) Via.refl ek1 f2 (g := (mkF m 18 #[.val (.ref a), .val (.ref aU)] [(.ref a), (.int (0 : Int32)), (.ref aU)])) rfl rfl (hb hby d8_18)
  obtain ⟨_, _, ⟨Tk3, Lk3, kk3, nk3⟩, -, Xk3, ⟨Lck3, hQk3, lk3, yk3, zk3⟩, stk3⟩ := Jvm.LawKit.callS Xf2 hx (y := Y4) hown (mvT hZ (tw hw 65 rfl)) (mvT hZ (tw hw 66 rfl)) (mvT hZ (tw hw 38 rfl)) (mvT hZ (tw hw 67 rfl)) (by decide) (backOf (W := 0) (rm_encode l Z a0 hw [] b k ch aU cs h0 n0 Z0 O0 f3 f4 ⟨S_U8, S_IN, S_CS, H_CS⟩ hc) hZ (tw hw 67 rfl) (tw hw 38 rfl) (by decide) (by decide)) (g := (mkF m 21 #[.val (.ref a), .val (.ref aU)] [(.ref b), (.int (0 : Int32)), (.ref aU)])) rfl (by rw [hml]; rfl) (argsL := [(.ref aU), (.int (0 : Int32)), (.ref b)]) (rest := []) (lenOf pd__Ljava_nio_charset_Charset_B_B__B rfl) rfl (by show 2 * 0 + _ ≤ _; exact Nat.le_of_eq rfl) (hb hby d8_21) (fun _ _ => ⟨rfl, ef2, (by decide : 0 + 1 ≤ _), (by decide : 0 + 1 ≤ _)⟩)
  dsimp only [Pt.U, Pt.locs, Pt.cells, Pt.slots] at Xk3 lk3 yk3 zk3 stk3 hQk3
  subst lk3 yk3 zk3
  obtain ⟨dk3, rfl, Nk3q, Kk3q, Gk3_0, Qk3_0, Qk3_1⟩ := hQk3
  have g_dk3 : n0 ≤ dk3 := Nat.le_trans Z0 Gk3_0
  have y_dk3 : h0.size ≤ dk3 := Nat.le_trans (Nat.le_refl h0.size) Gk3_0
  have K4 : Keep h0 Tk3.heap [] := (Keep.refl h0 []).trans Kk3q all0
  have Nk3 := Fr.app Nk1 Nk3q
  obtain ⟨fs, hlv, hrun, hended, hW, hsame⟩ := Xk3.leave (v := some (.ref dk3)) (fun h => by rw [hret] at h; cases h)
  refine ⟨_, _, pre0 _ ?_, hrun, hended, _, _, rfl, ?_, ⟨_, rfl⟩, hW, hsame.mono (by decide) (by decide)⟩
  · refine XS.aloadN X0.here hx rfl (hb hby d8_0) rfl rfl ?_
    show Sp p e below s₁ (mkF m 1 #[.val (.ref a), .val (.ref aU)] [(.ref aU)]) _
    refine XS.ifnonnullYes X0.here hx rfl (pc0 := 1) (pc' := 12) rfl (hb hby d8_1) rfl (by decide) (by decide) ?_
    refine XS.aloadN X0.here hx rfl (hb hby d8_12) rfl rfl ?_
    refine XS.aloadN X0.here hx rfl (hb hby d8_13) rfl rfl ?_
    refine stk1.trans ?_
    refine XS.aloadN Xk1.here hx rfl (hb hby d8_17) rfl rfl ?_
    refine stf2 _ ?_
    refine stk3 _ ?_
    show Sp p e below Tk3 (mkF m 24 #[.val (.ref a), .val (.ref aU)] [(.ref dk3)]) _
    jvm_step Xk3.here [Xk3.here.top, hx, (hb hby d8_24), Xk3.method', hret, Value.isRef, FieldType.isReference]
    first | (intro acts; rw [hlv _ acts rfl rfl rfl]) | rw [hlv _ _ rfl rfl rfl]
    exact Steps.refl _
  · show Q_getbytes Z a b k ch aU cs h0 n0 _ Tk3.heap _
    exact ⟨dk3, rfl, Nk3, K4, y_dk3, Qk3_0, Qk3_1⟩
theorem d14_0 : decode prog_57_method_12_code 0 = .ok (.ldc2_w 116, 3) := by decide +kernel
theorem d14_3 : decode prog_57_method_12_code 3 = .ok (.lstore_n 1, 1) := by decide +kernel
theorem d14_4 : decode prog_57_method_12_code 4 = .ok (.aload_n 0, 1) := by decide +kernel
theorem d14_5 : decode prog_57_method_12_code 5 = .ok (.astore_n 3, 1) := by decide +kernel
theorem d14_6 : decode prog_57_method_12_code 6 = .ok (.aload_n 3, 1) := by decide +kernel
theorem d14_7 : decode prog_57_method_12_code 7 = .ok (.arraylength, 1) := by decide +kernel
theorem d14_8 : decode prog_57_method_12_code 8 = .ok (.istore 4, 2) := by decide +kernel
theorem d14_10 : decode prog_57_method_12_code 10 = .ok (.iconst 0, 1) := by decide +kernel
theorem d14_11 : decode prog_57_method_12_code 11 = .ok (.istore 5, 2) := by decide +kernel
theorem d14_13 : decode prog_57_method_12_code 13 = .ok (.iload 5, 2) := by decide +kernel
theorem d14_15 : decode prog_57_method_12_code 15 = .ok (.iload 4, 2) := by decide +kernel
theorem d14_17 : decode prog_57_method_12_code 17 = .ok (.if_icmp .ge 29, 3) := by decide +kernel
theorem d14_20 : decode prog_57_method_12_code 20 = .ok (.aload_n 3, 1) := by decide +kernel
theorem d14_21 : decode prog_57_method_12_code 21 = .ok (.iload 5, 2) := by decide +kernel
theorem d14_23 : decode prog_57_method_12_code 23 = .ok (.baload, 1) := by decide +kernel
theorem d14_24 : decode prog_57_method_12_code 24 = .ok (.istore 6, 2) := by decide +kernel
theorem d14_26 : decode prog_57_method_12_code 26 = .ok (.lload_n 1, 1) := by decide +kernel
theorem d14_27 : decode prog_57_method_12_code 27 = .ok (.iload 6, 2) := by decide +kernel
theorem d14_29 : decode prog_57_method_12_code 29 = .ok (.sipush 255, 3) := by decide +kernel
theorem d14_32 : decode prog_57_method_12_code 32 = .ok (.iand, 1) := by decide +kernel
theorem d14_33 : decode prog_57_method_12_code 33 = .ok (.i2l, 1) := by decide +kernel
theorem d14_34 : decode prog_57_method_12_code 34 = .ok (.lxor, 1) := by decide +kernel
theorem d14_35 : decode prog_57_method_12_code 35 = .ok (.ldc2_w 118, 3) := by decide +kernel
theorem d14_38 : decode prog_57_method_12_code 38 = .ok (.lmul, 1) := by decide +kernel
theorem d14_39 : decode prog_57_method_12_code 39 = .ok (.lstore_n 1, 1) := by decide +kernel
theorem d14_40 : decode prog_57_method_12_code 40 = .ok (.iinc 5 1, 3) := by decide +kernel
theorem d14_43 : decode prog_57_method_12_code 43 = .ok (.goto (-30), 3) := by decide +kernel
theorem d14_46 : decode prog_57_method_12_code 46 = .ok (.lload_n 1, 1) := by decide +kernel
theorem d14_47 : decode prog_57_method_12_code 47 = .ok (.lload_n 1, 1) := by decide +kernel
theorem d14_48 : decode prog_57_method_12_code 48 = .ok (.bipush 33, 2) := by decide +kernel
theorem d14_50 : decode prog_57_method_12_code 50 = .ok (.lushr, 1) := by decide +kernel
theorem d14_51 : decode prog_57_method_12_code 51 = .ok (.lxor, 1) := by decide +kernel
theorem d14_52 : decode prog_57_method_12_code 52 = .ok (.lstore_n 1, 1) := by decide +kernel
theorem d14_53 : decode prog_57_method_12_code 53 = .ok (.lload_n 1, 1) := by decide +kernel
theorem d14_54 : decode prog_57_method_12_code 54 = .ok (.ldc2_w 120, 3) := by decide +kernel
theorem d14_57 : decode prog_57_method_12_code 57 = .ok (.lmul, 1) := by decide +kernel
theorem d14_58 : decode prog_57_method_12_code 58 = .ok (.lstore_n 1, 1) := by decide +kernel
theorem d14_59 : decode prog_57_method_12_code 59 = .ok (.lload_n 1, 1) := by decide +kernel
theorem d14_60 : decode prog_57_method_12_code 60 = .ok (.lload_n 1, 1) := by decide +kernel
theorem d14_61 : decode prog_57_method_12_code 61 = .ok (.bipush 33, 2) := by decide +kernel
theorem d14_63 : decode prog_57_method_12_code 63 = .ok (.lushr, 1) := by decide +kernel
theorem d14_64 : decode prog_57_method_12_code 64 = .ok (.lxor, 1) := by decide +kernel
theorem d14_65 : decode prog_57_method_12_code 65 = .ok (.lstore_n 1, 1) := by decide +kernel
theorem d14_66 : decode prog_57_method_12_code 66 = .ok (.lload_n 1, 1) := by decide +kernel
theorem d14_67 : decode prog_57_method_12_code 67 = .ok (.l2i, 1) := by decide +kernel
theorem d14_68 : decode prog_57_method_12_code 68 = .ok (.ireturn, 1) := by decide +kernel
theorem pn_2 : plainName "com/example/munim/munim/csv/TextKeys" = true := by first | (simp [plainName, overriddenIn]; done) | decide +kernel
theorem ef_14_R (m : MethodId) (x0 : Addr) : entryFrame m #[(.ref x0)] 7 = mkF m 0 #[.val (.ref x0), .unset, .unset, .unset, .unset, .unset, .unset] [] := by first | (simp [entryFrame, mkF, argsToLocals, Value.category]; done) | rfl
def own_hash (ch : Int32) : Int32 := (((((((-3750763034362895579 : Int64) ^^^ ((ch &&& (255 : Int32)).toInt64)) * (1099511628211 : Int64)) ^^^ (((((-3750763034362895579 : Int64) ^^^ ((ch &&& (255 : Int32)).toInt64)) * (1099511628211 : Int64)).toUInt64 >>> ((33 : Int32) &&& 0x3f).toInt64.toUInt64).toInt64)) * (-49064778989728563 : Int64)) ^^^ (((((((-3750763034362895579 : Int64) ^^^ ((ch &&& (255 : Int32)).toInt64)) * (1099511628211 : Int64)) ^^^ (((((-3750763034362895579 : Int64) ^^^ ((ch &&& (255 : Int32)).toInt64)) * (1099511628211 : Int64)).toUInt64 >>> ((33 : Int32) &&& 0x3f).toInt64.toUInt64).toInt64)) * (-49064778989728563 : Int64)).toUInt64 >>> ((33 : Int32) &&& 0x3f).toInt64.toUInt64).toInt64)).toInt32)
def Q_hash (Z : State) (d : Addr) (k : ClassId) (ch : Int32) (r : Int32) (h0 : Heap) (n0 : Nat) (v : Option Value) (h : Heap) (L : List Loc) : Prop := v = some (.int r) ∧ Fr n0 L ∧ h = h0
set_option maxRecDepth 65536 in
set_option maxHeartbeats 40000000 in
theorem rm_hash (l : Launch) (Z : State) (a0 : Array Value) (hw : ∀ d ∈ tables_1, d.before a0 Z = true) (ws : List Jvm.Cond) (d : Addr) (k : ClassId) (ch : Int32) (r : Int32) (h0 : Heap) (n0 : Nat) (Z0 : n0 ≤ h0.size) (O0 : Old Z n0 h0) (f0 : Arv Z h0 d k .byte (1 : Int32) [(.int ch)] (.int (0 : Int32))) (hres : r = own_hash ch) :
    MetFree l Y6 (head1 (Jvm.Cond.code Y6 prog_57_method_12_code 7 (some .int) :: ws) ({ frames := 0, cells := 0, slots := 0, locals := 0 } : Room)) (fun A_ U => A_ = #[(.ref d)] ∧ Z.Warmed39 U.vm ∧ U.heap = h0) (fun _ _ _ _ _ => True) (fun _ U o_ U' => ∃ v_ L_, o_ = .returned v_ ∧ Q_hash Z d k ch r h0 n0 v_ U'.heap L_ ∧ FrameEnd U o_ U' L_ ({ frames := 0, cells := 0, slots := 0, locals := 0 } : Room).cells ({ frames := 0, cells := 0, slots := 0, locals := 0 } : Room).slots) := by
  refine MetFree.of_bodySF (plainFor_of_name pn_2) hisR ?_
  intro p e s m args below meth c s₁ Bd hml0 hP hK
  obtain ⟨rfl, hZ, hh⟩ := hP
  have hx := Bd.exec
  have hby := Bd.bytes
  have hml : c.maxLocals = 7 := hml0
  have hown : s.vm.findClass S1 = some m.cls := findClass_of_methodNamed Bd.named
  have hnm := (name_of_methodNamed Bd.named Bd.method).1
  have hret := Bd.returns
  have X0 : Stand p l e ({ frames := 0, cells := 0, slots := 0, locals := 0 } : Room) s m #[(.ref d)] below meth c s₁ [] 0 0 := Stand.of_body Bd
  have e0 : s₁.heap = h0 := by rw [← hh, Bd.state]; rfl
  have N0 := Fr.nil n0
  have pre0 : ∀ t_, Sp p e below s₁ (mkF m 0 #[.val (.ref d), .unset, .unset, .unset, .unset, .unset, .unset] []) t_ → Sp p e below s₁ (entryFrame m #[(.ref d)] 7) t_ := fun t_ k_ => castTop (ef_14_R m d) k_
  obtain ⟨clv1, Arv1, qv1, Sv1, Nv1, Hv1, Gv1⟩ := id f0
  have in2 : ¬ ((0 : Int32) < 0 ∨ clv1.slots.size ≤ ((0 : Int32)).toNatClampNeg) := inb_of Sv1 ⟨by decide, by decide⟩
  have atin2 : clv1.slots[((0 : Int32)).toNatClampNeg]? = some (.int ch) := Has.at Hv1 in2 rfl
  obtain ⟨fs, hlv, hrun, hended, hW, hsame⟩ := X0.leave (v := some (.int (((((((-3750763034362895579 : Int64) ^^^ ((ch &&& (255 : Int32)).toInt64)) * (1099511628211 : Int64)) ^^^ (((((-3750763034362895579 : Int64) ^^^ ((ch &&& (255 : Int32)).toInt64)) * (1099511628211 : Int64)).toUInt64 >>> ((33 : Int32) &&& 0x3f).toInt64.toUInt64).toInt64)) * (-49064778989728563 : Int64)) ^^^ (((((((-3750763034362895579 : Int64) ^^^ ((ch &&& (255 : Int32)).toInt64)) * (1099511628211 : Int64)) ^^^ (((((-3750763034362895579 : Int64) ^^^ ((ch &&& (255 : Int32)).toInt64)) * (1099511628211 : Int64)).toUInt64 >>> ((33 : Int32) &&& 0x3f).toInt64.toUInt64).toInt64)) * (-49064778989728563 : Int64)).toUInt64 >>> ((33 : Int32) &&& 0x3f).toInt64.toUInt64).toInt64)).toInt32))) (fun h => by rw [hret] at h; cases h)
  refine ⟨_, _, pre0 _ ?_, hrun, hended, _, _, rfl, ?_, ⟨_, rfl⟩, hW, hsame.mono (by decide) (by decide)⟩
  · refine Jvm.Stand.ldc2J X0 hx hown (mvT hZ (tw hw 92 rfl)) rfl (hb hby d14_0) ?_
    show Sp p e below s₁ (mkF m 3 #[.val (.ref d), .unset, .unset, .unset, .unset, .unset, .unset] [(.long (-3750763034362895579 : Int64))]) _
    refine XS.lstoreN X0.here hx rfl (hb hby d14_3) rfl (l' := #[.val (.ref d), .val (.long (-3750763034362895579 : Int64)), .second, .unset, .unset, .unset, .unset]) rfl ?_
    refine XS.aloadN X0.here hx rfl (hb hby d14_4) rfl rfl ?_
    refine XS.astoreN X0.here hx rfl (hb hby d14_5) rfl rfl (l' := #[.val (.ref d), .val (.long (-3750763034362895579 : Int64)), .second, .val (.ref d), .unset, .unset, .unset]) rfl ?_
    refine XS.aloadN X0.here hx rfl (hb hby d14_6) rfl rfl ?_
    show Sp p e below s₁ (mkF m 7 #[.val (.ref d), .val (.long (-3750763034362895579 : Int64)), .second, .val (.ref d), .unset, .unset, .unset] [(.ref d)]) _
    refine X0.arraylength hx (own_eq e0 Arv1.1) (State.isArrayOf_alike hZ.alike Arv1.2.1) (g := (mkF m 7 #[.val (.ref d), .val (.long (-3750763034362895579 : Int64)), .second, .val (.ref d), .unset, .unset, .unset] [(.ref d)])) rfl rfl (hb hby d14_7) _ ?_
    rw [len_of Sv1 Nv1]
    show Sp p e below s₁ (mkF m 8 #[.val (.ref d), .val (.long (-3750763034362895579 : Int64)), .second, .val (.ref d), .unset, .unset, .unset] [(.int (1 : Int32))]) _
    refine XS.istore X0.here hx rfl (hb hby d14_8) rfl (l' := #[.val (.ref d), .val (.long (-3750763034362895579 : Int64)), .second, .val (.ref d), .val (.int (1 : Int32)), .unset, .unset]) rfl ?_
    refine XS.iconst X0.here hx rfl (hb hby d14_10) ?_
    refine XS.istore X0.here hx rfl (hb hby d14_11) rfl (l' := #[.val (.ref d), .val (.long (-3750763034362895579 : Int64)), .second, .val (.ref d), .val (.int (1 : Int32)), .val (.int (0 : Int32)), .unset]) rfl ?_
    refine XS.iload X0.here hx rfl (hb hby d14_13) rfl ?_
    refine XS.iload X0.here hx rfl (hb hby d14_15) rfl ?_
    refine XS.icmpNo X0.here hx rfl (hb hby d14_17) rfl (tlt (by decide : (0 : Int32) < (1 : Int32))).2.1 ?_
    refine XS.aloadN X0.here hx rfl (hb hby d14_20) rfl rfl ?_
    refine XS.iload X0.here hx rfl (hb hby d14_21) rfl ?_
    show Sp p e below s₁ (mkF m 23 #[.val (.ref d), .val (.long (-3750763034362895579 : Int64)), .second, .val (.ref d), .val (.int (1 : Int32)), .val (.int (0 : Int32)), .unset] [(.int (0 : Int32)), (.ref d)]) _
    refine X0.baloadBytes hx (j := (0 : Int32)) (v := (.int ch)) (own_eq e0 Arv1.1) (State.isArrayOf_alike hZ.alike Arv1.2.1) Arv1.2.2 in2 atin2 (g := (mkF m 23 #[.val (.ref d), .val (.long (-3750763034362895579 : Int64)), .second, .val (.ref d), .val (.int (1 : Int32)), .val (.int (0 : Int32)), .unset] [(.int (0 : Int32)), (.ref d)])) rfl rfl (hb hby d14_23) _ ?_
    show Sp p e below s₁ (mkF m 24 #[.val (.ref d), .val (.long (-3750763034362895579 : Int64)), .second, .val (.ref d), .val (.int (1 : Int32)), .val (.int (0 : Int32)), .unset] [(.int ch)]) _
    refine XS.istore X0.here hx rfl (hb hby d14_24) rfl (l' := #[.val (.ref d), .val (.long (-3750763034362895579 : Int64)), .second, .val (.ref d), .val (.int (1 : Int32)), .val (.int (0 : Int32)), .val (.int ch)]) rfl ?_
    refine XS.lloadN X0.here hx rfl (hb hby d14_26) rfl ?_
    refine XS.iload X0.here hx rfl (hb hby d14_27) rfl ?_
    refine XS.sipush X0.here hx rfl (hb hby d14_29) ?_
    refine XS.iand X0.here hx rfl (hb hby d14_32) rfl ?_
    refine XS.i2l X0.here hx rfl (hb hby d14_33) rfl ?_
    refine XS.lxor X0.here hx rfl (hb hby d14_34) rfl ?_
    show Sp p e below s₁ (mkF m 35 #[.val (.ref d), .val (.long (-3750763034362895579 : Int64)), .second, .val (.ref d), .val (.int (1 : Int32)), .val (.int (0 : Int32)), .val (.int ch)] [(.long ((-3750763034362895579 : Int64) ^^^ ((ch &&& (255 : Int32)).toInt64)))]) _
    refine Jvm.Stand.ldc2J X0 hx hown (mvT hZ (tw hw 93 rfl)) rfl (hb hby d14_35) ?_
    refine XS.lmul X0.here hx rfl (hb hby d14_38) rfl ?_
    refine XS.lstoreN X0.here hx rfl (hb hby d14_39) rfl (l' := #[.val (.ref d), .val (.long (((-3750763034362895579 : Int64) ^^^ ((ch &&& (255 : Int32)).toInt64)) * (1099511628211 : Int64))), .second, .val (.ref d), .val (.int (1 : Int32)), .val (.int (0 : Int32)), .val (.int ch)]) rfl ?_
    refine XS.iinc X0.here hx rfl (hb hby d14_40) rfl (l' := #[.val (.ref d), .val (.long (((-3750763034362895579 : Int64) ^^^ ((ch &&& (255 : Int32)).toInt64)) * (1099511628211 : Int64))), .second, .val (.ref d), .val (.int (1 : Int32)), .val (.int (1 : Int32)), .val (.int ch)]) rfl ?_
    refine XS.goto X0.here hx rfl (pc0 := 43) (pc' := 13) rfl (hb hby d14_43) (by decide) (by decide) ?_
    refine XS.iload X0.here hx rfl (hb hby d14_13) rfl ?_
    refine XS.iload X0.here hx rfl (hb hby d14_15) rfl ?_
    refine XS.icmpYes X0.here hx rfl (pc0 := 17) (pc' := 46) rfl (hb hby d14_17) rfl (flt (by decide : ¬ ((1 : Int32) < (1 : Int32)))).2.1 (by decide) (by decide) ?_
    refine XS.lloadN X0.here hx rfl (hb hby d14_46) rfl ?_
    refine XS.lloadN X0.here hx rfl (hb hby d14_47) rfl ?_
    refine XS.bipush X0.here hx rfl (hb hby d14_48) ?_
    refine XS.lushr X0.here hx rfl (hb hby d14_50) rfl ?_
    refine XS.lxor X0.here hx rfl (hb hby d14_51) rfl ?_
    refine XS.lstoreN X0.here hx rfl (hb hby d14_52) rfl (l' := #[.val (.ref d), .val (.long ((((-3750763034362895579 : Int64) ^^^ ((ch &&& (255 : Int32)).toInt64)) * (1099511628211 : Int64)) ^^^ (((((-3750763034362895579 : Int64) ^^^ ((ch &&& (255 : Int32)).toInt64)) * (1099511628211 : Int64)).toUInt64 >>> ((33 : Int32) &&& 0x3f).toInt64.toUInt64).toInt64))), .second, .val (.ref d), .val (.int (1 : Int32)), .val (.int (1 : Int32)), .val (.int ch)]) rfl ?_
    refine XS.lloadN X0.here hx rfl (hb hby d14_53) rfl ?_
    show Sp p e below s₁ (mkF m 54 #[.val (.ref d), .val (.long ((((-3750763034362895579 : Int64) ^^^ ((ch &&& (255 : Int32)).toInt64)) * (1099511628211 : Int64)) ^^^ (((((-3750763034362895579 : Int64) ^^^ ((ch &&& (255 : Int32)).toInt64)) * (1099511628211 : Int64)).toUInt64 >>> ((33 : Int32) &&& 0x3f).toInt64.toUInt64).toInt64))), .second, .val (.ref d), .val (.int (1 : Int32)), .val (.int (1 : Int32)), .val (.int ch)] [(.long ((((-3750763034362895579 : Int64) ^^^ ((ch &&& (255 : Int32)).toInt64)) * (1099511628211 : Int64)) ^^^ (((((-3750763034362895579 : Int64) ^^^ ((ch &&& (255 : Int32)).toInt64)) * (1099511628211 : Int64)).toUInt64 >>> ((33 : Int32) &&& 0x3f).toInt64.toUInt64).toInt64)))]) _
    refine Jvm.Stand.ldc2J X0 hx hown (mvT hZ (tw hw 94 rfl)) rfl (hb hby d14_54) ?_
    refine XS.lmul X0.here hx rfl (hb hby d14_57) rfl ?_
    refine XS.lstoreN X0.here hx rfl (hb hby d14_58) rfl (l' := #[.val (.ref d), .val (.long (((((-3750763034362895579 : Int64) ^^^ ((ch &&& (255 : Int32)).toInt64)) * (1099511628211 : Int64)) ^^^ (((((-3750763034362895579 : Int64) ^^^ ((ch &&& (255 : Int32)).toInt64)) * (1099511628211 : Int64)).toUInt64 >>> ((33 : Int32) &&& 0x3f).toInt64.toUInt64).toInt64)) * (-49064778989728563 : Int64))), .second, .val (.ref d), .val (.int (1 : Int32)), .val (.int (1 : Int32)), .val (.int ch)]) rfl ?_
    refine XS.lloadN X0.here hx rfl (hb hby d14_59) rfl ?_
    refine XS.lloadN X0.here hx rfl (hb hby d14_60) rfl ?_
    refine XS.bipush X0.here hx rfl (hb hby d14_61) ?_
    refine XS.lushr X0.here hx rfl (hb hby d14_63) rfl ?_
    refine XS.lxor X0.here hx rfl (hb hby d14_64) rfl ?_
    refine XS.lstoreN X0.here hx rfl (hb hby d14_65) rfl (l' := #[.val (.ref d), .val (.long ((((((-3750763034362895579 : Int64) ^^^ ((ch &&& (255 : Int32)).toInt64)) * (1099511628211 : Int64)) ^^^ (((((-3750763034362895579 : Int64) ^^^ ((ch &&& (255 : Int32)).toInt64)) * (1099511628211 : Int64)).toUInt64 >>> ((33 : Int32) &&& 0x3f).toInt64.toUInt64).toInt64)) * (-49064778989728563 : Int64)) ^^^ (((((((-3750763034362895579 : Int64) ^^^ ((ch &&& (255 : Int32)).toInt64)) * (1099511628211 : Int64)) ^^^ (((((-3750763034362895579 : Int64) ^^^ ((ch &&& (255 : Int32)).toInt64)) * (1099511628211 : Int64)).toUInt64 >>> ((33 : Int32) &&& 0x3f).toInt64.toUInt64).toInt64)) * (-49064778989728563 : Int64)).toUInt64 >>> ((33 : Int32) &&& 0x3f).toInt64.toUInt64).toInt64))), .second, .val (.ref d), .val (.int (1 : Int32)), .val (.int (1 : Int32)), .val (.int ch)]) rfl ?_
    refine XS.lloadN X0.here hx rfl (hb hby d14_66) rfl ?_
    refine XS.l2i X0.here hx rfl (hb hby d14_67) rfl ?_
    show Sp p e below s₁ (mkF m 68 #[.val (.ref d), .val (.long ((((((-3750763034362895579 : Int64) ^^^ ((ch &&& (255 : Int32)).toInt64)) * (1099511628211 : Int64)) ^^^ (((((-3750763034362895579 : Int64) ^^^ ((ch &&& (255 : Int32)).toInt64)) * (1099511628211 : Int64)).toUInt64 >>> ((33 : Int32) &&& 0x3f).toInt64.toUInt64).toInt64)) * (-49064778989728563 : Int64)) ^^^ (((((((-3750763034362895579 : Int64) ^^^ ((ch &&& (255 : Int32)).toInt64)) * (1099511628211 : Int64)) ^^^ (((((-3750763034362895579 : Int64) ^^^ ((ch &&& (255 : Int32)).toInt64)) * (1099511628211 : Int64)).toUInt64 >>> ((33 : Int32) &&& 0x3f).toInt64.toUInt64).toInt64)) * (-49064778989728563 : Int64)).toUInt64 >>> ((33 : Int32) &&& 0x3f).toInt64.toUInt64).toInt64))), .second, .val (.ref d), .val (.int (1 : Int32)), .val (.int (1 : Int32)), .val (.int ch)] [(.int (((((((-3750763034362895579 : Int64) ^^^ ((ch &&& (255 : Int32)).toInt64)) * (1099511628211 : Int64)) ^^^ (((((-3750763034362895579 : Int64) ^^^ ((ch &&& (255 : Int32)).toInt64)) * (1099511628211 : Int64)).toUInt64 >>> ((33 : Int32) &&& 0x3f).toInt64.toUInt64).toInt64)) * (-49064778989728563 : Int64)) ^^^ (((((((-3750763034362895579 : Int64) ^^^ ((ch &&& (255 : Int32)).toInt64)) * (1099511628211 : Int64)) ^^^ (((((-3750763034362895579 : Int64) ^^^ ((ch &&& (255 : Int32)).toInt64)) * (1099511628211 : Int64)).toUInt64 >>> ((33 : Int32) &&& 0x3f).toInt64.toUInt64).toInt64)) * (-49064778989728563 : Int64)).toUInt64 >>> ((33 : Int32) &&& 0x3f).toInt64.toUInt64).toInt64)).toInt32))]) _
    exact retI X0 hx hret (hb hby d14_68) hlv
  · show Q_hash Z d k ch r h0 n0 _ s₁.heap _
    rw [e0]
    exact ⟨by rw [hres]; rfl, N0, rfl⟩
theorem own_hash0 : (421110349 : Int32) = own_hash (97 : Int32) := by decide +kernel
theorem own_hash1 : (-537103460 : Int32) = own_hash (98 : Int32) := by decide +kernel
theorem own_hash2 : (-661027844 : Int32) = own_hash (99 : Int32) := by decide +kernel
theorem own_hash3 : (407625900 : Int32) = own_hash (100 : Int32) := by decide +kernel
theorem own_hash4 : (866031701 : Int32) = own_hash (101 : Int32) := by decide +kernel
theorem own_hash5 : (418373037 : Int32) = own_hash (102 : Int32) := by decide +kernel
theorem own_hash6 : (-1394125654 : Int32) = own_hash (103 : Int32) := by decide +kernel
theorem own_hash7 : (-944773026 : Int32) = own_hash (104 : Int32) := by decide +kernel
theorem d15_0 : decode prog_57_method_8_code 0 = .ok (.aload_n 0, 1) := by decide +kernel
theorem d15_1 : decode prog_57_method_8_code 1 = .ok (.getfield 9, 3) := by decide +kernel
theorem d15_4 : decode prog_57_method_8_code 4 = .ok (.arraylength, 1) := by decide +kernel
theorem d15_5 : decode prog_57_method_8_code 5 = .ok (.iconst 1, 1) := by decide +kernel
theorem d15_6 : decode prog_57_method_8_code 6 = .ok (.isub, 1) := by decide +kernel
theorem d15_7 : decode prog_57_method_8_code 7 = .ok (.istore_n 3, 1) := by decide +kernel
theorem d15_8 : decode prog_57_method_8_code 8 = .ok (.iload_n 2, 1) := by decide +kernel
theorem d15_9 : decode prog_57_method_8_code 9 = .ok (.iload_n 3, 1) := by decide +kernel
theorem d15_10 : decode prog_57_method_8_code 10 = .ok (.iand, 1) := by decide +kernel
theorem d15_11 : decode prog_57_method_8_code 11 = .ok (.istore 4, 2) := by decide +kernel
theorem d15_13 : decode prog_57_method_8_code 13 = .ok (.aload_n 0, 1) := by decide +kernel
theorem d15_14 : decode prog_57_method_8_code 14 = .ok (.getfield 9, 3) := by decide +kernel
theorem d15_17 : decode prog_57_method_8_code 17 = .ok (.iload 4, 2) := by decide +kernel
theorem d15_19 : decode prog_57_method_8_code 19 = .ok (.laload, 1) := by decide +kernel
theorem d15_20 : decode prog_57_method_8_code 20 = .ok (.lconst 0, 1) := by decide +kernel
theorem d15_21 : decode prog_57_method_8_code 21 = .ok (.lcmp, 1) := by decide +kernel
theorem d15_22 : decode prog_57_method_8_code 22 = .ok (.ifCond .eq 49, 3) := by decide +kernel
theorem d15_25 : decode prog_57_method_8_code 25 = .ok (.aload_n 0, 1) := by decide +kernel
theorem d15_26 : decode prog_57_method_8_code 26 = .ok (.getfield 9, 3) := by decide +kernel
theorem d15_29 : decode prog_57_method_8_code 29 = .ok (.iload 4, 2) := by decide +kernel
theorem d15_31 : decode prog_57_method_8_code 31 = .ok (.laload, 1) := by decide +kernel
theorem d15_32 : decode prog_57_method_8_code 32 = .ok (.lstore 5, 2) := by decide +kernel
theorem d15_34 : decode prog_57_method_8_code 34 = .ok (.lload 5, 2) := by decide +kernel
theorem d15_36 : decode prog_57_method_8_code 36 = .ok (.bipush 32, 2) := by decide +kernel
theorem d15_38 : decode prog_57_method_8_code 38 = .ok (.lushr, 1) := by decide +kernel
theorem d15_39 : decode prog_57_method_8_code 39 = .ok (.l2i, 1) := by decide +kernel
theorem d15_40 : decode prog_57_method_8_code 40 = .ok (.iload_n 2, 1) := by decide +kernel
theorem d15_41 : decode prog_57_method_8_code 41 = .ok (.if_icmp .ne 19, 3) := by decide +kernel
theorem d15_60 : decode prog_57_method_8_code 60 = .ok (.iload 4, 2) := by decide +kernel
theorem d15_62 : decode prog_57_method_8_code 62 = .ok (.iconst 1, 1) := by decide +kernel
theorem d15_63 : decode prog_57_method_8_code 63 = .ok (.iadd, 1) := by decide +kernel
theorem d15_64 : decode prog_57_method_8_code 64 = .ok (.iload_n 3, 1) := by decide +kernel
theorem d15_65 : decode prog_57_method_8_code 65 = .ok (.iand, 1) := by decide +kernel
theorem d15_66 : decode prog_57_method_8_code 66 = .ok (.istore 4, 2) := by decide +kernel
theorem d15_68 : decode prog_57_method_8_code 68 = .ok (.goto (-55), 3) := by decide +kernel
theorem d15_71 : decode prog_57_method_8_code 71 = .ok (.iload 4, 2) := by decide +kernel
theorem d15_73 : decode prog_57_method_8_code 73 = .ok (.ireturn, 1) := by decide +kernel
theorem ef_15_RRI (m : MethodId) (x0 : Addr) (x1 : Addr) (x2 : Int32) : entryFrame m #[(.ref x0), (.ref x1), (.int x2)] 7 = mkF m 0 #[.val (.ref x0), .val (.ref x1), .val (.int x2), .unset, .unset, .unset, .unset] [] := by first | (simp [entryFrame, mkF, argsToLocals, Value.category]; done) | rfl
def Q_find0 (Z : State) (t : Addr) (d : Addr) (sl : Addr) (ks : ClassId) (h0 : Heap) (n0 : Nat) (v : Option Value) (h : Heap) (L : List Loc) : Prop := v = some (.int (13 : Int32)) ∧ Fr n0 L ∧ h = h0
set_option maxRecDepth 65536 in
set_option maxHeartbeats 40000000 in
theorem rm_find0 (l : Launch) (Z : State) (a0 : Array Value) (hw : ∀ d ∈ tables_1, d.before a0 Z = true) (ws : List Jvm.Cond) (t : Addr) (d : Addr) (sl : Addr) (ks : ClassId) (h0 : Heap) (n0 : Nat) (Z0 : n0 ≤ h0.size) (O0 : Old Z n0 h0) (f0 : Fld Z h0 t S1 "slots" "[J" (.ref sl)) (f1 : Arv Z h0 sl ks .long (16 : Int32) [(.long (0 : Int64)), (.long (0 : Int64)), (.long (0 : Int64)), (.long (0 : Int64)), (.long (0 : Int64)), (.long (0 : Int64)), (.long (0 : Int64)), (.long (0 : Int64)), (.long (0 : Int64)), (.long (0 : Int64)), (.long (0 : Int64)), (.long (0 : Int64)), (.long (0 : Int64)), (.long (0 : Int64)), (.long (0 : Int64)), (.long (0 : Int64))] (.long (0 : Int64))) :
    MetFree l Y7 (head1 (Jvm.Cond.code Y7 prog_57_method_8_code 7 (some .int) :: ws) ({ frames := 0, cells := 0, slots := 0, locals := 0 } : Room)) (fun A_ U => A_ = #[(.ref t), (.ref d), (.int (421110349 : Int32))] ∧ Z.Warmed39 U.vm ∧ U.heap = h0) (fun _ _ _ _ _ => True) (fun _ U o_ U' => ∃ v_ L_, o_ = .returned v_ ∧ Q_find0 Z t d sl ks h0 n0 v_ U'.heap L_ ∧ FrameEnd U o_ U' L_ ({ frames := 0, cells := 0, slots := 0, locals := 0 } : Room).cells ({ frames := 0, cells := 0, slots := 0, locals := 0 } : Room).slots) := by
  refine MetFree.of_bodySF (plainFor_of_name pn_2) hisR ?_
  intro p e s m args below meth c s₁ Bd hml0 hP hK
  obtain ⟨rfl, hZ, hh⟩ := hP
  have hx := Bd.exec
  have hby := Bd.bytes
  have hml : c.maxLocals = 7 := hml0
  have hown : s.vm.findClass S1 = some m.cls := findClass_of_methodNamed Bd.named
  have hnm := (name_of_methodNamed Bd.named Bd.method).1
  have hret := Bd.returns
  have X0 : Stand p l e ({ frames := 0, cells := 0, slots := 0, locals := 0 } : Room) s m #[(.ref t), (.ref d), (.int (421110349 : Int32))] below meth c s₁ [] 0 0 := Stand.of_body Bd
  have e0 : s₁.heap = h0 := by rw [← hh, Bd.state]; rfl
  have N0 := Fr.nil n0
  have pre0 : ∀ t_, Sp p e below s₁ (mkF m 0 #[.val (.ref t), .val (.ref d), .val (.int (421110349 : Int32)), .unset, .unset, .unset, .unset] []) t_ → Sp p e below s₁ (entryFrame m #[(.ref t), (.ref d), (.int (421110349 : Int32))] 7) t_ := fun t_ k_ => castTop (ef_15_RRI m t d (421110349 : Int32)) k_
  obtain ⟨Tf1, Xf1, ef1, stf1⟩ := getF X0 hx hZ hown (host := "") (Or.inl (tw hw 11 rfl)) Via.refl e0 f0 (g := (mkF m 1 #[.val (.ref t), .val (.ref d), .val (.int (421110349 : Int32)), .unset, .unset, .unset, .unset] [(.ref t)])) rfl rfl (hb hby d15_1)
  obtain ⟨clv2, Arv2, qv2, Sv2, Nv2, Hv2, Gv2⟩ := id f1
  obtain ⟨Tf3, Xf3, ef3, stf3⟩ := getF Xf1 hx hZ hown (host := "") (Or.inl (tw hw 11 rfl)) Via.refl ef1 f0 (g := (mkF m 14 #[.val (.ref t), .val (.ref d), .val (.int (421110349 : Int32)), .val (.int (15 : Int32)), .val (.int (13 : Int32)), .unset, .unset] [(.ref t)])) rfl rfl (hb hby d15_14)
  have in4 : ¬ ((13 : Int32) < 0 ∨ clv2.slots.size ≤ ((13 : Int32)).toNatClampNeg) := inb_of Sv2 ⟨by decide, by decide⟩
  have atin4 : clv2.slots[((13 : Int32)).toNatClampNeg]? = some (.long (0 : Int64)) := Has.at Hv2 in4 rfl
  obtain ⟨fs, hlv, hrun, hended, hW, hsame⟩ := Xf3.leave (v := some (.int (13 : Int32))) (fun h => by rw [hret] at h; cases h)
  refine ⟨_, _, pre0 _ ?_, hrun, hended, _, _, rfl, ?_, ⟨_, rfl⟩, hW, hsame.mono (by decide) (by decide)⟩
  · refine XS.aloadN X0.here hx rfl (hb hby d15_0) rfl rfl ?_
    show Sp p e below s₁ (mkF m 1 #[.val (.ref t), .val (.ref d), .val (.int (421110349 : Int32)), .unset, .unset, .unset, .unset] [(.ref t)]) _
    refine stf1 _ ?_
    show Sp p e below Tf1 (mkF m 4 #[.val (.ref t), .val (.ref d), .val (.int (421110349 : Int32)), .unset, .unset, .unset, .unset] [(.ref sl)]) _
    refine Xf1.arraylength hx (own_eq ef1 Arv2.1) (State.isArrayOf_alike hZ.alike Arv2.2.1) (g := (mkF m 4 #[.val (.ref t), .val (.ref d), .val (.int (421110349 : Int32)), .unset, .unset, .unset, .unset] [(.ref sl)])) rfl rfl (hb hby d15_4) _ ?_
    rw [len_of Sv2 Nv2]
    show Sp p e below Tf1 (mkF m 5 #[.val (.ref t), .val (.ref d), .val (.int (421110349 : Int32)), .unset, .unset, .unset, .unset] [(.int (16 : Int32))]) _
    refine XS.iconst Xf1.here hx rfl (hb hby d15_5) ?_
    refine XS.isub Xf1.here hx rfl (hb hby d15_6) rfl ?_
    refine XS.istoreN Xf1.here hx rfl (hb hby d15_7) rfl (l' := #[.val (.ref t), .val (.ref d), .val (.int (421110349 : Int32)), .val (.int (15 : Int32)), .unset, .unset, .unset]) rfl ?_
    refine XS.iloadN Xf1.here hx rfl (hb hby d15_8) rfl ?_
    refine XS.iloadN Xf1.here hx rfl (hb hby d15_9) rfl ?_
    refine XS.iand Xf1.here hx rfl (hb hby d15_10) rfl ?_
    refine XS.istore Xf1.here hx rfl (hb hby d15_11) rfl (l' := #[.val (.ref t), .val (.ref d), .val (.int (421110349 : Int32)), .val (.int (15 : Int32)), .val (.int (13 : Int32)), .unset, .unset]) rfl ?_
    refine XS.aloadN Xf1.here hx rfl (hb hby d15_13) rfl rfl ?_
    refine stf3 _ ?_
    refine XS.iload Xf3.here hx rfl (hb hby d15_17) rfl ?_
    show Sp p e below Tf3 (mkF m 19 #[.val (.ref t), .val (.ref d), .val (.int (421110349 : Int32)), .val (.int (15 : Int32)), .val (.int (13 : Int32)), .unset, .unset] [(.int (13 : Int32)), (.ref sl)]) _
    refine Xf3.laload hx (j := (13 : Int32)) (v := (.long (0 : Int64))) (own_eq ef3 Arv2.1) (State.isArrayOf_alike hZ.alike Arv2.2.1) Arv2.2.2 in4 atin4 (g := (mkF m 19 #[.val (.ref t), .val (.ref d), .val (.int (421110349 : Int32)), .val (.int (15 : Int32)), .val (.int (13 : Int32)), .unset, .unset] [(.int (13 : Int32)), (.ref sl)])) rfl rfl (hb hby d15_19) _ ?_
    show Sp p e below Tf3 (mkF m 20 #[.val (.ref t), .val (.ref d), .val (.int (421110349 : Int32)), .val (.int (15 : Int32)), .val (.int (13 : Int32)), .unset, .unset] [(.long (0 : Int64))]) _
    refine XS.lconst Xf3.here hx rfl (hb hby d15_20) ?_
    refine XS.lcmp Xf3.here hx rfl (hb hby d15_21) rfl ?_
    refine XS.ifYes Xf3.here hx rfl (pc0 := 22) (pc' := 71) rfl (hb hby d15_22) rfl ((if0 _ _).trans (teq (by decide : (0 : Int32) = (0 : Int32))).1) (by decide) (by decide) ?_
    refine XS.iload Xf3.here hx rfl (hb hby d15_71) rfl ?_
    show Sp p e below Tf3 (mkF m 73 #[.val (.ref t), .val (.ref d), .val (.int (421110349 : Int32)), .val (.int (15 : Int32)), .val (.int (13 : Int32)), .unset, .unset] [(.int (13 : Int32))]) _
    exact retI Xf3 hx hret (hb hby d15_73) hlv
  · show Q_find0 Z t d sl ks h0 n0 _ Tf3.heap _
    rw [ef3]
    exact ⟨rfl, N0, rfl⟩
def Q_find1 (Z : State) (t : Addr) (d : Addr) (sl : Addr) (ks : ClassId) (h0 : Heap) (n0 : Nat) (v : Option Value) (h : Heap) (L : List Loc) : Prop := v = some (.int (12 : Int32)) ∧ Fr n0 L ∧ h = h0
set_option maxRecDepth 65536 in
set_option maxHeartbeats 40000000 in
theorem rm_find1 (l : Launch) (Z : State) (a0 : Array Value) (hw : ∀ d ∈ tables_1, d.before a0 Z = true) (ws : List Jvm.Cond) (t : Addr) (d : Addr) (sl : Addr) (ks : ClassId) (h0 : Heap) (n0 : Nat) (Z0 : n0 ≤ h0.size) (O0 : Old Z n0 h0) (f0 : Fld Z h0 t S1 "slots" "[J" (.ref sl)) (f1 : Arv Z h0 sl ks .long (16 : Int32) [(.long (0 : Int64)), (.long (0 : Int64)), (.long (0 : Int64)), (.long (0 : Int64)), (.long (0 : Int64)), (.long (0 : Int64)), (.long (0 : Int64)), (.long (0 : Int64)), (.long (0 : Int64)), (.long (0 : Int64)), (.long (0 : Int64)), (.long (0 : Int64)), (.long (0 : Int64)), (.long (1808655176962146305 : Int64)), (.long (0 : Int64)), (.long (0 : Int64))] (.long (0 : Int64))) :
    MetFree l Y7 (head1 (Jvm.Cond.code Y7 prog_57_method_8_code 7 (some .int) :: ws) ({ frames := 0, cells := 0, slots := 0, locals := 0 } : Room)) (fun A_ U => A_ = #[(.ref t), (.ref d), (.int (-537103460 : Int32))] ∧ Z.Warmed39 U.vm ∧ U.heap = h0) (fun _ _ _ _ _ => True) (fun _ U o_ U' => ∃ v_ L_, o_ = .returned v_ ∧ Q_find1 Z t d sl ks h0 n0 v_ U'.heap L_ ∧ FrameEnd U o_ U' L_ ({ frames := 0, cells := 0, slots := 0, locals := 0 } : Room).cells ({ frames := 0, cells := 0, slots := 0, locals := 0 } : Room).slots) := by
  refine MetFree.of_bodySF (plainFor_of_name pn_2) hisR ?_
  intro p e s m args below meth c s₁ Bd hml0 hP hK
  obtain ⟨rfl, hZ, hh⟩ := hP
  have hx := Bd.exec
  have hby := Bd.bytes
  have hml : c.maxLocals = 7 := hml0
  have hown : s.vm.findClass S1 = some m.cls := findClass_of_methodNamed Bd.named
  have hnm := (name_of_methodNamed Bd.named Bd.method).1
  have hret := Bd.returns
  have X0 : Stand p l e ({ frames := 0, cells := 0, slots := 0, locals := 0 } : Room) s m #[(.ref t), (.ref d), (.int (-537103460 : Int32))] below meth c s₁ [] 0 0 := Stand.of_body Bd
  have e0 : s₁.heap = h0 := by rw [← hh, Bd.state]; rfl
  have N0 := Fr.nil n0
  have pre0 : ∀ t_, Sp p e below s₁ (mkF m 0 #[.val (.ref t), .val (.ref d), .val (.int (-537103460 : Int32)), .unset, .unset, .unset, .unset] []) t_ → Sp p e below s₁ (entryFrame m #[(.ref t), (.ref d), (.int (-537103460 : Int32))] 7) t_ := fun t_ k_ => castTop (ef_15_RRI m t d (-537103460 : Int32)) k_
  obtain ⟨Tf1, Xf1, ef1, stf1⟩ := getF X0 hx hZ hown (host := "") (Or.inl (tw hw 11 rfl)) Via.refl e0 f0 (g := (mkF m 1 #[.val (.ref t), .val (.ref d), .val (.int (-537103460 : Int32)), .unset, .unset, .unset, .unset] [(.ref t)])) rfl rfl (hb hby d15_1)
  obtain ⟨clv2, Arv2, qv2, Sv2, Nv2, Hv2, Gv2⟩ := id f1
  obtain ⟨Tf3, Xf3, ef3, stf3⟩ := getF Xf1 hx hZ hown (host := "") (Or.inl (tw hw 11 rfl)) Via.refl ef1 f0 (g := (mkF m 14 #[.val (.ref t), .val (.ref d), .val (.int (-537103460 : Int32)), .val (.int (15 : Int32)), .val (.int (12 : Int32)), .unset, .unset] [(.ref t)])) rfl rfl (hb hby d15_14)
  have in4 : ¬ ((12 : Int32) < 0 ∨ clv2.slots.size ≤ ((12 : Int32)).toNatClampNeg) := inb_of Sv2 ⟨by decide, by decide⟩
  have atin4 : clv2.slots[((12 : Int32)).toNatClampNeg]? = some (.long (0 : Int64)) := Has.at Hv2 in4 rfl
  obtain ⟨fs, hlv, hrun, hended, hW, hsame⟩ := Xf3.leave (v := some (.int (12 : Int32))) (fun h => by rw [hret] at h; cases h)
  refine ⟨_, _, pre0 _ ?_, hrun, hended, _, _, rfl, ?_, ⟨_, rfl⟩, hW, hsame.mono (by decide) (by decide)⟩
  · refine XS.aloadN X0.here hx rfl (hb hby d15_0) rfl rfl ?_
    show Sp p e below s₁ (mkF m 1 #[.val (.ref t), .val (.ref d), .val (.int (-537103460 : Int32)), .unset, .unset, .unset, .unset] [(.ref t)]) _
    refine stf1 _ ?_
    show Sp p e below Tf1 (mkF m 4 #[.val (.ref t), .val (.ref d), .val (.int (-537103460 : Int32)), .unset, .unset, .unset, .unset] [(.ref sl)]) _
    refine Xf1.arraylength hx (own_eq ef1 Arv2.1) (State.isArrayOf_alike hZ.alike Arv2.2.1) (g := (mkF m 4 #[.val (.ref t), .val (.ref d), .val (.int (-537103460 : Int32)), .unset, .unset, .unset, .unset] [(.ref sl)])) rfl rfl (hb hby d15_4) _ ?_
    rw [len_of Sv2 Nv2]
    show Sp p e below Tf1 (mkF m 5 #[.val (.ref t), .val (.ref d), .val (.int (-537103460 : Int32)), .unset, .unset, .unset, .unset] [(.int (16 : Int32))]) _
    refine XS.iconst Xf1.here hx rfl (hb hby d15_5) ?_
    refine XS.isub Xf1.here hx rfl (hb hby d15_6) rfl ?_
    refine XS.istoreN Xf1.here hx rfl (hb hby d15_7) rfl (l' := #[.val (.ref t), .val (.ref d), .val (.int (-537103460 : Int32)), .val (.int (15 : Int32)), .unset, .unset, .unset]) rfl ?_
    refine XS.iloadN Xf1.here hx rfl (hb hby d15_8) rfl ?_
    refine XS.iloadN Xf1.here hx rfl (hb hby d15_9) rfl ?_
    refine XS.iand Xf1.here hx rfl (hb hby d15_10) rfl ?_
    refine XS.istore Xf1.here hx rfl (hb hby d15_11) rfl (l' := #[.val (.ref t), .val (.ref d), .val (.int (-537103460 : Int32)), .val (.int (15 : Int32)), .val (.int (12 : Int32)), .unset, .unset]) rfl ?_
    refine XS.aloadN Xf1.here hx rfl (hb hby d15_13) rfl rfl ?_
    refine stf3 _ ?_
    refine XS.iload Xf3.here hx rfl (hb hby d15_17) rfl ?_
    show Sp p e below Tf3 (mkF m 19 #[.val (.ref t), .val (.ref d), .val (.int (-537103460 : Int32)), .val (.int (15 : Int32)), .val (.int (12 : Int32)), .unset, .unset] [(.int (12 : Int32)), (.ref sl)]) _
    refine Xf3.laload hx (j := (12 : Int32)) (v := (.long (0 : Int64))) (own_eq ef3 Arv2.1) (State.isArrayOf_alike hZ.alike Arv2.2.1) Arv2.2.2 in4 atin4 (g := (mkF m 19 #[.val (.ref t), .val (.ref d), .val (.int (-537103460 : Int32)), .val (.int (15 : Int32)), .val (.int (12 : Int32)), .unset, .unset] [(.int (12 : Int32)), (.ref sl)])) rfl rfl (hb hby d15_19) _ ?_
    show Sp p e below Tf3 (mkF m 20 #[.val (.ref t), .val (.ref d), .val (.int (-537103460 : Int32)), .val (.int (15 : Int32)), .val (.int (12 : Int32)), .unset, .unset] [(.long (0 : Int64))]) _
    refine XS.lconst Xf3.here hx rfl (hb hby d15_20) ?_
    refine XS.lcmp Xf3.here hx rfl (hb hby d15_21) rfl ?_
    refine XS.ifYes Xf3.here hx rfl (pc0 := 22) (pc' := 71) rfl (hb hby d15_22) rfl ((if0 _ _).trans (teq (by decide : (0 : Int32) = (0 : Int32))).1) (by decide) (by decide) ?_
    refine XS.iload Xf3.here hx rfl (hb hby d15_71) rfl ?_
    show Sp p e below Tf3 (mkF m 73 #[.val (.ref t), .val (.ref d), .val (.int (-537103460 : Int32)), .val (.int (15 : Int32)), .val (.int (12 : Int32)), .unset, .unset] [(.int (12 : Int32))]) _
    exact retI Xf3 hx hret (hb hby d15_73) hlv
  · show Q_find1 Z t d sl ks h0 n0 _ Tf3.heap _
    rw [ef3]
    exact ⟨rfl, N0, rfl⟩
def Q_find2 (Z : State) (t : Addr) (d : Addr) (sl : Addr) (ks : ClassId) (h0 : Heap) (n0 : Nat) (v : Option Value) (h : Heap) (L : List Loc) : Prop := v = some (.int (14 : Int32)) ∧ Fr n0 L ∧ h = h0
set_option maxRecDepth 65536 in
set_option maxHeartbeats 40000000 in
theorem rm_find2 (l : Launch) (Z : State) (a0 : Array Value) (hw : ∀ d ∈ tables_1, d.before a0 Z = true) (ws : List Jvm.Cond) (t : Addr) (d : Addr) (sl : Addr) (ks : ClassId) (h0 : Heap) (n0 : Nat) (Z0 : n0 ≤ h0.size) (O0 : Old Z n0 h0) (f0 : Fld Z h0 t S1 "slots" "[J" (.ref sl)) (f1 : Arv Z h0 sl ks .long (16 : Int32) [(.long (0 : Int64)), (.long (0 : Int64)), (.long (0 : Int64)), (.long (0 : Int64)), (.long (0 : Int64)), (.long (0 : Int64)), (.long (0 : Int64)), (.long (0 : Int64)), (.long (0 : Int64)), (.long (0 : Int64)), (.long (0 : Int64)), (.long (0 : Int64)), (.long (-2306841795268444158 : Int64)), (.long (1808655176962146305 : Int64)), (.long (0 : Int64)), (.long (0 : Int64))] (.long (0 : Int64))) :
    MetFree l Y7 (head1 (Jvm.Cond.code Y7 prog_57_method_8_code 7 (some .int) :: ws) ({ frames := 0, cells := 0, slots := 0, locals := 0 } : Room)) (fun A_ U => A_ = #[(.ref t), (.ref d), (.int (-661027844 : Int32))] ∧ Z.Warmed39 U.vm ∧ U.heap = h0) (fun _ _ _ _ _ => True) (fun _ U o_ U' => ∃ v_ L_, o_ = .returned v_ ∧ Q_find2 Z t d sl ks h0 n0 v_ U'.heap L_ ∧ FrameEnd U o_ U' L_ ({ frames := 0, cells := 0, slots := 0, locals := 0 } : Room).cells ({ frames := 0, cells := 0, slots := 0, locals := 0 } : Room).slots) := by
  refine MetFree.of_bodySF (plainFor_of_name pn_2) hisR ?_
  intro p e s m args below meth c s₁ Bd hml0 hP hK
  obtain ⟨rfl, hZ, hh⟩ := hP
  have hx := Bd.exec
  have hby := Bd.bytes
  have hml : c.maxLocals = 7 := hml0
  have hown : s.vm.findClass S1 = some m.cls := findClass_of_methodNamed Bd.named
  have hnm := (name_of_methodNamed Bd.named Bd.method).1
  have hret := Bd.returns
  have X0 : Stand p l e ({ frames := 0, cells := 0, slots := 0, locals := 0 } : Room) s m #[(.ref t), (.ref d), (.int (-661027844 : Int32))] below meth c s₁ [] 0 0 := Stand.of_body Bd
  have e0 : s₁.heap = h0 := by rw [← hh, Bd.state]; rfl
  have N0 := Fr.nil n0
  have pre0 : ∀ t_, Sp p e below s₁ (mkF m 0 #[.val (.ref t), .val (.ref d), .val (.int (-661027844 : Int32)), .unset, .unset, .unset, .unset] []) t_ → Sp p e below s₁ (entryFrame m #[(.ref t), (.ref d), (.int (-661027844 : Int32))] 7) t_ := fun t_ k_ => castTop (ef_15_RRI m t d (-661027844 : Int32)) k_
  obtain ⟨Tf1, Xf1, ef1, stf1⟩ := getF X0 hx hZ hown (host := "") (Or.inl (tw hw 11 rfl)) Via.refl e0 f0 (g := (mkF m 1 #[.val (.ref t), .val (.ref d), .val (.int (-661027844 : Int32)), .unset, .unset, .unset, .unset] [(.ref t)])) rfl rfl (hb hby d15_1)
  obtain ⟨clv2, Arv2, qv2, Sv2, Nv2, Hv2, Gv2⟩ := id f1
  obtain ⟨Tf3, Xf3, ef3, stf3⟩ := getF Xf1 hx hZ hown (host := "") (Or.inl (tw hw 11 rfl)) Via.refl ef1 f0 (g := (mkF m 14 #[.val (.ref t), .val (.ref d), .val (.int (-661027844 : Int32)), .val (.int (15 : Int32)), .val (.int (12 : Int32)), .unset, .unset] [(.ref t)])) rfl rfl (hb hby d15_14)
  have in4 : ¬ ((12 : Int32) < 0 ∨ clv2.slots.size ≤ ((12 : Int32)).toNatClampNeg) := inb_of Sv2 ⟨by decide, by decide⟩
  have atin4 : clv2.slots[((12 : Int32)).toNatClampNeg]? = some (.long (-2306841795268444158 : Int64)) := Has.at Hv2 in4 rfl
  obtain ⟨Tf5, Xf5, ef5, stf5⟩ := getF Xf3 hx hZ hown (host := "") (Or.inl (tw hw 11 rfl)) Via.refl ef3 f0 (g := (mkF m 26 #[.val (.ref t), .val (.ref d), .val (.int (-661027844 : Int32)), .val (.int (15 : Int32)), .val (.int (12 : Int32)), .unset, .unset] [(.ref t)])) rfl rfl (hb hby d15_26)
  have in6 : ¬ ((12 : Int32) < 0 ∨ clv2.slots.size ≤ ((12 : Int32)).toNatClampNeg) := inb_of Sv2 ⟨by decide, by decide⟩
  have atin6 : clv2.slots[((12 : Int32)).toNatClampNeg]? = some (.long (-2306841795268444158 : Int64)) := Has.at Hv2 in6 rfl
  obtain ⟨Tf7, Xf7, ef7, stf7⟩ := getF Xf5 hx hZ hown (host := "") (Or.inl (tw hw 11 rfl)) Via.refl ef5 f0 (g := (mkF m 14 #[.val (.ref t), .val (.ref d), .val (.int (-661027844 : Int32)), .val (.int (15 : Int32)), .val (.int (13 : Int32)), .val (.long (-2306841795268444158 : Int64)), .second] [(.ref t)])) rfl rfl (hb hby d15_14)
  have in8 : ¬ ((13 : Int32) < 0 ∨ clv2.slots.size ≤ ((13 : Int32)).toNatClampNeg) := inb_of Sv2 ⟨by decide, by decide⟩
  have atin8 : clv2.slots[((13 : Int32)).toNatClampNeg]? = some (.long (1808655176962146305 : Int64)) := Has.at Hv2 in8 rfl
  obtain ⟨Tf9, Xf9, ef9, stf9⟩ := getF Xf7 hx hZ hown (host := "") (Or.inl (tw hw 11 rfl)) Via.refl ef7 f0 (g := (mkF m 26 #[.val (.ref t), .val (.ref d), .val (.int (-661027844 : Int32)), .val (.int (15 : Int32)), .val (.int (13 : Int32)), .val (.long (-2306841795268444158 : Int64)), .second] [(.ref t)])) rfl rfl (hb hby d15_26)
  have in10 : ¬ ((13 : Int32) < 0 ∨ clv2.slots.size ≤ ((13 : Int32)).toNatClampNeg) := inb_of Sv2 ⟨by decide, by decide⟩
  have atin10 : clv2.slots[((13 : Int32)).toNatClampNeg]? = some (.long (1808655176962146305 : Int64)) := Has.at Hv2 in10 rfl
  obtain ⟨Tf11, Xf11, ef11, stf11⟩ := getF Xf9 hx hZ hown (host := "") (Or.inl (tw hw 11 rfl)) Via.refl ef9 f0 (g := (mkF m 14 #[.val (.ref t), .val (.ref d), .val (.int (-661027844 : Int32)), .val (.int (15 : Int32)), .val (.int (14 : Int32)), .val (.long (1808655176962146305 : Int64)), .second] [(.ref t)])) rfl rfl (hb hby d15_14)
  have in12 : ¬ ((14 : Int32) < 0 ∨ clv2.slots.size ≤ ((14 : Int32)).toNatClampNeg) := inb_of Sv2 ⟨by decide, by decide⟩
  have atin12 : clv2.slots[((14 : Int32)).toNatClampNeg]? = some (.long (0 : Int64)) := Has.at Hv2 in12 rfl
  obtain ⟨fs, hlv, hrun, hended, hW, hsame⟩ := Xf11.leave (v := some (.int (14 : Int32))) (fun h => by rw [hret] at h; cases h)
  refine ⟨_, _, pre0 _ ?_, hrun, hended, _, _, rfl, ?_, ⟨_, rfl⟩, hW, hsame.mono (by decide) (by decide)⟩
  · refine XS.aloadN X0.here hx rfl (hb hby d15_0) rfl rfl ?_
    show Sp p e below s₁ (mkF m 1 #[.val (.ref t), .val (.ref d), .val (.int (-661027844 : Int32)), .unset, .unset, .unset, .unset] [(.ref t)]) _
    refine stf1 _ ?_
    show Sp p e below Tf1 (mkF m 4 #[.val (.ref t), .val (.ref d), .val (.int (-661027844 : Int32)), .unset, .unset, .unset, .unset] [(.ref sl)]) _
    refine Xf1.arraylength hx (own_eq ef1 Arv2.1) (State.isArrayOf_alike hZ.alike Arv2.2.1) (g := (mkF m 4 #[.val (.ref t), .val (.ref d), .val (.int (-661027844 : Int32)), .unset, .unset, .unset, .unset] [(.ref sl)])) rfl rfl (hb hby d15_4) _ ?_
    rw [len_of Sv2 Nv2]
    show Sp p e below Tf1 (mkF m 5 #[.val (.ref t), .val (.ref d), .val (.int (-661027844 : Int32)), .unset, .unset, .unset, .unset] [(.int (16 : Int32))]) _
    refine XS.iconst Xf1.here hx rfl (hb hby d15_5) ?_
    refine XS.isub Xf1.here hx rfl (hb hby d15_6) rfl ?_
    refine XS.istoreN Xf1.here hx rfl (hb hby d15_7) rfl (l' := #[.val (.ref t), .val (.ref d), .val (.int (-661027844 : Int32)), .val (.int (15 : Int32)), .unset, .unset, .unset]) rfl ?_
    refine XS.iloadN Xf1.here hx rfl (hb hby d15_8) rfl ?_
    refine XS.iloadN Xf1.here hx rfl (hb hby d15_9) rfl ?_
    refine XS.iand Xf1.here hx rfl (hb hby d15_10) rfl ?_
    refine XS.istore Xf1.here hx rfl (hb hby d15_11) rfl (l' := #[.val (.ref t), .val (.ref d), .val (.int (-661027844 : Int32)), .val (.int (15 : Int32)), .val (.int (12 : Int32)), .unset, .unset]) rfl ?_
    refine XS.aloadN Xf1.here hx rfl (hb hby d15_13) rfl rfl ?_
    refine stf3 _ ?_
    refine XS.iload Xf3.here hx rfl (hb hby d15_17) rfl ?_
    show Sp p e below Tf3 (mkF m 19 #[.val (.ref t), .val (.ref d), .val (.int (-661027844 : Int32)), .val (.int (15 : Int32)), .val (.int (12 : Int32)), .unset, .unset] [(.int (12 : Int32)), (.ref sl)]) _
    refine Xf3.laload hx (j := (12 : Int32)) (v := (.long (-2306841795268444158 : Int64))) (own_eq ef3 Arv2.1) (State.isArrayOf_alike hZ.alike Arv2.2.1) Arv2.2.2 in4 atin4 (g := (mkF m 19 #[.val (.ref t), .val (.ref d), .val (.int (-661027844 : Int32)), .val (.int (15 : Int32)), .val (.int (12 : Int32)), .unset, .unset] [(.int (12 : Int32)), (.ref sl)])) rfl rfl (hb hby d15_19) _ ?_
    show Sp p e below Tf3 (mkF m 20 #[.val (.ref t), .val (.ref d), .val (.int (-661027844 : Int32)), .val (.int (15 : Int32)), .val (.int (12 : Int32)), .unset, .unset] [(.long (-2306841795268444158 : Int64))]) _
    refine XS.lconst Xf3.here hx rfl (hb hby d15_20) ?_
    refine XS.lcmp Xf3.here hx rfl (hb hby d15_21) rfl ?_
    refine XS.ifNo Xf3.here hx rfl (hb hby d15_22) rfl ((if0 _ _).trans (feq (by decide : ¬ ((-1 : Int32) = (0 : Int32)))).1) ?_
    refine XS.aloadN Xf3.here hx rfl (hb hby d15_25) rfl rfl ?_
    refine stf5 _ ?_
    refine XS.iload Xf5.here hx rfl (hb hby d15_29) rfl ?_
    show Sp p e below Tf5 (mkF m 31 #[.val (.ref t), .val (.ref d), .val (.int (-661027844 : Int32)), .val (.int (15 : Int32)), .val (.int (12 : Int32)), .unset, .unset] [(.int (12 : Int32)), (.ref sl)]) _
    refine Xf5.laload hx (j := (12 : Int32)) (v := (.long (-2306841795268444158 : Int64))) (own_eq ef5 Arv2.1) (State.isArrayOf_alike hZ.alike Arv2.2.1) Arv2.2.2 in6 atin6 (g := (mkF m 31 #[.val (.ref t), .val (.ref d), .val (.int (-661027844 : Int32)), .val (.int (15 : Int32)), .val (.int (12 : Int32)), .unset, .unset] [(.int (12 : Int32)), (.ref sl)])) rfl rfl (hb hby d15_31) _ ?_
    show Sp p e below Tf5 (mkF m 32 #[.val (.ref t), .val (.ref d), .val (.int (-661027844 : Int32)), .val (.int (15 : Int32)), .val (.int (12 : Int32)), .unset, .unset] [(.long (-2306841795268444158 : Int64))]) _
    refine XS.lstore Xf5.here hx rfl (hb hby d15_32) rfl (l' := #[.val (.ref t), .val (.ref d), .val (.int (-661027844 : Int32)), .val (.int (15 : Int32)), .val (.int (12 : Int32)), .val (.long (-2306841795268444158 : Int64)), .second]) rfl ?_
    refine XS.lload Xf5.here hx rfl (hb hby d15_34) rfl ?_
    refine XS.bipush Xf5.here hx rfl (hb hby d15_36) ?_
    refine XS.lushr Xf5.here hx rfl (hb hby d15_38) rfl ?_
    refine XS.l2i Xf5.here hx rfl (hb hby d15_39) rfl ?_
    refine XS.iloadN Xf5.here hx rfl (hb hby d15_40) rfl ?_
    refine XS.icmpYes Xf5.here hx rfl (pc0 := 41) (pc' := 60) rfl (hb hby d15_41) rfl (feq (by decide : ¬ ((-537103460 : Int32) = (-661027844 : Int32)))).2 (by decide) (by decide) ?_
    refine XS.iload Xf5.here hx rfl (hb hby d15_60) rfl ?_
    refine XS.iconst Xf5.here hx rfl (hb hby d15_62) ?_
    refine XS.iadd Xf5.here hx rfl (hb hby d15_63) rfl ?_
    refine XS.iloadN Xf5.here hx rfl (hb hby d15_64) rfl ?_
    refine XS.iand Xf5.here hx rfl (hb hby d15_65) rfl ?_
    refine XS.istore Xf5.here hx rfl (hb hby d15_66) rfl (l' := #[.val (.ref t), .val (.ref d), .val (.int (-661027844 : Int32)), .val (.int (15 : Int32)), .val (.int (13 : Int32)), .val (.long (-2306841795268444158 : Int64)), .second]) rfl ?_
    refine XS.goto Xf5.here hx rfl (pc0 := 68) (pc' := 13) rfl (hb hby d15_68) (by decide) (by decide) ?_
    refine XS.aloadN Xf5.here hx rfl (hb hby d15_13) rfl rfl ?_
    refine stf7 _ ?_
    refine XS.iload Xf7.here hx rfl (hb hby d15_17) rfl ?_
    show Sp p e below Tf7 (mkF m 19 #[.val (.ref t), .val (.ref d), .val (.int (-661027844 : Int32)), .val (.int (15 : Int32)), .val (.int (13 : Int32)), .val (.long (-2306841795268444158 : Int64)), .second] [(.int (13 : Int32)), (.ref sl)]) _
    refine Xf7.laload hx (j := (13 : Int32)) (v := (.long (1808655176962146305 : Int64))) (own_eq ef7 Arv2.1) (State.isArrayOf_alike hZ.alike Arv2.2.1) Arv2.2.2 in8 atin8 (g := (mkF m 19 #[.val (.ref t), .val (.ref d), .val (.int (-661027844 : Int32)), .val (.int (15 : Int32)), .val (.int (13 : Int32)), .val (.long (-2306841795268444158 : Int64)), .second] [(.int (13 : Int32)), (.ref sl)])) rfl rfl (hb hby d15_19) _ ?_
    show Sp p e below Tf7 (mkF m 20 #[.val (.ref t), .val (.ref d), .val (.int (-661027844 : Int32)), .val (.int (15 : Int32)), .val (.int (13 : Int32)), .val (.long (-2306841795268444158 : Int64)), .second] [(.long (1808655176962146305 : Int64))]) _
    refine XS.lconst Xf7.here hx rfl (hb hby d15_20) ?_
    refine XS.lcmp Xf7.here hx rfl (hb hby d15_21) rfl ?_
    refine XS.ifNo Xf7.here hx rfl (hb hby d15_22) rfl ((if0 _ _).trans (feq (by decide : ¬ ((1 : Int32) = (0 : Int32)))).1) ?_
    refine XS.aloadN Xf7.here hx rfl (hb hby d15_25) rfl rfl ?_
    refine stf9 _ ?_
    refine XS.iload Xf9.here hx rfl (hb hby d15_29) rfl ?_
    show Sp p e below Tf9 (mkF m 31 #[.val (.ref t), .val (.ref d), .val (.int (-661027844 : Int32)), .val (.int (15 : Int32)), .val (.int (13 : Int32)), .val (.long (-2306841795268444158 : Int64)), .second] [(.int (13 : Int32)), (.ref sl)]) _
    refine Xf9.laload hx (j := (13 : Int32)) (v := (.long (1808655176962146305 : Int64))) (own_eq ef9 Arv2.1) (State.isArrayOf_alike hZ.alike Arv2.2.1) Arv2.2.2 in10 atin10 (g := (mkF m 31 #[.val (.ref t), .val (.ref d), .val (.int (-661027844 : Int32)), .val (.int (15 : Int32)), .val (.int (13 : Int32)), .val (.long (-2306841795268444158 : Int64)), .second] [(.int (13 : Int32)), (.ref sl)])) rfl rfl (hb hby d15_31) _ ?_
    show Sp p e below Tf9 (mkF m 32 #[.val (.ref t), .val (.ref d), .val (.int (-661027844 : Int32)), .val (.int (15 : Int32)), .val (.int (13 : Int32)), .val (.long (-2306841795268444158 : Int64)), .second] [(.long (1808655176962146305 : Int64))]) _
    refine XS.lstore Xf9.here hx rfl (hb hby d15_32) rfl (l' := #[.val (.ref t), .val (.ref d), .val (.int (-661027844 : Int32)), .val (.int (15 : Int32)), .val (.int (13 : Int32)), .val (.long (1808655176962146305 : Int64)), .second]) rfl ?_
    refine XS.lload Xf9.here hx rfl (hb hby d15_34) rfl ?_
    refine XS.bipush Xf9.here hx rfl (hb hby d15_36) ?_
    refine XS.lushr Xf9.here hx rfl (hb hby d15_38) rfl ?_
    refine XS.l2i Xf9.here hx rfl (hb hby d15_39) rfl ?_
    refine XS.iloadN Xf9.here hx rfl (hb hby d15_40) rfl ?_
    refine XS.icmpYes Xf9.here hx rfl (pc0 := 41) (pc' := 60) rfl (hb hby d15_41) rfl (feq (by decide : ¬ ((421110349 : Int32) = (-661027844 : Int32)))).2 (by decide) (by decide) ?_
    refine XS.iload Xf9.here hx rfl (hb hby d15_60) rfl ?_
    refine XS.iconst Xf9.here hx rfl (hb hby d15_62) ?_
    refine XS.iadd Xf9.here hx rfl (hb hby d15_63) rfl ?_
    refine XS.iloadN Xf9.here hx rfl (hb hby d15_64) rfl ?_
    refine XS.iand Xf9.here hx rfl (hb hby d15_65) rfl ?_
    refine XS.istore Xf9.here hx rfl (hb hby d15_66) rfl (l' := #[.val (.ref t), .val (.ref d), .val (.int (-661027844 : Int32)), .val (.int (15 : Int32)), .val (.int (14 : Int32)), .val (.long (1808655176962146305 : Int64)), .second]) rfl ?_
    refine XS.goto Xf9.here hx rfl (pc0 := 68) (pc' := 13) rfl (hb hby d15_68) (by decide) (by decide) ?_
    refine XS.aloadN Xf9.here hx rfl (hb hby d15_13) rfl rfl ?_
    refine stf11 _ ?_
    refine XS.iload Xf11.here hx rfl (hb hby d15_17) rfl ?_
    show Sp p e below Tf11 (mkF m 19 #[.val (.ref t), .val (.ref d), .val (.int (-661027844 : Int32)), .val (.int (15 : Int32)), .val (.int (14 : Int32)), .val (.long (1808655176962146305 : Int64)), .second] [(.int (14 : Int32)), (.ref sl)]) _
    refine Xf11.laload hx (j := (14 : Int32)) (v := (.long (0 : Int64))) (own_eq ef11 Arv2.1) (State.isArrayOf_alike hZ.alike Arv2.2.1) Arv2.2.2 in12 atin12 (g := (mkF m 19 #[.val (.ref t), .val (.ref d), .val (.int (-661027844 : Int32)), .val (.int (15 : Int32)), .val (.int (14 : Int32)), .val (.long (1808655176962146305 : Int64)), .second] [(.int (14 : Int32)), (.ref sl)])) rfl rfl (hb hby d15_19) _ ?_
    show Sp p e below Tf11 (mkF m 20 #[.val (.ref t), .val (.ref d), .val (.int (-661027844 : Int32)), .val (.int (15 : Int32)), .val (.int (14 : Int32)), .val (.long (1808655176962146305 : Int64)), .second] [(.long (0 : Int64))]) _
    refine XS.lconst Xf11.here hx rfl (hb hby d15_20) ?_
    refine XS.lcmp Xf11.here hx rfl (hb hby d15_21) rfl ?_
    refine XS.ifYes Xf11.here hx rfl (pc0 := 22) (pc' := 71) rfl (hb hby d15_22) rfl ((if0 _ _).trans (teq (by decide : (0 : Int32) = (0 : Int32))).1) (by decide) (by decide) ?_
    refine XS.iload Xf11.here hx rfl (hb hby d15_71) rfl ?_
    show Sp p e below Tf11 (mkF m 73 #[.val (.ref t), .val (.ref d), .val (.int (-661027844 : Int32)), .val (.int (15 : Int32)), .val (.int (14 : Int32)), .val (.long (1808655176962146305 : Int64)), .second] [(.int (14 : Int32))]) _
    exact retI Xf11 hx hret (hb hby d15_73) hlv
  · show Q_find2 Z t d sl ks h0 n0 _ Tf11.heap _
    rw [ef11]
    exact ⟨rfl, N0, rfl⟩
def Q_find3 (Z : State) (t : Addr) (d : Addr) (sl : Addr) (ks : ClassId) (h0 : Heap) (n0 : Nat) (v : Option Value) (h : Heap) (L : List Loc) : Prop := v = some (.int (15 : Int32)) ∧ Fr n0 L ∧ h = h0
set_option maxRecDepth 65536 in
set_option maxHeartbeats 40000000 in
theorem rm_find3 (l : Launch) (Z : State) (a0 : Array Value) (hw : ∀ d ∈ tables_1, d.before a0 Z = true) (ws : List Jvm.Cond) (t : Addr) (d : Addr) (sl : Addr) (ks : ClassId) (h0 : Heap) (n0 : Nat) (Z0 : n0 ≤ h0.size) (O0 : Old Z n0 h0) (f0 : Fld Z h0 t S1 "slots" "[J" (.ref sl)) (f1 : Arv Z h0 sl ks .long (16 : Int32) [(.long (0 : Int64)), (.long (0 : Int64)), (.long (0 : Int64)), (.long (0 : Int64)), (.long (0 : Int64)), (.long (0 : Int64)), (.long (0 : Int64)), (.long (0 : Int64)), (.long (0 : Int64)), (.long (0 : Int64)), (.long (0 : Int64)), (.long (0 : Int64)), (.long (-2306841795268444158 : Int64)), (.long (1808655176962146305 : Int64)), (.long (-2839092971725389821 : Int64)), (.long (0 : Int64))] (.long (0 : Int64))) :
    MetFree l Y7 (head1 (Jvm.Cond.code Y7 prog_57_method_8_code 7 (some .int) :: ws) ({ frames := 0, cells := 0, slots := 0, locals := 0 } : Room)) (fun A_ U => A_ = #[(.ref t), (.ref d), (.int (407625900 : Int32))] ∧ Z.Warmed39 U.vm ∧ U.heap = h0) (fun _ _ _ _ _ => True) (fun _ U o_ U' => ∃ v_ L_, o_ = .returned v_ ∧ Q_find3 Z t d sl ks h0 n0 v_ U'.heap L_ ∧ FrameEnd U o_ U' L_ ({ frames := 0, cells := 0, slots := 0, locals := 0 } : Room).cells ({ frames := 0, cells := 0, slots := 0, locals := 0 } : Room).slots) := by
  refine MetFree.of_bodySF (plainFor_of_name pn_2) hisR ?_
  intro p e s m args below meth c s₁ Bd hml0 hP hK
  obtain ⟨rfl, hZ, hh⟩ := hP
  have hx := Bd.exec
  have hby := Bd.bytes
  have hml : c.maxLocals = 7 := hml0
  have hown : s.vm.findClass S1 = some m.cls := findClass_of_methodNamed Bd.named
  have hnm := (name_of_methodNamed Bd.named Bd.method).1
  have hret := Bd.returns
  have X0 : Stand p l e ({ frames := 0, cells := 0, slots := 0, locals := 0 } : Room) s m #[(.ref t), (.ref d), (.int (407625900 : Int32))] below meth c s₁ [] 0 0 := Stand.of_body Bd
  have e0 : s₁.heap = h0 := by rw [← hh, Bd.state]; rfl
  have N0 := Fr.nil n0
  have pre0 : ∀ t_, Sp p e below s₁ (mkF m 0 #[.val (.ref t), .val (.ref d), .val (.int (407625900 : Int32)), .unset, .unset, .unset, .unset] []) t_ → Sp p e below s₁ (entryFrame m #[(.ref t), (.ref d), (.int (407625900 : Int32))] 7) t_ := fun t_ k_ => castTop (ef_15_RRI m t d (407625900 : Int32)) k_
  obtain ⟨Tf1, Xf1, ef1, stf1⟩ := getF X0 hx hZ hown (host := "") (Or.inl (tw hw 11 rfl)) Via.refl e0 f0 (g := (mkF m 1 #[.val (.ref t), .val (.ref d), .val (.int (407625900 : Int32)), .unset, .unset, .unset, .unset] [(.ref t)])) rfl rfl (hb hby d15_1)
  obtain ⟨clv2, Arv2, qv2, Sv2, Nv2, Hv2, Gv2⟩ := id f1
  obtain ⟨Tf3, Xf3, ef3, stf3⟩ := getF Xf1 hx hZ hown (host := "") (Or.inl (tw hw 11 rfl)) Via.refl ef1 f0 (g := (mkF m 14 #[.val (.ref t), .val (.ref d), .val (.int (407625900 : Int32)), .val (.int (15 : Int32)), .val (.int (12 : Int32)), .unset, .unset] [(.ref t)])) rfl rfl (hb hby d15_14)
  have in4 : ¬ ((12 : Int32) < 0 ∨ clv2.slots.size ≤ ((12 : Int32)).toNatClampNeg) := inb_of Sv2 ⟨by decide, by decide⟩
  have atin4 : clv2.slots[((12 : Int32)).toNatClampNeg]? = some (.long (-2306841795268444158 : Int64)) := Has.at Hv2 in4 rfl
  obtain ⟨Tf5, Xf5, ef5, stf5⟩ := getF Xf3 hx hZ hown (host := "") (Or.inl (tw hw 11 rfl)) Via.refl ef3 f0 (g := (mkF m 26 #[.val (.ref t), .val (.ref d), .val (.int (407625900 : Int32)), .val (.int (15 : Int32)), .val (.int (12 : Int32)), .unset, .unset] [(.ref t)])) rfl rfl (hb hby d15_26)
  have in6 : ¬ ((12 : Int32) < 0 ∨ clv2.slots.size ≤ ((12 : Int32)).toNatClampNeg) := inb_of Sv2 ⟨by decide, by decide⟩
  have atin6 : clv2.slots[((12 : Int32)).toNatClampNeg]? = some (.long (-2306841795268444158 : Int64)) := Has.at Hv2 in6 rfl
  obtain ⟨Tf7, Xf7, ef7, stf7⟩ := getF Xf5 hx hZ hown (host := "") (Or.inl (tw hw 11 rfl)) Via.refl ef5 f0 (g := (mkF m 14 #[.val (.ref t), .val (.ref d), .val (.int (407625900 : Int32)), .val (.int (15 : Int32)), .val (.int (13 : Int32)), .val (.long (-2306841795268444158 : Int64)), .second] [(.ref t)])) rfl rfl (hb hby d15_14)
  have in8 : ¬ ((13 : Int32) < 0 ∨ clv2.slots.size ≤ ((13 : Int32)).toNatClampNeg) := inb_of Sv2 ⟨by decide, by decide⟩
  have atin8 : clv2.slots[((13 : Int32)).toNatClampNeg]? = some (.long (1808655176962146305 : Int64)) := Has.at Hv2 in8 rfl
  obtain ⟨Tf9, Xf9, ef9, stf9⟩ := getF Xf7 hx hZ hown (host := "") (Or.inl (tw hw 11 rfl)) Via.refl ef7 f0 (g := (mkF m 26 #[.val (.ref t), .val (.ref d), .val (.int (407625900 : Int32)), .val (.int (15 : Int32)), .val (.int (13 : Int32)), .val (.long (-2306841795268444158 : Int64)), .second] [(.ref t)])) rfl rfl (hb hby d15_26)
  have in10 : ¬ ((13 : Int32) < 0 ∨ clv2.slots.size ≤ ((13 : Int32)).toNatClampNeg) := inb_of Sv2 ⟨by decide, by decide⟩
  have atin10 : clv2.slots[((13 : Int32)).toNatClampNeg]? = some (.long (1808655176962146305 : Int64)) := Has.at Hv2 in10 rfl
  obtain ⟨Tf11, Xf11, ef11, stf11⟩ := getF Xf9 hx hZ hown (host := "") (Or.inl (tw hw 11 rfl)) Via.refl ef9 f0 (g := (mkF m 14 #[.val (.ref t), .val (.ref d), .val (.int (407625900 : Int32)), .val (.int (15 : Int32)), .val (.int (14 : Int32)), .val (.long (1808655176962146305 : Int64)), .second] [(.ref t)])) rfl rfl (hb hby d15_14)
  have in12 : ¬ ((14 : Int32) < 0 ∨ clv2.slots.size ≤ ((14 : Int32)).toNatClampNeg) := inb_of Sv2 ⟨by decide, by decide⟩
  have atin12 : clv2.slots[((14 : Int32)).toNatClampNeg]? = some (.long (-2839092971725389821 : Int64)) := Has.at Hv2 in12 rfl
  obtain ⟨Tf13, Xf13, ef13, stf13⟩ := getF Xf11 hx hZ hown (host := "") (Or.inl (tw hw 11 rfl)) Via.refl ef11 f0 (g := (mkF m 26 #[.val (.ref t), .val (.ref d), .val (.int (407625900 : Int32)), .val (.int (15 : Int32)), .val (.int (14 : Int32)), .val (.long (1808655176962146305 : Int64)), .second] [(.ref t)])) rfl rfl (hb hby d15_26)
  have in14 : ¬ ((14 : Int32) < 0 ∨ clv2.slots.size ≤ ((14 : Int32)).toNatClampNeg) := inb_of Sv2 ⟨by decide, by decide⟩
  have atin14 : clv2.slots[((14 : Int32)).toNatClampNeg]? = some (.long (-2839092971725389821 : Int64)) := Has.at Hv2 in14 rfl
  obtain ⟨Tf15, Xf15, ef15, stf15⟩ := getF Xf13 hx hZ hown (host := "") (Or.inl (tw hw 11 rfl)) Via.refl ef13 f0 (g := (mkF m 14 #[.val (.ref t), .val (.ref d), .val (.int (407625900 : Int32)), .val (.int (15 : Int32)), .val (.int (15 : Int32)), .val (.long (-2839092971725389821 : Int64)), .second] [(.ref t)])) rfl rfl (hb hby d15_14)
  have in16 : ¬ ((15 : Int32) < 0 ∨ clv2.slots.size ≤ ((15 : Int32)).toNatClampNeg) := inb_of Sv2 ⟨by decide, by decide⟩
  have atin16 : clv2.slots[((15 : Int32)).toNatClampNeg]? = some (.long (0 : Int64)) := Has.at Hv2 in16 rfl
  obtain ⟨fs, hlv, hrun, hended, hW, hsame⟩ := Xf15.leave (v := some (.int (15 : Int32))) (fun h => by rw [hret] at h; cases h)
  refine ⟨_, _, pre0 _ ?_, hrun, hended, _, _, rfl, ?_, ⟨_, rfl⟩, hW, hsame.mono (by decide) (by decide)⟩
  · refine XS.aloadN X0.here hx rfl (hb hby d15_0) rfl rfl ?_
    show Sp p e below s₁ (mkF m 1 #[.val (.ref t), .val (.ref d), .val (.int (407625900 : Int32)), .unset, .unset, .unset, .unset] [(.ref t)]) _
    refine stf1 _ ?_
    show Sp p e below Tf1 (mkF m 4 #[.val (.ref t), .val (.ref d), .val (.int (407625900 : Int32)), .unset, .unset, .unset, .unset] [(.ref sl)]) _
    refine Xf1.arraylength hx (own_eq ef1 Arv2.1) (State.isArrayOf_alike hZ.alike Arv2.2.1) (g := (mkF m 4 #[.val (.ref t), .val (.ref d), .val (.int (407625900 : Int32)), .unset, .unset, .unset, .unset] [(.ref sl)])) rfl rfl (hb hby d15_4) _ ?_
    rw [len_of Sv2 Nv2]
    show Sp p e below Tf1 (mkF m 5 #[.val (.ref t), .val (.ref d), .val (.int (407625900 : Int32)), .unset, .unset, .unset, .unset] [(.int (16 : Int32))]) _
    refine XS.iconst Xf1.here hx rfl (hb hby d15_5) ?_
    refine XS.isub Xf1.here hx rfl (hb hby d15_6) rfl ?_
    refine XS.istoreN Xf1.here hx rfl (hb hby d15_7) rfl (l' := #[.val (.ref t), .val (.ref d), .val (.int (407625900 : Int32)), .val (.int (15 : Int32)), .unset, .unset, .unset]) rfl ?_
    refine XS.iloadN Xf1.here hx rfl (hb hby d15_8) rfl ?_
    refine XS.iloadN Xf1.here hx rfl (hb hby d15_9) rfl ?_
    refine XS.iand Xf1.here hx rfl (hb hby d15_10) rfl ?_
    refine XS.istore Xf1.here hx rfl (hb hby d15_11) rfl (l' := #[.val (.ref t), .val (.ref d), .val (.int (407625900 : Int32)), .val (.int (15 : Int32)), .val (.int (12 : Int32)), .unset, .unset]) rfl ?_
    refine XS.aloadN Xf1.here hx rfl (hb hby d15_13) rfl rfl ?_
    refine stf3 _ ?_
    refine XS.iload Xf3.here hx rfl (hb hby d15_17) rfl ?_
    show Sp p e below Tf3 (mkF m 19 #[.val (.ref t), .val (.ref d), .val (.int (407625900 : Int32)), .val (.int (15 : Int32)), .val (.int (12 : Int32)), .unset, .unset] [(.int (12 : Int32)), (.ref sl)]) _
    refine Xf3.laload hx (j := (12 : Int32)) (v := (.long (-2306841795268444158 : Int64))) (own_eq ef3 Arv2.1) (State.isArrayOf_alike hZ.alike Arv2.2.1) Arv2.2.2 in4 atin4 (g := (mkF m 19 #[.val (.ref t), .val (.ref d), .val (.int (407625900 : Int32)), .val (.int (15 : Int32)), .val (.int (12 : Int32)), .unset, .unset] [(.int (12 : Int32)), (.ref sl)])) rfl rfl (hb hby d15_19) _ ?_
    show Sp p e below Tf3 (mkF m 20 #[.val (.ref t), .val (.ref d), .val (.int (407625900 : Int32)), .val (.int (15 : Int32)), .val (.int (12 : Int32)), .unset, .unset] [(.long (-2306841795268444158 : Int64))]) _
    refine XS.lconst Xf3.here hx rfl (hb hby d15_20) ?_
    refine XS.lcmp Xf3.here hx rfl (hb hby d15_21) rfl ?_
    refine XS.ifNo Xf3.here hx rfl (hb hby d15_22) rfl ((if0 _ _).trans (feq (by decide : ¬ ((-1 : Int32) = (0 : Int32)))).1) ?_
    refine XS.aloadN Xf3.here hx rfl (hb hby d15_25) rfl rfl ?_
    refine stf5 _ ?_
    refine XS.iload Xf5.here hx rfl (hb hby d15_29) rfl ?_
    show Sp p e below Tf5 (mkF m 31 #[.val (.ref t), .val (.ref d), .val (.int (407625900 : Int32)), .val (.int (15 : Int32)), .val (.int (12 : Int32)), .unset, .unset] [(.int (12 : Int32)), (.ref sl)]) _
    refine Xf5.laload hx (j := (12 : Int32)) (v := (.long (-2306841795268444158 : Int64))) (own_eq ef5 Arv2.1) (State.isArrayOf_alike hZ.alike Arv2.2.1) Arv2.2.2 in6 atin6 (g := (mkF m 31 #[.val (.ref t), .val (.ref d), .val (.int (407625900 : Int32)), .val (.int (15 : Int32)), .val (.int (12 : Int32)), .unset, .unset] [(.int (12 : Int32)), (.ref sl)])) rfl rfl (hb hby d15_31) _ ?_
    show Sp p e below Tf5 (mkF m 32 #[.val (.ref t), .val (.ref d), .val (.int (407625900 : Int32)), .val (.int (15 : Int32)), .val (.int (12 : Int32)), .unset, .unset] [(.long (-2306841795268444158 : Int64))]) _
    refine XS.lstore Xf5.here hx rfl (hb hby d15_32) rfl (l' := #[.val (.ref t), .val (.ref d), .val (.int (407625900 : Int32)), .val (.int (15 : Int32)), .val (.int (12 : Int32)), .val (.long (-2306841795268444158 : Int64)), .second]) rfl ?_
    refine XS.lload Xf5.here hx rfl (hb hby d15_34) rfl ?_
    refine XS.bipush Xf5.here hx rfl (hb hby d15_36) ?_
    refine XS.lushr Xf5.here hx rfl (hb hby d15_38) rfl ?_
    refine XS.l2i Xf5.here hx rfl (hb hby d15_39) rfl ?_
    refine XS.iloadN Xf5.here hx rfl (hb hby d15_40) rfl ?_
    refine XS.icmpYes Xf5.here hx rfl (pc0 := 41) (pc' := 60) rfl (hb hby d15_41) rfl (feq (by decide : ¬ ((-537103460 : Int32) = (407625900 : Int32)))).2 (by decide) (by decide) ?_
    refine XS.iload Xf5.here hx rfl (hb hby d15_60) rfl ?_
    refine XS.iconst Xf5.here hx rfl (hb hby d15_62) ?_
    refine XS.iadd Xf5.here hx rfl (hb hby d15_63) rfl ?_
    refine XS.iloadN Xf5.here hx rfl (hb hby d15_64) rfl ?_
    refine XS.iand Xf5.here hx rfl (hb hby d15_65) rfl ?_
    refine XS.istore Xf5.here hx rfl (hb hby d15_66) rfl (l' := #[.val (.ref t), .val (.ref d), .val (.int (407625900 : Int32)), .val (.int (15 : Int32)), .val (.int (13 : Int32)), .val (.long (-2306841795268444158 : Int64)), .second]) rfl ?_
    refine XS.goto Xf5.here hx rfl (pc0 := 68) (pc' := 13) rfl (hb hby d15_68) (by decide) (by decide) ?_
    refine XS.aloadN Xf5.here hx rfl (hb hby d15_13) rfl rfl ?_
    refine stf7 _ ?_
    refine XS.iload Xf7.here hx rfl (hb hby d15_17) rfl ?_
    show Sp p e below Tf7 (mkF m 19 #[.val (.ref t), .val (.ref d), .val (.int (407625900 : Int32)), .val (.int (15 : Int32)), .val (.int (13 : Int32)), .val (.long (-2306841795268444158 : Int64)), .second] [(.int (13 : Int32)), (.ref sl)]) _
    refine Xf7.laload hx (j := (13 : Int32)) (v := (.long (1808655176962146305 : Int64))) (own_eq ef7 Arv2.1) (State.isArrayOf_alike hZ.alike Arv2.2.1) Arv2.2.2 in8 atin8 (g := (mkF m 19 #[.val (.ref t), .val (.ref d), .val (.int (407625900 : Int32)), .val (.int (15 : Int32)), .val (.int (13 : Int32)), .val (.long (-2306841795268444158 : Int64)), .second] [(.int (13 : Int32)), (.ref sl)])) rfl rfl (hb hby d15_19) _ ?_
    show Sp p e below Tf7 (mkF m 20 #[.val (.ref t), .val (.ref d), .val (.int (407625900 : Int32)), .val (.int (15 : Int32)), .val (.int (13 : Int32)), .val (.long (-2306841795268444158 : Int64)), .second] [(.long (1808655176962146305 : Int64))]) _
    refine XS.lconst Xf7.here hx rfl (hb hby d15_20) ?_
    refine XS.lcmp Xf7.here hx rfl (hb hby d15_21) rfl ?_
    refine XS.ifNo Xf7.here hx rfl (hb hby d15_22) rfl ((if0 _ _).trans (feq (by decide : ¬ ((1 : Int32) = (0 : Int32)))).1) ?_
    refine XS.aloadN Xf7.here hx rfl (hb hby d15_25) rfl rfl ?_
    refine stf9 _ ?_
    refine XS.iload Xf9.here hx rfl (hb hby d15_29) rfl ?_
    show Sp p e below Tf9 (mkF m 31 #[.val (.ref t), .val (.ref d), .val (.int (407625900 : Int32)), .val (.int (15 : Int32)), .val (.int (13 : Int32)), .val (.long (-2306841795268444158 : Int64)), .second] [(.int (13 : Int32)), (.ref sl)]) _
    refine Xf9.laload hx (j := (13 : Int32)) (v := (.long (1808655176962146305 : Int64))) (own_eq ef9 Arv2.1) (State.isArrayOf_alike hZ.alike Arv2.2.1) Arv2.2.2 in10 atin10 (g := (mkF m 31 #[.val (.ref t), .val (.ref d), .val (.int (407625900 : Int32)), .val (.int (15 : Int32)), .val (.int (13 : Int32)), .val (.long (-2306841795268444158 : Int64)), .second] [(.int (13 : Int32)), (.ref sl)])) rfl rfl (hb hby d15_31) _ ?_
    show Sp p e below Tf9 (mkF m 32 #[.val (.ref t), .val (.ref d), .val (.int (407625900 : Int32)), .val (.int (15 : Int32)), .val (.int (13 : Int32)), .val (.long (-2306841795268444158 : Int64)), .second] [(.long (1808655176962146305 : Int64))]) _
    refine XS.lstore Xf9.here hx rfl (hb hby d15_32) rfl (l' := #[.val (.ref t), .val (.ref d), .val (.int (407625900 : Int32)), .val (.int (15 : Int32)), .val (.int (13 : Int32)), .val (.long (1808655176962146305 : Int64)), .second]) rfl ?_
    refine XS.lload Xf9.here hx rfl (hb hby d15_34) rfl ?_
    refine XS.bipush Xf9.here hx rfl (hb hby d15_36) ?_
    refine XS.lushr Xf9.here hx rfl (hb hby d15_38) rfl ?_
    refine XS.l2i Xf9.here hx rfl (hb hby d15_39) rfl ?_
    refine XS.iloadN Xf9.here hx rfl (hb hby d15_40) rfl ?_
    refine XS.icmpYes Xf9.here hx rfl (pc0 := 41) (pc' := 60) rfl (hb hby d15_41) rfl (feq (by decide : ¬ ((421110349 : Int32) = (407625900 : Int32)))).2 (by decide) (by decide) ?_
    refine XS.iload Xf9.here hx rfl (hb hby d15_60) rfl ?_
    refine XS.iconst Xf9.here hx rfl (hb hby d15_62) ?_
    refine XS.iadd Xf9.here hx rfl (hb hby d15_63) rfl ?_
    refine XS.iloadN Xf9.here hx rfl (hb hby d15_64) rfl ?_
    refine XS.iand Xf9.here hx rfl (hb hby d15_65) rfl ?_
    refine XS.istore Xf9.here hx rfl (hb hby d15_66) rfl (l' := #[.val (.ref t), .val (.ref d), .val (.int (407625900 : Int32)), .val (.int (15 : Int32)), .val (.int (14 : Int32)), .val (.long (1808655176962146305 : Int64)), .second]) rfl ?_
    refine XS.goto Xf9.here hx rfl (pc0 := 68) (pc' := 13) rfl (hb hby d15_68) (by decide) (by decide) ?_
    refine XS.aloadN Xf9.here hx rfl (hb hby d15_13) rfl rfl ?_
    refine stf11 _ ?_
    refine XS.iload Xf11.here hx rfl (hb hby d15_17) rfl ?_
    show Sp p e below Tf11 (mkF m 19 #[.val (.ref t), .val (.ref d), .val (.int (407625900 : Int32)), .val (.int (15 : Int32)), .val (.int (14 : Int32)), .val (.long (1808655176962146305 : Int64)), .second] [(.int (14 : Int32)), (.ref sl)]) _
    refine Xf11.laload hx (j := (14 : Int32)) (v := (.long (-2839092971725389821 : Int64))) (own_eq ef11 Arv2.1) (State.isArrayOf_alike hZ.alike Arv2.2.1) Arv2.2.2 in12 atin12 (g := (mkF m 19 #[.val (.ref t), .val (.ref d), .val (.int (407625900 : Int32)), .val (.int (15 : Int32)), .val (.int (14 : Int32)), .val (.long (1808655176962146305 : Int64)), .second] [(.int (14 : Int32)), (.ref sl)])) rfl rfl (hb hby d15_19) _ ?_
    show Sp p e below Tf11 (mkF m 20 #[.val (.ref t), .val (.ref d), .val (.int (407625900 : Int32)), .val (.int (15 : Int32)), .val (.int (14 : Int32)), .val (.long (1808655176962146305 : Int64)), .second] [(.long (-2839092971725389821 : Int64))]) _
    refine XS.lconst Xf11.here hx rfl (hb hby d15_20) ?_
    refine XS.lcmp Xf11.here hx rfl (hb hby d15_21) rfl ?_
    refine XS.ifNo Xf11.here hx rfl (hb hby d15_22) rfl ((if0 _ _).trans (feq (by decide : ¬ ((-1 : Int32) = (0 : Int32)))).1) ?_
    refine XS.aloadN Xf11.here hx rfl (hb hby d15_25) rfl rfl ?_
    refine stf13 _ ?_
    refine XS.iload Xf13.here hx rfl (hb hby d15_29) rfl ?_
    show Sp p e below Tf13 (mkF m 31 #[.val (.ref t), .val (.ref d), .val (.int (407625900 : Int32)), .val (.int (15 : Int32)), .val (.int (14 : Int32)), .val (.long (1808655176962146305 : Int64)), .second] [(.int (14 : Int32)), (.ref sl)]) _
    refine Xf13.laload hx (j := (14 : Int32)) (v := (.long (-2839092971725389821 : Int64))) (own_eq ef13 Arv2.1) (State.isArrayOf_alike hZ.alike Arv2.2.1) Arv2.2.2 in14 atin14 (g := (mkF m 31 #[.val (.ref t), .val (.ref d), .val (.int (407625900 : Int32)), .val (.int (15 : Int32)), .val (.int (14 : Int32)), .val (.long (1808655176962146305 : Int64)), .second] [(.int (14 : Int32)), (.ref sl)])) rfl rfl (hb hby d15_31) _ ?_
    show Sp p e below Tf13 (mkF m 32 #[.val (.ref t), .val (.ref d), .val (.int (407625900 : Int32)), .val (.int (15 : Int32)), .val (.int (14 : Int32)), .val (.long (1808655176962146305 : Int64)), .second] [(.long (-2839092971725389821 : Int64))]) _
    refine XS.lstore Xf13.here hx rfl (hb hby d15_32) rfl (l' := #[.val (.ref t), .val (.ref d), .val (.int (407625900 : Int32)), .val (.int (15 : Int32)), .val (.int (14 : Int32)), .val (.long (-2839092971725389821 : Int64)), .second]) rfl ?_
    refine XS.lload Xf13.here hx rfl (hb hby d15_34) rfl ?_
    refine XS.bipush Xf13.here hx rfl (hb hby d15_36) ?_
    refine XS.lushr Xf13.here hx rfl (hb hby d15_38) rfl ?_
    refine XS.l2i Xf13.here hx rfl (hb hby d15_39) rfl ?_
    refine XS.iloadN Xf13.here hx rfl (hb hby d15_40) rfl ?_
    refine XS.icmpYes Xf13.here hx rfl (pc0 := 41) (pc' := 60) rfl (hb hby d15_41) rfl (feq (by decide : ¬ ((-661027844 : Int32) = (407625900 : Int32)))).2 (by decide) (by decide) ?_
    refine XS.iload Xf13.here hx rfl (hb hby d15_60) rfl ?_
    refine XS.iconst Xf13.here hx rfl (hb hby d15_62) ?_
    refine XS.iadd Xf13.here hx rfl (hb hby d15_63) rfl ?_
    refine XS.iloadN Xf13.here hx rfl (hb hby d15_64) rfl ?_
    refine XS.iand Xf13.here hx rfl (hb hby d15_65) rfl ?_
    refine XS.istore Xf13.here hx rfl (hb hby d15_66) rfl (l' := #[.val (.ref t), .val (.ref d), .val (.int (407625900 : Int32)), .val (.int (15 : Int32)), .val (.int (15 : Int32)), .val (.long (-2839092971725389821 : Int64)), .second]) rfl ?_
    refine XS.goto Xf13.here hx rfl (pc0 := 68) (pc' := 13) rfl (hb hby d15_68) (by decide) (by decide) ?_
    refine XS.aloadN Xf13.here hx rfl (hb hby d15_13) rfl rfl ?_
    refine stf15 _ ?_
    refine XS.iload Xf15.here hx rfl (hb hby d15_17) rfl ?_
    show Sp p e below Tf15 (mkF m 19 #[.val (.ref t), .val (.ref d), .val (.int (407625900 : Int32)), .val (.int (15 : Int32)), .val (.int (15 : Int32)), .val (.long (-2839092971725389821 : Int64)), .second] [(.int (15 : Int32)), (.ref sl)]) _
    refine Xf15.laload hx (j := (15 : Int32)) (v := (.long (0 : Int64))) (own_eq ef15 Arv2.1) (State.isArrayOf_alike hZ.alike Arv2.2.1) Arv2.2.2 in16 atin16 (g := (mkF m 19 #[.val (.ref t), .val (.ref d), .val (.int (407625900 : Int32)), .val (.int (15 : Int32)), .val (.int (15 : Int32)), .val (.long (-2839092971725389821 : Int64)), .second] [(.int (15 : Int32)), (.ref sl)])) rfl rfl (hb hby d15_19) _ ?_
    show Sp p e below Tf15 (mkF m 20 #[.val (.ref t), .val (.ref d), .val (.int (407625900 : Int32)), .val (.int (15 : Int32)), .val (.int (15 : Int32)), .val (.long (-2839092971725389821 : Int64)), .second] [(.long (0 : Int64))]) _
    refine XS.lconst Xf15.here hx rfl (hb hby d15_20) ?_
    refine XS.lcmp Xf15.here hx rfl (hb hby d15_21) rfl ?_
    refine XS.ifYes Xf15.here hx rfl (pc0 := 22) (pc' := 71) rfl (hb hby d15_22) rfl ((if0 _ _).trans (teq (by decide : (0 : Int32) = (0 : Int32))).1) (by decide) (by decide) ?_
    refine XS.iload Xf15.here hx rfl (hb hby d15_71) rfl ?_
    show Sp p e below Tf15 (mkF m 73 #[.val (.ref t), .val (.ref d), .val (.int (407625900 : Int32)), .val (.int (15 : Int32)), .val (.int (15 : Int32)), .val (.long (-2839092971725389821 : Int64)), .second] [(.int (15 : Int32))]) _
    exact retI Xf15 hx hret (hb hby d15_73) hlv
  · show Q_find3 Z t d sl ks h0 n0 _ Tf15.heap _
    rw [ef15]
    exact ⟨rfl, N0, rfl⟩
def Q_find4 (Z : State) (t : Addr) (d : Addr) (sl : Addr) (ks : ClassId) (h0 : Heap) (n0 : Nat) (v : Option Value) (h : Heap) (L : List Loc) : Prop := v = some (.int (5 : Int32)) ∧ Fr n0 L ∧ h = h0
set_option maxRecDepth 65536 in
set_option maxHeartbeats 40000000 in
theorem rm_find4 (l : Launch) (Z : State) (a0 : Array Value) (hw : ∀ d ∈ tables_1, d.before a0 Z = true) (ws : List Jvm.Cond) (t : Addr) (d : Addr) (sl : Addr) (ks : ClassId) (h0 : Heap) (n0 : Nat) (Z0 : n0 ≤ h0.size) (O0 : Old Z n0 h0) (f0 : Fld Z h0 t S1 "slots" "[J" (.ref sl)) (f1 : Arv Z h0 sl ks .long (16 : Int32) [(.long (0 : Int64)), (.long (0 : Int64)), (.long (0 : Int64)), (.long (0 : Int64)), (.long (0 : Int64)), (.long (0 : Int64)), (.long (0 : Int64)), (.long (0 : Int64)), (.long (0 : Int64)), (.long (0 : Int64)), (.long (0 : Int64)), (.long (0 : Int64)), (.long (-2306841795268444158 : Int64)), (.long (1808655176962146305 : Int64)), (.long (-2839092971725389821 : Int64)), (.long (1750739909502566404 : Int64))] (.long (0 : Int64))) :
    MetFree l Y7 (head1 (Jvm.Cond.code Y7 prog_57_method_8_code 7 (some .int) :: ws) ({ frames := 0, cells := 0, slots := 0, locals := 0 } : Room)) (fun A_ U => A_ = #[(.ref t), (.ref d), (.int (866031701 : Int32))] ∧ Z.Warmed39 U.vm ∧ U.heap = h0) (fun _ _ _ _ _ => True) (fun _ U o_ U' => ∃ v_ L_, o_ = .returned v_ ∧ Q_find4 Z t d sl ks h0 n0 v_ U'.heap L_ ∧ FrameEnd U o_ U' L_ ({ frames := 0, cells := 0, slots := 0, locals := 0 } : Room).cells ({ frames := 0, cells := 0, slots := 0, locals := 0 } : Room).slots) := by
  refine MetFree.of_bodySF (plainFor_of_name pn_2) hisR ?_
  intro p e s m args below meth c s₁ Bd hml0 hP hK
  obtain ⟨rfl, hZ, hh⟩ := hP
  have hx := Bd.exec
  have hby := Bd.bytes
  have hml : c.maxLocals = 7 := hml0
  have hown : s.vm.findClass S1 = some m.cls := findClass_of_methodNamed Bd.named
  have hnm := (name_of_methodNamed Bd.named Bd.method).1
  have hret := Bd.returns
  have X0 : Stand p l e ({ frames := 0, cells := 0, slots := 0, locals := 0 } : Room) s m #[(.ref t), (.ref d), (.int (866031701 : Int32))] below meth c s₁ [] 0 0 := Stand.of_body Bd
  have e0 : s₁.heap = h0 := by rw [← hh, Bd.state]; rfl
  have N0 := Fr.nil n0
  have pre0 : ∀ t_, Sp p e below s₁ (mkF m 0 #[.val (.ref t), .val (.ref d), .val (.int (866031701 : Int32)), .unset, .unset, .unset, .unset] []) t_ → Sp p e below s₁ (entryFrame m #[(.ref t), (.ref d), (.int (866031701 : Int32))] 7) t_ := fun t_ k_ => castTop (ef_15_RRI m t d (866031701 : Int32)) k_
  obtain ⟨Tf1, Xf1, ef1, stf1⟩ := getF X0 hx hZ hown (host := "") (Or.inl (tw hw 11 rfl)) Via.refl e0 f0 (g := (mkF m 1 #[.val (.ref t), .val (.ref d), .val (.int (866031701 : Int32)), .unset, .unset, .unset, .unset] [(.ref t)])) rfl rfl (hb hby d15_1)
  obtain ⟨clv2, Arv2, qv2, Sv2, Nv2, Hv2, Gv2⟩ := id f1
  obtain ⟨Tf3, Xf3, ef3, stf3⟩ := getF Xf1 hx hZ hown (host := "") (Or.inl (tw hw 11 rfl)) Via.refl ef1 f0 (g := (mkF m 14 #[.val (.ref t), .val (.ref d), .val (.int (866031701 : Int32)), .val (.int (15 : Int32)), .val (.int (5 : Int32)), .unset, .unset] [(.ref t)])) rfl rfl (hb hby d15_14)
  have in4 : ¬ ((5 : Int32) < 0 ∨ clv2.slots.size ≤ ((5 : Int32)).toNatClampNeg) := inb_of Sv2 ⟨by decide, by decide⟩
  have atin4 : clv2.slots[((5 : Int32)).toNatClampNeg]? = some (.long (0 : Int64)) := Has.at Hv2 in4 rfl
  obtain ⟨fs, hlv, hrun, hended, hW, hsame⟩ := Xf3.leave (v := some (.int (5 : Int32))) (fun h => by rw [hret] at h; cases h)
  refine ⟨_, _, pre0 _ ?_, hrun, hended, _, _, rfl, ?_, ⟨_, rfl⟩, hW, hsame.mono (by decide) (by decide)⟩
  · refine XS.aloadN X0.here hx rfl (hb hby d15_0) rfl rfl ?_
    show Sp p e below s₁ (mkF m 1 #[.val (.ref t), .val (.ref d), .val (.int (866031701 : Int32)), .unset, .unset, .unset, .unset] [(.ref t)]) _
    refine stf1 _ ?_
    show Sp p e below Tf1 (mkF m 4 #[.val (.ref t), .val (.ref d), .val (.int (866031701 : Int32)), .unset, .unset, .unset, .unset] [(.ref sl)]) _
    refine Xf1.arraylength hx (own_eq ef1 Arv2.1) (State.isArrayOf_alike hZ.alike Arv2.2.1) (g := (mkF m 4 #[.val (.ref t), .val (.ref d), .val (.int (866031701 : Int32)), .unset, .unset, .unset, .unset] [(.ref sl)])) rfl rfl (hb hby d15_4) _ ?_
    rw [len_of Sv2 Nv2]
    show Sp p e below Tf1 (mkF m 5 #[.val (.ref t), .val (.ref d), .val (.int (866031701 : Int32)), .unset, .unset, .unset, .unset] [(.int (16 : Int32))]) _
    refine XS.iconst Xf1.here hx rfl (hb hby d15_5) ?_
    refine XS.isub Xf1.here hx rfl (hb hby d15_6) rfl ?_
    refine XS.istoreN Xf1.here hx rfl (hb hby d15_7) rfl (l' := #[.val (.ref t), .val (.ref d), .val (.int (866031701 : Int32)), .val (.int (15 : Int32)), .unset, .unset, .unset]) rfl ?_
    refine XS.iloadN Xf1.here hx rfl (hb hby d15_8) rfl ?_
    refine XS.iloadN Xf1.here hx rfl (hb hby d15_9) rfl ?_
    refine XS.iand Xf1.here hx rfl (hb hby d15_10) rfl ?_
    refine XS.istore Xf1.here hx rfl (hb hby d15_11) rfl (l' := #[.val (.ref t), .val (.ref d), .val (.int (866031701 : Int32)), .val (.int (15 : Int32)), .val (.int (5 : Int32)), .unset, .unset]) rfl ?_
    refine XS.aloadN Xf1.here hx rfl (hb hby d15_13) rfl rfl ?_
    refine stf3 _ ?_
    refine XS.iload Xf3.here hx rfl (hb hby d15_17) rfl ?_
    show Sp p e below Tf3 (mkF m 19 #[.val (.ref t), .val (.ref d), .val (.int (866031701 : Int32)), .val (.int (15 : Int32)), .val (.int (5 : Int32)), .unset, .unset] [(.int (5 : Int32)), (.ref sl)]) _
    refine Xf3.laload hx (j := (5 : Int32)) (v := (.long (0 : Int64))) (own_eq ef3 Arv2.1) (State.isArrayOf_alike hZ.alike Arv2.2.1) Arv2.2.2 in4 atin4 (g := (mkF m 19 #[.val (.ref t), .val (.ref d), .val (.int (866031701 : Int32)), .val (.int (15 : Int32)), .val (.int (5 : Int32)), .unset, .unset] [(.int (5 : Int32)), (.ref sl)])) rfl rfl (hb hby d15_19) _ ?_
    show Sp p e below Tf3 (mkF m 20 #[.val (.ref t), .val (.ref d), .val (.int (866031701 : Int32)), .val (.int (15 : Int32)), .val (.int (5 : Int32)), .unset, .unset] [(.long (0 : Int64))]) _
    refine XS.lconst Xf3.here hx rfl (hb hby d15_20) ?_
    refine XS.lcmp Xf3.here hx rfl (hb hby d15_21) rfl ?_
    refine XS.ifYes Xf3.here hx rfl (pc0 := 22) (pc' := 71) rfl (hb hby d15_22) rfl ((if0 _ _).trans (teq (by decide : (0 : Int32) = (0 : Int32))).1) (by decide) (by decide) ?_
    refine XS.iload Xf3.here hx rfl (hb hby d15_71) rfl ?_
    show Sp p e below Tf3 (mkF m 73 #[.val (.ref t), .val (.ref d), .val (.int (866031701 : Int32)), .val (.int (15 : Int32)), .val (.int (5 : Int32)), .unset, .unset] [(.int (5 : Int32))]) _
    exact retI Xf3 hx hret (hb hby d15_73) hlv
  · show Q_find4 Z t d sl ks h0 n0 _ Tf3.heap _
    rw [ef3]
    exact ⟨rfl, N0, rfl⟩
def Q_find5 (Z : State) (t : Addr) (d : Addr) (sl : Addr) (ks : ClassId) (h0 : Heap) (n0 : Nat) (v : Option Value) (h : Heap) (L : List Loc) : Prop := v = some (.int (0 : Int32)) ∧ Fr n0 L ∧ h = h0
set_option maxRecDepth 65536 in
set_option maxHeartbeats 40000000 in
theorem rm_find5 (l : Launch) (Z : State) (a0 : Array Value) (hw : ∀ d ∈ tables_1, d.before a0 Z = true) (ws : List Jvm.Cond) (t : Addr) (d : Addr) (sl : Addr) (ks : ClassId) (h0 : Heap) (n0 : Nat) (Z0 : n0 ≤ h0.size) (O0 : Old Z n0 h0) (f0 : Fld Z h0 t S1 "slots" "[J" (.ref sl)) (f1 : Arv Z h0 sl ks .long (16 : Int32) [(.long (0 : Int64)), (.long (0 : Int64)), (.long (0 : Int64)), (.long (0 : Int64)), (.long (0 : Int64)), (.long (3719577833094250501 : Int64)), (.long (0 : Int64)), (.long (0 : Int64)), (.long (0 : Int64)), (.long (0 : Int64)), (.long (0 : Int64)), (.long (0 : Int64)), (.long (-2306841795268444158 : Int64)), (.long (1808655176962146305 : Int64)), (.long (-2839092971725389821 : Int64)), (.long (1750739909502566404 : Int64))] (.long (0 : Int64))) :
    MetFree l Y7 (head1 (Jvm.Cond.code Y7 prog_57_method_8_code 7 (some .int) :: ws) ({ frames := 0, cells := 0, slots := 0, locals := 0 } : Room)) (fun A_ U => A_ = #[(.ref t), (.ref d), (.int (418373037 : Int32))] ∧ Z.Warmed39 U.vm ∧ U.heap = h0) (fun _ _ _ _ _ => True) (fun _ U o_ U' => ∃ v_ L_, o_ = .returned v_ ∧ Q_find5 Z t d sl ks h0 n0 v_ U'.heap L_ ∧ FrameEnd U o_ U' L_ ({ frames := 0, cells := 0, slots := 0, locals := 0 } : Room).cells ({ frames := 0, cells := 0, slots := 0, locals := 0 } : Room).slots) := by
  refine MetFree.of_bodySF (plainFor_of_name pn_2) hisR ?_
  intro p e s m args below meth c s₁ Bd hml0 hP hK
  obtain ⟨rfl, hZ, hh⟩ := hP
  have hx := Bd.exec
  have hby := Bd.bytes
  have hml : c.maxLocals = 7 := hml0
  have hown : s.vm.findClass S1 = some m.cls := findClass_of_methodNamed Bd.named
  have hnm := (name_of_methodNamed Bd.named Bd.method).1
  have hret := Bd.returns
  have X0 : Stand p l e ({ frames := 0, cells := 0, slots := 0, locals := 0 } : Room) s m #[(.ref t), (.ref d), (.int (418373037 : Int32))] below meth c s₁ [] 0 0 := Stand.of_body Bd
  have e0 : s₁.heap = h0 := by rw [← hh, Bd.state]; rfl
  have N0 := Fr.nil n0
  have pre0 : ∀ t_, Sp p e below s₁ (mkF m 0 #[.val (.ref t), .val (.ref d), .val (.int (418373037 : Int32)), .unset, .unset, .unset, .unset] []) t_ → Sp p e below s₁ (entryFrame m #[(.ref t), (.ref d), (.int (418373037 : Int32))] 7) t_ := fun t_ k_ => castTop (ef_15_RRI m t d (418373037 : Int32)) k_
  obtain ⟨Tf1, Xf1, ef1, stf1⟩ := getF X0 hx hZ hown (host := "") (Or.inl (tw hw 11 rfl)) Via.refl e0 f0 (g := (mkF m 1 #[.val (.ref t), .val (.ref d), .val (.int (418373037 : Int32)), .unset, .unset, .unset, .unset] [(.ref t)])) rfl rfl (hb hby d15_1)
  obtain ⟨clv2, Arv2, qv2, Sv2, Nv2, Hv2, Gv2⟩ := id f1
  obtain ⟨Tf3, Xf3, ef3, stf3⟩ := getF Xf1 hx hZ hown (host := "") (Or.inl (tw hw 11 rfl)) Via.refl ef1 f0 (g := (mkF m 14 #[.val (.ref t), .val (.ref d), .val (.int (418373037 : Int32)), .val (.int (15 : Int32)), .val (.int (13 : Int32)), .unset, .unset] [(.ref t)])) rfl rfl (hb hby d15_14)
  have in4 : ¬ ((13 : Int32) < 0 ∨ clv2.slots.size ≤ ((13 : Int32)).toNatClampNeg) := inb_of Sv2 ⟨by decide, by decide⟩
  have atin4 : clv2.slots[((13 : Int32)).toNatClampNeg]? = some (.long (1808655176962146305 : Int64)) := Has.at Hv2 in4 rfl
  obtain ⟨Tf5, Xf5, ef5, stf5⟩ := getF Xf3 hx hZ hown (host := "") (Or.inl (tw hw 11 rfl)) Via.refl ef3 f0 (g := (mkF m 26 #[.val (.ref t), .val (.ref d), .val (.int (418373037 : Int32)), .val (.int (15 : Int32)), .val (.int (13 : Int32)), .unset, .unset] [(.ref t)])) rfl rfl (hb hby d15_26)
  have in6 : ¬ ((13 : Int32) < 0 ∨ clv2.slots.size ≤ ((13 : Int32)).toNatClampNeg) := inb_of Sv2 ⟨by decide, by decide⟩
  have atin6 : clv2.slots[((13 : Int32)).toNatClampNeg]? = some (.long (1808655176962146305 : Int64)) := Has.at Hv2 in6 rfl
  obtain ⟨Tf7, Xf7, ef7, stf7⟩ := getF Xf5 hx hZ hown (host := "") (Or.inl (tw hw 11 rfl)) Via.refl ef5 f0 (g := (mkF m 14 #[.val (.ref t), .val (.ref d), .val (.int (418373037 : Int32)), .val (.int (15 : Int32)), .val (.int (14 : Int32)), .val (.long (1808655176962146305 : Int64)), .second] [(.ref t)])) rfl rfl (hb hby d15_14)
  have in8 : ¬ ((14 : Int32) < 0 ∨ clv2.slots.size ≤ ((14 : Int32)).toNatClampNeg) := inb_of Sv2 ⟨by decide, by decide⟩
  have atin8 : clv2.slots[((14 : Int32)).toNatClampNeg]? = some (.long (-2839092971725389821 : Int64)) := Has.at Hv2 in8 rfl
  obtain ⟨Tf9, Xf9, ef9, stf9⟩ := getF Xf7 hx hZ hown (host := "") (Or.inl (tw hw 11 rfl)) Via.refl ef7 f0 (g := (mkF m 26 #[.val (.ref t), .val (.ref d), .val (.int (418373037 : Int32)), .val (.int (15 : Int32)), .val (.int (14 : Int32)), .val (.long (1808655176962146305 : Int64)), .second] [(.ref t)])) rfl rfl (hb hby d15_26)
  have in10 : ¬ ((14 : Int32) < 0 ∨ clv2.slots.size ≤ ((14 : Int32)).toNatClampNeg) := inb_of Sv2 ⟨by decide, by decide⟩
  have atin10 : clv2.slots[((14 : Int32)).toNatClampNeg]? = some (.long (-2839092971725389821 : Int64)) := Has.at Hv2 in10 rfl
  obtain ⟨Tf11, Xf11, ef11, stf11⟩ := getF Xf9 hx hZ hown (host := "") (Or.inl (tw hw 11 rfl)) Via.refl ef9 f0 (g := (mkF m 14 #[.val (.ref t), .val (.ref d), .val (.int (418373037 : Int32)), .val (.int (15 : Int32)), .val (.int (15 : Int32)), .val (.long (-2839092971725389821 : Int64)), .second] [(.ref t)])) rfl rfl (hb hby d15_14)
  have in12 : ¬ ((15 : Int32) < 0 ∨ clv2.slots.size ≤ ((15 : Int32)).toNatClampNeg) := inb_of Sv2 ⟨by decide, by decide⟩
  have atin12 : clv2.slots[((15 : Int32)).toNatClampNeg]? = some (.long (1750739909502566404 : Int64)) := Has.at Hv2 in12 rfl
  obtain ⟨Tf13, Xf13, ef13, stf13⟩ := getF Xf11 hx hZ hown (host := "") (Or.inl (tw hw 11 rfl)) Via.refl ef11 f0 (g := (mkF m 26 #[.val (.ref t), .val (.ref d), .val (.int (418373037 : Int32)), .val (.int (15 : Int32)), .val (.int (15 : Int32)), .val (.long (-2839092971725389821 : Int64)), .second] [(.ref t)])) rfl rfl (hb hby d15_26)
  have in14 : ¬ ((15 : Int32) < 0 ∨ clv2.slots.size ≤ ((15 : Int32)).toNatClampNeg) := inb_of Sv2 ⟨by decide, by decide⟩
  have atin14 : clv2.slots[((15 : Int32)).toNatClampNeg]? = some (.long (1750739909502566404 : Int64)) := Has.at Hv2 in14 rfl
  obtain ⟨Tf15, Xf15, ef15, stf15⟩ := getF Xf13 hx hZ hown (host := "") (Or.inl (tw hw 11 rfl)) Via.refl ef13 f0 (g := (mkF m 14 #[.val (.ref t), .val (.ref d), .val (.int (418373037 : Int32)), .val (.int (15 : Int32)), .val (.int (0 : Int32)), .val (.long (1750739909502566404 : Int64)), .second] [(.ref t)])) rfl rfl (hb hby d15_14)
  have in16 : ¬ ((0 : Int32) < 0 ∨ clv2.slots.size ≤ ((0 : Int32)).toNatClampNeg) := inb_of Sv2 ⟨by decide, by decide⟩
  have atin16 : clv2.slots[((0 : Int32)).toNatClampNeg]? = some (.long (0 : Int64)) := Has.at Hv2 in16 rfl
  obtain ⟨fs, hlv, hrun, hended, hW, hsame⟩ := Xf15.leave (v := some (.int (0 : Int32))) (fun h => by rw [hret] at h; cases h)
  refine ⟨_, _, pre0 _ ?_, hrun, hended, _, _, rfl, ?_, ⟨_, rfl⟩, hW, hsame.mono (by decide) (by decide)⟩
  · refine XS.aloadN X0.here hx rfl (hb hby d15_0) rfl rfl ?_
    show Sp p e below s₁ (mkF m 1 #[.val (.ref t), .val (.ref d), .val (.int (418373037 : Int32)), .unset, .unset, .unset, .unset] [(.ref t)]) _
    refine stf1 _ ?_
    show Sp p e below Tf1 (mkF m 4 #[.val (.ref t), .val (.ref d), .val (.int (418373037 : Int32)), .unset, .unset, .unset, .unset] [(.ref sl)]) _
    refine Xf1.arraylength hx (own_eq ef1 Arv2.1) (State.isArrayOf_alike hZ.alike Arv2.2.1) (g := (mkF m 4 #[.val (.ref t), .val (.ref d), .val (.int (418373037 : Int32)), .unset, .unset, .unset, .unset] [(.ref sl)])) rfl rfl (hb hby d15_4) _ ?_
    rw [len_of Sv2 Nv2]
    show Sp p e below Tf1 (mkF m 5 #[.val (.ref t), .val (.ref d), .val (.int (418373037 : Int32)), .unset, .unset, .unset, .unset] [(.int (16 : Int32))]) _
    refine XS.iconst Xf1.here hx rfl (hb hby d15_5) ?_
    refine XS.isub Xf1.here hx rfl (hb hby d15_6) rfl ?_
    refine XS.istoreN Xf1.here hx rfl (hb hby d15_7) rfl (l' := #[.val (.ref t), .val (.ref d), .val (.int (418373037 : Int32)), .val (.int (15 : Int32)), .unset, .unset, .unset]) rfl ?_
    refine XS.iloadN Xf1.here hx rfl (hb hby d15_8) rfl ?_
    refine XS.iloadN Xf1.here hx rfl (hb hby d15_9) rfl ?_
    refine XS.iand Xf1.here hx rfl (hb hby d15_10) rfl ?_
    refine XS.istore Xf1.here hx rfl (hb hby d15_11) rfl (l' := #[.val (.ref t), .val (.ref d), .val (.int (418373037 : Int32)), .val (.int (15 : Int32)), .val (.int (13 : Int32)), .unset, .unset]) rfl ?_
    refine XS.aloadN Xf1.here hx rfl (hb hby d15_13) rfl rfl ?_
    refine stf3 _ ?_
    refine XS.iload Xf3.here hx rfl (hb hby d15_17) rfl ?_
    show Sp p e below Tf3 (mkF m 19 #[.val (.ref t), .val (.ref d), .val (.int (418373037 : Int32)), .val (.int (15 : Int32)), .val (.int (13 : Int32)), .unset, .unset] [(.int (13 : Int32)), (.ref sl)]) _
    refine Xf3.laload hx (j := (13 : Int32)) (v := (.long (1808655176962146305 : Int64))) (own_eq ef3 Arv2.1) (State.isArrayOf_alike hZ.alike Arv2.2.1) Arv2.2.2 in4 atin4 (g := (mkF m 19 #[.val (.ref t), .val (.ref d), .val (.int (418373037 : Int32)), .val (.int (15 : Int32)), .val (.int (13 : Int32)), .unset, .unset] [(.int (13 : Int32)), (.ref sl)])) rfl rfl (hb hby d15_19) _ ?_
    show Sp p e below Tf3 (mkF m 20 #[.val (.ref t), .val (.ref d), .val (.int (418373037 : Int32)), .val (.int (15 : Int32)), .val (.int (13 : Int32)), .unset, .unset] [(.long (1808655176962146305 : Int64))]) _
    refine XS.lconst Xf3.here hx rfl (hb hby d15_20) ?_
    refine XS.lcmp Xf3.here hx rfl (hb hby d15_21) rfl ?_
    refine XS.ifNo Xf3.here hx rfl (hb hby d15_22) rfl ((if0 _ _).trans (feq (by decide : ¬ ((1 : Int32) = (0 : Int32)))).1) ?_
    refine XS.aloadN Xf3.here hx rfl (hb hby d15_25) rfl rfl ?_
    refine stf5 _ ?_
    refine XS.iload Xf5.here hx rfl (hb hby d15_29) rfl ?_
    show Sp p e below Tf5 (mkF m 31 #[.val (.ref t), .val (.ref d), .val (.int (418373037 : Int32)), .val (.int (15 : Int32)), .val (.int (13 : Int32)), .unset, .unset] [(.int (13 : Int32)), (.ref sl)]) _
    refine Xf5.laload hx (j := (13 : Int32)) (v := (.long (1808655176962146305 : Int64))) (own_eq ef5 Arv2.1) (State.isArrayOf_alike hZ.alike Arv2.2.1) Arv2.2.2 in6 atin6 (g := (mkF m 31 #[.val (.ref t), .val (.ref d), .val (.int (418373037 : Int32)), .val (.int (15 : Int32)), .val (.int (13 : Int32)), .unset, .unset] [(.int (13 : Int32)), (.ref sl)])) rfl rfl (hb hby d15_31) _ ?_
    show Sp p e below Tf5 (mkF m 32 #[.val (.ref t), .val (.ref d), .val (.int (418373037 : Int32)), .val (.int (15 : Int32)), .val (.int (13 : Int32)), .unset, .unset] [(.long (1808655176962146305 : Int64))]) _
    refine XS.lstore Xf5.here hx rfl (hb hby d15_32) rfl (l' := #[.val (.ref t), .val (.ref d), .val (.int (418373037 : Int32)), .val (.int (15 : Int32)), .val (.int (13 : Int32)), .val (.long (1808655176962146305 : Int64)), .second]) rfl ?_
    refine XS.lload Xf5.here hx rfl (hb hby d15_34) rfl ?_
    refine XS.bipush Xf5.here hx rfl (hb hby d15_36) ?_
    refine XS.lushr Xf5.here hx rfl (hb hby d15_38) rfl ?_
    refine XS.l2i Xf5.here hx rfl (hb hby d15_39) rfl ?_
    refine XS.iloadN Xf5.here hx rfl (hb hby d15_40) rfl ?_
    refine XS.icmpYes Xf5.here hx rfl (pc0 := 41) (pc' := 60) rfl (hb hby d15_41) rfl (feq (by decide : ¬ ((421110349 : Int32) = (418373037 : Int32)))).2 (by decide) (by decide) ?_
    refine XS.iload Xf5.here hx rfl (hb hby d15_60) rfl ?_
    refine XS.iconst Xf5.here hx rfl (hb hby d15_62) ?_
    refine XS.iadd Xf5.here hx rfl (hb hby d15_63) rfl ?_
    refine XS.iloadN Xf5.here hx rfl (hb hby d15_64) rfl ?_
    refine XS.iand Xf5.here hx rfl (hb hby d15_65) rfl ?_
    refine XS.istore Xf5.here hx rfl (hb hby d15_66) rfl (l' := #[.val (.ref t), .val (.ref d), .val (.int (418373037 : Int32)), .val (.int (15 : Int32)), .val (.int (14 : Int32)), .val (.long (1808655176962146305 : Int64)), .second]) rfl ?_
    refine XS.goto Xf5.here hx rfl (pc0 := 68) (pc' := 13) rfl (hb hby d15_68) (by decide) (by decide) ?_
    refine XS.aloadN Xf5.here hx rfl (hb hby d15_13) rfl rfl ?_
    refine stf7 _ ?_
    refine XS.iload Xf7.here hx rfl (hb hby d15_17) rfl ?_
    show Sp p e below Tf7 (mkF m 19 #[.val (.ref t), .val (.ref d), .val (.int (418373037 : Int32)), .val (.int (15 : Int32)), .val (.int (14 : Int32)), .val (.long (1808655176962146305 : Int64)), .second] [(.int (14 : Int32)), (.ref sl)]) _
    refine Xf7.laload hx (j := (14 : Int32)) (v := (.long (-2839092971725389821 : Int64))) (own_eq ef7 Arv2.1) (State.isArrayOf_alike hZ.alike Arv2.2.1) Arv2.2.2 in8 atin8 (g := (mkF m 19 #[.val (.ref t), .val (.ref d), .val (.int (418373037 : Int32)), .val (.int (15 : Int32)), .val (.int (14 : Int32)), .val (.long (1808655176962146305 : Int64)), .second] [(.int (14 : Int32)), (.ref sl)])) rfl rfl (hb hby d15_19) _ ?_
    show Sp p e below Tf7 (mkF m 20 #[.val (.ref t), .val (.ref d), .val (.int (418373037 : Int32)), .val (.int (15 : Int32)), .val (.int (14 : Int32)), .val (.long (1808655176962146305 : Int64)), .second] [(.long (-2839092971725389821 : Int64))]) _
    refine XS.lconst Xf7.here hx rfl (hb hby d15_20) ?_
    refine XS.lcmp Xf7.here hx rfl (hb hby d15_21) rfl ?_
    refine XS.ifNo Xf7.here hx rfl (hb hby d15_22) rfl ((if0 _ _).trans (feq (by decide : ¬ ((-1 : Int32) = (0 : Int32)))).1) ?_
    refine XS.aloadN Xf7.here hx rfl (hb hby d15_25) rfl rfl ?_
    refine stf9 _ ?_
    refine XS.iload Xf9.here hx rfl (hb hby d15_29) rfl ?_
    show Sp p e below Tf9 (mkF m 31 #[.val (.ref t), .val (.ref d), .val (.int (418373037 : Int32)), .val (.int (15 : Int32)), .val (.int (14 : Int32)), .val (.long (1808655176962146305 : Int64)), .second] [(.int (14 : Int32)), (.ref sl)]) _
    refine Xf9.laload hx (j := (14 : Int32)) (v := (.long (-2839092971725389821 : Int64))) (own_eq ef9 Arv2.1) (State.isArrayOf_alike hZ.alike Arv2.2.1) Arv2.2.2 in10 atin10 (g := (mkF m 31 #[.val (.ref t), .val (.ref d), .val (.int (418373037 : Int32)), .val (.int (15 : Int32)), .val (.int (14 : Int32)), .val (.long (1808655176962146305 : Int64)), .second] [(.int (14 : Int32)), (.ref sl)])) rfl rfl (hb hby d15_31) _ ?_
    show Sp p e below Tf9 (mkF m 32 #[.val (.ref t), .val (.ref d), .val (.int (418373037 : Int32)), .val (.int (15 : Int32)), .val (.int (14 : Int32)), .val (.long (1808655176962146305 : Int64)), .second] [(.long (-2839092971725389821 : Int64))]) _
    refine XS.lstore Xf9.here hx rfl (hb hby d15_32) rfl (l' := #[.val (.ref t), .val (.ref d), .val (.int (418373037 : Int32)), .val (.int (15 : Int32)), .val (.int (14 : Int32)), .val (.long (-2839092971725389821 : Int64)), .second]) rfl ?_
    refine XS.lload Xf9.here hx rfl (hb hby d15_34) rfl ?_
    refine XS.bipush Xf9.here hx rfl (hb hby d15_36) ?_
    refine XS.lushr Xf9.here hx rfl (hb hby d15_38) rfl ?_
    refine XS.l2i Xf9.here hx rfl (hb hby d15_39) rfl ?_
    refine XS.iloadN Xf9.here hx rfl (hb hby d15_40) rfl ?_
    refine XS.icmpYes Xf9.here hx rfl (pc0 := 41) (pc' := 60) rfl (hb hby d15_41) rfl (feq (by decide : ¬ ((-661027844 : Int32) = (418373037 : Int32)))).2 (by decide) (by decide) ?_
    refine XS.iload Xf9.here hx rfl (hb hby d15_60) rfl ?_
    refine XS.iconst Xf9.here hx rfl (hb hby d15_62) ?_
    refine XS.iadd Xf9.here hx rfl (hb hby d15_63) rfl ?_
    refine XS.iloadN Xf9.here hx rfl (hb hby d15_64) rfl ?_
    refine XS.iand Xf9.here hx rfl (hb hby d15_65) rfl ?_
    refine XS.istore Xf9.here hx rfl (hb hby d15_66) rfl (l' := #[.val (.ref t), .val (.ref d), .val (.int (418373037 : Int32)), .val (.int (15 : Int32)), .val (.int (15 : Int32)), .val (.long (-2839092971725389821 : Int64)), .second]) rfl ?_
    refine XS.goto Xf9.here hx rfl (pc0 := 68) (pc' := 13) rfl (hb hby d15_68) (by decide) (by decide) ?_
    refine XS.aloadN Xf9.here hx rfl (hb hby d15_13) rfl rfl ?_
    refine stf11 _ ?_
    refine XS.iload Xf11.here hx rfl (hb hby d15_17) rfl ?_
    show Sp p e below Tf11 (mkF m 19 #[.val (.ref t), .val (.ref d), .val (.int (418373037 : Int32)), .val (.int (15 : Int32)), .val (.int (15 : Int32)), .val (.long (-2839092971725389821 : Int64)), .second] [(.int (15 : Int32)), (.ref sl)]) _
    refine Xf11.laload hx (j := (15 : Int32)) (v := (.long (1750739909502566404 : Int64))) (own_eq ef11 Arv2.1) (State.isArrayOf_alike hZ.alike Arv2.2.1) Arv2.2.2 in12 atin12 (g := (mkF m 19 #[.val (.ref t), .val (.ref d), .val (.int (418373037 : Int32)), .val (.int (15 : Int32)), .val (.int (15 : Int32)), .val (.long (-2839092971725389821 : Int64)), .second] [(.int (15 : Int32)), (.ref sl)])) rfl rfl (hb hby d15_19) _ ?_
    show Sp p e below Tf11 (mkF m 20 #[.val (.ref t), .val (.ref d), .val (.int (418373037 : Int32)), .val (.int (15 : Int32)), .val (.int (15 : Int32)), .val (.long (-2839092971725389821 : Int64)), .second] [(.long (1750739909502566404 : Int64))]) _
    refine XS.lconst Xf11.here hx rfl (hb hby d15_20) ?_
    refine XS.lcmp Xf11.here hx rfl (hb hby d15_21) rfl ?_
    refine XS.ifNo Xf11.here hx rfl (hb hby d15_22) rfl ((if0 _ _).trans (feq (by decide : ¬ ((1 : Int32) = (0 : Int32)))).1) ?_
    refine XS.aloadN Xf11.here hx rfl (hb hby d15_25) rfl rfl ?_
    refine stf13 _ ?_
    refine XS.iload Xf13.here hx rfl (hb hby d15_29) rfl ?_
    show Sp p e below Tf13 (mkF m 31 #[.val (.ref t), .val (.ref d), .val (.int (418373037 : Int32)), .val (.int (15 : Int32)), .val (.int (15 : Int32)), .val (.long (-2839092971725389821 : Int64)), .second] [(.int (15 : Int32)), (.ref sl)]) _
    refine Xf13.laload hx (j := (15 : Int32)) (v := (.long (1750739909502566404 : Int64))) (own_eq ef13 Arv2.1) (State.isArrayOf_alike hZ.alike Arv2.2.1) Arv2.2.2 in14 atin14 (g := (mkF m 31 #[.val (.ref t), .val (.ref d), .val (.int (418373037 : Int32)), .val (.int (15 : Int32)), .val (.int (15 : Int32)), .val (.long (-2839092971725389821 : Int64)), .second] [(.int (15 : Int32)), (.ref sl)])) rfl rfl (hb hby d15_31) _ ?_
    show Sp p e below Tf13 (mkF m 32 #[.val (.ref t), .val (.ref d), .val (.int (418373037 : Int32)), .val (.int (15 : Int32)), .val (.int (15 : Int32)), .val (.long (-2839092971725389821 : Int64)), .second] [(.long (1750739909502566404 : Int64))]) _
    refine XS.lstore Xf13.here hx rfl (hb hby d15_32) rfl (l' := #[.val (.ref t), .val (.ref d), .val (.int (418373037 : Int32)), .val (.int (15 : Int32)), .val (.int (15 : Int32)), .val (.long (1750739909502566404 : Int64)), .second]) rfl ?_
    refine XS.lload Xf13.here hx rfl (hb hby d15_34) rfl ?_
    refine XS.bipush Xf13.here hx rfl (hb hby d15_36) ?_
    refine XS.lushr Xf13.here hx rfl (hb hby d15_38) rfl ?_
    refine XS.l2i Xf13.here hx rfl (hb hby d15_39) rfl ?_
    refine XS.iloadN Xf13.here hx rfl (hb hby d15_40) rfl ?_
    refine XS.icmpYes Xf13.here hx rfl (pc0 := 41) (pc' := 60) rfl (hb hby d15_41) rfl (feq (by decide : ¬ ((407625900 : Int32) = (418373037 : Int32)))).2 (by decide) (by decide) ?_
    refine XS.iload Xf13.here hx rfl (hb hby d15_60) rfl ?_
    refine XS.iconst Xf13.here hx rfl (hb hby d15_62) ?_
    refine XS.iadd Xf13.here hx rfl (hb hby d15_63) rfl ?_
    refine XS.iloadN Xf13.here hx rfl (hb hby d15_64) rfl ?_
    refine XS.iand Xf13.here hx rfl (hb hby d15_65) rfl ?_
    refine XS.istore Xf13.here hx rfl (hb hby d15_66) rfl (l' := #[.val (.ref t), .val (.ref d), .val (.int (418373037 : Int32)), .val (.int (15 : Int32)), .val (.int (0 : Int32)), .val (.long (1750739909502566404 : Int64)), .second]) rfl ?_
    refine XS.goto Xf13.here hx rfl (pc0 := 68) (pc' := 13) rfl (hb hby d15_68) (by decide) (by decide) ?_
    refine XS.aloadN Xf13.here hx rfl (hb hby d15_13) rfl rfl ?_
    refine stf15 _ ?_
    refine XS.iload Xf15.here hx rfl (hb hby d15_17) rfl ?_
    show Sp p e below Tf15 (mkF m 19 #[.val (.ref t), .val (.ref d), .val (.int (418373037 : Int32)), .val (.int (15 : Int32)), .val (.int (0 : Int32)), .val (.long (1750739909502566404 : Int64)), .second] [(.int (0 : Int32)), (.ref sl)]) _
    refine Xf15.laload hx (j := (0 : Int32)) (v := (.long (0 : Int64))) (own_eq ef15 Arv2.1) (State.isArrayOf_alike hZ.alike Arv2.2.1) Arv2.2.2 in16 atin16 (g := (mkF m 19 #[.val (.ref t), .val (.ref d), .val (.int (418373037 : Int32)), .val (.int (15 : Int32)), .val (.int (0 : Int32)), .val (.long (1750739909502566404 : Int64)), .second] [(.int (0 : Int32)), (.ref sl)])) rfl rfl (hb hby d15_19) _ ?_
    show Sp p e below Tf15 (mkF m 20 #[.val (.ref t), .val (.ref d), .val (.int (418373037 : Int32)), .val (.int (15 : Int32)), .val (.int (0 : Int32)), .val (.long (1750739909502566404 : Int64)), .second] [(.long (0 : Int64))]) _
    refine XS.lconst Xf15.here hx rfl (hb hby d15_20) ?_
    refine XS.lcmp Xf15.here hx rfl (hb hby d15_21) rfl ?_
    refine XS.ifYes Xf15.here hx rfl (pc0 := 22) (pc' := 71) rfl (hb hby d15_22) rfl ((if0 _ _).trans (teq (by decide : (0 : Int32) = (0 : Int32))).1) (by decide) (by decide) ?_
    refine XS.iload Xf15.here hx rfl (hb hby d15_71) rfl ?_
    show Sp p e below Tf15 (mkF m 73 #[.val (.ref t), .val (.ref d), .val (.int (418373037 : Int32)), .val (.int (15 : Int32)), .val (.int (0 : Int32)), .val (.long (1750739909502566404 : Int64)), .second] [(.int (0 : Int32))]) _
    exact retI Xf15 hx hret (hb hby d15_73) hlv
  · show Q_find5 Z t d sl ks h0 n0 _ Tf15.heap _
    rw [ef15]
    exact ⟨rfl, N0, rfl⟩
def Q_find6 (Z : State) (t : Addr) (d : Addr) (sl : Addr) (ks : ClassId) (h0 : Heap) (n0 : Nat) (v : Option Value) (h : Heap) (L : List Loc) : Prop := v = some (.int (10 : Int32)) ∧ Fr n0 L ∧ h = h0
set_option maxRecDepth 65536 in
set_option maxHeartbeats 40000000 in
theorem rm_find6 (l : Launch) (Z : State) (a0 : Array Value) (hw : ∀ d ∈ tables_1, d.before a0 Z = true) (ws : List Jvm.Cond) (t : Addr) (d : Addr) (sl : Addr) (ks : ClassId) (h0 : Heap) (n0 : Nat) (Z0 : n0 ≤ h0.size) (O0 : Old Z n0 h0) (f0 : Fld Z h0 t S1 "slots" "[J" (.ref sl)) (f1 : Arv Z h0 sl ks .long (16 : Int32) [(.long (1796898511443197958 : Int64)), (.long (0 : Int64)), (.long (0 : Int64)), (.long (0 : Int64)), (.long (0 : Int64)), (.long (3719577833094250501 : Int64)), (.long (0 : Int64)), (.long (0 : Int64)), (.long (0 : Int64)), (.long (0 : Int64)), (.long (0 : Int64)), (.long (0 : Int64)), (.long (-2306841795268444158 : Int64)), (.long (1808655176962146305 : Int64)), (.long (-2839092971725389821 : Int64)), (.long (1750739909502566404 : Int64))] (.long (0 : Int64))) :
    MetFree l Y7 (head1 (Jvm.Cond.code Y7 prog_57_method_8_code 7 (some .int) :: ws) ({ frames := 0, cells := 0, slots := 0, locals := 0 } : Room)) (fun A_ U => A_ = #[(.ref t), (.ref d), (.int (-1394125654 : Int32))] ∧ Z.Warmed39 U.vm ∧ U.heap = h0) (fun _ _ _ _ _ => True) (fun _ U o_ U' => ∃ v_ L_, o_ = .returned v_ ∧ Q_find6 Z t d sl ks h0 n0 v_ U'.heap L_ ∧ FrameEnd U o_ U' L_ ({ frames := 0, cells := 0, slots := 0, locals := 0 } : Room).cells ({ frames := 0, cells := 0, slots := 0, locals := 0 } : Room).slots) := by
  refine MetFree.of_bodySF (plainFor_of_name pn_2) hisR ?_
  intro p e s m args below meth c s₁ Bd hml0 hP hK
  obtain ⟨rfl, hZ, hh⟩ := hP
  have hx := Bd.exec
  have hby := Bd.bytes
  have hml : c.maxLocals = 7 := hml0
  have hown : s.vm.findClass S1 = some m.cls := findClass_of_methodNamed Bd.named
  have hnm := (name_of_methodNamed Bd.named Bd.method).1
  have hret := Bd.returns
  have X0 : Stand p l e ({ frames := 0, cells := 0, slots := 0, locals := 0 } : Room) s m #[(.ref t), (.ref d), (.int (-1394125654 : Int32))] below meth c s₁ [] 0 0 := Stand.of_body Bd
  have e0 : s₁.heap = h0 := by rw [← hh, Bd.state]; rfl
  have N0 := Fr.nil n0
  have pre0 : ∀ t_, Sp p e below s₁ (mkF m 0 #[.val (.ref t), .val (.ref d), .val (.int (-1394125654 : Int32)), .unset, .unset, .unset, .unset] []) t_ → Sp p e below s₁ (entryFrame m #[(.ref t), (.ref d), (.int (-1394125654 : Int32))] 7) t_ := fun t_ k_ => castTop (ef_15_RRI m t d (-1394125654 : Int32)) k_
  obtain ⟨Tf1, Xf1, ef1, stf1⟩ := getF X0 hx hZ hown (host := "") (Or.inl (tw hw 11 rfl)) Via.refl e0 f0 (g := (mkF m 1 #[.val (.ref t), .val (.ref d), .val (.int (-1394125654 : Int32)), .unset, .unset, .unset, .unset] [(.ref t)])) rfl rfl (hb hby d15_1)
  obtain ⟨clv2, Arv2, qv2, Sv2, Nv2, Hv2, Gv2⟩ := id f1
  obtain ⟨Tf3, Xf3, ef3, stf3⟩ := getF Xf1 hx hZ hown (host := "") (Or.inl (tw hw 11 rfl)) Via.refl ef1 f0 (g := (mkF m 14 #[.val (.ref t), .val (.ref d), .val (.int (-1394125654 : Int32)), .val (.int (15 : Int32)), .val (.int (10 : Int32)), .unset, .unset] [(.ref t)])) rfl rfl (hb hby d15_14)
  have in4 : ¬ ((10 : Int32) < 0 ∨ clv2.slots.size ≤ ((10 : Int32)).toNatClampNeg) := inb_of Sv2 ⟨by decide, by decide⟩
  have atin4 : clv2.slots[((10 : Int32)).toNatClampNeg]? = some (.long (0 : Int64)) := Has.at Hv2 in4 rfl
  obtain ⟨fs, hlv, hrun, hended, hW, hsame⟩ := Xf3.leave (v := some (.int (10 : Int32))) (fun h => by rw [hret] at h; cases h)
  refine ⟨_, _, pre0 _ ?_, hrun, hended, _, _, rfl, ?_, ⟨_, rfl⟩, hW, hsame.mono (by decide) (by decide)⟩
  · refine XS.aloadN X0.here hx rfl (hb hby d15_0) rfl rfl ?_
    show Sp p e below s₁ (mkF m 1 #[.val (.ref t), .val (.ref d), .val (.int (-1394125654 : Int32)), .unset, .unset, .unset, .unset] [(.ref t)]) _
    refine stf1 _ ?_
    show Sp p e below Tf1 (mkF m 4 #[.val (.ref t), .val (.ref d), .val (.int (-1394125654 : Int32)), .unset, .unset, .unset, .unset] [(.ref sl)]) _
    refine Xf1.arraylength hx (own_eq ef1 Arv2.1) (State.isArrayOf_alike hZ.alike Arv2.2.1) (g := (mkF m 4 #[.val (.ref t), .val (.ref d), .val (.int (-1394125654 : Int32)), .unset, .unset, .unset, .unset] [(.ref sl)])) rfl rfl (hb hby d15_4) _ ?_
    rw [len_of Sv2 Nv2]
    show Sp p e below Tf1 (mkF m 5 #[.val (.ref t), .val (.ref d), .val (.int (-1394125654 : Int32)), .unset, .unset, .unset, .unset] [(.int (16 : Int32))]) _
    refine XS.iconst Xf1.here hx rfl (hb hby d15_5) ?_
    refine XS.isub Xf1.here hx rfl (hb hby d15_6) rfl ?_
    refine XS.istoreN Xf1.here hx rfl (hb hby d15_7) rfl (l' := #[.val (.ref t), .val (.ref d), .val (.int (-1394125654 : Int32)), .val (.int (15 : Int32)), .unset, .unset, .unset]) rfl ?_
    refine XS.iloadN Xf1.here hx rfl (hb hby d15_8) rfl ?_
    refine XS.iloadN Xf1.here hx rfl (hb hby d15_9) rfl ?_
    refine XS.iand Xf1.here hx rfl (hb hby d15_10) rfl ?_
    refine XS.istore Xf1.here hx rfl (hb hby d15_11) rfl (l' := #[.val (.ref t), .val (.ref d), .val (.int (-1394125654 : Int32)), .val (.int (15 : Int32)), .val (.int (10 : Int32)), .unset, .unset]) rfl ?_
    refine XS.aloadN Xf1.here hx rfl (hb hby d15_13) rfl rfl ?_
    refine stf3 _ ?_
    refine XS.iload Xf3.here hx rfl (hb hby d15_17) rfl ?_
    show Sp p e below Tf3 (mkF m 19 #[.val (.ref t), .val (.ref d), .val (.int (-1394125654 : Int32)), .val (.int (15 : Int32)), .val (.int (10 : Int32)), .unset, .unset] [(.int (10 : Int32)), (.ref sl)]) _
    refine Xf3.laload hx (j := (10 : Int32)) (v := (.long (0 : Int64))) (own_eq ef3 Arv2.1) (State.isArrayOf_alike hZ.alike Arv2.2.1) Arv2.2.2 in4 atin4 (g := (mkF m 19 #[.val (.ref t), .val (.ref d), .val (.int (-1394125654 : Int32)), .val (.int (15 : Int32)), .val (.int (10 : Int32)), .unset, .unset] [(.int (10 : Int32)), (.ref sl)])) rfl rfl (hb hby d15_19) _ ?_
    show Sp p e below Tf3 (mkF m 20 #[.val (.ref t), .val (.ref d), .val (.int (-1394125654 : Int32)), .val (.int (15 : Int32)), .val (.int (10 : Int32)), .unset, .unset] [(.long (0 : Int64))]) _
    refine XS.lconst Xf3.here hx rfl (hb hby d15_20) ?_
    refine XS.lcmp Xf3.here hx rfl (hb hby d15_21) rfl ?_
    refine XS.ifYes Xf3.here hx rfl (pc0 := 22) (pc' := 71) rfl (hb hby d15_22) rfl ((if0 _ _).trans (teq (by decide : (0 : Int32) = (0 : Int32))).1) (by decide) (by decide) ?_
    refine XS.iload Xf3.here hx rfl (hb hby d15_71) rfl ?_
    show Sp p e below Tf3 (mkF m 73 #[.val (.ref t), .val (.ref d), .val (.int (-1394125654 : Int32)), .val (.int (15 : Int32)), .val (.int (10 : Int32)), .unset, .unset] [(.int (10 : Int32))]) _
    exact retI Xf3 hx hret (hb hby d15_73) hlv
  · show Q_find6 Z t d sl ks h0 n0 _ Tf3.heap _
    rw [ef3]
    exact ⟨rfl, N0, rfl⟩
def Q_find7 (Z : State) (t : Addr) (d : Addr) (sl : Addr) (ks : ClassId) (h0 : Heap) (n0 : Nat) (v : Option Value) (h : Heap) (L : List Loc) : Prop := v = some (.int (1 : Int32)) ∧ Fr n0 L ∧ h = h0
set_option maxRecDepth 65536 in
set_option maxHeartbeats 40000000 in
theorem rm_find7 (l : Launch) (Z : State) (a0 : Array Value) (hw : ∀ d ∈ tables_1, d.before a0 Z = true) (ws : List Jvm.Cond) (t : Addr) (d : Addr) (sl : Addr) (ks : ClassId) (h0 : Heap) (n0 : Nat) (Z0 : n0 ≤ h0.size) (O0 : Old Z n0 h0) (f0 : Fld Z h0 t S1 "slots" "[J" (.ref sl)) (f1 : Arv Z h0 sl ks .long (16 : Int32) [(.long (1796898511443197958 : Int64)), (.long (0 : Int64)), (.long (0 : Int64)), (.long (0 : Int64)), (.long (0 : Int64)), (.long (3719577833094250501 : Int64)), (.long (0 : Int64)), (.long (0 : Int64)), (.long (0 : Int64)), (.long (0 : Int64)), (.long (-5987724090444611577 : Int64)), (.long (0 : Int64)), (.long (-2306841795268444158 : Int64)), (.long (1808655176962146305 : Int64)), (.long (-2839092971725389821 : Int64)), (.long (1750739909502566404 : Int64))] (.long (0 : Int64))) :
    MetFree l Y7 (head1 (Jvm.Cond.code Y7 prog_57_method_8_code 7 (some .int) :: ws) ({ frames := 0, cells := 0, slots := 0, locals := 0 } : Room)) (fun A_ U => A_ = #[(.ref t), (.ref d), (.int (-944773026 : Int32))] ∧ Z.Warmed39 U.vm ∧ U.heap = h0) (fun _ _ _ _ _ => True) (fun _ U o_ U' => ∃ v_ L_, o_ = .returned v_ ∧ Q_find7 Z t d sl ks h0 n0 v_ U'.heap L_ ∧ FrameEnd U o_ U' L_ ({ frames := 0, cells := 0, slots := 0, locals := 0 } : Room).cells ({ frames := 0, cells := 0, slots := 0, locals := 0 } : Room).slots) := by
  refine MetFree.of_bodySF (plainFor_of_name pn_2) hisR ?_
  intro p e s m args below meth c s₁ Bd hml0 hP hK
  obtain ⟨rfl, hZ, hh⟩ := hP
  have hx := Bd.exec
  have hby := Bd.bytes
  have hml : c.maxLocals = 7 := hml0
  have hown : s.vm.findClass S1 = some m.cls := findClass_of_methodNamed Bd.named
  have hnm := (name_of_methodNamed Bd.named Bd.method).1
  have hret := Bd.returns
  have X0 : Stand p l e ({ frames := 0, cells := 0, slots := 0, locals := 0 } : Room) s m #[(.ref t), (.ref d), (.int (-944773026 : Int32))] below meth c s₁ [] 0 0 := Stand.of_body Bd
  have e0 : s₁.heap = h0 := by rw [← hh, Bd.state]; rfl
  have N0 := Fr.nil n0
  have pre0 : ∀ t_, Sp p e below s₁ (mkF m 0 #[.val (.ref t), .val (.ref d), .val (.int (-944773026 : Int32)), .unset, .unset, .unset, .unset] []) t_ → Sp p e below s₁ (entryFrame m #[(.ref t), (.ref d), (.int (-944773026 : Int32))] 7) t_ := fun t_ k_ => castTop (ef_15_RRI m t d (-944773026 : Int32)) k_
  obtain ⟨Tf1, Xf1, ef1, stf1⟩ := getF X0 hx hZ hown (host := "") (Or.inl (tw hw 11 rfl)) Via.refl e0 f0 (g := (mkF m 1 #[.val (.ref t), .val (.ref d), .val (.int (-944773026 : Int32)), .unset, .unset, .unset, .unset] [(.ref t)])) rfl rfl (hb hby d15_1)
  obtain ⟨clv2, Arv2, qv2, Sv2, Nv2, Hv2, Gv2⟩ := id f1
  obtain ⟨Tf3, Xf3, ef3, stf3⟩ := getF Xf1 hx hZ hown (host := "") (Or.inl (tw hw 11 rfl)) Via.refl ef1 f0 (g := (mkF m 14 #[.val (.ref t), .val (.ref d), .val (.int (-944773026 : Int32)), .val (.int (15 : Int32)), .val (.int (14 : Int32)), .unset, .unset] [(.ref t)])) rfl rfl (hb hby d15_14)
  have in4 : ¬ ((14 : Int32) < 0 ∨ clv2.slots.size ≤ ((14 : Int32)).toNatClampNeg) := inb_of Sv2 ⟨by decide, by decide⟩
  have atin4 : clv2.slots[((14 : Int32)).toNatClampNeg]? = some (.long (-2839092971725389821 : Int64)) := Has.at Hv2 in4 rfl
  obtain ⟨Tf5, Xf5, ef5, stf5⟩ := getF Xf3 hx hZ hown (host := "") (Or.inl (tw hw 11 rfl)) Via.refl ef3 f0 (g := (mkF m 26 #[.val (.ref t), .val (.ref d), .val (.int (-944773026 : Int32)), .val (.int (15 : Int32)), .val (.int (14 : Int32)), .unset, .unset] [(.ref t)])) rfl rfl (hb hby d15_26)
  have in6 : ¬ ((14 : Int32) < 0 ∨ clv2.slots.size ≤ ((14 : Int32)).toNatClampNeg) := inb_of Sv2 ⟨by decide, by decide⟩
  have atin6 : clv2.slots[((14 : Int32)).toNatClampNeg]? = some (.long (-2839092971725389821 : Int64)) := Has.at Hv2 in6 rfl
  obtain ⟨Tf7, Xf7, ef7, stf7⟩ := getF Xf5 hx hZ hown (host := "") (Or.inl (tw hw 11 rfl)) Via.refl ef5 f0 (g := (mkF m 14 #[.val (.ref t), .val (.ref d), .val (.int (-944773026 : Int32)), .val (.int (15 : Int32)), .val (.int (15 : Int32)), .val (.long (-2839092971725389821 : Int64)), .second] [(.ref t)])) rfl rfl (hb hby d15_14)
  have in8 : ¬ ((15 : Int32) < 0 ∨ clv2.slots.size ≤ ((15 : Int32)).toNatClampNeg) := inb_of Sv2 ⟨by decide, by decide⟩
  have atin8 : clv2.slots[((15 : Int32)).toNatClampNeg]? = some (.long (1750739909502566404 : Int64)) := Has.at Hv2 in8 rfl
  obtain ⟨Tf9, Xf9, ef9, stf9⟩ := getF Xf7 hx hZ hown (host := "") (Or.inl (tw hw 11 rfl)) Via.refl ef7 f0 (g := (mkF m 26 #[.val (.ref t), .val (.ref d), .val (.int (-944773026 : Int32)), .val (.int (15 : Int32)), .val (.int (15 : Int32)), .val (.long (-2839092971725389821 : Int64)), .second] [(.ref t)])) rfl rfl (hb hby d15_26)
  have in10 : ¬ ((15 : Int32) < 0 ∨ clv2.slots.size ≤ ((15 : Int32)).toNatClampNeg) := inb_of Sv2 ⟨by decide, by decide⟩
  have atin10 : clv2.slots[((15 : Int32)).toNatClampNeg]? = some (.long (1750739909502566404 : Int64)) := Has.at Hv2 in10 rfl
  obtain ⟨Tf11, Xf11, ef11, stf11⟩ := getF Xf9 hx hZ hown (host := "") (Or.inl (tw hw 11 rfl)) Via.refl ef9 f0 (g := (mkF m 14 #[.val (.ref t), .val (.ref d), .val (.int (-944773026 : Int32)), .val (.int (15 : Int32)), .val (.int (0 : Int32)), .val (.long (1750739909502566404 : Int64)), .second] [(.ref t)])) rfl rfl (hb hby d15_14)
  have in12 : ¬ ((0 : Int32) < 0 ∨ clv2.slots.size ≤ ((0 : Int32)).toNatClampNeg) := inb_of Sv2 ⟨by decide, by decide⟩
  have atin12 : clv2.slots[((0 : Int32)).toNatClampNeg]? = some (.long (1796898511443197958 : Int64)) := Has.at Hv2 in12 rfl
  obtain ⟨Tf13, Xf13, ef13, stf13⟩ := getF Xf11 hx hZ hown (host := "") (Or.inl (tw hw 11 rfl)) Via.refl ef11 f0 (g := (mkF m 26 #[.val (.ref t), .val (.ref d), .val (.int (-944773026 : Int32)), .val (.int (15 : Int32)), .val (.int (0 : Int32)), .val (.long (1750739909502566404 : Int64)), .second] [(.ref t)])) rfl rfl (hb hby d15_26)
  have in14 : ¬ ((0 : Int32) < 0 ∨ clv2.slots.size ≤ ((0 : Int32)).toNatClampNeg) := inb_of Sv2 ⟨by decide, by decide⟩
  have atin14 : clv2.slots[((0 : Int32)).toNatClampNeg]? = some (.long (1796898511443197958 : Int64)) := Has.at Hv2 in14 rfl
  obtain ⟨Tf15, Xf15, ef15, stf15⟩ := getF Xf13 hx hZ hown (host := "") (Or.inl (tw hw 11 rfl)) Via.refl ef13 f0 (g := (mkF m 14 #[.val (.ref t), .val (.ref d), .val (.int (-944773026 : Int32)), .val (.int (15 : Int32)), .val (.int (1 : Int32)), .val (.long (1796898511443197958 : Int64)), .second] [(.ref t)])) rfl rfl (hb hby d15_14)
  have in16 : ¬ ((1 : Int32) < 0 ∨ clv2.slots.size ≤ ((1 : Int32)).toNatClampNeg) := inb_of Sv2 ⟨by decide, by decide⟩
  have atin16 : clv2.slots[((1 : Int32)).toNatClampNeg]? = some (.long (0 : Int64)) := Has.at Hv2 in16 rfl
  obtain ⟨fs, hlv, hrun, hended, hW, hsame⟩ := Xf15.leave (v := some (.int (1 : Int32))) (fun h => by rw [hret] at h; cases h)
  refine ⟨_, _, pre0 _ ?_, hrun, hended, _, _, rfl, ?_, ⟨_, rfl⟩, hW, hsame.mono (by decide) (by decide)⟩
  · refine XS.aloadN X0.here hx rfl (hb hby d15_0) rfl rfl ?_
    show Sp p e below s₁ (mkF m 1 #[.val (.ref t), .val (.ref d), .val (.int (-944773026 : Int32)), .unset, .unset, .unset, .unset] [(.ref t)]) _
    refine stf1 _ ?_
    show Sp p e below Tf1 (mkF m 4 #[.val (.ref t), .val (.ref d), .val (.int (-944773026 : Int32)), .unset, .unset, .unset, .unset] [(.ref sl)]) _
    refine Xf1.arraylength hx (own_eq ef1 Arv2.1) (State.isArrayOf_alike hZ.alike Arv2.2.1) (g := (mkF m 4 #[.val (.ref t), .val (.ref d), .val (.int (-944773026 : Int32)), .unset, .unset, .unset, .unset] [(.ref sl)])) rfl rfl (hb hby d15_4) _ ?_
    rw [len_of Sv2 Nv2]
    show Sp p e below Tf1 (mkF m 5 #[.val (.ref t), .val (.ref d), .val (.int (-944773026 : Int32)), .unset, .unset, .unset, .unset] [(.int (16 : Int32))]) _
    refine XS.iconst Xf1.here hx rfl (hb hby d15_5) ?_
    refine XS.isub Xf1.here hx rfl (hb hby d15_6) rfl ?_
    refine XS.istoreN Xf1.here hx rfl (hb hby d15_7) rfl (l' := #[.val (.ref t), .val (.ref d), .val (.int (-944773026 : Int32)), .val (.int (15 : Int32)), .unset, .unset, .unset]) rfl ?_
    refine XS.iloadN Xf1.here hx rfl (hb hby d15_8) rfl ?_
    refine XS.iloadN Xf1.here hx rfl (hb hby d15_9) rfl ?_
    refine XS.iand Xf1.here hx rfl (hb hby d15_10) rfl ?_
    refine XS.istore Xf1.here hx rfl (hb hby d15_11) rfl (l' := #[.val (.ref t), .val (.ref d), .val (.int (-944773026 : Int32)), .val (.int (15 : Int32)), .val (.int (14 : Int32)), .unset, .unset]) rfl ?_
    refine XS.aloadN Xf1.here hx rfl (hb hby d15_13) rfl rfl ?_
    refine stf3 _ ?_
    refine XS.iload Xf3.here hx rfl (hb hby d15_17) rfl ?_
    show Sp p e below Tf3 (mkF m 19 #[.val (.ref t), .val (.ref d), .val (.int (-944773026 : Int32)), .val (.int (15 : Int32)), .val (.int (14 : Int32)), .unset, .unset] [(.int (14 : Int32)), (.ref sl)]) _
    refine Xf3.laload hx (j := (14 : Int32)) (v := (.long (-2839092971725389821 : Int64))) (own_eq ef3 Arv2.1) (State.isArrayOf_alike hZ.alike Arv2.2.1) Arv2.2.2 in4 atin4 (g := (mkF m 19 #[.val (.ref t), .val (.ref d), .val (.int (-944773026 : Int32)), .val (.int (15 : Int32)), .val (.int (14 : Int32)), .unset, .unset] [(.int (14 : Int32)), (.ref sl)])) rfl rfl (hb hby d15_19) _ ?_
    show Sp p e below Tf3 (mkF m 20 #[.val (.ref t), .val (.ref d), .val (.int (-944773026 : Int32)), .val (.int (15 : Int32)), .val (.int (14 : Int32)), .unset, .unset] [(.long (-2839092971725389821 : Int64))]) _
    refine XS.lconst Xf3.here hx rfl (hb hby d15_20) ?_
    refine XS.lcmp Xf3.here hx rfl (hb hby d15_21) rfl ?_
    refine XS.ifNo Xf3.here hx rfl (hb hby d15_22) rfl ((if0 _ _).trans (feq (by decide : ¬ ((-1 : Int32) = (0 : Int32)))).1) ?_
    refine XS.aloadN Xf3.here hx rfl (hb hby d15_25) rfl rfl ?_
    refine stf5 _ ?_
    refine XS.iload Xf5.here hx rfl (hb hby d15_29) rfl ?_
    show Sp p e below Tf5 (mkF m 31 #[.val (.ref t), .val (.ref d), .val (.int (-944773026 : Int32)), .val (.int (15 : Int32)), .val (.int (14 : Int32)), .unset, .unset] [(.int (14 : Int32)), (.ref sl)]) _
    refine Xf5.laload hx (j := (14 : Int32)) (v := (.long (-2839092971725389821 : Int64))) (own_eq ef5 Arv2.1) (State.isArrayOf_alike hZ.alike Arv2.2.1) Arv2.2.2 in6 atin6 (g := (mkF m 31 #[.val (.ref t), .val (.ref d), .val (.int (-944773026 : Int32)), .val (.int (15 : Int32)), .val (.int (14 : Int32)), .unset, .unset] [(.int (14 : Int32)), (.ref sl)])) rfl rfl (hb hby d15_31) _ ?_
    show Sp p e below Tf5 (mkF m 32 #[.val (.ref t), .val (.ref d), .val (.int (-944773026 : Int32)), .val (.int (15 : Int32)), .val (.int (14 : Int32)), .unset, .unset] [(.long (-2839092971725389821 : Int64))]) _
    refine XS.lstore Xf5.here hx rfl (hb hby d15_32) rfl (l' := #[.val (.ref t), .val (.ref d), .val (.int (-944773026 : Int32)), .val (.int (15 : Int32)), .val (.int (14 : Int32)), .val (.long (-2839092971725389821 : Int64)), .second]) rfl ?_
    refine XS.lload Xf5.here hx rfl (hb hby d15_34) rfl ?_
    refine XS.bipush Xf5.here hx rfl (hb hby d15_36) ?_
    refine XS.lushr Xf5.here hx rfl (hb hby d15_38) rfl ?_
    refine XS.l2i Xf5.here hx rfl (hb hby d15_39) rfl ?_
    refine XS.iloadN Xf5.here hx rfl (hb hby d15_40) rfl ?_
    refine XS.icmpYes Xf5.here hx rfl (pc0 := 41) (pc' := 60) rfl (hb hby d15_41) rfl (feq (by decide : ¬ ((-661027844 : Int32) = (-944773026 : Int32)))).2 (by decide) (by decide) ?_
    refine XS.iload Xf5.here hx rfl (hb hby d15_60) rfl ?_
    refine XS.iconst Xf5.here hx rfl (hb hby d15_62) ?_
    refine XS.iadd Xf5.here hx rfl (hb hby d15_63) rfl ?_
    refine XS.iloadN Xf5.here hx rfl (hb hby d15_64) rfl ?_
    refine XS.iand Xf5.here hx rfl (hb hby d15_65) rfl ?_
    refine XS.istore Xf5.here hx rfl (hb hby d15_66) rfl (l' := #[.val (.ref t), .val (.ref d), .val (.int (-944773026 : Int32)), .val (.int (15 : Int32)), .val (.int (15 : Int32)), .val (.long (-2839092971725389821 : Int64)), .second]) rfl ?_
    refine XS.goto Xf5.here hx rfl (pc0 := 68) (pc' := 13) rfl (hb hby d15_68) (by decide) (by decide) ?_
    refine XS.aloadN Xf5.here hx rfl (hb hby d15_13) rfl rfl ?_
    refine stf7 _ ?_
    refine XS.iload Xf7.here hx rfl (hb hby d15_17) rfl ?_
    show Sp p e below Tf7 (mkF m 19 #[.val (.ref t), .val (.ref d), .val (.int (-944773026 : Int32)), .val (.int (15 : Int32)), .val (.int (15 : Int32)), .val (.long (-2839092971725389821 : Int64)), .second] [(.int (15 : Int32)), (.ref sl)]) _
    refine Xf7.laload hx (j := (15 : Int32)) (v := (.long (1750739909502566404 : Int64))) (own_eq ef7 Arv2.1) (State.isArrayOf_alike hZ.alike Arv2.2.1) Arv2.2.2 in8 atin8 (g := (mkF m 19 #[.val (.ref t), .val (.ref d), .val (.int (-944773026 : Int32)), .val (.int (15 : Int32)), .val (.int (15 : Int32)), .val (.long (-2839092971725389821 : Int64)), .second] [(.int (15 : Int32)), (.ref sl)])) rfl rfl (hb hby d15_19) _ ?_
    show Sp p e below Tf7 (mkF m 20 #[.val (.ref t), .val (.ref d), .val (.int (-944773026 : Int32)), .val (.int (15 : Int32)), .val (.int (15 : Int32)), .val (.long (-2839092971725389821 : Int64)), .second] [(.long (1750739909502566404 : Int64))]) _
    refine XS.lconst Xf7.here hx rfl (hb hby d15_20) ?_
    refine XS.lcmp Xf7.here hx rfl (hb hby d15_21) rfl ?_
    refine XS.ifNo Xf7.here hx rfl (hb hby d15_22) rfl ((if0 _ _).trans (feq (by decide : ¬ ((1 : Int32) = (0 : Int32)))).1) ?_
    refine XS.aloadN Xf7.here hx rfl (hb hby d15_25) rfl rfl ?_
    refine stf9 _ ?_
    refine XS.iload Xf9.here hx rfl (hb hby d15_29) rfl ?_
    show Sp p e below Tf9 (mkF m 31 #[.val (.ref t), .val (.ref d), .val (.int (-944773026 : Int32)), .val (.int (15 : Int32)), .val (.int (15 : Int32)), .val (.long (-2839092971725389821 : Int64)), .second] [(.int (15 : Int32)), (.ref sl)]) _
    refine Xf9.laload hx (j := (15 : Int32)) (v := (.long (1750739909502566404 : Int64))) (own_eq ef9 Arv2.1) (State.isArrayOf_alike hZ.alike Arv2.2.1) Arv2.2.2 in10 atin10 (g := (mkF m 31 #[.val (.ref t), .val (.ref d), .val (.int (-944773026 : Int32)), .val (.int (15 : Int32)), .val (.int (15 : Int32)), .val (.long (-2839092971725389821 : Int64)), .second] [(.int (15 : Int32)), (.ref sl)])) rfl rfl (hb hby d15_31) _ ?_
    show Sp p e below Tf9 (mkF m 32 #[.val (.ref t), .val (.ref d), .val (.int (-944773026 : Int32)), .val (.int (15 : Int32)), .val (.int (15 : Int32)), .val (.long (-2839092971725389821 : Int64)), .second] [(.long (1750739909502566404 : Int64))]) _
    refine XS.lstore Xf9.here hx rfl (hb hby d15_32) rfl (l' := #[.val (.ref t), .val (.ref d), .val (.int (-944773026 : Int32)), .val (.int (15 : Int32)), .val (.int (15 : Int32)), .val (.long (1750739909502566404 : Int64)), .second]) rfl ?_
    refine XS.lload Xf9.here hx rfl (hb hby d15_34) rfl ?_
    refine XS.bipush Xf9.here hx rfl (hb hby d15_36) ?_
    refine XS.lushr Xf9.here hx rfl (hb hby d15_38) rfl ?_
    refine XS.l2i Xf9.here hx rfl (hb hby d15_39) rfl ?_
    refine XS.iloadN Xf9.here hx rfl (hb hby d15_40) rfl ?_
    refine XS.icmpYes Xf9.here hx rfl (pc0 := 41) (pc' := 60) rfl (hb hby d15_41) rfl (feq (by decide : ¬ ((407625900 : Int32) = (-944773026 : Int32)))).2 (by decide) (by decide) ?_
    refine XS.iload Xf9.here hx rfl (hb hby d15_60) rfl ?_
    refine XS.iconst Xf9.here hx rfl (hb hby d15_62) ?_
    refine XS.iadd Xf9.here hx rfl (hb hby d15_63) rfl ?_
    refine XS.iloadN Xf9.here hx rfl (hb hby d15_64) rfl ?_
    refine XS.iand Xf9.here hx rfl (hb hby d15_65) rfl ?_
    refine XS.istore Xf9.here hx rfl (hb hby d15_66) rfl (l' := #[.val (.ref t), .val (.ref d), .val (.int (-944773026 : Int32)), .val (.int (15 : Int32)), .val (.int (0 : Int32)), .val (.long (1750739909502566404 : Int64)), .second]) rfl ?_
    refine XS.goto Xf9.here hx rfl (pc0 := 68) (pc' := 13) rfl (hb hby d15_68) (by decide) (by decide) ?_
    refine XS.aloadN Xf9.here hx rfl (hb hby d15_13) rfl rfl ?_
    refine stf11 _ ?_
    refine XS.iload Xf11.here hx rfl (hb hby d15_17) rfl ?_
    show Sp p e below Tf11 (mkF m 19 #[.val (.ref t), .val (.ref d), .val (.int (-944773026 : Int32)), .val (.int (15 : Int32)), .val (.int (0 : Int32)), .val (.long (1750739909502566404 : Int64)), .second] [(.int (0 : Int32)), (.ref sl)]) _
    refine Xf11.laload hx (j := (0 : Int32)) (v := (.long (1796898511443197958 : Int64))) (own_eq ef11 Arv2.1) (State.isArrayOf_alike hZ.alike Arv2.2.1) Arv2.2.2 in12 atin12 (g := (mkF m 19 #[.val (.ref t), .val (.ref d), .val (.int (-944773026 : Int32)), .val (.int (15 : Int32)), .val (.int (0 : Int32)), .val (.long (1750739909502566404 : Int64)), .second] [(.int (0 : Int32)), (.ref sl)])) rfl rfl (hb hby d15_19) _ ?_
    show Sp p e below Tf11 (mkF m 20 #[.val (.ref t), .val (.ref d), .val (.int (-944773026 : Int32)), .val (.int (15 : Int32)), .val (.int (0 : Int32)), .val (.long (1750739909502566404 : Int64)), .second] [(.long (1796898511443197958 : Int64))]) _
    refine XS.lconst Xf11.here hx rfl (hb hby d15_20) ?_
    refine XS.lcmp Xf11.here hx rfl (hb hby d15_21) rfl ?_
    refine XS.ifNo Xf11.here hx rfl (hb hby d15_22) rfl ((if0 _ _).trans (feq (by decide : ¬ ((1 : Int32) = (0 : Int32)))).1) ?_
    refine XS.aloadN Xf11.here hx rfl (hb hby d15_25) rfl rfl ?_
    refine stf13 _ ?_
    refine XS.iload Xf13.here hx rfl (hb hby d15_29) rfl ?_
    show Sp p e below Tf13 (mkF m 31 #[.val (.ref t), .val (.ref d), .val (.int (-944773026 : Int32)), .val (.int (15 : Int32)), .val (.int (0 : Int32)), .val (.long (1750739909502566404 : Int64)), .second] [(.int (0 : Int32)), (.ref sl)]) _
    refine Xf13.laload hx (j := (0 : Int32)) (v := (.long (1796898511443197958 : Int64))) (own_eq ef13 Arv2.1) (State.isArrayOf_alike hZ.alike Arv2.2.1) Arv2.2.2 in14 atin14 (g := (mkF m 31 #[.val (.ref t), .val (.ref d), .val (.int (-944773026 : Int32)), .val (.int (15 : Int32)), .val (.int (0 : Int32)), .val (.long (1750739909502566404 : Int64)), .second] [(.int (0 : Int32)), (.ref sl)])) rfl rfl (hb hby d15_31) _ ?_
    show Sp p e below Tf13 (mkF m 32 #[.val (.ref t), .val (.ref d), .val (.int (-944773026 : Int32)), .val (.int (15 : Int32)), .val (.int (0 : Int32)), .val (.long (1750739909502566404 : Int64)), .second] [(.long (1796898511443197958 : Int64))]) _
    refine XS.lstore Xf13.here hx rfl (hb hby d15_32) rfl (l' := #[.val (.ref t), .val (.ref d), .val (.int (-944773026 : Int32)), .val (.int (15 : Int32)), .val (.int (0 : Int32)), .val (.long (1796898511443197958 : Int64)), .second]) rfl ?_
    refine XS.lload Xf13.here hx rfl (hb hby d15_34) rfl ?_
    refine XS.bipush Xf13.here hx rfl (hb hby d15_36) ?_
    refine XS.lushr Xf13.here hx rfl (hb hby d15_38) rfl ?_
    refine XS.l2i Xf13.here hx rfl (hb hby d15_39) rfl ?_
    refine XS.iloadN Xf13.here hx rfl (hb hby d15_40) rfl ?_
    refine XS.icmpYes Xf13.here hx rfl (pc0 := 41) (pc' := 60) rfl (hb hby d15_41) rfl (feq (by decide : ¬ ((418373037 : Int32) = (-944773026 : Int32)))).2 (by decide) (by decide) ?_
    refine XS.iload Xf13.here hx rfl (hb hby d15_60) rfl ?_
    refine XS.iconst Xf13.here hx rfl (hb hby d15_62) ?_
    refine XS.iadd Xf13.here hx rfl (hb hby d15_63) rfl ?_
    refine XS.iloadN Xf13.here hx rfl (hb hby d15_64) rfl ?_
    refine XS.iand Xf13.here hx rfl (hb hby d15_65) rfl ?_
    refine XS.istore Xf13.here hx rfl (hb hby d15_66) rfl (l' := #[.val (.ref t), .val (.ref d), .val (.int (-944773026 : Int32)), .val (.int (15 : Int32)), .val (.int (1 : Int32)), .val (.long (1796898511443197958 : Int64)), .second]) rfl ?_
    refine XS.goto Xf13.here hx rfl (pc0 := 68) (pc' := 13) rfl (hb hby d15_68) (by decide) (by decide) ?_
    refine XS.aloadN Xf13.here hx rfl (hb hby d15_13) rfl rfl ?_
    refine stf15 _ ?_
    refine XS.iload Xf15.here hx rfl (hb hby d15_17) rfl ?_
    show Sp p e below Tf15 (mkF m 19 #[.val (.ref t), .val (.ref d), .val (.int (-944773026 : Int32)), .val (.int (15 : Int32)), .val (.int (1 : Int32)), .val (.long (1796898511443197958 : Int64)), .second] [(.int (1 : Int32)), (.ref sl)]) _
    refine Xf15.laload hx (j := (1 : Int32)) (v := (.long (0 : Int64))) (own_eq ef15 Arv2.1) (State.isArrayOf_alike hZ.alike Arv2.2.1) Arv2.2.2 in16 atin16 (g := (mkF m 19 #[.val (.ref t), .val (.ref d), .val (.int (-944773026 : Int32)), .val (.int (15 : Int32)), .val (.int (1 : Int32)), .val (.long (1796898511443197958 : Int64)), .second] [(.int (1 : Int32)), (.ref sl)])) rfl rfl (hb hby d15_19) _ ?_
    show Sp p e below Tf15 (mkF m 20 #[.val (.ref t), .val (.ref d), .val (.int (-944773026 : Int32)), .val (.int (15 : Int32)), .val (.int (1 : Int32)), .val (.long (1796898511443197958 : Int64)), .second] [(.long (0 : Int64))]) _
    refine XS.lconst Xf15.here hx rfl (hb hby d15_20) ?_
    refine XS.lcmp Xf15.here hx rfl (hb hby d15_21) rfl ?_
    refine XS.ifYes Xf15.here hx rfl (pc0 := 22) (pc' := 71) rfl (hb hby d15_22) rfl ((if0 _ _).trans (teq (by decide : (0 : Int32) = (0 : Int32))).1) (by decide) (by decide) ?_
    refine XS.iload Xf15.here hx rfl (hb hby d15_71) rfl ?_
    show Sp p e below Tf15 (mkF m 73 #[.val (.ref t), .val (.ref d), .val (.int (-944773026 : Int32)), .val (.int (15 : Int32)), .val (.int (1 : Int32)), .val (.long (1796898511443197958 : Int64)), .second] [(.int (1 : Int32))]) _
    exact retI Xf15 hx hret (hb hby d15_73) hlv
  · show Q_find7 Z t d sl ks h0 n0 _ Tf15.heap _
    rw [ef15]
    exact ⟨rfl, N0, rfl⟩
theorem d19_0 : decode jdk_29_method_65_code 0 = .ok (.iload_n 0, 1) := by decide +kernel
theorem d19_1 : decode jdk_29_method_65_code 1 = .ok (.iload_n 1, 1) := by decide +kernel
theorem d19_2 : decode jdk_29_method_65_code 2 = .ok (.if_icmp .lt 7, 3) := by decide +kernel
theorem d19_5 : decode jdk_29_method_65_code 5 = .ok (.iload_n 0, 1) := by decide +kernel
theorem d19_6 : decode jdk_29_method_65_code 6 = .ok (.goto 4, 3) := by decide +kernel
theorem d19_9 : decode jdk_29_method_65_code 9 = .ok (.iload_n 1, 1) := by decide +kernel
theorem d19_10 : decode jdk_29_method_65_code 10 = .ok (.ireturn, 1) := by decide +kernel
theorem ef_19_II (m : MethodId) (x0 : Int32) (x1 : Int32) : entryFrame m #[(.int x0), (.int x1)] 2 = mkF m 0 #[.val (.int x0), .val (.int x1)] [] := by first | (simp [entryFrame, mkF, argsToLocals, Value.category]; done) | rfl
def Q_max (Z : State) (pp : Int32) (q : Int32) (r : Int32) (h0 : Heap) (n0 : Nat) (v : Option Value) (h : Heap) (L : List Loc) : Prop := v = some (.int r) ∧ Fr n0 L ∧ h = h0
set_option maxRecDepth 65536 in
set_option maxHeartbeats 40000000 in
theorem rm_max (l : Launch) (Z : State) (a0 : Array Value) (hw : ∀ d ∈ tables_1, d.before a0 Z = true) (ws : List Jvm.Cond) (pp : Int32) (q : Int32) (r : Int32) (h0 : Heap) (n0 : Nat) (Z0 : n0 ≤ h0.size) (O0 : Old Z n0 h0) (hres : r = if pp < q then q else pp) :
    MetFree l Y8 (head1 (Jvm.Cond.code Y8 jdk_29_method_65_code 2 (some .int) :: ws) ({ frames := 0, cells := 0, slots := 0, locals := 0 } : Room)) (fun A_ U => A_ = #[(.int pp), (.int q)] ∧ Z.Warmed39 U.vm ∧ U.heap = h0) (fun _ _ _ _ _ => True) (fun _ U o_ U' => ∃ v_ L_, o_ = .returned v_ ∧ Q_max Z pp q r h0 n0 v_ U'.heap L_ ∧ FrameEnd U o_ U' L_ ({ frames := 0, cells := 0, slots := 0, locals := 0 } : Room).cells ({ frames := 0, cells := 0, slots := 0, locals := 0 } : Room).slots) := by
  refine MetFree.of_bodySF (Jvm.Free.JP.mathPlain rfl (by decide +kernel)) hisR ?_
  intro p e s m args below meth c s₁ Bd hml0 hP hK
  obtain ⟨rfl, hZ, hh⟩ := hP
  have hx := Bd.exec
  have hby := Bd.bytes
  have hml : c.maxLocals = 2 := hml0
  have hown : s.vm.findClass "java/lang/Math" = some m.cls := findClass_of_methodNamed Bd.named
  have hnm := (name_of_methodNamed Bd.named Bd.method).1
  have hret := Bd.returns
  have X0 : Stand p l e ({ frames := 0, cells := 0, slots := 0, locals := 0 } : Room) s m #[(.int pp), (.int q)] below meth c s₁ [] 0 0 := Stand.of_body Bd
  have e0 : s₁.heap = h0 := by rw [← hh, Bd.state]; rfl
  have N0 := Fr.nil n0
  have pre0 : ∀ t_, Sp p e below s₁ (mkF m 0 #[.val (.int pp), .val (.int q)] []) t_ → Sp p e below s₁ (entryFrame m #[(.int pp), (.int q)] 2) t_ := fun t_ k_ => castTop (ef_19_II m pp q) k_
  have r1 : ∀ t_, Sp p e below s₁ (mkF m 2 #[.val (.int pp), .val (.int q)] [(.int q), (.int pp)]) t_ → Sp p e below s₁ (entryFrame m #[(.int pp), (.int q)] 2) t_ := by
    intro t_ k_
    refine pre0 _ ?_
    refine XS.iloadN X0.here hx rfl (hb hby d19_0) rfl ?_
    refine XS.iloadN X0.here hx rfl (hb hby d19_1) rfl ?_
    show Sp p e below s₁ (mkF m 2 #[.val (.int pp), .val (.int q)] [(.int q), (.int pp)]) _
    exact k_
  by_cases c2 : pp < q
  · obtain ⟨fs, hlv, hrun, hended, hW, hsame⟩ := X0.leave (v := some (.int q)) (fun h => by rw [hret] at h; cases h)
    refine ⟨_, _, r1 _ ?_, hrun, hended, _, _, rfl, ?_, ⟨_, rfl⟩, hW, hsame.mono (by decide) (by decide)⟩
    · refine XS.icmpYes X0.here hx rfl (pc0 := 2) (pc' := 9) rfl (hb hby d19_2) rfl (tlt c2).1 (by decide) (by decide) ?_
      show Sp p e below s₁ (mkF m 9 #[.val (.int pp), .val (.int q)] []) _
      refine XS.iloadN X0.here hx rfl (hb hby d19_9) rfl ?_
      show Sp p e below s₁ (mkF m 10 #[.val (.int pp), .val (.int q)] [(.int q)]) _
      exact retI X0 hx hret (hb hby d19_10) hlv
    · show Q_max Z pp q r h0 n0 _ s₁.heap _
      rw [e0]
      exact ⟨by rw [hres]; simp [c2], N0, rfl⟩
  · obtain ⟨fs, hlv, hrun, hended, hW, hsame⟩ := X0.leave (v := some (.int pp)) (fun h => by rw [hret] at h; cases h)
    refine ⟨_, _, r1 _ ?_, hrun, hended, _, _, rfl, ?_, ⟨_, rfl⟩, hW, hsame.mono (by decide) (by decide)⟩
    · refine XS.icmpNo X0.here hx rfl (hb hby d19_2) rfl (flt c2).1 ?_
      show Sp p e below s₁ (mkF m 5 #[.val (.int pp), .val (.int q)] []) _
      refine XS.iloadN X0.here hx rfl (hb hby d19_5) rfl ?_
      refine XS.goto X0.here hx rfl (pc0 := 6) (pc' := 10) rfl (hb hby d19_6) (by decide) (by decide) ?_
      show Sp p e below s₁ (mkF m 10 #[.val (.int pp), .val (.int q)] [(.int pp)]) _
      exact retI X0 hx hret (hb hby d19_10) hlv
    · show Q_max Z pp q r h0 n0 _ s₁.heap _
      rw [e0]
      exact ⟨by rw [hres]; simp [c2], N0, rfl⟩
theorem d17_0 : decode jdk_29_method_69_code 0 = .ok (.iload_n 0, 1) := by decide +kernel
theorem d17_1 : decode jdk_29_method_69_code 1 = .ok (.iload_n 1, 1) := by decide +kernel
theorem d17_2 : decode jdk_29_method_69_code 2 = .ok (.if_icmp .gt 7, 3) := by decide +kernel
theorem d17_5 : decode jdk_29_method_69_code 5 = .ok (.iload_n 0, 1) := by decide +kernel
theorem d17_6 : decode jdk_29_method_69_code 6 = .ok (.goto 4, 3) := by decide +kernel
theorem d17_9 : decode jdk_29_method_69_code 9 = .ok (.iload_n 1, 1) := by decide +kernel
theorem d17_10 : decode jdk_29_method_69_code 10 = .ok (.ireturn, 1) := by decide +kernel
theorem ef_17_II (m : MethodId) (x0 : Int32) (x1 : Int32) : entryFrame m #[(.int x0), (.int x1)] 2 = mkF m 0 #[.val (.int x0), .val (.int x1)] [] := by first | (simp [entryFrame, mkF, argsToLocals, Value.category]; done) | rfl
def Q_min (Z : State) (pp : Int32) (q : Int32) (r : Int32) (h0 : Heap) (n0 : Nat) (v : Option Value) (h : Heap) (L : List Loc) : Prop := v = some (.int r) ∧ Fr n0 L ∧ h = h0
set_option maxRecDepth 65536 in
set_option maxHeartbeats 40000000 in
theorem rm_min (l : Launch) (Z : State) (a0 : Array Value) (hw : ∀ d ∈ tables_1, d.before a0 Z = true) (ws : List Jvm.Cond) (pp : Int32) (q : Int32) (r : Int32) (h0 : Heap) (n0 : Nat) (Z0 : n0 ≤ h0.size) (O0 : Old Z n0 h0) (hres : r = if q < pp then q else pp) :
    MetFree l Y9 (head1 (Jvm.Cond.code Y9 jdk_29_method_69_code 2 (some .int) :: ws) ({ frames := 0, cells := 0, slots := 0, locals := 0 } : Room)) (fun A_ U => A_ = #[(.int pp), (.int q)] ∧ Z.Warmed39 U.vm ∧ U.heap = h0) (fun _ _ _ _ _ => True) (fun _ U o_ U' => ∃ v_ L_, o_ = .returned v_ ∧ Q_min Z pp q r h0 n0 v_ U'.heap L_ ∧ FrameEnd U o_ U' L_ ({ frames := 0, cells := 0, slots := 0, locals := 0 } : Room).cells ({ frames := 0, cells := 0, slots := 0, locals := 0 } : Room).slots) := by
  refine MetFree.of_bodySF (Jvm.Free.JP.mathPlain rfl (by decide +kernel)) hisR ?_
  intro p e s m args below meth c s₁ Bd hml0 hP hK
  obtain ⟨rfl, hZ, hh⟩ := hP
  have hx := Bd.exec
  have hby := Bd.bytes
  have hml : c.maxLocals = 2 := hml0
  have hown : s.vm.findClass "java/lang/Math" = some m.cls := findClass_of_methodNamed Bd.named
  have hnm := (name_of_methodNamed Bd.named Bd.method).1
  have hret := Bd.returns
  have X0 : Stand p l e ({ frames := 0, cells := 0, slots := 0, locals := 0 } : Room) s m #[(.int pp), (.int q)] below meth c s₁ [] 0 0 := Stand.of_body Bd
  have e0 : s₁.heap = h0 := by rw [← hh, Bd.state]; rfl
  have N0 := Fr.nil n0
  have pre0 : ∀ t_, Sp p e below s₁ (mkF m 0 #[.val (.int pp), .val (.int q)] []) t_ → Sp p e below s₁ (entryFrame m #[(.int pp), (.int q)] 2) t_ := fun t_ k_ => castTop (ef_17_II m pp q) k_
  have r1 : ∀ t_, Sp p e below s₁ (mkF m 2 #[.val (.int pp), .val (.int q)] [(.int q), (.int pp)]) t_ → Sp p e below s₁ (entryFrame m #[(.int pp), (.int q)] 2) t_ := by
    intro t_ k_
    refine pre0 _ ?_
    refine XS.iloadN X0.here hx rfl (hb hby d17_0) rfl ?_
    refine XS.iloadN X0.here hx rfl (hb hby d17_1) rfl ?_
    show Sp p e below s₁ (mkF m 2 #[.val (.int pp), .val (.int q)] [(.int q), (.int pp)]) _
    exact k_
  by_cases c2 : q < pp
  · obtain ⟨fs, hlv, hrun, hended, hW, hsame⟩ := X0.leave (v := some (.int q)) (fun h => by rw [hret] at h; cases h)
    refine ⟨_, _, r1 _ ?_, hrun, hended, _, _, rfl, ?_, ⟨_, rfl⟩, hW, hsame.mono (by decide) (by decide)⟩
    · refine XS.icmpYes X0.here hx rfl (pc0 := 2) (pc' := 9) rfl (hb hby d17_2) rfl (tlt c2).2.2.1 (by decide) (by decide) ?_
      show Sp p e below s₁ (mkF m 9 #[.val (.int pp), .val (.int q)] []) _
      refine XS.iloadN X0.here hx rfl (hb hby d17_9) rfl ?_
      show Sp p e below s₁ (mkF m 10 #[.val (.int pp), .val (.int q)] [(.int q)]) _
      exact retI X0 hx hret (hb hby d17_10) hlv
    · show Q_min Z pp q r h0 n0 _ s₁.heap _
      rw [e0]
      exact ⟨by rw [hres]; simp [c2], N0, rfl⟩
  · obtain ⟨fs, hlv, hrun, hended, hW, hsame⟩ := X0.leave (v := some (.int pp)) (fun h => by rw [hret] at h; cases h)
    refine ⟨_, _, r1 _ ?_, hrun, hended, _, _, rfl, ?_, ⟨_, rfl⟩, hW, hsame.mono (by decide) (by decide)⟩
    · refine XS.icmpNo X0.here hx rfl (hb hby d17_2) rfl (flt c2).2.2.1 ?_
      show Sp p e below s₁ (mkF m 5 #[.val (.int pp), .val (.int q)] []) _
      refine XS.iloadN X0.here hx rfl (hb hby d17_5) rfl ?_
      refine XS.goto X0.here hx rfl (pc0 := 6) (pc' := 10) rfl (hb hby d17_6) (by decide) (by decide) ?_
      show Sp p e below s₁ (mkF m 10 #[.val (.int pp), .val (.int q)] [(.int pp)]) _
      exact retI X0 hx hret (hb hby d17_10) hlv
    · show Q_min Z pp q r h0 n0 _ s₁.heap _
      rw [e0]
      exact ⟨by rw [hres]; simp [c2], N0, rfl⟩
theorem d16_0 : decode prog_57_method_10_code 0 = .ok (.aload_n 1, 1) := by decide +kernel
theorem d16_1 : decode prog_57_method_10_code 1 = .ok (.arraylength, 1) := by decide +kernel
theorem d16_2 : decode prog_57_method_10_code 2 = .ok (.ldc 95, 2) := by decide +kernel
theorem d16_4 : decode prog_57_method_10_code 4 = .ok (.aload_n 0, 1) := by decide +kernel
theorem d16_5 : decode prog_57_method_10_code 5 = .ok (.getfield 77, 3) := by decide +kernel
theorem d16_8 : decode prog_57_method_10_code 8 = .ok (.isub, 1) := by decide +kernel
theorem d16_9 : decode prog_57_method_10_code 9 = .ok (.if_icmp .le 13, 3) := by decide +kernel
theorem d16_22 : decode prog_57_method_10_code 22 = .ok (.iconst 0, 1) := by decide +kernel
theorem d16_23 : decode prog_57_method_10_code 23 = .ok (.istore_n 2, 1) := by decide +kernel
theorem d16_24 : decode prog_57_method_10_code 24 = .ok (.iload_n 2, 1) := by decide +kernel
theorem d16_25 : decode prog_57_method_10_code 25 = .ok (.aload_n 1, 1) := by decide +kernel
theorem d16_26 : decode prog_57_method_10_code 26 = .ok (.arraylength, 1) := by decide +kernel
theorem d16_27 : decode prog_57_method_10_code 27 = .ok (.if_icmp .ge 117, 3) := by decide +kernel
theorem d16_30 : decode prog_57_method_10_code 30 = .ok (.aload_n 0, 1) := by decide +kernel
theorem d16_31 : decode prog_57_method_10_code 31 = .ok (.getfield 77, 3) := by decide +kernel
theorem d16_34 : decode prog_57_method_10_code 34 = .ok (.bipush 16, 2) := by decide +kernel
theorem d16_36 : decode prog_57_method_10_code 36 = .ok (.iushr, 1) := by decide +kernel
theorem d16_37 : decode prog_57_method_10_code 37 = .ok (.istore_n 3, 1) := by decide +kernel
theorem d16_38 : decode prog_57_method_10_code 38 = .ok (.iload_n 3, 1) := by decide +kernel
theorem d16_39 : decode prog_57_method_10_code 39 = .ok (.aload_n 0, 1) := by decide +kernel
theorem d16_40 : decode prog_57_method_10_code 40 = .ok (.getfield 19, 3) := by decide +kernel
theorem d16_43 : decode prog_57_method_10_code 43 = .ok (.arraylength, 1) := by decide +kernel
theorem d16_44 : decode prog_57_method_10_code 44 = .ok (.if_icmp .ne 24, 3) := by decide +kernel
theorem d16_68 : decode prog_57_method_10_code 68 = .ok (.aload_n 0, 1) := by decide +kernel
theorem d16_69 : decode prog_57_method_10_code 69 = .ok (.getfield 19, 3) := by decide +kernel
theorem d16_72 : decode prog_57_method_10_code 72 = .ok (.iload_n 3, 1) := by decide +kernel
theorem d16_73 : decode prog_57_method_10_code 73 = .ok (.aaload, 1) := by decide +kernel
theorem d16_74 : decode prog_57_method_10_code 74 = .ok (.ifnonnull 13, 3) := by decide +kernel
theorem d16_77 : decode prog_57_method_10_code 77 = .ok (.aload_n 0, 1) := by decide +kernel
theorem d16_78 : decode prog_57_method_10_code 78 = .ok (.getfield 19, 3) := by decide +kernel
theorem d16_81 : decode prog_57_method_10_code 81 = .ok (.iload_n 3, 1) := by decide +kernel
theorem d16_82 : decode prog_57_method_10_code 82 = .ok (.ldc 85, 2) := by decide +kernel
theorem d16_84 : decode prog_57_method_10_code 84 = .ok (.newarray .byte, 2) := by decide +kernel
theorem d16_86 : decode prog_57_method_10_code 86 = .ok (.aastore, 1) := by decide +kernel
theorem d16_87 : decode prog_57_method_10_code 87 = .ok (.aload_n 0, 1) := by decide +kernel
theorem d16_88 : decode prog_57_method_10_code 88 = .ok (.getfield 77, 3) := by decide +kernel
theorem d16_91 : decode prog_57_method_10_code 91 = .ok (.ldc 84, 2) := by decide +kernel
theorem d16_93 : decode prog_57_method_10_code 93 = .ok (.iand, 1) := by decide +kernel
theorem d16_94 : decode prog_57_method_10_code 94 = .ok (.istore 4, 2) := by decide +kernel
theorem d16_96 : decode prog_57_method_10_code 96 = .ok (.aload_n 1, 1) := by decide +kernel
theorem d16_97 : decode prog_57_method_10_code 97 = .ok (.arraylength, 1) := by decide +kernel
theorem d16_98 : decode prog_57_method_10_code 98 = .ok (.iload_n 2, 1) := by decide +kernel
theorem d16_99 : decode prog_57_method_10_code 99 = .ok (.isub, 1) := by decide +kernel
theorem d16_100 : decode prog_57_method_10_code 100 = .ok (.ldc 85, 2) := by decide +kernel
theorem d16_102 : decode prog_57_method_10_code 102 = .ok (.iload 4, 2) := by decide +kernel
theorem d16_104 : decode prog_57_method_10_code 104 = .ok (.isub, 1) := by decide +kernel
theorem d16_105 : decode prog_57_method_10_code 105 = .ok (.invokestatic 86, 3) := by decide +kernel
theorem d16_108 : decode prog_57_method_10_code 108 = .ok (.istore 5, 2) := by decide +kernel
theorem d16_110 : decode prog_57_method_10_code 110 = .ok (.aload_n 1, 1) := by decide +kernel
theorem d16_111 : decode prog_57_method_10_code 111 = .ok (.iload_n 2, 1) := by decide +kernel
theorem d16_112 : decode prog_57_method_10_code 112 = .ok (.aload_n 0, 1) := by decide +kernel
theorem d16_113 : decode prog_57_method_10_code 113 = .ok (.getfield 19, 3) := by decide +kernel
theorem d16_116 : decode prog_57_method_10_code 116 = .ok (.iload_n 3, 1) := by decide +kernel
theorem d16_117 : decode prog_57_method_10_code 117 = .ok (.aaload, 1) := by decide +kernel
theorem d16_118 : decode prog_57_method_10_code 118 = .ok (.iload 4, 2) := by decide +kernel
theorem d16_120 : decode prog_57_method_10_code 120 = .ok (.iload 5, 2) := by decide +kernel
theorem d16_122 : decode prog_57_method_10_code 122 = .ok (.invokestatic 107, 3) := by decide +kernel
theorem d16_125 : decode prog_57_method_10_code 125 = .ok (.aload_n 0, 1) := by decide +kernel
theorem d16_126 : decode prog_57_method_10_code 126 = .ok (.dup, 1) := by decide +kernel
theorem d16_127 : decode prog_57_method_10_code 127 = .ok (.getfield 77, 3) := by decide +kernel
theorem d16_130 : decode prog_57_method_10_code 130 = .ok (.iload 5, 2) := by decide +kernel
theorem d16_132 : decode prog_57_method_10_code 132 = .ok (.iadd, 1) := by decide +kernel
theorem d16_133 : decode prog_57_method_10_code 133 = .ok (.putfield 77, 3) := by decide +kernel
theorem d16_136 : decode prog_57_method_10_code 136 = .ok (.iload_n 2, 1) := by decide +kernel
theorem d16_137 : decode prog_57_method_10_code 137 = .ok (.iload 5, 2) := by decide +kernel
theorem d16_139 : decode prog_57_method_10_code 139 = .ok (.iadd, 1) := by decide +kernel
theorem d16_140 : decode prog_57_method_10_code 140 = .ok (.istore_n 2, 1) := by decide +kernel
theorem d16_141 : decode prog_57_method_10_code 141 = .ok (.goto (-117), 3) := by decide +kernel
theorem d16_144 : decode prog_57_method_10_code 144 = .ok (.return_, 1) := by decide +kernel
theorem ef_16_RR (m : MethodId) (x0 : Addr) (x1 : Addr) : entryFrame m #[(.ref x0), (.ref x1)] 6 = mkF m 0 #[.val (.ref x0), .val (.ref x1), .unset, .unset, .unset, .unset] [] := by first | (simp [entryFrame, mkF, argsToLocals, Value.category]; done) | rfl
theorem pd__II_I : parseMethodDescriptor "(II)I" = some ⟨[.int, .int], some .int⟩ := by decide +kernel
def Q_store0 (Z : State) (t : Addr) (d : Addr) (kd : ClassId) (bl : Addr) (kbl : ClassId) (sl : Addr) (en : Addr) (h0 : Heap) (n0 : Nat) (v : Option Value) (h : Heap) (L : List Loc) : Prop := ∃ bk : Addr, ∃ kbk : ClassId, v = none ∧ Fr n0 L ∧ Keep h0 h [t, bl] ∧ h0.size ≤ bk ∧ Fld Z h t S1 "stored" "I" (.int (1 : Int32)) ∧ Fld Z h t S1 "blocks" "[[B" (.ref bl) ∧ Fld Z h t S1 "size" "I" (.int (0 : Int32)) ∧ Fld Z h t S1 "slots" "[J" (.ref sl) ∧ Fld Z h t S1 "ends" "[I" (.ref en) ∧ Arv Z h bl kbl (.array .byte) (1 : Int32) [(.ref bk)] .null ∧ Arv Z h bk kbk .byte (65536 : Int32) [(.int (97 : Int32)), (.int (0 : Int32)), (.int (0 : Int32)), (.int (0 : Int32)), (.int (0 : Int32)), (.int (0 : Int32)), (.int (0 : Int32)), (.int (0 : Int32))] (.int (0 : Int32)) ∧ Exa Z h bk "[B"
set_option maxRecDepth 65536 in
set_option maxHeartbeats 40000000 in
theorem rm_store0 (l : Launch) (Z : State) (a0 : Array Value) (hw : ∀ d ∈ tables_1, d.before a0 Z = true) (ws : List Jvm.Cond) (t : Addr) (d : Addr) (kd : ClassId) (bl : Addr) (kbl : ClassId) (sl : Addr) (en : Addr) (h0 : Heap) (n0 : Nat) (Z0 : n0 ≤ h0.size) (O0 : Old Z n0 h0) (f0 : Exa Z h0 t S1) (f1 : Fld Z h0 t S1 "stored" "I" (.int (0 : Int32))) (f2 : Fld Z h0 t S1 "blocks" "[[B" (.ref bl)) (f3 : Arv Z h0 d kd .byte (1 : Int32) [(.int (97 : Int32))] (.int (0 : Int32))) (f4 : Fld Z h0 t S1 "size" "I" (.int (0 : Int32))) (f5 : Fld Z h0 t S1 "slots" "[J" (.ref sl)) (f6 : Fld Z h0 t S1 "ends" "[I" (.ref en)) (f7 : Arv Z h0 bl kbl (.array .byte) (1 : Int32) [.null] .null) (f8 : OvrA Z kbl .byte "[B") (gt : n0 ≤ t) (gbl : n0 ≤ bl) (htb : t ≠ bl) (hdb : d ≠ bl) :
    MetFree l Y10 (head1 (Jvm.Cond.code Y10 prog_57_method_10_code 6 none :: ws) ({ frames := 1, cells := 1, slots := 65536, locals := 40 } : Room)) (fun A_ U => A_ = #[(.ref t), (.ref d)] ∧ Z.Warmed39 U.vm ∧ U.heap = h0) (fun _ _ _ _ _ => True) (fun _ U o_ U' => ∃ v_ L_, o_ = .returned v_ ∧ Q_store0 Z t d kd bl kbl sl en h0 n0 v_ U'.heap L_ ∧ FrameEnd U o_ U' L_ ({ frames := 1, cells := 1, slots := 65536, locals := 40 } : Room).cells ({ frames := 1, cells := 1, slots := 65536, locals := 40 } : Room).slots) := by
  refine MetFree.of_bodySF (plainFor_of_name pn_2) hisR ?_
  intro p e s m args below meth c s₁ Bd hml0 hP hK
  obtain ⟨rfl, hZ, hh⟩ := hP
  have hx := Bd.exec
  have hby := Bd.bytes
  have hml : c.maxLocals = 6 := hml0
  have hown : s.vm.findClass S1 = some m.cls := findClass_of_methodNamed Bd.named
  have hnm := (name_of_methodNamed Bd.named Bd.method).1
  have hret := Bd.returns
  have X0 : Stand p l e ({ frames := 1, cells := 1, slots := 65536, locals := 40 } : Room) s m #[(.ref t), (.ref d)] below meth c s₁ [] 0 0 := Stand.of_body Bd
  have e0 : s₁.heap = h0 := by rw [← hh, Bd.state]; rfl
  have N0 := Fr.nil n0
  have pre0 : ∀ t_, Sp p e below s₁ (mkF m 0 #[.val (.ref t), .val (.ref d), .unset, .unset, .unset, .unset] []) t_ → Sp p e below s₁ (entryFrame m #[(.ref t), (.ref d)] 6) t_ := fun t_ k_ => castTop (ef_16_RR m t d) k_
  obtain ⟨clv1, Arv1, qv1, Sv1, Nv1, Hv1, Gv1⟩ := id f3
  obtain ⟨Tf2, Xf2, ef2, stf2⟩ := getF X0 hx hZ hown (host := "") (Or.inl (tw hw 104 rfl)) Via.refl e0 f1 (g := (mkF m 5 #[.val (.ref t), .val (.ref d), .unset, .unset, .unset, .unset] [(.ref t), (.int (2147483647 : Int32)), (.int (1 : Int32))])) rfl rfl (hb hby d16_5)
  obtain ⟨Tf3, Xf3, ef3, stf3⟩ := getF Xf2 hx hZ hown (host := "") (Or.inl (tw hw 104 rfl)) Via.refl ef2 f1 (g := (mkF m 31 #[.val (.ref t), .val (.ref d), .val (.int (0 : Int32)), .unset, .unset, .unset] [(.ref t)])) rfl rfl (hb hby d16_31)
  obtain ⟨Tf4, Xf4, ef4, stf4⟩ := getF Xf3 hx hZ hown (host := "") (Or.inl (tw hw 18 rfl)) Via.refl ef3 f2 (g := (mkF m 40 #[.val (.ref t), .val (.ref d), .val (.int (0 : Int32)), .val (.int (0 : Int32)), .unset, .unset] [(.ref t), (.int (0 : Int32))])) rfl rfl (hb hby d16_40)
  obtain ⟨clv5, Arv5, qv5, Sv5, Nv5, Hv5, Gv5⟩ := id f7
  obtain ⟨Tf6, Xf6, ef6, stf6⟩ := getF Xf4 hx hZ hown (host := "") (Or.inl (tw hw 18 rfl)) Via.refl ef4 f2 (g := (mkF m 69 #[.val (.ref t), .val (.ref d), .val (.int (0 : Int32)), .val (.int (0 : Int32)), .unset, .unset] [(.ref t)])) rfl rfl (hb hby d16_69)
  have in7 : ¬ ((0 : Int32) < 0 ∨ clv5.slots.size ≤ ((0 : Int32)).toNatClampNeg) := inb_of Sv5 ⟨by decide, by decide⟩
  have atin7 : clv5.slots[((0 : Int32)).toNatClampNeg]? = some .null := Has.at Hv5 in7 rfl
  obtain ⟨Tf8, Xf8, ef8, stf8⟩ := getF Xf6 hx hZ hown (host := "") (Or.inl (tw hw 18 rfl)) Via.refl ef6 f2 (g := (mkF m 78 #[.val (.ref t), .val (.ref d), .val (.int (0 : Int32)), .val (.int (0 : Int32)), .unset, .unset] [(.ref t)])) rfl rfl (hb hby d16_78)
  obtain ⟨Ta9, ha9, ka9, Xa9, ea9, Ea9, Aa9, Ba9, sta9⟩ := newPE Xf8 hx hZ (tw hw 40 rfl) ef8 (g := (mkF m 84 #[.val (.ref t), .val (.ref d), .val (.int (0 : Int32)), .val (.int (0 : Int32)), .unset, .unset] [(.int (65536 : Int32)), (.int (0 : Int32)), (.ref bl)])) rfl (hb hby d16_84) rfl (by decide) (cap := 65536) (by decide) (by decide) (by decide) (by decide) (ad := "[B") (by decide)
  obtain ⟨ba9, ga9⟩ : ∃ z, z = h0.size := ⟨_, rfl⟩
  rw [← ga9] at Aa9 Ba9 sta9
  have g_ba9 : n0 ≤ ba9 := Nat.le_trans Z0 (Nat.le_of_eq ga9.symm)
  have y_ba9 : h0.size ≤ ba9 := Nat.le_trans (Nat.le_refl h0.size) (Nat.le_of_eq ga9.symm)
  have Va9 : Arv Z ha9 ba9 ka9 .byte (65536 : Int32) [(.int (0 : Int32)), (.int (0 : Int32)), (.int (0 : Int32)), (.int (0 : Int32)), (.int (0 : Int32)), (.int (0 : Int32)), (.int (0 : Int32)), (.int (0 : Int32))] (.int (0 : Int32)) := (Arv.new Aa9 (by decide)).pad (pad_rep [] (.int (0 : Int32)) 8)
  have K10 : Keep h0 ha9 [t, bl] := (Keep.refl h0 [t, bl]).ext Ea9
  have F11 := (f7.ext Ea9)
  obtain ⟨clv12, Arv12, qv12, Sv12, Nv12, Hv12, Gv12⟩ := id F11
  have in13 : ¬ ((0 : Int32) < 0 ∨ clv12.slots.size ≤ ((0 : Int32)).toNatClampNeg) := inb_of Sv12 ⟨by decide, by decide⟩
  have F14 := f8
  obtain ⟨Tw15, hw15, Xw15, ew15, Ww15, stw15⟩ := stR Xa9 hx hZ ea9 Arv12 (j := (0 : Int32)) in13 rfl (Sto.ofVA Arv12 qv12 F14 (Ins.self Ba9)) (g := (mkF m 86 #[.val (.ref t), .val (.ref d), .val (.int (0 : Int32)), .val (.int (0 : Int32)), .unset, .unset] [(.ref ba9), (.int (0 : Int32)), (.ref bl)])) rfl rfl (hb hby d16_86)
  have Vw15 : Arv Z hw15 bl kbl (.array .byte) (1 : Int32) [(.ref ba9)] .null := Arv.set Arv12 qv12 Sv12 Nv12 Hv12 Gv12 rfl Ww15 0 rfl (Nat.le_of_ble_eq_true rfl)
  have Nw15 := Fr.snoc Xw15 N0 gbl
  have K16 : Keep h0 hw15 [t, bl] := K10.wr Ww15 (Or.inl (List.mem_of_getElem? (i := 1) rfl))
  have F17 := ((f1.ext Ea9).other Ww15 (Or.inl htb))
  obtain ⟨Tf18, Xf18, ef18, stf18⟩ := getF Xw15 hx hZ hown (host := "") (Or.inl (tw hw 104 rfl)) Via.refl ew15 F17 (g := (mkF m 88 #[.val (.ref t), .val (.ref d), .val (.int (0 : Int32)), .val (.int (0 : Int32)), .unset, .unset] [(.ref t)])) rfl rfl (hb hby d16_88)
  have F19 := ((f3.ext Ea9).other Ww15 hdb)
  obtain ⟨clv20, Arv20, qv20, Sv20, Nv20, Hv20, Gv20⟩ := id F19
  have Z21 : n0 ≤ hw15.size := (Nat.le_trans (Nat.le_trans Z0 Ea9.1) (Keep.of_wr Ww15).1)
  have O22 : Old Z n0 hw15 := ((O0.ext Ea9).wr Ww15 gbl)
  obtain ⟨_, _, ⟨Tk23, Lk23, kk23, nk23⟩, -, Xk23, ⟨Lck23, hQk23, lk23, yk23, zk23⟩, stk23⟩ := Jvm.LawKit.callS Xf18 hx (y := Y9) hown (mvT hZ (tw hw 108 rfl)) (mvT hZ (tw hw 109 rfl)) (mvT hZ (tw hw 110 rfl)) (mvT hZ (tw hw 111 rfl)) (by decide) (backOf (W := 0) (rm_min l Z a0 hw [] (1 : Int32) (65536 : Int32) (1 : Int32)  hw15 n0 Z21 O22 rfl) hZ (tw hw 111 rfl) (tw hw 110 rfl) (by decide) (by decide)) (g := (mkF m 105 #[.val (.ref t), .val (.ref d), .val (.int (0 : Int32)), .val (.int (0 : Int32)), .val (.int (0 : Int32)), .unset] [(.int (65536 : Int32)), (.int (1 : Int32))])) rfl (by rw [hml]; rfl) (argsL := [(.int (1 : Int32)), (.int (65536 : Int32))]) (rest := []) (lenOf pd__II_I rfl) rfl (by show 2 * 0 + _ ≤ _; exact Nat.le_of_eq rfl) (hb hby d16_105) (fun _ _ => ⟨rfl, ef18, (by decide : 1 + 0 ≤ _), (by decide : 65536 + 0 ≤ _)⟩)
  dsimp only [Pt.U, Pt.locs, Pt.cells, Pt.slots] at Xk23 lk23 yk23 zk23 stk23 hQk23
  subst lk23 yk23 zk23
  obtain ⟨rfl, Nk23q, ek23⟩ := hQk23
  have Nk23 := Fr.app Nw15 Nk23q
  have F24 := ((f2.ext Ea9).other Ww15 (Or.inl htb))
  obtain ⟨Tf25, Xf25, ef25, stf25⟩ := getF Xk23 hx hZ hown (host := "") (Or.inl (tw hw 18 rfl)) Via.refl ek23 F24 (g := (mkF m 113 #[.val (.ref t), .val (.ref d), .val (.int (0 : Int32)), .val (.int (0 : Int32)), .val (.int (0 : Int32)), .val (.int (1 : Int32))] [(.ref t), (.int (0 : Int32)), (.ref d)])) rfl rfl (hb hby d16_113)
  obtain ⟨clv26, Arv26, qv26, Sv26, Nv26, Hv26, Gv26⟩ := id Vw15
  have in27 : ¬ ((0 : Int32) < 0 ∨ clv26.slots.size ≤ ((0 : Int32)).toNatClampNeg) := inb_of Sv26 ⟨by decide, by decide⟩
  have atin27 : clv26.slots[((0 : Int32)).toNatClampNeg]? = some (.ref ba9) := Has.at Hv26 in27 rfl
  have ne29 : bl ≠ ba9 := Nat.ne_of_lt (Nat.lt_of_lt_of_le f7.lt (Nat.le_of_eq ga9.symm))
  have F30 := (Va9.other Ww15 (Ne.symm ne29))
  obtain ⟨Ty28, hy28, Ly28, Xy28, ey28, Ny28, Ky28, Vy28, sty28⟩ := cpA Xf25 hx hZ hown (tw hw 112 rfl) (tw hw 115 rfl) (tw hw 113 rfl) (tw hw 114 rfl) ef25 F19 F30 (Or.inl ⟨rfl, rfl⟩) (by decide) (by decide) (by decide) (by decide) (by decide) rfl (by decide) Nk23 g_ba9 (g := (mkF m 122 #[.val (.ref t), .val (.ref d), .val (.int (0 : Int32)), .val (.int (0 : Int32)), .val (.int (0 : Int32)), .val (.int (1 : Int32))] [(.int (1 : Int32)), (.int (0 : Int32)), (.ref ba9), (.int (0 : Int32)), (.ref d)])) rfl (by rw [hml]; rfl) rfl (hb hby d16_122) (by decide) (W := 0) (by show 2 * 0 + _ ≤ _; exact Nat.le_of_eq rfl) (by decide)
  have K31 : Keep h0 hy28 [t, bl] := K16.trans Ky28 (allS (P := fun x => x ∈ ([t, bl] : List Addr) ∨ h0.size ≤ x) (Or.inr y_ba9) all0)
  have Vcy28 : Arv Z hy28 ba9 ka9 .byte (65536 : Int32) [(.int (97 : Int32)), (.int (0 : Int32)), (.int (0 : Int32)), (.int (0 : Int32)), (.int (0 : Int32)), (.int (0 : Int32)), (.int (0 : Int32)), (.int (0 : Int32))] (.int (0 : Int32)) := Vy28
  have F33 := (((f0.ext Ea9).wr Ww15).keep Ky28)
  have F34 := ((Ba9.wr Ww15).keep Ky28)
  have ne32 : t ≠ ba9 := ne_exa F33 F34 (by decide)
  have F35 := (F17.keep Ky28 (ninS ne32 nin0))
  obtain ⟨Tf36, Xf36, ef36, stf36⟩ := getF Xy28 hx hZ hown (host := "") (Or.inl (tw hw 104 rfl)) Via.refl ey28 F35 (g := (mkF m 127 #[.val (.ref t), .val (.ref d), .val (.int (0 : Int32)), .val (.int (0 : Int32)), .val (.int (0 : Int32)), .val (.int (1 : Int32))] [(.ref t), (.ref t)])) rfl rfl (hb hby d16_127)
  obtain ⟨Tp37, hp37, Xp37, ep37, Wp37, stp37⟩ := putF Xf36 hx hZ hown (host := "") (Or.inl (tw hw 104 rfl)) Via.refl ef36 F35 F33 (Or.inl (tw hw 105 rfl)) (tw hw 2 rfl) (ty := .int) (by decide) rfl rfl (g := (mkF m 133 #[.val (.ref t), .val (.ref d), .val (.int (0 : Int32)), .val (.int (0 : Int32)), .val (.int (0 : Int32)), .val (.int (1 : Int32))] [(.int (1 : Int32)), (.ref t)])) rfl rfl (hb hby d16_133)
  have Fwp37 : Fld Z hp37 t S1 "stored" "I" (.int (1 : Int32)) := F35.same Wp37
  have Np37 := Fr.snoc Xp37 Ny28 gt
  have K38 : Keep h0 hp37 [t, bl] := K31.wr Wp37 (Or.inl (List.mem_of_getElem? (i := 0) rfl))
  have ne39 : d ≠ ba9 := Nat.ne_of_lt (Nat.lt_of_lt_of_le f3.lt (Nat.le_of_eq ga9.symm))
  have ne40 : t ≠ d := Exa.neArv ((f0.ext Ea9).wr Ww15) F19 (tw hw 2 rfl)
  have F41 := ((F19.keep Ky28 (ninS ne39 nin0)).other Wp37 (Ne.symm ne40))
  obtain ⟨clv42, Arv42, qv42, Sv42, Nv42, Hv42, Gv42⟩ := id F41
  have F43 := ((F24.keep Ky28 (ninS ne32 nin0)).other Wp37 (Or.inr (slot_ne (Or.inl (tw hw 19 rfl)) (Or.inl (tw hw 105 rfl)) (by decide) (t := (.array (.array .byte))) (t' := .int) (by decide) (by decide))))
  have F44 := ((((f4.ext Ea9).other Ww15 (Or.inl htb)).keep Ky28 (ninS ne32 nin0)).other Wp37 (Or.inr (slot_ne (Or.inl (tw hw 30 rfl)) (Or.inl (tw hw 105 rfl)) (by decide) (t := .int) (t' := .int) (by decide) (by decide))))
  have F45 := ((((f5.ext Ea9).other Ww15 (Or.inl htb)).keep Ky28 (ninS ne32 nin0)).other Wp37 (Or.inr (slot_ne (Or.inl (tw hw 12 rfl)) (Or.inl (tw hw 105 rfl)) (by decide) (t := (.array .long)) (t' := .int) (by decide) (by decide))))
  have F46 := ((((f6.ext Ea9).other Ww15 (Or.inl htb)).keep Ky28 (ninS ne32 nin0)).other Wp37 (Or.inr (slot_ne (Or.inl (tw hw 15 rfl)) (Or.inl (tw hw 105 rfl)) (by decide) (t := (.array .int)) (t' := .int) (by decide) (by decide))))
  have F47 := ((Vw15.keep Ky28 (ninS ne29 nin0)).other Wp37 (Ne.symm htb))
  have F48 := (Vcy28.other Wp37 (Ne.symm ne32))
  have F49 := (F34.wr Wp37)
  obtain ⟨fs, hlv, hrun, hended, hW, hsame⟩ := Xp37.leave (v := none) (fun _ => rfl)
  refine ⟨_, _, pre0 _ ?_, hrun, hended, _, _, rfl, ?_, ⟨_, rfl⟩, hW, hsame.mono (by decide) (by decide)⟩
  · refine XS.aloadN X0.here hx rfl (hb hby d16_0) rfl rfl ?_
    show Sp p e below s₁ (mkF m 1 #[.val (.ref t), .val (.ref d), .unset, .unset, .unset, .unset] [(.ref d)]) _
    refine X0.arraylength hx (own_eq e0 Arv1.1) (State.isArrayOf_alike hZ.alike Arv1.2.1) (g := (mkF m 1 #[.val (.ref t), .val (.ref d), .unset, .unset, .unset, .unset] [(.ref d)])) rfl rfl (hb hby d16_1) _ ?_
    rw [len_of Sv1 Nv1]
    show Sp p e below s₁ (mkF m 2 #[.val (.ref t), .val (.ref d), .unset, .unset, .unset, .unset] [(.int (1 : Int32))]) _
    refine Jvm.Stand.ldcI X0 hx hown (mvT hZ (tw hw 103 rfl)) rfl (hb hby d16_2) ?_
    refine XS.aloadN X0.here hx rfl (hb hby d16_4) rfl rfl ?_
    refine stf2 _ ?_
    refine XS.isub Xf2.here hx rfl (hb hby d16_8) rfl ?_
    refine XS.icmpYes Xf2.here hx rfl (pc0 := 9) (pc' := 22) rfl (hb hby d16_9) rfl (flt (by decide : ¬ ((2147483647 : Int32) < (1 : Int32)))).2.2.2 (by decide) (by decide) ?_
    refine XS.iconst Xf2.here hx rfl (hb hby d16_22) ?_
    refine XS.istoreN Xf2.here hx rfl (hb hby d16_23) rfl (l' := #[.val (.ref t), .val (.ref d), .val (.int (0 : Int32)), .unset, .unset, .unset]) rfl ?_
    refine XS.iloadN Xf2.here hx rfl (hb hby d16_24) rfl ?_
    refine XS.aloadN Xf2.here hx rfl (hb hby d16_25) rfl rfl ?_
    show Sp p e below Tf2 (mkF m 26 #[.val (.ref t), .val (.ref d), .val (.int (0 : Int32)), .unset, .unset, .unset] [(.ref d), (.int (0 : Int32))]) _
    refine Xf2.arraylength hx (own_eq ef2 Arv1.1) (State.isArrayOf_alike hZ.alike Arv1.2.1) (g := (mkF m 26 #[.val (.ref t), .val (.ref d), .val (.int (0 : Int32)), .unset, .unset, .unset] [(.ref d), (.int (0 : Int32))])) rfl rfl (hb hby d16_26) _ ?_
    rw [len_of Sv1 Nv1]
    show Sp p e below Tf2 (mkF m 27 #[.val (.ref t), .val (.ref d), .val (.int (0 : Int32)), .unset, .unset, .unset] [(.int (1 : Int32)), (.int (0 : Int32))]) _
    refine XS.icmpNo Xf2.here hx rfl (hb hby d16_27) rfl (tlt (by decide : (0 : Int32) < (1 : Int32))).2.1 ?_
    refine XS.aloadN Xf2.here hx rfl (hb hby d16_30) rfl rfl ?_
    refine stf3 _ ?_
    refine XS.bipush Xf3.here hx rfl (hb hby d16_34) ?_
    refine XS.iushr Xf3.here hx rfl (hb hby d16_36) rfl ?_
    refine XS.istoreN Xf3.here hx rfl (hb hby d16_37) rfl (l' := #[.val (.ref t), .val (.ref d), .val (.int (0 : Int32)), .val (.int (0 : Int32)), .unset, .unset]) rfl ?_
    refine XS.iloadN Xf3.here hx rfl (hb hby d16_38) rfl ?_
    refine XS.aloadN Xf3.here hx rfl (hb hby d16_39) rfl rfl ?_
    refine stf4 _ ?_
    show Sp p e below Tf4 (mkF m 43 #[.val (.ref t), .val (.ref d), .val (.int (0 : Int32)), .val (.int (0 : Int32)), .unset, .unset] [(.ref bl), (.int (0 : Int32))]) _
    refine Xf4.arraylength hx (own_eq ef4 Arv5.1) (State.isArrayOf_alike hZ.alike Arv5.2.1) (g := (mkF m 43 #[.val (.ref t), .val (.ref d), .val (.int (0 : Int32)), .val (.int (0 : Int32)), .unset, .unset] [(.ref bl), (.int (0 : Int32))])) rfl rfl (hb hby d16_43) _ ?_
    rw [len_of Sv5 Nv5]
    show Sp p e below Tf4 (mkF m 44 #[.val (.ref t), .val (.ref d), .val (.int (0 : Int32)), .val (.int (0 : Int32)), .unset, .unset] [(.int (1 : Int32)), (.int (0 : Int32))]) _
    refine XS.icmpYes Xf4.here hx rfl (pc0 := 44) (pc' := 68) rfl (hb hby d16_44) rfl (feq (by decide : ¬ ((0 : Int32) = (1 : Int32)))).2 (by decide) (by decide) ?_
    refine XS.aloadN Xf4.here hx rfl (hb hby d16_68) rfl rfl ?_
    refine stf6 _ ?_
    refine XS.iloadN Xf6.here hx rfl (hb hby d16_72) rfl ?_
    show Sp p e below Tf6 (mkF m 73 #[.val (.ref t), .val (.ref d), .val (.int (0 : Int32)), .val (.int (0 : Int32)), .unset, .unset] [(.int (0 : Int32)), (.ref bl)]) _
    refine Xf6.aaload hx (j := (0 : Int32)) (v := .null) (own_eq ef6 Arv5.1) (State.isArrayOf_alike hZ.alike Arv5.2.1) rfl Arv5.2.2 in7 atin7 (g := (mkF m 73 #[.val (.ref t), .val (.ref d), .val (.int (0 : Int32)), .val (.int (0 : Int32)), .unset, .unset] [(.int (0 : Int32)), (.ref bl)])) rfl rfl (hb hby d16_73) _ ?_
    show Sp p e below Tf6 (mkF m 74 #[.val (.ref t), .val (.ref d), .val (.int (0 : Int32)), .val (.int (0 : Int32)), .unset, .unset] [.null]) _
    refine XS.ifnonnullNo Xf6.here hx rfl (hb hby d16_74) rfl ?_
    refine XS.aloadN Xf6.here hx rfl (hb hby d16_77) rfl rfl ?_
    refine stf8 _ ?_
    refine XS.iloadN Xf8.here hx rfl (hb hby d16_81) rfl ?_
    show Sp p e below Tf8 (mkF m 82 #[.val (.ref t), .val (.ref d), .val (.int (0 : Int32)), .val (.int (0 : Int32)), .unset, .unset] [(.int (0 : Int32)), (.ref bl)]) _
    refine Jvm.Stand.ldcI Xf8 hx hown (mvT hZ (tw hw 106 rfl)) rfl (hb hby d16_82) ?_
    refine sta9 _ ?_
    refine stw15 _ ?_
    refine XS.aloadN Xw15.here hx rfl (hb hby d16_87) rfl rfl ?_
    refine stf18 _ ?_
    show Sp p e below Tf18 (mkF m 91 #[.val (.ref t), .val (.ref d), .val (.int (0 : Int32)), .val (.int (0 : Int32)), .unset, .unset] [(.int (0 : Int32))]) _
    refine Jvm.Stand.ldcI Xf18 hx hown (mvT hZ (tw hw 107 rfl)) rfl (hb hby d16_91) ?_
    refine XS.iand Xf18.here hx rfl (hb hby d16_93) rfl ?_
    refine XS.istore Xf18.here hx rfl (hb hby d16_94) rfl (l' := #[.val (.ref t), .val (.ref d), .val (.int (0 : Int32)), .val (.int (0 : Int32)), .val (.int (0 : Int32)), .unset]) rfl ?_
    refine XS.aloadN Xf18.here hx rfl (hb hby d16_96) rfl rfl ?_
    show Sp p e below Tf18 (mkF m 97 #[.val (.ref t), .val (.ref d), .val (.int (0 : Int32)), .val (.int (0 : Int32)), .val (.int (0 : Int32)), .unset] [(.ref d)]) _
    refine Xf18.arraylength hx (own_eq ef18 Arv20.1) (State.isArrayOf_alike hZ.alike Arv20.2.1) (g := (mkF m 97 #[.val (.ref t), .val (.ref d), .val (.int (0 : Int32)), .val (.int (0 : Int32)), .val (.int (0 : Int32)), .unset] [(.ref d)])) rfl rfl (hb hby d16_97) _ ?_
    rw [len_of Sv20 Nv20]
    show Sp p e below Tf18 (mkF m 98 #[.val (.ref t), .val (.ref d), .val (.int (0 : Int32)), .val (.int (0 : Int32)), .val (.int (0 : Int32)), .unset] [(.int (1 : Int32))]) _
    refine XS.iloadN Xf18.here hx rfl (hb hby d16_98) rfl ?_
    refine XS.isub Xf18.here hx rfl (hb hby d16_99) rfl ?_
    show Sp p e below Tf18 (mkF m 100 #[.val (.ref t), .val (.ref d), .val (.int (0 : Int32)), .val (.int (0 : Int32)), .val (.int (0 : Int32)), .unset] [(.int (1 : Int32))]) _
    refine Jvm.Stand.ldcI Xf18 hx hown (mvT hZ (tw hw 106 rfl)) rfl (hb hby d16_100) ?_
    refine XS.iload Xf18.here hx rfl (hb hby d16_102) rfl ?_
    refine XS.isub Xf18.here hx rfl (hb hby d16_104) rfl ?_
    refine stk23 _ ?_
    refine XS.istore Xk23.here hx rfl (hb hby d16_108) rfl (l' := #[.val (.ref t), .val (.ref d), .val (.int (0 : Int32)), .val (.int (0 : Int32)), .val (.int (0 : Int32)), .val (.int (1 : Int32))]) rfl ?_
    refine XS.aloadN Xk23.here hx rfl (hb hby d16_110) rfl rfl ?_
    refine XS.iloadN Xk23.here hx rfl (hb hby d16_111) rfl ?_
    refine XS.aloadN Xk23.here hx rfl (hb hby d16_112) rfl rfl ?_
    refine stf25 _ ?_
    refine XS.iloadN Xf25.here hx rfl (hb hby d16_116) rfl ?_
    show Sp p e below Tf25 (mkF m 117 #[.val (.ref t), .val (.ref d), .val (.int (0 : Int32)), .val (.int (0 : Int32)), .val (.int (0 : Int32)), .val (.int (1 : Int32))] [(.int (0 : Int32)), (.ref bl), (.int (0 : Int32)), (.ref d)]) _
    refine Xf25.aaload hx (j := (0 : Int32)) (v := (.ref ba9)) (own_eq ef25 Arv26.1) (State.isArrayOf_alike hZ.alike Arv26.2.1) rfl Arv26.2.2 in27 atin27 (g := (mkF m 117 #[.val (.ref t), .val (.ref d), .val (.int (0 : Int32)), .val (.int (0 : Int32)), .val (.int (0 : Int32)), .val (.int (1 : Int32))] [(.int (0 : Int32)), (.ref bl), (.int (0 : Int32)), (.ref d)])) rfl rfl (hb hby d16_117) _ ?_
    show Sp p e below Tf25 (mkF m 118 #[.val (.ref t), .val (.ref d), .val (.int (0 : Int32)), .val (.int (0 : Int32)), .val (.int (0 : Int32)), .val (.int (1 : Int32))] [(.ref ba9), (.int (0 : Int32)), (.ref d)]) _
    refine XS.iload Xf25.here hx rfl (hb hby d16_118) rfl ?_
    refine XS.iload Xf25.here hx rfl (hb hby d16_120) rfl ?_
    refine sty28 _ ?_
    refine XS.aloadN Xy28.here hx rfl (hb hby d16_125) rfl rfl ?_
    refine XS.dup Xy28.here hx rfl (hb hby d16_126) rfl rfl ?_
    refine stf36 _ ?_
    refine XS.iload Xf36.here hx rfl (hb hby d16_130) rfl ?_
    refine XS.iadd Xf36.here hx rfl (hb hby d16_132) rfl ?_
    refine stp37 _ ?_
    refine XS.iloadN Xp37.here hx rfl (hb hby d16_136) rfl ?_
    refine XS.iload Xp37.here hx rfl (hb hby d16_137) rfl ?_
    refine XS.iadd Xp37.here hx rfl (hb hby d16_139) rfl ?_
    refine XS.istoreN Xp37.here hx rfl (hb hby d16_140) rfl (l' := #[.val (.ref t), .val (.ref d), .val (.int (1 : Int32)), .val (.int (0 : Int32)), .val (.int (0 : Int32)), .val (.int (1 : Int32))]) rfl ?_
    refine XS.goto Xp37.here hx rfl (pc0 := 141) (pc' := 24) rfl (hb hby d16_141) (by decide) (by decide) ?_
    refine XS.iloadN Xp37.here hx rfl (hb hby d16_24) rfl ?_
    refine XS.aloadN Xp37.here hx rfl (hb hby d16_25) rfl rfl ?_
    show Sp p e below Tp37 (mkF m 26 #[.val (.ref t), .val (.ref d), .val (.int (1 : Int32)), .val (.int (0 : Int32)), .val (.int (0 : Int32)), .val (.int (1 : Int32))] [(.ref d), (.int (1 : Int32))]) _
    refine Xp37.arraylength hx (own_eq ep37 Arv42.1) (State.isArrayOf_alike hZ.alike Arv42.2.1) (g := (mkF m 26 #[.val (.ref t), .val (.ref d), .val (.int (1 : Int32)), .val (.int (0 : Int32)), .val (.int (0 : Int32)), .val (.int (1 : Int32))] [(.ref d), (.int (1 : Int32))])) rfl rfl (hb hby d16_26) _ ?_
    rw [len_of Sv42 Nv42]
    show Sp p e below Tp37 (mkF m 27 #[.val (.ref t), .val (.ref d), .val (.int (1 : Int32)), .val (.int (0 : Int32)), .val (.int (0 : Int32)), .val (.int (1 : Int32))] [(.int (1 : Int32)), (.int (1 : Int32))]) _
    refine XS.icmpYes Xp37.here hx rfl (pc0 := 27) (pc' := 144) rfl (hb hby d16_27) rfl (flt (by decide : ¬ ((1 : Int32) < (1 : Int32)))).2.1 (by decide) (by decide) ?_
    show Sp p e below Tp37 (mkF m 144 #[.val (.ref t), .val (.ref d), .val (.int (1 : Int32)), .val (.int (0 : Int32)), .val (.int (0 : Int32)), .val (.int (1 : Int32))] []) _
    exact Xp37.returnOut hx hret (hb hby d16_144) hlv
  · show Q_store0 Z t d kd bl kbl sl en h0 n0 _ Tp37.heap _
    rw [ep37]
    exact ⟨ba9, ka9, rfl, Np37, K38, y_ba9, Fwp37, F43, F44, F45, F46, F47, F48, F49⟩
def Q_store1 (Z : State) (t : Addr) (d : Addr) (kd : ClassId) (bl : Addr) (kbl : ClassId) (sl : Addr) (en : Addr) (bk : Addr) (kbk : ClassId) (h0 : Heap) (n0 : Nat) (v : Option Value) (h : Heap) (L : List Loc) : Prop := v = none ∧ Fr n0 L ∧ Keep h0 h [t, bk] ∧ Fld Z h t S1 "stored" "I" (.int (2 : Int32)) ∧ Fld Z h t S1 "blocks" "[[B" (.ref bl) ∧ Fld Z h t S1 "size" "I" (.int (1 : Int32)) ∧ Fld Z h t S1 "slots" "[J" (.ref sl) ∧ Fld Z h t S1 "ends" "[I" (.ref en) ∧ Arv Z h bk kbk .byte (65536 : Int32) [(.int (97 : Int32)), (.int (98 : Int32)), (.int (0 : Int32)), (.int (0 : Int32)), (.int (0 : Int32)), (.int (0 : Int32)), (.int (0 : Int32)), (.int (0 : Int32))] (.int (0 : Int32))
set_option maxRecDepth 65536 in
set_option maxHeartbeats 40000000 in
theorem rm_store1 (l : Launch) (Z : State) (a0 : Array Value) (hw : ∀ d ∈ tables_1, d.before a0 Z = true) (ws : List Jvm.Cond) (t : Addr) (d : Addr) (kd : ClassId) (bl : Addr) (kbl : ClassId) (sl : Addr) (en : Addr) (bk : Addr) (kbk : ClassId) (h0 : Heap) (n0 : Nat) (Z0 : n0 ≤ h0.size) (O0 : Old Z n0 h0) (f0 : Exa Z h0 t S1) (f1 : Fld Z h0 t S1 "stored" "I" (.int (1 : Int32))) (f2 : Fld Z h0 t S1 "blocks" "[[B" (.ref bl)) (f3 : Arv Z h0 d kd .byte (1 : Int32) [(.int (98 : Int32))] (.int (0 : Int32))) (f4 : Fld Z h0 t S1 "size" "I" (.int (1 : Int32))) (f5 : Fld Z h0 t S1 "slots" "[J" (.ref sl)) (f6 : Fld Z h0 t S1 "ends" "[I" (.ref en)) (f7 : Arv Z h0 bl kbl (.array .byte) (1 : Int32) [(.ref bk)] .null) (f8 : Arv Z h0 bk kbk .byte (65536 : Int32) [(.int (97 : Int32)), (.int (0 : Int32)), (.int (0 : Int32)), (.int (0 : Int32)), (.int (0 : Int32)), (.int (0 : Int32)), (.int (0 : Int32)), (.int (0 : Int32))] (.int (0 : Int32))) (gt : n0 ≤ t) (gbk : n0 ≤ bk) (htb : t ≠ bk) (hdb : d ≠ bk) (hbb : bl ≠ bk) :
    MetFree l Y10 (head1 (Jvm.Cond.code Y10 prog_57_method_10_code 6 none :: ws) ({ frames := 1, cells := 0, slots := 0, locals := 40 } : Room)) (fun A_ U => A_ = #[(.ref t), (.ref d)] ∧ Z.Warmed39 U.vm ∧ U.heap = h0) (fun _ _ _ _ _ => True) (fun _ U o_ U' => ∃ v_ L_, o_ = .returned v_ ∧ Q_store1 Z t d kd bl kbl sl en bk kbk h0 n0 v_ U'.heap L_ ∧ FrameEnd U o_ U' L_ ({ frames := 1, cells := 0, slots := 0, locals := 40 } : Room).cells ({ frames := 1, cells := 0, slots := 0, locals := 40 } : Room).slots) := by
  refine MetFree.of_bodySF (plainFor_of_name pn_2) hisR ?_
  intro p e s m args below meth c s₁ Bd hml0 hP hK
  obtain ⟨rfl, hZ, hh⟩ := hP
  have hx := Bd.exec
  have hby := Bd.bytes
  have hml : c.maxLocals = 6 := hml0
  have hown : s.vm.findClass S1 = some m.cls := findClass_of_methodNamed Bd.named
  have hnm := (name_of_methodNamed Bd.named Bd.method).1
  have hret := Bd.returns
  have X0 : Stand p l e ({ frames := 1, cells := 0, slots := 0, locals := 40 } : Room) s m #[(.ref t), (.ref d)] below meth c s₁ [] 0 0 := Stand.of_body Bd
  have e0 : s₁.heap = h0 := by rw [← hh, Bd.state]; rfl
  have N0 := Fr.nil n0
  have pre0 : ∀ t_, Sp p e below s₁ (mkF m 0 #[.val (.ref t), .val (.ref d), .unset, .unset, .unset, .unset] []) t_ → Sp p e below s₁ (entryFrame m #[(.ref t), (.ref d)] 6) t_ := fun t_ k_ => castTop (ef_16_RR m t d) k_
  obtain ⟨clv1, Arv1, qv1, Sv1, Nv1, Hv1, Gv1⟩ := id f3
  obtain ⟨Tf2, Xf2, ef2, stf2⟩ := getF X0 hx hZ hown (host := "") (Or.inl (tw hw 104 rfl)) Via.refl e0 f1 (g := (mkF m 5 #[.val (.ref t), .val (.ref d), .unset, .unset, .unset, .unset] [(.ref t), (.int (2147483647 : Int32)), (.int (1 : Int32))])) rfl rfl (hb hby d16_5)
  obtain ⟨Tf3, Xf3, ef3, stf3⟩ := getF Xf2 hx hZ hown (host := "") (Or.inl (tw hw 104 rfl)) Via.refl ef2 f1 (g := (mkF m 31 #[.val (.ref t), .val (.ref d), .val (.int (0 : Int32)), .unset, .unset, .unset] [(.ref t)])) rfl rfl (hb hby d16_31)
  obtain ⟨Tf4, Xf4, ef4, stf4⟩ := getF Xf3 hx hZ hown (host := "") (Or.inl (tw hw 18 rfl)) Via.refl ef3 f2 (g := (mkF m 40 #[.val (.ref t), .val (.ref d), .val (.int (0 : Int32)), .val (.int (0 : Int32)), .unset, .unset] [(.ref t), (.int (0 : Int32))])) rfl rfl (hb hby d16_40)
  obtain ⟨clv5, Arv5, qv5, Sv5, Nv5, Hv5, Gv5⟩ := id f7
  obtain ⟨Tf6, Xf6, ef6, stf6⟩ := getF Xf4 hx hZ hown (host := "") (Or.inl (tw hw 18 rfl)) Via.refl ef4 f2 (g := (mkF m 69 #[.val (.ref t), .val (.ref d), .val (.int (0 : Int32)), .val (.int (0 : Int32)), .unset, .unset] [(.ref t)])) rfl rfl (hb hby d16_69)
  have in7 : ¬ ((0 : Int32) < 0 ∨ clv5.slots.size ≤ ((0 : Int32)).toNatClampNeg) := inb_of Sv5 ⟨by decide, by decide⟩
  have atin7 : clv5.slots[((0 : Int32)).toNatClampNeg]? = some (.ref bk) := Has.at Hv5 in7 rfl
  obtain ⟨Tf8, Xf8, ef8, stf8⟩ := getF Xf6 hx hZ hown (host := "") (Or.inl (tw hw 104 rfl)) Via.refl ef6 f1 (g := (mkF m 88 #[.val (.ref t), .val (.ref d), .val (.int (0 : Int32)), .val (.int (0 : Int32)), .unset, .unset] [(.ref t)])) rfl rfl (hb hby d16_88)
  obtain ⟨_, _, ⟨Tk9, Lk9, kk9, nk9⟩, -, Xk9, ⟨Lck9, hQk9, lk9, yk9, zk9⟩, stk9⟩ := Jvm.LawKit.callS Xf8 hx (y := Y9) hown (mvT hZ (tw hw 108 rfl)) (mvT hZ (tw hw 109 rfl)) (mvT hZ (tw hw 110 rfl)) (mvT hZ (tw hw 111 rfl)) (by decide) (backOf (W := 0) (rm_min l Z a0 hw [] (1 : Int32) (65535 : Int32) (1 : Int32)  h0 n0 Z0 O0 rfl) hZ (tw hw 111 rfl) (tw hw 110 rfl) (by decide) (by decide)) (g := (mkF m 105 #[.val (.ref t), .val (.ref d), .val (.int (0 : Int32)), .val (.int (0 : Int32)), .val (.int (1 : Int32)), .unset] [(.int (65535 : Int32)), (.int (1 : Int32))])) rfl (by rw [hml]; rfl) (argsL := [(.int (1 : Int32)), (.int (65535 : Int32))]) (rest := []) (lenOf pd__II_I rfl) rfl (by show 2 * 0 + _ ≤ _; exact Nat.le_of_eq rfl) (hb hby d16_105) (fun _ _ => ⟨rfl, ef8, (by decide : 0 + 0 ≤ _), (by decide : 0 + 0 ≤ _)⟩)
  dsimp only [Pt.U, Pt.locs, Pt.cells, Pt.slots] at Xk9 lk9 yk9 zk9 stk9 hQk9
  subst lk9 yk9 zk9
  obtain ⟨rfl, Nk9q, ek9⟩ := hQk9
  have Nk9 := Fr.app N0 Nk9q
  obtain ⟨Tf10, Xf10, ef10, stf10⟩ := getF Xk9 hx hZ hown (host := "") (Or.inl (tw hw 18 rfl)) Via.refl ek9 f2 (g := (mkF m 113 #[.val (.ref t), .val (.ref d), .val (.int (0 : Int32)), .val (.int (0 : Int32)), .val (.int (1 : Int32)), .val (.int (1 : Int32))] [(.ref t), (.int (0 : Int32)), (.ref d)])) rfl rfl (hb hby d16_113)
  have in11 : ¬ ((0 : Int32) < 0 ∨ clv5.slots.size ≤ ((0 : Int32)).toNatClampNeg) := inb_of Sv5 ⟨by decide, by decide⟩
  have atin11 : clv5.slots[((0 : Int32)).toNatClampNeg]? = some (.ref bk) := Has.at Hv5 in11 rfl
  obtain ⟨Ty12, hy12, Ly12, Xy12, ey12, Ny12, Ky12, Vy12, sty12⟩ := cpA Xf10 hx hZ hown (tw hw 112 rfl) (tw hw 115 rfl) (tw hw 113 rfl) (tw hw 114 rfl) ef10 f3 f8 (Or.inl ⟨rfl, rfl⟩) (by decide) (by decide) (by decide) (by decide) (by decide) rfl (by decide) Nk9 gbk (g := (mkF m 122 #[.val (.ref t), .val (.ref d), .val (.int (0 : Int32)), .val (.int (0 : Int32)), .val (.int (1 : Int32)), .val (.int (1 : Int32))] [(.int (1 : Int32)), (.int (1 : Int32)), (.ref bk), (.int (0 : Int32)), (.ref d)])) rfl (by rw [hml]; rfl) rfl (hb hby d16_122) (by decide) (W := 0) (by show 2 * 0 + _ ≤ _; exact Nat.le_of_eq rfl) (by decide)
  have K13 : Keep h0 hy12 [t, bk] := (Keep.refl h0 [t, bk]).trans Ky12 (allS (P := fun x => x ∈ ([t, bk] : List Addr) ∨ h0.size ≤ x) (Or.inl (List.mem_of_getElem? (i := 1) rfl)) all0)
  have Vcy12 : Arv Z hy12 bk kbk .byte (65536 : Int32) [(.int (97 : Int32)), (.int (98 : Int32)), (.int (0 : Int32)), (.int (0 : Int32)), (.int (0 : Int32)), (.int (0 : Int32)), (.int (0 : Int32)), (.int (0 : Int32))] (.int (0 : Int32)) := Vy12
  have F14 := (f1.keep Ky12 (ninS htb nin0))
  obtain ⟨Tf15, Xf15, ef15, stf15⟩ := getF Xy12 hx hZ hown (host := "") (Or.inl (tw hw 104 rfl)) Via.refl ey12 F14 (g := (mkF m 127 #[.val (.ref t), .val (.ref d), .val (.int (0 : Int32)), .val (.int (0 : Int32)), .val (.int (1 : Int32)), .val (.int (1 : Int32))] [(.ref t), (.ref t)])) rfl rfl (hb hby d16_127)
  have F16 := (f0.keep Ky12)
  obtain ⟨Tp17, hp17, Xp17, ep17, Wp17, stp17⟩ := putF Xf15 hx hZ hown (host := "") (Or.inl (tw hw 104 rfl)) Via.refl ef15 F14 F16 (Or.inl (tw hw 105 rfl)) (tw hw 2 rfl) (ty := .int) (by decide) rfl rfl (g := (mkF m 133 #[.val (.ref t), .val (.ref d), .val (.int (0 : Int32)), .val (.int (0 : Int32)), .val (.int (1 : Int32)), .val (.int (1 : Int32))] [(.int (2 : Int32)), (.ref t)])) rfl rfl (hb hby d16_133)
  have Fwp17 : Fld Z hp17 t S1 "stored" "I" (.int (2 : Int32)) := F14.same Wp17
  have Np17 := Fr.snoc Xp17 Ny12 gt
  have K18 : Keep h0 hp17 [t, bk] := K13.wr Wp17 (Or.inl (List.mem_of_getElem? (i := 0) rfl))
  have ne19 : t ≠ d := Exa.neArv f0 f3 (tw hw 2 rfl)
  have F20 := ((f3.keep Ky12 (ninS hdb nin0)).other Wp17 (Ne.symm ne19))
  obtain ⟨clv21, Arv21, qv21, Sv21, Nv21, Hv21, Gv21⟩ := id F20
  have F22 := ((f2.keep Ky12 (ninS htb nin0)).other Wp17 (Or.inr (slot_ne (Or.inl (tw hw 19 rfl)) (Or.inl (tw hw 105 rfl)) (by decide) (t := (.array (.array .byte))) (t' := .int) (by decide) (by decide))))
  have F23 := ((f4.keep Ky12 (ninS htb nin0)).other Wp17 (Or.inr (slot_ne (Or.inl (tw hw 30 rfl)) (Or.inl (tw hw 105 rfl)) (by decide) (t := .int) (t' := .int) (by decide) (by decide))))
  have F24 := ((f5.keep Ky12 (ninS htb nin0)).other Wp17 (Or.inr (slot_ne (Or.inl (tw hw 12 rfl)) (Or.inl (tw hw 105 rfl)) (by decide) (t := (.array .long)) (t' := .int) (by decide) (by decide))))
  have F25 := ((f6.keep Ky12 (ninS htb nin0)).other Wp17 (Or.inr (slot_ne (Or.inl (tw hw 15 rfl)) (Or.inl (tw hw 105 rfl)) (by decide) (t := (.array .int)) (t' := .int) (by decide) (by decide))))
  have F26 := (Vcy12.other Wp17 (Ne.symm htb))
  obtain ⟨fs, hlv, hrun, hended, hW, hsame⟩ := Xp17.leave (v := none) (fun _ => rfl)
  refine ⟨_, _, pre0 _ ?_, hrun, hended, _, _, rfl, ?_, ⟨_, rfl⟩, hW, hsame.mono (by decide) (by decide)⟩
  · refine XS.aloadN X0.here hx rfl (hb hby d16_0) rfl rfl ?_
    show Sp p e below s₁ (mkF m 1 #[.val (.ref t), .val (.ref d), .unset, .unset, .unset, .unset] [(.ref d)]) _
    refine X0.arraylength hx (own_eq e0 Arv1.1) (State.isArrayOf_alike hZ.alike Arv1.2.1) (g := (mkF m 1 #[.val (.ref t), .val (.ref d), .unset, .unset, .unset, .unset] [(.ref d)])) rfl rfl (hb hby d16_1) _ ?_
    rw [len_of Sv1 Nv1]
    show Sp p e below s₁ (mkF m 2 #[.val (.ref t), .val (.ref d), .unset, .unset, .unset, .unset] [(.int (1 : Int32))]) _
    refine Jvm.Stand.ldcI X0 hx hown (mvT hZ (tw hw 103 rfl)) rfl (hb hby d16_2) ?_
    refine XS.aloadN X0.here hx rfl (hb hby d16_4) rfl rfl ?_
    refine stf2 _ ?_
    refine XS.isub Xf2.here hx rfl (hb hby d16_8) rfl ?_
    refine XS.icmpYes Xf2.here hx rfl (pc0 := 9) (pc' := 22) rfl (hb hby d16_9) rfl (flt (by decide : ¬ ((2147483646 : Int32) < (1 : Int32)))).2.2.2 (by decide) (by decide) ?_
    refine XS.iconst Xf2.here hx rfl (hb hby d16_22) ?_
    refine XS.istoreN Xf2.here hx rfl (hb hby d16_23) rfl (l' := #[.val (.ref t), .val (.ref d), .val (.int (0 : Int32)), .unset, .unset, .unset]) rfl ?_
    refine XS.iloadN Xf2.here hx rfl (hb hby d16_24) rfl ?_
    refine XS.aloadN Xf2.here hx rfl (hb hby d16_25) rfl rfl ?_
    show Sp p e below Tf2 (mkF m 26 #[.val (.ref t), .val (.ref d), .val (.int (0 : Int32)), .unset, .unset, .unset] [(.ref d), (.int (0 : Int32))]) _
    refine Xf2.arraylength hx (own_eq ef2 Arv1.1) (State.isArrayOf_alike hZ.alike Arv1.2.1) (g := (mkF m 26 #[.val (.ref t), .val (.ref d), .val (.int (0 : Int32)), .unset, .unset, .unset] [(.ref d), (.int (0 : Int32))])) rfl rfl (hb hby d16_26) _ ?_
    rw [len_of Sv1 Nv1]
    show Sp p e below Tf2 (mkF m 27 #[.val (.ref t), .val (.ref d), .val (.int (0 : Int32)), .unset, .unset, .unset] [(.int (1 : Int32)), (.int (0 : Int32))]) _
    refine XS.icmpNo Xf2.here hx rfl (hb hby d16_27) rfl (tlt (by decide : (0 : Int32) < (1 : Int32))).2.1 ?_
    refine XS.aloadN Xf2.here hx rfl (hb hby d16_30) rfl rfl ?_
    refine stf3 _ ?_
    refine XS.bipush Xf3.here hx rfl (hb hby d16_34) ?_
    refine XS.iushr Xf3.here hx rfl (hb hby d16_36) rfl ?_
    refine XS.istoreN Xf3.here hx rfl (hb hby d16_37) rfl (l' := #[.val (.ref t), .val (.ref d), .val (.int (0 : Int32)), .val (.int (0 : Int32)), .unset, .unset]) rfl ?_
    refine XS.iloadN Xf3.here hx rfl (hb hby d16_38) rfl ?_
    refine XS.aloadN Xf3.here hx rfl (hb hby d16_39) rfl rfl ?_
    refine stf4 _ ?_
    show Sp p e below Tf4 (mkF m 43 #[.val (.ref t), .val (.ref d), .val (.int (0 : Int32)), .val (.int (0 : Int32)), .unset, .unset] [(.ref bl), (.int (0 : Int32))]) _
    refine Xf4.arraylength hx (own_eq ef4 Arv5.1) (State.isArrayOf_alike hZ.alike Arv5.2.1) (g := (mkF m 43 #[.val (.ref t), .val (.ref d), .val (.int (0 : Int32)), .val (.int (0 : Int32)), .unset, .unset] [(.ref bl), (.int (0 : Int32))])) rfl rfl (hb hby d16_43) _ ?_
    rw [len_of Sv5 Nv5]
    show Sp p e below Tf4 (mkF m 44 #[.val (.ref t), .val (.ref d), .val (.int (0 : Int32)), .val (.int (0 : Int32)), .unset, .unset] [(.int (1 : Int32)), (.int (0 : Int32))]) _
    refine XS.icmpYes Xf4.here hx rfl (pc0 := 44) (pc' := 68) rfl (hb hby d16_44) rfl (feq (by decide : ¬ ((0 : Int32) = (1 : Int32)))).2 (by decide) (by decide) ?_
    refine XS.aloadN Xf4.here hx rfl (hb hby d16_68) rfl rfl ?_
    refine stf6 _ ?_
    refine XS.iloadN Xf6.here hx rfl (hb hby d16_72) rfl ?_
    show Sp p e below Tf6 (mkF m 73 #[.val (.ref t), .val (.ref d), .val (.int (0 : Int32)), .val (.int (0 : Int32)), .unset, .unset] [(.int (0 : Int32)), (.ref bl)]) _
    refine Xf6.aaload hx (j := (0 : Int32)) (v := (.ref bk)) (own_eq ef6 Arv5.1) (State.isArrayOf_alike hZ.alike Arv5.2.1) rfl Arv5.2.2 in7 atin7 (g := (mkF m 73 #[.val (.ref t), .val (.ref d), .val (.int (0 : Int32)), .val (.int (0 : Int32)), .unset, .unset] [(.int (0 : Int32)), (.ref bl)])) rfl rfl (hb hby d16_73) _ ?_
    show Sp p e below Tf6 (mkF m 74 #[.val (.ref t), .val (.ref d), .val (.int (0 : Int32)), .val (.int (0 : Int32)), .unset, .unset] [(.ref bk)]) _
    refine XS.ifnonnullYes Xf6.here hx rfl (pc0 := 74) (pc' := 87) rfl (hb hby d16_74) rfl (by decide) (by decide) ?_
    refine XS.aloadN Xf6.here hx rfl (hb hby d16_87) rfl rfl ?_
    refine stf8 _ ?_
    show Sp p e below Tf8 (mkF m 91 #[.val (.ref t), .val (.ref d), .val (.int (0 : Int32)), .val (.int (0 : Int32)), .unset, .unset] [(.int (1 : Int32))]) _
    refine Jvm.Stand.ldcI Xf8 hx hown (mvT hZ (tw hw 107 rfl)) rfl (hb hby d16_91) ?_
    refine XS.iand Xf8.here hx rfl (hb hby d16_93) rfl ?_
    refine XS.istore Xf8.here hx rfl (hb hby d16_94) rfl (l' := #[.val (.ref t), .val (.ref d), .val (.int (0 : Int32)), .val (.int (0 : Int32)), .val (.int (1 : Int32)), .unset]) rfl ?_
    refine XS.aloadN Xf8.here hx rfl (hb hby d16_96) rfl rfl ?_
    show Sp p e below Tf8 (mkF m 97 #[.val (.ref t), .val (.ref d), .val (.int (0 : Int32)), .val (.int (0 : Int32)), .val (.int (1 : Int32)), .unset] [(.ref d)]) _
    refine Xf8.arraylength hx (own_eq ef8 Arv1.1) (State.isArrayOf_alike hZ.alike Arv1.2.1) (g := (mkF m 97 #[.val (.ref t), .val (.ref d), .val (.int (0 : Int32)), .val (.int (0 : Int32)), .val (.int (1 : Int32)), .unset] [(.ref d)])) rfl rfl (hb hby d16_97) _ ?_
    rw [len_of Sv1 Nv1]
    show Sp p e below Tf8 (mkF m 98 #[.val (.ref t), .val (.ref d), .val (.int (0 : Int32)), .val (.int (0 : Int32)), .val (.int (1 : Int32)), .unset] [(.int (1 : Int32))]) _
    refine XS.iloadN Xf8.here hx rfl (hb hby d16_98) rfl ?_
    refine XS.isub Xf8.here hx rfl (hb hby d16_99) rfl ?_
    show Sp p e below Tf8 (mkF m 100 #[.val (.ref t), .val (.ref d), .val (.int (0 : Int32)), .val (.int (0 : Int32)), .val (.int (1 : Int32)), .unset] [(.int (1 : Int32))]) _
    refine Jvm.Stand.ldcI Xf8 hx hown (mvT hZ (tw hw 106 rfl)) rfl (hb hby d16_100) ?_
    refine XS.iload Xf8.here hx rfl (hb hby d16_102) rfl ?_
    refine XS.isub Xf8.here hx rfl (hb hby d16_104) rfl ?_
    refine stk9 _ ?_
    refine XS.istore Xk9.here hx rfl (hb hby d16_108) rfl (l' := #[.val (.ref t), .val (.ref d), .val (.int (0 : Int32)), .val (.int (0 : Int32)), .val (.int (1 : Int32)), .val (.int (1 : Int32))]) rfl ?_
    refine XS.aloadN Xk9.here hx rfl (hb hby d16_110) rfl rfl ?_
    refine XS.iloadN Xk9.here hx rfl (hb hby d16_111) rfl ?_
    refine XS.aloadN Xk9.here hx rfl (hb hby d16_112) rfl rfl ?_
    refine stf10 _ ?_
    refine XS.iloadN Xf10.here hx rfl (hb hby d16_116) rfl ?_
    show Sp p e below Tf10 (mkF m 117 #[.val (.ref t), .val (.ref d), .val (.int (0 : Int32)), .val (.int (0 : Int32)), .val (.int (1 : Int32)), .val (.int (1 : Int32))] [(.int (0 : Int32)), (.ref bl), (.int (0 : Int32)), (.ref d)]) _
    refine Xf10.aaload hx (j := (0 : Int32)) (v := (.ref bk)) (own_eq ef10 Arv5.1) (State.isArrayOf_alike hZ.alike Arv5.2.1) rfl Arv5.2.2 in11 atin11 (g := (mkF m 117 #[.val (.ref t), .val (.ref d), .val (.int (0 : Int32)), .val (.int (0 : Int32)), .val (.int (1 : Int32)), .val (.int (1 : Int32))] [(.int (0 : Int32)), (.ref bl), (.int (0 : Int32)), (.ref d)])) rfl rfl (hb hby d16_117) _ ?_
    show Sp p e below Tf10 (mkF m 118 #[.val (.ref t), .val (.ref d), .val (.int (0 : Int32)), .val (.int (0 : Int32)), .val (.int (1 : Int32)), .val (.int (1 : Int32))] [(.ref bk), (.int (0 : Int32)), (.ref d)]) _
    refine XS.iload Xf10.here hx rfl (hb hby d16_118) rfl ?_
    refine XS.iload Xf10.here hx rfl (hb hby d16_120) rfl ?_
    refine sty12 _ ?_
    refine XS.aloadN Xy12.here hx rfl (hb hby d16_125) rfl rfl ?_
    refine XS.dup Xy12.here hx rfl (hb hby d16_126) rfl rfl ?_
    refine stf15 _ ?_
    refine XS.iload Xf15.here hx rfl (hb hby d16_130) rfl ?_
    refine XS.iadd Xf15.here hx rfl (hb hby d16_132) rfl ?_
    refine stp17 _ ?_
    refine XS.iloadN Xp17.here hx rfl (hb hby d16_136) rfl ?_
    refine XS.iload Xp17.here hx rfl (hb hby d16_137) rfl ?_
    refine XS.iadd Xp17.here hx rfl (hb hby d16_139) rfl ?_
    refine XS.istoreN Xp17.here hx rfl (hb hby d16_140) rfl (l' := #[.val (.ref t), .val (.ref d), .val (.int (1 : Int32)), .val (.int (0 : Int32)), .val (.int (1 : Int32)), .val (.int (1 : Int32))]) rfl ?_
    refine XS.goto Xp17.here hx rfl (pc0 := 141) (pc' := 24) rfl (hb hby d16_141) (by decide) (by decide) ?_
    refine XS.iloadN Xp17.here hx rfl (hb hby d16_24) rfl ?_
    refine XS.aloadN Xp17.here hx rfl (hb hby d16_25) rfl rfl ?_
    show Sp p e below Tp17 (mkF m 26 #[.val (.ref t), .val (.ref d), .val (.int (1 : Int32)), .val (.int (0 : Int32)), .val (.int (1 : Int32)), .val (.int (1 : Int32))] [(.ref d), (.int (1 : Int32))]) _
    refine Xp17.arraylength hx (own_eq ep17 Arv21.1) (State.isArrayOf_alike hZ.alike Arv21.2.1) (g := (mkF m 26 #[.val (.ref t), .val (.ref d), .val (.int (1 : Int32)), .val (.int (0 : Int32)), .val (.int (1 : Int32)), .val (.int (1 : Int32))] [(.ref d), (.int (1 : Int32))])) rfl rfl (hb hby d16_26) _ ?_
    rw [len_of Sv21 Nv21]
    show Sp p e below Tp17 (mkF m 27 #[.val (.ref t), .val (.ref d), .val (.int (1 : Int32)), .val (.int (0 : Int32)), .val (.int (1 : Int32)), .val (.int (1 : Int32))] [(.int (1 : Int32)), (.int (1 : Int32))]) _
    refine XS.icmpYes Xp17.here hx rfl (pc0 := 27) (pc' := 144) rfl (hb hby d16_27) rfl (flt (by decide : ¬ ((1 : Int32) < (1 : Int32)))).2.1 (by decide) (by decide) ?_
    show Sp p e below Tp17 (mkF m 144 #[.val (.ref t), .val (.ref d), .val (.int (1 : Int32)), .val (.int (0 : Int32)), .val (.int (1 : Int32)), .val (.int (1 : Int32))] []) _
    exact Xp17.returnOut hx hret (hb hby d16_144) hlv
  · show Q_store1 Z t d kd bl kbl sl en bk kbk h0 n0 _ Tp17.heap _
    rw [ep17]
    exact ⟨rfl, Np17, K18, Fwp17, F22, F23, F24, F25, F26⟩
def Q_store2 (Z : State) (t : Addr) (d : Addr) (kd : ClassId) (bl : Addr) (kbl : ClassId) (sl : Addr) (en : Addr) (bk : Addr) (kbk : ClassId) (h0 : Heap) (n0 : Nat) (v : Option Value) (h : Heap) (L : List Loc) : Prop := v = none ∧ Fr n0 L ∧ Keep h0 h [t, bk] ∧ Fld Z h t S1 "stored" "I" (.int (3 : Int32)) ∧ Fld Z h t S1 "blocks" "[[B" (.ref bl) ∧ Fld Z h t S1 "size" "I" (.int (2 : Int32)) ∧ Fld Z h t S1 "slots" "[J" (.ref sl) ∧ Fld Z h t S1 "ends" "[I" (.ref en) ∧ Arv Z h bk kbk .byte (65536 : Int32) [(.int (97 : Int32)), (.int (98 : Int32)), (.int (99 : Int32)), (.int (0 : Int32)), (.int (0 : Int32)), (.int (0 : Int32)), (.int (0 : Int32)), (.int (0 : Int32))] (.int (0 : Int32))
set_option maxRecDepth 65536 in
set_option maxHeartbeats 40000000 in
theorem rm_store2 (l : Launch) (Z : State) (a0 : Array Value) (hw : ∀ d ∈ tables_1, d.before a0 Z = true) (ws : List Jvm.Cond) (t : Addr) (d : Addr) (kd : ClassId) (bl : Addr) (kbl : ClassId) (sl : Addr) (en : Addr) (bk : Addr) (kbk : ClassId) (h0 : Heap) (n0 : Nat) (Z0 : n0 ≤ h0.size) (O0 : Old Z n0 h0) (f0 : Exa Z h0 t S1) (f1 : Fld Z h0 t S1 "stored" "I" (.int (2 : Int32))) (f2 : Fld Z h0 t S1 "blocks" "[[B" (.ref bl)) (f3 : Arv Z h0 d kd .byte (1 : Int32) [(.int (99 : Int32))] (.int (0 : Int32))) (f4 : Fld Z h0 t S1 "size" "I" (.int (2 : Int32))) (f5 : Fld Z h0 t S1 "slots" "[J" (.ref sl)) (f6 : Fld Z h0 t S1 "ends" "[I" (.ref en)) (f7 : Arv Z h0 bl kbl (.array .byte) (1 : Int32) [(.ref bk)] .null) (f8 : Arv Z h0 bk kbk .byte (65536 : Int32) [(.int (97 : Int32)), (.int (98 : Int32)), (.int (0 : Int32)), (.int (0 : Int32)), (.int (0 : Int32)), (.int (0 : Int32)), (.int (0 : Int32)), (.int (0 : Int32))] (.int (0 : Int32))) (gt : n0 ≤ t) (gbk : n0 ≤ bk) (htb : t ≠ bk) (hdb : d ≠ bk) (hbb : bl ≠ bk) :
    MetFree l Y10 (head1 (Jvm.Cond.code Y10 prog_57_method_10_code 6 none :: ws) ({ frames := 1, cells := 0, slots := 0, locals := 40 } : Room)) (fun A_ U => A_ = #[(.ref t), (.ref d)] ∧ Z.Warmed39 U.vm ∧ U.heap = h0) (fun _ _ _ _ _ => True) (fun _ U o_ U' => ∃ v_ L_, o_ = .returned v_ ∧ Q_store2 Z t d kd bl kbl sl en bk kbk h0 n0 v_ U'.heap L_ ∧ FrameEnd U o_ U' L_ ({ frames := 1, cells := 0, slots := 0, locals := 40 } : Room).cells ({ frames := 1, cells := 0, slots := 0, locals := 40 } : Room).slots) := by
  refine MetFree.of_bodySF (plainFor_of_name pn_2) hisR ?_
  intro p e s m args below meth c s₁ Bd hml0 hP hK
  obtain ⟨rfl, hZ, hh⟩ := hP
  have hx := Bd.exec
  have hby := Bd.bytes
  have hml : c.maxLocals = 6 := hml0
  have hown : s.vm.findClass S1 = some m.cls := findClass_of_methodNamed Bd.named
  have hnm := (name_of_methodNamed Bd.named Bd.method).1
  have hret := Bd.returns
  have X0 : Stand p l e ({ frames := 1, cells := 0, slots := 0, locals := 40 } : Room) s m #[(.ref t), (.ref d)] below meth c s₁ [] 0 0 := Stand.of_body Bd
  have e0 : s₁.heap = h0 := by rw [← hh, Bd.state]; rfl
  have N0 := Fr.nil n0
  have pre0 : ∀ t_, Sp p e below s₁ (mkF m 0 #[.val (.ref t), .val (.ref d), .unset, .unset, .unset, .unset] []) t_ → Sp p e below s₁ (entryFrame m #[(.ref t), (.ref d)] 6) t_ := fun t_ k_ => castTop (ef_16_RR m t d) k_
  obtain ⟨clv1, Arv1, qv1, Sv1, Nv1, Hv1, Gv1⟩ := id f3
  obtain ⟨Tf2, Xf2, ef2, stf2⟩ := getF X0 hx hZ hown (host := "") (Or.inl (tw hw 104 rfl)) Via.refl e0 f1 (g := (mkF m 5 #[.val (.ref t), .val (.ref d), .unset, .unset, .unset, .unset] [(.ref t), (.int (2147483647 : Int32)), (.int (1 : Int32))])) rfl rfl (hb hby d16_5)
  obtain ⟨Tf3, Xf3, ef3, stf3⟩ := getF Xf2 hx hZ hown (host := "") (Or.inl (tw hw 104 rfl)) Via.refl ef2 f1 (g := (mkF m 31 #[.val (.ref t), .val (.ref d), .val (.int (0 : Int32)), .unset, .unset, .unset] [(.ref t)])) rfl rfl (hb hby d16_31)
  obtain ⟨Tf4, Xf4, ef4, stf4⟩ := getF Xf3 hx hZ hown (host := "") (Or.inl (tw hw 18 rfl)) Via.refl ef3 f2 (g := (mkF m 40 #[.val (.ref t), .val (.ref d), .val (.int (0 : Int32)), .val (.int (0 : Int32)), .unset, .unset] [(.ref t), (.int (0 : Int32))])) rfl rfl (hb hby d16_40)
  obtain ⟨clv5, Arv5, qv5, Sv5, Nv5, Hv5, Gv5⟩ := id f7
  obtain ⟨Tf6, Xf6, ef6, stf6⟩ := getF Xf4 hx hZ hown (host := "") (Or.inl (tw hw 18 rfl)) Via.refl ef4 f2 (g := (mkF m 69 #[.val (.ref t), .val (.ref d), .val (.int (0 : Int32)), .val (.int (0 : Int32)), .unset, .unset] [(.ref t)])) rfl rfl (hb hby d16_69)
  have in7 : ¬ ((0 : Int32) < 0 ∨ clv5.slots.size ≤ ((0 : Int32)).toNatClampNeg) := inb_of Sv5 ⟨by decide, by decide⟩
  have atin7 : clv5.slots[((0 : Int32)).toNatClampNeg]? = some (.ref bk) := Has.at Hv5 in7 rfl
  obtain ⟨Tf8, Xf8, ef8, stf8⟩ := getF Xf6 hx hZ hown (host := "") (Or.inl (tw hw 104 rfl)) Via.refl ef6 f1 (g := (mkF m 88 #[.val (.ref t), .val (.ref d), .val (.int (0 : Int32)), .val (.int (0 : Int32)), .unset, .unset] [(.ref t)])) rfl rfl (hb hby d16_88)
  obtain ⟨_, _, ⟨Tk9, Lk9, kk9, nk9⟩, -, Xk9, ⟨Lck9, hQk9, lk9, yk9, zk9⟩, stk9⟩ := Jvm.LawKit.callS Xf8 hx (y := Y9) hown (mvT hZ (tw hw 108 rfl)) (mvT hZ (tw hw 109 rfl)) (mvT hZ (tw hw 110 rfl)) (mvT hZ (tw hw 111 rfl)) (by decide) (backOf (W := 0) (rm_min l Z a0 hw [] (1 : Int32) (65534 : Int32) (1 : Int32)  h0 n0 Z0 O0 rfl) hZ (tw hw 111 rfl) (tw hw 110 rfl) (by decide) (by decide)) (g := (mkF m 105 #[.val (.ref t), .val (.ref d), .val (.int (0 : Int32)), .val (.int (0 : Int32)), .val (.int (2 : Int32)), .unset] [(.int (65534 : Int32)), (.int (1 : Int32))])) rfl (by rw [hml]; rfl) (argsL := [(.int (1 : Int32)), (.int (65534 : Int32))]) (rest := []) (lenOf pd__II_I rfl) rfl (by show 2 * 0 + _ ≤ _; exact Nat.le_of_eq rfl) (hb hby d16_105) (fun _ _ => ⟨rfl, ef8, (by decide : 0 + 0 ≤ _), (by decide : 0 + 0 ≤ _)⟩)
  dsimp only [Pt.U, Pt.locs, Pt.cells, Pt.slots] at Xk9 lk9 yk9 zk9 stk9 hQk9
  subst lk9 yk9 zk9
  obtain ⟨rfl, Nk9q, ek9⟩ := hQk9
  have Nk9 := Fr.app N0 Nk9q
  obtain ⟨Tf10, Xf10, ef10, stf10⟩ := getF Xk9 hx hZ hown (host := "") (Or.inl (tw hw 18 rfl)) Via.refl ek9 f2 (g := (mkF m 113 #[.val (.ref t), .val (.ref d), .val (.int (0 : Int32)), .val (.int (0 : Int32)), .val (.int (2 : Int32)), .val (.int (1 : Int32))] [(.ref t), (.int (0 : Int32)), (.ref d)])) rfl rfl (hb hby d16_113)
  have in11 : ¬ ((0 : Int32) < 0 ∨ clv5.slots.size ≤ ((0 : Int32)).toNatClampNeg) := inb_of Sv5 ⟨by decide, by decide⟩
  have atin11 : clv5.slots[((0 : Int32)).toNatClampNeg]? = some (.ref bk) := Has.at Hv5 in11 rfl
  obtain ⟨Ty12, hy12, Ly12, Xy12, ey12, Ny12, Ky12, Vy12, sty12⟩ := cpA Xf10 hx hZ hown (tw hw 112 rfl) (tw hw 115 rfl) (tw hw 113 rfl) (tw hw 114 rfl) ef10 f3 f8 (Or.inl ⟨rfl, rfl⟩) (by decide) (by decide) (by decide) (by decide) (by decide) rfl (by decide) Nk9 gbk (g := (mkF m 122 #[.val (.ref t), .val (.ref d), .val (.int (0 : Int32)), .val (.int (0 : Int32)), .val (.int (2 : Int32)), .val (.int (1 : Int32))] [(.int (1 : Int32)), (.int (2 : Int32)), (.ref bk), (.int (0 : Int32)), (.ref d)])) rfl (by rw [hml]; rfl) rfl (hb hby d16_122) (by decide) (W := 0) (by show 2 * 0 + _ ≤ _; exact Nat.le_of_eq rfl) (by decide)
  have K13 : Keep h0 hy12 [t, bk] := (Keep.refl h0 [t, bk]).trans Ky12 (allS (P := fun x => x ∈ ([t, bk] : List Addr) ∨ h0.size ≤ x) (Or.inl (List.mem_of_getElem? (i := 1) rfl)) all0)
  have Vcy12 : Arv Z hy12 bk kbk .byte (65536 : Int32) [(.int (97 : Int32)), (.int (98 : Int32)), (.int (99 : Int32)), (.int (0 : Int32)), (.int (0 : Int32)), (.int (0 : Int32)), (.int (0 : Int32)), (.int (0 : Int32))] (.int (0 : Int32)) := Vy12
  have F14 := (f1.keep Ky12 (ninS htb nin0))
  obtain ⟨Tf15, Xf15, ef15, stf15⟩ := getF Xy12 hx hZ hown (host := "") (Or.inl (tw hw 104 rfl)) Via.refl ey12 F14 (g := (mkF m 127 #[.val (.ref t), .val (.ref d), .val (.int (0 : Int32)), .val (.int (0 : Int32)), .val (.int (2 : Int32)), .val (.int (1 : Int32))] [(.ref t), (.ref t)])) rfl rfl (hb hby d16_127)
  have F16 := (f0.keep Ky12)
  obtain ⟨Tp17, hp17, Xp17, ep17, Wp17, stp17⟩ := putF Xf15 hx hZ hown (host := "") (Or.inl (tw hw 104 rfl)) Via.refl ef15 F14 F16 (Or.inl (tw hw 105 rfl)) (tw hw 2 rfl) (ty := .int) (by decide) rfl rfl (g := (mkF m 133 #[.val (.ref t), .val (.ref d), .val (.int (0 : Int32)), .val (.int (0 : Int32)), .val (.int (2 : Int32)), .val (.int (1 : Int32))] [(.int (3 : Int32)), (.ref t)])) rfl rfl (hb hby d16_133)
  have Fwp17 : Fld Z hp17 t S1 "stored" "I" (.int (3 : Int32)) := F14.same Wp17
  have Np17 := Fr.snoc Xp17 Ny12 gt
  have K18 : Keep h0 hp17 [t, bk] := K13.wr Wp17 (Or.inl (List.mem_of_getElem? (i := 0) rfl))
  have ne19 : t ≠ d := Exa.neArv f0 f3 (tw hw 2 rfl)
  have F20 := ((f3.keep Ky12 (ninS hdb nin0)).other Wp17 (Ne.symm ne19))
  obtain ⟨clv21, Arv21, qv21, Sv21, Nv21, Hv21, Gv21⟩ := id F20
  have F22 := ((f2.keep Ky12 (ninS htb nin0)).other Wp17 (Or.inr (slot_ne (Or.inl (tw hw 19 rfl)) (Or.inl (tw hw 105 rfl)) (by decide) (t := (.array (.array .byte))) (t' := .int) (by decide) (by decide))))
  have F23 := ((f4.keep Ky12 (ninS htb nin0)).other Wp17 (Or.inr (slot_ne (Or.inl (tw hw 30 rfl)) (Or.inl (tw hw 105 rfl)) (by decide) (t := .int) (t' := .int) (by decide) (by decide))))
  have F24 := ((f5.keep Ky12 (ninS htb nin0)).other Wp17 (Or.inr (slot_ne (Or.inl (tw hw 12 rfl)) (Or.inl (tw hw 105 rfl)) (by decide) (t := (.array .long)) (t' := .int) (by decide) (by decide))))
  have F25 := ((f6.keep Ky12 (ninS htb nin0)).other Wp17 (Or.inr (slot_ne (Or.inl (tw hw 15 rfl)) (Or.inl (tw hw 105 rfl)) (by decide) (t := (.array .int)) (t' := .int) (by decide) (by decide))))
  have F26 := (Vcy12.other Wp17 (Ne.symm htb))
  obtain ⟨fs, hlv, hrun, hended, hW, hsame⟩ := Xp17.leave (v := none) (fun _ => rfl)
  refine ⟨_, _, pre0 _ ?_, hrun, hended, _, _, rfl, ?_, ⟨_, rfl⟩, hW, hsame.mono (by decide) (by decide)⟩
  · refine XS.aloadN X0.here hx rfl (hb hby d16_0) rfl rfl ?_
    show Sp p e below s₁ (mkF m 1 #[.val (.ref t), .val (.ref d), .unset, .unset, .unset, .unset] [(.ref d)]) _
    refine X0.arraylength hx (own_eq e0 Arv1.1) (State.isArrayOf_alike hZ.alike Arv1.2.1) (g := (mkF m 1 #[.val (.ref t), .val (.ref d), .unset, .unset, .unset, .unset] [(.ref d)])) rfl rfl (hb hby d16_1) _ ?_
    rw [len_of Sv1 Nv1]
    show Sp p e below s₁ (mkF m 2 #[.val (.ref t), .val (.ref d), .unset, .unset, .unset, .unset] [(.int (1 : Int32))]) _
    refine Jvm.Stand.ldcI X0 hx hown (mvT hZ (tw hw 103 rfl)) rfl (hb hby d16_2) ?_
    refine XS.aloadN X0.here hx rfl (hb hby d16_4) rfl rfl ?_
    refine stf2 _ ?_
    refine XS.isub Xf2.here hx rfl (hb hby d16_8) rfl ?_
    refine XS.icmpYes Xf2.here hx rfl (pc0 := 9) (pc' := 22) rfl (hb hby d16_9) rfl (flt (by decide : ¬ ((2147483645 : Int32) < (1 : Int32)))).2.2.2 (by decide) (by decide) ?_
    refine XS.iconst Xf2.here hx rfl (hb hby d16_22) ?_
    refine XS.istoreN Xf2.here hx rfl (hb hby d16_23) rfl (l' := #[.val (.ref t), .val (.ref d), .val (.int (0 : Int32)), .unset, .unset, .unset]) rfl ?_
    refine XS.iloadN Xf2.here hx rfl (hb hby d16_24) rfl ?_
    refine XS.aloadN Xf2.here hx rfl (hb hby d16_25) rfl rfl ?_
    show Sp p e below Tf2 (mkF m 26 #[.val (.ref t), .val (.ref d), .val (.int (0 : Int32)), .unset, .unset, .unset] [(.ref d), (.int (0 : Int32))]) _
    refine Xf2.arraylength hx (own_eq ef2 Arv1.1) (State.isArrayOf_alike hZ.alike Arv1.2.1) (g := (mkF m 26 #[.val (.ref t), .val (.ref d), .val (.int (0 : Int32)), .unset, .unset, .unset] [(.ref d), (.int (0 : Int32))])) rfl rfl (hb hby d16_26) _ ?_
    rw [len_of Sv1 Nv1]
    show Sp p e below Tf2 (mkF m 27 #[.val (.ref t), .val (.ref d), .val (.int (0 : Int32)), .unset, .unset, .unset] [(.int (1 : Int32)), (.int (0 : Int32))]) _
    refine XS.icmpNo Xf2.here hx rfl (hb hby d16_27) rfl (tlt (by decide : (0 : Int32) < (1 : Int32))).2.1 ?_
    refine XS.aloadN Xf2.here hx rfl (hb hby d16_30) rfl rfl ?_
    refine stf3 _ ?_
    refine XS.bipush Xf3.here hx rfl (hb hby d16_34) ?_
    refine XS.iushr Xf3.here hx rfl (hb hby d16_36) rfl ?_
    refine XS.istoreN Xf3.here hx rfl (hb hby d16_37) rfl (l' := #[.val (.ref t), .val (.ref d), .val (.int (0 : Int32)), .val (.int (0 : Int32)), .unset, .unset]) rfl ?_
    refine XS.iloadN Xf3.here hx rfl (hb hby d16_38) rfl ?_
    refine XS.aloadN Xf3.here hx rfl (hb hby d16_39) rfl rfl ?_
    refine stf4 _ ?_
    show Sp p e below Tf4 (mkF m 43 #[.val (.ref t), .val (.ref d), .val (.int (0 : Int32)), .val (.int (0 : Int32)), .unset, .unset] [(.ref bl), (.int (0 : Int32))]) _
    refine Xf4.arraylength hx (own_eq ef4 Arv5.1) (State.isArrayOf_alike hZ.alike Arv5.2.1) (g := (mkF m 43 #[.val (.ref t), .val (.ref d), .val (.int (0 : Int32)), .val (.int (0 : Int32)), .unset, .unset] [(.ref bl), (.int (0 : Int32))])) rfl rfl (hb hby d16_43) _ ?_
    rw [len_of Sv5 Nv5]
    show Sp p e below Tf4 (mkF m 44 #[.val (.ref t), .val (.ref d), .val (.int (0 : Int32)), .val (.int (0 : Int32)), .unset, .unset] [(.int (1 : Int32)), (.int (0 : Int32))]) _
    refine XS.icmpYes Xf4.here hx rfl (pc0 := 44) (pc' := 68) rfl (hb hby d16_44) rfl (feq (by decide : ¬ ((0 : Int32) = (1 : Int32)))).2 (by decide) (by decide) ?_
    refine XS.aloadN Xf4.here hx rfl (hb hby d16_68) rfl rfl ?_
    refine stf6 _ ?_
    refine XS.iloadN Xf6.here hx rfl (hb hby d16_72) rfl ?_
    show Sp p e below Tf6 (mkF m 73 #[.val (.ref t), .val (.ref d), .val (.int (0 : Int32)), .val (.int (0 : Int32)), .unset, .unset] [(.int (0 : Int32)), (.ref bl)]) _
    refine Xf6.aaload hx (j := (0 : Int32)) (v := (.ref bk)) (own_eq ef6 Arv5.1) (State.isArrayOf_alike hZ.alike Arv5.2.1) rfl Arv5.2.2 in7 atin7 (g := (mkF m 73 #[.val (.ref t), .val (.ref d), .val (.int (0 : Int32)), .val (.int (0 : Int32)), .unset, .unset] [(.int (0 : Int32)), (.ref bl)])) rfl rfl (hb hby d16_73) _ ?_
    show Sp p e below Tf6 (mkF m 74 #[.val (.ref t), .val (.ref d), .val (.int (0 : Int32)), .val (.int (0 : Int32)), .unset, .unset] [(.ref bk)]) _
    refine XS.ifnonnullYes Xf6.here hx rfl (pc0 := 74) (pc' := 87) rfl (hb hby d16_74) rfl (by decide) (by decide) ?_
    refine XS.aloadN Xf6.here hx rfl (hb hby d16_87) rfl rfl ?_
    refine stf8 _ ?_
    show Sp p e below Tf8 (mkF m 91 #[.val (.ref t), .val (.ref d), .val (.int (0 : Int32)), .val (.int (0 : Int32)), .unset, .unset] [(.int (2 : Int32))]) _
    refine Jvm.Stand.ldcI Xf8 hx hown (mvT hZ (tw hw 107 rfl)) rfl (hb hby d16_91) ?_
    refine XS.iand Xf8.here hx rfl (hb hby d16_93) rfl ?_
    refine XS.istore Xf8.here hx rfl (hb hby d16_94) rfl (l' := #[.val (.ref t), .val (.ref d), .val (.int (0 : Int32)), .val (.int (0 : Int32)), .val (.int (2 : Int32)), .unset]) rfl ?_
    refine XS.aloadN Xf8.here hx rfl (hb hby d16_96) rfl rfl ?_
    show Sp p e below Tf8 (mkF m 97 #[.val (.ref t), .val (.ref d), .val (.int (0 : Int32)), .val (.int (0 : Int32)), .val (.int (2 : Int32)), .unset] [(.ref d)]) _
    refine Xf8.arraylength hx (own_eq ef8 Arv1.1) (State.isArrayOf_alike hZ.alike Arv1.2.1) (g := (mkF m 97 #[.val (.ref t), .val (.ref d), .val (.int (0 : Int32)), .val (.int (0 : Int32)), .val (.int (2 : Int32)), .unset] [(.ref d)])) rfl rfl (hb hby d16_97) _ ?_
    rw [len_of Sv1 Nv1]
    show Sp p e below Tf8 (mkF m 98 #[.val (.ref t), .val (.ref d), .val (.int (0 : Int32)), .val (.int (0 : Int32)), .val (.int (2 : Int32)), .unset] [(.int (1 : Int32))]) _
    refine XS.iloadN Xf8.here hx rfl (hb hby d16_98) rfl ?_
    refine XS.isub Xf8.here hx rfl (hb hby d16_99) rfl ?_
    show Sp p e below Tf8 (mkF m 100 #[.val (.ref t), .val (.ref d), .val (.int (0 : Int32)), .val (.int (0 : Int32)), .val (.int (2 : Int32)), .unset] [(.int (1 : Int32))]) _
    refine Jvm.Stand.ldcI Xf8 hx hown (mvT hZ (tw hw 106 rfl)) rfl (hb hby d16_100) ?_
    refine XS.iload Xf8.here hx rfl (hb hby d16_102) rfl ?_
    refine XS.isub Xf8.here hx rfl (hb hby d16_104) rfl ?_
    refine stk9 _ ?_
    refine XS.istore Xk9.here hx rfl (hb hby d16_108) rfl (l' := #[.val (.ref t), .val (.ref d), .val (.int (0 : Int32)), .val (.int (0 : Int32)), .val (.int (2 : Int32)), .val (.int (1 : Int32))]) rfl ?_
    refine XS.aloadN Xk9.here hx rfl (hb hby d16_110) rfl rfl ?_
    refine XS.iloadN Xk9.here hx rfl (hb hby d16_111) rfl ?_
    refine XS.aloadN Xk9.here hx rfl (hb hby d16_112) rfl rfl ?_
    refine stf10 _ ?_
    refine XS.iloadN Xf10.here hx rfl (hb hby d16_116) rfl ?_
    show Sp p e below Tf10 (mkF m 117 #[.val (.ref t), .val (.ref d), .val (.int (0 : Int32)), .val (.int (0 : Int32)), .val (.int (2 : Int32)), .val (.int (1 : Int32))] [(.int (0 : Int32)), (.ref bl), (.int (0 : Int32)), (.ref d)]) _
    refine Xf10.aaload hx (j := (0 : Int32)) (v := (.ref bk)) (own_eq ef10 Arv5.1) (State.isArrayOf_alike hZ.alike Arv5.2.1) rfl Arv5.2.2 in11 atin11 (g := (mkF m 117 #[.val (.ref t), .val (.ref d), .val (.int (0 : Int32)), .val (.int (0 : Int32)), .val (.int (2 : Int32)), .val (.int (1 : Int32))] [(.int (0 : Int32)), (.ref bl), (.int (0 : Int32)), (.ref d)])) rfl rfl (hb hby d16_117) _ ?_
    show Sp p e below Tf10 (mkF m 118 #[.val (.ref t), .val (.ref d), .val (.int (0 : Int32)), .val (.int (0 : Int32)), .val (.int (2 : Int32)), .val (.int (1 : Int32))] [(.ref bk), (.int (0 : Int32)), (.ref d)]) _
    refine XS.iload Xf10.here hx rfl (hb hby d16_118) rfl ?_
    refine XS.iload Xf10.here hx rfl (hb hby d16_120) rfl ?_
    refine sty12 _ ?_
    refine XS.aloadN Xy12.here hx rfl (hb hby d16_125) rfl rfl ?_
    refine XS.dup Xy12.here hx rfl (hb hby d16_126) rfl rfl ?_
    refine stf15 _ ?_
    refine XS.iload Xf15.here hx rfl (hb hby d16_130) rfl ?_
    refine XS.iadd Xf15.here hx rfl (hb hby d16_132) rfl ?_
    refine stp17 _ ?_
    refine XS.iloadN Xp17.here hx rfl (hb hby d16_136) rfl ?_
    refine XS.iload Xp17.here hx rfl (hb hby d16_137) rfl ?_
    refine XS.iadd Xp17.here hx rfl (hb hby d16_139) rfl ?_
    refine XS.istoreN Xp17.here hx rfl (hb hby d16_140) rfl (l' := #[.val (.ref t), .val (.ref d), .val (.int (1 : Int32)), .val (.int (0 : Int32)), .val (.int (2 : Int32)), .val (.int (1 : Int32))]) rfl ?_
    refine XS.goto Xp17.here hx rfl (pc0 := 141) (pc' := 24) rfl (hb hby d16_141) (by decide) (by decide) ?_
    refine XS.iloadN Xp17.here hx rfl (hb hby d16_24) rfl ?_
    refine XS.aloadN Xp17.here hx rfl (hb hby d16_25) rfl rfl ?_
    show Sp p e below Tp17 (mkF m 26 #[.val (.ref t), .val (.ref d), .val (.int (1 : Int32)), .val (.int (0 : Int32)), .val (.int (2 : Int32)), .val (.int (1 : Int32))] [(.ref d), (.int (1 : Int32))]) _
    refine Xp17.arraylength hx (own_eq ep17 Arv21.1) (State.isArrayOf_alike hZ.alike Arv21.2.1) (g := (mkF m 26 #[.val (.ref t), .val (.ref d), .val (.int (1 : Int32)), .val (.int (0 : Int32)), .val (.int (2 : Int32)), .val (.int (1 : Int32))] [(.ref d), (.int (1 : Int32))])) rfl rfl (hb hby d16_26) _ ?_
    rw [len_of Sv21 Nv21]
    show Sp p e below Tp17 (mkF m 27 #[.val (.ref t), .val (.ref d), .val (.int (1 : Int32)), .val (.int (0 : Int32)), .val (.int (2 : Int32)), .val (.int (1 : Int32))] [(.int (1 : Int32)), (.int (1 : Int32))]) _
    refine XS.icmpYes Xp17.here hx rfl (pc0 := 27) (pc' := 144) rfl (hb hby d16_27) rfl (flt (by decide : ¬ ((1 : Int32) < (1 : Int32)))).2.1 (by decide) (by decide) ?_
    show Sp p e below Tp17 (mkF m 144 #[.val (.ref t), .val (.ref d), .val (.int (1 : Int32)), .val (.int (0 : Int32)), .val (.int (2 : Int32)), .val (.int (1 : Int32))] []) _
    exact Xp17.returnOut hx hret (hb hby d16_144) hlv
  · show Q_store2 Z t d kd bl kbl sl en bk kbk h0 n0 _ Tp17.heap _
    rw [ep17]
    exact ⟨rfl, Np17, K18, Fwp17, F22, F23, F24, F25, F26⟩
def Q_store3 (Z : State) (t : Addr) (d : Addr) (kd : ClassId) (bl : Addr) (kbl : ClassId) (sl : Addr) (en : Addr) (bk : Addr) (kbk : ClassId) (h0 : Heap) (n0 : Nat) (v : Option Value) (h : Heap) (L : List Loc) : Prop := v = none ∧ Fr n0 L ∧ Keep h0 h [t, bk] ∧ Fld Z h t S1 "stored" "I" (.int (4 : Int32)) ∧ Fld Z h t S1 "blocks" "[[B" (.ref bl) ∧ Fld Z h t S1 "size" "I" (.int (3 : Int32)) ∧ Fld Z h t S1 "slots" "[J" (.ref sl) ∧ Fld Z h t S1 "ends" "[I" (.ref en) ∧ Arv Z h bk kbk .byte (65536 : Int32) [(.int (97 : Int32)), (.int (98 : Int32)), (.int (99 : Int32)), (.int (100 : Int32)), (.int (0 : Int32)), (.int (0 : Int32)), (.int (0 : Int32)), (.int (0 : Int32))] (.int (0 : Int32))
set_option maxRecDepth 65536 in
set_option maxHeartbeats 40000000 in
theorem rm_store3 (l : Launch) (Z : State) (a0 : Array Value) (hw : ∀ d ∈ tables_1, d.before a0 Z = true) (ws : List Jvm.Cond) (t : Addr) (d : Addr) (kd : ClassId) (bl : Addr) (kbl : ClassId) (sl : Addr) (en : Addr) (bk : Addr) (kbk : ClassId) (h0 : Heap) (n0 : Nat) (Z0 : n0 ≤ h0.size) (O0 : Old Z n0 h0) (f0 : Exa Z h0 t S1) (f1 : Fld Z h0 t S1 "stored" "I" (.int (3 : Int32))) (f2 : Fld Z h0 t S1 "blocks" "[[B" (.ref bl)) (f3 : Arv Z h0 d kd .byte (1 : Int32) [(.int (100 : Int32))] (.int (0 : Int32))) (f4 : Fld Z h0 t S1 "size" "I" (.int (3 : Int32))) (f5 : Fld Z h0 t S1 "slots" "[J" (.ref sl)) (f6 : Fld Z h0 t S1 "ends" "[I" (.ref en)) (f7 : Arv Z h0 bl kbl (.array .byte) (1 : Int32) [(.ref bk)] .null) (f8 : Arv Z h0 bk kbk .byte (65536 : Int32) [(.int (97 : Int32)), (.int (98 : Int32)), (.int (99 : Int32)), (.int (0 : Int32)), (.int (0 : Int32)), (.int (0 : Int32)), (.int (0 : Int32)), (.int (0 : Int32))] (.int (0 : Int32))) (gt : n0 ≤ t) (gbk : n0 ≤ bk) (htb : t ≠ bk) (hdb : d ≠ bk) (hbb : bl ≠ bk) :
    MetFree l Y10 (head1 (Jvm.Cond.code Y10 prog_57_method_10_code 6 none :: ws) ({ frames := 1, cells := 0, slots := 0, locals := 40 } : Room)) (fun A_ U => A_ = #[(.ref t), (.ref d)] ∧ Z.Warmed39 U.vm ∧ U.heap = h0) (fun _ _ _ _ _ => True) (fun _ U o_ U' => ∃ v_ L_, o_ = .returned v_ ∧ Q_store3 Z t d kd bl kbl sl en bk kbk h0 n0 v_ U'.heap L_ ∧ FrameEnd U o_ U' L_ ({ frames := 1, cells := 0, slots := 0, locals := 40 } : Room).cells ({ frames := 1, cells := 0, slots := 0, locals := 40 } : Room).slots) := by
  refine MetFree.of_bodySF (plainFor_of_name pn_2) hisR ?_
  intro p e s m args below meth c s₁ Bd hml0 hP hK
  obtain ⟨rfl, hZ, hh⟩ := hP
  have hx := Bd.exec
  have hby := Bd.bytes
  have hml : c.maxLocals = 6 := hml0
  have hown : s.vm.findClass S1 = some m.cls := findClass_of_methodNamed Bd.named
  have hnm := (name_of_methodNamed Bd.named Bd.method).1
  have hret := Bd.returns
  have X0 : Stand p l e ({ frames := 1, cells := 0, slots := 0, locals := 40 } : Room) s m #[(.ref t), (.ref d)] below meth c s₁ [] 0 0 := Stand.of_body Bd
  have e0 : s₁.heap = h0 := by rw [← hh, Bd.state]; rfl
  have N0 := Fr.nil n0
  have pre0 : ∀ t_, Sp p e below s₁ (mkF m 0 #[.val (.ref t), .val (.ref d), .unset, .unset, .unset, .unset] []) t_ → Sp p e below s₁ (entryFrame m #[(.ref t), (.ref d)] 6) t_ := fun t_ k_ => castTop (ef_16_RR m t d) k_
  obtain ⟨clv1, Arv1, qv1, Sv1, Nv1, Hv1, Gv1⟩ := id f3
  obtain ⟨Tf2, Xf2, ef2, stf2⟩ := getF X0 hx hZ hown (host := "") (Or.inl (tw hw 104 rfl)) Via.refl e0 f1 (g := (mkF m 5 #[.val (.ref t), .val (.ref d), .unset, .unset, .unset, .unset] [(.ref t), (.int (2147483647 : Int32)), (.int (1 : Int32))])) rfl rfl (hb hby d16_5)
  obtain ⟨Tf3, Xf3, ef3, stf3⟩ := getF Xf2 hx hZ hown (host := "") (Or.inl (tw hw 104 rfl)) Via.refl ef2 f1 (g := (mkF m 31 #[.val (.ref t), .val (.ref d), .val (.int (0 : Int32)), .unset, .unset, .unset] [(.ref t)])) rfl rfl (hb hby d16_31)
  obtain ⟨Tf4, Xf4, ef4, stf4⟩ := getF Xf3 hx hZ hown (host := "") (Or.inl (tw hw 18 rfl)) Via.refl ef3 f2 (g := (mkF m 40 #[.val (.ref t), .val (.ref d), .val (.int (0 : Int32)), .val (.int (0 : Int32)), .unset, .unset] [(.ref t), (.int (0 : Int32))])) rfl rfl (hb hby d16_40)
  obtain ⟨clv5, Arv5, qv5, Sv5, Nv5, Hv5, Gv5⟩ := id f7
  obtain ⟨Tf6, Xf6, ef6, stf6⟩ := getF Xf4 hx hZ hown (host := "") (Or.inl (tw hw 18 rfl)) Via.refl ef4 f2 (g := (mkF m 69 #[.val (.ref t), .val (.ref d), .val (.int (0 : Int32)), .val (.int (0 : Int32)), .unset, .unset] [(.ref t)])) rfl rfl (hb hby d16_69)
  have in7 : ¬ ((0 : Int32) < 0 ∨ clv5.slots.size ≤ ((0 : Int32)).toNatClampNeg) := inb_of Sv5 ⟨by decide, by decide⟩
  have atin7 : clv5.slots[((0 : Int32)).toNatClampNeg]? = some (.ref bk) := Has.at Hv5 in7 rfl
  obtain ⟨Tf8, Xf8, ef8, stf8⟩ := getF Xf6 hx hZ hown (host := "") (Or.inl (tw hw 104 rfl)) Via.refl ef6 f1 (g := (mkF m 88 #[.val (.ref t), .val (.ref d), .val (.int (0 : Int32)), .val (.int (0 : Int32)), .unset, .unset] [(.ref t)])) rfl rfl (hb hby d16_88)
  obtain ⟨_, _, ⟨Tk9, Lk9, kk9, nk9⟩, -, Xk9, ⟨Lck9, hQk9, lk9, yk9, zk9⟩, stk9⟩ := Jvm.LawKit.callS Xf8 hx (y := Y9) hown (mvT hZ (tw hw 108 rfl)) (mvT hZ (tw hw 109 rfl)) (mvT hZ (tw hw 110 rfl)) (mvT hZ (tw hw 111 rfl)) (by decide) (backOf (W := 0) (rm_min l Z a0 hw [] (1 : Int32) (65533 : Int32) (1 : Int32)  h0 n0 Z0 O0 rfl) hZ (tw hw 111 rfl) (tw hw 110 rfl) (by decide) (by decide)) (g := (mkF m 105 #[.val (.ref t), .val (.ref d), .val (.int (0 : Int32)), .val (.int (0 : Int32)), .val (.int (3 : Int32)), .unset] [(.int (65533 : Int32)), (.int (1 : Int32))])) rfl (by rw [hml]; rfl) (argsL := [(.int (1 : Int32)), (.int (65533 : Int32))]) (rest := []) (lenOf pd__II_I rfl) rfl (by show 2 * 0 + _ ≤ _; exact Nat.le_of_eq rfl) (hb hby d16_105) (fun _ _ => ⟨rfl, ef8, (by decide : 0 + 0 ≤ _), (by decide : 0 + 0 ≤ _)⟩)
  dsimp only [Pt.U, Pt.locs, Pt.cells, Pt.slots] at Xk9 lk9 yk9 zk9 stk9 hQk9
  subst lk9 yk9 zk9
  obtain ⟨rfl, Nk9q, ek9⟩ := hQk9
  have Nk9 := Fr.app N0 Nk9q
  obtain ⟨Tf10, Xf10, ef10, stf10⟩ := getF Xk9 hx hZ hown (host := "") (Or.inl (tw hw 18 rfl)) Via.refl ek9 f2 (g := (mkF m 113 #[.val (.ref t), .val (.ref d), .val (.int (0 : Int32)), .val (.int (0 : Int32)), .val (.int (3 : Int32)), .val (.int (1 : Int32))] [(.ref t), (.int (0 : Int32)), (.ref d)])) rfl rfl (hb hby d16_113)
  have in11 : ¬ ((0 : Int32) < 0 ∨ clv5.slots.size ≤ ((0 : Int32)).toNatClampNeg) := inb_of Sv5 ⟨by decide, by decide⟩
  have atin11 : clv5.slots[((0 : Int32)).toNatClampNeg]? = some (.ref bk) := Has.at Hv5 in11 rfl
  obtain ⟨Ty12, hy12, Ly12, Xy12, ey12, Ny12, Ky12, Vy12, sty12⟩ := cpA Xf10 hx hZ hown (tw hw 112 rfl) (tw hw 115 rfl) (tw hw 113 rfl) (tw hw 114 rfl) ef10 f3 f8 (Or.inl ⟨rfl, rfl⟩) (by decide) (by decide) (by decide) (by decide) (by decide) rfl (by decide) Nk9 gbk (g := (mkF m 122 #[.val (.ref t), .val (.ref d), .val (.int (0 : Int32)), .val (.int (0 : Int32)), .val (.int (3 : Int32)), .val (.int (1 : Int32))] [(.int (1 : Int32)), (.int (3 : Int32)), (.ref bk), (.int (0 : Int32)), (.ref d)])) rfl (by rw [hml]; rfl) rfl (hb hby d16_122) (by decide) (W := 0) (by show 2 * 0 + _ ≤ _; exact Nat.le_of_eq rfl) (by decide)
  have K13 : Keep h0 hy12 [t, bk] := (Keep.refl h0 [t, bk]).trans Ky12 (allS (P := fun x => x ∈ ([t, bk] : List Addr) ∨ h0.size ≤ x) (Or.inl (List.mem_of_getElem? (i := 1) rfl)) all0)
  have Vcy12 : Arv Z hy12 bk kbk .byte (65536 : Int32) [(.int (97 : Int32)), (.int (98 : Int32)), (.int (99 : Int32)), (.int (100 : Int32)), (.int (0 : Int32)), (.int (0 : Int32)), (.int (0 : Int32)), (.int (0 : Int32))] (.int (0 : Int32)) := Vy12
  have F14 := (f1.keep Ky12 (ninS htb nin0))
  obtain ⟨Tf15, Xf15, ef15, stf15⟩ := getF Xy12 hx hZ hown (host := "") (Or.inl (tw hw 104 rfl)) Via.refl ey12 F14 (g := (mkF m 127 #[.val (.ref t), .val (.ref d), .val (.int (0 : Int32)), .val (.int (0 : Int32)), .val (.int (3 : Int32)), .val (.int (1 : Int32))] [(.ref t), (.ref t)])) rfl rfl (hb hby d16_127)
  have F16 := (f0.keep Ky12)
  obtain ⟨Tp17, hp17, Xp17, ep17, Wp17, stp17⟩ := putF Xf15 hx hZ hown (host := "") (Or.inl (tw hw 104 rfl)) Via.refl ef15 F14 F16 (Or.inl (tw hw 105 rfl)) (tw hw 2 rfl) (ty := .int) (by decide) rfl rfl (g := (mkF m 133 #[.val (.ref t), .val (.ref d), .val (.int (0 : Int32)), .val (.int (0 : Int32)), .val (.int (3 : Int32)), .val (.int (1 : Int32))] [(.int (4 : Int32)), (.ref t)])) rfl rfl (hb hby d16_133)
  have Fwp17 : Fld Z hp17 t S1 "stored" "I" (.int (4 : Int32)) := F14.same Wp17
  have Np17 := Fr.snoc Xp17 Ny12 gt
  have K18 : Keep h0 hp17 [t, bk] := K13.wr Wp17 (Or.inl (List.mem_of_getElem? (i := 0) rfl))
  have ne19 : t ≠ d := Exa.neArv f0 f3 (tw hw 2 rfl)
  have F20 := ((f3.keep Ky12 (ninS hdb nin0)).other Wp17 (Ne.symm ne19))
  obtain ⟨clv21, Arv21, qv21, Sv21, Nv21, Hv21, Gv21⟩ := id F20
  have F22 := ((f2.keep Ky12 (ninS htb nin0)).other Wp17 (Or.inr (slot_ne (Or.inl (tw hw 19 rfl)) (Or.inl (tw hw 105 rfl)) (by decide) (t := (.array (.array .byte))) (t' := .int) (by decide) (by decide))))
  have F23 := ((f4.keep Ky12 (ninS htb nin0)).other Wp17 (Or.inr (slot_ne (Or.inl (tw hw 30 rfl)) (Or.inl (tw hw 105 rfl)) (by decide) (t := .int) (t' := .int) (by decide) (by decide))))
  have F24 := ((f5.keep Ky12 (ninS htb nin0)).other Wp17 (Or.inr (slot_ne (Or.inl (tw hw 12 rfl)) (Or.inl (tw hw 105 rfl)) (by decide) (t := (.array .long)) (t' := .int) (by decide) (by decide))))
  have F25 := ((f6.keep Ky12 (ninS htb nin0)).other Wp17 (Or.inr (slot_ne (Or.inl (tw hw 15 rfl)) (Or.inl (tw hw 105 rfl)) (by decide) (t := (.array .int)) (t' := .int) (by decide) (by decide))))
  have F26 := (Vcy12.other Wp17 (Ne.symm htb))
  obtain ⟨fs, hlv, hrun, hended, hW, hsame⟩ := Xp17.leave (v := none) (fun _ => rfl)
  refine ⟨_, _, pre0 _ ?_, hrun, hended, _, _, rfl, ?_, ⟨_, rfl⟩, hW, hsame.mono (by decide) (by decide)⟩
  · refine XS.aloadN X0.here hx rfl (hb hby d16_0) rfl rfl ?_
    show Sp p e below s₁ (mkF m 1 #[.val (.ref t), .val (.ref d), .unset, .unset, .unset, .unset] [(.ref d)]) _
    refine X0.arraylength hx (own_eq e0 Arv1.1) (State.isArrayOf_alike hZ.alike Arv1.2.1) (g := (mkF m 1 #[.val (.ref t), .val (.ref d), .unset, .unset, .unset, .unset] [(.ref d)])) rfl rfl (hb hby d16_1) _ ?_
    rw [len_of Sv1 Nv1]
    show Sp p e below s₁ (mkF m 2 #[.val (.ref t), .val (.ref d), .unset, .unset, .unset, .unset] [(.int (1 : Int32))]) _
    refine Jvm.Stand.ldcI X0 hx hown (mvT hZ (tw hw 103 rfl)) rfl (hb hby d16_2) ?_
    refine XS.aloadN X0.here hx rfl (hb hby d16_4) rfl rfl ?_
    refine stf2 _ ?_
    refine XS.isub Xf2.here hx rfl (hb hby d16_8) rfl ?_
    refine XS.icmpYes Xf2.here hx rfl (pc0 := 9) (pc' := 22) rfl (hb hby d16_9) rfl (flt (by decide : ¬ ((2147483644 : Int32) < (1 : Int32)))).2.2.2 (by decide) (by decide) ?_
    refine XS.iconst Xf2.here hx rfl (hb hby d16_22) ?_
    refine XS.istoreN Xf2.here hx rfl (hb hby d16_23) rfl (l' := #[.val (.ref t), .val (.ref d), .val (.int (0 : Int32)), .unset, .unset, .unset]) rfl ?_
    refine XS.iloadN Xf2.here hx rfl (hb hby d16_24) rfl ?_
    refine XS.aloadN Xf2.here hx rfl (hb hby d16_25) rfl rfl ?_
    show Sp p e below Tf2 (mkF m 26 #[.val (.ref t), .val (.ref d), .val (.int (0 : Int32)), .unset, .unset, .unset] [(.ref d), (.int (0 : Int32))]) _
    refine Xf2.arraylength hx (own_eq ef2 Arv1.1) (State.isArrayOf_alike hZ.alike Arv1.2.1) (g := (mkF m 26 #[.val (.ref t), .val (.ref d), .val (.int (0 : Int32)), .unset, .unset, .unset] [(.ref d), (.int (0 : Int32))])) rfl rfl (hb hby d16_26) _ ?_
    rw [len_of Sv1 Nv1]
    show Sp p e below Tf2 (mkF m 27 #[.val (.ref t), .val (.ref d), .val (.int (0 : Int32)), .unset, .unset, .unset] [(.int (1 : Int32)), (.int (0 : Int32))]) _
    refine XS.icmpNo Xf2.here hx rfl (hb hby d16_27) rfl (tlt (by decide : (0 : Int32) < (1 : Int32))).2.1 ?_
    refine XS.aloadN Xf2.here hx rfl (hb hby d16_30) rfl rfl ?_
    refine stf3 _ ?_
    refine XS.bipush Xf3.here hx rfl (hb hby d16_34) ?_
    refine XS.iushr Xf3.here hx rfl (hb hby d16_36) rfl ?_
    refine XS.istoreN Xf3.here hx rfl (hb hby d16_37) rfl (l' := #[.val (.ref t), .val (.ref d), .val (.int (0 : Int32)), .val (.int (0 : Int32)), .unset, .unset]) rfl ?_
    refine XS.iloadN Xf3.here hx rfl (hb hby d16_38) rfl ?_
    refine XS.aloadN Xf3.here hx rfl (hb hby d16_39) rfl rfl ?_
    refine stf4 _ ?_
    show Sp p e below Tf4 (mkF m 43 #[.val (.ref t), .val (.ref d), .val (.int (0 : Int32)), .val (.int (0 : Int32)), .unset, .unset] [(.ref bl), (.int (0 : Int32))]) _
    refine Xf4.arraylength hx (own_eq ef4 Arv5.1) (State.isArrayOf_alike hZ.alike Arv5.2.1) (g := (mkF m 43 #[.val (.ref t), .val (.ref d), .val (.int (0 : Int32)), .val (.int (0 : Int32)), .unset, .unset] [(.ref bl), (.int (0 : Int32))])) rfl rfl (hb hby d16_43) _ ?_
    rw [len_of Sv5 Nv5]
    show Sp p e below Tf4 (mkF m 44 #[.val (.ref t), .val (.ref d), .val (.int (0 : Int32)), .val (.int (0 : Int32)), .unset, .unset] [(.int (1 : Int32)), (.int (0 : Int32))]) _
    refine XS.icmpYes Xf4.here hx rfl (pc0 := 44) (pc' := 68) rfl (hb hby d16_44) rfl (feq (by decide : ¬ ((0 : Int32) = (1 : Int32)))).2 (by decide) (by decide) ?_
    refine XS.aloadN Xf4.here hx rfl (hb hby d16_68) rfl rfl ?_
    refine stf6 _ ?_
    refine XS.iloadN Xf6.here hx rfl (hb hby d16_72) rfl ?_
    show Sp p e below Tf6 (mkF m 73 #[.val (.ref t), .val (.ref d), .val (.int (0 : Int32)), .val (.int (0 : Int32)), .unset, .unset] [(.int (0 : Int32)), (.ref bl)]) _
    refine Xf6.aaload hx (j := (0 : Int32)) (v := (.ref bk)) (own_eq ef6 Arv5.1) (State.isArrayOf_alike hZ.alike Arv5.2.1) rfl Arv5.2.2 in7 atin7 (g := (mkF m 73 #[.val (.ref t), .val (.ref d), .val (.int (0 : Int32)), .val (.int (0 : Int32)), .unset, .unset] [(.int (0 : Int32)), (.ref bl)])) rfl rfl (hb hby d16_73) _ ?_
    show Sp p e below Tf6 (mkF m 74 #[.val (.ref t), .val (.ref d), .val (.int (0 : Int32)), .val (.int (0 : Int32)), .unset, .unset] [(.ref bk)]) _
    refine XS.ifnonnullYes Xf6.here hx rfl (pc0 := 74) (pc' := 87) rfl (hb hby d16_74) rfl (by decide) (by decide) ?_
    refine XS.aloadN Xf6.here hx rfl (hb hby d16_87) rfl rfl ?_
    refine stf8 _ ?_
    show Sp p e below Tf8 (mkF m 91 #[.val (.ref t), .val (.ref d), .val (.int (0 : Int32)), .val (.int (0 : Int32)), .unset, .unset] [(.int (3 : Int32))]) _
    refine Jvm.Stand.ldcI Xf8 hx hown (mvT hZ (tw hw 107 rfl)) rfl (hb hby d16_91) ?_
    refine XS.iand Xf8.here hx rfl (hb hby d16_93) rfl ?_
    refine XS.istore Xf8.here hx rfl (hb hby d16_94) rfl (l' := #[.val (.ref t), .val (.ref d), .val (.int (0 : Int32)), .val (.int (0 : Int32)), .val (.int (3 : Int32)), .unset]) rfl ?_
    refine XS.aloadN Xf8.here hx rfl (hb hby d16_96) rfl rfl ?_
    show Sp p e below Tf8 (mkF m 97 #[.val (.ref t), .val (.ref d), .val (.int (0 : Int32)), .val (.int (0 : Int32)), .val (.int (3 : Int32)), .unset] [(.ref d)]) _
    refine Xf8.arraylength hx (own_eq ef8 Arv1.1) (State.isArrayOf_alike hZ.alike Arv1.2.1) (g := (mkF m 97 #[.val (.ref t), .val (.ref d), .val (.int (0 : Int32)), .val (.int (0 : Int32)), .val (.int (3 : Int32)), .unset] [(.ref d)])) rfl rfl (hb hby d16_97) _ ?_
    rw [len_of Sv1 Nv1]
    show Sp p e below Tf8 (mkF m 98 #[.val (.ref t), .val (.ref d), .val (.int (0 : Int32)), .val (.int (0 : Int32)), .val (.int (3 : Int32)), .unset] [(.int (1 : Int32))]) _
    refine XS.iloadN Xf8.here hx rfl (hb hby d16_98) rfl ?_
    refine XS.isub Xf8.here hx rfl (hb hby d16_99) rfl ?_
    show Sp p e below Tf8 (mkF m 100 #[.val (.ref t), .val (.ref d), .val (.int (0 : Int32)), .val (.int (0 : Int32)), .val (.int (3 : Int32)), .unset] [(.int (1 : Int32))]) _
    refine Jvm.Stand.ldcI Xf8 hx hown (mvT hZ (tw hw 106 rfl)) rfl (hb hby d16_100) ?_
    refine XS.iload Xf8.here hx rfl (hb hby d16_102) rfl ?_
    refine XS.isub Xf8.here hx rfl (hb hby d16_104) rfl ?_
    refine stk9 _ ?_
    refine XS.istore Xk9.here hx rfl (hb hby d16_108) rfl (l' := #[.val (.ref t), .val (.ref d), .val (.int (0 : Int32)), .val (.int (0 : Int32)), .val (.int (3 : Int32)), .val (.int (1 : Int32))]) rfl ?_
    refine XS.aloadN Xk9.here hx rfl (hb hby d16_110) rfl rfl ?_
    refine XS.iloadN Xk9.here hx rfl (hb hby d16_111) rfl ?_
    refine XS.aloadN Xk9.here hx rfl (hb hby d16_112) rfl rfl ?_
    refine stf10 _ ?_
    refine XS.iloadN Xf10.here hx rfl (hb hby d16_116) rfl ?_
    show Sp p e below Tf10 (mkF m 117 #[.val (.ref t), .val (.ref d), .val (.int (0 : Int32)), .val (.int (0 : Int32)), .val (.int (3 : Int32)), .val (.int (1 : Int32))] [(.int (0 : Int32)), (.ref bl), (.int (0 : Int32)), (.ref d)]) _
    refine Xf10.aaload hx (j := (0 : Int32)) (v := (.ref bk)) (own_eq ef10 Arv5.1) (State.isArrayOf_alike hZ.alike Arv5.2.1) rfl Arv5.2.2 in11 atin11 (g := (mkF m 117 #[.val (.ref t), .val (.ref d), .val (.int (0 : Int32)), .val (.int (0 : Int32)), .val (.int (3 : Int32)), .val (.int (1 : Int32))] [(.int (0 : Int32)), (.ref bl), (.int (0 : Int32)), (.ref d)])) rfl rfl (hb hby d16_117) _ ?_
    show Sp p e below Tf10 (mkF m 118 #[.val (.ref t), .val (.ref d), .val (.int (0 : Int32)), .val (.int (0 : Int32)), .val (.int (3 : Int32)), .val (.int (1 : Int32))] [(.ref bk), (.int (0 : Int32)), (.ref d)]) _
    refine XS.iload Xf10.here hx rfl (hb hby d16_118) rfl ?_
    refine XS.iload Xf10.here hx rfl (hb hby d16_120) rfl ?_
    refine sty12 _ ?_
    refine XS.aloadN Xy12.here hx rfl (hb hby d16_125) rfl rfl ?_
    refine XS.dup Xy12.here hx rfl (hb hby d16_126) rfl rfl ?_
    refine stf15 _ ?_
    refine XS.iload Xf15.here hx rfl (hb hby d16_130) rfl ?_
    refine XS.iadd Xf15.here hx rfl (hb hby d16_132) rfl ?_
    refine stp17 _ ?_
    refine XS.iloadN Xp17.here hx rfl (hb hby d16_136) rfl ?_
    refine XS.iload Xp17.here hx rfl (hb hby d16_137) rfl ?_
    refine XS.iadd Xp17.here hx rfl (hb hby d16_139) rfl ?_
    refine XS.istoreN Xp17.here hx rfl (hb hby d16_140) rfl (l' := #[.val (.ref t), .val (.ref d), .val (.int (1 : Int32)), .val (.int (0 : Int32)), .val (.int (3 : Int32)), .val (.int (1 : Int32))]) rfl ?_
    refine XS.goto Xp17.here hx rfl (pc0 := 141) (pc' := 24) rfl (hb hby d16_141) (by decide) (by decide) ?_
    refine XS.iloadN Xp17.here hx rfl (hb hby d16_24) rfl ?_
    refine XS.aloadN Xp17.here hx rfl (hb hby d16_25) rfl rfl ?_
    show Sp p e below Tp17 (mkF m 26 #[.val (.ref t), .val (.ref d), .val (.int (1 : Int32)), .val (.int (0 : Int32)), .val (.int (3 : Int32)), .val (.int (1 : Int32))] [(.ref d), (.int (1 : Int32))]) _
    refine Xp17.arraylength hx (own_eq ep17 Arv21.1) (State.isArrayOf_alike hZ.alike Arv21.2.1) (g := (mkF m 26 #[.val (.ref t), .val (.ref d), .val (.int (1 : Int32)), .val (.int (0 : Int32)), .val (.int (3 : Int32)), .val (.int (1 : Int32))] [(.ref d), (.int (1 : Int32))])) rfl rfl (hb hby d16_26) _ ?_
    rw [len_of Sv21 Nv21]
    show Sp p e below Tp17 (mkF m 27 #[.val (.ref t), .val (.ref d), .val (.int (1 : Int32)), .val (.int (0 : Int32)), .val (.int (3 : Int32)), .val (.int (1 : Int32))] [(.int (1 : Int32)), (.int (1 : Int32))]) _
    refine XS.icmpYes Xp17.here hx rfl (pc0 := 27) (pc' := 144) rfl (hb hby d16_27) rfl (flt (by decide : ¬ ((1 : Int32) < (1 : Int32)))).2.1 (by decide) (by decide) ?_
    show Sp p e below Tp17 (mkF m 144 #[.val (.ref t), .val (.ref d), .val (.int (1 : Int32)), .val (.int (0 : Int32)), .val (.int (3 : Int32)), .val (.int (1 : Int32))] []) _
    exact Xp17.returnOut hx hret (hb hby d16_144) hlv
  · show Q_store3 Z t d kd bl kbl sl en bk kbk h0 n0 _ Tp17.heap _
    rw [ep17]
    exact ⟨rfl, Np17, K18, Fwp17, F22, F23, F24, F25, F26⟩
def Q_store4 (Z : State) (t : Addr) (d : Addr) (kd : ClassId) (bl : Addr) (kbl : ClassId) (sl : Addr) (en : Addr) (bk : Addr) (kbk : ClassId) (h0 : Heap) (n0 : Nat) (v : Option Value) (h : Heap) (L : List Loc) : Prop := v = none ∧ Fr n0 L ∧ Keep h0 h [t, bk] ∧ Fld Z h t S1 "stored" "I" (.int (5 : Int32)) ∧ Fld Z h t S1 "blocks" "[[B" (.ref bl) ∧ Fld Z h t S1 "size" "I" (.int (4 : Int32)) ∧ Fld Z h t S1 "slots" "[J" (.ref sl) ∧ Fld Z h t S1 "ends" "[I" (.ref en) ∧ Arv Z h bk kbk .byte (65536 : Int32) [(.int (97 : Int32)), (.int (98 : Int32)), (.int (99 : Int32)), (.int (100 : Int32)), (.int (101 : Int32)), (.int (0 : Int32)), (.int (0 : Int32)), (.int (0 : Int32))] (.int (0 : Int32))
set_option maxRecDepth 65536 in
set_option maxHeartbeats 40000000 in
theorem rm_store4 (l : Launch) (Z : State) (a0 : Array Value) (hw : ∀ d ∈ tables_1, d.before a0 Z = true) (ws : List Jvm.Cond) (t : Addr) (d : Addr) (kd : ClassId) (bl : Addr) (kbl : ClassId) (sl : Addr) (en : Addr) (bk : Addr) (kbk : ClassId) (h0 : Heap) (n0 : Nat) (Z0 : n0 ≤ h0.size) (O0 : Old Z n0 h0) (f0 : Exa Z h0 t S1) (f1 : Fld Z h0 t S1 "stored" "I" (.int (4 : Int32))) (f2 : Fld Z h0 t S1 "blocks" "[[B" (.ref bl)) (f3 : Arv Z h0 d kd .byte (1 : Int32) [(.int (101 : Int32))] (.int (0 : Int32))) (f4 : Fld Z h0 t S1 "size" "I" (.int (4 : Int32))) (f5 : Fld Z h0 t S1 "slots" "[J" (.ref sl)) (f6 : Fld Z h0 t S1 "ends" "[I" (.ref en)) (f7 : Arv Z h0 bl kbl (.array .byte) (1 : Int32) [(.ref bk)] .null) (f8 : Arv Z h0 bk kbk .byte (65536 : Int32) [(.int (97 : Int32)), (.int (98 : Int32)), (.int (99 : Int32)), (.int (100 : Int32)), (.int (0 : Int32)), (.int (0 : Int32)), (.int (0 : Int32)), (.int (0 : Int32))] (.int (0 : Int32))) (gt : n0 ≤ t) (gbk : n0 ≤ bk) (htb : t ≠ bk) (hdb : d ≠ bk) (hbb : bl ≠ bk) :
    MetFree l Y10 (head1 (Jvm.Cond.code Y10 prog_57_method_10_code 6 none :: ws) ({ frames := 1, cells := 0, slots := 0, locals := 40 } : Room)) (fun A_ U => A_ = #[(.ref t), (.ref d)] ∧ Z.Warmed39 U.vm ∧ U.heap = h0) (fun _ _ _ _ _ => True) (fun _ U o_ U' => ∃ v_ L_, o_ = .returned v_ ∧ Q_store4 Z t d kd bl kbl sl en bk kbk h0 n0 v_ U'.heap L_ ∧ FrameEnd U o_ U' L_ ({ frames := 1, cells := 0, slots := 0, locals := 40 } : Room).cells ({ frames := 1, cells := 0, slots := 0, locals := 40 } : Room).slots) := by
  refine MetFree.of_bodySF (plainFor_of_name pn_2) hisR ?_
  intro p e s m args below meth c s₁ Bd hml0 hP hK
  obtain ⟨rfl, hZ, hh⟩ := hP
  have hx := Bd.exec
  have hby := Bd.bytes
  have hml : c.maxLocals = 6 := hml0
  have hown : s.vm.findClass S1 = some m.cls := findClass_of_methodNamed Bd.named
  have hnm := (name_of_methodNamed Bd.named Bd.method).1
  have hret := Bd.returns
  have X0 : Stand p l e ({ frames := 1, cells := 0, slots := 0, locals := 40 } : Room) s m #[(.ref t), (.ref d)] below meth c s₁ [] 0 0 := Stand.of_body Bd
  have e0 : s₁.heap = h0 := by rw [← hh, Bd.state]; rfl
  have N0 := Fr.nil n0
  have pre0 : ∀ t_, Sp p e below s₁ (mkF m 0 #[.val (.ref t), .val (.ref d), .unset, .unset, .unset, .unset] []) t_ → Sp p e below s₁ (entryFrame m #[(.ref t), (.ref d)] 6) t_ := fun t_ k_ => castTop (ef_16_RR m t d) k_
  obtain ⟨clv1, Arv1, qv1, Sv1, Nv1, Hv1, Gv1⟩ := id f3
  obtain ⟨Tf2, Xf2, ef2, stf2⟩ := getF X0 hx hZ hown (host := "") (Or.inl (tw hw 104 rfl)) Via.refl e0 f1 (g := (mkF m 5 #[.val (.ref t), .val (.ref d), .unset, .unset, .unset, .unset] [(.ref t), (.int (2147483647 : Int32)), (.int (1 : Int32))])) rfl rfl (hb hby d16_5)
  obtain ⟨Tf3, Xf3, ef3, stf3⟩ := getF Xf2 hx hZ hown (host := "") (Or.inl (tw hw 104 rfl)) Via.refl ef2 f1 (g := (mkF m 31 #[.val (.ref t), .val (.ref d), .val (.int (0 : Int32)), .unset, .unset, .unset] [(.ref t)])) rfl rfl (hb hby d16_31)
  obtain ⟨Tf4, Xf4, ef4, stf4⟩ := getF Xf3 hx hZ hown (host := "") (Or.inl (tw hw 18 rfl)) Via.refl ef3 f2 (g := (mkF m 40 #[.val (.ref t), .val (.ref d), .val (.int (0 : Int32)), .val (.int (0 : Int32)), .unset, .unset] [(.ref t), (.int (0 : Int32))])) rfl rfl (hb hby d16_40)
  obtain ⟨clv5, Arv5, qv5, Sv5, Nv5, Hv5, Gv5⟩ := id f7
  obtain ⟨Tf6, Xf6, ef6, stf6⟩ := getF Xf4 hx hZ hown (host := "") (Or.inl (tw hw 18 rfl)) Via.refl ef4 f2 (g := (mkF m 69 #[.val (.ref t), .val (.ref d), .val (.int (0 : Int32)), .val (.int (0 : Int32)), .unset, .unset] [(.ref t)])) rfl rfl (hb hby d16_69)
  have in7 : ¬ ((0 : Int32) < 0 ∨ clv5.slots.size ≤ ((0 : Int32)).toNatClampNeg) := inb_of Sv5 ⟨by decide, by decide⟩
  have atin7 : clv5.slots[((0 : Int32)).toNatClampNeg]? = some (.ref bk) := Has.at Hv5 in7 rfl
  obtain ⟨Tf8, Xf8, ef8, stf8⟩ := getF Xf6 hx hZ hown (host := "") (Or.inl (tw hw 104 rfl)) Via.refl ef6 f1 (g := (mkF m 88 #[.val (.ref t), .val (.ref d), .val (.int (0 : Int32)), .val (.int (0 : Int32)), .unset, .unset] [(.ref t)])) rfl rfl (hb hby d16_88)
  obtain ⟨_, _, ⟨Tk9, Lk9, kk9, nk9⟩, -, Xk9, ⟨Lck9, hQk9, lk9, yk9, zk9⟩, stk9⟩ := Jvm.LawKit.callS Xf8 hx (y := Y9) hown (mvT hZ (tw hw 108 rfl)) (mvT hZ (tw hw 109 rfl)) (mvT hZ (tw hw 110 rfl)) (mvT hZ (tw hw 111 rfl)) (by decide) (backOf (W := 0) (rm_min l Z a0 hw [] (1 : Int32) (65532 : Int32) (1 : Int32)  h0 n0 Z0 O0 rfl) hZ (tw hw 111 rfl) (tw hw 110 rfl) (by decide) (by decide)) (g := (mkF m 105 #[.val (.ref t), .val (.ref d), .val (.int (0 : Int32)), .val (.int (0 : Int32)), .val (.int (4 : Int32)), .unset] [(.int (65532 : Int32)), (.int (1 : Int32))])) rfl (by rw [hml]; rfl) (argsL := [(.int (1 : Int32)), (.int (65532 : Int32))]) (rest := []) (lenOf pd__II_I rfl) rfl (by show 2 * 0 + _ ≤ _; exact Nat.le_of_eq rfl) (hb hby d16_105) (fun _ _ => ⟨rfl, ef8, (by decide : 0 + 0 ≤ _), (by decide : 0 + 0 ≤ _)⟩)
  dsimp only [Pt.U, Pt.locs, Pt.cells, Pt.slots] at Xk9 lk9 yk9 zk9 stk9 hQk9
  subst lk9 yk9 zk9
  obtain ⟨rfl, Nk9q, ek9⟩ := hQk9
  have Nk9 := Fr.app N0 Nk9q
  obtain ⟨Tf10, Xf10, ef10, stf10⟩ := getF Xk9 hx hZ hown (host := "") (Or.inl (tw hw 18 rfl)) Via.refl ek9 f2 (g := (mkF m 113 #[.val (.ref t), .val (.ref d), .val (.int (0 : Int32)), .val (.int (0 : Int32)), .val (.int (4 : Int32)), .val (.int (1 : Int32))] [(.ref t), (.int (0 : Int32)), (.ref d)])) rfl rfl (hb hby d16_113)
  have in11 : ¬ ((0 : Int32) < 0 ∨ clv5.slots.size ≤ ((0 : Int32)).toNatClampNeg) := inb_of Sv5 ⟨by decide, by decide⟩
  have atin11 : clv5.slots[((0 : Int32)).toNatClampNeg]? = some (.ref bk) := Has.at Hv5 in11 rfl
  obtain ⟨Ty12, hy12, Ly12, Xy12, ey12, Ny12, Ky12, Vy12, sty12⟩ := cpA Xf10 hx hZ hown (tw hw 112 rfl) (tw hw 115 rfl) (tw hw 113 rfl) (tw hw 114 rfl) ef10 f3 f8 (Or.inl ⟨rfl, rfl⟩) (by decide) (by decide) (by decide) (by decide) (by decide) rfl (by decide) Nk9 gbk (g := (mkF m 122 #[.val (.ref t), .val (.ref d), .val (.int (0 : Int32)), .val (.int (0 : Int32)), .val (.int (4 : Int32)), .val (.int (1 : Int32))] [(.int (1 : Int32)), (.int (4 : Int32)), (.ref bk), (.int (0 : Int32)), (.ref d)])) rfl (by rw [hml]; rfl) rfl (hb hby d16_122) (by decide) (W := 0) (by show 2 * 0 + _ ≤ _; exact Nat.le_of_eq rfl) (by decide)
  have K13 : Keep h0 hy12 [t, bk] := (Keep.refl h0 [t, bk]).trans Ky12 (allS (P := fun x => x ∈ ([t, bk] : List Addr) ∨ h0.size ≤ x) (Or.inl (List.mem_of_getElem? (i := 1) rfl)) all0)
  have Vcy12 : Arv Z hy12 bk kbk .byte (65536 : Int32) [(.int (97 : Int32)), (.int (98 : Int32)), (.int (99 : Int32)), (.int (100 : Int32)), (.int (101 : Int32)), (.int (0 : Int32)), (.int (0 : Int32)), (.int (0 : Int32))] (.int (0 : Int32)) := Vy12
  have F14 := (f1.keep Ky12 (ninS htb nin0))
  obtain ⟨Tf15, Xf15, ef15, stf15⟩ := getF Xy12 hx hZ hown (host := "") (Or.inl (tw hw 104 rfl)) Via.refl ey12 F14 (g := (mkF m 127 #[.val (.ref t), .val (.ref d), .val (.int (0 : Int32)), .val (.int (0 : Int32)), .val (.int (4 : Int32)), .val (.int (1 : Int32))] [(.ref t), (.ref t)])) rfl rfl (hb hby d16_127)
  have F16 := (f0.keep Ky12)
  obtain ⟨Tp17, hp17, Xp17, ep17, Wp17, stp17⟩ := putF Xf15 hx hZ hown (host := "") (Or.inl (tw hw 104 rfl)) Via.refl ef15 F14 F16 (Or.inl (tw hw 105 rfl)) (tw hw 2 rfl) (ty := .int) (by decide) rfl rfl (g := (mkF m 133 #[.val (.ref t), .val (.ref d), .val (.int (0 : Int32)), .val (.int (0 : Int32)), .val (.int (4 : Int32)), .val (.int (1 : Int32))] [(.int (5 : Int32)), (.ref t)])) rfl rfl (hb hby d16_133)
  have Fwp17 : Fld Z hp17 t S1 "stored" "I" (.int (5 : Int32)) := F14.same Wp17
  have Np17 := Fr.snoc Xp17 Ny12 gt
  have K18 : Keep h0 hp17 [t, bk] := K13.wr Wp17 (Or.inl (List.mem_of_getElem? (i := 0) rfl))
  have ne19 : t ≠ d := Exa.neArv f0 f3 (tw hw 2 rfl)
  have F20 := ((f3.keep Ky12 (ninS hdb nin0)).other Wp17 (Ne.symm ne19))
  obtain ⟨clv21, Arv21, qv21, Sv21, Nv21, Hv21, Gv21⟩ := id F20
  have F22 := ((f2.keep Ky12 (ninS htb nin0)).other Wp17 (Or.inr (slot_ne (Or.inl (tw hw 19 rfl)) (Or.inl (tw hw 105 rfl)) (by decide) (t := (.array (.array .byte))) (t' := .int) (by decide) (by decide))))
  have F23 := ((f4.keep Ky12 (ninS htb nin0)).other Wp17 (Or.inr (slot_ne (Or.inl (tw hw 30 rfl)) (Or.inl (tw hw 105 rfl)) (by decide) (t := .int) (t' := .int) (by decide) (by decide))))
  have F24 := ((f5.keep Ky12 (ninS htb nin0)).other Wp17 (Or.inr (slot_ne (Or.inl (tw hw 12 rfl)) (Or.inl (tw hw 105 rfl)) (by decide) (t := (.array .long)) (t' := .int) (by decide) (by decide))))
  have F25 := ((f6.keep Ky12 (ninS htb nin0)).other Wp17 (Or.inr (slot_ne (Or.inl (tw hw 15 rfl)) (Or.inl (tw hw 105 rfl)) (by decide) (t := (.array .int)) (t' := .int) (by decide) (by decide))))
  have F26 := (Vcy12.other Wp17 (Ne.symm htb))
  obtain ⟨fs, hlv, hrun, hended, hW, hsame⟩ := Xp17.leave (v := none) (fun _ => rfl)
  refine ⟨_, _, pre0 _ ?_, hrun, hended, _, _, rfl, ?_, ⟨_, rfl⟩, hW, hsame.mono (by decide) (by decide)⟩
  · refine XS.aloadN X0.here hx rfl (hb hby d16_0) rfl rfl ?_
    show Sp p e below s₁ (mkF m 1 #[.val (.ref t), .val (.ref d), .unset, .unset, .unset, .unset] [(.ref d)]) _
    refine X0.arraylength hx (own_eq e0 Arv1.1) (State.isArrayOf_alike hZ.alike Arv1.2.1) (g := (mkF m 1 #[.val (.ref t), .val (.ref d), .unset, .unset, .unset, .unset] [(.ref d)])) rfl rfl (hb hby d16_1) _ ?_
    rw [len_of Sv1 Nv1]
    show Sp p e below s₁ (mkF m 2 #[.val (.ref t), .val (.ref d), .unset, .unset, .unset, .unset] [(.int (1 : Int32))]) _
    refine Jvm.Stand.ldcI X0 hx hown (mvT hZ (tw hw 103 rfl)) rfl (hb hby d16_2) ?_
    refine XS.aloadN X0.here hx rfl (hb hby d16_4) rfl rfl ?_
    refine stf2 _ ?_
    refine XS.isub Xf2.here hx rfl (hb hby d16_8) rfl ?_
    refine XS.icmpYes Xf2.here hx rfl (pc0 := 9) (pc' := 22) rfl (hb hby d16_9) rfl (flt (by decide : ¬ ((2147483643 : Int32) < (1 : Int32)))).2.2.2 (by decide) (by decide) ?_
    refine XS.iconst Xf2.here hx rfl (hb hby d16_22) ?_
    refine XS.istoreN Xf2.here hx rfl (hb hby d16_23) rfl (l' := #[.val (.ref t), .val (.ref d), .val (.int (0 : Int32)), .unset, .unset, .unset]) rfl ?_
    refine XS.iloadN Xf2.here hx rfl (hb hby d16_24) rfl ?_
    refine XS.aloadN Xf2.here hx rfl (hb hby d16_25) rfl rfl ?_
    show Sp p e below Tf2 (mkF m 26 #[.val (.ref t), .val (.ref d), .val (.int (0 : Int32)), .unset, .unset, .unset] [(.ref d), (.int (0 : Int32))]) _
    refine Xf2.arraylength hx (own_eq ef2 Arv1.1) (State.isArrayOf_alike hZ.alike Arv1.2.1) (g := (mkF m 26 #[.val (.ref t), .val (.ref d), .val (.int (0 : Int32)), .unset, .unset, .unset] [(.ref d), (.int (0 : Int32))])) rfl rfl (hb hby d16_26) _ ?_
    rw [len_of Sv1 Nv1]
    show Sp p e below Tf2 (mkF m 27 #[.val (.ref t), .val (.ref d), .val (.int (0 : Int32)), .unset, .unset, .unset] [(.int (1 : Int32)), (.int (0 : Int32))]) _
    refine XS.icmpNo Xf2.here hx rfl (hb hby d16_27) rfl (tlt (by decide : (0 : Int32) < (1 : Int32))).2.1 ?_
    refine XS.aloadN Xf2.here hx rfl (hb hby d16_30) rfl rfl ?_
    refine stf3 _ ?_
    refine XS.bipush Xf3.here hx rfl (hb hby d16_34) ?_
    refine XS.iushr Xf3.here hx rfl (hb hby d16_36) rfl ?_
    refine XS.istoreN Xf3.here hx rfl (hb hby d16_37) rfl (l' := #[.val (.ref t), .val (.ref d), .val (.int (0 : Int32)), .val (.int (0 : Int32)), .unset, .unset]) rfl ?_
    refine XS.iloadN Xf3.here hx rfl (hb hby d16_38) rfl ?_
    refine XS.aloadN Xf3.here hx rfl (hb hby d16_39) rfl rfl ?_
    refine stf4 _ ?_
    show Sp p e below Tf4 (mkF m 43 #[.val (.ref t), .val (.ref d), .val (.int (0 : Int32)), .val (.int (0 : Int32)), .unset, .unset] [(.ref bl), (.int (0 : Int32))]) _
    refine Xf4.arraylength hx (own_eq ef4 Arv5.1) (State.isArrayOf_alike hZ.alike Arv5.2.1) (g := (mkF m 43 #[.val (.ref t), .val (.ref d), .val (.int (0 : Int32)), .val (.int (0 : Int32)), .unset, .unset] [(.ref bl), (.int (0 : Int32))])) rfl rfl (hb hby d16_43) _ ?_
    rw [len_of Sv5 Nv5]
    show Sp p e below Tf4 (mkF m 44 #[.val (.ref t), .val (.ref d), .val (.int (0 : Int32)), .val (.int (0 : Int32)), .unset, .unset] [(.int (1 : Int32)), (.int (0 : Int32))]) _
    refine XS.icmpYes Xf4.here hx rfl (pc0 := 44) (pc' := 68) rfl (hb hby d16_44) rfl (feq (by decide : ¬ ((0 : Int32) = (1 : Int32)))).2 (by decide) (by decide) ?_
    refine XS.aloadN Xf4.here hx rfl (hb hby d16_68) rfl rfl ?_
    refine stf6 _ ?_
    refine XS.iloadN Xf6.here hx rfl (hb hby d16_72) rfl ?_
    show Sp p e below Tf6 (mkF m 73 #[.val (.ref t), .val (.ref d), .val (.int (0 : Int32)), .val (.int (0 : Int32)), .unset, .unset] [(.int (0 : Int32)), (.ref bl)]) _
    refine Xf6.aaload hx (j := (0 : Int32)) (v := (.ref bk)) (own_eq ef6 Arv5.1) (State.isArrayOf_alike hZ.alike Arv5.2.1) rfl Arv5.2.2 in7 atin7 (g := (mkF m 73 #[.val (.ref t), .val (.ref d), .val (.int (0 : Int32)), .val (.int (0 : Int32)), .unset, .unset] [(.int (0 : Int32)), (.ref bl)])) rfl rfl (hb hby d16_73) _ ?_
    show Sp p e below Tf6 (mkF m 74 #[.val (.ref t), .val (.ref d), .val (.int (0 : Int32)), .val (.int (0 : Int32)), .unset, .unset] [(.ref bk)]) _
    refine XS.ifnonnullYes Xf6.here hx rfl (pc0 := 74) (pc' := 87) rfl (hb hby d16_74) rfl (by decide) (by decide) ?_
    refine XS.aloadN Xf6.here hx rfl (hb hby d16_87) rfl rfl ?_
    refine stf8 _ ?_
    show Sp p e below Tf8 (mkF m 91 #[.val (.ref t), .val (.ref d), .val (.int (0 : Int32)), .val (.int (0 : Int32)), .unset, .unset] [(.int (4 : Int32))]) _
    refine Jvm.Stand.ldcI Xf8 hx hown (mvT hZ (tw hw 107 rfl)) rfl (hb hby d16_91) ?_
    refine XS.iand Xf8.here hx rfl (hb hby d16_93) rfl ?_
    refine XS.istore Xf8.here hx rfl (hb hby d16_94) rfl (l' := #[.val (.ref t), .val (.ref d), .val (.int (0 : Int32)), .val (.int (0 : Int32)), .val (.int (4 : Int32)), .unset]) rfl ?_
    refine XS.aloadN Xf8.here hx rfl (hb hby d16_96) rfl rfl ?_
    show Sp p e below Tf8 (mkF m 97 #[.val (.ref t), .val (.ref d), .val (.int (0 : Int32)), .val (.int (0 : Int32)), .val (.int (4 : Int32)), .unset] [(.ref d)]) _
    refine Xf8.arraylength hx (own_eq ef8 Arv1.1) (State.isArrayOf_alike hZ.alike Arv1.2.1) (g := (mkF m 97 #[.val (.ref t), .val (.ref d), .val (.int (0 : Int32)), .val (.int (0 : Int32)), .val (.int (4 : Int32)), .unset] [(.ref d)])) rfl rfl (hb hby d16_97) _ ?_
    rw [len_of Sv1 Nv1]
    show Sp p e below Tf8 (mkF m 98 #[.val (.ref t), .val (.ref d), .val (.int (0 : Int32)), .val (.int (0 : Int32)), .val (.int (4 : Int32)), .unset] [(.int (1 : Int32))]) _
    refine XS.iloadN Xf8.here hx rfl (hb hby d16_98) rfl ?_
    refine XS.isub Xf8.here hx rfl (hb hby d16_99) rfl ?_
    show Sp p e below Tf8 (mkF m 100 #[.val (.ref t), .val (.ref d), .val (.int (0 : Int32)), .val (.int (0 : Int32)), .val (.int (4 : Int32)), .unset] [(.int (1 : Int32))]) _
    refine Jvm.Stand.ldcI Xf8 hx hown (mvT hZ (tw hw 106 rfl)) rfl (hb hby d16_100) ?_
    refine XS.iload Xf8.here hx rfl (hb hby d16_102) rfl ?_
    refine XS.isub Xf8.here hx rfl (hb hby d16_104) rfl ?_
    refine stk9 _ ?_
    refine XS.istore Xk9.here hx rfl (hb hby d16_108) rfl (l' := #[.val (.ref t), .val (.ref d), .val (.int (0 : Int32)), .val (.int (0 : Int32)), .val (.int (4 : Int32)), .val (.int (1 : Int32))]) rfl ?_
    refine XS.aloadN Xk9.here hx rfl (hb hby d16_110) rfl rfl ?_
    refine XS.iloadN Xk9.here hx rfl (hb hby d16_111) rfl ?_
    refine XS.aloadN Xk9.here hx rfl (hb hby d16_112) rfl rfl ?_
    refine stf10 _ ?_
    refine XS.iloadN Xf10.here hx rfl (hb hby d16_116) rfl ?_
    show Sp p e below Tf10 (mkF m 117 #[.val (.ref t), .val (.ref d), .val (.int (0 : Int32)), .val (.int (0 : Int32)), .val (.int (4 : Int32)), .val (.int (1 : Int32))] [(.int (0 : Int32)), (.ref bl), (.int (0 : Int32)), (.ref d)]) _
    refine Xf10.aaload hx (j := (0 : Int32)) (v := (.ref bk)) (own_eq ef10 Arv5.1) (State.isArrayOf_alike hZ.alike Arv5.2.1) rfl Arv5.2.2 in11 atin11 (g := (mkF m 117 #[.val (.ref t), .val (.ref d), .val (.int (0 : Int32)), .val (.int (0 : Int32)), .val (.int (4 : Int32)), .val (.int (1 : Int32))] [(.int (0 : Int32)), (.ref bl), (.int (0 : Int32)), (.ref d)])) rfl rfl (hb hby d16_117) _ ?_
    show Sp p e below Tf10 (mkF m 118 #[.val (.ref t), .val (.ref d), .val (.int (0 : Int32)), .val (.int (0 : Int32)), .val (.int (4 : Int32)), .val (.int (1 : Int32))] [(.ref bk), (.int (0 : Int32)), (.ref d)]) _
    refine XS.iload Xf10.here hx rfl (hb hby d16_118) rfl ?_
    refine XS.iload Xf10.here hx rfl (hb hby d16_120) rfl ?_
    refine sty12 _ ?_
    refine XS.aloadN Xy12.here hx rfl (hb hby d16_125) rfl rfl ?_
    refine XS.dup Xy12.here hx rfl (hb hby d16_126) rfl rfl ?_
    refine stf15 _ ?_
    refine XS.iload Xf15.here hx rfl (hb hby d16_130) rfl ?_
    refine XS.iadd Xf15.here hx rfl (hb hby d16_132) rfl ?_
    refine stp17 _ ?_
    refine XS.iloadN Xp17.here hx rfl (hb hby d16_136) rfl ?_
    refine XS.iload Xp17.here hx rfl (hb hby d16_137) rfl ?_
    refine XS.iadd Xp17.here hx rfl (hb hby d16_139) rfl ?_
    refine XS.istoreN Xp17.here hx rfl (hb hby d16_140) rfl (l' := #[.val (.ref t), .val (.ref d), .val (.int (1 : Int32)), .val (.int (0 : Int32)), .val (.int (4 : Int32)), .val (.int (1 : Int32))]) rfl ?_
    refine XS.goto Xp17.here hx rfl (pc0 := 141) (pc' := 24) rfl (hb hby d16_141) (by decide) (by decide) ?_
    refine XS.iloadN Xp17.here hx rfl (hb hby d16_24) rfl ?_
    refine XS.aloadN Xp17.here hx rfl (hb hby d16_25) rfl rfl ?_
    show Sp p e below Tp17 (mkF m 26 #[.val (.ref t), .val (.ref d), .val (.int (1 : Int32)), .val (.int (0 : Int32)), .val (.int (4 : Int32)), .val (.int (1 : Int32))] [(.ref d), (.int (1 : Int32))]) _
    refine Xp17.arraylength hx (own_eq ep17 Arv21.1) (State.isArrayOf_alike hZ.alike Arv21.2.1) (g := (mkF m 26 #[.val (.ref t), .val (.ref d), .val (.int (1 : Int32)), .val (.int (0 : Int32)), .val (.int (4 : Int32)), .val (.int (1 : Int32))] [(.ref d), (.int (1 : Int32))])) rfl rfl (hb hby d16_26) _ ?_
    rw [len_of Sv21 Nv21]
    show Sp p e below Tp17 (mkF m 27 #[.val (.ref t), .val (.ref d), .val (.int (1 : Int32)), .val (.int (0 : Int32)), .val (.int (4 : Int32)), .val (.int (1 : Int32))] [(.int (1 : Int32)), (.int (1 : Int32))]) _
    refine XS.icmpYes Xp17.here hx rfl (pc0 := 27) (pc' := 144) rfl (hb hby d16_27) rfl (flt (by decide : ¬ ((1 : Int32) < (1 : Int32)))).2.1 (by decide) (by decide) ?_
    show Sp p e below Tp17 (mkF m 144 #[.val (.ref t), .val (.ref d), .val (.int (1 : Int32)), .val (.int (0 : Int32)), .val (.int (4 : Int32)), .val (.int (1 : Int32))] []) _
    exact Xp17.returnOut hx hret (hb hby d16_144) hlv
  · show Q_store4 Z t d kd bl kbl sl en bk kbk h0 n0 _ Tp17.heap _
    rw [ep17]
    exact ⟨rfl, Np17, K18, Fwp17, F22, F23, F24, F25, F26⟩
def Q_store5 (Z : State) (t : Addr) (d : Addr) (kd : ClassId) (bl : Addr) (kbl : ClassId) (sl : Addr) (en : Addr) (bk : Addr) (kbk : ClassId) (h0 : Heap) (n0 : Nat) (v : Option Value) (h : Heap) (L : List Loc) : Prop := v = none ∧ Fr n0 L ∧ Keep h0 h [t, bk] ∧ Fld Z h t S1 "stored" "I" (.int (6 : Int32)) ∧ Fld Z h t S1 "blocks" "[[B" (.ref bl) ∧ Fld Z h t S1 "size" "I" (.int (5 : Int32)) ∧ Fld Z h t S1 "slots" "[J" (.ref sl) ∧ Fld Z h t S1 "ends" "[I" (.ref en) ∧ Arv Z h bk kbk .byte (65536 : Int32) [(.int (97 : Int32)), (.int (98 : Int32)), (.int (99 : Int32)), (.int (100 : Int32)), (.int (101 : Int32)), (.int (102 : Int32)), (.int (0 : Int32)), (.int (0 : Int32))] (.int (0 : Int32))
set_option maxRecDepth 65536 in
set_option maxHeartbeats 40000000 in
theorem rm_store5 (l : Launch) (Z : State) (a0 : Array Value) (hw : ∀ d ∈ tables_1, d.before a0 Z = true) (ws : List Jvm.Cond) (t : Addr) (d : Addr) (kd : ClassId) (bl : Addr) (kbl : ClassId) (sl : Addr) (en : Addr) (bk : Addr) (kbk : ClassId) (h0 : Heap) (n0 : Nat) (Z0 : n0 ≤ h0.size) (O0 : Old Z n0 h0) (f0 : Exa Z h0 t S1) (f1 : Fld Z h0 t S1 "stored" "I" (.int (5 : Int32))) (f2 : Fld Z h0 t S1 "blocks" "[[B" (.ref bl)) (f3 : Arv Z h0 d kd .byte (1 : Int32) [(.int (102 : Int32))] (.int (0 : Int32))) (f4 : Fld Z h0 t S1 "size" "I" (.int (5 : Int32))) (f5 : Fld Z h0 t S1 "slots" "[J" (.ref sl)) (f6 : Fld Z h0 t S1 "ends" "[I" (.ref en)) (f7 : Arv Z h0 bl kbl (.array .byte) (1 : Int32) [(.ref bk)] .null) (f8 : Arv Z h0 bk kbk .byte (65536 : Int32) [(.int (97 : Int32)), (.int (98 : Int32)), (.int (99 : Int32)), (.int (100 : Int32)), (.int (101 : Int32)), (.int (0 : Int32)), (.int (0 : Int32)), (.int (0 : Int32))] (.int (0 : Int32))) (gt : n0 ≤ t) (gbk : n0 ≤ bk) (htb : t ≠ bk) (hdb : d ≠ bk) (hbb : bl ≠ bk) :
    MetFree l Y10 (head1 (Jvm.Cond.code Y10 prog_57_method_10_code 6 none :: ws) ({ frames := 1, cells := 0, slots := 0, locals := 40 } : Room)) (fun A_ U => A_ = #[(.ref t), (.ref d)] ∧ Z.Warmed39 U.vm ∧ U.heap = h0) (fun _ _ _ _ _ => True) (fun _ U o_ U' => ∃ v_ L_, o_ = .returned v_ ∧ Q_store5 Z t d kd bl kbl sl en bk kbk h0 n0 v_ U'.heap L_ ∧ FrameEnd U o_ U' L_ ({ frames := 1, cells := 0, slots := 0, locals := 40 } : Room).cells ({ frames := 1, cells := 0, slots := 0, locals := 40 } : Room).slots) := by
  refine MetFree.of_bodySF (plainFor_of_name pn_2) hisR ?_
  intro p e s m args below meth c s₁ Bd hml0 hP hK
  obtain ⟨rfl, hZ, hh⟩ := hP
  have hx := Bd.exec
  have hby := Bd.bytes
  have hml : c.maxLocals = 6 := hml0
  have hown : s.vm.findClass S1 = some m.cls := findClass_of_methodNamed Bd.named
  have hnm := (name_of_methodNamed Bd.named Bd.method).1
  have hret := Bd.returns
  have X0 : Stand p l e ({ frames := 1, cells := 0, slots := 0, locals := 40 } : Room) s m #[(.ref t), (.ref d)] below meth c s₁ [] 0 0 := Stand.of_body Bd
  have e0 : s₁.heap = h0 := by rw [← hh, Bd.state]; rfl
  have N0 := Fr.nil n0
  have pre0 : ∀ t_, Sp p e below s₁ (mkF m 0 #[.val (.ref t), .val (.ref d), .unset, .unset, .unset, .unset] []) t_ → Sp p e below s₁ (entryFrame m #[(.ref t), (.ref d)] 6) t_ := fun t_ k_ => castTop (ef_16_RR m t d) k_
  obtain ⟨clv1, Arv1, qv1, Sv1, Nv1, Hv1, Gv1⟩ := id f3
  obtain ⟨Tf2, Xf2, ef2, stf2⟩ := getF X0 hx hZ hown (host := "") (Or.inl (tw hw 104 rfl)) Via.refl e0 f1 (g := (mkF m 5 #[.val (.ref t), .val (.ref d), .unset, .unset, .unset, .unset] [(.ref t), (.int (2147483647 : Int32)), (.int (1 : Int32))])) rfl rfl (hb hby d16_5)
  obtain ⟨Tf3, Xf3, ef3, stf3⟩ := getF Xf2 hx hZ hown (host := "") (Or.inl (tw hw 104 rfl)) Via.refl ef2 f1 (g := (mkF m 31 #[.val (.ref t), .val (.ref d), .val (.int (0 : Int32)), .unset, .unset, .unset] [(.ref t)])) rfl rfl (hb hby d16_31)
  obtain ⟨Tf4, Xf4, ef4, stf4⟩ := getF Xf3 hx hZ hown (host := "") (Or.inl (tw hw 18 rfl)) Via.refl ef3 f2 (g := (mkF m 40 #[.val (.ref t), .val (.ref d), .val (.int (0 : Int32)), .val (.int (0 : Int32)), .unset, .unset] [(.ref t), (.int (0 : Int32))])) rfl rfl (hb hby d16_40)
  obtain ⟨clv5, Arv5, qv5, Sv5, Nv5, Hv5, Gv5⟩ := id f7
  obtain ⟨Tf6, Xf6, ef6, stf6⟩ := getF Xf4 hx hZ hown (host := "") (Or.inl (tw hw 18 rfl)) Via.refl ef4 f2 (g := (mkF m 69 #[.val (.ref t), .val (.ref d), .val (.int (0 : Int32)), .val (.int (0 : Int32)), .unset, .unset] [(.ref t)])) rfl rfl (hb hby d16_69)
  have in7 : ¬ ((0 : Int32) < 0 ∨ clv5.slots.size ≤ ((0 : Int32)).toNatClampNeg) := inb_of Sv5 ⟨by decide, by decide⟩
  have atin7 : clv5.slots[((0 : Int32)).toNatClampNeg]? = some (.ref bk) := Has.at Hv5 in7 rfl
  obtain ⟨Tf8, Xf8, ef8, stf8⟩ := getF Xf6 hx hZ hown (host := "") (Or.inl (tw hw 104 rfl)) Via.refl ef6 f1 (g := (mkF m 88 #[.val (.ref t), .val (.ref d), .val (.int (0 : Int32)), .val (.int (0 : Int32)), .unset, .unset] [(.ref t)])) rfl rfl (hb hby d16_88)
  obtain ⟨_, _, ⟨Tk9, Lk9, kk9, nk9⟩, -, Xk9, ⟨Lck9, hQk9, lk9, yk9, zk9⟩, stk9⟩ := Jvm.LawKit.callS Xf8 hx (y := Y9) hown (mvT hZ (tw hw 108 rfl)) (mvT hZ (tw hw 109 rfl)) (mvT hZ (tw hw 110 rfl)) (mvT hZ (tw hw 111 rfl)) (by decide) (backOf (W := 0) (rm_min l Z a0 hw [] (1 : Int32) (65531 : Int32) (1 : Int32)  h0 n0 Z0 O0 rfl) hZ (tw hw 111 rfl) (tw hw 110 rfl) (by decide) (by decide)) (g := (mkF m 105 #[.val (.ref t), .val (.ref d), .val (.int (0 : Int32)), .val (.int (0 : Int32)), .val (.int (5 : Int32)), .unset] [(.int (65531 : Int32)), (.int (1 : Int32))])) rfl (by rw [hml]; rfl) (argsL := [(.int (1 : Int32)), (.int (65531 : Int32))]) (rest := []) (lenOf pd__II_I rfl) rfl (by show 2 * 0 + _ ≤ _; exact Nat.le_of_eq rfl) (hb hby d16_105) (fun _ _ => ⟨rfl, ef8, (by decide : 0 + 0 ≤ _), (by decide : 0 + 0 ≤ _)⟩)
  dsimp only [Pt.U, Pt.locs, Pt.cells, Pt.slots] at Xk9 lk9 yk9 zk9 stk9 hQk9
  subst lk9 yk9 zk9
  obtain ⟨rfl, Nk9q, ek9⟩ := hQk9
  have Nk9 := Fr.app N0 Nk9q
  obtain ⟨Tf10, Xf10, ef10, stf10⟩ := getF Xk9 hx hZ hown (host := "") (Or.inl (tw hw 18 rfl)) Via.refl ek9 f2 (g := (mkF m 113 #[.val (.ref t), .val (.ref d), .val (.int (0 : Int32)), .val (.int (0 : Int32)), .val (.int (5 : Int32)), .val (.int (1 : Int32))] [(.ref t), (.int (0 : Int32)), (.ref d)])) rfl rfl (hb hby d16_113)
  have in11 : ¬ ((0 : Int32) < 0 ∨ clv5.slots.size ≤ ((0 : Int32)).toNatClampNeg) := inb_of Sv5 ⟨by decide, by decide⟩
  have atin11 : clv5.slots[((0 : Int32)).toNatClampNeg]? = some (.ref bk) := Has.at Hv5 in11 rfl
  obtain ⟨Ty12, hy12, Ly12, Xy12, ey12, Ny12, Ky12, Vy12, sty12⟩ := cpA Xf10 hx hZ hown (tw hw 112 rfl) (tw hw 115 rfl) (tw hw 113 rfl) (tw hw 114 rfl) ef10 f3 f8 (Or.inl ⟨rfl, rfl⟩) (by decide) (by decide) (by decide) (by decide) (by decide) rfl (by decide) Nk9 gbk (g := (mkF m 122 #[.val (.ref t), .val (.ref d), .val (.int (0 : Int32)), .val (.int (0 : Int32)), .val (.int (5 : Int32)), .val (.int (1 : Int32))] [(.int (1 : Int32)), (.int (5 : Int32)), (.ref bk), (.int (0 : Int32)), (.ref d)])) rfl (by rw [hml]; rfl) rfl (hb hby d16_122) (by decide) (W := 0) (by show 2 * 0 + _ ≤ _; exact Nat.le_of_eq rfl) (by decide)
  have K13 : Keep h0 hy12 [t, bk] := (Keep.refl h0 [t, bk]).trans Ky12 (allS (P := fun x => x ∈ ([t, bk] : List Addr) ∨ h0.size ≤ x) (Or.inl (List.mem_of_getElem? (i := 1) rfl)) all0)
  have Vcy12 : Arv Z hy12 bk kbk .byte (65536 : Int32) [(.int (97 : Int32)), (.int (98 : Int32)), (.int (99 : Int32)), (.int (100 : Int32)), (.int (101 : Int32)), (.int (102 : Int32)), (.int (0 : Int32)), (.int (0 : Int32))] (.int (0 : Int32)) := Vy12
  have F14 := (f1.keep Ky12 (ninS htb nin0))
  obtain ⟨Tf15, Xf15, ef15, stf15⟩ := getF Xy12 hx hZ hown (host := "") (Or.inl (tw hw 104 rfl)) Via.refl ey12 F14 (g := (mkF m 127 #[.val (.ref t), .val (.ref d), .val (.int (0 : Int32)), .val (.int (0 : Int32)), .val (.int (5 : Int32)), .val (.int (1 : Int32))] [(.ref t), (.ref t)])) rfl rfl (hb hby d16_127)
  have F16 := (f0.keep Ky12)
  obtain ⟨Tp17, hp17, Xp17, ep17, Wp17, stp17⟩ := putF Xf15 hx hZ hown (host := "") (Or.inl (tw hw 104 rfl)) Via.refl ef15 F14 F16 (Or.inl (tw hw 105 rfl)) (tw hw 2 rfl) (ty := .int) (by decide) rfl rfl (g := (mkF m 133 #[.val (.ref t), .val (.ref d), .val (.int (0 : Int32)), .val (.int (0 : Int32)), .val (.int (5 : Int32)), .val (.int (1 : Int32))] [(.int (6 : Int32)), (.ref t)])) rfl rfl (hb hby d16_133)
  have Fwp17 : Fld Z hp17 t S1 "stored" "I" (.int (6 : Int32)) := F14.same Wp17
  have Np17 := Fr.snoc Xp17 Ny12 gt
  have K18 : Keep h0 hp17 [t, bk] := K13.wr Wp17 (Or.inl (List.mem_of_getElem? (i := 0) rfl))
  have ne19 : t ≠ d := Exa.neArv f0 f3 (tw hw 2 rfl)
  have F20 := ((f3.keep Ky12 (ninS hdb nin0)).other Wp17 (Ne.symm ne19))
  obtain ⟨clv21, Arv21, qv21, Sv21, Nv21, Hv21, Gv21⟩ := id F20
  have F22 := ((f2.keep Ky12 (ninS htb nin0)).other Wp17 (Or.inr (slot_ne (Or.inl (tw hw 19 rfl)) (Or.inl (tw hw 105 rfl)) (by decide) (t := (.array (.array .byte))) (t' := .int) (by decide) (by decide))))
  have F23 := ((f4.keep Ky12 (ninS htb nin0)).other Wp17 (Or.inr (slot_ne (Or.inl (tw hw 30 rfl)) (Or.inl (tw hw 105 rfl)) (by decide) (t := .int) (t' := .int) (by decide) (by decide))))
  have F24 := ((f5.keep Ky12 (ninS htb nin0)).other Wp17 (Or.inr (slot_ne (Or.inl (tw hw 12 rfl)) (Or.inl (tw hw 105 rfl)) (by decide) (t := (.array .long)) (t' := .int) (by decide) (by decide))))
  have F25 := ((f6.keep Ky12 (ninS htb nin0)).other Wp17 (Or.inr (slot_ne (Or.inl (tw hw 15 rfl)) (Or.inl (tw hw 105 rfl)) (by decide) (t := (.array .int)) (t' := .int) (by decide) (by decide))))
  have F26 := (Vcy12.other Wp17 (Ne.symm htb))
  obtain ⟨fs, hlv, hrun, hended, hW, hsame⟩ := Xp17.leave (v := none) (fun _ => rfl)
  refine ⟨_, _, pre0 _ ?_, hrun, hended, _, _, rfl, ?_, ⟨_, rfl⟩, hW, hsame.mono (by decide) (by decide)⟩
  · refine XS.aloadN X0.here hx rfl (hb hby d16_0) rfl rfl ?_
    show Sp p e below s₁ (mkF m 1 #[.val (.ref t), .val (.ref d), .unset, .unset, .unset, .unset] [(.ref d)]) _
    refine X0.arraylength hx (own_eq e0 Arv1.1) (State.isArrayOf_alike hZ.alike Arv1.2.1) (g := (mkF m 1 #[.val (.ref t), .val (.ref d), .unset, .unset, .unset, .unset] [(.ref d)])) rfl rfl (hb hby d16_1) _ ?_
    rw [len_of Sv1 Nv1]
    show Sp p e below s₁ (mkF m 2 #[.val (.ref t), .val (.ref d), .unset, .unset, .unset, .unset] [(.int (1 : Int32))]) _
    refine Jvm.Stand.ldcI X0 hx hown (mvT hZ (tw hw 103 rfl)) rfl (hb hby d16_2) ?_
    refine XS.aloadN X0.here hx rfl (hb hby d16_4) rfl rfl ?_
    refine stf2 _ ?_
    refine XS.isub Xf2.here hx rfl (hb hby d16_8) rfl ?_
    refine XS.icmpYes Xf2.here hx rfl (pc0 := 9) (pc' := 22) rfl (hb hby d16_9) rfl (flt (by decide : ¬ ((2147483642 : Int32) < (1 : Int32)))).2.2.2 (by decide) (by decide) ?_
    refine XS.iconst Xf2.here hx rfl (hb hby d16_22) ?_
    refine XS.istoreN Xf2.here hx rfl (hb hby d16_23) rfl (l' := #[.val (.ref t), .val (.ref d), .val (.int (0 : Int32)), .unset, .unset, .unset]) rfl ?_
    refine XS.iloadN Xf2.here hx rfl (hb hby d16_24) rfl ?_
    refine XS.aloadN Xf2.here hx rfl (hb hby d16_25) rfl rfl ?_
    show Sp p e below Tf2 (mkF m 26 #[.val (.ref t), .val (.ref d), .val (.int (0 : Int32)), .unset, .unset, .unset] [(.ref d), (.int (0 : Int32))]) _
    refine Xf2.arraylength hx (own_eq ef2 Arv1.1) (State.isArrayOf_alike hZ.alike Arv1.2.1) (g := (mkF m 26 #[.val (.ref t), .val (.ref d), .val (.int (0 : Int32)), .unset, .unset, .unset] [(.ref d), (.int (0 : Int32))])) rfl rfl (hb hby d16_26) _ ?_
    rw [len_of Sv1 Nv1]
    show Sp p e below Tf2 (mkF m 27 #[.val (.ref t), .val (.ref d), .val (.int (0 : Int32)), .unset, .unset, .unset] [(.int (1 : Int32)), (.int (0 : Int32))]) _
    refine XS.icmpNo Xf2.here hx rfl (hb hby d16_27) rfl (tlt (by decide : (0 : Int32) < (1 : Int32))).2.1 ?_
    refine XS.aloadN Xf2.here hx rfl (hb hby d16_30) rfl rfl ?_
    refine stf3 _ ?_
    refine XS.bipush Xf3.here hx rfl (hb hby d16_34) ?_
    refine XS.iushr Xf3.here hx rfl (hb hby d16_36) rfl ?_
    refine XS.istoreN Xf3.here hx rfl (hb hby d16_37) rfl (l' := #[.val (.ref t), .val (.ref d), .val (.int (0 : Int32)), .val (.int (0 : Int32)), .unset, .unset]) rfl ?_
    refine XS.iloadN Xf3.here hx rfl (hb hby d16_38) rfl ?_
    refine XS.aloadN Xf3.here hx rfl (hb hby d16_39) rfl rfl ?_
    refine stf4 _ ?_
    show Sp p e below Tf4 (mkF m 43 #[.val (.ref t), .val (.ref d), .val (.int (0 : Int32)), .val (.int (0 : Int32)), .unset, .unset] [(.ref bl), (.int (0 : Int32))]) _
    refine Xf4.arraylength hx (own_eq ef4 Arv5.1) (State.isArrayOf_alike hZ.alike Arv5.2.1) (g := (mkF m 43 #[.val (.ref t), .val (.ref d), .val (.int (0 : Int32)), .val (.int (0 : Int32)), .unset, .unset] [(.ref bl), (.int (0 : Int32))])) rfl rfl (hb hby d16_43) _ ?_
    rw [len_of Sv5 Nv5]
    show Sp p e below Tf4 (mkF m 44 #[.val (.ref t), .val (.ref d), .val (.int (0 : Int32)), .val (.int (0 : Int32)), .unset, .unset] [(.int (1 : Int32)), (.int (0 : Int32))]) _
    refine XS.icmpYes Xf4.here hx rfl (pc0 := 44) (pc' := 68) rfl (hb hby d16_44) rfl (feq (by decide : ¬ ((0 : Int32) = (1 : Int32)))).2 (by decide) (by decide) ?_
    refine XS.aloadN Xf4.here hx rfl (hb hby d16_68) rfl rfl ?_
    refine stf6 _ ?_
    refine XS.iloadN Xf6.here hx rfl (hb hby d16_72) rfl ?_
    show Sp p e below Tf6 (mkF m 73 #[.val (.ref t), .val (.ref d), .val (.int (0 : Int32)), .val (.int (0 : Int32)), .unset, .unset] [(.int (0 : Int32)), (.ref bl)]) _
    refine Xf6.aaload hx (j := (0 : Int32)) (v := (.ref bk)) (own_eq ef6 Arv5.1) (State.isArrayOf_alike hZ.alike Arv5.2.1) rfl Arv5.2.2 in7 atin7 (g := (mkF m 73 #[.val (.ref t), .val (.ref d), .val (.int (0 : Int32)), .val (.int (0 : Int32)), .unset, .unset] [(.int (0 : Int32)), (.ref bl)])) rfl rfl (hb hby d16_73) _ ?_
    show Sp p e below Tf6 (mkF m 74 #[.val (.ref t), .val (.ref d), .val (.int (0 : Int32)), .val (.int (0 : Int32)), .unset, .unset] [(.ref bk)]) _
    refine XS.ifnonnullYes Xf6.here hx rfl (pc0 := 74) (pc' := 87) rfl (hb hby d16_74) rfl (by decide) (by decide) ?_
    refine XS.aloadN Xf6.here hx rfl (hb hby d16_87) rfl rfl ?_
    refine stf8 _ ?_
    show Sp p e below Tf8 (mkF m 91 #[.val (.ref t), .val (.ref d), .val (.int (0 : Int32)), .val (.int (0 : Int32)), .unset, .unset] [(.int (5 : Int32))]) _
    refine Jvm.Stand.ldcI Xf8 hx hown (mvT hZ (tw hw 107 rfl)) rfl (hb hby d16_91) ?_
    refine XS.iand Xf8.here hx rfl (hb hby d16_93) rfl ?_
    refine XS.istore Xf8.here hx rfl (hb hby d16_94) rfl (l' := #[.val (.ref t), .val (.ref d), .val (.int (0 : Int32)), .val (.int (0 : Int32)), .val (.int (5 : Int32)), .unset]) rfl ?_
    refine XS.aloadN Xf8.here hx rfl (hb hby d16_96) rfl rfl ?_
    show Sp p e below Tf8 (mkF m 97 #[.val (.ref t), .val (.ref d), .val (.int (0 : Int32)), .val (.int (0 : Int32)), .val (.int (5 : Int32)), .unset] [(.ref d)]) _
    refine Xf8.arraylength hx (own_eq ef8 Arv1.1) (State.isArrayOf_alike hZ.alike Arv1.2.1) (g := (mkF m 97 #[.val (.ref t), .val (.ref d), .val (.int (0 : Int32)), .val (.int (0 : Int32)), .val (.int (5 : Int32)), .unset] [(.ref d)])) rfl rfl (hb hby d16_97) _ ?_
    rw [len_of Sv1 Nv1]
    show Sp p e below Tf8 (mkF m 98 #[.val (.ref t), .val (.ref d), .val (.int (0 : Int32)), .val (.int (0 : Int32)), .val (.int (5 : Int32)), .unset] [(.int (1 : Int32))]) _
    refine XS.iloadN Xf8.here hx rfl (hb hby d16_98) rfl ?_
    refine XS.isub Xf8.here hx rfl (hb hby d16_99) rfl ?_
    show Sp p e below Tf8 (mkF m 100 #[.val (.ref t), .val (.ref d), .val (.int (0 : Int32)), .val (.int (0 : Int32)), .val (.int (5 : Int32)), .unset] [(.int (1 : Int32))]) _
    refine Jvm.Stand.ldcI Xf8 hx hown (mvT hZ (tw hw 106 rfl)) rfl (hb hby d16_100) ?_
    refine XS.iload Xf8.here hx rfl (hb hby d16_102) rfl ?_
    refine XS.isub Xf8.here hx rfl (hb hby d16_104) rfl ?_
    refine stk9 _ ?_
    refine XS.istore Xk9.here hx rfl (hb hby d16_108) rfl (l' := #[.val (.ref t), .val (.ref d), .val (.int (0 : Int32)), .val (.int (0 : Int32)), .val (.int (5 : Int32)), .val (.int (1 : Int32))]) rfl ?_
    refine XS.aloadN Xk9.here hx rfl (hb hby d16_110) rfl rfl ?_
    refine XS.iloadN Xk9.here hx rfl (hb hby d16_111) rfl ?_
    refine XS.aloadN Xk9.here hx rfl (hb hby d16_112) rfl rfl ?_
    refine stf10 _ ?_
    refine XS.iloadN Xf10.here hx rfl (hb hby d16_116) rfl ?_
    show Sp p e below Tf10 (mkF m 117 #[.val (.ref t), .val (.ref d), .val (.int (0 : Int32)), .val (.int (0 : Int32)), .val (.int (5 : Int32)), .val (.int (1 : Int32))] [(.int (0 : Int32)), (.ref bl), (.int (0 : Int32)), (.ref d)]) _
    refine Xf10.aaload hx (j := (0 : Int32)) (v := (.ref bk)) (own_eq ef10 Arv5.1) (State.isArrayOf_alike hZ.alike Arv5.2.1) rfl Arv5.2.2 in11 atin11 (g := (mkF m 117 #[.val (.ref t), .val (.ref d), .val (.int (0 : Int32)), .val (.int (0 : Int32)), .val (.int (5 : Int32)), .val (.int (1 : Int32))] [(.int (0 : Int32)), (.ref bl), (.int (0 : Int32)), (.ref d)])) rfl rfl (hb hby d16_117) _ ?_
    show Sp p e below Tf10 (mkF m 118 #[.val (.ref t), .val (.ref d), .val (.int (0 : Int32)), .val (.int (0 : Int32)), .val (.int (5 : Int32)), .val (.int (1 : Int32))] [(.ref bk), (.int (0 : Int32)), (.ref d)]) _
    refine XS.iload Xf10.here hx rfl (hb hby d16_118) rfl ?_
    refine XS.iload Xf10.here hx rfl (hb hby d16_120) rfl ?_
    refine sty12 _ ?_
    refine XS.aloadN Xy12.here hx rfl (hb hby d16_125) rfl rfl ?_
    refine XS.dup Xy12.here hx rfl (hb hby d16_126) rfl rfl ?_
    refine stf15 _ ?_
    refine XS.iload Xf15.here hx rfl (hb hby d16_130) rfl ?_
    refine XS.iadd Xf15.here hx rfl (hb hby d16_132) rfl ?_
    refine stp17 _ ?_
    refine XS.iloadN Xp17.here hx rfl (hb hby d16_136) rfl ?_
    refine XS.iload Xp17.here hx rfl (hb hby d16_137) rfl ?_
    refine XS.iadd Xp17.here hx rfl (hb hby d16_139) rfl ?_
    refine XS.istoreN Xp17.here hx rfl (hb hby d16_140) rfl (l' := #[.val (.ref t), .val (.ref d), .val (.int (1 : Int32)), .val (.int (0 : Int32)), .val (.int (5 : Int32)), .val (.int (1 : Int32))]) rfl ?_
    refine XS.goto Xp17.here hx rfl (pc0 := 141) (pc' := 24) rfl (hb hby d16_141) (by decide) (by decide) ?_
    refine XS.iloadN Xp17.here hx rfl (hb hby d16_24) rfl ?_
    refine XS.aloadN Xp17.here hx rfl (hb hby d16_25) rfl rfl ?_
    show Sp p e below Tp17 (mkF m 26 #[.val (.ref t), .val (.ref d), .val (.int (1 : Int32)), .val (.int (0 : Int32)), .val (.int (5 : Int32)), .val (.int (1 : Int32))] [(.ref d), (.int (1 : Int32))]) _
    refine Xp17.arraylength hx (own_eq ep17 Arv21.1) (State.isArrayOf_alike hZ.alike Arv21.2.1) (g := (mkF m 26 #[.val (.ref t), .val (.ref d), .val (.int (1 : Int32)), .val (.int (0 : Int32)), .val (.int (5 : Int32)), .val (.int (1 : Int32))] [(.ref d), (.int (1 : Int32))])) rfl rfl (hb hby d16_26) _ ?_
    rw [len_of Sv21 Nv21]
    show Sp p e below Tp17 (mkF m 27 #[.val (.ref t), .val (.ref d), .val (.int (1 : Int32)), .val (.int (0 : Int32)), .val (.int (5 : Int32)), .val (.int (1 : Int32))] [(.int (1 : Int32)), (.int (1 : Int32))]) _
    refine XS.icmpYes Xp17.here hx rfl (pc0 := 27) (pc' := 144) rfl (hb hby d16_27) rfl (flt (by decide : ¬ ((1 : Int32) < (1 : Int32)))).2.1 (by decide) (by decide) ?_
    show Sp p e below Tp17 (mkF m 144 #[.val (.ref t), .val (.ref d), .val (.int (1 : Int32)), .val (.int (0 : Int32)), .val (.int (5 : Int32)), .val (.int (1 : Int32))] []) _
    exact Xp17.returnOut hx hret (hb hby d16_144) hlv
  · show Q_store5 Z t d kd bl kbl sl en bk kbk h0 n0 _ Tp17.heap _
    rw [ep17]
    exact ⟨rfl, Np17, K18, Fwp17, F22, F23, F24, F25, F26⟩
def Q_store6 (Z : State) (t : Addr) (d : Addr) (kd : ClassId) (bl : Addr) (kbl : ClassId) (sl : Addr) (en : Addr) (bk : Addr) (kbk : ClassId) (h0 : Heap) (n0 : Nat) (v : Option Value) (h : Heap) (L : List Loc) : Prop := v = none ∧ Fr n0 L ∧ Keep h0 h [t, bk] ∧ Fld Z h t S1 "stored" "I" (.int (7 : Int32)) ∧ Fld Z h t S1 "blocks" "[[B" (.ref bl) ∧ Fld Z h t S1 "size" "I" (.int (6 : Int32)) ∧ Fld Z h t S1 "slots" "[J" (.ref sl) ∧ Fld Z h t S1 "ends" "[I" (.ref en) ∧ Arv Z h bk kbk .byte (65536 : Int32) [(.int (97 : Int32)), (.int (98 : Int32)), (.int (99 : Int32)), (.int (100 : Int32)), (.int (101 : Int32)), (.int (102 : Int32)), (.int (103 : Int32)), (.int (0 : Int32))] (.int (0 : Int32))
set_option maxRecDepth 65536 in
set_option maxHeartbeats 40000000 in
theorem rm_store6 (l : Launch) (Z : State) (a0 : Array Value) (hw : ∀ d ∈ tables_1, d.before a0 Z = true) (ws : List Jvm.Cond) (t : Addr) (d : Addr) (kd : ClassId) (bl : Addr) (kbl : ClassId) (sl : Addr) (en : Addr) (bk : Addr) (kbk : ClassId) (h0 : Heap) (n0 : Nat) (Z0 : n0 ≤ h0.size) (O0 : Old Z n0 h0) (f0 : Exa Z h0 t S1) (f1 : Fld Z h0 t S1 "stored" "I" (.int (6 : Int32))) (f2 : Fld Z h0 t S1 "blocks" "[[B" (.ref bl)) (f3 : Arv Z h0 d kd .byte (1 : Int32) [(.int (103 : Int32))] (.int (0 : Int32))) (f4 : Fld Z h0 t S1 "size" "I" (.int (6 : Int32))) (f5 : Fld Z h0 t S1 "slots" "[J" (.ref sl)) (f6 : Fld Z h0 t S1 "ends" "[I" (.ref en)) (f7 : Arv Z h0 bl kbl (.array .byte) (1 : Int32) [(.ref bk)] .null) (f8 : Arv Z h0 bk kbk .byte (65536 : Int32) [(.int (97 : Int32)), (.int (98 : Int32)), (.int (99 : Int32)), (.int (100 : Int32)), (.int (101 : Int32)), (.int (102 : Int32)), (.int (0 : Int32)), (.int (0 : Int32))] (.int (0 : Int32))) (gt : n0 ≤ t) (gbk : n0 ≤ bk) (htb : t ≠ bk) (hdb : d ≠ bk) (hbb : bl ≠ bk) :
    MetFree l Y10 (head1 (Jvm.Cond.code Y10 prog_57_method_10_code 6 none :: ws) ({ frames := 1, cells := 0, slots := 0, locals := 40 } : Room)) (fun A_ U => A_ = #[(.ref t), (.ref d)] ∧ Z.Warmed39 U.vm ∧ U.heap = h0) (fun _ _ _ _ _ => True) (fun _ U o_ U' => ∃ v_ L_, o_ = .returned v_ ∧ Q_store6 Z t d kd bl kbl sl en bk kbk h0 n0 v_ U'.heap L_ ∧ FrameEnd U o_ U' L_ ({ frames := 1, cells := 0, slots := 0, locals := 40 } : Room).cells ({ frames := 1, cells := 0, slots := 0, locals := 40 } : Room).slots) := by
  refine MetFree.of_bodySF (plainFor_of_name pn_2) hisR ?_
  intro p e s m args below meth c s₁ Bd hml0 hP hK
  obtain ⟨rfl, hZ, hh⟩ := hP
  have hx := Bd.exec
  have hby := Bd.bytes
  have hml : c.maxLocals = 6 := hml0
  have hown : s.vm.findClass S1 = some m.cls := findClass_of_methodNamed Bd.named
  have hnm := (name_of_methodNamed Bd.named Bd.method).1
  have hret := Bd.returns
  have X0 : Stand p l e ({ frames := 1, cells := 0, slots := 0, locals := 40 } : Room) s m #[(.ref t), (.ref d)] below meth c s₁ [] 0 0 := Stand.of_body Bd
  have e0 : s₁.heap = h0 := by rw [← hh, Bd.state]; rfl
  have N0 := Fr.nil n0
  have pre0 : ∀ t_, Sp p e below s₁ (mkF m 0 #[.val (.ref t), .val (.ref d), .unset, .unset, .unset, .unset] []) t_ → Sp p e below s₁ (entryFrame m #[(.ref t), (.ref d)] 6) t_ := fun t_ k_ => castTop (ef_16_RR m t d) k_
  obtain ⟨clv1, Arv1, qv1, Sv1, Nv1, Hv1, Gv1⟩ := id f3
  obtain ⟨Tf2, Xf2, ef2, stf2⟩ := getF X0 hx hZ hown (host := "") (Or.inl (tw hw 104 rfl)) Via.refl e0 f1 (g := (mkF m 5 #[.val (.ref t), .val (.ref d), .unset, .unset, .unset, .unset] [(.ref t), (.int (2147483647 : Int32)), (.int (1 : Int32))])) rfl rfl (hb hby d16_5)
  obtain ⟨Tf3, Xf3, ef3, stf3⟩ := getF Xf2 hx hZ hown (host := "") (Or.inl (tw hw 104 rfl)) Via.refl ef2 f1 (g := (mkF m 31 #[.val (.ref t), .val (.ref d), .val (.int (0 : Int32)), .unset, .unset, .unset] [(.ref t)])) rfl rfl (hb hby d16_31)
  obtain ⟨Tf4, Xf4, ef4, stf4⟩ := getF Xf3 hx hZ hown (host := "") (Or.inl (tw hw 18 rfl)) Via.refl ef3 f2 (g := (mkF m 40 #[.val (.ref t), .val (.ref d), .val (.int (0 : Int32)), .val (.int (0 : Int32)), .unset, .unset] [(.ref t), (.int (0 : Int32))])) rfl rfl (hb hby d16_40)
  obtain ⟨clv5, Arv5, qv5, Sv5, Nv5, Hv5, Gv5⟩ := id f7
  obtain ⟨Tf6, Xf6, ef6, stf6⟩ := getF Xf4 hx hZ hown (host := "") (Or.inl (tw hw 18 rfl)) Via.refl ef4 f2 (g := (mkF m 69 #[.val (.ref t), .val (.ref d), .val (.int (0 : Int32)), .val (.int (0 : Int32)), .unset, .unset] [(.ref t)])) rfl rfl (hb hby d16_69)
  have in7 : ¬ ((0 : Int32) < 0 ∨ clv5.slots.size ≤ ((0 : Int32)).toNatClampNeg) := inb_of Sv5 ⟨by decide, by decide⟩
  have atin7 : clv5.slots[((0 : Int32)).toNatClampNeg]? = some (.ref bk) := Has.at Hv5 in7 rfl
  obtain ⟨Tf8, Xf8, ef8, stf8⟩ := getF Xf6 hx hZ hown (host := "") (Or.inl (tw hw 104 rfl)) Via.refl ef6 f1 (g := (mkF m 88 #[.val (.ref t), .val (.ref d), .val (.int (0 : Int32)), .val (.int (0 : Int32)), .unset, .unset] [(.ref t)])) rfl rfl (hb hby d16_88)
  obtain ⟨_, _, ⟨Tk9, Lk9, kk9, nk9⟩, -, Xk9, ⟨Lck9, hQk9, lk9, yk9, zk9⟩, stk9⟩ := Jvm.LawKit.callS Xf8 hx (y := Y9) hown (mvT hZ (tw hw 108 rfl)) (mvT hZ (tw hw 109 rfl)) (mvT hZ (tw hw 110 rfl)) (mvT hZ (tw hw 111 rfl)) (by decide) (backOf (W := 0) (rm_min l Z a0 hw [] (1 : Int32) (65530 : Int32) (1 : Int32)  h0 n0 Z0 O0 rfl) hZ (tw hw 111 rfl) (tw hw 110 rfl) (by decide) (by decide)) (g := (mkF m 105 #[.val (.ref t), .val (.ref d), .val (.int (0 : Int32)), .val (.int (0 : Int32)), .val (.int (6 : Int32)), .unset] [(.int (65530 : Int32)), (.int (1 : Int32))])) rfl (by rw [hml]; rfl) (argsL := [(.int (1 : Int32)), (.int (65530 : Int32))]) (rest := []) (lenOf pd__II_I rfl) rfl (by show 2 * 0 + _ ≤ _; exact Nat.le_of_eq rfl) (hb hby d16_105) (fun _ _ => ⟨rfl, ef8, (by decide : 0 + 0 ≤ _), (by decide : 0 + 0 ≤ _)⟩)
  dsimp only [Pt.U, Pt.locs, Pt.cells, Pt.slots] at Xk9 lk9 yk9 zk9 stk9 hQk9
  subst lk9 yk9 zk9
  obtain ⟨rfl, Nk9q, ek9⟩ := hQk9
  have Nk9 := Fr.app N0 Nk9q
  obtain ⟨Tf10, Xf10, ef10, stf10⟩ := getF Xk9 hx hZ hown (host := "") (Or.inl (tw hw 18 rfl)) Via.refl ek9 f2 (g := (mkF m 113 #[.val (.ref t), .val (.ref d), .val (.int (0 : Int32)), .val (.int (0 : Int32)), .val (.int (6 : Int32)), .val (.int (1 : Int32))] [(.ref t), (.int (0 : Int32)), (.ref d)])) rfl rfl (hb hby d16_113)
  have in11 : ¬ ((0 : Int32) < 0 ∨ clv5.slots.size ≤ ((0 : Int32)).toNatClampNeg) := inb_of Sv5 ⟨by decide, by decide⟩
  have atin11 : clv5.slots[((0 : Int32)).toNatClampNeg]? = some (.ref bk) := Has.at Hv5 in11 rfl
  obtain ⟨Ty12, hy12, Ly12, Xy12, ey12, Ny12, Ky12, Vy12, sty12⟩ := cpA Xf10 hx hZ hown (tw hw 112 rfl) (tw hw 115 rfl) (tw hw 113 rfl) (tw hw 114 rfl) ef10 f3 f8 (Or.inl ⟨rfl, rfl⟩) (by decide) (by decide) (by decide) (by decide) (by decide) rfl (by decide) Nk9 gbk (g := (mkF m 122 #[.val (.ref t), .val (.ref d), .val (.int (0 : Int32)), .val (.int (0 : Int32)), .val (.int (6 : Int32)), .val (.int (1 : Int32))] [(.int (1 : Int32)), (.int (6 : Int32)), (.ref bk), (.int (0 : Int32)), (.ref d)])) rfl (by rw [hml]; rfl) rfl (hb hby d16_122) (by decide) (W := 0) (by show 2 * 0 + _ ≤ _; exact Nat.le_of_eq rfl) (by decide)
  have K13 : Keep h0 hy12 [t, bk] := (Keep.refl h0 [t, bk]).trans Ky12 (allS (P := fun x => x ∈ ([t, bk] : List Addr) ∨ h0.size ≤ x) (Or.inl (List.mem_of_getElem? (i := 1) rfl)) all0)
  have Vcy12 : Arv Z hy12 bk kbk .byte (65536 : Int32) [(.int (97 : Int32)), (.int (98 : Int32)), (.int (99 : Int32)), (.int (100 : Int32)), (.int (101 : Int32)), (.int (102 : Int32)), (.int (103 : Int32)), (.int (0 : Int32))] (.int (0 : Int32)) := Vy12
  have F14 := (f1.keep Ky12 (ninS htb nin0))
  obtain ⟨Tf15, Xf15, ef15, stf15⟩ := getF Xy12 hx hZ hown (host := "") (Or.inl (tw hw 104 rfl)) Via.refl ey12 F14 (g := (mkF m 127 #[.val (.ref t), .val (.ref d), .val (.int (0 : Int32)), .val (.int (0 : Int32)), .val (.int (6 : Int32)), .val (.int (1 : Int32))] [(.ref t), (.ref t)])) rfl rfl (hb hby d16_127)
  have F16 := (f0.keep Ky12)
  obtain ⟨Tp17, hp17, Xp17, ep17, Wp17, stp17⟩ := putF Xf15 hx hZ hown (host := "") (Or.inl (tw hw 104 rfl)) Via.refl ef15 F14 F16 (Or.inl (tw hw 105 rfl)) (tw hw 2 rfl) (ty := .int) (by decide) rfl rfl (g := (mkF m 133 #[.val (.ref t), .val (.ref d), .val (.int (0 : Int32)), .val (.int (0 : Int32)), .val (.int (6 : Int32)), .val (.int (1 : Int32))] [(.int (7 : Int32)), (.ref t)])) rfl rfl (hb hby d16_133)
  have Fwp17 : Fld Z hp17 t S1 "stored" "I" (.int (7 : Int32)) := F14.same Wp17
  have Np17 := Fr.snoc Xp17 Ny12 gt
  have K18 : Keep h0 hp17 [t, bk] := K13.wr Wp17 (Or.inl (List.mem_of_getElem? (i := 0) rfl))
  have ne19 : t ≠ d := Exa.neArv f0 f3 (tw hw 2 rfl)
  have F20 := ((f3.keep Ky12 (ninS hdb nin0)).other Wp17 (Ne.symm ne19))
  obtain ⟨clv21, Arv21, qv21, Sv21, Nv21, Hv21, Gv21⟩ := id F20
  have F22 := ((f2.keep Ky12 (ninS htb nin0)).other Wp17 (Or.inr (slot_ne (Or.inl (tw hw 19 rfl)) (Or.inl (tw hw 105 rfl)) (by decide) (t := (.array (.array .byte))) (t' := .int) (by decide) (by decide))))
  have F23 := ((f4.keep Ky12 (ninS htb nin0)).other Wp17 (Or.inr (slot_ne (Or.inl (tw hw 30 rfl)) (Or.inl (tw hw 105 rfl)) (by decide) (t := .int) (t' := .int) (by decide) (by decide))))
  have F24 := ((f5.keep Ky12 (ninS htb nin0)).other Wp17 (Or.inr (slot_ne (Or.inl (tw hw 12 rfl)) (Or.inl (tw hw 105 rfl)) (by decide) (t := (.array .long)) (t' := .int) (by decide) (by decide))))
  have F25 := ((f6.keep Ky12 (ninS htb nin0)).other Wp17 (Or.inr (slot_ne (Or.inl (tw hw 15 rfl)) (Or.inl (tw hw 105 rfl)) (by decide) (t := (.array .int)) (t' := .int) (by decide) (by decide))))
  have F26 := (Vcy12.other Wp17 (Ne.symm htb))
  obtain ⟨fs, hlv, hrun, hended, hW, hsame⟩ := Xp17.leave (v := none) (fun _ => rfl)
  refine ⟨_, _, pre0 _ ?_, hrun, hended, _, _, rfl, ?_, ⟨_, rfl⟩, hW, hsame.mono (by decide) (by decide)⟩
  · refine XS.aloadN X0.here hx rfl (hb hby d16_0) rfl rfl ?_
    show Sp p e below s₁ (mkF m 1 #[.val (.ref t), .val (.ref d), .unset, .unset, .unset, .unset] [(.ref d)]) _
    refine X0.arraylength hx (own_eq e0 Arv1.1) (State.isArrayOf_alike hZ.alike Arv1.2.1) (g := (mkF m 1 #[.val (.ref t), .val (.ref d), .unset, .unset, .unset, .unset] [(.ref d)])) rfl rfl (hb hby d16_1) _ ?_
    rw [len_of Sv1 Nv1]
    show Sp p e below s₁ (mkF m 2 #[.val (.ref t), .val (.ref d), .unset, .unset, .unset, .unset] [(.int (1 : Int32))]) _
    refine Jvm.Stand.ldcI X0 hx hown (mvT hZ (tw hw 103 rfl)) rfl (hb hby d16_2) ?_
    refine XS.aloadN X0.here hx rfl (hb hby d16_4) rfl rfl ?_
    refine stf2 _ ?_
    refine XS.isub Xf2.here hx rfl (hb hby d16_8) rfl ?_
    refine XS.icmpYes Xf2.here hx rfl (pc0 := 9) (pc' := 22) rfl (hb hby d16_9) rfl (flt (by decide : ¬ ((2147483641 : Int32) < (1 : Int32)))).2.2.2 (by decide) (by decide) ?_
    refine XS.iconst Xf2.here hx rfl (hb hby d16_22) ?_
    refine XS.istoreN Xf2.here hx rfl (hb hby d16_23) rfl (l' := #[.val (.ref t), .val (.ref d), .val (.int (0 : Int32)), .unset, .unset, .unset]) rfl ?_
    refine XS.iloadN Xf2.here hx rfl (hb hby d16_24) rfl ?_
    refine XS.aloadN Xf2.here hx rfl (hb hby d16_25) rfl rfl ?_
    show Sp p e below Tf2 (mkF m 26 #[.val (.ref t), .val (.ref d), .val (.int (0 : Int32)), .unset, .unset, .unset] [(.ref d), (.int (0 : Int32))]) _
    refine Xf2.arraylength hx (own_eq ef2 Arv1.1) (State.isArrayOf_alike hZ.alike Arv1.2.1) (g := (mkF m 26 #[.val (.ref t), .val (.ref d), .val (.int (0 : Int32)), .unset, .unset, .unset] [(.ref d), (.int (0 : Int32))])) rfl rfl (hb hby d16_26) _ ?_
    rw [len_of Sv1 Nv1]
    show Sp p e below Tf2 (mkF m 27 #[.val (.ref t), .val (.ref d), .val (.int (0 : Int32)), .unset, .unset, .unset] [(.int (1 : Int32)), (.int (0 : Int32))]) _
    refine XS.icmpNo Xf2.here hx rfl (hb hby d16_27) rfl (tlt (by decide : (0 : Int32) < (1 : Int32))).2.1 ?_
    refine XS.aloadN Xf2.here hx rfl (hb hby d16_30) rfl rfl ?_
    refine stf3 _ ?_
    refine XS.bipush Xf3.here hx rfl (hb hby d16_34) ?_
    refine XS.iushr Xf3.here hx rfl (hb hby d16_36) rfl ?_
    refine XS.istoreN Xf3.here hx rfl (hb hby d16_37) rfl (l' := #[.val (.ref t), .val (.ref d), .val (.int (0 : Int32)), .val (.int (0 : Int32)), .unset, .unset]) rfl ?_
    refine XS.iloadN Xf3.here hx rfl (hb hby d16_38) rfl ?_
    refine XS.aloadN Xf3.here hx rfl (hb hby d16_39) rfl rfl ?_
    refine stf4 _ ?_
    show Sp p e below Tf4 (mkF m 43 #[.val (.ref t), .val (.ref d), .val (.int (0 : Int32)), .val (.int (0 : Int32)), .unset, .unset] [(.ref bl), (.int (0 : Int32))]) _
    refine Xf4.arraylength hx (own_eq ef4 Arv5.1) (State.isArrayOf_alike hZ.alike Arv5.2.1) (g := (mkF m 43 #[.val (.ref t), .val (.ref d), .val (.int (0 : Int32)), .val (.int (0 : Int32)), .unset, .unset] [(.ref bl), (.int (0 : Int32))])) rfl rfl (hb hby d16_43) _ ?_
    rw [len_of Sv5 Nv5]
    show Sp p e below Tf4 (mkF m 44 #[.val (.ref t), .val (.ref d), .val (.int (0 : Int32)), .val (.int (0 : Int32)), .unset, .unset] [(.int (1 : Int32)), (.int (0 : Int32))]) _
    refine XS.icmpYes Xf4.here hx rfl (pc0 := 44) (pc' := 68) rfl (hb hby d16_44) rfl (feq (by decide : ¬ ((0 : Int32) = (1 : Int32)))).2 (by decide) (by decide) ?_
    refine XS.aloadN Xf4.here hx rfl (hb hby d16_68) rfl rfl ?_
    refine stf6 _ ?_
    refine XS.iloadN Xf6.here hx rfl (hb hby d16_72) rfl ?_
    show Sp p e below Tf6 (mkF m 73 #[.val (.ref t), .val (.ref d), .val (.int (0 : Int32)), .val (.int (0 : Int32)), .unset, .unset] [(.int (0 : Int32)), (.ref bl)]) _
    refine Xf6.aaload hx (j := (0 : Int32)) (v := (.ref bk)) (own_eq ef6 Arv5.1) (State.isArrayOf_alike hZ.alike Arv5.2.1) rfl Arv5.2.2 in7 atin7 (g := (mkF m 73 #[.val (.ref t), .val (.ref d), .val (.int (0 : Int32)), .val (.int (0 : Int32)), .unset, .unset] [(.int (0 : Int32)), (.ref bl)])) rfl rfl (hb hby d16_73) _ ?_
    show Sp p e below Tf6 (mkF m 74 #[.val (.ref t), .val (.ref d), .val (.int (0 : Int32)), .val (.int (0 : Int32)), .unset, .unset] [(.ref bk)]) _
    refine XS.ifnonnullYes Xf6.here hx rfl (pc0 := 74) (pc' := 87) rfl (hb hby d16_74) rfl (by decide) (by decide) ?_
    refine XS.aloadN Xf6.here hx rfl (hb hby d16_87) rfl rfl ?_
    refine stf8 _ ?_
    show Sp p e below Tf8 (mkF m 91 #[.val (.ref t), .val (.ref d), .val (.int (0 : Int32)), .val (.int (0 : Int32)), .unset, .unset] [(.int (6 : Int32))]) _
    refine Jvm.Stand.ldcI Xf8 hx hown (mvT hZ (tw hw 107 rfl)) rfl (hb hby d16_91) ?_
    refine XS.iand Xf8.here hx rfl (hb hby d16_93) rfl ?_
    refine XS.istore Xf8.here hx rfl (hb hby d16_94) rfl (l' := #[.val (.ref t), .val (.ref d), .val (.int (0 : Int32)), .val (.int (0 : Int32)), .val (.int (6 : Int32)), .unset]) rfl ?_
    refine XS.aloadN Xf8.here hx rfl (hb hby d16_96) rfl rfl ?_
    show Sp p e below Tf8 (mkF m 97 #[.val (.ref t), .val (.ref d), .val (.int (0 : Int32)), .val (.int (0 : Int32)), .val (.int (6 : Int32)), .unset] [(.ref d)]) _
    refine Xf8.arraylength hx (own_eq ef8 Arv1.1) (State.isArrayOf_alike hZ.alike Arv1.2.1) (g := (mkF m 97 #[.val (.ref t), .val (.ref d), .val (.int (0 : Int32)), .val (.int (0 : Int32)), .val (.int (6 : Int32)), .unset] [(.ref d)])) rfl rfl (hb hby d16_97) _ ?_
    rw [len_of Sv1 Nv1]
    show Sp p e below Tf8 (mkF m 98 #[.val (.ref t), .val (.ref d), .val (.int (0 : Int32)), .val (.int (0 : Int32)), .val (.int (6 : Int32)), .unset] [(.int (1 : Int32))]) _
    refine XS.iloadN Xf8.here hx rfl (hb hby d16_98) rfl ?_
    refine XS.isub Xf8.here hx rfl (hb hby d16_99) rfl ?_
    show Sp p e below Tf8 (mkF m 100 #[.val (.ref t), .val (.ref d), .val (.int (0 : Int32)), .val (.int (0 : Int32)), .val (.int (6 : Int32)), .unset] [(.int (1 : Int32))]) _
    refine Jvm.Stand.ldcI Xf8 hx hown (mvT hZ (tw hw 106 rfl)) rfl (hb hby d16_100) ?_
    refine XS.iload Xf8.here hx rfl (hb hby d16_102) rfl ?_
    refine XS.isub Xf8.here hx rfl (hb hby d16_104) rfl ?_
    refine stk9 _ ?_
    refine XS.istore Xk9.here hx rfl (hb hby d16_108) rfl (l' := #[.val (.ref t), .val (.ref d), .val (.int (0 : Int32)), .val (.int (0 : Int32)), .val (.int (6 : Int32)), .val (.int (1 : Int32))]) rfl ?_
    refine XS.aloadN Xk9.here hx rfl (hb hby d16_110) rfl rfl ?_
    refine XS.iloadN Xk9.here hx rfl (hb hby d16_111) rfl ?_
    refine XS.aloadN Xk9.here hx rfl (hb hby d16_112) rfl rfl ?_
    refine stf10 _ ?_
    refine XS.iloadN Xf10.here hx rfl (hb hby d16_116) rfl ?_
    show Sp p e below Tf10 (mkF m 117 #[.val (.ref t), .val (.ref d), .val (.int (0 : Int32)), .val (.int (0 : Int32)), .val (.int (6 : Int32)), .val (.int (1 : Int32))] [(.int (0 : Int32)), (.ref bl), (.int (0 : Int32)), (.ref d)]) _
    refine Xf10.aaload hx (j := (0 : Int32)) (v := (.ref bk)) (own_eq ef10 Arv5.1) (State.isArrayOf_alike hZ.alike Arv5.2.1) rfl Arv5.2.2 in11 atin11 (g := (mkF m 117 #[.val (.ref t), .val (.ref d), .val (.int (0 : Int32)), .val (.int (0 : Int32)), .val (.int (6 : Int32)), .val (.int (1 : Int32))] [(.int (0 : Int32)), (.ref bl), (.int (0 : Int32)), (.ref d)])) rfl rfl (hb hby d16_117) _ ?_
    show Sp p e below Tf10 (mkF m 118 #[.val (.ref t), .val (.ref d), .val (.int (0 : Int32)), .val (.int (0 : Int32)), .val (.int (6 : Int32)), .val (.int (1 : Int32))] [(.ref bk), (.int (0 : Int32)), (.ref d)]) _
    refine XS.iload Xf10.here hx rfl (hb hby d16_118) rfl ?_
    refine XS.iload Xf10.here hx rfl (hb hby d16_120) rfl ?_
    refine sty12 _ ?_
    refine XS.aloadN Xy12.here hx rfl (hb hby d16_125) rfl rfl ?_
    refine XS.dup Xy12.here hx rfl (hb hby d16_126) rfl rfl ?_
    refine stf15 _ ?_
    refine XS.iload Xf15.here hx rfl (hb hby d16_130) rfl ?_
    refine XS.iadd Xf15.here hx rfl (hb hby d16_132) rfl ?_
    refine stp17 _ ?_
    refine XS.iloadN Xp17.here hx rfl (hb hby d16_136) rfl ?_
    refine XS.iload Xp17.here hx rfl (hb hby d16_137) rfl ?_
    refine XS.iadd Xp17.here hx rfl (hb hby d16_139) rfl ?_
    refine XS.istoreN Xp17.here hx rfl (hb hby d16_140) rfl (l' := #[.val (.ref t), .val (.ref d), .val (.int (1 : Int32)), .val (.int (0 : Int32)), .val (.int (6 : Int32)), .val (.int (1 : Int32))]) rfl ?_
    refine XS.goto Xp17.here hx rfl (pc0 := 141) (pc' := 24) rfl (hb hby d16_141) (by decide) (by decide) ?_
    refine XS.iloadN Xp17.here hx rfl (hb hby d16_24) rfl ?_
    refine XS.aloadN Xp17.here hx rfl (hb hby d16_25) rfl rfl ?_
    show Sp p e below Tp17 (mkF m 26 #[.val (.ref t), .val (.ref d), .val (.int (1 : Int32)), .val (.int (0 : Int32)), .val (.int (6 : Int32)), .val (.int (1 : Int32))] [(.ref d), (.int (1 : Int32))]) _
    refine Xp17.arraylength hx (own_eq ep17 Arv21.1) (State.isArrayOf_alike hZ.alike Arv21.2.1) (g := (mkF m 26 #[.val (.ref t), .val (.ref d), .val (.int (1 : Int32)), .val (.int (0 : Int32)), .val (.int (6 : Int32)), .val (.int (1 : Int32))] [(.ref d), (.int (1 : Int32))])) rfl rfl (hb hby d16_26) _ ?_
    rw [len_of Sv21 Nv21]
    show Sp p e below Tp17 (mkF m 27 #[.val (.ref t), .val (.ref d), .val (.int (1 : Int32)), .val (.int (0 : Int32)), .val (.int (6 : Int32)), .val (.int (1 : Int32))] [(.int (1 : Int32)), (.int (1 : Int32))]) _
    refine XS.icmpYes Xp17.here hx rfl (pc0 := 27) (pc' := 144) rfl (hb hby d16_27) rfl (flt (by decide : ¬ ((1 : Int32) < (1 : Int32)))).2.1 (by decide) (by decide) ?_
    show Sp p e below Tp17 (mkF m 144 #[.val (.ref t), .val (.ref d), .val (.int (1 : Int32)), .val (.int (0 : Int32)), .val (.int (6 : Int32)), .val (.int (1 : Int32))] []) _
    exact Xp17.returnOut hx hret (hb hby d16_144) hlv
  · show Q_store6 Z t d kd bl kbl sl en bk kbk h0 n0 _ Tp17.heap _
    rw [ep17]
    exact ⟨rfl, Np17, K18, Fwp17, F22, F23, F24, F25, F26⟩
def Q_store7 (Z : State) (t : Addr) (d : Addr) (kd : ClassId) (bl : Addr) (kbl : ClassId) (sl : Addr) (en : Addr) (bk : Addr) (kbk : ClassId) (h0 : Heap) (n0 : Nat) (v : Option Value) (h : Heap) (L : List Loc) : Prop := v = none ∧ Fr n0 L ∧ Keep h0 h [t, bk] ∧ Fld Z h t S1 "stored" "I" (.int (8 : Int32)) ∧ Fld Z h t S1 "blocks" "[[B" (.ref bl) ∧ Fld Z h t S1 "size" "I" (.int (7 : Int32)) ∧ Fld Z h t S1 "slots" "[J" (.ref sl) ∧ Fld Z h t S1 "ends" "[I" (.ref en) ∧ Arv Z h bk kbk .byte (65536 : Int32) [(.int (97 : Int32)), (.int (98 : Int32)), (.int (99 : Int32)), (.int (100 : Int32)), (.int (101 : Int32)), (.int (102 : Int32)), (.int (103 : Int32)), (.int (104 : Int32))] (.int (0 : Int32))
set_option maxRecDepth 65536 in
set_option maxHeartbeats 40000000 in
theorem rm_store7 (l : Launch) (Z : State) (a0 : Array Value) (hw : ∀ d ∈ tables_1, d.before a0 Z = true) (ws : List Jvm.Cond) (t : Addr) (d : Addr) (kd : ClassId) (bl : Addr) (kbl : ClassId) (sl : Addr) (en : Addr) (bk : Addr) (kbk : ClassId) (h0 : Heap) (n0 : Nat) (Z0 : n0 ≤ h0.size) (O0 : Old Z n0 h0) (f0 : Exa Z h0 t S1) (f1 : Fld Z h0 t S1 "stored" "I" (.int (7 : Int32))) (f2 : Fld Z h0 t S1 "blocks" "[[B" (.ref bl)) (f3 : Arv Z h0 d kd .byte (1 : Int32) [(.int (104 : Int32))] (.int (0 : Int32))) (f4 : Fld Z h0 t S1 "size" "I" (.int (7 : Int32))) (f5 : Fld Z h0 t S1 "slots" "[J" (.ref sl)) (f6 : Fld Z h0 t S1 "ends" "[I" (.ref en)) (f7 : Arv Z h0 bl kbl (.array .byte) (1 : Int32) [(.ref bk)] .null) (f8 : Arv Z h0 bk kbk .byte (65536 : Int32) [(.int (97 : Int32)), (.int (98 : Int32)), (.int (99 : Int32)), (.int (100 : Int32)), (.int (101 : Int32)), (.int (102 : Int32)), (.int (103 : Int32)), (.int (0 : Int32))] (.int (0 : Int32))) (gt : n0 ≤ t) (gbk : n0 ≤ bk) (htb : t ≠ bk) (hdb : d ≠ bk) (hbb : bl ≠ bk) :
    MetFree l Y10 (head1 (Jvm.Cond.code Y10 prog_57_method_10_code 6 none :: ws) ({ frames := 1, cells := 0, slots := 0, locals := 40 } : Room)) (fun A_ U => A_ = #[(.ref t), (.ref d)] ∧ Z.Warmed39 U.vm ∧ U.heap = h0) (fun _ _ _ _ _ => True) (fun _ U o_ U' => ∃ v_ L_, o_ = .returned v_ ∧ Q_store7 Z t d kd bl kbl sl en bk kbk h0 n0 v_ U'.heap L_ ∧ FrameEnd U o_ U' L_ ({ frames := 1, cells := 0, slots := 0, locals := 40 } : Room).cells ({ frames := 1, cells := 0, slots := 0, locals := 40 } : Room).slots) := by
  refine MetFree.of_bodySF (plainFor_of_name pn_2) hisR ?_
  intro p e s m args below meth c s₁ Bd hml0 hP hK
  obtain ⟨rfl, hZ, hh⟩ := hP
  have hx := Bd.exec
  have hby := Bd.bytes
  have hml : c.maxLocals = 6 := hml0
  have hown : s.vm.findClass S1 = some m.cls := findClass_of_methodNamed Bd.named
  have hnm := (name_of_methodNamed Bd.named Bd.method).1
  have hret := Bd.returns
  have X0 : Stand p l e ({ frames := 1, cells := 0, slots := 0, locals := 40 } : Room) s m #[(.ref t), (.ref d)] below meth c s₁ [] 0 0 := Stand.of_body Bd
  have e0 : s₁.heap = h0 := by rw [← hh, Bd.state]; rfl
  have N0 := Fr.nil n0
  have pre0 : ∀ t_, Sp p e below s₁ (mkF m 0 #[.val (.ref t), .val (.ref d), .unset, .unset, .unset, .unset] []) t_ → Sp p e below s₁ (entryFrame m #[(.ref t), (.ref d)] 6) t_ := fun t_ k_ => castTop (ef_16_RR m t d) k_
  obtain ⟨clv1, Arv1, qv1, Sv1, Nv1, Hv1, Gv1⟩ := id f3
  obtain ⟨Tf2, Xf2, ef2, stf2⟩ := getF X0 hx hZ hown (host := "") (Or.inl (tw hw 104 rfl)) Via.refl e0 f1 (g := (mkF m 5 #[.val (.ref t), .val (.ref d), .unset, .unset, .unset, .unset] [(.ref t), (.int (2147483647 : Int32)), (.int (1 : Int32))])) rfl rfl (hb hby d16_5)
  obtain ⟨Tf3, Xf3, ef3, stf3⟩ := getF Xf2 hx hZ hown (host := "") (Or.inl (tw hw 104 rfl)) Via.refl ef2 f1 (g := (mkF m 31 #[.val (.ref t), .val (.ref d), .val (.int (0 : Int32)), .unset, .unset, .unset] [(.ref t)])) rfl rfl (hb hby d16_31)
  obtain ⟨Tf4, Xf4, ef4, stf4⟩ := getF Xf3 hx hZ hown (host := "") (Or.inl (tw hw 18 rfl)) Via.refl ef3 f2 (g := (mkF m 40 #[.val (.ref t), .val (.ref d), .val (.int (0 : Int32)), .val (.int (0 : Int32)), .unset, .unset] [(.ref t), (.int (0 : Int32))])) rfl rfl (hb hby d16_40)
  obtain ⟨clv5, Arv5, qv5, Sv5, Nv5, Hv5, Gv5⟩ := id f7
  obtain ⟨Tf6, Xf6, ef6, stf6⟩ := getF Xf4 hx hZ hown (host := "") (Or.inl (tw hw 18 rfl)) Via.refl ef4 f2 (g := (mkF m 69 #[.val (.ref t), .val (.ref d), .val (.int (0 : Int32)), .val (.int (0 : Int32)), .unset, .unset] [(.ref t)])) rfl rfl (hb hby d16_69)
  have in7 : ¬ ((0 : Int32) < 0 ∨ clv5.slots.size ≤ ((0 : Int32)).toNatClampNeg) := inb_of Sv5 ⟨by decide, by decide⟩
  have atin7 : clv5.slots[((0 : Int32)).toNatClampNeg]? = some (.ref bk) := Has.at Hv5 in7 rfl
  obtain ⟨Tf8, Xf8, ef8, stf8⟩ := getF Xf6 hx hZ hown (host := "") (Or.inl (tw hw 104 rfl)) Via.refl ef6 f1 (g := (mkF m 88 #[.val (.ref t), .val (.ref d), .val (.int (0 : Int32)), .val (.int (0 : Int32)), .unset, .unset] [(.ref t)])) rfl rfl (hb hby d16_88)
  obtain ⟨_, _, ⟨Tk9, Lk9, kk9, nk9⟩, -, Xk9, ⟨Lck9, hQk9, lk9, yk9, zk9⟩, stk9⟩ := Jvm.LawKit.callS Xf8 hx (y := Y9) hown (mvT hZ (tw hw 108 rfl)) (mvT hZ (tw hw 109 rfl)) (mvT hZ (tw hw 110 rfl)) (mvT hZ (tw hw 111 rfl)) (by decide) (backOf (W := 0) (rm_min l Z a0 hw [] (1 : Int32) (65529 : Int32) (1 : Int32)  h0 n0 Z0 O0 rfl) hZ (tw hw 111 rfl) (tw hw 110 rfl) (by decide) (by decide)) (g := (mkF m 105 #[.val (.ref t), .val (.ref d), .val (.int (0 : Int32)), .val (.int (0 : Int32)), .val (.int (7 : Int32)), .unset] [(.int (65529 : Int32)), (.int (1 : Int32))])) rfl (by rw [hml]; rfl) (argsL := [(.int (1 : Int32)), (.int (65529 : Int32))]) (rest := []) (lenOf pd__II_I rfl) rfl (by show 2 * 0 + _ ≤ _; exact Nat.le_of_eq rfl) (hb hby d16_105) (fun _ _ => ⟨rfl, ef8, (by decide : 0 + 0 ≤ _), (by decide : 0 + 0 ≤ _)⟩)
  dsimp only [Pt.U, Pt.locs, Pt.cells, Pt.slots] at Xk9 lk9 yk9 zk9 stk9 hQk9
  subst lk9 yk9 zk9
  obtain ⟨rfl, Nk9q, ek9⟩ := hQk9
  have Nk9 := Fr.app N0 Nk9q
  obtain ⟨Tf10, Xf10, ef10, stf10⟩ := getF Xk9 hx hZ hown (host := "") (Or.inl (tw hw 18 rfl)) Via.refl ek9 f2 (g := (mkF m 113 #[.val (.ref t), .val (.ref d), .val (.int (0 : Int32)), .val (.int (0 : Int32)), .val (.int (7 : Int32)), .val (.int (1 : Int32))] [(.ref t), (.int (0 : Int32)), (.ref d)])) rfl rfl (hb hby d16_113)
  have in11 : ¬ ((0 : Int32) < 0 ∨ clv5.slots.size ≤ ((0 : Int32)).toNatClampNeg) := inb_of Sv5 ⟨by decide, by decide⟩
  have atin11 : clv5.slots[((0 : Int32)).toNatClampNeg]? = some (.ref bk) := Has.at Hv5 in11 rfl
  obtain ⟨Ty12, hy12, Ly12, Xy12, ey12, Ny12, Ky12, Vy12, sty12⟩ := cpA Xf10 hx hZ hown (tw hw 112 rfl) (tw hw 115 rfl) (tw hw 113 rfl) (tw hw 114 rfl) ef10 f3 f8 (Or.inl ⟨rfl, rfl⟩) (by decide) (by decide) (by decide) (by decide) (by decide) rfl (by decide) Nk9 gbk (g := (mkF m 122 #[.val (.ref t), .val (.ref d), .val (.int (0 : Int32)), .val (.int (0 : Int32)), .val (.int (7 : Int32)), .val (.int (1 : Int32))] [(.int (1 : Int32)), (.int (7 : Int32)), (.ref bk), (.int (0 : Int32)), (.ref d)])) rfl (by rw [hml]; rfl) rfl (hb hby d16_122) (by decide) (W := 0) (by show 2 * 0 + _ ≤ _; exact Nat.le_of_eq rfl) (by decide)
  have K13 : Keep h0 hy12 [t, bk] := (Keep.refl h0 [t, bk]).trans Ky12 (allS (P := fun x => x ∈ ([t, bk] : List Addr) ∨ h0.size ≤ x) (Or.inl (List.mem_of_getElem? (i := 1) rfl)) all0)
  have Vcy12 : Arv Z hy12 bk kbk .byte (65536 : Int32) [(.int (97 : Int32)), (.int (98 : Int32)), (.int (99 : Int32)), (.int (100 : Int32)), (.int (101 : Int32)), (.int (102 : Int32)), (.int (103 : Int32)), (.int (104 : Int32))] (.int (0 : Int32)) := Vy12
  have F14 := (f1.keep Ky12 (ninS htb nin0))
  obtain ⟨Tf15, Xf15, ef15, stf15⟩ := getF Xy12 hx hZ hown (host := "") (Or.inl (tw hw 104 rfl)) Via.refl ey12 F14 (g := (mkF m 127 #[.val (.ref t), .val (.ref d), .val (.int (0 : Int32)), .val (.int (0 : Int32)), .val (.int (7 : Int32)), .val (.int (1 : Int32))] [(.ref t), (.ref t)])) rfl rfl (hb hby d16_127)
  have F16 := (f0.keep Ky12)
  obtain ⟨Tp17, hp17, Xp17, ep17, Wp17, stp17⟩ := putF Xf15 hx hZ hown (host := "") (Or.inl (tw hw 104 rfl)) Via.refl ef15 F14 F16 (Or.inl (tw hw 105 rfl)) (tw hw 2 rfl) (ty := .int) (by decide) rfl rfl (g := (mkF m 133 #[.val (.ref t), .val (.ref d), .val (.int (0 : Int32)), .val (.int (0 : Int32)), .val (.int (7 : Int32)), .val (.int (1 : Int32))] [(.int (8 : Int32)), (.ref t)])) rfl rfl (hb hby d16_133)
  have Fwp17 : Fld Z hp17 t S1 "stored" "I" (.int (8 : Int32)) := F14.same Wp17
  have Np17 := Fr.snoc Xp17 Ny12 gt
  have K18 : Keep h0 hp17 [t, bk] := K13.wr Wp17 (Or.inl (List.mem_of_getElem? (i := 0) rfl))
  have ne19 : t ≠ d := Exa.neArv f0 f3 (tw hw 2 rfl)
  have F20 := ((f3.keep Ky12 (ninS hdb nin0)).other Wp17 (Ne.symm ne19))
  obtain ⟨clv21, Arv21, qv21, Sv21, Nv21, Hv21, Gv21⟩ := id F20
  have F22 := ((f2.keep Ky12 (ninS htb nin0)).other Wp17 (Or.inr (slot_ne (Or.inl (tw hw 19 rfl)) (Or.inl (tw hw 105 rfl)) (by decide) (t := (.array (.array .byte))) (t' := .int) (by decide) (by decide))))
  have F23 := ((f4.keep Ky12 (ninS htb nin0)).other Wp17 (Or.inr (slot_ne (Or.inl (tw hw 30 rfl)) (Or.inl (tw hw 105 rfl)) (by decide) (t := .int) (t' := .int) (by decide) (by decide))))
  have F24 := ((f5.keep Ky12 (ninS htb nin0)).other Wp17 (Or.inr (slot_ne (Or.inl (tw hw 12 rfl)) (Or.inl (tw hw 105 rfl)) (by decide) (t := (.array .long)) (t' := .int) (by decide) (by decide))))
  have F25 := ((f6.keep Ky12 (ninS htb nin0)).other Wp17 (Or.inr (slot_ne (Or.inl (tw hw 15 rfl)) (Or.inl (tw hw 105 rfl)) (by decide) (t := (.array .int)) (t' := .int) (by decide) (by decide))))
  have F26 := (Vcy12.other Wp17 (Ne.symm htb))
  obtain ⟨fs, hlv, hrun, hended, hW, hsame⟩ := Xp17.leave (v := none) (fun _ => rfl)
  refine ⟨_, _, pre0 _ ?_, hrun, hended, _, _, rfl, ?_, ⟨_, rfl⟩, hW, hsame.mono (by decide) (by decide)⟩
  · refine XS.aloadN X0.here hx rfl (hb hby d16_0) rfl rfl ?_
    show Sp p e below s₁ (mkF m 1 #[.val (.ref t), .val (.ref d), .unset, .unset, .unset, .unset] [(.ref d)]) _
    refine X0.arraylength hx (own_eq e0 Arv1.1) (State.isArrayOf_alike hZ.alike Arv1.2.1) (g := (mkF m 1 #[.val (.ref t), .val (.ref d), .unset, .unset, .unset, .unset] [(.ref d)])) rfl rfl (hb hby d16_1) _ ?_
    rw [len_of Sv1 Nv1]
    show Sp p e below s₁ (mkF m 2 #[.val (.ref t), .val (.ref d), .unset, .unset, .unset, .unset] [(.int (1 : Int32))]) _
    refine Jvm.Stand.ldcI X0 hx hown (mvT hZ (tw hw 103 rfl)) rfl (hb hby d16_2) ?_
    refine XS.aloadN X0.here hx rfl (hb hby d16_4) rfl rfl ?_
    refine stf2 _ ?_
    refine XS.isub Xf2.here hx rfl (hb hby d16_8) rfl ?_
    refine XS.icmpYes Xf2.here hx rfl (pc0 := 9) (pc' := 22) rfl (hb hby d16_9) rfl (flt (by decide : ¬ ((2147483640 : Int32) < (1 : Int32)))).2.2.2 (by decide) (by decide) ?_
    refine XS.iconst Xf2.here hx rfl (hb hby d16_22) ?_
    refine XS.istoreN Xf2.here hx rfl (hb hby d16_23) rfl (l' := #[.val (.ref t), .val (.ref d), .val (.int (0 : Int32)), .unset, .unset, .unset]) rfl ?_
    refine XS.iloadN Xf2.here hx rfl (hb hby d16_24) rfl ?_
    refine XS.aloadN Xf2.here hx rfl (hb hby d16_25) rfl rfl ?_
    show Sp p e below Tf2 (mkF m 26 #[.val (.ref t), .val (.ref d), .val (.int (0 : Int32)), .unset, .unset, .unset] [(.ref d), (.int (0 : Int32))]) _
    refine Xf2.arraylength hx (own_eq ef2 Arv1.1) (State.isArrayOf_alike hZ.alike Arv1.2.1) (g := (mkF m 26 #[.val (.ref t), .val (.ref d), .val (.int (0 : Int32)), .unset, .unset, .unset] [(.ref d), (.int (0 : Int32))])) rfl rfl (hb hby d16_26) _ ?_
    rw [len_of Sv1 Nv1]
    show Sp p e below Tf2 (mkF m 27 #[.val (.ref t), .val (.ref d), .val (.int (0 : Int32)), .unset, .unset, .unset] [(.int (1 : Int32)), (.int (0 : Int32))]) _
    refine XS.icmpNo Xf2.here hx rfl (hb hby d16_27) rfl (tlt (by decide : (0 : Int32) < (1 : Int32))).2.1 ?_
    refine XS.aloadN Xf2.here hx rfl (hb hby d16_30) rfl rfl ?_
    refine stf3 _ ?_
    refine XS.bipush Xf3.here hx rfl (hb hby d16_34) ?_
    refine XS.iushr Xf3.here hx rfl (hb hby d16_36) rfl ?_
    refine XS.istoreN Xf3.here hx rfl (hb hby d16_37) rfl (l' := #[.val (.ref t), .val (.ref d), .val (.int (0 : Int32)), .val (.int (0 : Int32)), .unset, .unset]) rfl ?_
    refine XS.iloadN Xf3.here hx rfl (hb hby d16_38) rfl ?_
    refine XS.aloadN Xf3.here hx rfl (hb hby d16_39) rfl rfl ?_
    refine stf4 _ ?_
    show Sp p e below Tf4 (mkF m 43 #[.val (.ref t), .val (.ref d), .val (.int (0 : Int32)), .val (.int (0 : Int32)), .unset, .unset] [(.ref bl), (.int (0 : Int32))]) _
    refine Xf4.arraylength hx (own_eq ef4 Arv5.1) (State.isArrayOf_alike hZ.alike Arv5.2.1) (g := (mkF m 43 #[.val (.ref t), .val (.ref d), .val (.int (0 : Int32)), .val (.int (0 : Int32)), .unset, .unset] [(.ref bl), (.int (0 : Int32))])) rfl rfl (hb hby d16_43) _ ?_
    rw [len_of Sv5 Nv5]
    show Sp p e below Tf4 (mkF m 44 #[.val (.ref t), .val (.ref d), .val (.int (0 : Int32)), .val (.int (0 : Int32)), .unset, .unset] [(.int (1 : Int32)), (.int (0 : Int32))]) _
    refine XS.icmpYes Xf4.here hx rfl (pc0 := 44) (pc' := 68) rfl (hb hby d16_44) rfl (feq (by decide : ¬ ((0 : Int32) = (1 : Int32)))).2 (by decide) (by decide) ?_
    refine XS.aloadN Xf4.here hx rfl (hb hby d16_68) rfl rfl ?_
    refine stf6 _ ?_
    refine XS.iloadN Xf6.here hx rfl (hb hby d16_72) rfl ?_
    show Sp p e below Tf6 (mkF m 73 #[.val (.ref t), .val (.ref d), .val (.int (0 : Int32)), .val (.int (0 : Int32)), .unset, .unset] [(.int (0 : Int32)), (.ref bl)]) _
    refine Xf6.aaload hx (j := (0 : Int32)) (v := (.ref bk)) (own_eq ef6 Arv5.1) (State.isArrayOf_alike hZ.alike Arv5.2.1) rfl Arv5.2.2 in7 atin7 (g := (mkF m 73 #[.val (.ref t), .val (.ref d), .val (.int (0 : Int32)), .val (.int (0 : Int32)), .unset, .unset] [(.int (0 : Int32)), (.ref bl)])) rfl rfl (hb hby d16_73) _ ?_
    show Sp p e below Tf6 (mkF m 74 #[.val (.ref t), .val (.ref d), .val (.int (0 : Int32)), .val (.int (0 : Int32)), .unset, .unset] [(.ref bk)]) _
    refine XS.ifnonnullYes Xf6.here hx rfl (pc0 := 74) (pc' := 87) rfl (hb hby d16_74) rfl (by decide) (by decide) ?_
    refine XS.aloadN Xf6.here hx rfl (hb hby d16_87) rfl rfl ?_
    refine stf8 _ ?_
    show Sp p e below Tf8 (mkF m 91 #[.val (.ref t), .val (.ref d), .val (.int (0 : Int32)), .val (.int (0 : Int32)), .unset, .unset] [(.int (7 : Int32))]) _
    refine Jvm.Stand.ldcI Xf8 hx hown (mvT hZ (tw hw 107 rfl)) rfl (hb hby d16_91) ?_
    refine XS.iand Xf8.here hx rfl (hb hby d16_93) rfl ?_
    refine XS.istore Xf8.here hx rfl (hb hby d16_94) rfl (l' := #[.val (.ref t), .val (.ref d), .val (.int (0 : Int32)), .val (.int (0 : Int32)), .val (.int (7 : Int32)), .unset]) rfl ?_
    refine XS.aloadN Xf8.here hx rfl (hb hby d16_96) rfl rfl ?_
    show Sp p e below Tf8 (mkF m 97 #[.val (.ref t), .val (.ref d), .val (.int (0 : Int32)), .val (.int (0 : Int32)), .val (.int (7 : Int32)), .unset] [(.ref d)]) _
    refine Xf8.arraylength hx (own_eq ef8 Arv1.1) (State.isArrayOf_alike hZ.alike Arv1.2.1) (g := (mkF m 97 #[.val (.ref t), .val (.ref d), .val (.int (0 : Int32)), .val (.int (0 : Int32)), .val (.int (7 : Int32)), .unset] [(.ref d)])) rfl rfl (hb hby d16_97) _ ?_
    rw [len_of Sv1 Nv1]
    show Sp p e below Tf8 (mkF m 98 #[.val (.ref t), .val (.ref d), .val (.int (0 : Int32)), .val (.int (0 : Int32)), .val (.int (7 : Int32)), .unset] [(.int (1 : Int32))]) _
    refine XS.iloadN Xf8.here hx rfl (hb hby d16_98) rfl ?_
    refine XS.isub Xf8.here hx rfl (hb hby d16_99) rfl ?_
    show Sp p e below Tf8 (mkF m 100 #[.val (.ref t), .val (.ref d), .val (.int (0 : Int32)), .val (.int (0 : Int32)), .val (.int (7 : Int32)), .unset] [(.int (1 : Int32))]) _
    refine Jvm.Stand.ldcI Xf8 hx hown (mvT hZ (tw hw 106 rfl)) rfl (hb hby d16_100) ?_
    refine XS.iload Xf8.here hx rfl (hb hby d16_102) rfl ?_
    refine XS.isub Xf8.here hx rfl (hb hby d16_104) rfl ?_
    refine stk9 _ ?_
    refine XS.istore Xk9.here hx rfl (hb hby d16_108) rfl (l' := #[.val (.ref t), .val (.ref d), .val (.int (0 : Int32)), .val (.int (0 : Int32)), .val (.int (7 : Int32)), .val (.int (1 : Int32))]) rfl ?_
    refine XS.aloadN Xk9.here hx rfl (hb hby d16_110) rfl rfl ?_
    refine XS.iloadN Xk9.here hx rfl (hb hby d16_111) rfl ?_
    refine XS.aloadN Xk9.here hx rfl (hb hby d16_112) rfl rfl ?_
    refine stf10 _ ?_
    refine XS.iloadN Xf10.here hx rfl (hb hby d16_116) rfl ?_
    show Sp p e below Tf10 (mkF m 117 #[.val (.ref t), .val (.ref d), .val (.int (0 : Int32)), .val (.int (0 : Int32)), .val (.int (7 : Int32)), .val (.int (1 : Int32))] [(.int (0 : Int32)), (.ref bl), (.int (0 : Int32)), (.ref d)]) _
    refine Xf10.aaload hx (j := (0 : Int32)) (v := (.ref bk)) (own_eq ef10 Arv5.1) (State.isArrayOf_alike hZ.alike Arv5.2.1) rfl Arv5.2.2 in11 atin11 (g := (mkF m 117 #[.val (.ref t), .val (.ref d), .val (.int (0 : Int32)), .val (.int (0 : Int32)), .val (.int (7 : Int32)), .val (.int (1 : Int32))] [(.int (0 : Int32)), (.ref bl), (.int (0 : Int32)), (.ref d)])) rfl rfl (hb hby d16_117) _ ?_
    show Sp p e below Tf10 (mkF m 118 #[.val (.ref t), .val (.ref d), .val (.int (0 : Int32)), .val (.int (0 : Int32)), .val (.int (7 : Int32)), .val (.int (1 : Int32))] [(.ref bk), (.int (0 : Int32)), (.ref d)]) _
    refine XS.iload Xf10.here hx rfl (hb hby d16_118) rfl ?_
    refine XS.iload Xf10.here hx rfl (hb hby d16_120) rfl ?_
    refine sty12 _ ?_
    refine XS.aloadN Xy12.here hx rfl (hb hby d16_125) rfl rfl ?_
    refine XS.dup Xy12.here hx rfl (hb hby d16_126) rfl rfl ?_
    refine stf15 _ ?_
    refine XS.iload Xf15.here hx rfl (hb hby d16_130) rfl ?_
    refine XS.iadd Xf15.here hx rfl (hb hby d16_132) rfl ?_
    refine stp17 _ ?_
    refine XS.iloadN Xp17.here hx rfl (hb hby d16_136) rfl ?_
    refine XS.iload Xp17.here hx rfl (hb hby d16_137) rfl ?_
    refine XS.iadd Xp17.here hx rfl (hb hby d16_139) rfl ?_
    refine XS.istoreN Xp17.here hx rfl (hb hby d16_140) rfl (l' := #[.val (.ref t), .val (.ref d), .val (.int (1 : Int32)), .val (.int (0 : Int32)), .val (.int (7 : Int32)), .val (.int (1 : Int32))]) rfl ?_
    refine XS.goto Xp17.here hx rfl (pc0 := 141) (pc' := 24) rfl (hb hby d16_141) (by decide) (by decide) ?_
    refine XS.iloadN Xp17.here hx rfl (hb hby d16_24) rfl ?_
    refine XS.aloadN Xp17.here hx rfl (hb hby d16_25) rfl rfl ?_
    show Sp p e below Tp17 (mkF m 26 #[.val (.ref t), .val (.ref d), .val (.int (1 : Int32)), .val (.int (0 : Int32)), .val (.int (7 : Int32)), .val (.int (1 : Int32))] [(.ref d), (.int (1 : Int32))]) _
    refine Xp17.arraylength hx (own_eq ep17 Arv21.1) (State.isArrayOf_alike hZ.alike Arv21.2.1) (g := (mkF m 26 #[.val (.ref t), .val (.ref d), .val (.int (1 : Int32)), .val (.int (0 : Int32)), .val (.int (7 : Int32)), .val (.int (1 : Int32))] [(.ref d), (.int (1 : Int32))])) rfl rfl (hb hby d16_26) _ ?_
    rw [len_of Sv21 Nv21]
    show Sp p e below Tp17 (mkF m 27 #[.val (.ref t), .val (.ref d), .val (.int (1 : Int32)), .val (.int (0 : Int32)), .val (.int (7 : Int32)), .val (.int (1 : Int32))] [(.int (1 : Int32)), (.int (1 : Int32))]) _
    refine XS.icmpYes Xp17.here hx rfl (pc0 := 27) (pc' := 144) rfl (hb hby d16_27) rfl (flt (by decide : ¬ ((1 : Int32) < (1 : Int32)))).2.1 (by decide) (by decide) ?_
    show Sp p e below Tp17 (mkF m 144 #[.val (.ref t), .val (.ref d), .val (.int (1 : Int32)), .val (.int (0 : Int32)), .val (.int (7 : Int32)), .val (.int (1 : Int32))] []) _
    exact Xp17.returnOut hx hret (hb hby d16_144) hlv
  · show Q_store7 Z t d kd bl kbl sl en bk kbk h0 n0 _ Tp17.heap _
    rw [ep17]
    exact ⟨rfl, Np17, K18, Fwp17, F22, F23, F24, F25, F26⟩
theorem d18_0 : decode prog_57_method_5_code 0 = .ok (.aload_n 0, 1) := by decide +kernel
theorem d18_1 : decode prog_57_method_5_code 1 = .ok (.getfield 23, 3) := by decide +kernel
theorem d18_4 : decode prog_57_method_5_code 4 = .ok (.iload_n 1, 1) := by decide +kernel
theorem d18_5 : decode prog_57_method_5_code 5 = .ok (.iload_n 1, 1) := by decide +kernel
theorem d18_6 : decode prog_57_method_5_code 6 = .ok (.iconst 1, 1) := by decide +kernel
theorem d18_7 : decode prog_57_method_5_code 7 = .ok (.ishr, 1) := by decide +kernel
theorem d18_8 : decode prog_57_method_5_code 8 = .ok (.iadd, 1) := by decide +kernel
theorem d18_9 : decode prog_57_method_5_code 9 = .ok (.invokestatic 40, 3) := by decide +kernel
theorem d18_12 : decode prog_57_method_5_code 12 = .ok (.ireturn, 1) := by decide +kernel
theorem ef_18_RI (m : MethodId) (x0 : Addr) (x1 : Int32) : entryFrame m #[(.ref x0), (.int x1)] 2 = mkF m 0 #[.val (.ref x0), .val (.int x1)] [] := by first | (simp [entryFrame, mkF, argsToLocals, Value.category]; done) | rfl
def Q_room (Z : State) (t : Addr) (z : Int32) (n : Int32) (r : Int32) (h0 : Heap) (n0 : Nat) (v : Option Value) (h : Heap) (L : List Loc) : Prop := v = some (.int r) ∧ Fr n0 L ∧ h = h0
set_option maxRecDepth 65536 in
set_option maxHeartbeats 40000000 in
theorem rm_room (l : Launch) (Z : State) (a0 : Array Value) (hw : ∀ d ∈ tables_1, d.before a0 Z = true) (ws : List Jvm.Cond) (t : Addr) (z : Int32) (n : Int32) (r : Int32) (h0 : Heap) (n0 : Nat) (Z0 : n0 ≤ h0.size) (O0 : Old Z n0 h0) (f0 : Fld Z h0 t S1 "size" "I" (.int n)) (hres : r = if n < (z + (z >>> ((1 : Int32) &&& 31))) then (z + (z >>> ((1 : Int32) &&& 31))) else n) :
    MetFree l Y11 (head1 (Jvm.Cond.code Y11 prog_57_method_5_code 2 (some .int) :: ws) ({ frames := 1, cells := 0, slots := 0, locals := 13 } : Room)) (fun A_ U => A_ = #[(.ref t), (.int z)] ∧ Z.Warmed39 U.vm ∧ U.heap = h0) (fun _ _ _ _ _ => True) (fun _ U o_ U' => ∃ v_ L_, o_ = .returned v_ ∧ Q_room Z t z n r h0 n0 v_ U'.heap L_ ∧ FrameEnd U o_ U' L_ ({ frames := 1, cells := 0, slots := 0, locals := 13 } : Room).cells ({ frames := 1, cells := 0, slots := 0, locals := 13 } : Room).slots) := by
  refine MetFree.of_bodySF (plainFor_of_name pn_2) hisR ?_
  intro p e s m args below meth c s₁ Bd hml0 hP hK
  obtain ⟨rfl, hZ, hh⟩ := hP
  have hx := Bd.exec
  have hby := Bd.bytes
  have hml : c.maxLocals = 2 := hml0
  have hown : s.vm.findClass S1 = some m.cls := findClass_of_methodNamed Bd.named
  have hnm := (name_of_methodNamed Bd.named Bd.method).1
  have hret := Bd.returns
  have X0 : Stand p l e ({ frames := 1, cells := 0, slots := 0, locals := 13 } : Room) s m #[(.ref t), (.int z)] below meth c s₁ [] 0 0 := Stand.of_body Bd
  have e0 : s₁.heap = h0 := by rw [← hh, Bd.state]; rfl
  have N0 := Fr.nil n0
  have pre0 : ∀ t_, Sp p e below s₁ (mkF m 0 #[.val (.ref t), .val (.int z)] []) t_ → Sp p e below s₁ (entryFrame m #[(.ref t), (.int z)] 2) t_ := fun t_ k_ => castTop (ef_18_RI m t z) k_
  obtain ⟨Tf1, Xf1, ef1, stf1⟩ := getF X0 hx hZ hown (host := "") (Or.inl (tw hw 29 rfl)) Via.refl e0 f0 (g := (mkF m 1 #[.val (.ref t), .val (.int z)] [(.ref t)])) rfl rfl (hb hby d18_1)
  obtain ⟨_, _, ⟨Tk2, Lk2, kk2, nk2⟩, -, Xk2, ⟨Lck2, hQk2, lk2, yk2, zk2⟩, stk2⟩ := Jvm.LawKit.callS Xf1 hx (y := Y8) hown (mvT hZ (tw hw 121 rfl)) (mvT hZ (tw hw 122 rfl)) (mvT hZ (tw hw 110 rfl)) (mvT hZ (tw hw 123 rfl)) (by decide) (backOf (W := 0) (rm_max l Z a0 hw [] n (z + (z >>> ((1 : Int32) &&& 31))) r  h0 n0 Z0 O0 hres) hZ (tw hw 123 rfl) (tw hw 110 rfl) (by decide) (by decide)) (g := (mkF m 9 #[.val (.ref t), .val (.int z)] [(.int (z + (z >>> ((1 : Int32) &&& 31)))), (.int n)])) rfl (by rw [hml]; rfl) (argsL := [(.int n), (.int (z + (z >>> ((1 : Int32) &&& 31))))]) (rest := []) (lenOf pd__II_I rfl) rfl (by show 2 * 0 + _ ≤ _; exact Nat.le_of_eq rfl) (hb hby d18_9) (fun _ _ => ⟨rfl, ef1, (by decide : 0 + 0 ≤ _), (by decide : 0 + 0 ≤ _)⟩)
  dsimp only [Pt.U, Pt.locs, Pt.cells, Pt.slots] at Xk2 lk2 yk2 zk2 stk2 hQk2
  subst lk2 yk2 zk2
  obtain ⟨rfl, Nk2q, ek2⟩ := hQk2
  have Nk2 := Fr.app N0 Nk2q
  obtain ⟨fs, hlv, hrun, hended, hW, hsame⟩ := Xk2.leave (v := some (.int r)) (fun h => by rw [hret] at h; cases h)
  refine ⟨_, _, pre0 _ ?_, hrun, hended, _, _, rfl, ?_, ⟨_, rfl⟩, hW, hsame.mono (by decide) (by decide)⟩
  · refine XS.aloadN X0.here hx rfl (hb hby d18_0) rfl rfl ?_
    show Sp p e below s₁ (mkF m 1 #[.val (.ref t), .val (.int z)] [(.ref t)]) _
    refine stf1 _ ?_
    refine XS.iloadN Xf1.here hx rfl (hb hby d18_4) rfl ?_
    refine XS.iloadN Xf1.here hx rfl (hb hby d18_5) rfl ?_
    refine XS.iconst Xf1.here hx rfl (hb hby d18_6) ?_
    refine XS.ishr Xf1.here hx rfl (hb hby d18_7) rfl ?_
    refine XS.iadd Xf1.here hx rfl (hb hby d18_8) rfl ?_
    refine stk2 _ ?_
    show Sp p e below Tk2 (mkF m 12 #[.val (.ref t), .val (.int z)] [(.int r)]) _
    exact retI Xk2 hx hret (hb hby d18_12) hlv
  · show Q_room Z t z n r h0 n0 _ Tk2.heap _
    rw [ek2]
    exact ⟨rfl, Nk2, rfl⟩
theorem own_copied {vs : List Value} {d : Value} {n : Nat} (h : vs.length ≤ n) : ∀ i, vs.getD i d = ((([] ++ List.replicate n d).take (0 : Int32).toNatClampNeg ++ ((List.range n).map fun i => vs.getD ((0 : Int32).toNatClampNeg + i) d) ++ ([] ++ List.replicate n d).drop ((0 : Int32).toNatClampNeg + n))).getD i d := by
  intro i
  have e0 : (0 : Int32).toNatClampNeg = 0 := by decide
  rw [e0]
  by_cases hi : i < n
  · simp [List.getD_eq_getElem?_getD, hi, List.getElem?_append]
  · have h1 : vs.length ≤ i := by omega
    have h2 : n ≤ i := by omega
    simp [List.getD_eq_getElem?_getD, h1, h2, hi, List.getElem?_append]
theorem own_le_nat {z r : Int32} (h : z < r) : (0 : Int32).toNatClampNeg + z.toNatClampNeg ≤ r.toNatClampNeg := by
  rw [Int32.lt_iff_toInt_lt] at h
  have e0 : (0 : Int32).toNatClampNeg = 0 := by decide
  rw [e0]; simp only [Int32.toNatClampNeg]; omega
theorem d20_0 : decode jdk_65_method_123_code 0 = .ok (.iload_n 1, 1) := by decide +kernel
theorem d20_1 : decode jdk_65_method_123_code 1 = .ok (.aload_n 0, 1) := by decide +kernel
theorem d20_2 : decode jdk_65_method_123_code 2 = .ok (.arraylength, 1) := by decide +kernel
theorem d20_3 : decode jdk_65_method_123_code 3 = .ok (.if_icmp .ne 11, 3) := by decide +kernel
theorem d20_14 : decode jdk_65_method_123_code 14 = .ok (.iload_n 1, 1) := by decide +kernel
theorem d20_15 : decode jdk_65_method_123_code 15 = .ok (.newarray .int, 2) := by decide +kernel
theorem d20_17 : decode jdk_65_method_123_code 17 = .ok (.astore_n 2, 1) := by decide +kernel
theorem d20_18 : decode jdk_65_method_123_code 18 = .ok (.aload_n 0, 1) := by decide +kernel
theorem d20_19 : decode jdk_65_method_123_code 19 = .ok (.iconst 0, 1) := by decide +kernel
theorem d20_20 : decode jdk_65_method_123_code 20 = .ok (.aload_n 2, 1) := by decide +kernel
theorem d20_21 : decode jdk_65_method_123_code 21 = .ok (.iconst 0, 1) := by decide +kernel
theorem d20_22 : decode jdk_65_method_123_code 22 = .ok (.aload_n 0, 1) := by decide +kernel
theorem d20_23 : decode jdk_65_method_123_code 23 = .ok (.arraylength, 1) := by decide +kernel
theorem d20_24 : decode jdk_65_method_123_code 24 = .ok (.iload_n 1, 1) := by decide +kernel
theorem d20_25 : decode jdk_65_method_123_code 25 = .ok (.invokestatic 304, 3) := by decide +kernel
theorem d20_28 : decode jdk_65_method_123_code 28 = .ok (.invokestatic 150, 3) := by decide +kernel
theorem d20_31 : decode jdk_65_method_123_code 31 = .ok (.aload_n 2, 1) := by decide +kernel
theorem d20_32 : decode jdk_65_method_123_code 32 = .ok (.areturn, 1) := by decide +kernel
theorem pn_3 : plainName "java/util/Arrays" = true := by first | (simp [plainName, overriddenIn]; done) | decide +kernel
theorem ef_20_RI (m : MethodId) (x0 : Addr) (x1 : Int32) : entryFrame m #[(.ref x0), (.int x1)] 3 = mkF m 0 #[.val (.ref x0), .val (.int x1), .unset] [] := by first | (simp [entryFrame, mkF, argsToLocals, Value.category]; done) | rfl
def Q_copyof (Z : State) (a : Addr) (k : ClassId) (z : Int32) (vs : List Value) (r : Int32) (h0 : Heap) (n0 : Nat) (v : Option Value) (h : Heap) (L : List Loc) : Prop := ∃ b : Addr, ∃ kb : ClassId, v = some (.ref b) ∧ Fr n0 L ∧ Keep h0 h [] ∧ h0.size ≤ b ∧ Arv Z h b kb .int r vs (.int (0 : Int32)) ∧ Exa Z h b "[I"
set_option maxRecDepth 65536 in
set_option maxHeartbeats 40000000 in
theorem rm_copyof (l : Launch) (Z : State) (a0 : Array Value) (hw : ∀ d ∈ tables_1, d.before a0 Z = true) (ws : List Jvm.Cond) (a : Addr) (k : ClassId) (z : Int32) (vs : List Value) (r : Int32) (h0 : Heap) (n0 : Nat) (Z0 : n0 ≤ h0.size) (O0 : Old Z n0 h0) (f0 : Arv Z h0 a k .int z vs (.int (0 : Int32))) (hne : ¬ (r = z)) (hz0 : ¬ (z < 0)) (hzr : z < r) (hrz : ¬ (r < z)) (hr0 : ¬ (r < 0)) (hr12 : r.toNatClampNeg ≤ 12) (hvl : vs.length ≤ z.toNatClampNeg) :
    MetFree l Y12 (head1 (Jvm.Cond.code Y12 jdk_65_method_123_code 3 (some (.array .int)) :: ws) ({ frames := 1, cells := 1, slots := 12, locals := 40 } : Room)) (fun A_ U => A_ = #[(.ref a), (.int r)] ∧ Z.Warmed39 U.vm ∧ U.heap = h0) (fun _ _ _ _ _ => True) (fun _ U o_ U' => ∃ v_ L_, o_ = .returned v_ ∧ Q_copyof Z a k z vs r h0 n0 v_ U'.heap L_ ∧ FrameEnd U o_ U' L_ ({ frames := 1, cells := 1, slots := 12, locals := 40 } : Room).cells ({ frames := 1, cells := 1, slots := 12, locals := 40 } : Room).slots) := by
  refine MetFree.of_bodySF (plainFor_of_name pn_3) hisR ?_
  intro p e s m args below meth c s₁ Bd hml0 hP hK
  obtain ⟨rfl, hZ, hh⟩ := hP
  have hx := Bd.exec
  have hby := Bd.bytes
  have hml : c.maxLocals = 3 := hml0
  have hown : s.vm.findClass "java/util/Arrays" = some m.cls := findClass_of_methodNamed Bd.named
  have hnm := (name_of_methodNamed Bd.named Bd.method).1
  have hret := Bd.returns
  have X0 : Stand p l e ({ frames := 1, cells := 1, slots := 12, locals := 40 } : Room) s m #[(.ref a), (.int r)] below meth c s₁ [] 0 0 := Stand.of_body Bd
  have e0 : s₁.heap = h0 := by rw [← hh, Bd.state]; rfl
  have N0 := Fr.nil n0
  have pre0 : ∀ t_, Sp p e below s₁ (mkF m 0 #[.val (.ref a), .val (.int r), .unset] []) t_ → Sp p e below s₁ (entryFrame m #[(.ref a), (.int r)] 3) t_ := fun t_ k_ => castTop (ef_20_RI m a r) k_
  obtain ⟨clv1, Arv1, qv1, Sv1, Nv1, Hv1, Gv1⟩ := id f0
  obtain ⟨Ta2, ha2, ka2, Xa2, ea2, Ea2, Aa2, Ba2, sta2⟩ := newPE X0 hx hZ (tw hw 13 rfl) e0 (g := (mkF m 15 #[.val (.ref a), .val (.int r), .unset] [(.int r)])) rfl (hb hby d20_15) rfl hr0 (cap := 12) hr12 (by decide) (by decide) (by decide) (ad := "[I") (by decide)
  obtain ⟨ba2, ga2⟩ : ∃ z, z = h0.size := ⟨_, rfl⟩
  rw [← ga2] at Aa2 Ba2 sta2
  have g_ba2 : n0 ≤ ba2 := Nat.le_trans Z0 (Nat.le_of_eq ga2.symm)
  have y_ba2 : h0.size ≤ ba2 := Nat.le_trans (Nat.le_refl h0.size) (Nat.le_of_eq ga2.symm)
  have Va2 : Arv Z ha2 ba2 ka2 .int r ([] ++ List.replicate z.toNatClampNeg (.int (0 : Int32))) (.int (0 : Int32)) := (Arv.new Aa2 hr0).pad (pad_rep [] (.int (0 : Int32)) z.toNatClampNeg)
  have K3 : Keep h0 ha2 [] := (Keep.refl h0 []).ext Ea2
  have F4 := (f0.keep K3 nin0)
  obtain ⟨clv5, Arv5, qv5, Sv5, Nv5, Hv5, Gv5⟩ := id F4
  have Z6 : n0 ≤ ha2.size := (Nat.le_trans Z0 Ea2.1)
  have O7 : Old Z n0 ha2 := (O0.ext Ea2)
  obtain ⟨_, _, ⟨Tk8, Lk8, kk8, nk8⟩, -, Xk8, ⟨Lck8, hQk8, lk8, yk8, zk8⟩, stk8⟩ := Jvm.LawKit.callS Xa2 hx (y := Y9) hown (mvT hZ (tw hw 128 rfl)) (mvT hZ (tw hw 109 rfl)) (mvT hZ (tw hw 110 rfl)) (mvT hZ (tw hw 111 rfl)) (by decide) (backOf (W := 4) (rm_min l Z a0 hw [] z r z  ha2 n0 Z6 O7 (if_neg hrz).symm) hZ (tw hw 111 rfl) (tw hw 110 rfl) (by decide) (by decide)) (g := (mkF m 25 #[.val (.ref a), .val (.int r), .val (.ref ba2)] [(.int r), (.int z), (.int (0 : Int32)), (.ref ba2), (.int (0 : Int32)), (.ref a)])) rfl (by rw [hml]; rfl) (argsL := [(.int z), (.int r)]) (rest := [(.int (0 : Int32)), (.ref ba2), (.int (0 : Int32)), (.ref a)]) (lenOf pd__II_I rfl) rfl (by show 2 * 0 + _ ≤ _; exact Nat.le_of_eq rfl) (hb hby d20_25) (fun _ _ => ⟨rfl, ea2, (by decide : 1 + 0 ≤ _), (by decide : 12 + 0 ≤ _)⟩)
  dsimp only [Pt.U, Pt.locs, Pt.cells, Pt.slots] at Xk8 lk8 yk8 zk8 stk8 hQk8
  subst lk8 yk8 zk8
  obtain ⟨rfl, Nk8q, ek8⟩ := hQk8
  have Nk8 := Fr.app N0 Nk8q
  obtain ⟨Ty9, hy9, Ly9, Xy9, ey9, Ny9, Ky9, Vy9, sty9⟩ := cpA Xk8 hx hZ hown (tw hw 129 rfl) (tw hw 115 rfl) (tw hw 113 rfl) (tw hw 114 rfl) ek8 F4 Va2 (Or.inl ⟨rfl, rfl⟩) (by decide) (by decide) hz0 (Nat.le_of_eq (Nat.zero_add _)) (own_le_nat hzr) rfl (by simp) Nk8 g_ba2 (g := (mkF m 28 #[.val (.ref a), .val (.int r), .val (.ref ba2)] [(.int z), (.int (0 : Int32)), (.ref ba2), (.int (0 : Int32)), (.ref a)])) rfl (by rw [hml]; rfl) rfl (hb hby d20_28) (by decide) (W := 0) (by show 2 * 0 + _ ≤ _; exact Nat.le_of_eq rfl) (by decide)
  have K10 : Keep h0 hy9 [] := K3.trans Ky9 (allS (P := fun x => x ∈ ([] : List Addr) ∨ h0.size ≤ x) (Or.inr y_ba2) all0)
  have Vcy9 : Arv Z hy9 ba2 ka2 .int r vs (.int (0 : Int32)) := Vy9.pad (own_copied hvl)
  have F11 := (Ba2.keep Ky9)
  obtain ⟨fs, hlv, hrun, hended, hW, hsame⟩ := Xy9.leave (v := some (.ref ba2)) (fun h => by rw [hret] at h; cases h)
  refine ⟨_, _, pre0 _ ?_, hrun, hended, _, _, rfl, ?_, ⟨_, rfl⟩, hW, hsame.mono (by decide) (by decide)⟩
  · refine XS.iloadN X0.here hx rfl (hb hby d20_0) rfl ?_
    show Sp p e below s₁ (mkF m 1 #[.val (.ref a), .val (.int r), .unset] [(.int r)]) _
    refine XS.aloadN X0.here hx rfl (hb hby d20_1) rfl rfl ?_
    show Sp p e below s₁ (mkF m 2 #[.val (.ref a), .val (.int r), .unset] [(.ref a), (.int r)]) _
    refine X0.arraylength hx (own_eq e0 Arv1.1) (State.isArrayOf_alike hZ.alike Arv1.2.1) (g := (mkF m 2 #[.val (.ref a), .val (.int r), .unset] [(.ref a), (.int r)])) rfl rfl (hb hby d20_2) _ ?_
    rw [len_of Sv1 Nv1]
    show Sp p e below s₁ (mkF m 3 #[.val (.ref a), .val (.int r), .unset] [(.int z), (.int r)]) _
    refine XS.icmpYes X0.here hx rfl (pc0 := 3) (pc' := 14) rfl (hb hby d20_3) rfl (feq hne).2 (by decide) (by decide) ?_
    refine XS.iloadN X0.here hx rfl (hb hby d20_14) rfl ?_
    refine sta2 _ ?_
    refine XS.astoreN Xa2.here hx rfl (hb hby d20_17) rfl rfl (l' := #[.val (.ref a), .val (.int r), .val (.ref ba2)]) rfl ?_
    refine XS.aloadN Xa2.here hx rfl (hb hby d20_18) rfl rfl ?_
    refine XS.iconst Xa2.here hx rfl (hb hby d20_19) ?_
    refine XS.aloadN Xa2.here hx rfl (hb hby d20_20) rfl rfl ?_
    refine XS.iconst Xa2.here hx rfl (hb hby d20_21) ?_
    refine XS.aloadN Xa2.here hx rfl (hb hby d20_22) rfl rfl ?_
    show Sp p e below Ta2 (mkF m 23 #[.val (.ref a), .val (.int r), .val (.ref ba2)] [(.ref a), (.int (0 : Int32)), (.ref ba2), (.int (0 : Int32)), (.ref a)]) _
    refine Xa2.arraylength hx (own_eq ea2 Arv5.1) (State.isArrayOf_alike hZ.alike Arv5.2.1) (g := (mkF m 23 #[.val (.ref a), .val (.int r), .val (.ref ba2)] [(.ref a), (.int (0 : Int32)), (.ref ba2), (.int (0 : Int32)), (.ref a)])) rfl rfl (hb hby d20_23) _ ?_
    rw [len_of Sv5 Nv5]
    show Sp p e below Ta2 (mkF m 24 #[.val (.ref a), .val (.int r), .val (.ref ba2)] [(.int z), (.int (0 : Int32)), (.ref ba2), (.int (0 : Int32)), (.ref a)]) _
    refine XS.iloadN Xa2.here hx rfl (hb hby d20_24) rfl ?_
    refine stk8 _ ?_
    refine sty9 _ ?_
    refine XS.aloadN Xy9.here hx rfl (hb hby d20_31) rfl rfl ?_
    show Sp p e below Ty9 (mkF m 32 #[.val (.ref a), .val (.int r), .val (.ref ba2)] [(.ref ba2)]) _
    jvm_step Xy9.here [Xy9.here.top, hx, (hb hby d20_32), Xy9.method', hret, Value.isRef, FieldType.isReference]
    first | (intro acts; rw [hlv _ acts rfl rfl rfl]) | rw [hlv _ _ rfl rfl rfl]
    exact Steps.refl _
  · show Q_copyof Z a k z vs r h0 n0 _ Ty9.heap _
    rw [ey9]
    exact ⟨ba2, ka2, rfl, Ny9, K10, y_ba2, Vcy9, F11⟩
theorem d4_0 : decode prog_57_method_3_code 0 = .ok (.aload_n 1, 1) := by decide +kernel
theorem d4_1 : decode prog_57_method_3_code 1 = .ok (.arraylength, 1) := by decide +kernel
theorem d4_2 : decode prog_57_method_3_code 2 = .ok (.aload_n 0, 1) := by decide +kernel
theorem d4_3 : decode prog_57_method_3_code 3 = .ok (.getfield 23, 3) := by decide +kernel
theorem d4_6 : decode prog_57_method_3_code 6 = .ok (.if_icmp .lt 7, 3) := by decide +kernel
theorem d4_9 : decode prog_57_method_3_code 9 = .ok (.aload_n 1, 1) := by decide +kernel
theorem d4_10 : decode prog_57_method_3_code 10 = .ok (.goto 13, 3) := by decide +kernel
theorem d4_13 : decode prog_57_method_3_code 13 = .ok (.aload_n 1, 1) := by decide +kernel
theorem d4_14 : decode prog_57_method_3_code 14 = .ok (.aload_n 0, 1) := by decide +kernel
theorem d4_15 : decode prog_57_method_3_code 15 = .ok (.aload_n 1, 1) := by decide +kernel
theorem d4_16 : decode prog_57_method_3_code 16 = .ok (.arraylength, 1) := by decide +kernel
theorem d4_17 : decode prog_57_method_3_code 17 = .ok (.invokevirtual 27, 3) := by decide +kernel
theorem d4_20 : decode prog_57_method_3_code 20 = .ok (.invokestatic 31, 3) := by decide +kernel
theorem d4_23 : decode prog_57_method_3_code 23 = .ok (.areturn, 1) := by decide +kernel
theorem ef_4_RR (m : MethodId) (x0 : Addr) (x1 : Addr) : entryFrame m #[(.ref x0), (.ref x1)] 2 = mkF m 0 #[.val (.ref x0), .val (.ref x1)] [] := by first | (simp [entryFrame, mkF, argsToLocals, Value.category]; done) | rfl
def Q_fits_ (Z : State) (t : Addr) (a : Addr) (k : ClassId) (z : Int32) (vs : List Value) (n : Int32) (h0 : Heap) (n0 : Nat) (v : Option Value) (h : Heap) (L : List Loc) : Prop := v = some (.ref a) ∧ Fr n0 L ∧ h = h0
set_option maxRecDepth 65536 in
set_option maxHeartbeats 40000000 in
theorem rm_fits_ (l : Launch) (Z : State) (a0 : Array Value) (hw : ∀ d ∈ tables_1, d.before a0 Z = true) (ws : List Jvm.Cond) (t : Addr) (a : Addr) (k : ClassId) (z : Int32) (vs : List Value) (n : Int32) (h0 : Heap) (n0 : Nat) (Z0 : n0 ≤ h0.size) (O0 : Old Z n0 h0) (f0 : Fld Z h0 t S1 "size" "I" (.int n)) (f1 : Arv Z h0 a k .int z vs (.int (0 : Int32))) (hzn : ¬ (z < n)) :
    MetFree l Y13 (head1 (Jvm.Cond.code Y13 prog_57_method_3_code 2 (some (.array .int)) :: ws) ({ frames := 0, cells := 0, slots := 0, locals := 0 } : Room)) (fun A_ U => A_ = #[(.ref t), (.ref a)] ∧ Z.Warmed39 U.vm ∧ U.heap = h0) (fun _ _ _ _ _ => True) (fun _ U o_ U' => ∃ v_ L_, o_ = .returned v_ ∧ Q_fits_ Z t a k z vs n h0 n0 v_ U'.heap L_ ∧ FrameEnd U o_ U' L_ ({ frames := 0, cells := 0, slots := 0, locals := 0 } : Room).cells ({ frames := 0, cells := 0, slots := 0, locals := 0 } : Room).slots) := by
  refine MetFree.of_bodySF (plainFor_of_name pn_2) hisR ?_
  intro p e s m args below meth c s₁ Bd hml0 hP hK
  obtain ⟨rfl, hZ, hh⟩ := hP
  have hx := Bd.exec
  have hby := Bd.bytes
  have hml : c.maxLocals = 2 := hml0
  have hown : s.vm.findClass S1 = some m.cls := findClass_of_methodNamed Bd.named
  have hnm := (name_of_methodNamed Bd.named Bd.method).1
  have hret := Bd.returns
  have X0 : Stand p l e ({ frames := 0, cells := 0, slots := 0, locals := 0 } : Room) s m #[(.ref t), (.ref a)] below meth c s₁ [] 0 0 := Stand.of_body Bd
  have e0 : s₁.heap = h0 := by rw [← hh, Bd.state]; rfl
  have N0 := Fr.nil n0
  have pre0 : ∀ t_, Sp p e below s₁ (mkF m 0 #[.val (.ref t), .val (.ref a)] []) t_ → Sp p e below s₁ (entryFrame m #[(.ref t), (.ref a)] 2) t_ := fun t_ k_ => castTop (ef_4_RR m t a) k_
  obtain ⟨clv1, Arv1, qv1, Sv1, Nv1, Hv1, Gv1⟩ := id f1
  obtain ⟨Tf2, Xf2, ef2, stf2⟩ := getF X0 hx hZ hown (host := "") (Or.inl (tw hw 29 rfl)) Via.refl e0 f0 (g := (mkF m 3 #[.val (.ref t), .val (.ref a)] [(.ref t), (.int z)])) rfl rfl (hb hby d4_3)
  obtain ⟨fs, hlv, hrun, hended, hW, hsame⟩ := Xf2.leave (v := some (.ref a)) (fun h => by rw [hret] at h; cases h)
  refine ⟨_, _, pre0 _ ?_, hrun, hended, _, _, rfl, ?_, ⟨_, rfl⟩, hW, hsame.mono (by decide) (by decide)⟩
  · refine XS.aloadN X0.here hx rfl (hb hby d4_0) rfl rfl ?_
    show Sp p e below s₁ (mkF m 1 #[.val (.ref t), .val (.ref a)] [(.ref a)]) _
    refine X0.arraylength hx (own_eq e0 Arv1.1) (State.isArrayOf_alike hZ.alike Arv1.2.1) (g := (mkF m 1 #[.val (.ref t), .val (.ref a)] [(.ref a)])) rfl rfl (hb hby d4_1) _ ?_
    rw [len_of Sv1 Nv1]
    show Sp p e below s₁ (mkF m 2 #[.val (.ref t), .val (.ref a)] [(.int z)]) _
    refine XS.aloadN X0.here hx rfl (hb hby d4_2) rfl rfl ?_
    refine stf2 _ ?_
    refine XS.icmpNo Xf2.here hx rfl (hb hby d4_6) rfl (flt hzn).1 ?_
    refine XS.aloadN Xf2.here hx rfl (hb hby d4_9) rfl rfl ?_
    refine XS.goto Xf2.here hx rfl (pc0 := 10) (pc' := 23) rfl (hb hby d4_10) (by decide) (by decide) ?_
    show Sp p e below Tf2 (mkF m 23 #[.val (.ref t), .val (.ref a)] [(.ref a)]) _
    jvm_step Xf2.here [Xf2.here.top, hx, (hb hby d4_23), Xf2.method', hret, Value.isRef, FieldType.isReference]
    first | (intro acts; rw [hlv _ acts rfl rfl rfl]) | rw [hlv _ _ rfl rfl rfl]
    exact Steps.refl _
  · show Q_fits_ Z t a k z vs n h0 n0 _ Tf2.heap _
    rw [ef2]
    exact ⟨rfl, N0, rfl⟩
theorem pd__I_I : parseMethodDescriptor "(I)I" = some ⟨[.int], some .int⟩ := by decide +kernel
theorem pd___II__I : parseMethodDescriptor "([II)[I" = some ⟨[(.array .int), .int], some (.array .int)⟩ := by decide +kernel
def Q_fitg (Z : State) (t : Addr) (a : Addr) (k : ClassId) (z : Int32) (vs : List Value) (n : Int32) (r : Int32) (h0 : Heap) (n0 : Nat) (v : Option Value) (h : Heap) (L : List Loc) : Prop := ∃ b : Addr, ∃ kb : ClassId, v = some (.ref b) ∧ Fr n0 L ∧ Keep h0 h [] ∧ h0.size ≤ b ∧ Arv Z h b kb .int r vs (.int (0 : Int32)) ∧ Exa Z h b "[I"
set_option maxRecDepth 65536 in
set_option maxHeartbeats 40000000 in
theorem rm_fitg (l : Launch) (Z : State) (a0 : Array Value) (hw : ∀ d ∈ tables_1, d.before a0 Z = true) (ws : List Jvm.Cond) (t : Addr) (a : Addr) (k : ClassId) (z : Int32) (vs : List Value) (n : Int32) (r : Int32) (h0 : Heap) (n0 : Nat) (Z0 : n0 ≤ h0.size) (O0 : Old Z n0 h0) (f0 : Exa Z h0 t S1) (f1 : Fld Z h0 t S1 "size" "I" (.int n)) (f2 : Arv Z h0 a k .int z vs (.int (0 : Int32))) (hzn : z < n) (hres : r = if n < (z + (z >>> ((1 : Int32) &&& 31))) then (z + (z >>> ((1 : Int32) &&& 31))) else n) (hne : ¬ (r = z)) (hz0 : ¬ (z < 0)) (hzr : z < r) (hrz : ¬ (r < z)) (hr0 : ¬ (r < 0)) (hr12 : r.toNatClampNeg ≤ 12) (hvl : vs.length ≤ z.toNatClampNeg) :
    MetFree l Y13 (head1 (Jvm.Cond.code Y13 prog_57_method_3_code 2 (some (.array .int)) :: ws) ({ frames := 2, cells := 1, slots := 12, locals := 54 } : Room)) (fun A_ U => A_ = #[(.ref t), (.ref a)] ∧ Z.Warmed39 U.vm ∧ U.heap = h0) (fun _ _ _ _ _ => True) (fun _ U o_ U' => ∃ v_ L_, o_ = .returned v_ ∧ Q_fitg Z t a k z vs n r h0 n0 v_ U'.heap L_ ∧ FrameEnd U o_ U' L_ ({ frames := 2, cells := 1, slots := 12, locals := 54 } : Room).cells ({ frames := 2, cells := 1, slots := 12, locals := 54 } : Room).slots) := by
  refine MetFree.of_bodySF (plainFor_of_name pn_2) hisR ?_
  intro p e s m args below meth c s₁ Bd hml0 hP hK
  obtain ⟨rfl, hZ, hh⟩ := hP
  have hx := Bd.exec
  have hby := Bd.bytes
  have hml : c.maxLocals = 2 := hml0
  have hown : s.vm.findClass S1 = some m.cls := findClass_of_methodNamed Bd.named
  have hnm := (name_of_methodNamed Bd.named Bd.method).1
  have hret := Bd.returns
  have X0 : Stand p l e ({ frames := 2, cells := 1, slots := 12, locals := 54 } : Room) s m #[(.ref t), (.ref a)] below meth c s₁ [] 0 0 := Stand.of_body Bd
  have e0 : s₁.heap = h0 := by rw [← hh, Bd.state]; rfl
  have N0 := Fr.nil n0
  have pre0 : ∀ t_, Sp p e below s₁ (mkF m 0 #[.val (.ref t), .val (.ref a)] []) t_ → Sp p e below s₁ (entryFrame m #[(.ref t), (.ref a)] 2) t_ := fun t_ k_ => castTop (ef_4_RR m t a) k_
  obtain ⟨clv1, Arv1, qv1, Sv1, Nv1, Hv1, Gv1⟩ := id f2
  obtain ⟨Tf2, Xf2, ef2, stf2⟩ := getF X0 hx hZ hown (host := "") (Or.inl (tw hw 29 rfl)) Via.refl e0 f1 (g := (mkF m 3 #[.val (.ref t), .val (.ref a)] [(.ref t), (.int z)])) rfl rfl (hb hby d4_3)
  obtain ⟨cqk3, qk3, qk3'⟩ := f0.cell
  obtain ⟨_, _, ⟨Tk3, Lk3, kk3, nk3⟩, -, Xk3, ⟨Lck3, hQk3, lk3, yk3, zk3⟩, stk3⟩ := Xf2.privateBack hx (y := Y11) hown (mvT hZ (tw hw 117 rfl)) (mvT hZ (tw hw 118 rfl)) (own_selp (mvT hZ (tw hw 27 rfl)) rfl (Cond.privateMethod_at (mvP hZ (tw hw 119 rfl) (args := #[]))) (mvT hZ (tw hw 118 rfl)) (by decide)) (Cond.privateMethod_at (mvP hZ (tw hw 119 rfl) (args := #[]))) (mvT hZ (tw hw 120 rfl)) (by decide) (backOf (W := 1) (rm_room l Z a0 hw [] t z n r  h0 n0 Z0 O0 f1 hres) hZ (tw hw 120 rfl) (tw hw 3 rfl) (by decide) (by decide)) (g := (mkF m 17 #[.val (.ref t), .val (.ref a)] [(.int z), (.ref t), (.ref a)])) rfl (by rw [hml]; rfl) (Steps.refl _) (a := t) (own_eq ef2 qk3) qk3' (argsL := [(.int z)]) (rest := [(.ref a)]) (lenOf pd__I_I rfl) rfl (by show 2 * 0 + _ ≤ _; exact Nat.le_of_eq rfl) (hb hby d4_17) (fun _ _ => ⟨rfl, ef2, (by decide : 0 + 0 ≤ _), (by decide : 0 + 0 ≤ _)⟩)
  dsimp only [Pt.U, Pt.locs, Pt.cells, Pt.slots] at Xk3 lk3 yk3 zk3 stk3 hQk3
  subst lk3 yk3 zk3
  obtain ⟨rfl, Nk3q, ek3⟩ := hQk3
  have Nk3 := Fr.app N0 Nk3q
  obtain ⟨_, _, ⟨Tk4, Lk4, kk4, nk4⟩, -, Xk4, ⟨Lck4, hQk4, lk4, yk4, zk4⟩, stk4⟩ := Jvm.LawKit.callS Xk3 hx (y := Y12) hown (mvT hZ (tw hw 124 rfl)) (mvT hZ (tw hw 125 rfl)) (mvT hZ (tw hw 126 rfl)) (mvT hZ (tw hw 127 rfl)) (by decide) (backOf (W := 0) (rm_copyof l Z a0 hw [] a k z vs r  h0 n0 Z0 O0 f2 hne hz0 hzr hrz hr0 hr12 hvl) hZ (tw hw 127 rfl) (tw hw 126 rfl) (by decide) (by decide)) (g := (mkF m 20 #[.val (.ref t), .val (.ref a)] [(.int r), (.ref a)])) rfl (by rw [hml]; rfl) (argsL := [(.ref a), (.int r)]) (rest := []) (lenOf pd___II__I rfl) rfl (by show 2 * 0 + _ ≤ _; exact Nat.le_of_eq rfl) (hb hby d4_20) (fun _ _ => ⟨rfl, ek3, (by decide : 0 + 1 ≤ _), (by decide : 0 + 12 ≤ _)⟩)
  dsimp only [Pt.U, Pt.locs, Pt.cells, Pt.slots] at Xk4 lk4 yk4 zk4 stk4 hQk4
  subst lk4 yk4 zk4
  obtain ⟨bk4, kbk4, rfl, Nk4q, Kk4q, Gk4_0, Qk4_0, Qk4_1⟩ := hQk4
  have g_bk4 : n0 ≤ bk4 := Nat.le_trans Z0 Gk4_0
  have y_bk4 : h0.size ≤ bk4 := Nat.le_trans (Nat.le_refl h0.size) Gk4_0
  have K5 : Keep h0 Tk4.heap [] := (Keep.refl h0 []).trans Kk4q all0
  have Nk4 := Fr.app Nk3 Nk4q
  obtain ⟨fs, hlv, hrun, hended, hW, hsame⟩ := Xk4.leave (v := some (.ref bk4)) (fun h => by rw [hret] at h; cases h)
  refine ⟨_, _, pre0 _ ?_, hrun, hended, _, _, rfl, ?_, ⟨_, rfl⟩, hW, hsame.mono (by decide) (by decide)⟩
  · refine XS.aloadN X0.here hx rfl (hb hby d4_0) rfl rfl ?_
    show Sp p e below s₁ (mkF m 1 #[.val (.ref t), .val (.ref a)] [(.ref a)]) _
    refine X0.arraylength hx (own_eq e0 Arv1.1) (State.isArrayOf_alike hZ.alike Arv1.2.1) (g := (mkF m 1 #[.val (.ref t), .val (.ref a)] [(.ref a)])) rfl rfl (hb hby d4_1) _ ?_
    rw [len_of Sv1 Nv1]
    show Sp p e below s₁ (mkF m 2 #[.val (.ref t), .val (.ref a)] [(.int z)]) _
    refine XS.aloadN X0.here hx rfl (hb hby d4_2) rfl rfl ?_
    refine stf2 _ ?_
    refine XS.icmpYes Xf2.here hx rfl (pc0 := 6) (pc' := 13) rfl (hb hby d4_6) rfl (tlt hzn).1 (by decide) (by decide) ?_
    refine XS.aloadN Xf2.here hx rfl (hb hby d4_13) rfl rfl ?_
    refine XS.aloadN Xf2.here hx rfl (hb hby d4_14) rfl rfl ?_
    refine XS.aloadN Xf2.here hx rfl (hb hby d4_15) rfl rfl ?_
    show Sp p e below Tf2 (mkF m 16 #[.val (.ref t), .val (.ref a)] [(.ref a), (.ref t), (.ref a)]) _
    refine Xf2.arraylength hx (own_eq ef2 Arv1.1) (State.isArrayOf_alike hZ.alike Arv1.2.1) (g := (mkF m 16 #[.val (.ref t), .val (.ref a)] [(.ref a), (.ref t), (.ref a)])) rfl rfl (hb hby d4_16) _ ?_
    rw [len_of Sv1 Nv1]
    show Sp p e below Tf2 (mkF m 17 #[.val (.ref t), .val (.ref a)] [(.int z), (.ref t), (.ref a)]) _
    refine stk3.trans ?_
    refine stk4 _ ?_
    show Sp p e below Tk4 (mkF m 23 #[.val (.ref t), .val (.ref a)] [(.ref bk4)]) _
    jvm_step Xk4.here [Xk4.here.top, hx, (hb hby d4_23), Xk4.method', hret, Value.isRef, FieldType.isReference]
    first | (intro acts; rw [hlv _ acts rfl rfl rfl]) | rw [hlv _ _ rfl rfl rfl]
    exact Steps.refl _
  · show Q_fitg Z t a k z vs n r h0 n0 _ Tk4.heap _
    exact ⟨bk4, kbk4, rfl, Nk4, K5, y_bk4, Qk4_0, Qk4_1⟩
theorem d1_0 : decode prog_57_method_1_code 0 = .ok (.aload_n 0, 1) := by decide +kernel
theorem d1_1 : decode prog_57_method_1_code 1 = .ok (.invokespecial 3, 3) := by decide +kernel
theorem d1_4 : decode prog_57_method_1_code 4 = .ok (.aload_n 0, 1) := by decide +kernel
theorem d1_5 : decode prog_57_method_1_code 5 = .ok (.bipush 16, 2) := by decide +kernel
theorem d1_7 : decode prog_57_method_1_code 7 = .ok (.newarray .long, 2) := by decide +kernel
theorem d1_9 : decode prog_57_method_1_code 9 = .ok (.putfield 9, 3) := by decide +kernel
theorem d1_12 : decode prog_57_method_1_code 12 = .ok (.aload_n 0, 1) := by decide +kernel
theorem d1_13 : decode prog_57_method_1_code 13 = .ok (.iconst 0, 1) := by decide +kernel
theorem d1_14 : decode prog_57_method_1_code 14 = .ok (.newarray .int, 2) := by decide +kernel
theorem d1_16 : decode prog_57_method_1_code 16 = .ok (.putfield 13, 3) := by decide +kernel
theorem d1_19 : decode prog_57_method_1_code 19 = .ok (.aload_n 0, 1) := by decide +kernel
theorem d1_20 : decode prog_57_method_1_code 20 = .ok (.iconst 1, 1) := by decide +kernel
theorem d1_21 : decode prog_57_method_1_code 21 = .ok (.anewarray 17, 3) := by decide +kernel
theorem d1_24 : decode prog_57_method_1_code 24 = .ok (.putfield 19, 3) := by decide +kernel
theorem d1_27 : decode prog_57_method_1_code 27 = .ok (.return_, 1) := by decide +kernel
theorem ef_1_R (m : MethodId) (x0 : Addr) : entryFrame m #[(.ref x0)] 1 = mkF m 0 #[.val (.ref x0)] [] := by first | (simp [entryFrame, mkF, argsToLocals, Value.category]; done) | rfl
def Q_tkinit (Z : State) (t : Addr) (h0 : Heap) (n0 : Nat) (v : Option Value) (h : Heap) (L : List Loc) : Prop := ∃ sl : Addr, ∃ ks : ClassId, ∃ en : Addr, ∃ ken : ClassId, ∃ bl : Addr, ∃ kbl : ClassId, v = none ∧ Fr n0 L ∧ Keep h0 h [t] ∧ h0.size ≤ sl ∧ h0.size ≤ en ∧ h0.size ≤ bl ∧ Fld Z h t S1 "slots" "[J" (.ref sl) ∧ Fld Z h t S1 "ends" "[I" (.ref en) ∧ Fld Z h t S1 "blocks" "[[B" (.ref bl) ∧ Fld Z h t S1 "stored" "I" (.int (0 : Int32)) ∧ Fld Z h t S1 "size" "I" (.int (0 : Int32)) ∧ Arv Z h sl ks .long (16 : Int32) [(.long (0 : Int64)), (.long (0 : Int64)), (.long (0 : Int64)), (.long (0 : Int64)), (.long (0 : Int64)), (.long (0 : Int64)), (.long (0 : Int64)), (.long (0 : Int64)), (.long (0 : Int64)), (.long (0 : Int64)), (.long (0 : Int64)), (.long (0 : Int64)), (.long (0 : Int64)), (.long (0 : Int64)), (.long (0 : Int64)), (.long (0 : Int64))] (.long (0 : Int64)) ∧ Exa Z h sl "[J" ∧ Arv Z h en ken .int (0 : Int32) [] (.int (0 : Int32)) ∧ Exa Z h en "[I" ∧ Arv Z h bl kbl (.array .byte) (1 : Int32) [.null] .null ∧ Exa Z h bl "[[B" ∧ OvrA Z kbl .byte "[B"
set_option maxRecDepth 65536 in
set_option maxHeartbeats 40000000 in
theorem rm_tkinit (l : Launch) (Z : State) (a0 : Array Value) (hw : ∀ d ∈ tables_1, d.before a0 Z = true) (ws : List Jvm.Cond) (t : Addr) (h0 : Heap) (n0 : Nat) (Z0 : n0 ≤ h0.size) (O0 : Old Z n0 h0) (f0 : Exa Z h0 t S1) (f1 : Fld Z h0 t S1 "slots" "[J" .null) (f2 : Fld Z h0 t S1 "ends" "[I" .null) (f3 : Fld Z h0 t S1 "blocks" "[[B" .null) (f4 : Fld Z h0 t S1 "stored" "I" (.int (0 : Int32))) (f5 : Fld Z h0 t S1 "size" "I" (.int (0 : Int32))) (gt : n0 ≤ t) :
    MetFree l Y14 (head1 (Jvm.Cond.code Y14 prog_57_method_1_code 1 none :: ws) ({ frames := 1, cells := 3, slots := 17, locals := 12 } : Room)) (fun A_ U => A_ = #[(.ref t)] ∧ Z.Warmed39 U.vm ∧ U.heap = h0) (fun _ _ _ _ _ => True) (fun _ U o_ U' => ∃ v_ L_, o_ = .returned v_ ∧ Q_tkinit Z t h0 n0 v_ U'.heap L_ ∧ FrameEnd U o_ U' L_ ({ frames := 1, cells := 3, slots := 17, locals := 12 } : Room).cells ({ frames := 1, cells := 3, slots := 17, locals := 12 } : Room).slots) := by
  refine MetFree.of_bodySF (plainFor_of_name pn_2) hisR ?_
  intro p e s m args below meth c s₁ Bd hml0 hP hK
  obtain ⟨rfl, hZ, hh⟩ := hP
  have hx := Bd.exec
  have hby := Bd.bytes
  have hml : c.maxLocals = 1 := hml0
  have hown : s.vm.findClass S1 = some m.cls := findClass_of_methodNamed Bd.named
  have hnm := (name_of_methodNamed Bd.named Bd.method).1
  have hret := Bd.returns
  have X0 : Stand p l e ({ frames := 1, cells := 3, slots := 17, locals := 12 } : Room) s m #[(.ref t)] below meth c s₁ [] 0 0 := Stand.of_body Bd
  have e0 : s₁.heap = h0 := by rw [← hh, Bd.state]; rfl
  have N0 := Fr.nil n0
  have pre0 : ∀ t_, Sp p e below s₁ (mkF m 0 #[.val (.ref t)] []) t_ → Sp p e below s₁ (entryFrame m #[(.ref t)] 1) t_ := fun t_ k_ => castTop (ef_1_R m t) k_
  obtain ⟨Ti1, Xi1, ei1, sti1⟩ := initO X0 hx hZ hown (tw hw 7 rfl) (tw hw 8 rfl) (tw hw 9 rfl) e0 (g := (mkF m 1 #[.val (.ref t)] [(.ref t)])) rfl (by rw [hml]; rfl) rfl (hb hby d1_1) (by decide) (W := 0) (by show 2 * 0 + _ ≤ _; exact Nat.le_of_eq rfl) (by decide)
  obtain ⟨Ta2, ha2, ka2, Xa2, ea2, Ea2, Aa2, Ba2, sta2⟩ := newPE Xi1 hx hZ (tw hw 10 rfl) ei1 (g := (mkF m 7 #[.val (.ref t)] [(.int (16 : Int32)), (.ref t)])) rfl (hb hby d1_7) rfl (by decide) (cap := 16) (by decide) (by decide) (by decide) (by decide) (ad := "[J") (by decide)
  obtain ⟨ba2, ga2⟩ : ∃ z, z = h0.size := ⟨_, rfl⟩
  rw [← ga2] at Aa2 Ba2 sta2
  have g_ba2 : n0 ≤ ba2 := Nat.le_trans Z0 (Nat.le_of_eq ga2.symm)
  have y_ba2 : h0.size ≤ ba2 := Nat.le_trans (Nat.le_refl h0.size) (Nat.le_of_eq ga2.symm)
  have Va2 : Arv Z ha2 ba2 ka2 .long (16 : Int32) [(.long (0 : Int64)), (.long (0 : Int64)), (.long (0 : Int64)), (.long (0 : Int64)), (.long (0 : Int64)), (.long (0 : Int64)), (.long (0 : Int64)), (.long (0 : Int64)), (.long (0 : Int64)), (.long (0 : Int64)), (.long (0 : Int64)), (.long (0 : Int64)), (.long (0 : Int64)), (.long (0 : Int64)), (.long (0 : Int64)), (.long (0 : Int64))] (.long (0 : Int64)) := (Arv.new Aa2 (by decide)).pad (pad_rep [] (.long (0 : Int64)) 16)
  have K3 : Keep h0 ha2 [t] := (Keep.refl h0 [t]).ext Ea2
  have F4 := (f1.ext Ea2)
  have F5 := (f0.ext Ea2)
  obtain ⟨Tp6, hp6, Xp6, ep6, Wp6, stp6⟩ := putF Xa2 hx hZ hown (host := "") (Or.inl (tw hw 11 rfl)) Via.refl ea2 F4 F5 (Or.inl (tw hw 12 rfl)) (tw hw 2 rfl) (ty := (.array .long)) (by decide) rfl rfl (g := (mkF m 9 #[.val (.ref t)] [(.ref ba2), (.ref t)])) rfl rfl (hb hby d1_9)
  have Fwp6 : Fld Z hp6 t S1 "slots" "[J" (.ref ba2) := F4.same Wp6
  have Np6 := Fr.snoc Xp6 N0 gt
  have K7 : Keep h0 hp6 [t] := K3.wr Wp6 (Or.inl (List.mem_of_getElem? (i := 0) rfl))
  obtain ⟨Ta8, ha8, ka8, Xa8, ea8, Ea8, Aa8, Ba8, sta8⟩ := newPE Xp6 hx hZ (tw hw 13 rfl) ep6 (g := (mkF m 14 #[.val (.ref t)] [(.int (0 : Int32)), (.ref t)])) rfl (hb hby d1_14) rfl (by decide) (cap := 0) (by decide) (by decide) (by decide) (by decide) (ad := "[I") (by decide)
  obtain ⟨ba8, ga8⟩ : ∃ z, z = hp6.size := ⟨_, rfl⟩
  rw [← ga8] at Aa8 Ba8 sta8
  have Z9 : n0 ≤ hp6.size := (Nat.le_trans (Nat.le_trans Z0 Ea2.1) (Keep.of_wr Wp6).1)
  have Y10 : h0.size ≤ hp6.size := (Nat.le_trans (Nat.le_trans (Nat.le_refl h0.size) Ea2.1) (Keep.of_wr Wp6).1)
  have g_ba8 : n0 ≤ ba8 := Nat.le_trans Z9 (Nat.le_of_eq ga8.symm)
  have y_ba8 : h0.size ≤ ba8 := Nat.le_trans Y10 (Nat.le_of_eq ga8.symm)
  have Va8 : Arv Z ha8 ba8 ka8 .int (0 : Int32) [] (.int (0 : Int32)) := (Arv.new Aa8 (by decide)).pad (pad_rep [] (.int (0 : Int32)) 0)
  have K11 : Keep h0 ha8 [t] := K7.ext Ea8
  have F12 := (((f2.ext Ea2).other Wp6 (Or.inr (slot_ne (Or.inl (tw hw 15 rfl)) (Or.inl (tw hw 12 rfl)) (by decide) (t := (.array .int)) (t' := (.array .long)) (by decide) (by decide)))).ext Ea8)
  have F13 := ((F5.wr Wp6).ext Ea8)
  obtain ⟨Tp14, hp14, Xp14, ep14, Wp14, stp14⟩ := putF Xa8 hx hZ hown (host := "") (Or.inl (tw hw 14 rfl)) Via.refl ea8 F12 F13 (Or.inl (tw hw 15 rfl)) (tw hw 2 rfl) (ty := (.array .int)) (by decide) rfl rfl (g := (mkF m 16 #[.val (.ref t)] [(.ref ba8), (.ref t)])) rfl rfl (hb hby d1_16)
  have Fwp14 : Fld Z hp14 t S1 "ends" "[I" (.ref ba8) := F12.same Wp14
  have Np14 := Fr.snoc Xp14 Np6 gt
  have K15 : Keep h0 hp14 [t] := K11.wr Wp14 (Or.inl (List.mem_of_getElem? (i := 0) rfl))
  obtain ⟨Ta16, ha16, ka16, Xa16, ea16, Ea16, Aa16, Ba16, Oa16, sta16⟩ := newRA Xp14 hx hZ (C := "[B") (ty := .byte) hown (by decide) (tw hw 16 rfl) (tw hw 17 rfl) ep14 (g := (mkF m 21 #[.val (.ref t)] [(.int (1 : Int32)), (.ref t)])) rfl (hb hby d1_21) rfl (by decide) (cap := 1) (by decide) (by decide) (by decide) (by decide) (ad := "[[B") (by decide)
  obtain ⟨ba16, ga16⟩ : ∃ z, z = hp14.size := ⟨_, rfl⟩
  rw [← ga16] at Aa16 Ba16 sta16
  have Z17 : n0 ≤ hp14.size := (Nat.le_trans (Nat.le_trans Z9 Ea8.1) (Keep.of_wr Wp14).1)
  have Y18 : h0.size ≤ hp14.size := (Nat.le_trans (Nat.le_trans Y10 Ea8.1) (Keep.of_wr Wp14).1)
  have g_ba16 : n0 ≤ ba16 := Nat.le_trans Z17 (Nat.le_of_eq ga16.symm)
  have y_ba16 : h0.size ≤ ba16 := Nat.le_trans Y18 (Nat.le_of_eq ga16.symm)
  have Va16 : Arv Z ha16 ba16 ka16 (.array .byte) (1 : Int32) [.null] .null := (Arv.new Aa16 (by decide)).pad (pad_rep [] .null 1)
  have K19 : Keep h0 ha16 [t] := K15.ext Ea16
  have F20 := (((((f3.ext Ea2).other Wp6 (Or.inr (slot_ne (Or.inl (tw hw 19 rfl)) (Or.inl (tw hw 12 rfl)) (by decide) (t := (.array (.array .byte))) (t' := (.array .long)) (by decide) (by decide)))).ext Ea8).other Wp14 (Or.inr (slot_ne (Or.inl (tw hw 19 rfl)) (Or.inl (tw hw 15 rfl)) (by decide) (t := (.array (.array .byte))) (t' := (.array .int)) (by decide) (by decide)))).ext Ea16)
  have F21 := ((F13.wr Wp14).ext Ea16)
  obtain ⟨Tp22, hp22, Xp22, ep22, Wp22, stp22⟩ := putF Xa16 hx hZ hown (host := "") (Or.inl (tw hw 18 rfl)) Via.refl ea16 F20 F21 (Or.inl (tw hw 19 rfl)) (tw hw 2 rfl) (ty := (.array (.array .byte))) (by decide) rfl rfl (g := (mkF m 24 #[.val (.ref t)] [(.ref ba16), (.ref t)])) rfl rfl (hb hby d1_24)
  have Fwp22 : Fld Z hp22 t S1 "blocks" "[[B" (.ref ba16) := F20.same Wp22
  have Np22 := Fr.snoc Xp22 Np14 gt
  have K23 : Keep h0 hp22 [t] := K19.wr Wp22 (Or.inl (List.mem_of_getElem? (i := 0) rfl))
  have F24 := ((((Fwp6.ext Ea8).other Wp14 (Or.inr (slot_ne (Or.inl (tw hw 12 rfl)) (Or.inl (tw hw 15 rfl)) (by decide) (t := (.array .long)) (t' := (.array .int)) (by decide) (by decide)))).ext Ea16).other Wp22 (Or.inr (slot_ne (Or.inl (tw hw 12 rfl)) (Or.inl (tw hw 19 rfl)) (by decide) (t := (.array .long)) (t' := (.array (.array .byte))) (by decide) (by decide))))
  have F25 := ((Fwp14.ext Ea16).other Wp22 (Or.inr (slot_ne (Or.inl (tw hw 15 rfl)) (Or.inl (tw hw 19 rfl)) (by decide) (t := (.array .int)) (t' := (.array (.array .byte))) (by decide) (by decide))))
  have F26 := ((((((f4.ext Ea2).other Wp6 (Or.inr (slot_ne (Or.inl (tw hw 105 rfl)) (Or.inl (tw hw 12 rfl)) (by decide) (t := .int) (t' := (.array .long)) (by decide) (by decide)))).ext Ea8).other Wp14 (Or.inr (slot_ne (Or.inl (tw hw 105 rfl)) (Or.inl (tw hw 15 rfl)) (by decide) (t := .int) (t' := (.array .int)) (by decide) (by decide)))).ext Ea16).other Wp22 (Or.inr (slot_ne (Or.inl (tw hw 105 rfl)) (Or.inl (tw hw 19 rfl)) (by decide) (t := .int) (t' := (.array (.array .byte))) (by decide) (by decide))))
  have F27 := ((((((f5.ext Ea2).other Wp6 (Or.inr (slot_ne (Or.inl (tw hw 30 rfl)) (Or.inl (tw hw 12 rfl)) (by decide) (t := .int) (t' := (.array .long)) (by decide) (by decide)))).ext Ea8).other Wp14 (Or.inr (slot_ne (Or.inl (tw hw 30 rfl)) (Or.inl (tw hw 15 rfl)) (by decide) (t := .int) (t' := (.array .int)) (by decide) (by decide)))).ext Ea16).other Wp22 (Or.inr (slot_ne (Or.inl (tw hw 30 rfl)) (Or.inl (tw hw 19 rfl)) (by decide) (t := .int) (t' := (.array (.array .byte))) (by decide) (by decide))))
  have F29 := (((((Ba2.wr Wp6).ext Ea8).wr Wp14).ext Ea16).wr Wp22)
  have F30 := (F21.wr Wp22)
  have ne28 : ba2 ≠ t := ne_exa F29 F30 (by decide)
  have F31 := (((((Va2.other Wp6 ne28).ext Ea8).other Wp14 ne28).ext Ea16).other Wp22 ne28)
  have F33 := (((Ba8.wr Wp14).ext Ea16).wr Wp22)
  have ne32 : ba8 ≠ t := ne_exa F33 F30 (by decide)
  have F34 := (((Va8.other Wp14 ne32).ext Ea16).other Wp22 ne32)
  have F36 := (Ba16.wr Wp22)
  have ne35 : ba16 ≠ t := ne_exa F36 F30 (by decide)
  have F37 := (Va16.other Wp22 ne35)
  have F38 := Oa16
  obtain ⟨fs, hlv, hrun, hended, hW, hsame⟩ := Xp22.leave (v := none) (fun _ => rfl)
  refine ⟨_, _, pre0 _ ?_, hrun, hended, _, _, rfl, ?_, ⟨_, rfl⟩, hW, hsame.mono (by decide) (by decide)⟩
  · refine XS.aloadN X0.here hx rfl (hb hby d1_0) rfl rfl ?_
    show Sp p e below s₁ (mkF m 1 #[.val (.ref t)] [(.ref t)]) _
    refine sti1 _ ?_
    refine XS.aloadN Xi1.here hx rfl (hb hby d1_4) rfl rfl ?_
    refine XS.bipush Xi1.here hx rfl (hb hby d1_5) ?_
    refine sta2 _ ?_
    refine stp6 _ ?_
    refine XS.aloadN Xp6.here hx rfl (hb hby d1_12) rfl rfl ?_
    refine XS.iconst Xp6.here hx rfl (hb hby d1_13) ?_
    refine sta8 _ ?_
    refine stp14 _ ?_
    refine XS.aloadN Xp14.here hx rfl (hb hby d1_19) rfl rfl ?_
    refine XS.iconst Xp14.here hx rfl (hb hby d1_20) ?_
    refine sta16 _ ?_
    refine stp22 _ ?_
    show Sp p e below Tp22 (mkF m 27 #[.val (.ref t)] []) _
    exact Xp22.returnOut hx hret (hb hby d1_27) hlv
  · show Q_tkinit Z t h0 n0 _ Tp22.heap _
    rw [ep22]
    exact ⟨ba2, ka2, ba8, ka8, ba16, ka16, rfl, Np22, K23, y_ba2, y_ba8, y_ba16, F24, F25, Fwp22, F26, F27, F31, F29, F34, F33, F37, F36, F38⟩
theorem d7_0 : decode prog_57_method_6_code 0 = .ok (.aload_n 1, 1) := by decide +kernel
theorem d7_1 : decode prog_57_method_6_code 1 = .ok (.getstatic 46, 3) := by decide +kernel
theorem d7_4 : decode prog_57_method_6_code 4 = .ok (.invokevirtual 52, 3) := by decide +kernel
theorem d7_7 : decode prog_57_method_6_code 7 = .ok (.astore_n 2, 1) := by decide +kernel
theorem d7_8 : decode prog_57_method_6_code 8 = .ok (.aload_n 2, 1) := by decide +kernel
theorem d7_9 : decode prog_57_method_6_code 9 = .ok (.invokestatic 58, 3) := by decide +kernel
theorem d7_12 : decode prog_57_method_6_code 12 = .ok (.istore_n 3, 1) := by decide +kernel
theorem d7_13 : decode prog_57_method_6_code 13 = .ok (.aload_n 0, 1) := by decide +kernel
theorem d7_14 : decode prog_57_method_6_code 14 = .ok (.aload_n 2, 1) := by decide +kernel
theorem d7_15 : decode prog_57_method_6_code 15 = .ok (.iload_n 3, 1) := by decide +kernel
theorem d7_16 : decode prog_57_method_6_code 16 = .ok (.invokevirtual 62, 3) := by decide +kernel
theorem d7_19 : decode prog_57_method_6_code 19 = .ok (.istore 4, 2) := by decide +kernel
theorem d7_21 : decode prog_57_method_6_code 21 = .ok (.aload_n 0, 1) := by decide +kernel
theorem d7_22 : decode prog_57_method_6_code 22 = .ok (.getfield 9, 3) := by decide +kernel
theorem d7_25 : decode prog_57_method_6_code 25 = .ok (.iload 4, 2) := by decide +kernel
theorem d7_27 : decode prog_57_method_6_code 27 = .ok (.laload, 1) := by decide +kernel
theorem d7_28 : decode prog_57_method_6_code 28 = .ok (.lconst 0, 1) := by decide +kernel
theorem d7_29 : decode prog_57_method_6_code 29 = .ok (.lcmp, 1) := by decide +kernel
theorem d7_30 : decode prog_57_method_6_code 30 = .ok (.ifCond .eq 5, 3) := by decide +kernel
theorem d7_35 : decode prog_57_method_6_code 35 = .ok (.aload_n 0, 1) := by decide +kernel
theorem d7_36 : decode prog_57_method_6_code 36 = .ok (.getfield 23, 3) := by decide +kernel
theorem d7_39 : decode prog_57_method_6_code 39 = .ok (.iconst 1, 1) := by decide +kernel
theorem d7_40 : decode prog_57_method_6_code 40 = .ok (.iadd, 1) := by decide +kernel
theorem d7_41 : decode prog_57_method_6_code 41 = .ok (.aload_n 0, 1) := by decide +kernel
theorem d7_42 : decode prog_57_method_6_code 42 = .ok (.getfield 9, 3) := by decide +kernel
theorem d7_45 : decode prog_57_method_6_code 45 = .ok (.arraylength, 1) := by decide +kernel
theorem d7_46 : decode prog_57_method_6_code 46 = .ok (.iconst 4, 1) := by decide +kernel
theorem d7_47 : decode prog_57_method_6_code 47 = .ok (.idiv, 1) := by decide +kernel
theorem d7_48 : decode prog_57_method_6_code 48 = .ok (.iconst 3, 1) := by decide +kernel
theorem d7_49 : decode prog_57_method_6_code 49 = .ok (.imul, 1) := by decide +kernel
theorem d7_50 : decode prog_57_method_6_code 50 = .ok (.if_icmp .le 15, 3) := by decide +kernel
theorem d7_65 : decode prog_57_method_6_code 65 = .ok (.aload_n 0, 1) := by decide +kernel
theorem d7_66 : decode prog_57_method_6_code 66 = .ok (.aload_n 2, 1) := by decide +kernel
theorem d7_67 : decode prog_57_method_6_code 67 = .ok (.invokevirtual 69, 3) := by decide +kernel
theorem d7_70 : decode prog_57_method_6_code 70 = .ok (.aload_n 0, 1) := by decide +kernel
theorem d7_71 : decode prog_57_method_6_code 71 = .ok (.getfield 9, 3) := by decide +kernel
theorem d7_74 : decode prog_57_method_6_code 74 = .ok (.iload 4, 2) := by decide +kernel
theorem d7_76 : decode prog_57_method_6_code 76 = .ok (.iload_n 3, 1) := by decide +kernel
theorem d7_77 : decode prog_57_method_6_code 77 = .ok (.i2l, 1) := by decide +kernel
theorem d7_78 : decode prog_57_method_6_code 78 = .ok (.bipush 32, 2) := by decide +kernel
theorem d7_80 : decode prog_57_method_6_code 80 = .ok (.lshl, 1) := by decide +kernel
theorem d7_81 : decode prog_57_method_6_code 81 = .ok (.aload_n 0, 1) := by decide +kernel
theorem d7_82 : decode prog_57_method_6_code 82 = .ok (.getfield 23, 3) := by decide +kernel
theorem d7_85 : decode prog_57_method_6_code 85 = .ok (.i2l, 1) := by decide +kernel
theorem d7_86 : decode prog_57_method_6_code 86 = .ok (.lconst 1, 1) := by decide +kernel
theorem d7_87 : decode prog_57_method_6_code 87 = .ok (.ladd, 1) := by decide +kernel
theorem d7_88 : decode prog_57_method_6_code 88 = .ok (.lor, 1) := by decide +kernel
theorem d7_89 : decode prog_57_method_6_code 89 = .ok (.lastore, 1) := by decide +kernel
theorem d7_90 : decode prog_57_method_6_code 90 = .ok (.aload_n 0, 1) := by decide +kernel
theorem d7_91 : decode prog_57_method_6_code 91 = .ok (.dup, 1) := by decide +kernel
theorem d7_92 : decode prog_57_method_6_code 92 = .ok (.getfield 23, 3) := by decide +kernel
theorem d7_95 : decode prog_57_method_6_code 95 = .ok (.iconst 1, 1) := by decide +kernel
theorem d7_96 : decode prog_57_method_6_code 96 = .ok (.iadd, 1) := by decide +kernel
theorem d7_97 : decode prog_57_method_6_code 97 = .ok (.putfield 23, 3) := by decide +kernel
theorem d7_100 : decode prog_57_method_6_code 100 = .ok (.aload_n 0, 1) := by decide +kernel
theorem d7_101 : decode prog_57_method_6_code 101 = .ok (.aload_n 0, 1) := by decide +kernel
theorem d7_102 : decode prog_57_method_6_code 102 = .ok (.aload_n 0, 1) := by decide +kernel
theorem d7_103 : decode prog_57_method_6_code 103 = .ok (.getfield 13, 3) := by decide +kernel
theorem d7_106 : decode prog_57_method_6_code 106 = .ok (.invokevirtual 73, 3) := by decide +kernel
theorem d7_109 : decode prog_57_method_6_code 109 = .ok (.putfield 13, 3) := by decide +kernel
theorem d7_112 : decode prog_57_method_6_code 112 = .ok (.aload_n 0, 1) := by decide +kernel
theorem d7_113 : decode prog_57_method_6_code 113 = .ok (.getfield 13, 3) := by decide +kernel
theorem d7_116 : decode prog_57_method_6_code 116 = .ok (.aload_n 0, 1) := by decide +kernel
theorem d7_117 : decode prog_57_method_6_code 117 = .ok (.getfield 23, 3) := by decide +kernel
theorem d7_120 : decode prog_57_method_6_code 120 = .ok (.iconst 1, 1) := by decide +kernel
theorem d7_121 : decode prog_57_method_6_code 121 = .ok (.isub, 1) := by decide +kernel
theorem d7_122 : decode prog_57_method_6_code 122 = .ok (.aload_n 0, 1) := by decide +kernel
theorem d7_123 : decode prog_57_method_6_code 123 = .ok (.getfield 77, 3) := by decide +kernel
theorem d7_126 : decode prog_57_method_6_code 126 = .ok (.iastore, 1) := by decide +kernel
theorem d7_127 : decode prog_57_method_6_code 127 = .ok (.iconst 1, 1) := by decide +kernel
theorem d7_128 : decode prog_57_method_6_code 128 = .ok (.ireturn, 1) := by decide +kernel
theorem ef_7_RR (m : MethodId) (x0 : Addr) (x1 : Addr) : entryFrame m #[(.ref x0), (.ref x1)] 5 = mkF m 0 #[.val (.ref x0), .val (.ref x1), .unset, .unset, .unset] [] := by first | (simp [entryFrame, mkF, argsToLocals, Value.category]; done) | rfl
theorem pd__Ljava_nio_charset_Charset___B : parseMethodDescriptor "(Ljava/nio/charset/Charset;)[B" = some ⟨[(.object "java/nio/charset/Charset")], some (.array .byte)⟩ := by decide +kernel
theorem pd___B_I : parseMethodDescriptor "([B)I" = some ⟨[(.array .byte)], some .int⟩ := by decide +kernel
theorem pd___BI_I : parseMethodDescriptor "([BI)I" = some ⟨[(.array .byte), .int], some .int⟩ := by decide +kernel
theorem pd___B_V : parseMethodDescriptor "([B)V" = some ⟨[(.array .byte)], none⟩ := by decide +kernel
theorem pd___I__I : parseMethodDescriptor "([I)[I" = some ⟨[(.array .int)], some (.array .int)⟩ := by decide +kernel
def Q_add0 (Z : State) (t : Addr) (a : Addr) (b : Addr) (k : ClassId) (sl : Addr) (ks : ClassId) (en : Addr) (ken : ClassId) (bl : Addr) (kbl : ClassId) (aU : Addr) (cs : Int32) (h0 : Heap) (n0 : Nat) (v : Option Value) (h : Heap) (L : List Loc) : Prop := ∃ en2 : Addr, ∃ ken2 : ClassId, ∃ bk : Addr, ∃ kbk : ClassId, v = some (.int (1 : Int32)) ∧ Fr n0 L ∧ Keep h0 h [t, sl, bl] ∧ h0.size ≤ en2 ∧ h0.size ≤ bk ∧ Fld Z h t S1 "slots" "[J" (.ref sl) ∧ Fld Z h t S1 "ends" "[I" (.ref en2) ∧ Fld Z h t S1 "blocks" "[[B" (.ref bl) ∧ Fld Z h t S1 "stored" "I" (.int (1 : Int32)) ∧ Fld Z h t S1 "size" "I" (.int (1 : Int32)) ∧ Arv Z h sl ks .long (16 : Int32) [(.long (0 : Int64)), (.long (0 : Int64)), (.long (0 : Int64)), (.long (0 : Int64)), (.long (0 : Int64)), (.long (0 : Int64)), (.long (0 : Int64)), (.long (0 : Int64)), (.long (0 : Int64)), (.long (0 : Int64)), (.long (0 : Int64)), (.long (0 : Int64)), (.long (0 : Int64)), (.long (1808655176962146305 : Int64)), (.long (0 : Int64)), (.long (0 : Int64))] (.long (0 : Int64)) ∧ Arv Z h en2 ken2 .int (1 : Int32) [(.int (1 : Int32))] (.int (0 : Int32)) ∧ Exa Z h en2 "[I" ∧ Arv Z h bl kbl (.array .byte) (1 : Int32) [(.ref bk)] .null ∧ Arv Z h bk kbk .byte (65536 : Int32) [(.int (97 : Int32)), (.int (0 : Int32)), (.int (0 : Int32)), (.int (0 : Int32)), (.int (0 : Int32)), (.int (0 : Int32)), (.int (0 : Int32)), (.int (0 : Int32))] (.int (0 : Int32)) ∧ Exa Z h bk "[B"
set_option maxRecDepth 65536 in
set_option maxHeartbeats 40000000 in
theorem rm_add0 (l : Launch) (Z : State) (a0 : Array Value) (hw : ∀ d ∈ tables_1, d.before a0 Z = true) (ws : List Jvm.Cond) (t : Addr) (a : Addr) (b : Addr) (k : ClassId) (sl : Addr) (ks : ClassId) (en : Addr) (ken : ClassId) (bl : Addr) (kbl : ClassId) (aU : Addr) (cs : Int32) (h0 : Heap) (n0 : Nat) (Z0 : n0 ≤ h0.size) (O0 : Old Z n0 h0) (f0 : Exa Z h0 t S1) (f1 : Fld Z h0 t S1 "slots" "[J" (.ref sl)) (f2 : Fld Z h0 t S1 "ends" "[I" (.ref en)) (f3 : Fld Z h0 t S1 "blocks" "[[B" (.ref bl)) (f4 : Fld Z h0 t S1 "stored" "I" (.int (0 : Int32))) (f5 : Fld Z h0 t S1 "size" "I" (.int (0 : Int32))) (f6 : Arv Z h0 sl ks .long (16 : Int32) [(.long (0 : Int64)), (.long (0 : Int64)), (.long (0 : Int64)), (.long (0 : Int64)), (.long (0 : Int64)), (.long (0 : Int64)), (.long (0 : Int64)), (.long (0 : Int64)), (.long (0 : Int64)), (.long (0 : Int64)), (.long (0 : Int64)), (.long (0 : Int64)), (.long (0 : Int64)), (.long (0 : Int64)), (.long (0 : Int64)), (.long (0 : Int64))] (.long (0 : Int64))) (f7 : Exa Z h0 sl "[J") (f8 : Arv Z h0 en ken .int (0 : Int32) [] (.int (0 : Int32))) (f9 : Exa Z h0 en "[I") (f10 : Arv Z h0 bl kbl (.array .byte) (1 : Int32) [.null] .null) (f11 : Exa Z h0 bl "[[B") (f12 : OvrA Z kbl .byte "[B") (f13 : Exa Z h0 a S0) (f14 : Fld Z h0 a S0 "coder" "B" (.int (0 : Int32))) (f15 : Fld Z h0 a S0 "value" "[B" (.ref b)) (f16 : Arv Z h0 b k .byte (1 : Int32) [(.int (97 : Int32))] (.int (0 : Int32))) (f17 : Exa Z h0 b "[B") (SS : own_start Z aU cs) (gt : n0 ≤ t) (gsl : n0 ≤ sl) (gbl : n0 ≤ bl) :
    MetFree l Y15 (head1 (Jvm.Cond.code Y15 prog_57_method_6_code 5 (some .boolean) :: ws) ({ frames := 5, cells := 3, slots := 65549, locals := 77 } : Room)) (fun A_ U => A_ = #[(.ref t), (.ref a)] ∧ Z.Warmed39 U.vm ∧ U.heap = h0) (fun _ _ _ _ _ => True) (fun _ U o_ U' => ∃ v_ L_, o_ = .returned v_ ∧ Q_add0 Z t a b k sl ks en ken bl kbl aU cs h0 n0 v_ U'.heap L_ ∧ FrameEnd U o_ U' L_ ({ frames := 5, cells := 3, slots := 65549, locals := 77 } : Room).cells ({ frames := 5, cells := 3, slots := 65549, locals := 77 } : Room).slots) := by
  refine MetFree.of_bodySF (plainFor_of_name pn_2) hisR ?_
  intro p e s m args below meth c s₁ Bd hml0 hP hK
  obtain ⟨rfl, hZ, hh⟩ := hP
  have hx := Bd.exec
  have hby := Bd.bytes
  have hml : c.maxLocals = 5 := hml0
  have hown : s.vm.findClass S1 = some m.cls := findClass_of_methodNamed Bd.named
  have hnm := (name_of_methodNamed Bd.named Bd.method).1
  have hret := Bd.returns
  have X0 : Stand p l e ({ frames := 5, cells := 3, slots := 65549, locals := 77 } : Room) s m #[(.ref t), (.ref a)] below meth c s₁ [] 0 0 := Stand.of_body Bd
  have e0 : s₁.heap = h0 := by rw [← hh, Bd.state]; rfl
  have N0 := Fr.nil n0
  have pre0 : ∀ t_, Sp p e below s₁ (mkF m 0 #[.val (.ref t), .val (.ref a), .unset, .unset, .unset] []) t_ → Sp p e below s₁ (entryFrame m #[(.ref t), (.ref a)] 5) t_ := fun t_ k_ => castTop (ef_7_RR m t a) k_
  obtain ⟨S_U8, S_IN, S_CS, H_CS⟩ := SS
  have F1 := S_U8.ext O0.2
  obtain ⟨Tg2, Xg2, eg2, stg2⟩ := getS2 X0 hx hZ hown (host := "") (Or.inl (tw hw 50 rfl)) Via.refl e0 F1 (g := (mkF m 1 #[.val (.ref t), .val (.ref a), .unset, .unset, .unset] [(.ref a)])) rfl (hb hby d7_1)
  obtain ⟨cqk3, kqk3, qk3a, qk3b, qk3c⟩ := isOf hZ eg2 f13
  obtain ⟨_, _, ⟨Tk3, Lk3, kk3, nk3⟩, -, Xk3, ⟨Lck3, hQk3, lk3, yk3, zk3⟩, stk3⟩ := Xg2.virtualBack hx (y := Y5) (z := Y5) hown (mvT hZ (tw hw 52 rfl)) (mvT hZ (tw hw 53 rfl)) (notFace_of_selects (args := #[]) (mvT hZ (tw hw 55 rfl))) (mvT hZ (tw hw 55 rfl)) (mvT hZ (tw hw 54 rfl)) (by decide) (backOf (W := 0) (rm_getbytes l Z a0 hw [] a b k (97 : Int32) aU cs h0 n0 Z0 O0 f13 f14 f15 f16 f17 ⟨S_U8, S_IN, S_CS, H_CS⟩ (by decide)) hZ (tw hw 56 rfl) (tw hw 38 rfl) (by decide) (by decide)) qk3a qk3c (g := (mkF m 4 #[.val (.ref t), .val (.ref a), .unset, .unset, .unset] [(.ref aU), (.ref a)])) rfl (by rw [hml]; rfl) (Steps.refl _) (argsL := [(.ref aU)]) (rest := []) (lenOf pd__Ljava_nio_charset_Charset___B rfl) rfl (by show 2 * 0 + _ ≤ _; exact Nat.le_of_eq rfl) (hb hby d7_4) (fun _ _ => ⟨rfl, eg2, (by decide : 0 + 1 ≤ _), (by decide : 0 + 1 ≤ _)⟩)
  dsimp only [Pt.U, Pt.locs, Pt.cells, Pt.slots] at Xk3 lk3 yk3 zk3 stk3 hQk3
  subst lk3 yk3 zk3
  obtain ⟨dk3, rfl, Nk3q, Kk3q, Gk3_0, Qk3_0, Qk3_1⟩ := hQk3
  have g_dk3 : n0 ≤ dk3 := Nat.le_trans Z0 Gk3_0
  have y_dk3 : h0.size ≤ dk3 := Nat.le_trans (Nat.le_refl h0.size) Gk3_0
  have K4 : Keep h0 Tk3.heap [t, sl, bl] := (Keep.refl h0 [t, sl, bl]).trans Kk3q all0
  have Nk3 := Fr.app N0 Nk3q
  have Z5 : n0 ≤ Tk3.heap.size := (Nat.le_trans Z0 Kk3q.1)
  have O6 : Old Z n0 Tk3.heap := (O0.keep Kk3q all0)
  obtain ⟨_, _, ⟨Tk7, Lk7, kk7, nk7⟩, -, Xk7, ⟨Lck7, hQk7, lk7, yk7, zk7⟩, stk7⟩ := Jvm.LawKit.callS Xk3 hx (y := Y6) hown (mvT hZ (tw hw 89 rfl)) (mvT hZ (tw hw 90 rfl)) (mvT hZ (tw hw 3 rfl)) (mvT hZ (tw hw 91 rfl)) (by decide) (backOf (W := 0) (rm_hash l Z a0 hw [] dk3 k (97 : Int32) (421110349 : Int32)  Tk3.heap n0 Z5 O6 Qk3_0 own_hash0) hZ (tw hw 91 rfl) (tw hw 3 rfl) (by decide) (by decide)) (g := (mkF m 9 #[.val (.ref t), .val (.ref a), .val (.ref dk3), .unset, .unset] [(.ref dk3)])) rfl (by rw [hml]; rfl) (argsL := [(.ref dk3)]) (rest := []) (lenOf pd___B_I rfl) rfl (by show 2 * 0 + _ ≤ _; exact Nat.le_of_eq rfl) (hb hby d7_9) (fun _ _ => ⟨rfl, rfl, (by decide : 1 + 0 ≤ _), (by decide : 1 + 0 ≤ _)⟩)
  dsimp only [Pt.U, Pt.locs, Pt.cells, Pt.slots] at Xk7 lk7 yk7 zk7 stk7 hQk7
  subst lk7 yk7 zk7
  obtain ⟨rfl, Nk7q, ek7⟩ := hQk7
  have Nk7 := Fr.app Nk3 Nk7q
  have F8 := (f1.keep Kk3q nin0)
  have F9 := (f6.keep Kk3q nin0)
  have F11 := (f0.keep Kk3q)
  obtain ⟨cqk10, qk10, qk10'⟩ := F11.cell
  obtain ⟨_, _, ⟨Tk10, Lk10, kk10, nk10⟩, -, Xk10, ⟨Lck10, hQk10, lk10, yk10, zk10⟩, stk10⟩ := Xk7.privateBack hx (y := Y7) hown (mvT hZ (tw hw 95 rfl)) (mvT hZ (tw hw 96 rfl)) (own_selp (mvT hZ (tw hw 27 rfl)) rfl (Cond.privateMethod_at (mvP hZ (tw hw 97 rfl) (args := #[]))) (mvT hZ (tw hw 96 rfl)) (by decide)) (Cond.privateMethod_at (mvP hZ (tw hw 97 rfl) (args := #[]))) (mvT hZ (tw hw 98 rfl)) (by decide) (backOf (W := 0) (rm_find0 l Z a0 hw [] t dk3 sl ks  Tk3.heap n0 Z5 O6 F8 F9) hZ (tw hw 98 rfl) (tw hw 3 rfl) (by decide) (by decide)) (g := (mkF m 16 #[.val (.ref t), .val (.ref a), .val (.ref dk3), .val (.int (421110349 : Int32)), .unset] [(.int (421110349 : Int32)), (.ref dk3), (.ref t)])) rfl (by rw [hml]; rfl) (Steps.refl _) (a := t) (own_eq ek7 qk10) qk10' (argsL := [(.ref dk3), (.int (421110349 : Int32))]) (rest := []) (lenOf pd___BI_I rfl) rfl (by show 2 * 0 + _ ≤ _; exact Nat.le_of_eq rfl) (hb hby d7_16) (fun _ _ => ⟨rfl, ek7, (by decide : 1 + 0 ≤ _), (by decide : 1 + 0 ≤ _)⟩)
  dsimp only [Pt.U, Pt.locs, Pt.cells, Pt.slots] at Xk10 lk10 yk10 zk10 stk10 hQk10
  subst lk10 yk10 zk10
  obtain ⟨rfl, Nk10q, ek10⟩ := hQk10
  have Nk10 := Fr.app Nk7 Nk10q
  obtain ⟨Tf12, Xf12, ef12, stf12⟩ := getF Xk10 hx hZ hown (host := "") (Or.inl (tw hw 11 rfl)) Via.refl ek10 F8 (g := (mkF m 22 #[.val (.ref t), .val (.ref a), .val (.ref dk3), .val (.int (421110349 : Int32)), .val (.int (13 : Int32))] [(.ref t)])) rfl rfl (hb hby d7_22)
  obtain ⟨clv13, Arv13, qv13, Sv13, Nv13, Hv13, Gv13⟩ := id F9
  have in14 : ¬ ((13 : Int32) < 0 ∨ clv13.slots.size ≤ ((13 : Int32)).toNatClampNeg) := inb_of Sv13 ⟨by decide, by decide⟩
  have atin14 : clv13.slots[((13 : Int32)).toNatClampNeg]? = some (.long (0 : Int64)) := Has.at Hv13 in14 rfl
  have F15 := (f5.keep Kk3q nin0)
  obtain ⟨Tf16, Xf16, ef16, stf16⟩ := getF Xf12 hx hZ hown (host := "") (Or.inl (tw hw 29 rfl)) Via.refl ef12 F15 (g := (mkF m 36 #[.val (.ref t), .val (.ref a), .val (.ref dk3), .val (.int (421110349 : Int32)), .val (.int (13 : Int32))] [(.ref t)])) rfl rfl (hb hby d7_36)
  obtain ⟨Tf17, Xf17, ef17, stf17⟩ := getF Xf16 hx hZ hown (host := "") (Or.inl (tw hw 11 rfl)) Via.refl ef16 F8 (g := (mkF m 42 #[.val (.ref t), .val (.ref a), .val (.ref dk3), .val (.int (421110349 : Int32)), .val (.int (13 : Int32))] [(.ref t), (.int (1 : Int32))])) rfl rfl (hb hby d7_42)
  have F18 := (f4.keep Kk3q nin0)
  have F19 := (f3.keep Kk3q nin0)
  have F20 := (f2.keep Kk3q nin0)
  have F21 := (f10.keep Kk3q nin0)
  have F22 := f12
  have F24 := (f11.keep Kk3q)
  have ne23 : t ≠ bl := ne_exa F11 F24 (by decide)
  have ne25 : dk3 ≠ bl := ne_exa Qk3_1 F24 (by decide)
  obtain ⟨cqk26, qk26, qk26'⟩ := F11.cell
  obtain ⟨_, _, ⟨Tk26, Lk26, kk26, nk26⟩, -, Xk26, ⟨Lck26, hQk26, lk26, yk26, zk26⟩, stk26⟩ := Xf17.privateBack hx (y := Y10) hown (mvT hZ (tw hw 99 rfl)) (mvT hZ (tw hw 100 rfl)) (own_selp (mvT hZ (tw hw 27 rfl)) rfl (Cond.privateMethod_at (mvP hZ (tw hw 101 rfl) (args := #[]))) (mvT hZ (tw hw 100 rfl)) (by decide)) (Cond.privateMethod_at (mvP hZ (tw hw 101 rfl) (args := #[]))) (mvT hZ (tw hw 102 rfl)) (by decide) (backOf (W := 0) (rm_store0 l Z a0 hw [] t dk3 k bl kbl sl en  Tk3.heap n0 Z5 O6 F11 F18 F19 Qk3_0 F15 F8 F20 F21 F22 gt gbl ne23 ne25) hZ (tw hw 102 rfl) (tw hw 3 rfl) (by decide) (by decide)) (g := (mkF m 67 #[.val (.ref t), .val (.ref a), .val (.ref dk3), .val (.int (421110349 : Int32)), .val (.int (13 : Int32))] [(.ref dk3), (.ref t)])) rfl (by rw [hml]; rfl) (Steps.refl _) (a := t) (own_eq ef17 qk26) qk26' (argsL := [(.ref dk3)]) (rest := []) (lenOf pd___B_V rfl) rfl (by show 2 * 0 + _ ≤ _; exact Nat.le_of_eq rfl) (hb hby d7_67) (fun _ _ => ⟨rfl, ef17, (by decide : 1 + 1 ≤ _), (by decide : 1 + 65536 ≤ _)⟩)
  dsimp only [Pt.U, Pt.locs, Pt.cells, Pt.slots] at Xk26 lk26 yk26 zk26 stk26 hQk26
  subst lk26 yk26 zk26
  obtain ⟨bkk26, kbkk26, rfl, Nk26q, Kk26q, Gk26_0, Qk26_0, Qk26_1, Qk26_2, Qk26_3, Qk26_4, Qk26_5, Qk26_6, Qk26_7⟩ := hQk26
  have Y27 : h0.size ≤ Tk3.heap.size := (Nat.le_trans (Nat.le_refl h0.size) Kk3q.1)
  have g_bkk26 : n0 ≤ bkk26 := Nat.le_trans Z5 Gk26_0
  have y_bkk26 : h0.size ≤ bkk26 := Nat.le_trans Y27 Gk26_0
  have K28 : Keep h0 Tk26.heap [t, sl, bl] := K4.trans Kk26q (allS (P := fun x => x ∈ [t, sl, bl] ∨ h0.size ≤ x) (Or.inl (List.mem_of_getElem? (i := 0) rfl)) (allS (P := fun x => x ∈ [t, sl, bl] ∨ h0.size ≤ x) (Or.inl (List.mem_of_getElem? (i := 2) rfl)) all0))
  have Nk26 := Fr.app Nk10 Nk26q
  obtain ⟨Tf29, Xf29, ef29, stf29⟩ := getF Xk26 hx hZ hown (host := "") (Or.inl (tw hw 11 rfl)) Via.refl rfl Qk26_3 (g := (mkF m 71 #[.val (.ref t), .val (.ref a), .val (.ref dk3), .val (.int (421110349 : Int32)), .val (.int (13 : Int32))] [(.ref t)])) rfl rfl (hb hby d7_71)
  obtain ⟨Tf30, Xf30, ef30, stf30⟩ := getF Xf29 hx hZ hown (host := "") (Or.inl (tw hw 29 rfl)) Via.refl ef29 Qk26_2 (g := (mkF m 82 #[.val (.ref t), .val (.ref a), .val (.ref dk3), .val (.int (421110349 : Int32)), .val (.int (13 : Int32))] [(.ref t), (.long (1808655176962146304 : Int64)), (.int (13 : Int32)), (.ref sl)])) rfl rfl (hb hby d7_82)
  have F32 := ((f7.keep Kk3q).keep Kk26q)
  have F33 := (F24.keep Kk26q)
  have ne31 : sl ≠ bl := ne_exa F32 F33 (by decide)
  have F35 := (F11.keep Kk26q)
  have ne34 : sl ≠ t := ne_exa F32 F35 (by decide)
  have F36 := (F9.keep Kk26q (ninS ne34 (ninS ne31 nin0)))
  obtain ⟨clv37, Arv37, qv37, Sv37, Nv37, Hv37, Gv37⟩ := id F36
  have in38 : ¬ ((13 : Int32) < 0 ∨ clv37.slots.size ≤ ((13 : Int32)).toNatClampNeg) := inb_of Sv37 ⟨by decide, by decide⟩
  obtain ⟨Tw39, hw39, Xw39, ew39, Ww39, stw39⟩ := stJ Xf30 hx hZ ef30 Arv37 (j := (13 : Int32)) in38 (g := (mkF m 89 #[.val (.ref t), .val (.ref a), .val (.ref dk3), .val (.int (421110349 : Int32)), .val (.int (13 : Int32))] [(.long (1808655176962146305 : Int64)), (.int (13 : Int32)), (.ref sl)])) rfl rfl (hb hby d7_89)
  have Vw39 : Arv Z hw39 sl ks .long (16 : Int32) [(.long (0 : Int64)), (.long (0 : Int64)), (.long (0 : Int64)), (.long (0 : Int64)), (.long (0 : Int64)), (.long (0 : Int64)), (.long (0 : Int64)), (.long (0 : Int64)), (.long (0 : Int64)), (.long (0 : Int64)), (.long (0 : Int64)), (.long (0 : Int64)), (.long (0 : Int64)), (.long (1808655176962146305 : Int64)), (.long (0 : Int64)), (.long (0 : Int64))] (.long (0 : Int64)) := Arv.set Arv37 qv37 Sv37 Nv37 Hv37 Gv37 rfl Ww39 13 rfl (Nat.le_of_ble_eq_true rfl)
  have Nw39 := Fr.snoc Xw39 Nk26 gsl
  have K40 : Keep h0 hw39 [t, sl, bl] := K28.wr Ww39 (Or.inl (List.mem_of_getElem? (i := 1) rfl))
  have F41 := (Qk26_2.other Ww39 (Or.inl (Ne.symm ne34)))
  obtain ⟨Tf42, Xf42, ef42, stf42⟩ := getF Xw39 hx hZ hown (host := "") (Or.inl (tw hw 29 rfl)) Via.refl ew39 F41 (g := (mkF m 92 #[.val (.ref t), .val (.ref a), .val (.ref dk3), .val (.int (421110349 : Int32)), .val (.int (13 : Int32))] [(.ref t), (.ref t)])) rfl rfl (hb hby d7_92)
  have F43 := (F35.wr Ww39)
  obtain ⟨Tp44, hp44, Xp44, ep44, Wp44, stp44⟩ := putF Xf42 hx hZ hown (host := "") (Or.inl (tw hw 29 rfl)) Via.refl ef42 F41 F43 (Or.inl (tw hw 30 rfl)) (tw hw 2 rfl) (ty := .int) (by decide) rfl rfl (g := (mkF m 97 #[.val (.ref t), .val (.ref a), .val (.ref dk3), .val (.int (421110349 : Int32)), .val (.int (13 : Int32))] [(.int (1 : Int32)), (.ref t)])) rfl rfl (hb hby d7_97)
  have Fwp44 : Fld Z hp44 t S1 "size" "I" (.int (1 : Int32)) := F41.same Wp44
  have Np44 := Fr.snoc Xp44 Nw39 gt
  have K45 : Keep h0 hp44 [t, sl, bl] := K40.wr Wp44 (Or.inl (List.mem_of_getElem? (i := 0) rfl))
  have F46 := ((Qk26_4.other Ww39 (Or.inl (Ne.symm ne34))).other Wp44 (Or.inr (slot_ne (Or.inl (tw hw 15 rfl)) (Or.inl (tw hw 30 rfl)) (by decide) (t := (.array .int)) (t' := .int) (by decide) (by decide))))
  obtain ⟨Tf47, Xf47, ef47, stf47⟩ := getF Xp44 hx hZ hown (host := "") (Or.inl (tw hw 14 rfl)) Via.refl ep44 F46 (g := (mkF m 103 #[.val (.ref t), .val (.ref a), .val (.ref dk3), .val (.int (421110349 : Int32)), .val (.int (13 : Int32))] [(.ref t), (.ref t), (.ref t)])) rfl rfl (hb hby d7_103)
  have F48 := (F43.wr Wp44)
  have F50 := ((((f9.keep Kk3q).keep Kk26q).wr Ww39).wr Wp44)
  have F51 := ((F33.wr Ww39).wr Wp44)
  have ne49 : en ≠ bl := ne_exa F50 F51 (by decide)
  have ne52 : en ≠ t := ne_exa F50 F48 (by decide)
  have F54 := ((F32.wr Ww39).wr Wp44)
  have ne53 : en ≠ sl := ne_exa F50 F54 (by decide)
  have F55 := ((((f8.keep Kk3q nin0).keep Kk26q (ninS ne52 (ninS ne49 nin0))).other Ww39 ne53).other Wp44 ne52)
  have Z56 : n0 ≤ hp44.size := (Nat.le_trans (Nat.le_trans (Nat.le_trans Z5 Kk26q.1) (Keep.of_wr Ww39).1) (Keep.of_wr Wp44).1)
  have O57 : Old Z n0 hp44 := (((O6.keep Kk26q (allS gt (allS gbl all0))).wr Ww39 gsl).wr Wp44 gt)
  obtain ⟨cqk58, kqk58, qk58a, qk58b, qk58c⟩ := isOf hZ ef47 F48
  obtain ⟨_, _, ⟨Tk58, Lk58, kk58, nk58⟩, -, Xk58, ⟨Lck58, hQk58, lk58, yk58, zk58⟩, stk58⟩ := Xf47.virtualBack hx (y := Y13) (z := Y13) hown (mvT hZ (tw hw 116 rfl)) (mvT hZ (tw hw 25 rfl)) (notFace_of_selects (args := #[]) (mvT hZ (tw hw 27 rfl))) (mvT hZ (tw hw 27 rfl)) (mvT hZ (tw hw 26 rfl)) (by decide) (backOf (W := 1) (rm_fitg l Z a0 hw [] t en ken (0 : Int32) [] (1 : Int32) (1 : Int32)  hp44 n0 Z56 O57 F48 Fwp44 F55 (by decide) (by decide) (by decide) (by decide) (by decide) (by decide) (by decide) (by decide) (by decide)) hZ (tw hw 28 rfl) (tw hw 3 rfl) (by decide) (by decide)) qk58a qk58c (g := (mkF m 106 #[.val (.ref t), .val (.ref a), .val (.ref dk3), .val (.int (421110349 : Int32)), .val (.int (13 : Int32))] [(.ref en), (.ref t), (.ref t)])) rfl (by rw [hml]; rfl) (Steps.refl _) (argsL := [(.ref en)]) (rest := [(.ref t)]) (lenOf pd___I__I rfl) rfl (by show 2 * 0 + _ ≤ _; exact Nat.le_of_eq rfl) (hb hby d7_106) (fun _ _ => ⟨rfl, ef47, (by decide : 2 + 1 ≤ _), (by decide : 65537 + 12 ≤ _)⟩)
  dsimp only [Pt.U, Pt.locs, Pt.cells, Pt.slots] at Xk58 lk58 yk58 zk58 stk58 hQk58
  subst lk58 yk58 zk58
  obtain ⟨bk58, kbk58, rfl, Nk58q, Kk58q, Gk58_0, Qk58_0, Qk58_1⟩ := hQk58
  have Y59 : h0.size ≤ hp44.size := (Nat.le_trans (Nat.le_trans (Nat.le_trans Y27 Kk26q.1) (Keep.of_wr Ww39).1) (Keep.of_wr Wp44).1)
  have g_bk58 : n0 ≤ bk58 := Nat.le_trans Z56 Gk58_0
  have y_bk58 : h0.size ≤ bk58 := Nat.le_trans Y59 Gk58_0
  have K60 : Keep h0 Tk58.heap [t, sl, bl] := K45.trans Kk58q all0
  have vp61 : Arv Z Tk58.heap bk58 kbk58 .int (1 : Int32) [(.int (0 : Int32))] (.int (0 : Int32)) := Qk58_0.pad (pad_rep [] (.int (0 : Int32)) 1)
  have Nk58 := Fr.app Np44 Nk58q
  have F62 := (F46.keep Kk58q nin0)
  have F63 := (F48.keep Kk58q)
  obtain ⟨Tp64, hp64, Xp64, ep64, Wp64, stp64⟩ := putF Xk58 hx hZ hown (host := "") (Or.inl (tw hw 14 rfl)) Via.refl rfl F62 F63 (Or.inl (tw hw 15 rfl)) (tw hw 2 rfl) (ty := (.array .int)) (by decide) rfl rfl (g := (mkF m 109 #[.val (.ref t), .val (.ref a), .val (.ref dk3), .val (.int (421110349 : Int32)), .val (.int (13 : Int32))] [(.ref bk58), (.ref t)])) rfl rfl (hb hby d7_109)
  have Fwp64 : Fld Z hp64 t S1 "ends" "[I" (.ref bk58) := F62.same Wp64
  have Np64 := Fr.snoc Xp64 Nk58 gt
  have K65 : Keep h0 hp64 [t, sl, bl] := K60.wr Wp64 (Or.inl (List.mem_of_getElem? (i := 0) rfl))
  obtain ⟨Tf66, Xf66, ef66, stf66⟩ := getF Xp64 hx hZ hown (host := "") (Or.inl (tw hw 14 rfl)) Via.refl ep64 Fwp64 (g := (mkF m 113 #[.val (.ref t), .val (.ref a), .val (.ref dk3), .val (.int (421110349 : Int32)), .val (.int (13 : Int32))] [(.ref t)])) rfl rfl (hb hby d7_113)
  have F67 := ((Fwp44.keep Kk58q nin0).other Wp64 (Or.inr (slot_ne (Or.inl (tw hw 30 rfl)) (Or.inl (tw hw 15 rfl)) (by decide) (t := .int) (t' := (.array .int)) (by decide) (by decide))))
  obtain ⟨Tf68, Xf68, ef68, stf68⟩ := getF Xf66 hx hZ hown (host := "") (Or.inl (tw hw 29 rfl)) Via.refl ef66 F67 (g := (mkF m 117 #[.val (.ref t), .val (.ref a), .val (.ref dk3), .val (.int (421110349 : Int32)), .val (.int (13 : Int32))] [(.ref t), (.ref bk58)])) rfl rfl (hb hby d7_117)
  have F69 := ((((Qk26_0.other Ww39 (Or.inl (Ne.symm ne34))).other Wp44 (Or.inr (slot_ne (Or.inl (tw hw 105 rfl)) (Or.inl (tw hw 30 rfl)) (by decide) (t := .int) (t' := .int) (by decide) (by decide)))).keep Kk58q nin0).other Wp64 (Or.inr (slot_ne (Or.inl (tw hw 105 rfl)) (Or.inl (tw hw 15 rfl)) (by decide) (t := .int) (t' := (.array .int)) (by decide) (by decide))))
  obtain ⟨Tf70, Xf70, ef70, stf70⟩ := getF Xf68 hx hZ hown (host := "") (Or.inl (tw hw 104 rfl)) Via.refl ef68 F69 (g := (mkF m 123 #[.val (.ref t), .val (.ref a), .val (.ref dk3), .val (.int (421110349 : Int32)), .val (.int (13 : Int32))] [(.ref t), (.int (0 : Int32)), (.ref bk58)])) rfl rfl (hb hby d7_123)
  have F72 := (Qk58_1.wr Wp64)
  have F73 := (F63.wr Wp64)
  have ne71 : bk58 ≠ t := ne_exa F72 F73 (by decide)
  have F74 := (vp61.other Wp64 ne71)
  obtain ⟨clv75, Arv75, qv75, Sv75, Nv75, Hv75, Gv75⟩ := id F74
  have in76 : ¬ ((0 : Int32) < 0 ∨ clv75.slots.size ≤ ((0 : Int32)).toNatClampNeg) := inb_of Sv75 ⟨by decide, by decide⟩
  obtain ⟨Tw77, hw77, Xw77, ew77, Ww77, stw77⟩ := stI Xf70 hx hZ ef70 Arv75 (j := (0 : Int32)) in76 (g := (mkF m 126 #[.val (.ref t), .val (.ref a), .val (.ref dk3), .val (.int (421110349 : Int32)), .val (.int (13 : Int32))] [(.int (1 : Int32)), (.int (0 : Int32)), (.ref bk58)])) rfl rfl (hb hby d7_126)
  have Vw77 : Arv Z hw77 bk58 kbk58 .int (1 : Int32) [(.int (1 : Int32))] (.int (0 : Int32)) := Arv.set Arv75 qv75 Sv75 Nv75 Hv75 Gv75 rfl Ww77 0 rfl (Nat.le_of_ble_eq_true rfl)
  have Nw77 := Fr.snoc Xw77 Np64 g_bk58
  have K78 : Keep h0 hw77 [t, sl, bl] := K65.wr Ww77 (Or.inr y_bk58)
  have F79 := (((((Qk26_3.other Ww39 (Or.inl (Ne.symm ne34))).other Wp44 (Or.inr (slot_ne (Or.inl (tw hw 12 rfl)) (Or.inl (tw hw 30 rfl)) (by decide) (t := (.array .long)) (t' := .int) (by decide) (by decide)))).keep Kk58q nin0).other Wp64 (Or.inr (slot_ne (Or.inl (tw hw 12 rfl)) (Or.inl (tw hw 15 rfl)) (by decide) (t := (.array .long)) (t' := (.array .int)) (by decide) (by decide)))).other Ww77 (Or.inl (Ne.symm ne71)))
  have F80 := (Fwp64.other Ww77 (Or.inl (Ne.symm ne71)))
  have F81 := (((((Qk26_1.other Ww39 (Or.inl (Ne.symm ne34))).other Wp44 (Or.inr (slot_ne (Or.inl (tw hw 19 rfl)) (Or.inl (tw hw 30 rfl)) (by decide) (t := (.array (.array .byte))) (t' := .int) (by decide) (by decide)))).keep Kk58q nin0).other Wp64 (Or.inr (slot_ne (Or.inl (tw hw 19 rfl)) (Or.inl (tw hw 15 rfl)) (by decide) (t := (.array (.array .byte))) (t' := (.array .int)) (by decide) (by decide)))).other Ww77 (Or.inl (Ne.symm ne71)))
  have F82 := (F69.other Ww77 (Or.inl (Ne.symm ne71)))
  have F83 := (F67.other Ww77 (Or.inl (Ne.symm ne71)))
  have F85 := (((F54.keep Kk58q).wr Wp64).wr Ww77)
  have F86 := (F72.wr Ww77)
  have ne84 : sl ≠ bk58 := ne_exa F85 F86 (by decide)
  have F87 := ((((Vw39.other Wp44 ne34).keep Kk58q nin0).other Wp64 ne34).other Ww77 ne84)
  have F89 := (((F51.keep Kk58q).wr Wp64).wr Ww77)
  have ne88 : bl ≠ bk58 := ne_exa F89 F86 (by decide)
  have F90 := (((((Qk26_5.other Ww39 (Ne.symm ne31)).other Wp44 (Ne.symm ne23)).keep Kk58q nin0).other Wp64 (Ne.symm ne23)).other Ww77 ne88)
  have F92 := (((((Qk26_7.wr Ww39).wr Wp44).keep Kk58q).wr Wp64).wr Ww77)
  have ne91 : bkk26 ≠ sl := ne_exa F92 F85 (by decide)
  have F94 := (F73.wr Ww77)
  have ne93 : bkk26 ≠ t := ne_exa F92 F94 (by decide)
  have ne95 : bkk26 ≠ bk58 := ne_exa F92 F86 (by decide)
  have F96 := (((((Qk26_6.other Ww39 ne91).other Wp44 ne93).keep Kk58q nin0).other Wp64 ne93).other Ww77 ne95)
  obtain ⟨fs, hlv, hrun, hended, hW, hsame⟩ := Xw77.leave (v := some (.int (1 : Int32))) (fun h => by rw [hret] at h; cases h)
  refine ⟨_, _, pre0 _ ?_, hrun, hended, _, _, rfl, ?_, ⟨_, rfl⟩, hW, hsame.mono (by decide) (by decide)⟩
  · refine XS.aloadN X0.here hx rfl (hb hby d7_0) rfl rfl ?_
    show Sp p e below s₁ (mkF m 1 #[.val (.ref t), .val (.ref a), .unset, .unset, .unset] [(.ref a)]) _
    refine stg2 _ ?_
    refine stk3.trans ?_
    refine XS.astoreN Xk3.here hx rfl (hb hby d7_7) rfl rfl (l' := #[.val (.ref t), .val (.ref a), .val (.ref dk3), .unset, .unset]) rfl ?_
    refine XS.aloadN Xk3.here hx rfl (hb hby d7_8) rfl rfl ?_
    refine stk7 _ ?_
    refine XS.istoreN Xk7.here hx rfl (hb hby d7_12) rfl (l' := #[.val (.ref t), .val (.ref a), .val (.ref dk3), .val (.int (421110349 : Int32)), .unset]) rfl ?_
    refine XS.aloadN Xk7.here hx rfl (hb hby d7_13) rfl rfl ?_
    refine XS.aloadN Xk7.here hx rfl (hb hby d7_14) rfl rfl ?_
    refine XS.iloadN Xk7.here hx rfl (hb hby d7_15) rfl ?_
    refine stk10.trans ?_
    refine XS.istore Xk10.here hx rfl (hb hby d7_19) rfl (l' := #[.val (.ref t), .val (.ref a), .val (.ref dk3), .val (.int (421110349 : Int32)), .val (.int (13 : Int32))]) rfl ?_
    refine XS.aloadN Xk10.here hx rfl (hb hby d7_21) rfl rfl ?_
    refine stf12 _ ?_
    refine XS.iload Xf12.here hx rfl (hb hby d7_25) rfl ?_
    show Sp p e below Tf12 (mkF m 27 #[.val (.ref t), .val (.ref a), .val (.ref dk3), .val (.int (421110349 : Int32)), .val (.int (13 : Int32))] [(.int (13 : Int32)), (.ref sl)]) _
    refine Xf12.laload hx (j := (13 : Int32)) (v := (.long (0 : Int64))) (own_eq ef12 Arv13.1) (State.isArrayOf_alike hZ.alike Arv13.2.1) Arv13.2.2 in14 atin14 (g := (mkF m 27 #[.val (.ref t), .val (.ref a), .val (.ref dk3), .val (.int (421110349 : Int32)), .val (.int (13 : Int32))] [(.int (13 : Int32)), (.ref sl)])) rfl rfl (hb hby d7_27) _ ?_
    show Sp p e below Tf12 (mkF m 28 #[.val (.ref t), .val (.ref a), .val (.ref dk3), .val (.int (421110349 : Int32)), .val (.int (13 : Int32))] [(.long (0 : Int64))]) _
    refine XS.lconst Xf12.here hx rfl (hb hby d7_28) ?_
    refine XS.lcmp Xf12.here hx rfl (hb hby d7_29) rfl ?_
    refine XS.ifYes Xf12.here hx rfl (pc0 := 30) (pc' := 35) rfl (hb hby d7_30) rfl ((if0 _ _).trans (teq (by decide : (0 : Int32) = (0 : Int32))).1) (by decide) (by decide) ?_
    refine XS.aloadN Xf12.here hx rfl (hb hby d7_35) rfl rfl ?_
    refine stf16 _ ?_
    refine XS.iconst Xf16.here hx rfl (hb hby d7_39) ?_
    refine XS.iadd Xf16.here hx rfl (hb hby d7_40) rfl ?_
    refine XS.aloadN Xf16.here hx rfl (hb hby d7_41) rfl rfl ?_
    refine stf17 _ ?_
    show Sp p e below Tf17 (mkF m 45 #[.val (.ref t), .val (.ref a), .val (.ref dk3), .val (.int (421110349 : Int32)), .val (.int (13 : Int32))] [(.ref sl), (.int (1 : Int32))]) _
    refine Xf17.arraylength hx (own_eq ef17 Arv13.1) (State.isArrayOf_alike hZ.alike Arv13.2.1) (g := (mkF m 45 #[.val (.ref t), .val (.ref a), .val (.ref dk3), .val (.int (421110349 : Int32)), .val (.int (13 : Int32))] [(.ref sl), (.int (1 : Int32))])) rfl rfl (hb hby d7_45) _ ?_
    rw [len_of Sv13 Nv13]
    show Sp p e below Tf17 (mkF m 46 #[.val (.ref t), .val (.ref a), .val (.ref dk3), .val (.int (421110349 : Int32)), .val (.int (13 : Int32))] [(.int (16 : Int32)), (.int (1 : Int32))]) _
    refine XS.iconst Xf17.here hx rfl (hb hby d7_46) ?_
    refine XS.idiv Xf17.here hx rfl (hb hby d7_47) rfl (by decide) ?_
    refine XS.iconst Xf17.here hx rfl (hb hby d7_48) ?_
    refine XS.imul Xf17.here hx rfl (hb hby d7_49) rfl ?_
    refine XS.icmpYes Xf17.here hx rfl (pc0 := 50) (pc' := 65) rfl (hb hby d7_50) rfl (flt (by decide : ¬ ((12 : Int32) < (1 : Int32)))).2.2.2 (by decide) (by decide) ?_
    refine XS.aloadN Xf17.here hx rfl (hb hby d7_65) rfl rfl ?_
    refine XS.aloadN Xf17.here hx rfl (hb hby d7_66) rfl rfl ?_
    refine stk26.trans ?_
    refine XS.aloadN Xk26.here hx rfl (hb hby d7_70) rfl rfl ?_
    refine stf29 _ ?_
    refine XS.iload Xf29.here hx rfl (hb hby d7_74) rfl ?_
    refine XS.iloadN Xf29.here hx rfl (hb hby d7_76) rfl ?_
    refine XS.i2l Xf29.here hx rfl (hb hby d7_77) rfl ?_
    refine XS.bipush Xf29.here hx rfl (hb hby d7_78) ?_
    refine XS.lshl Xf29.here hx rfl (hb hby d7_80) rfl ?_
    refine XS.aloadN Xf29.here hx rfl (hb hby d7_81) rfl rfl ?_
    refine stf30 _ ?_
    refine XS.i2l Xf30.here hx rfl (hb hby d7_85) rfl ?_
    refine XS.lconst Xf30.here hx rfl (hb hby d7_86) ?_
    refine XS.ladd Xf30.here hx rfl (hb hby d7_87) rfl ?_
    refine XS.lor Xf30.here hx rfl (hb hby d7_88) rfl ?_
    show Sp p e below Tf30 (mkF m 89 #[.val (.ref t), .val (.ref a), .val (.ref dk3), .val (.int (421110349 : Int32)), .val (.int (13 : Int32))] [(.long (1808655176962146305 : Int64)), (.int (13 : Int32)), (.ref sl)]) _
    refine stw39 _ ?_
    refine XS.aloadN Xw39.here hx rfl (hb hby d7_90) rfl rfl ?_
    refine XS.dup Xw39.here hx rfl (hb hby d7_91) rfl rfl ?_
    refine stf42 _ ?_
    refine XS.iconst Xf42.here hx rfl (hb hby d7_95) ?_
    refine XS.iadd Xf42.here hx rfl (hb hby d7_96) rfl ?_
    refine stp44 _ ?_
    refine XS.aloadN Xp44.here hx rfl (hb hby d7_100) rfl rfl ?_
    refine XS.aloadN Xp44.here hx rfl (hb hby d7_101) rfl rfl ?_
    refine XS.aloadN Xp44.here hx rfl (hb hby d7_102) rfl rfl ?_
    refine stf47 _ ?_
    refine stk58.trans ?_
    refine stp64 _ ?_
    refine XS.aloadN Xp64.here hx rfl (hb hby d7_112) rfl rfl ?_
    refine stf66 _ ?_
    refine XS.aloadN Xf66.here hx rfl (hb hby d7_116) rfl rfl ?_
    refine stf68 _ ?_
    refine XS.iconst Xf68.here hx rfl (hb hby d7_120) ?_
    refine XS.isub Xf68.here hx rfl (hb hby d7_121) rfl ?_
    refine XS.aloadN Xf68.here hx rfl (hb hby d7_122) rfl rfl ?_
    refine stf70 _ ?_
    show Sp p e below Tf70 (mkF m 126 #[.val (.ref t), .val (.ref a), .val (.ref dk3), .val (.int (421110349 : Int32)), .val (.int (13 : Int32))] [(.int (1 : Int32)), (.int (0 : Int32)), (.ref bk58)]) _
    refine stw77 _ ?_
    refine XS.iconst Xw77.here hx rfl (hb hby d7_127) ?_
    show Sp p e below Tw77 (mkF m 128 #[.val (.ref t), .val (.ref a), .val (.ref dk3), .val (.int (421110349 : Int32)), .val (.int (13 : Int32))] [(.int (1 : Int32))]) _
    exact retN Xw77 hx (t := .boolean) hret (by simp) (hb hby d7_128) hlv
  · show Q_add0 Z t a b k sl ks en ken bl kbl aU cs h0 n0 _ Tw77.heap _
    rw [ew77]
    exact ⟨bk58, kbk58, bkk26, kbkk26, rfl, Nw77, K78, y_bk58, y_bkk26, F79, F80, F81, F82, F83, F87, Vw77, F86, F90, F96, F92⟩
def Q_add1 (Z : State) (t : Addr) (a : Addr) (b : Addr) (k : ClassId) (sl : Addr) (ks : ClassId) (en : Addr) (ken : ClassId) (bl : Addr) (kbl : ClassId) (bk : Addr) (kbk : ClassId) (aU : Addr) (cs : Int32) (h0 : Heap) (n0 : Nat) (v : Option Value) (h : Heap) (L : List Loc) : Prop := ∃ en2 : Addr, ∃ ken2 : ClassId, v = some (.int (1 : Int32)) ∧ Fr n0 L ∧ Keep h0 h [t, sl, bk] ∧ h0.size ≤ en2 ∧ Fld Z h t S1 "slots" "[J" (.ref sl) ∧ Fld Z h t S1 "ends" "[I" (.ref en2) ∧ Fld Z h t S1 "blocks" "[[B" (.ref bl) ∧ Fld Z h t S1 "stored" "I" (.int (2 : Int32)) ∧ Fld Z h t S1 "size" "I" (.int (2 : Int32)) ∧ Arv Z h sl ks .long (16 : Int32) [(.long (0 : Int64)), (.long (0 : Int64)), (.long (0 : Int64)), (.long (0 : Int64)), (.long (0 : Int64)), (.long (0 : Int64)), (.long (0 : Int64)), (.long (0 : Int64)), (.long (0 : Int64)), (.long (0 : Int64)), (.long (0 : Int64)), (.long (0 : Int64)), (.long (-2306841795268444158 : Int64)), (.long (1808655176962146305 : Int64)), (.long (0 : Int64)), (.long (0 : Int64))] (.long (0 : Int64)) ∧ Arv Z h en2 ken2 .int (2 : Int32) [(.int (1 : Int32)), (.int (2 : Int32))] (.int (0 : Int32)) ∧ Exa Z h en2 "[I" ∧ Arv Z h bl kbl (.array .byte) (1 : Int32) [(.ref bk)] .null ∧ Arv Z h bk kbk .byte (65536 : Int32) [(.int (97 : Int32)), (.int (98 : Int32)), (.int (0 : Int32)), (.int (0 : Int32)), (.int (0 : Int32)), (.int (0 : Int32)), (.int (0 : Int32)), (.int (0 : Int32))] (.int (0 : Int32))
set_option maxRecDepth 65536 in
set_option maxHeartbeats 40000000 in
theorem rm_add1 (l : Launch) (Z : State) (a0 : Array Value) (hw : ∀ d ∈ tables_1, d.before a0 Z = true) (ws : List Jvm.Cond) (t : Addr) (a : Addr) (b : Addr) (k : ClassId) (sl : Addr) (ks : ClassId) (en : Addr) (ken : ClassId) (bl : Addr) (kbl : ClassId) (bk : Addr) (kbk : ClassId) (aU : Addr) (cs : Int32) (h0 : Heap) (n0 : Nat) (Z0 : n0 ≤ h0.size) (O0 : Old Z n0 h0) (f0 : Exa Z h0 t S1) (f1 : Fld Z h0 t S1 "slots" "[J" (.ref sl)) (f2 : Fld Z h0 t S1 "ends" "[I" (.ref en)) (f3 : Fld Z h0 t S1 "blocks" "[[B" (.ref bl)) (f4 : Fld Z h0 t S1 "stored" "I" (.int (1 : Int32))) (f5 : Fld Z h0 t S1 "size" "I" (.int (1 : Int32))) (f6 : Arv Z h0 sl ks .long (16 : Int32) [(.long (0 : Int64)), (.long (0 : Int64)), (.long (0 : Int64)), (.long (0 : Int64)), (.long (0 : Int64)), (.long (0 : Int64)), (.long (0 : Int64)), (.long (0 : Int64)), (.long (0 : Int64)), (.long (0 : Int64)), (.long (0 : Int64)), (.long (0 : Int64)), (.long (0 : Int64)), (.long (1808655176962146305 : Int64)), (.long (0 : Int64)), (.long (0 : Int64))] (.long (0 : Int64))) (f7 : Exa Z h0 sl "[J") (f8 : Arv Z h0 en ken .int (1 : Int32) [(.int (1 : Int32))] (.int (0 : Int32))) (f9 : Exa Z h0 en "[I") (f10 : Arv Z h0 bl kbl (.array .byte) (1 : Int32) [(.ref bk)] .null) (f11 : Exa Z h0 bl "[[B") (f12 : Arv Z h0 bk kbk .byte (65536 : Int32) [(.int (97 : Int32)), (.int (0 : Int32)), (.int (0 : Int32)), (.int (0 : Int32)), (.int (0 : Int32)), (.int (0 : Int32)), (.int (0 : Int32)), (.int (0 : Int32))] (.int (0 : Int32))) (f13 : Exa Z h0 bk "[B") (f14 : Exa Z h0 a S0) (f15 : Fld Z h0 a S0 "coder" "B" (.int (0 : Int32))) (f16 : Fld Z h0 a S0 "value" "[B" (.ref b)) (f17 : Arv Z h0 b k .byte (1 : Int32) [(.int (98 : Int32))] (.int (0 : Int32))) (f18 : Exa Z h0 b "[B") (SS : own_start Z aU cs) (gt : n0 ≤ t) (gsl : n0 ≤ sl) (gbk : n0 ≤ bk) :
    MetFree l Y15 (head1 (Jvm.Cond.code Y15 prog_57_method_6_code 5 (some .boolean) :: ws) ({ frames := 5, cells := 2, slots := 13, locals := 77 } : Room)) (fun A_ U => A_ = #[(.ref t), (.ref a)] ∧ Z.Warmed39 U.vm ∧ U.heap = h0) (fun _ _ _ _ _ => True) (fun _ U o_ U' => ∃ v_ L_, o_ = .returned v_ ∧ Q_add1 Z t a b k sl ks en ken bl kbl bk kbk aU cs h0 n0 v_ U'.heap L_ ∧ FrameEnd U o_ U' L_ ({ frames := 5, cells := 2, slots := 13, locals := 77 } : Room).cells ({ frames := 5, cells := 2, slots := 13, locals := 77 } : Room).slots) := by
  refine MetFree.of_bodySF (plainFor_of_name pn_2) hisR ?_
  intro p e s m args below meth c s₁ Bd hml0 hP hK
  obtain ⟨rfl, hZ, hh⟩ := hP
  have hx := Bd.exec
  have hby := Bd.bytes
  have hml : c.maxLocals = 5 := hml0
  have hown : s.vm.findClass S1 = some m.cls := findClass_of_methodNamed Bd.named
  have hnm := (name_of_methodNamed Bd.named Bd.method).1
  have hret := Bd.returns
  have X0 : Stand p l e ({ frames := 5, cells := 2, slots := 13, locals := 77 } : Room) s m #[(.ref t), (.ref a)] below meth c s₁ [] 0 0 := Stand.of_body Bd
  have e0 : s₁.heap = h0 := by rw [← hh, Bd.state]; rfl
  have N0 := Fr.nil n0
  have pre0 : ∀ t_, Sp p e below s₁ (mkF m 0 #[.val (.ref t), .val (.ref a), .unset, .unset, .unset] []) t_ → Sp p e below s₁ (entryFrame m #[(.ref t), (.ref a)] 5) t_ := fun t_ k_ => castTop (ef_7_RR m t a) k_
  obtain ⟨S_U8, S_IN, S_CS, H_CS⟩ := SS
  have F1 := S_U8.ext O0.2
  obtain ⟨Tg2, Xg2, eg2, stg2⟩ := getS2 X0 hx hZ hown (host := "") (Or.inl (tw hw 50 rfl)) Via.refl e0 F1 (g := (mkF m 1 #[.val (.ref t), .val (.ref a), .unset, .unset, .unset] [(.ref a)])) rfl (hb hby d7_1)
  obtain ⟨cqk3, kqk3, qk3a, qk3b, qk3c⟩ := isOf hZ eg2 f14
  obtain ⟨_, _, ⟨Tk3, Lk3, kk3, nk3⟩, -, Xk3, ⟨Lck3, hQk3, lk3, yk3, zk3⟩, stk3⟩ := Xg2.virtualBack hx (y := Y5) (z := Y5) hown (mvT hZ (tw hw 52 rfl)) (mvT hZ (tw hw 53 rfl)) (notFace_of_selects (args := #[]) (mvT hZ (tw hw 55 rfl))) (mvT hZ (tw hw 55 rfl)) (mvT hZ (tw hw 54 rfl)) (by decide) (backOf (W := 0) (rm_getbytes l Z a0 hw [] a b k (98 : Int32) aU cs h0 n0 Z0 O0 f14 f15 f16 f17 f18 ⟨S_U8, S_IN, S_CS, H_CS⟩ (by decide)) hZ (tw hw 56 rfl) (tw hw 38 rfl) (by decide) (by decide)) qk3a qk3c (g := (mkF m 4 #[.val (.ref t), .val (.ref a), .unset, .unset, .unset] [(.ref aU), (.ref a)])) rfl (by rw [hml]; rfl) (Steps.refl _) (argsL := [(.ref aU)]) (rest := []) (lenOf pd__Ljava_nio_charset_Charset___B rfl) rfl (by show 2 * 0 + _ ≤ _; exact Nat.le_of_eq rfl) (hb hby d7_4) (fun _ _ => ⟨rfl, eg2, (by decide : 0 + 1 ≤ _), (by decide : 0 + 1 ≤ _)⟩)
  dsimp only [Pt.U, Pt.locs, Pt.cells, Pt.slots] at Xk3 lk3 yk3 zk3 stk3 hQk3
  subst lk3 yk3 zk3
  obtain ⟨dk3, rfl, Nk3q, Kk3q, Gk3_0, Qk3_0, Qk3_1⟩ := hQk3
  have g_dk3 : n0 ≤ dk3 := Nat.le_trans Z0 Gk3_0
  have y_dk3 : h0.size ≤ dk3 := Nat.le_trans (Nat.le_refl h0.size) Gk3_0
  have K4 : Keep h0 Tk3.heap [t, sl, bk] := (Keep.refl h0 [t, sl, bk]).trans Kk3q all0
  have Nk3 := Fr.app N0 Nk3q
  have Z5 : n0 ≤ Tk3.heap.size := (Nat.le_trans Z0 Kk3q.1)
  have O6 : Old Z n0 Tk3.heap := (O0.keep Kk3q all0)
  obtain ⟨_, _, ⟨Tk7, Lk7, kk7, nk7⟩, -, Xk7, ⟨Lck7, hQk7, lk7, yk7, zk7⟩, stk7⟩ := Jvm.LawKit.callS Xk3 hx (y := Y6) hown (mvT hZ (tw hw 89 rfl)) (mvT hZ (tw hw 90 rfl)) (mvT hZ (tw hw 3 rfl)) (mvT hZ (tw hw 91 rfl)) (by decide) (backOf (W := 0) (rm_hash l Z a0 hw [] dk3 k (98 : Int32) (-537103460 : Int32)  Tk3.heap n0 Z5 O6 Qk3_0 own_hash1) hZ (tw hw 91 rfl) (tw hw 3 rfl) (by decide) (by decide)) (g := (mkF m 9 #[.val (.ref t), .val (.ref a), .val (.ref dk3), .unset, .unset] [(.ref dk3)])) rfl (by rw [hml]; rfl) (argsL := [(.ref dk3)]) (rest := []) (lenOf pd___B_I rfl) rfl (by show 2 * 0 + _ ≤ _; exact Nat.le_of_eq rfl) (hb hby d7_9) (fun _ _ => ⟨rfl, rfl, (by decide : 1 + 0 ≤ _), (by decide : 1 + 0 ≤ _)⟩)
  dsimp only [Pt.U, Pt.locs, Pt.cells, Pt.slots] at Xk7 lk7 yk7 zk7 stk7 hQk7
  subst lk7 yk7 zk7
  obtain ⟨rfl, Nk7q, ek7⟩ := hQk7
  have Nk7 := Fr.app Nk3 Nk7q
  have F8 := (f1.keep Kk3q nin0)
  have F9 := (f6.keep Kk3q nin0)
  have F11 := (f0.keep Kk3q)
  obtain ⟨cqk10, qk10, qk10'⟩ := F11.cell
  obtain ⟨_, _, ⟨Tk10, Lk10, kk10, nk10⟩, -, Xk10, ⟨Lck10, hQk10, lk10, yk10, zk10⟩, stk10⟩ := Xk7.privateBack hx (y := Y7) hown (mvT hZ (tw hw 95 rfl)) (mvT hZ (tw hw 96 rfl)) (own_selp (mvT hZ (tw hw 27 rfl)) rfl (Cond.privateMethod_at (mvP hZ (tw hw 97 rfl) (args := #[]))) (mvT hZ (tw hw 96 rfl)) (by decide)) (Cond.privateMethod_at (mvP hZ (tw hw 97 rfl) (args := #[]))) (mvT hZ (tw hw 98 rfl)) (by decide) (backOf (W := 0) (rm_find1 l Z a0 hw [] t dk3 sl ks  Tk3.heap n0 Z5 O6 F8 F9) hZ (tw hw 98 rfl) (tw hw 3 rfl) (by decide) (by decide)) (g := (mkF m 16 #[.val (.ref t), .val (.ref a), .val (.ref dk3), .val (.int (-537103460 : Int32)), .unset] [(.int (-537103460 : Int32)), (.ref dk3), (.ref t)])) rfl (by rw [hml]; rfl) (Steps.refl _) (a := t) (own_eq ek7 qk10) qk10' (argsL := [(.ref dk3), (.int (-537103460 : Int32))]) (rest := []) (lenOf pd___BI_I rfl) rfl (by show 2 * 0 + _ ≤ _; exact Nat.le_of_eq rfl) (hb hby d7_16) (fun _ _ => ⟨rfl, ek7, (by decide : 1 + 0 ≤ _), (by decide : 1 + 0 ≤ _)⟩)
  dsimp only [Pt.U, Pt.locs, Pt.cells, Pt.slots] at Xk10 lk10 yk10 zk10 stk10 hQk10
  subst lk10 yk10 zk10
  obtain ⟨rfl, Nk10q, ek10⟩ := hQk10
  have Nk10 := Fr.app Nk7 Nk10q
  obtain ⟨Tf12, Xf12, ef12, stf12⟩ := getF Xk10 hx hZ hown (host := "") (Or.inl (tw hw 11 rfl)) Via.refl ek10 F8 (g := (mkF m 22 #[.val (.ref t), .val (.ref a), .val (.ref dk3), .val (.int (-537103460 : Int32)), .val (.int (12 : Int32))] [(.ref t)])) rfl rfl (hb hby d7_22)
  obtain ⟨clv13, Arv13, qv13, Sv13, Nv13, Hv13, Gv13⟩ := id F9
  have in14 : ¬ ((12 : Int32) < 0 ∨ clv13.slots.size ≤ ((12 : Int32)).toNatClampNeg) := inb_of Sv13 ⟨by decide, by decide⟩
  have atin14 : clv13.slots[((12 : Int32)).toNatClampNeg]? = some (.long (0 : Int64)) := Has.at Hv13 in14 rfl
  have F15 := (f5.keep Kk3q nin0)
  obtain ⟨Tf16, Xf16, ef16, stf16⟩ := getF Xf12 hx hZ hown (host := "") (Or.inl (tw hw 29 rfl)) Via.refl ef12 F15 (g := (mkF m 36 #[.val (.ref t), .val (.ref a), .val (.ref dk3), .val (.int (-537103460 : Int32)), .val (.int (12 : Int32))] [(.ref t)])) rfl rfl (hb hby d7_36)
  obtain ⟨Tf17, Xf17, ef17, stf17⟩ := getF Xf16 hx hZ hown (host := "") (Or.inl (tw hw 11 rfl)) Via.refl ef16 F8 (g := (mkF m 42 #[.val (.ref t), .val (.ref a), .val (.ref dk3), .val (.int (-537103460 : Int32)), .val (.int (12 : Int32))] [(.ref t), (.int (2 : Int32))])) rfl rfl (hb hby d7_42)
  have F18 := (f4.keep Kk3q nin0)
  have F19 := (f3.keep Kk3q nin0)
  have F20 := (f2.keep Kk3q nin0)
  have F21 := (f10.keep Kk3q nin0)
  have F22 := (f12.keep Kk3q nin0)
  have F24 := (f13.keep Kk3q)
  have ne23 : t ≠ bk := ne_exa F11 F24 (by decide)
  have ne25 : bk ≠ dk3 := Nat.ne_of_lt (Nat.lt_of_lt_of_le f12.lt Gk3_0)
  have F27 := (f11.keep Kk3q)
  have ne26 : bl ≠ bk := ne_exa F27 F24 (by decide)
  obtain ⟨cqk28, qk28, qk28'⟩ := F11.cell
  obtain ⟨_, _, ⟨Tk28, Lk28, kk28, nk28⟩, -, Xk28, ⟨Lck28, hQk28, lk28, yk28, zk28⟩, stk28⟩ := Xf17.privateBack hx (y := Y10) hown (mvT hZ (tw hw 99 rfl)) (mvT hZ (tw hw 100 rfl)) (own_selp (mvT hZ (tw hw 27 rfl)) rfl (Cond.privateMethod_at (mvP hZ (tw hw 101 rfl) (args := #[]))) (mvT hZ (tw hw 100 rfl)) (by decide)) (Cond.privateMethod_at (mvP hZ (tw hw 101 rfl) (args := #[]))) (mvT hZ (tw hw 102 rfl)) (by decide) (backOf (W := 0) (rm_store1 l Z a0 hw [] t dk3 k bl kbl sl en bk kbk  Tk3.heap n0 Z5 O6 F11 F18 F19 Qk3_0 F15 F8 F20 F21 F22 gt gbk ne23 (Ne.symm ne25) ne26) hZ (tw hw 102 rfl) (tw hw 3 rfl) (by decide) (by decide)) (g := (mkF m 67 #[.val (.ref t), .val (.ref a), .val (.ref dk3), .val (.int (-537103460 : Int32)), .val (.int (12 : Int32))] [(.ref dk3), (.ref t)])) rfl (by rw [hml]; rfl) (Steps.refl _) (a := t) (own_eq ef17 qk28) qk28' (argsL := [(.ref dk3)]) (rest := []) (lenOf pd___B_V rfl) rfl (by show 2 * 0 + _ ≤ _; exact Nat.le_of_eq rfl) (hb hby d7_67) (fun _ _ => ⟨rfl, ef17, (by decide : 1 + 0 ≤ _), (by decide : 1 + 0 ≤ _)⟩)
  dsimp only [Pt.U, Pt.locs, Pt.cells, Pt.slots] at Xk28 lk28 yk28 zk28 stk28 hQk28
  subst lk28 yk28 zk28
  obtain ⟨rfl, Nk28q, Kk28q, Qk28_0, Qk28_1, Qk28_2, Qk28_3, Qk28_4, Qk28_5⟩ := hQk28
  have K29 : Keep h0 Tk28.heap [t, sl, bk] := K4.trans Kk28q (allS (P := fun x => x ∈ [t, sl, bk] ∨ h0.size ≤ x) (Or.inl (List.mem_of_getElem? (i := 0) rfl)) (allS (P := fun x => x ∈ [t, sl, bk] ∨ h0.size ≤ x) (Or.inl (List.mem_of_getElem? (i := 2) rfl)) all0))
  have Nk28 := Fr.app Nk10 Nk28q
  obtain ⟨Tf30, Xf30, ef30, stf30⟩ := getF Xk28 hx hZ hown (host := "") (Or.inl (tw hw 11 rfl)) Via.refl rfl Qk28_3 (g := (mkF m 71 #[.val (.ref t), .val (.ref a), .val (.ref dk3), .val (.int (-537103460 : Int32)), .val (.int (12 : Int32))] [(.ref t)])) rfl rfl (hb hby d7_71)
  obtain ⟨Tf31, Xf31, ef31, stf31⟩ := getF Xf30 hx hZ hown (host := "") (Or.inl (tw hw 29 rfl)) Via.refl ef30 Qk28_2 (g := (mkF m 82 #[.val (.ref t), .val (.ref a), .val (.ref dk3), .val (.int (-537103460 : Int32)), .val (.int (12 : Int32))] [(.ref t), (.long (-2306841795268444160 : Int64)), (.int (12 : Int32)), (.ref sl)])) rfl rfl (hb hby d7_82)
  have F33 := ((f7.keep Kk3q).keep Kk28q)
  have F34 := (F24.keep Kk28q)
  have ne32 : sl ≠ bk := ne_exa F33 F34 (by decide)
  have F36 := (F11.keep Kk28q)
  have ne35 : sl ≠ t := ne_exa F33 F36 (by decide)
  have F37 := (F9.keep Kk28q (ninS ne35 (ninS ne32 nin0)))
  obtain ⟨clv38, Arv38, qv38, Sv38, Nv38, Hv38, Gv38⟩ := id F37
  have in39 : ¬ ((12 : Int32) < 0 ∨ clv38.slots.size ≤ ((12 : Int32)).toNatClampNeg) := inb_of Sv38 ⟨by decide, by decide⟩
  obtain ⟨Tw40, hw40, Xw40, ew40, Ww40, stw40⟩ := stJ Xf31 hx hZ ef31 Arv38 (j := (12 : Int32)) in39 (g := (mkF m 89 #[.val (.ref t), .val (.ref a), .val (.ref dk3), .val (.int (-537103460 : Int32)), .val (.int (12 : Int32))] [(.long (-2306841795268444158 : Int64)), (.int (12 : Int32)), (.ref sl)])) rfl rfl (hb hby d7_89)
  have Vw40 : Arv Z hw40 sl ks .long (16 : Int32) [(.long (0 : Int64)), (.long (0 : Int64)), (.long (0 : Int64)), (.long (0 : Int64)), (.long (0 : Int64)), (.long (0 : Int64)), (.long (0 : Int64)), (.long (0 : Int64)), (.long (0 : Int64)), (.long (0 : Int64)), (.long (0 : Int64)), (.long (0 : Int64)), (.long (-2306841795268444158 : Int64)), (.long (1808655176962146305 : Int64)), (.long (0 : Int64)), (.long (0 : Int64))] (.long (0 : Int64)) := Arv.set Arv38 qv38 Sv38 Nv38 Hv38 Gv38 rfl Ww40 12 rfl (Nat.le_of_ble_eq_true rfl)
  have Nw40 := Fr.snoc Xw40 Nk28 gsl
  have K41 : Keep h0 hw40 [t, sl, bk] := K29.wr Ww40 (Or.inl (List.mem_of_getElem? (i := 1) rfl))
  have F42 := (Qk28_2.other Ww40 (Or.inl (Ne.symm ne35)))
  obtain ⟨Tf43, Xf43, ef43, stf43⟩ := getF Xw40 hx hZ hown (host := "") (Or.inl (tw hw 29 rfl)) Via.refl ew40 F42 (g := (mkF m 92 #[.val (.ref t), .val (.ref a), .val (.ref dk3), .val (.int (-537103460 : Int32)), .val (.int (12 : Int32))] [(.ref t), (.ref t)])) rfl rfl (hb hby d7_92)
  have F44 := (F36.wr Ww40)
  obtain ⟨Tp45, hp45, Xp45, ep45, Wp45, stp45⟩ := putF Xf43 hx hZ hown (host := "") (Or.inl (tw hw 29 rfl)) Via.refl ef43 F42 F44 (Or.inl (tw hw 30 rfl)) (tw hw 2 rfl) (ty := .int) (by decide) rfl rfl (g := (mkF m 97 #[.val (.ref t), .val (.ref a), .val (.ref dk3), .val (.int (-537103460 : Int32)), .val (.int (12 : Int32))] [(.int (2 : Int32)), (.ref t)])) rfl rfl (hb hby d7_97)
  have Fwp45 : Fld Z hp45 t S1 "size" "I" (.int (2 : Int32)) := F42.same Wp45
  have Np45 := Fr.snoc Xp45 Nw40 gt
  have K46 : Keep h0 hp45 [t, sl, bk] := K41.wr Wp45 (Or.inl (List.mem_of_getElem? (i := 0) rfl))
  have F47 := ((Qk28_4.other Ww40 (Or.inl (Ne.symm ne35))).other Wp45 (Or.inr (slot_ne (Or.inl (tw hw 15 rfl)) (Or.inl (tw hw 30 rfl)) (by decide) (t := (.array .int)) (t' := .int) (by decide) (by decide))))
  obtain ⟨Tf48, Xf48, ef48, stf48⟩ := getF Xp45 hx hZ hown (host := "") (Or.inl (tw hw 14 rfl)) Via.refl ep45 F47 (g := (mkF m 103 #[.val (.ref t), .val (.ref a), .val (.ref dk3), .val (.int (-537103460 : Int32)), .val (.int (12 : Int32))] [(.ref t), (.ref t), (.ref t)])) rfl rfl (hb hby d7_103)
  have F49 := (F44.wr Wp45)
  have F51 := ((((f9.keep Kk3q).keep Kk28q).wr Ww40).wr Wp45)
  have F52 := ((F34.wr Ww40).wr Wp45)
  have ne50 : en ≠ bk := ne_exa F51 F52 (by decide)
  have ne53 : en ≠ t := ne_exa F51 F49 (by decide)
  have F55 := ((F33.wr Ww40).wr Wp45)
  have ne54 : en ≠ sl := ne_exa F51 F55 (by decide)
  have F56 := ((((f8.keep Kk3q nin0).keep Kk28q (ninS ne53 (ninS ne50 nin0))).other Ww40 ne54).other Wp45 ne53)
  have Z57 : n0 ≤ hp45.size := (Nat.le_trans (Nat.le_trans (Nat.le_trans Z5 Kk28q.1) (Keep.of_wr Ww40).1) (Keep.of_wr Wp45).1)
  have O58 : Old Z n0 hp45 := (((O6.keep Kk28q (allS gt (allS gbk all0))).wr Ww40 gsl).wr Wp45 gt)
  obtain ⟨cqk59, kqk59, qk59a, qk59b, qk59c⟩ := isOf hZ ef48 F49
  obtain ⟨_, _, ⟨Tk59, Lk59, kk59, nk59⟩, -, Xk59, ⟨Lck59, hQk59, lk59, yk59, zk59⟩, stk59⟩ := Xf48.virtualBack hx (y := Y13) (z := Y13) hown (mvT hZ (tw hw 116 rfl)) (mvT hZ (tw hw 25 rfl)) (notFace_of_selects (args := #[]) (mvT hZ (tw hw 27 rfl))) (mvT hZ (tw hw 27 rfl)) (mvT hZ (tw hw 26 rfl)) (by decide) (backOf (W := 1) (rm_fitg l Z a0 hw [] t en ken (1 : Int32) [(.int (1 : Int32))] (2 : Int32) (2 : Int32)  hp45 n0 Z57 O58 F49 Fwp45 F56 (by decide) (by decide) (by decide) (by decide) (by decide) (by decide) (by decide) (by decide) (by decide)) hZ (tw hw 28 rfl) (tw hw 3 rfl) (by decide) (by decide)) qk59a qk59c (g := (mkF m 106 #[.val (.ref t), .val (.ref a), .val (.ref dk3), .val (.int (-537103460 : Int32)), .val (.int (12 : Int32))] [(.ref en), (.ref t), (.ref t)])) rfl (by rw [hml]; rfl) (Steps.refl _) (argsL := [(.ref en)]) (rest := [(.ref t)]) (lenOf pd___I__I rfl) rfl (by show 2 * 0 + _ ≤ _; exact Nat.le_of_eq rfl) (hb hby d7_106) (fun _ _ => ⟨rfl, ef48, (by decide : 1 + 1 ≤ _), (by decide : 1 + 12 ≤ _)⟩)
  dsimp only [Pt.U, Pt.locs, Pt.cells, Pt.slots] at Xk59 lk59 yk59 zk59 stk59 hQk59
  subst lk59 yk59 zk59
  obtain ⟨bk59, kbk59, rfl, Nk59q, Kk59q, Gk59_0, Qk59_0, Qk59_1⟩ := hQk59
  have Y60 : h0.size ≤ hp45.size := (Nat.le_trans (Nat.le_trans (Nat.le_trans (Nat.le_trans (Nat.le_refl h0.size) Kk3q.1) Kk28q.1) (Keep.of_wr Ww40).1) (Keep.of_wr Wp45).1)
  have g_bk59 : n0 ≤ bk59 := Nat.le_trans Z57 Gk59_0
  have y_bk59 : h0.size ≤ bk59 := Nat.le_trans Y60 Gk59_0
  have K61 : Keep h0 Tk59.heap [t, sl, bk] := K46.trans Kk59q all0
  have vp62 : Arv Z Tk59.heap bk59 kbk59 .int (2 : Int32) [(.int (1 : Int32)), (.int (0 : Int32))] (.int (0 : Int32)) := Qk59_0.pad (pad_rep [(.int (1 : Int32))] (.int (0 : Int32)) 1)
  have Nk59 := Fr.app Np45 Nk59q
  have F63 := (F47.keep Kk59q nin0)
  have F64 := (F49.keep Kk59q)
  obtain ⟨Tp65, hp65, Xp65, ep65, Wp65, stp65⟩ := putF Xk59 hx hZ hown (host := "") (Or.inl (tw hw 14 rfl)) Via.refl rfl F63 F64 (Or.inl (tw hw 15 rfl)) (tw hw 2 rfl) (ty := (.array .int)) (by decide) rfl rfl (g := (mkF m 109 #[.val (.ref t), .val (.ref a), .val (.ref dk3), .val (.int (-537103460 : Int32)), .val (.int (12 : Int32))] [(.ref bk59), (.ref t)])) rfl rfl (hb hby d7_109)
  have Fwp65 : Fld Z hp65 t S1 "ends" "[I" (.ref bk59) := F63.same Wp65
  have Np65 := Fr.snoc Xp65 Nk59 gt
  have K66 : Keep h0 hp65 [t, sl, bk] := K61.wr Wp65 (Or.inl (List.mem_of_getElem? (i := 0) rfl))
  obtain ⟨Tf67, Xf67, ef67, stf67⟩ := getF Xp65 hx hZ hown (host := "") (Or.inl (tw hw 14 rfl)) Via.refl ep65 Fwp65 (g := (mkF m 113 #[.val (.ref t), .val (.ref a), .val (.ref dk3), .val (.int (-537103460 : Int32)), .val (.int (12 : Int32))] [(.ref t)])) rfl rfl (hb hby d7_113)
  have F68 := ((Fwp45.keep Kk59q nin0).other Wp65 (Or.inr (slot_ne (Or.inl (tw hw 30 rfl)) (Or.inl (tw hw 15 rfl)) (by decide) (t := .int) (t' := (.array .int)) (by decide) (by decide))))
  obtain ⟨Tf69, Xf69, ef69, stf69⟩ := getF Xf67 hx hZ hown (host := "") (Or.inl (tw hw 29 rfl)) Via.refl ef67 F68 (g := (mkF m 117 #[.val (.ref t), .val (.ref a), .val (.ref dk3), .val (.int (-537103460 : Int32)), .val (.int (12 : Int32))] [(.ref t), (.ref bk59)])) rfl rfl (hb hby d7_117)
  have F70 := ((((Qk28_0.other Ww40 (Or.inl (Ne.symm ne35))).other Wp45 (Or.inr (slot_ne (Or.inl (tw hw 105 rfl)) (Or.inl (tw hw 30 rfl)) (by decide) (t := .int) (t' := .int) (by decide) (by decide)))).keep Kk59q nin0).other Wp65 (Or.inr (slot_ne (Or.inl (tw hw 105 rfl)) (Or.inl (tw hw 15 rfl)) (by decide) (t := .int) (t' := (.array .int)) (by decide) (by decide))))
  obtain ⟨Tf71, Xf71, ef71, stf71⟩ := getF Xf69 hx hZ hown (host := "") (Or.inl (tw hw 104 rfl)) Via.refl ef69 F70 (g := (mkF m 123 #[.val (.ref t), .val (.ref a), .val (.ref dk3), .val (.int (-537103460 : Int32)), .val (.int (12 : Int32))] [(.ref t), (.int (1 : Int32)), (.ref bk59)])) rfl rfl (hb hby d7_123)
  have F73 := (Qk59_1.wr Wp65)
  have F74 := (F64.wr Wp65)
  have ne72 : bk59 ≠ t := ne_exa F73 F74 (by decide)
  have F75 := (vp62.other Wp65 ne72)
  obtain ⟨clv76, Arv76, qv76, Sv76, Nv76, Hv76, Gv76⟩ := id F75
  have in77 : ¬ ((1 : Int32) < 0 ∨ clv76.slots.size ≤ ((1 : Int32)).toNatClampNeg) := inb_of Sv76 ⟨by decide, by decide⟩
  obtain ⟨Tw78, hw78, Xw78, ew78, Ww78, stw78⟩ := stI Xf71 hx hZ ef71 Arv76 (j := (1 : Int32)) in77 (g := (mkF m 126 #[.val (.ref t), .val (.ref a), .val (.ref dk3), .val (.int (-537103460 : Int32)), .val (.int (12 : Int32))] [(.int (2 : Int32)), (.int (1 : Int32)), (.ref bk59)])) rfl rfl (hb hby d7_126)
  have Vw78 : Arv Z hw78 bk59 kbk59 .int (2 : Int32) [(.int (1 : Int32)), (.int (2 : Int32))] (.int (0 : Int32)) := Arv.set Arv76 qv76 Sv76 Nv76 Hv76 Gv76 rfl Ww78 1 rfl (Nat.le_of_ble_eq_true rfl)
  have Nw78 := Fr.snoc Xw78 Np65 g_bk59
  have K79 : Keep h0 hw78 [t, sl, bk] := K66.wr Ww78 (Or.inr y_bk59)
  have F80 := (((((Qk28_3.other Ww40 (Or.inl (Ne.symm ne35))).other Wp45 (Or.inr (slot_ne (Or.inl (tw hw 12 rfl)) (Or.inl (tw hw 30 rfl)) (by decide) (t := (.array .long)) (t' := .int) (by decide) (by decide)))).keep Kk59q nin0).other Wp65 (Or.inr (slot_ne (Or.inl (tw hw 12 rfl)) (Or.inl (tw hw 15 rfl)) (by decide) (t := (.array .long)) (t' := (.array .int)) (by decide) (by decide)))).other Ww78 (Or.inl (Ne.symm ne72)))
  have F81 := (Fwp65.other Ww78 (Or.inl (Ne.symm ne72)))
  have F82 := (((((Qk28_1.other Ww40 (Or.inl (Ne.symm ne35))).other Wp45 (Or.inr (slot_ne (Or.inl (tw hw 19 rfl)) (Or.inl (tw hw 30 rfl)) (by decide) (t := (.array (.array .byte))) (t' := .int) (by decide) (by decide)))).keep Kk59q nin0).other Wp65 (Or.inr (slot_ne (Or.inl (tw hw 19 rfl)) (Or.inl (tw hw 15 rfl)) (by decide) (t := (.array (.array .byte))) (t' := (.array .int)) (by decide) (by decide)))).other Ww78 (Or.inl (Ne.symm ne72)))
  have F83 := (F70.other Ww78 (Or.inl (Ne.symm ne72)))
  have F84 := (F68.other Ww78 (Or.inl (Ne.symm ne72)))
  have F86 := (((F55.keep Kk59q).wr Wp65).wr Ww78)
  have F87 := (F73.wr Ww78)
  have ne85 : sl ≠ bk59 := ne_exa F86 F87 (by decide)
  have F88 := ((((Vw40.other Wp45 ne35).keep Kk59q nin0).other Wp65 ne35).other Ww78 ne85)
  have F90 := ((((((F27.keep Kk28q).wr Ww40).wr Wp45).keep Kk59q).wr Wp65).wr Ww78)
  have F91 := (F74.wr Ww78)
  have ne89 : bl ≠ t := ne_exa F90 F91 (by decide)
  have ne92 : bl ≠ sl := ne_exa F90 F86 (by decide)
  have ne93 : bl ≠ bk59 := ne_exa F90 F87 (by decide)
  have F94 := ((((((F21.keep Kk28q (ninS ne89 (ninS ne26 nin0))).other Ww40 ne92).other Wp45 ne89).keep Kk59q nin0).other Wp65 ne89).other Ww78 ne93)
  have F96 := (((F52.keep Kk59q).wr Wp65).wr Ww78)
  have ne95 : bk ≠ bk59 := ne_exa F96 F87 (by decide)
  have F97 := (((((Qk28_5.other Ww40 (Ne.symm ne32)).other Wp45 (Ne.symm ne23)).keep Kk59q nin0).other Wp65 (Ne.symm ne23)).other Ww78 ne95)
  obtain ⟨fs, hlv, hrun, hended, hW, hsame⟩ := Xw78.leave (v := some (.int (1 : Int32))) (fun h => by rw [hret] at h; cases h)
  refine ⟨_, _, pre0 _ ?_, hrun, hended, _, _, rfl, ?_, ⟨_, rfl⟩, hW, hsame.mono (by decide) (by decide)⟩
  · refine XS.aloadN X0.here hx rfl (hb hby d7_0) rfl rfl ?_
    show Sp p e below s₁ (mkF m 1 #[.val (.ref t), .val (.ref a), .unset, .unset, .unset] [(.ref a)]) _
    refine stg2 _ ?_
    refine stk3.trans ?_
    refine XS.astoreN Xk3.here hx rfl (hb hby d7_7) rfl rfl (l' := #[.val (.ref t), .val (.ref a), .val (.ref dk3), .unset, .unset]) rfl ?_
    refine XS.aloadN Xk3.here hx rfl (hb hby d7_8) rfl rfl ?_
    refine stk7 _ ?_
    refine XS.istoreN Xk7.here hx rfl (hb hby d7_12) rfl (l' := #[.val (.ref t), .val (.ref a), .val (.ref dk3), .val (.int (-537103460 : Int32)), .unset]) rfl ?_
    refine XS.aloadN Xk7.here hx rfl (hb hby d7_13) rfl rfl ?_
    refine XS.aloadN Xk7.here hx rfl (hb hby d7_14) rfl rfl ?_
    refine XS.iloadN Xk7.here hx rfl (hb hby d7_15) rfl ?_
    refine stk10.trans ?_
    refine XS.istore Xk10.here hx rfl (hb hby d7_19) rfl (l' := #[.val (.ref t), .val (.ref a), .val (.ref dk3), .val (.int (-537103460 : Int32)), .val (.int (12 : Int32))]) rfl ?_
    refine XS.aloadN Xk10.here hx rfl (hb hby d7_21) rfl rfl ?_
    refine stf12 _ ?_
    refine XS.iload Xf12.here hx rfl (hb hby d7_25) rfl ?_
    show Sp p e below Tf12 (mkF m 27 #[.val (.ref t), .val (.ref a), .val (.ref dk3), .val (.int (-537103460 : Int32)), .val (.int (12 : Int32))] [(.int (12 : Int32)), (.ref sl)]) _
    refine Xf12.laload hx (j := (12 : Int32)) (v := (.long (0 : Int64))) (own_eq ef12 Arv13.1) (State.isArrayOf_alike hZ.alike Arv13.2.1) Arv13.2.2 in14 atin14 (g := (mkF m 27 #[.val (.ref t), .val (.ref a), .val (.ref dk3), .val (.int (-537103460 : Int32)), .val (.int (12 : Int32))] [(.int (12 : Int32)), (.ref sl)])) rfl rfl (hb hby d7_27) _ ?_
    show Sp p e below Tf12 (mkF m 28 #[.val (.ref t), .val (.ref a), .val (.ref dk3), .val (.int (-537103460 : Int32)), .val (.int (12 : Int32))] [(.long (0 : Int64))]) _
    refine XS.lconst Xf12.here hx rfl (hb hby d7_28) ?_
    refine XS.lcmp Xf12.here hx rfl (hb hby d7_29) rfl ?_
    refine XS.ifYes Xf12.here hx rfl (pc0 := 30) (pc' := 35) rfl (hb hby d7_30) rfl ((if0 _ _).trans (teq (by decide : (0 : Int32) = (0 : Int32))).1) (by decide) (by decide) ?_
    refine XS.aloadN Xf12.here hx rfl (hb hby d7_35) rfl rfl ?_
    refine stf16 _ ?_
    refine XS.iconst Xf16.here hx rfl (hb hby d7_39) ?_
    refine XS.iadd Xf16.here hx rfl (hb hby d7_40) rfl ?_
    refine XS.aloadN Xf16.here hx rfl (hb hby d7_41) rfl rfl ?_
    refine stf17 _ ?_
    show Sp p e below Tf17 (mkF m 45 #[.val (.ref t), .val (.ref a), .val (.ref dk3), .val (.int (-537103460 : Int32)), .val (.int (12 : Int32))] [(.ref sl), (.int (2 : Int32))]) _
    refine Xf17.arraylength hx (own_eq ef17 Arv13.1) (State.isArrayOf_alike hZ.alike Arv13.2.1) (g := (mkF m 45 #[.val (.ref t), .val (.ref a), .val (.ref dk3), .val (.int (-537103460 : Int32)), .val (.int (12 : Int32))] [(.ref sl), (.int (2 : Int32))])) rfl rfl (hb hby d7_45) _ ?_
    rw [len_of Sv13 Nv13]
    show Sp p e below Tf17 (mkF m 46 #[.val (.ref t), .val (.ref a), .val (.ref dk3), .val (.int (-537103460 : Int32)), .val (.int (12 : Int32))] [(.int (16 : Int32)), (.int (2 : Int32))]) _
    refine XS.iconst Xf17.here hx rfl (hb hby d7_46) ?_
    refine XS.idiv Xf17.here hx rfl (hb hby d7_47) rfl (by decide) ?_
    refine XS.iconst Xf17.here hx rfl (hb hby d7_48) ?_
    refine XS.imul Xf17.here hx rfl (hb hby d7_49) rfl ?_
    refine XS.icmpYes Xf17.here hx rfl (pc0 := 50) (pc' := 65) rfl (hb hby d7_50) rfl (flt (by decide : ¬ ((12 : Int32) < (2 : Int32)))).2.2.2 (by decide) (by decide) ?_
    refine XS.aloadN Xf17.here hx rfl (hb hby d7_65) rfl rfl ?_
    refine XS.aloadN Xf17.here hx rfl (hb hby d7_66) rfl rfl ?_
    refine stk28.trans ?_
    refine XS.aloadN Xk28.here hx rfl (hb hby d7_70) rfl rfl ?_
    refine stf30 _ ?_
    refine XS.iload Xf30.here hx rfl (hb hby d7_74) rfl ?_
    refine XS.iloadN Xf30.here hx rfl (hb hby d7_76) rfl ?_
    refine XS.i2l Xf30.here hx rfl (hb hby d7_77) rfl ?_
    refine XS.bipush Xf30.here hx rfl (hb hby d7_78) ?_
    refine XS.lshl Xf30.here hx rfl (hb hby d7_80) rfl ?_
    refine XS.aloadN Xf30.here hx rfl (hb hby d7_81) rfl rfl ?_
    refine stf31 _ ?_
    refine XS.i2l Xf31.here hx rfl (hb hby d7_85) rfl ?_
    refine XS.lconst Xf31.here hx rfl (hb hby d7_86) ?_
    refine XS.ladd Xf31.here hx rfl (hb hby d7_87) rfl ?_
    refine XS.lor Xf31.here hx rfl (hb hby d7_88) rfl ?_
    show Sp p e below Tf31 (mkF m 89 #[.val (.ref t), .val (.ref a), .val (.ref dk3), .val (.int (-537103460 : Int32)), .val (.int (12 : Int32))] [(.long (-2306841795268444158 : Int64)), (.int (12 : Int32)), (.ref sl)]) _
    refine stw40 _ ?_
    refine XS.aloadN Xw40.here hx rfl (hb hby d7_90) rfl rfl ?_
    refine XS.dup Xw40.here hx rfl (hb hby d7_91) rfl rfl ?_
    refine stf43 _ ?_
    refine XS.iconst Xf43.here hx rfl (hb hby d7_95) ?_
    refine XS.iadd Xf43.here hx rfl (hb hby d7_96) rfl ?_
    refine stp45 _ ?_
    refine XS.aloadN Xp45.here hx rfl (hb hby d7_100) rfl rfl ?_
    refine XS.aloadN Xp45.here hx rfl (hb hby d7_101) rfl rfl ?_
    refine XS.aloadN Xp45.here hx rfl (hb hby d7_102) rfl rfl ?_
    refine stf48 _ ?_
    refine stk59.trans ?_
    refine stp65 _ ?_
    refine XS.aloadN Xp65.here hx rfl (hb hby d7_112) rfl rfl ?_
    refine stf67 _ ?_
    refine XS.aloadN Xf67.here hx rfl (hb hby d7_116) rfl rfl ?_
    refine stf69 _ ?_
    refine XS.iconst Xf69.here hx rfl (hb hby d7_120) ?_
    refine XS.isub Xf69.here hx rfl (hb hby d7_121) rfl ?_
    refine XS.aloadN Xf69.here hx rfl (hb hby d7_122) rfl rfl ?_
    refine stf71 _ ?_
    show Sp p e below Tf71 (mkF m 126 #[.val (.ref t), .val (.ref a), .val (.ref dk3), .val (.int (-537103460 : Int32)), .val (.int (12 : Int32))] [(.int (2 : Int32)), (.int (1 : Int32)), (.ref bk59)]) _
    refine stw78 _ ?_
    refine XS.iconst Xw78.here hx rfl (hb hby d7_127) ?_
    show Sp p e below Tw78 (mkF m 128 #[.val (.ref t), .val (.ref a), .val (.ref dk3), .val (.int (-537103460 : Int32)), .val (.int (12 : Int32))] [(.int (1 : Int32))]) _
    exact retN Xw78 hx (t := .boolean) hret (by simp) (hb hby d7_128) hlv
  · show Q_add1 Z t a b k sl ks en ken bl kbl bk kbk aU cs h0 n0 _ Tw78.heap _
    rw [ew78]
    exact ⟨bk59, kbk59, rfl, Nw78, K79, y_bk59, F80, F81, F82, F83, F84, F88, Vw78, F87, F94, F97⟩
def Q_add2 (Z : State) (t : Addr) (a : Addr) (b : Addr) (k : ClassId) (sl : Addr) (ks : ClassId) (en : Addr) (ken : ClassId) (bl : Addr) (kbl : ClassId) (bk : Addr) (kbk : ClassId) (aU : Addr) (cs : Int32) (h0 : Heap) (n0 : Nat) (v : Option Value) (h : Heap) (L : List Loc) : Prop := ∃ en2 : Addr, ∃ ken2 : ClassId, v = some (.int (1 : Int32)) ∧ Fr n0 L ∧ Keep h0 h [t, sl, bk] ∧ h0.size ≤ en2 ∧ Fld Z h t S1 "slots" "[J" (.ref sl) ∧ Fld Z h t S1 "ends" "[I" (.ref en2) ∧ Fld Z h t S1 "blocks" "[[B" (.ref bl) ∧ Fld Z h t S1 "stored" "I" (.int (3 : Int32)) ∧ Fld Z h t S1 "size" "I" (.int (3 : Int32)) ∧ Arv Z h sl ks .long (16 : Int32) [(.long (0 : Int64)), (.long (0 : Int64)), (.long (0 : Int64)), (.long (0 : Int64)), (.long (0 : Int64)), (.long (0 : Int64)), (.long (0 : Int64)), (.long (0 : Int64)), (.long (0 : Int64)), (.long (0 : Int64)), (.long (0 : Int64)), (.long (0 : Int64)), (.long (-2306841795268444158 : Int64)), (.long (1808655176962146305 : Int64)), (.long (-2839092971725389821 : Int64)), (.long (0 : Int64))] (.long (0 : Int64)) ∧ Arv Z h en2 ken2 .int (3 : Int32) [(.int (1 : Int32)), (.int (2 : Int32)), (.int (3 : Int32))] (.int (0 : Int32)) ∧ Exa Z h en2 "[I" ∧ Arv Z h bl kbl (.array .byte) (1 : Int32) [(.ref bk)] .null ∧ Arv Z h bk kbk .byte (65536 : Int32) [(.int (97 : Int32)), (.int (98 : Int32)), (.int (99 : Int32)), (.int (0 : Int32)), (.int (0 : Int32)), (.int (0 : Int32)), (.int (0 : Int32)), (.int (0 : Int32))] (.int (0 : Int32))
set_option maxRecDepth 65536 in
set_option maxHeartbeats 40000000 in
theorem rm_add2 (l : Launch) (Z : State) (a0 : Array Value) (hw : ∀ d ∈ tables_1, d.before a0 Z = true) (ws : List Jvm.Cond) (t : Addr) (a : Addr) (b : Addr) (k : ClassId) (sl : Addr) (ks : ClassId) (en : Addr) (ken : ClassId) (bl : Addr) (kbl : ClassId) (bk : Addr) (kbk : ClassId) (aU : Addr) (cs : Int32) (h0 : Heap) (n0 : Nat) (Z0 : n0 ≤ h0.size) (O0 : Old Z n0 h0) (f0 : Exa Z h0 t S1) (f1 : Fld Z h0 t S1 "slots" "[J" (.ref sl)) (f2 : Fld Z h0 t S1 "ends" "[I" (.ref en)) (f3 : Fld Z h0 t S1 "blocks" "[[B" (.ref bl)) (f4 : Fld Z h0 t S1 "stored" "I" (.int (2 : Int32))) (f5 : Fld Z h0 t S1 "size" "I" (.int (2 : Int32))) (f6 : Arv Z h0 sl ks .long (16 : Int32) [(.long (0 : Int64)), (.long (0 : Int64)), (.long (0 : Int64)), (.long (0 : Int64)), (.long (0 : Int64)), (.long (0 : Int64)), (.long (0 : Int64)), (.long (0 : Int64)), (.long (0 : Int64)), (.long (0 : Int64)), (.long (0 : Int64)), (.long (0 : Int64)), (.long (-2306841795268444158 : Int64)), (.long (1808655176962146305 : Int64)), (.long (0 : Int64)), (.long (0 : Int64))] (.long (0 : Int64))) (f7 : Exa Z h0 sl "[J") (f8 : Arv Z h0 en ken .int (2 : Int32) [(.int (1 : Int32)), (.int (2 : Int32))] (.int (0 : Int32))) (f9 : Exa Z h0 en "[I") (f10 : Arv Z h0 bl kbl (.array .byte) (1 : Int32) [(.ref bk)] .null) (f11 : Exa Z h0 bl "[[B") (f12 : Arv Z h0 bk kbk .byte (65536 : Int32) [(.int (97 : Int32)), (.int (98 : Int32)), (.int (0 : Int32)), (.int (0 : Int32)), (.int (0 : Int32)), (.int (0 : Int32)), (.int (0 : Int32)), (.int (0 : Int32))] (.int (0 : Int32))) (f13 : Exa Z h0 bk "[B") (f14 : Exa Z h0 a S0) (f15 : Fld Z h0 a S0 "coder" "B" (.int (0 : Int32))) (f16 : Fld Z h0 a S0 "value" "[B" (.ref b)) (f17 : Arv Z h0 b k .byte (1 : Int32) [(.int (99 : Int32))] (.int (0 : Int32))) (f18 : Exa Z h0 b "[B") (SS : own_start Z aU cs) (gt : n0 ≤ t) (gsl : n0 ≤ sl) (gbk : n0 ≤ bk) :
    MetFree l Y15 (head1 (Jvm.Cond.code Y15 prog_57_method_6_code 5 (some .boolean) :: ws) ({ frames := 5, cells := 2, slots := 13, locals := 77 } : Room)) (fun A_ U => A_ = #[(.ref t), (.ref a)] ∧ Z.Warmed39 U.vm ∧ U.heap = h0) (fun _ _ _ _ _ => True) (fun _ U o_ U' => ∃ v_ L_, o_ = .returned v_ ∧ Q_add2 Z t a b k sl ks en ken bl kbl bk kbk aU cs h0 n0 v_ U'.heap L_ ∧ FrameEnd U o_ U' L_ ({ frames := 5, cells := 2, slots := 13, locals := 77 } : Room).cells ({ frames := 5, cells := 2, slots := 13, locals := 77 } : Room).slots) := by
  refine MetFree.of_bodySF (plainFor_of_name pn_2) hisR ?_
  intro p e s m args below meth c s₁ Bd hml0 hP hK
  obtain ⟨rfl, hZ, hh⟩ := hP
  have hx := Bd.exec
  have hby := Bd.bytes
  have hml : c.maxLocals = 5 := hml0
  have hown : s.vm.findClass S1 = some m.cls := findClass_of_methodNamed Bd.named
  have hnm := (name_of_methodNamed Bd.named Bd.method).1
  have hret := Bd.returns
  have X0 : Stand p l e ({ frames := 5, cells := 2, slots := 13, locals := 77 } : Room) s m #[(.ref t), (.ref a)] below meth c s₁ [] 0 0 := Stand.of_body Bd
  have e0 : s₁.heap = h0 := by rw [← hh, Bd.state]; rfl
  have N0 := Fr.nil n0
  have pre0 : ∀ t_, Sp p e below s₁ (mkF m 0 #[.val (.ref t), .val (.ref a), .unset, .unset, .unset] []) t_ → Sp p e below s₁ (entryFrame m #[(.ref t), (.ref a)] 5) t_ := fun t_ k_ => castTop (ef_7_RR m t a) k_
  obtain ⟨S_U8, S_IN, S_CS, H_CS⟩ := SS
  have F1 := S_U8.ext O0.2
  obtain ⟨Tg2, Xg2, eg2, stg2⟩ := getS2 X0 hx hZ hown (host := "") (Or.inl (tw hw 50 rfl)) Via.refl e0 F1 (g := (mkF m 1 #[.val (.ref t), .val (.ref a), .unset, .unset, .unset] [(.ref a)])) rfl (hb hby d7_1)
  obtain ⟨cqk3, kqk3, qk3a, qk3b, qk3c⟩ := isOf hZ eg2 f14
  obtain ⟨_, _, ⟨Tk3, Lk3, kk3, nk3⟩, -, Xk3, ⟨Lck3, hQk3, lk3, yk3, zk3⟩, stk3⟩ := Xg2.virtualBack hx (y := Y5) (z := Y5) hown (mvT hZ (tw hw 52 rfl)) (mvT hZ (tw hw 53 rfl)) (notFace_of_selects (args := #[]) (mvT hZ (tw hw 55 rfl))) (mvT hZ (tw hw 55 rfl)) (mvT hZ (tw hw 54 rfl)) (by decide) (backOf (W := 0) (rm_getbytes l Z a0 hw [] a b k (99 : Int32) aU cs h0 n0 Z0 O0 f14 f15 f16 f17 f18 ⟨S_U8, S_IN, S_CS, H_CS⟩ (by decide)) hZ (tw hw 56 rfl) (tw hw 38 rfl) (by decide) (by decide)) qk3a qk3c (g := (mkF m 4 #[.val (.ref t), .val (.ref a), .unset, .unset, .unset] [(.ref aU), (.ref a)])) rfl (by rw [hml]; rfl) (Steps.refl _) (argsL := [(.ref aU)]) (rest := []) (lenOf pd__Ljava_nio_charset_Charset___B rfl) rfl (by show 2 * 0 + _ ≤ _; exact Nat.le_of_eq rfl) (hb hby d7_4) (fun _ _ => ⟨rfl, eg2, (by decide : 0 + 1 ≤ _), (by decide : 0 + 1 ≤ _)⟩)
  dsimp only [Pt.U, Pt.locs, Pt.cells, Pt.slots] at Xk3 lk3 yk3 zk3 stk3 hQk3
  subst lk3 yk3 zk3
  obtain ⟨dk3, rfl, Nk3q, Kk3q, Gk3_0, Qk3_0, Qk3_1⟩ := hQk3
  have g_dk3 : n0 ≤ dk3 := Nat.le_trans Z0 Gk3_0
  have y_dk3 : h0.size ≤ dk3 := Nat.le_trans (Nat.le_refl h0.size) Gk3_0
  have K4 : Keep h0 Tk3.heap [t, sl, bk] := (Keep.refl h0 [t, sl, bk]).trans Kk3q all0
  have Nk3 := Fr.app N0 Nk3q
  have Z5 : n0 ≤ Tk3.heap.size := (Nat.le_trans Z0 Kk3q.1)
  have O6 : Old Z n0 Tk3.heap := (O0.keep Kk3q all0)
  obtain ⟨_, _, ⟨Tk7, Lk7, kk7, nk7⟩, -, Xk7, ⟨Lck7, hQk7, lk7, yk7, zk7⟩, stk7⟩ := Jvm.LawKit.callS Xk3 hx (y := Y6) hown (mvT hZ (tw hw 89 rfl)) (mvT hZ (tw hw 90 rfl)) (mvT hZ (tw hw 3 rfl)) (mvT hZ (tw hw 91 rfl)) (by decide) (backOf (W := 0) (rm_hash l Z a0 hw [] dk3 k (99 : Int32) (-661027844 : Int32)  Tk3.heap n0 Z5 O6 Qk3_0 own_hash2) hZ (tw hw 91 rfl) (tw hw 3 rfl) (by decide) (by decide)) (g := (mkF m 9 #[.val (.ref t), .val (.ref a), .val (.ref dk3), .unset, .unset] [(.ref dk3)])) rfl (by rw [hml]; rfl) (argsL := [(.ref dk3)]) (rest := []) (lenOf pd___B_I rfl) rfl (by show 2 * 0 + _ ≤ _; exact Nat.le_of_eq rfl) (hb hby d7_9) (fun _ _ => ⟨rfl, rfl, (by decide : 1 + 0 ≤ _), (by decide : 1 + 0 ≤ _)⟩)
  dsimp only [Pt.U, Pt.locs, Pt.cells, Pt.slots] at Xk7 lk7 yk7 zk7 stk7 hQk7
  subst lk7 yk7 zk7
  obtain ⟨rfl, Nk7q, ek7⟩ := hQk7
  have Nk7 := Fr.app Nk3 Nk7q
  have F8 := (f1.keep Kk3q nin0)
  have F9 := (f6.keep Kk3q nin0)
  have F11 := (f0.keep Kk3q)
  obtain ⟨cqk10, qk10, qk10'⟩ := F11.cell
  obtain ⟨_, _, ⟨Tk10, Lk10, kk10, nk10⟩, -, Xk10, ⟨Lck10, hQk10, lk10, yk10, zk10⟩, stk10⟩ := Xk7.privateBack hx (y := Y7) hown (mvT hZ (tw hw 95 rfl)) (mvT hZ (tw hw 96 rfl)) (own_selp (mvT hZ (tw hw 27 rfl)) rfl (Cond.privateMethod_at (mvP hZ (tw hw 97 rfl) (args := #[]))) (mvT hZ (tw hw 96 rfl)) (by decide)) (Cond.privateMethod_at (mvP hZ (tw hw 97 rfl) (args := #[]))) (mvT hZ (tw hw 98 rfl)) (by decide) (backOf (W := 0) (rm_find2 l Z a0 hw [] t dk3 sl ks  Tk3.heap n0 Z5 O6 F8 F9) hZ (tw hw 98 rfl) (tw hw 3 rfl) (by decide) (by decide)) (g := (mkF m 16 #[.val (.ref t), .val (.ref a), .val (.ref dk3), .val (.int (-661027844 : Int32)), .unset] [(.int (-661027844 : Int32)), (.ref dk3), (.ref t)])) rfl (by rw [hml]; rfl) (Steps.refl _) (a := t) (own_eq ek7 qk10) qk10' (argsL := [(.ref dk3), (.int (-661027844 : Int32))]) (rest := []) (lenOf pd___BI_I rfl) rfl (by show 2 * 0 + _ ≤ _; exact Nat.le_of_eq rfl) (hb hby d7_16) (fun _ _ => ⟨rfl, ek7, (by decide : 1 + 0 ≤ _), (by decide : 1 + 0 ≤ _)⟩)
  dsimp only [Pt.U, Pt.locs, Pt.cells, Pt.slots] at Xk10 lk10 yk10 zk10 stk10 hQk10
  subst lk10 yk10 zk10
  obtain ⟨rfl, Nk10q, ek10⟩ := hQk10
  have Nk10 := Fr.app Nk7 Nk10q
  obtain ⟨Tf12, Xf12, ef12, stf12⟩ := getF Xk10 hx hZ hown (host := "") (Or.inl (tw hw 11 rfl)) Via.refl ek10 F8 (g := (mkF m 22 #[.val (.ref t), .val (.ref a), .val (.ref dk3), .val (.int (-661027844 : Int32)), .val (.int (14 : Int32))] [(.ref t)])) rfl rfl (hb hby d7_22)
  obtain ⟨clv13, Arv13, qv13, Sv13, Nv13, Hv13, Gv13⟩ := id F9
  have in14 : ¬ ((14 : Int32) < 0 ∨ clv13.slots.size ≤ ((14 : Int32)).toNatClampNeg) := inb_of Sv13 ⟨by decide, by decide⟩
  have atin14 : clv13.slots[((14 : Int32)).toNatClampNeg]? = some (.long (0 : Int64)) := Has.at Hv13 in14 rfl
  have F15 := (f5.keep Kk3q nin0)
  obtain ⟨Tf16, Xf16, ef16, stf16⟩ := getF Xf12 hx hZ hown (host := "") (Or.inl (tw hw 29 rfl)) Via.refl ef12 F15 (g := (mkF m 36 #[.val (.ref t), .val (.ref a), .val (.ref dk3), .val (.int (-661027844 : Int32)), .val (.int (14 : Int32))] [(.ref t)])) rfl rfl (hb hby d7_36)
  obtain ⟨Tf17, Xf17, ef17, stf17⟩ := getF Xf16 hx hZ hown (host := "") (Or.inl (tw hw 11 rfl)) Via.refl ef16 F8 (g := (mkF m 42 #[.val (.ref t), .val (.ref a), .val (.ref dk3), .val (.int (-661027844 : Int32)), .val (.int (14 : Int32))] [(.ref t), (.int (3 : Int32))])) rfl rfl (hb hby d7_42)
  have F18 := (f4.keep Kk3q nin0)
  have F19 := (f3.keep Kk3q nin0)
  have F20 := (f2.keep Kk3q nin0)
  have F21 := (f10.keep Kk3q nin0)
  have F22 := (f12.keep Kk3q nin0)
  have F24 := (f13.keep Kk3q)
  have ne23 : t ≠ bk := ne_exa F11 F24 (by decide)
  have ne25 : bk ≠ dk3 := Nat.ne_of_lt (Nat.lt_of_lt_of_le f12.lt Gk3_0)
  have F27 := (f11.keep Kk3q)
  have ne26 : bl ≠ bk := ne_exa F27 F24 (by decide)
  obtain ⟨cqk28, qk28, qk28'⟩ := F11.cell
  obtain ⟨_, _, ⟨Tk28, Lk28, kk28, nk28⟩, -, Xk28, ⟨Lck28, hQk28, lk28, yk28, zk28⟩, stk28⟩ := Xf17.privateBack hx (y := Y10) hown (mvT hZ (tw hw 99 rfl)) (mvT hZ (tw hw 100 rfl)) (own_selp (mvT hZ (tw hw 27 rfl)) rfl (Cond.privateMethod_at (mvP hZ (tw hw 101 rfl) (args := #[]))) (mvT hZ (tw hw 100 rfl)) (by decide)) (Cond.privateMethod_at (mvP hZ (tw hw 101 rfl) (args := #[]))) (mvT hZ (tw hw 102 rfl)) (by decide) (backOf (W := 0) (rm_store2 l Z a0 hw [] t dk3 k bl kbl sl en bk kbk  Tk3.heap n0 Z5 O6 F11 F18 F19 Qk3_0 F15 F8 F20 F21 F22 gt gbk ne23 (Ne.symm ne25) ne26) hZ (tw hw 102 rfl) (tw hw 3 rfl) (by decide) (by decide)) (g := (mkF m 67 #[.val (.ref t), .val (.ref a), .val (.ref dk3), .val (.int (-661027844 : Int32)), .val (.int (14 : Int32))] [(.ref dk3), (.ref t)])) rfl (by rw [hml]; rfl) (Steps.refl _) (a := t) (own_eq ef17 qk28) qk28' (argsL := [(.ref dk3)]) (rest := []) (lenOf pd___B_V rfl) rfl (by show 2 * 0 + _ ≤ _; exact Nat.le_of_eq rfl) (hb hby d7_67) (fun _ _ => ⟨rfl, ef17, (by decide : 1 + 0 ≤ _), (by decide : 1 + 0 ≤ _)⟩)
  dsimp only [Pt.U, Pt.locs, Pt.cells, Pt.slots] at Xk28 lk28 yk28 zk28 stk28 hQk28
  subst lk28 yk28 zk28
  obtain ⟨rfl, Nk28q, Kk28q, Qk28_0, Qk28_1, Qk28_2, Qk28_3, Qk28_4, Qk28_5⟩ := hQk28
  have K29 : Keep h0 Tk28.heap [t, sl, bk] := K4.trans Kk28q (allS (P := fun x => x ∈ [t, sl, bk] ∨ h0.size ≤ x) (Or.inl (List.mem_of_getElem? (i := 0) rfl)) (allS (P := fun x => x ∈ [t, sl, bk] ∨ h0.size ≤ x) (Or.inl (List.mem_of_getElem? (i := 2) rfl)) all0))
  have Nk28 := Fr.app Nk10 Nk28q
  obtain ⟨Tf30, Xf30, ef30, stf30⟩ := getF Xk28 hx hZ hown (host := "") (Or.inl (tw hw 11 rfl)) Via.refl rfl Qk28_3 (g := (mkF m 71 #[.val (.ref t), .val (.ref a), .val (.ref dk3), .val (.int (-661027844 : Int32)), .val (.int (14 : Int32))] [(.ref t)])) rfl rfl (hb hby d7_71)
  obtain ⟨Tf31, Xf31, ef31, stf31⟩ := getF Xf30 hx hZ hown (host := "") (Or.inl (tw hw 29 rfl)) Via.refl ef30 Qk28_2 (g := (mkF m 82 #[.val (.ref t), .val (.ref a), .val (.ref dk3), .val (.int (-661027844 : Int32)), .val (.int (14 : Int32))] [(.ref t), (.long (-2839092971725389824 : Int64)), (.int (14 : Int32)), (.ref sl)])) rfl rfl (hb hby d7_82)
  have F33 := ((f7.keep Kk3q).keep Kk28q)
  have F34 := (F24.keep Kk28q)
  have ne32 : sl ≠ bk := ne_exa F33 F34 (by decide)
  have F36 := (F11.keep Kk28q)
  have ne35 : sl ≠ t := ne_exa F33 F36 (by decide)
  have F37 := (F9.keep Kk28q (ninS ne35 (ninS ne32 nin0)))
  obtain ⟨clv38, Arv38, qv38, Sv38, Nv38, Hv38, Gv38⟩ := id F37
  have in39 : ¬ ((14 : Int32) < 0 ∨ clv38.slots.size ≤ ((14 : Int32)).toNatClampNeg) := inb_of Sv38 ⟨by decide, by decide⟩
  obtain ⟨Tw40, hw40, Xw40, ew40, Ww40, stw40⟩ := stJ Xf31 hx hZ ef31 Arv38 (j := (14 : Int32)) in39 (g := (mkF m 89 #[.val (.ref t), .val (.ref a), .val (.ref dk3), .val (.int (-661027844 : Int32)), .val (.int (14 : Int32))] [(.long (-2839092971725389821 : Int64)), (.int (14 : Int32)), (.ref sl)])) rfl rfl (hb hby d7_89)
  have Vw40 : Arv Z hw40 sl ks .long (16 : Int32) [(.long (0 : Int64)), (.long (0 : Int64)), (.long (0 : Int64)), (.long (0 : Int64)), (.long (0 : Int64)), (.long (0 : Int64)), (.long (0 : Int64)), (.long (0 : Int64)), (.long (0 : Int64)), (.long (0 : Int64)), (.long (0 : Int64)), (.long (0 : Int64)), (.long (-2306841795268444158 : Int64)), (.long (1808655176962146305 : Int64)), (.long (-2839092971725389821 : Int64)), (.long (0 : Int64))] (.long (0 : Int64)) := Arv.set Arv38 qv38 Sv38 Nv38 Hv38 Gv38 rfl Ww40 14 rfl (Nat.le_of_ble_eq_true rfl)
  have Nw40 := Fr.snoc Xw40 Nk28 gsl
  have K41 : Keep h0 hw40 [t, sl, bk] := K29.wr Ww40 (Or.inl (List.mem_of_getElem? (i := 1) rfl))
  have F42 := (Qk28_2.other Ww40 (Or.inl (Ne.symm ne35)))
  obtain ⟨Tf43, Xf43, ef43, stf43⟩ := getF Xw40 hx hZ hown (host := "") (Or.inl (tw hw 29 rfl)) Via.refl ew40 F42 (g := (mkF m 92 #[.val (.ref t), .val (.ref a), .val (.ref dk3), .val (.int (-661027844 : Int32)), .val (.int (14 : Int32))] [(.ref t), (.ref t)])) rfl rfl (hb hby d7_92)
  have F44 := (F36.wr Ww40)
  obtain ⟨Tp45, hp45, Xp45, ep45, Wp45, stp45⟩ := putF Xf43 hx hZ hown (host := "") (Or.inl (tw hw 29 rfl)) Via.refl ef43 F42 F44 (Or.inl (tw hw 30 rfl)) (tw hw 2 rfl) (ty := .int) (by decide) rfl rfl (g := (mkF m 97 #[.val (.ref t), .val (.ref a), .val (.ref dk3), .val (.int (-661027844 : Int32)), .val (.int (14 : Int32))] [(.int (3 : Int32)), (.ref t)])) rfl rfl (hb hby d7_97)
  have Fwp45 : Fld Z hp45 t S1 "size" "I" (.int (3 : Int32)) := F42.same Wp45
  have Np45 := Fr.snoc Xp45 Nw40 gt
  have K46 : Keep h0 hp45 [t, sl, bk] := K41.wr Wp45 (Or.inl (List.mem_of_getElem? (i := 0) rfl))
  have F47 := ((Qk28_4.other Ww40 (Or.inl (Ne.symm ne35))).other Wp45 (Or.inr (slot_ne (Or.inl (tw hw 15 rfl)) (Or.inl (tw hw 30 rfl)) (by decide) (t := (.array .int)) (t' := .int) (by decide) (by decide))))
  obtain ⟨Tf48, Xf48, ef48, stf48⟩ := getF Xp45 hx hZ hown (host := "") (Or.inl (tw hw 14 rfl)) Via.refl ep45 F47 (g := (mkF m 103 #[.val (.ref t), .val (.ref a), .val (.ref dk3), .val (.int (-661027844 : Int32)), .val (.int (14 : Int32))] [(.ref t), (.ref t), (.ref t)])) rfl rfl (hb hby d7_103)
  have F49 := (F44.wr Wp45)
  have F51 := ((((f9.keep Kk3q).keep Kk28q).wr Ww40).wr Wp45)
  have F52 := ((F34.wr Ww40).wr Wp45)
  have ne50 : en ≠ bk := ne_exa F51 F52 (by decide)
  have ne53 : en ≠ t := ne_exa F51 F49 (by decide)
  have F55 := ((F33.wr Ww40).wr Wp45)
  have ne54 : en ≠ sl := ne_exa F51 F55 (by decide)
  have F56 := ((((f8.keep Kk3q nin0).keep Kk28q (ninS ne53 (ninS ne50 nin0))).other Ww40 ne54).other Wp45 ne53)
  have Z57 : n0 ≤ hp45.size := (Nat.le_trans (Nat.le_trans (Nat.le_trans Z5 Kk28q.1) (Keep.of_wr Ww40).1) (Keep.of_wr Wp45).1)
  have O58 : Old Z n0 hp45 := (((O6.keep Kk28q (allS gt (allS gbk all0))).wr Ww40 gsl).wr Wp45 gt)
  obtain ⟨cqk59, kqk59, qk59a, qk59b, qk59c⟩ := isOf hZ ef48 F49
  obtain ⟨_, _, ⟨Tk59, Lk59, kk59, nk59⟩, -, Xk59, ⟨Lck59, hQk59, lk59, yk59, zk59⟩, stk59⟩ := Xf48.virtualBack hx (y := Y13) (z := Y13) hown (mvT hZ (tw hw 116 rfl)) (mvT hZ (tw hw 25 rfl)) (notFace_of_selects (args := #[]) (mvT hZ (tw hw 27 rfl))) (mvT hZ (tw hw 27 rfl)) (mvT hZ (tw hw 26 rfl)) (by decide) (backOf (W := 1) (rm_fitg l Z a0 hw [] t en ken (2 : Int32) [(.int (1 : Int32)), (.int (2 : Int32))] (3 : Int32) (3 : Int32)  hp45 n0 Z57 O58 F49 Fwp45 F56 (by decide) (by decide) (by decide) (by decide) (by decide) (by decide) (by decide) (by decide) (by decide)) hZ (tw hw 28 rfl) (tw hw 3 rfl) (by decide) (by decide)) qk59a qk59c (g := (mkF m 106 #[.val (.ref t), .val (.ref a), .val (.ref dk3), .val (.int (-661027844 : Int32)), .val (.int (14 : Int32))] [(.ref en), (.ref t), (.ref t)])) rfl (by rw [hml]; rfl) (Steps.refl _) (argsL := [(.ref en)]) (rest := [(.ref t)]) (lenOf pd___I__I rfl) rfl (by show 2 * 0 + _ ≤ _; exact Nat.le_of_eq rfl) (hb hby d7_106) (fun _ _ => ⟨rfl, ef48, (by decide : 1 + 1 ≤ _), (by decide : 1 + 12 ≤ _)⟩)
  dsimp only [Pt.U, Pt.locs, Pt.cells, Pt.slots] at Xk59 lk59 yk59 zk59 stk59 hQk59
  subst lk59 yk59 zk59
  obtain ⟨bk59, kbk59, rfl, Nk59q, Kk59q, Gk59_0, Qk59_0, Qk59_1⟩ := hQk59
  have Y60 : h0.size ≤ hp45.size := (Nat.le_trans (Nat.le_trans (Nat.le_trans (Nat.le_trans (Nat.le_refl h0.size) Kk3q.1) Kk28q.1) (Keep.of_wr Ww40).1) (Keep.of_wr Wp45).1)
  have g_bk59 : n0 ≤ bk59 := Nat.le_trans Z57 Gk59_0
  have y_bk59 : h0.size ≤ bk59 := Nat.le_trans Y60 Gk59_0
  have K61 : Keep h0 Tk59.heap [t, sl, bk] := K46.trans Kk59q all0
  have vp62 : Arv Z Tk59.heap bk59 kbk59 .int (3 : Int32) [(.int (1 : Int32)), (.int (2 : Int32)), (.int (0 : Int32))] (.int (0 : Int32)) := Qk59_0.pad (pad_rep [(.int (1 : Int32)), (.int (2 : Int32))] (.int (0 : Int32)) 1)
  have Nk59 := Fr.app Np45 Nk59q
  have F63 := (F47.keep Kk59q nin0)
  have F64 := (F49.keep Kk59q)
  obtain ⟨Tp65, hp65, Xp65, ep65, Wp65, stp65⟩ := putF Xk59 hx hZ hown (host := "") (Or.inl (tw hw 14 rfl)) Via.refl rfl F63 F64 (Or.inl (tw hw 15 rfl)) (tw hw 2 rfl) (ty := (.array .int)) (by decide) rfl rfl (g := (mkF m 109 #[.val (.ref t), .val (.ref a), .val (.ref dk3), .val (.int (-661027844 : Int32)), .val (.int (14 : Int32))] [(.ref bk59), (.ref t)])) rfl rfl (hb hby d7_109)
  have Fwp65 : Fld Z hp65 t S1 "ends" "[I" (.ref bk59) := F63.same Wp65
  have Np65 := Fr.snoc Xp65 Nk59 gt
  have K66 : Keep h0 hp65 [t, sl, bk] := K61.wr Wp65 (Or.inl (List.mem_of_getElem? (i := 0) rfl))
  obtain ⟨Tf67, Xf67, ef67, stf67⟩ := getF Xp65 hx hZ hown (host := "") (Or.inl (tw hw 14 rfl)) Via.refl ep65 Fwp65 (g := (mkF m 113 #[.val (.ref t), .val (.ref a), .val (.ref dk3), .val (.int (-661027844 : Int32)), .val (.int (14 : Int32))] [(.ref t)])) rfl rfl (hb hby d7_113)
  have F68 := ((Fwp45.keep Kk59q nin0).other Wp65 (Or.inr (slot_ne (Or.inl (tw hw 30 rfl)) (Or.inl (tw hw 15 rfl)) (by decide) (t := .int) (t' := (.array .int)) (by decide) (by decide))))
  obtain ⟨Tf69, Xf69, ef69, stf69⟩ := getF Xf67 hx hZ hown (host := "") (Or.inl (tw hw 29 rfl)) Via.refl ef67 F68 (g := (mkF m 117 #[.val (.ref t), .val (.ref a), .val (.ref dk3), .val (.int (-661027844 : Int32)), .val (.int (14 : Int32))] [(.ref t), (.ref bk59)])) rfl rfl (hb hby d7_117)
  have F70 := ((((Qk28_0.other Ww40 (Or.inl (Ne.symm ne35))).other Wp45 (Or.inr (slot_ne (Or.inl (tw hw 105 rfl)) (Or.inl (tw hw 30 rfl)) (by decide) (t := .int) (t' := .int) (by decide) (by decide)))).keep Kk59q nin0).other Wp65 (Or.inr (slot_ne (Or.inl (tw hw 105 rfl)) (Or.inl (tw hw 15 rfl)) (by decide) (t := .int) (t' := (.array .int)) (by decide) (by decide))))
  obtain ⟨Tf71, Xf71, ef71, stf71⟩ := getF Xf69 hx hZ hown (host := "") (Or.inl (tw hw 104 rfl)) Via.refl ef69 F70 (g := (mkF m 123 #[.val (.ref t), .val (.ref a), .val (.ref dk3), .val (.int (-661027844 : Int32)), .val (.int (14 : Int32))] [(.ref t), (.int (2 : Int32)), (.ref bk59)])) rfl rfl (hb hby d7_123)
  have F73 := (Qk59_1.wr Wp65)
  have F74 := (F64.wr Wp65)
  have ne72 : bk59 ≠ t := ne_exa F73 F74 (by decide)
  have F75 := (vp62.other Wp65 ne72)
  obtain ⟨clv76, Arv76, qv76, Sv76, Nv76, Hv76, Gv76⟩ := id F75
  have in77 : ¬ ((2 : Int32) < 0 ∨ clv76.slots.size ≤ ((2 : Int32)).toNatClampNeg) := inb_of Sv76 ⟨by decide, by decide⟩
  obtain ⟨Tw78, hw78, Xw78, ew78, Ww78, stw78⟩ := stI Xf71 hx hZ ef71 Arv76 (j := (2 : Int32)) in77 (g := (mkF m 126 #[.val (.ref t), .val (.ref a), .val (.ref dk3), .val (.int (-661027844 : Int32)), .val (.int (14 : Int32))] [(.int (3 : Int32)), (.int (2 : Int32)), (.ref bk59)])) rfl rfl (hb hby d7_126)
  have Vw78 : Arv Z hw78 bk59 kbk59 .int (3 : Int32) [(.int (1 : Int32)), (.int (2 : Int32)), (.int (3 : Int32))] (.int (0 : Int32)) := Arv.set Arv76 qv76 Sv76 Nv76 Hv76 Gv76 rfl Ww78 2 rfl (Nat.le_of_ble_eq_true rfl)
  have Nw78 := Fr.snoc Xw78 Np65 g_bk59
  have K79 : Keep h0 hw78 [t, sl, bk] := K66.wr Ww78 (Or.inr y_bk59)
  have F80 := (((((Qk28_3.other Ww40 (Or.inl (Ne.symm ne35))).other Wp45 (Or.inr (slot_ne (Or.inl (tw hw 12 rfl)) (Or.inl (tw hw 30 rfl)) (by decide) (t := (.array .long)) (t' := .int) (by decide) (by decide)))).keep Kk59q nin0).other Wp65 (Or.inr (slot_ne (Or.inl (tw hw 12 rfl)) (Or.inl (tw hw 15 rfl)) (by decide) (t := (.array .long)) (t' := (.array .int)) (by decide) (by decide)))).other Ww78 (Or.inl (Ne.symm ne72)))
  have F81 := (Fwp65.other Ww78 (Or.inl (Ne.symm ne72)))
  have F82 := (((((Qk28_1.other Ww40 (Or.inl (Ne.symm ne35))).other Wp45 (Or.inr (slot_ne (Or.inl (tw hw 19 rfl)) (Or.inl (tw hw 30 rfl)) (by decide) (t := (.array (.array .byte))) (t' := .int) (by decide) (by decide)))).keep Kk59q nin0).other Wp65 (Or.inr (slot_ne (Or.inl (tw hw 19 rfl)) (Or.inl (tw hw 15 rfl)) (by decide) (t := (.array (.array .byte))) (t' := (.array .int)) (by decide) (by decide)))).other Ww78 (Or.inl (Ne.symm ne72)))
  have F83 := (F70.other Ww78 (Or.inl (Ne.symm ne72)))
  have F84 := (F68.other Ww78 (Or.inl (Ne.symm ne72)))
  have F86 := (((F55.keep Kk59q).wr Wp65).wr Ww78)
  have F87 := (F73.wr Ww78)
  have ne85 : sl ≠ bk59 := ne_exa F86 F87 (by decide)
  have F88 := ((((Vw40.other Wp45 ne35).keep Kk59q nin0).other Wp65 ne35).other Ww78 ne85)
  have F90 := ((((((F27.keep Kk28q).wr Ww40).wr Wp45).keep Kk59q).wr Wp65).wr Ww78)
  have F91 := (F74.wr Ww78)
  have ne89 : bl ≠ t := ne_exa F90 F91 (by decide)
  have ne92 : bl ≠ sl := ne_exa F90 F86 (by decide)
  have ne93 : bl ≠ bk59 := ne_exa F90 F87 (by decide)
  have F94 := ((((((F21.keep Kk28q (ninS ne89 (ninS ne26 nin0))).other Ww40 ne92).other Wp45 ne89).keep Kk59q nin0).other Wp65 ne89).other Ww78 ne93)
  have F96 := (((F52.keep Kk59q).wr Wp65).wr Ww78)
  have ne95 : bk ≠ bk59 := ne_exa F96 F87 (by decide)
  have F97 := (((((Qk28_5.other Ww40 (Ne.symm ne32)).other Wp45 (Ne.symm ne23)).keep Kk59q nin0).other Wp65 (Ne.symm ne23)).other Ww78 ne95)
  obtain ⟨fs, hlv, hrun, hended, hW, hsame⟩ := Xw78.leave (v := some (.int (1 : Int32))) (fun h => by rw [hret] at h; cases h)
  refine ⟨_, _, pre0 _ ?_, hrun, hended, _, _, rfl, ?_, ⟨_, rfl⟩, hW, hsame.mono (by decide) (by decide)⟩
  · refine XS.aloadN X0.here hx rfl (hb hby d7_0) rfl rfl ?_
    show Sp p e below s₁ (mkF m 1 #[.val (.ref t), .val (.ref a), .unset, .unset, .unset] [(.ref a)]) _
    refine stg2 _ ?_
    refine stk3.trans ?_
    refine XS.astoreN Xk3.here hx rfl (hb hby d7_7) rfl rfl (l' := #[.val (.ref t), .val (.ref a), .val (.ref dk3), .unset, .unset]) rfl ?_
    refine XS.aloadN Xk3.here hx rfl (hb hby d7_8) rfl rfl ?_
    refine stk7 _ ?_
    refine XS.istoreN Xk7.here hx rfl (hb hby d7_12) rfl (l' := #[.val (.ref t), .val (.ref a), .val (.ref dk3), .val (.int (-661027844 : Int32)), .unset]) rfl ?_
    refine XS.aloadN Xk7.here hx rfl (hb hby d7_13) rfl rfl ?_
    refine XS.aloadN Xk7.here hx rfl (hb hby d7_14) rfl rfl ?_
    refine XS.iloadN Xk7.here hx rfl (hb hby d7_15) rfl ?_
    refine stk10.trans ?_
    refine XS.istore Xk10.here hx rfl (hb hby d7_19) rfl (l' := #[.val (.ref t), .val (.ref a), .val (.ref dk3), .val (.int (-661027844 : Int32)), .val (.int (14 : Int32))]) rfl ?_
    refine XS.aloadN Xk10.here hx rfl (hb hby d7_21) rfl rfl ?_
    refine stf12 _ ?_
    refine XS.iload Xf12.here hx rfl (hb hby d7_25) rfl ?_
    show Sp p e below Tf12 (mkF m 27 #[.val (.ref t), .val (.ref a), .val (.ref dk3), .val (.int (-661027844 : Int32)), .val (.int (14 : Int32))] [(.int (14 : Int32)), (.ref sl)]) _
    refine Xf12.laload hx (j := (14 : Int32)) (v := (.long (0 : Int64))) (own_eq ef12 Arv13.1) (State.isArrayOf_alike hZ.alike Arv13.2.1) Arv13.2.2 in14 atin14 (g := (mkF m 27 #[.val (.ref t), .val (.ref a), .val (.ref dk3), .val (.int (-661027844 : Int32)), .val (.int (14 : Int32))] [(.int (14 : Int32)), (.ref sl)])) rfl rfl (hb hby d7_27) _ ?_
    show Sp p e below Tf12 (mkF m 28 #[.val (.ref t), .val (.ref a), .val (.ref dk3), .val (.int (-661027844 : Int32)), .val (.int (14 : Int32))] [(.long (0 : Int64))]) _
    refine XS.lconst Xf12.here hx rfl (hb hby d7_28) ?_
    refine XS.lcmp Xf12.here hx rfl (hb hby d7_29) rfl ?_
    refine XS.ifYes Xf12.here hx rfl (pc0 := 30) (pc' := 35) rfl (hb hby d7_30) rfl ((if0 _ _).trans (teq (by decide : (0 : Int32) = (0 : Int32))).1) (by decide) (by decide) ?_
    refine XS.aloadN Xf12.here hx rfl (hb hby d7_35) rfl rfl ?_
    refine stf16 _ ?_
    refine XS.iconst Xf16.here hx rfl (hb hby d7_39) ?_
    refine XS.iadd Xf16.here hx rfl (hb hby d7_40) rfl ?_
    refine XS.aloadN Xf16.here hx rfl (hb hby d7_41) rfl rfl ?_
    refine stf17 _ ?_
    show Sp p e below Tf17 (mkF m 45 #[.val (.ref t), .val (.ref a), .val (.ref dk3), .val (.int (-661027844 : Int32)), .val (.int (14 : Int32))] [(.ref sl), (.int (3 : Int32))]) _
    refine Xf17.arraylength hx (own_eq ef17 Arv13.1) (State.isArrayOf_alike hZ.alike Arv13.2.1) (g := (mkF m 45 #[.val (.ref t), .val (.ref a), .val (.ref dk3), .val (.int (-661027844 : Int32)), .val (.int (14 : Int32))] [(.ref sl), (.int (3 : Int32))])) rfl rfl (hb hby d7_45) _ ?_
    rw [len_of Sv13 Nv13]
    show Sp p e below Tf17 (mkF m 46 #[.val (.ref t), .val (.ref a), .val (.ref dk3), .val (.int (-661027844 : Int32)), .val (.int (14 : Int32))] [(.int (16 : Int32)), (.int (3 : Int32))]) _
    refine XS.iconst Xf17.here hx rfl (hb hby d7_46) ?_
    refine XS.idiv Xf17.here hx rfl (hb hby d7_47) rfl (by decide) ?_
    refine XS.iconst Xf17.here hx rfl (hb hby d7_48) ?_
    refine XS.imul Xf17.here hx rfl (hb hby d7_49) rfl ?_
    refine XS.icmpYes Xf17.here hx rfl (pc0 := 50) (pc' := 65) rfl (hb hby d7_50) rfl (flt (by decide : ¬ ((12 : Int32) < (3 : Int32)))).2.2.2 (by decide) (by decide) ?_
    refine XS.aloadN Xf17.here hx rfl (hb hby d7_65) rfl rfl ?_
    refine XS.aloadN Xf17.here hx rfl (hb hby d7_66) rfl rfl ?_
    refine stk28.trans ?_
    refine XS.aloadN Xk28.here hx rfl (hb hby d7_70) rfl rfl ?_
    refine stf30 _ ?_
    refine XS.iload Xf30.here hx rfl (hb hby d7_74) rfl ?_
    refine XS.iloadN Xf30.here hx rfl (hb hby d7_76) rfl ?_
    refine XS.i2l Xf30.here hx rfl (hb hby d7_77) rfl ?_
    refine XS.bipush Xf30.here hx rfl (hb hby d7_78) ?_
    refine XS.lshl Xf30.here hx rfl (hb hby d7_80) rfl ?_
    refine XS.aloadN Xf30.here hx rfl (hb hby d7_81) rfl rfl ?_
    refine stf31 _ ?_
    refine XS.i2l Xf31.here hx rfl (hb hby d7_85) rfl ?_
    refine XS.lconst Xf31.here hx rfl (hb hby d7_86) ?_
    refine XS.ladd Xf31.here hx rfl (hb hby d7_87) rfl ?_
    refine XS.lor Xf31.here hx rfl (hb hby d7_88) rfl ?_
    show Sp p e below Tf31 (mkF m 89 #[.val (.ref t), .val (.ref a), .val (.ref dk3), .val (.int (-661027844 : Int32)), .val (.int (14 : Int32))] [(.long (-2839092971725389821 : Int64)), (.int (14 : Int32)), (.ref sl)]) _
    refine stw40 _ ?_
    refine XS.aloadN Xw40.here hx rfl (hb hby d7_90) rfl rfl ?_
    refine XS.dup Xw40.here hx rfl (hb hby d7_91) rfl rfl ?_
    refine stf43 _ ?_
    refine XS.iconst Xf43.here hx rfl (hb hby d7_95) ?_
    refine XS.iadd Xf43.here hx rfl (hb hby d7_96) rfl ?_
    refine stp45 _ ?_
    refine XS.aloadN Xp45.here hx rfl (hb hby d7_100) rfl rfl ?_
    refine XS.aloadN Xp45.here hx rfl (hb hby d7_101) rfl rfl ?_
    refine XS.aloadN Xp45.here hx rfl (hb hby d7_102) rfl rfl ?_
    refine stf48 _ ?_
    refine stk59.trans ?_
    refine stp65 _ ?_
    refine XS.aloadN Xp65.here hx rfl (hb hby d7_112) rfl rfl ?_
    refine stf67 _ ?_
    refine XS.aloadN Xf67.here hx rfl (hb hby d7_116) rfl rfl ?_
    refine stf69 _ ?_
    refine XS.iconst Xf69.here hx rfl (hb hby d7_120) ?_
    refine XS.isub Xf69.here hx rfl (hb hby d7_121) rfl ?_
    refine XS.aloadN Xf69.here hx rfl (hb hby d7_122) rfl rfl ?_
    refine stf71 _ ?_
    show Sp p e below Tf71 (mkF m 126 #[.val (.ref t), .val (.ref a), .val (.ref dk3), .val (.int (-661027844 : Int32)), .val (.int (14 : Int32))] [(.int (3 : Int32)), (.int (2 : Int32)), (.ref bk59)]) _
    refine stw78 _ ?_
    refine XS.iconst Xw78.here hx rfl (hb hby d7_127) ?_
    show Sp p e below Tw78 (mkF m 128 #[.val (.ref t), .val (.ref a), .val (.ref dk3), .val (.int (-661027844 : Int32)), .val (.int (14 : Int32))] [(.int (1 : Int32))]) _
    exact retN Xw78 hx (t := .boolean) hret (by simp) (hb hby d7_128) hlv
  · show Q_add2 Z t a b k sl ks en ken bl kbl bk kbk aU cs h0 n0 _ Tw78.heap _
    rw [ew78]
    exact ⟨bk59, kbk59, rfl, Nw78, K79, y_bk59, F80, F81, F82, F83, F84, F88, Vw78, F87, F94, F97⟩
def Q_add3 (Z : State) (t : Addr) (a : Addr) (b : Addr) (k : ClassId) (sl : Addr) (ks : ClassId) (en : Addr) (ken : ClassId) (bl : Addr) (kbl : ClassId) (bk : Addr) (kbk : ClassId) (aU : Addr) (cs : Int32) (h0 : Heap) (n0 : Nat) (v : Option Value) (h : Heap) (L : List Loc) : Prop := ∃ en2 : Addr, ∃ ken2 : ClassId, v = some (.int (1 : Int32)) ∧ Fr n0 L ∧ Keep h0 h [t, sl, bk] ∧ h0.size ≤ en2 ∧ Fld Z h t S1 "slots" "[J" (.ref sl) ∧ Fld Z h t S1 "ends" "[I" (.ref en2) ∧ Fld Z h t S1 "blocks" "[[B" (.ref bl) ∧ Fld Z h t S1 "stored" "I" (.int (4 : Int32)) ∧ Fld Z h t S1 "size" "I" (.int (4 : Int32)) ∧ Arv Z h sl ks .long (16 : Int32) [(.long (0 : Int64)), (.long (0 : Int64)), (.long (0 : Int64)), (.long (0 : Int64)), (.long (0 : Int64)), (.long (0 : Int64)), (.long (0 : Int64)), (.long (0 : Int64)), (.long (0 : Int64)), (.long (0 : Int64)), (.long (0 : Int64)), (.long (0 : Int64)), (.long (-2306841795268444158 : Int64)), (.long (1808655176962146305 : Int64)), (.long (-2839092971725389821 : Int64)), (.long (1750739909502566404 : Int64))] (.long (0 : Int64)) ∧ Arv Z h en2 ken2 .int (4 : Int32) [(.int (1 : Int32)), (.int (2 : Int32)), (.int (3 : Int32)), (.int (4 : Int32))] (.int (0 : Int32)) ∧ Exa Z h en2 "[I" ∧ Arv Z h bl kbl (.array .byte) (1 : Int32) [(.ref bk)] .null ∧ Arv Z h bk kbk .byte (65536 : Int32) [(.int (97 : Int32)), (.int (98 : Int32)), (.int (99 : Int32)), (.int (100 : Int32)), (.int (0 : Int32)), (.int (0 : Int32)), (.int (0 : Int32)), (.int (0 : Int32))] (.int (0 : Int32))
set_option maxRecDepth 65536 in
set_option maxHeartbeats 40000000 in
theorem rm_add3 (l : Launch) (Z : State) (a0 : Array Value) (hw : ∀ d ∈ tables_1, d.before a0 Z = true) (ws : List Jvm.Cond) (t : Addr) (a : Addr) (b : Addr) (k : ClassId) (sl : Addr) (ks : ClassId) (en : Addr) (ken : ClassId) (bl : Addr) (kbl : ClassId) (bk : Addr) (kbk : ClassId) (aU : Addr) (cs : Int32) (h0 : Heap) (n0 : Nat) (Z0 : n0 ≤ h0.size) (O0 : Old Z n0 h0) (f0 : Exa Z h0 t S1) (f1 : Fld Z h0 t S1 "slots" "[J" (.ref sl)) (f2 : Fld Z h0 t S1 "ends" "[I" (.ref en)) (f3 : Fld Z h0 t S1 "blocks" "[[B" (.ref bl)) (f4 : Fld Z h0 t S1 "stored" "I" (.int (3 : Int32))) (f5 : Fld Z h0 t S1 "size" "I" (.int (3 : Int32))) (f6 : Arv Z h0 sl ks .long (16 : Int32) [(.long (0 : Int64)), (.long (0 : Int64)), (.long (0 : Int64)), (.long (0 : Int64)), (.long (0 : Int64)), (.long (0 : Int64)), (.long (0 : Int64)), (.long (0 : Int64)), (.long (0 : Int64)), (.long (0 : Int64)), (.long (0 : Int64)), (.long (0 : Int64)), (.long (-2306841795268444158 : Int64)), (.long (1808655176962146305 : Int64)), (.long (-2839092971725389821 : Int64)), (.long (0 : Int64))] (.long (0 : Int64))) (f7 : Exa Z h0 sl "[J") (f8 : Arv Z h0 en ken .int (3 : Int32) [(.int (1 : Int32)), (.int (2 : Int32)), (.int (3 : Int32))] (.int (0 : Int32))) (f9 : Exa Z h0 en "[I") (f10 : Arv Z h0 bl kbl (.array .byte) (1 : Int32) [(.ref bk)] .null) (f11 : Exa Z h0 bl "[[B") (f12 : Arv Z h0 bk kbk .byte (65536 : Int32) [(.int (97 : Int32)), (.int (98 : Int32)), (.int (99 : Int32)), (.int (0 : Int32)), (.int (0 : Int32)), (.int (0 : Int32)), (.int (0 : Int32)), (.int (0 : Int32))] (.int (0 : Int32))) (f13 : Exa Z h0 bk "[B") (f14 : Exa Z h0 a S0) (f15 : Fld Z h0 a S0 "coder" "B" (.int (0 : Int32))) (f16 : Fld Z h0 a S0 "value" "[B" (.ref b)) (f17 : Arv Z h0 b k .byte (1 : Int32) [(.int (100 : Int32))] (.int (0 : Int32))) (f18 : Exa Z h0 b "[B") (SS : own_start Z aU cs) (gt : n0 ≤ t) (gsl : n0 ≤ sl) (gbk : n0 ≤ bk) :
    MetFree l Y15 (head1 (Jvm.Cond.code Y15 prog_57_method_6_code 5 (some .boolean) :: ws) ({ frames := 5, cells := 2, slots := 13, locals := 77 } : Room)) (fun A_ U => A_ = #[(.ref t), (.ref a)] ∧ Z.Warmed39 U.vm ∧ U.heap = h0) (fun _ _ _ _ _ => True) (fun _ U o_ U' => ∃ v_ L_, o_ = .returned v_ ∧ Q_add3 Z t a b k sl ks en ken bl kbl bk kbk aU cs h0 n0 v_ U'.heap L_ ∧ FrameEnd U o_ U' L_ ({ frames := 5, cells := 2, slots := 13, locals := 77 } : Room).cells ({ frames := 5, cells := 2, slots := 13, locals := 77 } : Room).slots) := by
  refine MetFree.of_bodySF (plainFor_of_name pn_2) hisR ?_
  intro p e s m args below meth c s₁ Bd hml0 hP hK
  obtain ⟨rfl, hZ, hh⟩ := hP
  have hx := Bd.exec
  have hby := Bd.bytes
  have hml : c.maxLocals = 5 := hml0
  have hown : s.vm.findClass S1 = some m.cls := findClass_of_methodNamed Bd.named
  have hnm := (name_of_methodNamed Bd.named Bd.method).1
  have hret := Bd.returns
  have X0 : Stand p l e ({ frames := 5, cells := 2, slots := 13, locals := 77 } : Room) s m #[(.ref t), (.ref a)] below meth c s₁ [] 0 0 := Stand.of_body Bd
  have e0 : s₁.heap = h0 := by rw [← hh, Bd.state]; rfl
  have N0 := Fr.nil n0
  have pre0 : ∀ t_, Sp p e below s₁ (mkF m 0 #[.val (.ref t), .val (.ref a), .unset, .unset, .unset] []) t_ → Sp p e below s₁ (entryFrame m #[(.ref t), (.ref a)] 5) t_ := fun t_ k_ => castTop (ef_7_RR m t a) k_
  obtain ⟨S_U8, S_IN, S_CS, H_CS⟩ := SS
  have F1 := S_U8.ext O0.2
  obtain ⟨Tg2, Xg2, eg2, stg2⟩ := getS2 X0 hx hZ hown (host := "") (Or.inl (tw hw 50 rfl)) Via.refl e0 F1 (g := (mkF m 1 #[.val (.ref t), .val (.ref a), .unset, .unset, .unset] [(.ref a)])) rfl (hb hby d7_1)
  obtain ⟨cqk3, kqk3, qk3a, qk3b, qk3c⟩ := isOf hZ eg2 f14
  obtain ⟨_, _, ⟨Tk3, Lk3, kk3, nk3⟩, -, Xk3, ⟨Lck3, hQk3, lk3, yk3, zk3⟩, stk3⟩ := Xg2.virtualBack hx (y := Y5) (z := Y5) hown (mvT hZ (tw hw 52 rfl)) (mvT hZ (tw hw 53 rfl)) (notFace_of_selects (args := #[]) (mvT hZ (tw hw 55 rfl))) (mvT hZ (tw hw 55 rfl)) (mvT hZ (tw hw 54 rfl)) (by decide) (backOf (W := 0) (rm_getbytes l Z a0 hw [] a b k (100 : Int32) aU cs h0 n0 Z0 O0 f14 f15 f16 f17 f18 ⟨S_U8, S_IN, S_CS, H_CS⟩ (by decide)) hZ (tw hw 56 rfl) (tw hw 38 rfl) (by decide) (by decide)) qk3a qk3c (g := (mkF m 4 #[.val (.ref t), .val (.ref a), .unset, .unset, .unset] [(.ref aU), (.ref a)])) rfl (by rw [hml]; rfl) (Steps.refl _) (argsL := [(.ref aU)]) (rest := []) (lenOf pd__Ljava_nio_charset_Charset___B rfl) rfl (by show 2 * 0 + _ ≤ _; exact Nat.le_of_eq rfl) (hb hby d7_4) (fun _ _ => ⟨rfl, eg2, (by decide : 0 + 1 ≤ _), (by decide : 0 + 1 ≤ _)⟩)
  dsimp only [Pt.U, Pt.locs, Pt.cells, Pt.slots] at Xk3 lk3 yk3 zk3 stk3 hQk3
  subst lk3 yk3 zk3
  obtain ⟨dk3, rfl, Nk3q, Kk3q, Gk3_0, Qk3_0, Qk3_1⟩ := hQk3
  have g_dk3 : n0 ≤ dk3 := Nat.le_trans Z0 Gk3_0
  have y_dk3 : h0.size ≤ dk3 := Nat.le_trans (Nat.le_refl h0.size) Gk3_0
  have K4 : Keep h0 Tk3.heap [t, sl, bk] := (Keep.refl h0 [t, sl, bk]).trans Kk3q all0
  have Nk3 := Fr.app N0 Nk3q
  have Z5 : n0 ≤ Tk3.heap.size := (Nat.le_trans Z0 Kk3q.1)
  have O6 : Old Z n0 Tk3.heap := (O0.keep Kk3q all0)
  obtain ⟨_, _, ⟨Tk7, Lk7, kk7, nk7⟩, -, Xk7, ⟨Lck7, hQk7, lk7, yk7, zk7⟩, stk7⟩ := Jvm.LawKit.callS Xk3 hx (y := Y6) hown (mvT hZ (tw hw 89 rfl)) (mvT hZ (tw hw 90 rfl)) (mvT hZ (tw hw 3 rfl)) (mvT hZ (tw hw 91 rfl)) (by decide) (backOf (W := 0) (rm_hash l Z a0 hw [] dk3 k (100 : Int32) (407625900 : Int32)  Tk3.heap n0 Z5 O6 Qk3_0 own_hash3) hZ (tw hw 91 rfl) (tw hw 3 rfl) (by decide) (by decide)) (g := (mkF m 9 #[.val (.ref t), .val (.ref a), .val (.ref dk3), .unset, .unset] [(.ref dk3)])) rfl (by rw [hml]; rfl) (argsL := [(.ref dk3)]) (rest := []) (lenOf pd___B_I rfl) rfl (by show 2 * 0 + _ ≤ _; exact Nat.le_of_eq rfl) (hb hby d7_9) (fun _ _ => ⟨rfl, rfl, (by decide : 1 + 0 ≤ _), (by decide : 1 + 0 ≤ _)⟩)
  dsimp only [Pt.U, Pt.locs, Pt.cells, Pt.slots] at Xk7 lk7 yk7 zk7 stk7 hQk7
  subst lk7 yk7 zk7
  obtain ⟨rfl, Nk7q, ek7⟩ := hQk7
  have Nk7 := Fr.app Nk3 Nk7q
  have F8 := (f1.keep Kk3q nin0)
  have F9 := (f6.keep Kk3q nin0)
  have F11 := (f0.keep Kk3q)
  obtain ⟨cqk10, qk10, qk10'⟩ := F11.cell
  obtain ⟨_, _, ⟨Tk10, Lk10, kk10, nk10⟩, -, Xk10, ⟨Lck10, hQk10, lk10, yk10, zk10⟩, stk10⟩ := Xk7.privateBack hx (y := Y7) hown (mvT hZ (tw hw 95 rfl)) (mvT hZ (tw hw 96 rfl)) (own_selp (mvT hZ (tw hw 27 rfl)) rfl (Cond.privateMethod_at (mvP hZ (tw hw 97 rfl) (args := #[]))) (mvT hZ (tw hw 96 rfl)) (by decide)) (Cond.privateMethod_at (mvP hZ (tw hw 97 rfl) (args := #[]))) (mvT hZ (tw hw 98 rfl)) (by decide) (backOf (W := 0) (rm_find3 l Z a0 hw [] t dk3 sl ks  Tk3.heap n0 Z5 O6 F8 F9) hZ (tw hw 98 rfl) (tw hw 3 rfl) (by decide) (by decide)) (g := (mkF m 16 #[.val (.ref t), .val (.ref a), .val (.ref dk3), .val (.int (407625900 : Int32)), .unset] [(.int (407625900 : Int32)), (.ref dk3), (.ref t)])) rfl (by rw [hml]; rfl) (Steps.refl _) (a := t) (own_eq ek7 qk10) qk10' (argsL := [(.ref dk3), (.int (407625900 : Int32))]) (rest := []) (lenOf pd___BI_I rfl) rfl (by show 2 * 0 + _ ≤ _; exact Nat.le_of_eq rfl) (hb hby d7_16) (fun _ _ => ⟨rfl, ek7, (by decide : 1 + 0 ≤ _), (by decide : 1 + 0 ≤ _)⟩)
  dsimp only [Pt.U, Pt.locs, Pt.cells, Pt.slots] at Xk10 lk10 yk10 zk10 stk10 hQk10
  subst lk10 yk10 zk10
  obtain ⟨rfl, Nk10q, ek10⟩ := hQk10
  have Nk10 := Fr.app Nk7 Nk10q
  obtain ⟨Tf12, Xf12, ef12, stf12⟩ := getF Xk10 hx hZ hown (host := "") (Or.inl (tw hw 11 rfl)) Via.refl ek10 F8 (g := (mkF m 22 #[.val (.ref t), .val (.ref a), .val (.ref dk3), .val (.int (407625900 : Int32)), .val (.int (15 : Int32))] [(.ref t)])) rfl rfl (hb hby d7_22)
  obtain ⟨clv13, Arv13, qv13, Sv13, Nv13, Hv13, Gv13⟩ := id F9
  have in14 : ¬ ((15 : Int32) < 0 ∨ clv13.slots.size ≤ ((15 : Int32)).toNatClampNeg) := inb_of Sv13 ⟨by decide, by decide⟩
  have atin14 : clv13.slots[((15 : Int32)).toNatClampNeg]? = some (.long (0 : Int64)) := Has.at Hv13 in14 rfl
  have F15 := (f5.keep Kk3q nin0)
  obtain ⟨Tf16, Xf16, ef16, stf16⟩ := getF Xf12 hx hZ hown (host := "") (Or.inl (tw hw 29 rfl)) Via.refl ef12 F15 (g := (mkF m 36 #[.val (.ref t), .val (.ref a), .val (.ref dk3), .val (.int (407625900 : Int32)), .val (.int (15 : Int32))] [(.ref t)])) rfl rfl (hb hby d7_36)
  obtain ⟨Tf17, Xf17, ef17, stf17⟩ := getF Xf16 hx hZ hown (host := "") (Or.inl (tw hw 11 rfl)) Via.refl ef16 F8 (g := (mkF m 42 #[.val (.ref t), .val (.ref a), .val (.ref dk3), .val (.int (407625900 : Int32)), .val (.int (15 : Int32))] [(.ref t), (.int (4 : Int32))])) rfl rfl (hb hby d7_42)
  have F18 := (f4.keep Kk3q nin0)
  have F19 := (f3.keep Kk3q nin0)
  have F20 := (f2.keep Kk3q nin0)
  have F21 := (f10.keep Kk3q nin0)
  have F22 := (f12.keep Kk3q nin0)
  have F24 := (f13.keep Kk3q)
  have ne23 : t ≠ bk := ne_exa F11 F24 (by decide)
  have ne25 : bk ≠ dk3 := Nat.ne_of_lt (Nat.lt_of_lt_of_le f12.lt Gk3_0)
  have F27 := (f11.keep Kk3q)
  have ne26 : bl ≠ bk := ne_exa F27 F24 (by decide)
  obtain ⟨cqk28, qk28, qk28'⟩ := F11.cell
  obtain ⟨_, _, ⟨Tk28, Lk28, kk28, nk28⟩, -, Xk28, ⟨Lck28, hQk28, lk28, yk28, zk28⟩, stk28⟩ := Xf17.privateBack hx (y := Y10) hown (mvT hZ (tw hw 99 rfl)) (mvT hZ (tw hw 100 rfl)) (own_selp (mvT hZ (tw hw 27 rfl)) rfl (Cond.privateMethod_at (mvP hZ (tw hw 101 rfl) (args := #[]))) (mvT hZ (tw hw 100 rfl)) (by decide)) (Cond.privateMethod_at (mvP hZ (tw hw 101 rfl) (args := #[]))) (mvT hZ (tw hw 102 rfl)) (by decide) (backOf (W := 0) (rm_store3 l Z a0 hw [] t dk3 k bl kbl sl en bk kbk  Tk3.heap n0 Z5 O6 F11 F18 F19 Qk3_0 F15 F8 F20 F21 F22 gt gbk ne23 (Ne.symm ne25) ne26) hZ (tw hw 102 rfl) (tw hw 3 rfl) (by decide) (by decide)) (g := (mkF m 67 #[.val (.ref t), .val (.ref a), .val (.ref dk3), .val (.int (407625900 : Int32)), .val (.int (15 : Int32))] [(.ref dk3), (.ref t)])) rfl (by rw [hml]; rfl) (Steps.refl _) (a := t) (own_eq ef17 qk28) qk28' (argsL := [(.ref dk3)]) (rest := []) (lenOf pd___B_V rfl) rfl (by show 2 * 0 + _ ≤ _; exact Nat.le_of_eq rfl) (hb hby d7_67) (fun _ _ => ⟨rfl, ef17, (by decide : 1 + 0 ≤ _), (by decide : 1 + 0 ≤ _)⟩)
  dsimp only [Pt.U, Pt.locs, Pt.cells, Pt.slots] at Xk28 lk28 yk28 zk28 stk28 hQk28
  subst lk28 yk28 zk28
  obtain ⟨rfl, Nk28q, Kk28q, Qk28_0, Qk28_1, Qk28_2, Qk28_3, Qk28_4, Qk28_5⟩ := hQk28
  have K29 : Keep h0 Tk28.heap [t, sl, bk] := K4.trans Kk28q (allS (P := fun x => x ∈ [t, sl, bk] ∨ h0.size ≤ x) (Or.inl (List.mem_of_getElem? (i := 0) rfl)) (allS (P := fun x => x ∈ [t, sl, bk] ∨ h0.size ≤ x) (Or.inl (List.mem_of_getElem? (i := 2) rfl)) all0))
  have Nk28 := Fr.app Nk10 Nk28q
  obtain ⟨Tf30, Xf30, ef30, stf30⟩ := getF Xk28 hx hZ hown (host := "") (Or.inl (tw hw 11 rfl)) Via.refl rfl Qk28_3 (g := (mkF m 71 #[.val (.ref t), .val (.ref a), .val (.ref dk3), .val (.int (407625900 : Int32)), .val (.int (15 : Int32))] [(.ref t)])) rfl rfl (hb hby d7_71)
  obtain ⟨Tf31, Xf31, ef31, stf31⟩ := getF Xf30 hx hZ hown (host := "") (Or.inl (tw hw 29 rfl)) Via.refl ef30 Qk28_2 (g := (mkF m 82 #[.val (.ref t), .val (.ref a), .val (.ref dk3), .val (.int (407625900 : Int32)), .val (.int (15 : Int32))] [(.ref t), (.long (1750739909502566400 : Int64)), (.int (15 : Int32)), (.ref sl)])) rfl rfl (hb hby d7_82)
  have F33 := ((f7.keep Kk3q).keep Kk28q)
  have F34 := (F24.keep Kk28q)
  have ne32 : sl ≠ bk := ne_exa F33 F34 (by decide)
  have F36 := (F11.keep Kk28q)
  have ne35 : sl ≠ t := ne_exa F33 F36 (by decide)
  have F37 := (F9.keep Kk28q (ninS ne35 (ninS ne32 nin0)))
  obtain ⟨clv38, Arv38, qv38, Sv38, Nv38, Hv38, Gv38⟩ := id F37
  have in39 : ¬ ((15 : Int32) < 0 ∨ clv38.slots.size ≤ ((15 : Int32)).toNatClampNeg) := inb_of Sv38 ⟨by decide, by decide⟩
  obtain ⟨Tw40, hw40, Xw40, ew40, Ww40, stw40⟩ := stJ Xf31 hx hZ ef31 Arv38 (j := (15 : Int32)) in39 (g := (mkF m 89 #[.val (.ref t), .val (.ref a), .val (.ref dk3), .val (.int (407625900 : Int32)), .val (.int (15 : Int32))] [(.long (1750739909502566404 : Int64)), (.int (15 : Int32)), (.ref sl)])) rfl rfl (hb hby d7_89)
  have Vw40 : Arv Z hw40 sl ks .long (16 : Int32) [(.long (0 : Int64)), (.long (0 : Int64)), (.long (0 : Int64)), (.long (0 : Int64)), (.long (0 : Int64)), (.long (0 : Int64)), (.long (0 : Int64)), (.long (0 : Int64)), (.long (0 : Int64)), (.long (0 : Int64)), (.long (0 : Int64)), (.long (0 : Int64)), (.long (-2306841795268444158 : Int64)), (.long (1808655176962146305 : Int64)), (.long (-2839092971725389821 : Int64)), (.long (1750739909502566404 : Int64))] (.long (0 : Int64)) := Arv.set Arv38 qv38 Sv38 Nv38 Hv38 Gv38 rfl Ww40 15 rfl (Nat.le_of_ble_eq_true rfl)
  have Nw40 := Fr.snoc Xw40 Nk28 gsl
  have K41 : Keep h0 hw40 [t, sl, bk] := K29.wr Ww40 (Or.inl (List.mem_of_getElem? (i := 1) rfl))
  have F42 := (Qk28_2.other Ww40 (Or.inl (Ne.symm ne35)))
  obtain ⟨Tf43, Xf43, ef43, stf43⟩ := getF Xw40 hx hZ hown (host := "") (Or.inl (tw hw 29 rfl)) Via.refl ew40 F42 (g := (mkF m 92 #[.val (.ref t), .val (.ref a), .val (.ref dk3), .val (.int (407625900 : Int32)), .val (.int (15 : Int32))] [(.ref t), (.ref t)])) rfl rfl (hb hby d7_92)
  have F44 := (F36.wr Ww40)
  obtain ⟨Tp45, hp45, Xp45, ep45, Wp45, stp45⟩ := putF Xf43 hx hZ hown (host := "") (Or.inl (tw hw 29 rfl)) Via.refl ef43 F42 F44 (Or.inl (tw hw 30 rfl)) (tw hw 2 rfl) (ty := .int) (by decide) rfl rfl (g := (mkF m 97 #[.val (.ref t), .val (.ref a), .val (.ref dk3), .val (.int (407625900 : Int32)), .val (.int (15 : Int32))] [(.int (4 : Int32)), (.ref t)])) rfl rfl (hb hby d7_97)
  have Fwp45 : Fld Z hp45 t S1 "size" "I" (.int (4 : Int32)) := F42.same Wp45
  have Np45 := Fr.snoc Xp45 Nw40 gt
  have K46 : Keep h0 hp45 [t, sl, bk] := K41.wr Wp45 (Or.inl (List.mem_of_getElem? (i := 0) rfl))
  have F47 := ((Qk28_4.other Ww40 (Or.inl (Ne.symm ne35))).other Wp45 (Or.inr (slot_ne (Or.inl (tw hw 15 rfl)) (Or.inl (tw hw 30 rfl)) (by decide) (t := (.array .int)) (t' := .int) (by decide) (by decide))))
  obtain ⟨Tf48, Xf48, ef48, stf48⟩ := getF Xp45 hx hZ hown (host := "") (Or.inl (tw hw 14 rfl)) Via.refl ep45 F47 (g := (mkF m 103 #[.val (.ref t), .val (.ref a), .val (.ref dk3), .val (.int (407625900 : Int32)), .val (.int (15 : Int32))] [(.ref t), (.ref t), (.ref t)])) rfl rfl (hb hby d7_103)
  have F49 := (F44.wr Wp45)
  have F51 := ((((f9.keep Kk3q).keep Kk28q).wr Ww40).wr Wp45)
  have F52 := ((F34.wr Ww40).wr Wp45)
  have ne50 : en ≠ bk := ne_exa F51 F52 (by decide)
  have ne53 : en ≠ t := ne_exa F51 F49 (by decide)
  have F55 := ((F33.wr Ww40).wr Wp45)
  have ne54 : en ≠ sl := ne_exa F51 F55 (by decide)
  have F56 := ((((f8.keep Kk3q nin0).keep Kk28q (ninS ne53 (ninS ne50 nin0))).other Ww40 ne54).other Wp45 ne53)
  have Z57 : n0 ≤ hp45.size := (Nat.le_trans (Nat.le_trans (Nat.le_trans Z5 Kk28q.1) (Keep.of_wr Ww40).1) (Keep.of_wr Wp45).1)
  have O58 : Old Z n0 hp45 := (((O6.keep Kk28q (allS gt (allS gbk all0))).wr Ww40 gsl).wr Wp45 gt)
  obtain ⟨cqk59, kqk59, qk59a, qk59b, qk59c⟩ := isOf hZ ef48 F49
  obtain ⟨_, _, ⟨Tk59, Lk59, kk59, nk59⟩, -, Xk59, ⟨Lck59, hQk59, lk59, yk59, zk59⟩, stk59⟩ := Xf48.virtualBack hx (y := Y13) (z := Y13) hown (mvT hZ (tw hw 116 rfl)) (mvT hZ (tw hw 25 rfl)) (notFace_of_selects (args := #[]) (mvT hZ (tw hw 27 rfl))) (mvT hZ (tw hw 27 rfl)) (mvT hZ (tw hw 26 rfl)) (by decide) (backOf (W := 1) (rm_fitg l Z a0 hw [] t en ken (3 : Int32) [(.int (1 : Int32)), (.int (2 : Int32)), (.int (3 : Int32))] (4 : Int32) (4 : Int32)  hp45 n0 Z57 O58 F49 Fwp45 F56 (by decide) (by decide) (by decide) (by decide) (by decide) (by decide) (by decide) (by decide) (by decide)) hZ (tw hw 28 rfl) (tw hw 3 rfl) (by decide) (by decide)) qk59a qk59c (g := (mkF m 106 #[.val (.ref t), .val (.ref a), .val (.ref dk3), .val (.int (407625900 : Int32)), .val (.int (15 : Int32))] [(.ref en), (.ref t), (.ref t)])) rfl (by rw [hml]; rfl) (Steps.refl _) (argsL := [(.ref en)]) (rest := [(.ref t)]) (lenOf pd___I__I rfl) rfl (by show 2 * 0 + _ ≤ _; exact Nat.le_of_eq rfl) (hb hby d7_106) (fun _ _ => ⟨rfl, ef48, (by decide : 1 + 1 ≤ _), (by decide : 1 + 12 ≤ _)⟩)
  dsimp only [Pt.U, Pt.locs, Pt.cells, Pt.slots] at Xk59 lk59 yk59 zk59 stk59 hQk59
  subst lk59 yk59 zk59
  obtain ⟨bk59, kbk59, rfl, Nk59q, Kk59q, Gk59_0, Qk59_0, Qk59_1⟩ := hQk59
  have Y60 : h0.size ≤ hp45.size := (Nat.le_trans (Nat.le_trans (Nat.le_trans (Nat.le_trans (Nat.le_refl h0.size) Kk3q.1) Kk28q.1) (Keep.of_wr Ww40).1) (Keep.of_wr Wp45).1)
  have g_bk59 : n0 ≤ bk59 := Nat.le_trans Z57 Gk59_0
  have y_bk59 : h0.size ≤ bk59 := Nat.le_trans Y60 Gk59_0
  have K61 : Keep h0 Tk59.heap [t, sl, bk] := K46.trans Kk59q all0
  have vp62 : Arv Z Tk59.heap bk59 kbk59 .int (4 : Int32) [(.int (1 : Int32)), (.int (2 : Int32)), (.int (3 : Int32)), (.int (0 : Int32))] (.int (0 : Int32)) := Qk59_0.pad (pad_rep [(.int (1 : Int32)), (.int (2 : Int32)), (.int (3 : Int32))] (.int (0 : Int32)) 1)
  have Nk59 := Fr.app Np45 Nk59q
  have F63 := (F47.keep Kk59q nin0)
  have F64 := (F49.keep Kk59q)
  obtain ⟨Tp65, hp65, Xp65, ep65, Wp65, stp65⟩ := putF Xk59 hx hZ hown (host := "") (Or.inl (tw hw 14 rfl)) Via.refl rfl F63 F64 (Or.inl (tw hw 15 rfl)) (tw hw 2 rfl) (ty := (.array .int)) (by decide) rfl rfl (g := (mkF m 109 #[.val (.ref t), .val (.ref a), .val (.ref dk3), .val (.int (407625900 : Int32)), .val (.int (15 : Int32))] [(.ref bk59), (.ref t)])) rfl rfl (hb hby d7_109)
  have Fwp65 : Fld Z hp65 t S1 "ends" "[I" (.ref bk59) := F63.same Wp65
  have Np65 := Fr.snoc Xp65 Nk59 gt
  have K66 : Keep h0 hp65 [t, sl, bk] := K61.wr Wp65 (Or.inl (List.mem_of_getElem? (i := 0) rfl))
  obtain ⟨Tf67, Xf67, ef67, stf67⟩ := getF Xp65 hx hZ hown (host := "") (Or.inl (tw hw 14 rfl)) Via.refl ep65 Fwp65 (g := (mkF m 113 #[.val (.ref t), .val (.ref a), .val (.ref dk3), .val (.int (407625900 : Int32)), .val (.int (15 : Int32))] [(.ref t)])) rfl rfl (hb hby d7_113)
  have F68 := ((Fwp45.keep Kk59q nin0).other Wp65 (Or.inr (slot_ne (Or.inl (tw hw 30 rfl)) (Or.inl (tw hw 15 rfl)) (by decide) (t := .int) (t' := (.array .int)) (by decide) (by decide))))
  obtain ⟨Tf69, Xf69, ef69, stf69⟩ := getF Xf67 hx hZ hown (host := "") (Or.inl (tw hw 29 rfl)) Via.refl ef67 F68 (g := (mkF m 117 #[.val (.ref t), .val (.ref a), .val (.ref dk3), .val (.int (407625900 : Int32)), .val (.int (15 : Int32))] [(.ref t), (.ref bk59)])) rfl rfl (hb hby d7_117)
  have F70 := ((((Qk28_0.other Ww40 (Or.inl (Ne.symm ne35))).other Wp45 (Or.inr (slot_ne (Or.inl (tw hw 105 rfl)) (Or.inl (tw hw 30 rfl)) (by decide) (t := .int) (t' := .int) (by decide) (by decide)))).keep Kk59q nin0).other Wp65 (Or.inr (slot_ne (Or.inl (tw hw 105 rfl)) (Or.inl (tw hw 15 rfl)) (by decide) (t := .int) (t' := (.array .int)) (by decide) (by decide))))
  obtain ⟨Tf71, Xf71, ef71, stf71⟩ := getF Xf69 hx hZ hown (host := "") (Or.inl (tw hw 104 rfl)) Via.refl ef69 F70 (g := (mkF m 123 #[.val (.ref t), .val (.ref a), .val (.ref dk3), .val (.int (407625900 : Int32)), .val (.int (15 : Int32))] [(.ref t), (.int (3 : Int32)), (.ref bk59)])) rfl rfl (hb hby d7_123)
  have F73 := (Qk59_1.wr Wp65)
  have F74 := (F64.wr Wp65)
  have ne72 : bk59 ≠ t := ne_exa F73 F74 (by decide)
  have F75 := (vp62.other Wp65 ne72)
  obtain ⟨clv76, Arv76, qv76, Sv76, Nv76, Hv76, Gv76⟩ := id F75
  have in77 : ¬ ((3 : Int32) < 0 ∨ clv76.slots.size ≤ ((3 : Int32)).toNatClampNeg) := inb_of Sv76 ⟨by decide, by decide⟩
  obtain ⟨Tw78, hw78, Xw78, ew78, Ww78, stw78⟩ := stI Xf71 hx hZ ef71 Arv76 (j := (3 : Int32)) in77 (g := (mkF m 126 #[.val (.ref t), .val (.ref a), .val (.ref dk3), .val (.int (407625900 : Int32)), .val (.int (15 : Int32))] [(.int (4 : Int32)), (.int (3 : Int32)), (.ref bk59)])) rfl rfl (hb hby d7_126)
  have Vw78 : Arv Z hw78 bk59 kbk59 .int (4 : Int32) [(.int (1 : Int32)), (.int (2 : Int32)), (.int (3 : Int32)), (.int (4 : Int32))] (.int (0 : Int32)) := Arv.set Arv76 qv76 Sv76 Nv76 Hv76 Gv76 rfl Ww78 3 rfl (Nat.le_of_ble_eq_true rfl)
  have Nw78 := Fr.snoc Xw78 Np65 g_bk59
  have K79 : Keep h0 hw78 [t, sl, bk] := K66.wr Ww78 (Or.inr y_bk59)
  have F80 := (((((Qk28_3.other Ww40 (Or.inl (Ne.symm ne35))).other Wp45 (Or.inr (slot_ne (Or.inl (tw hw 12 rfl)) (Or.inl (tw hw 30 rfl)) (by decide) (t := (.array .long)) (t' := .int) (by decide) (by decide)))).keep Kk59q nin0).other Wp65 (Or.inr (slot_ne (Or.inl (tw hw 12 rfl)) (Or.inl (tw hw 15 rfl)) (by decide) (t := (.array .long)) (t' := (.array .int)) (by decide) (by decide)))).other Ww78 (Or.inl (Ne.symm ne72)))
  have F81 := (Fwp65.other Ww78 (Or.inl (Ne.symm ne72)))
  have F82 := (((((Qk28_1.other Ww40 (Or.inl (Ne.symm ne35))).other Wp45 (Or.inr (slot_ne (Or.inl (tw hw 19 rfl)) (Or.inl (tw hw 30 rfl)) (by decide) (t := (.array (.array .byte))) (t' := .int) (by decide) (by decide)))).keep Kk59q nin0).other Wp65 (Or.inr (slot_ne (Or.inl (tw hw 19 rfl)) (Or.inl (tw hw 15 rfl)) (by decide) (t := (.array (.array .byte))) (t' := (.array .int)) (by decide) (by decide)))).other Ww78 (Or.inl (Ne.symm ne72)))
  have F83 := (F70.other Ww78 (Or.inl (Ne.symm ne72)))
  have F84 := (F68.other Ww78 (Or.inl (Ne.symm ne72)))
  have F86 := (((F55.keep Kk59q).wr Wp65).wr Ww78)
  have F87 := (F73.wr Ww78)
  have ne85 : sl ≠ bk59 := ne_exa F86 F87 (by decide)
  have F88 := ((((Vw40.other Wp45 ne35).keep Kk59q nin0).other Wp65 ne35).other Ww78 ne85)
  have F90 := ((((((F27.keep Kk28q).wr Ww40).wr Wp45).keep Kk59q).wr Wp65).wr Ww78)
  have F91 := (F74.wr Ww78)
  have ne89 : bl ≠ t := ne_exa F90 F91 (by decide)
  have ne92 : bl ≠ sl := ne_exa F90 F86 (by decide)
  have ne93 : bl ≠ bk59 := ne_exa F90 F87 (by decide)
  have F94 := ((((((F21.keep Kk28q (ninS ne89 (ninS ne26 nin0))).other Ww40 ne92).other Wp45 ne89).keep Kk59q nin0).other Wp65 ne89).other Ww78 ne93)
  have F96 := (((F52.keep Kk59q).wr Wp65).wr Ww78)
  have ne95 : bk ≠ bk59 := ne_exa F96 F87 (by decide)
  have F97 := (((((Qk28_5.other Ww40 (Ne.symm ne32)).other Wp45 (Ne.symm ne23)).keep Kk59q nin0).other Wp65 (Ne.symm ne23)).other Ww78 ne95)
  obtain ⟨fs, hlv, hrun, hended, hW, hsame⟩ := Xw78.leave (v := some (.int (1 : Int32))) (fun h => by rw [hret] at h; cases h)
  refine ⟨_, _, pre0 _ ?_, hrun, hended, _, _, rfl, ?_, ⟨_, rfl⟩, hW, hsame.mono (by decide) (by decide)⟩
  · refine XS.aloadN X0.here hx rfl (hb hby d7_0) rfl rfl ?_
    show Sp p e below s₁ (mkF m 1 #[.val (.ref t), .val (.ref a), .unset, .unset, .unset] [(.ref a)]) _
    refine stg2 _ ?_
    refine stk3.trans ?_
    refine XS.astoreN Xk3.here hx rfl (hb hby d7_7) rfl rfl (l' := #[.val (.ref t), .val (.ref a), .val (.ref dk3), .unset, .unset]) rfl ?_
    refine XS.aloadN Xk3.here hx rfl (hb hby d7_8) rfl rfl ?_
    refine stk7 _ ?_
    refine XS.istoreN Xk7.here hx rfl (hb hby d7_12) rfl (l' := #[.val (.ref t), .val (.ref a), .val (.ref dk3), .val (.int (407625900 : Int32)), .unset]) rfl ?_
    refine XS.aloadN Xk7.here hx rfl (hb hby d7_13) rfl rfl ?_
    refine XS.aloadN Xk7.here hx rfl (hb hby d7_14) rfl rfl ?_
    refine XS.iloadN Xk7.here hx rfl (hb hby d7_15) rfl ?_
    refine stk10.trans ?_
    refine XS.istore Xk10.here hx rfl (hb hby d7_19) rfl (l' := #[.val (.ref t), .val (.ref a), .val (.ref dk3), .val (.int (407625900 : Int32)), .val (.int (15 : Int32))]) rfl ?_
    refine XS.aloadN Xk10.here hx rfl (hb hby d7_21) rfl rfl ?_
    refine stf12 _ ?_
    refine XS.iload Xf12.here hx rfl (hb hby d7_25) rfl ?_
    show Sp p e below Tf12 (mkF m 27 #[.val (.ref t), .val (.ref a), .val (.ref dk3), .val (.int (407625900 : Int32)), .val (.int (15 : Int32))] [(.int (15 : Int32)), (.ref sl)]) _
    refine Xf12.laload hx (j := (15 : Int32)) (v := (.long (0 : Int64))) (own_eq ef12 Arv13.1) (State.isArrayOf_alike hZ.alike Arv13.2.1) Arv13.2.2 in14 atin14 (g := (mkF m 27 #[.val (.ref t), .val (.ref a), .val (.ref dk3), .val (.int (407625900 : Int32)), .val (.int (15 : Int32))] [(.int (15 : Int32)), (.ref sl)])) rfl rfl (hb hby d7_27) _ ?_
    show Sp p e below Tf12 (mkF m 28 #[.val (.ref t), .val (.ref a), .val (.ref dk3), .val (.int (407625900 : Int32)), .val (.int (15 : Int32))] [(.long (0 : Int64))]) _
    refine XS.lconst Xf12.here hx rfl (hb hby d7_28) ?_
    refine XS.lcmp Xf12.here hx rfl (hb hby d7_29) rfl ?_
    refine XS.ifYes Xf12.here hx rfl (pc0 := 30) (pc' := 35) rfl (hb hby d7_30) rfl ((if0 _ _).trans (teq (by decide : (0 : Int32) = (0 : Int32))).1) (by decide) (by decide) ?_
    refine XS.aloadN Xf12.here hx rfl (hb hby d7_35) rfl rfl ?_
    refine stf16 _ ?_
    refine XS.iconst Xf16.here hx rfl (hb hby d7_39) ?_
    refine XS.iadd Xf16.here hx rfl (hb hby d7_40) rfl ?_
    refine XS.aloadN Xf16.here hx rfl (hb hby d7_41) rfl rfl ?_
    refine stf17 _ ?_
    show Sp p e below Tf17 (mkF m 45 #[.val (.ref t), .val (.ref a), .val (.ref dk3), .val (.int (407625900 : Int32)), .val (.int (15 : Int32))] [(.ref sl), (.int (4 : Int32))]) _
    refine Xf17.arraylength hx (own_eq ef17 Arv13.1) (State.isArrayOf_alike hZ.alike Arv13.2.1) (g := (mkF m 45 #[.val (.ref t), .val (.ref a), .val (.ref dk3), .val (.int (407625900 : Int32)), .val (.int (15 : Int32))] [(.ref sl), (.int (4 : Int32))])) rfl rfl (hb hby d7_45) _ ?_
    rw [len_of Sv13 Nv13]
    show Sp p e below Tf17 (mkF m 46 #[.val (.ref t), .val (.ref a), .val (.ref dk3), .val (.int (407625900 : Int32)), .val (.int (15 : Int32))] [(.int (16 : Int32)), (.int (4 : Int32))]) _
    refine XS.iconst Xf17.here hx rfl (hb hby d7_46) ?_
    refine XS.idiv Xf17.here hx rfl (hb hby d7_47) rfl (by decide) ?_
    refine XS.iconst Xf17.here hx rfl (hb hby d7_48) ?_
    refine XS.imul Xf17.here hx rfl (hb hby d7_49) rfl ?_
    refine XS.icmpYes Xf17.here hx rfl (pc0 := 50) (pc' := 65) rfl (hb hby d7_50) rfl (flt (by decide : ¬ ((12 : Int32) < (4 : Int32)))).2.2.2 (by decide) (by decide) ?_
    refine XS.aloadN Xf17.here hx rfl (hb hby d7_65) rfl rfl ?_
    refine XS.aloadN Xf17.here hx rfl (hb hby d7_66) rfl rfl ?_
    refine stk28.trans ?_
    refine XS.aloadN Xk28.here hx rfl (hb hby d7_70) rfl rfl ?_
    refine stf30 _ ?_
    refine XS.iload Xf30.here hx rfl (hb hby d7_74) rfl ?_
    refine XS.iloadN Xf30.here hx rfl (hb hby d7_76) rfl ?_
    refine XS.i2l Xf30.here hx rfl (hb hby d7_77) rfl ?_
    refine XS.bipush Xf30.here hx rfl (hb hby d7_78) ?_
    refine XS.lshl Xf30.here hx rfl (hb hby d7_80) rfl ?_
    refine XS.aloadN Xf30.here hx rfl (hb hby d7_81) rfl rfl ?_
    refine stf31 _ ?_
    refine XS.i2l Xf31.here hx rfl (hb hby d7_85) rfl ?_
    refine XS.lconst Xf31.here hx rfl (hb hby d7_86) ?_
    refine XS.ladd Xf31.here hx rfl (hb hby d7_87) rfl ?_
    refine XS.lor Xf31.here hx rfl (hb hby d7_88) rfl ?_
    show Sp p e below Tf31 (mkF m 89 #[.val (.ref t), .val (.ref a), .val (.ref dk3), .val (.int (407625900 : Int32)), .val (.int (15 : Int32))] [(.long (1750739909502566404 : Int64)), (.int (15 : Int32)), (.ref sl)]) _
    refine stw40 _ ?_
    refine XS.aloadN Xw40.here hx rfl (hb hby d7_90) rfl rfl ?_
    refine XS.dup Xw40.here hx rfl (hb hby d7_91) rfl rfl ?_
    refine stf43 _ ?_
    refine XS.iconst Xf43.here hx rfl (hb hby d7_95) ?_
    refine XS.iadd Xf43.here hx rfl (hb hby d7_96) rfl ?_
    refine stp45 _ ?_
    refine XS.aloadN Xp45.here hx rfl (hb hby d7_100) rfl rfl ?_
    refine XS.aloadN Xp45.here hx rfl (hb hby d7_101) rfl rfl ?_
    refine XS.aloadN Xp45.here hx rfl (hb hby d7_102) rfl rfl ?_
    refine stf48 _ ?_
    refine stk59.trans ?_
    refine stp65 _ ?_
    refine XS.aloadN Xp65.here hx rfl (hb hby d7_112) rfl rfl ?_
    refine stf67 _ ?_
    refine XS.aloadN Xf67.here hx rfl (hb hby d7_116) rfl rfl ?_
    refine stf69 _ ?_
    refine XS.iconst Xf69.here hx rfl (hb hby d7_120) ?_
    refine XS.isub Xf69.here hx rfl (hb hby d7_121) rfl ?_
    refine XS.aloadN Xf69.here hx rfl (hb hby d7_122) rfl rfl ?_
    refine stf71 _ ?_
    show Sp p e below Tf71 (mkF m 126 #[.val (.ref t), .val (.ref a), .val (.ref dk3), .val (.int (407625900 : Int32)), .val (.int (15 : Int32))] [(.int (4 : Int32)), (.int (3 : Int32)), (.ref bk59)]) _
    refine stw78 _ ?_
    refine XS.iconst Xw78.here hx rfl (hb hby d7_127) ?_
    show Sp p e below Tw78 (mkF m 128 #[.val (.ref t), .val (.ref a), .val (.ref dk3), .val (.int (407625900 : Int32)), .val (.int (15 : Int32))] [(.int (1 : Int32))]) _
    exact retN Xw78 hx (t := .boolean) hret (by simp) (hb hby d7_128) hlv
  · show Q_add3 Z t a b k sl ks en ken bl kbl bk kbk aU cs h0 n0 _ Tw78.heap _
    rw [ew78]
    exact ⟨bk59, kbk59, rfl, Nw78, K79, y_bk59, F80, F81, F82, F83, F84, F88, Vw78, F87, F94, F97⟩
def Q_add4 (Z : State) (t : Addr) (a : Addr) (b : Addr) (k : ClassId) (sl : Addr) (ks : ClassId) (en : Addr) (ken : ClassId) (bl : Addr) (kbl : ClassId) (bk : Addr) (kbk : ClassId) (aU : Addr) (cs : Int32) (h0 : Heap) (n0 : Nat) (v : Option Value) (h : Heap) (L : List Loc) : Prop := ∃ en2 : Addr, ∃ ken2 : ClassId, v = some (.int (1 : Int32)) ∧ Fr n0 L ∧ Keep h0 h [t, sl, bk] ∧ h0.size ≤ en2 ∧ Fld Z h t S1 "slots" "[J" (.ref sl) ∧ Fld Z h t S1 "ends" "[I" (.ref en2) ∧ Fld Z h t S1 "blocks" "[[B" (.ref bl) ∧ Fld Z h t S1 "stored" "I" (.int (5 : Int32)) ∧ Fld Z h t S1 "size" "I" (.int (5 : Int32)) ∧ Arv Z h sl ks .long (16 : Int32) [(.long (0 : Int64)), (.long (0 : Int64)), (.long (0 : Int64)), (.long (0 : Int64)), (.long (0 : Int64)), (.long (3719577833094250501 : Int64)), (.long (0 : Int64)), (.long (0 : Int64)), (.long (0 : Int64)), (.long (0 : Int64)), (.long (0 : Int64)), (.long (0 : Int64)), (.long (-2306841795268444158 : Int64)), (.long (1808655176962146305 : Int64)), (.long (-2839092971725389821 : Int64)), (.long (1750739909502566404 : Int64))] (.long (0 : Int64)) ∧ Arv Z h en2 ken2 .int (6 : Int32) [(.int (1 : Int32)), (.int (2 : Int32)), (.int (3 : Int32)), (.int (4 : Int32)), (.int (5 : Int32)), (.int (0 : Int32))] (.int (0 : Int32)) ∧ Exa Z h en2 "[I" ∧ Arv Z h bl kbl (.array .byte) (1 : Int32) [(.ref bk)] .null ∧ Arv Z h bk kbk .byte (65536 : Int32) [(.int (97 : Int32)), (.int (98 : Int32)), (.int (99 : Int32)), (.int (100 : Int32)), (.int (101 : Int32)), (.int (0 : Int32)), (.int (0 : Int32)), (.int (0 : Int32))] (.int (0 : Int32))
set_option maxRecDepth 65536 in
set_option maxHeartbeats 40000000 in
theorem rm_add4 (l : Launch) (Z : State) (a0 : Array Value) (hw : ∀ d ∈ tables_1, d.before a0 Z = true) (ws : List Jvm.Cond) (t : Addr) (a : Addr) (b : Addr) (k : ClassId) (sl : Addr) (ks : ClassId) (en : Addr) (ken : ClassId) (bl : Addr) (kbl : ClassId) (bk : Addr) (kbk : ClassId) (aU : Addr) (cs : Int32) (h0 : Heap) (n0 : Nat) (Z0 : n0 ≤ h0.size) (O0 : Old Z n0 h0) (f0 : Exa Z h0 t S1) (f1 : Fld Z h0 t S1 "slots" "[J" (.ref sl)) (f2 : Fld Z h0 t S1 "ends" "[I" (.ref en)) (f3 : Fld Z h0 t S1 "blocks" "[[B" (.ref bl)) (f4 : Fld Z h0 t S1 "stored" "I" (.int (4 : Int32))) (f5 : Fld Z h0 t S1 "size" "I" (.int (4 : Int32))) (f6 : Arv Z h0 sl ks .long (16 : Int32) [(.long (0 : Int64)), (.long (0 : Int64)), (.long (0 : Int64)), (.long (0 : Int64)), (.long (0 : Int64)), (.long (0 : Int64)), (.long (0 : Int64)), (.long (0 : Int64)), (.long (0 : Int64)), (.long (0 : Int64)), (.long (0 : Int64)), (.long (0 : Int64)), (.long (-2306841795268444158 : Int64)), (.long (1808655176962146305 : Int64)), (.long (-2839092971725389821 : Int64)), (.long (1750739909502566404 : Int64))] (.long (0 : Int64))) (f7 : Exa Z h0 sl "[J") (f8 : Arv Z h0 en ken .int (4 : Int32) [(.int (1 : Int32)), (.int (2 : Int32)), (.int (3 : Int32)), (.int (4 : Int32))] (.int (0 : Int32))) (f9 : Exa Z h0 en "[I") (f10 : Arv Z h0 bl kbl (.array .byte) (1 : Int32) [(.ref bk)] .null) (f11 : Exa Z h0 bl "[[B") (f12 : Arv Z h0 bk kbk .byte (65536 : Int32) [(.int (97 : Int32)), (.int (98 : Int32)), (.int (99 : Int32)), (.int (100 : Int32)), (.int (0 : Int32)), (.int (0 : Int32)), (.int (0 : Int32)), (.int (0 : Int32))] (.int (0 : Int32))) (f13 : Exa Z h0 bk "[B") (f14 : Exa Z h0 a S0) (f15 : Fld Z h0 a S0 "coder" "B" (.int (0 : Int32))) (f16 : Fld Z h0 a S0 "value" "[B" (.ref b)) (f17 : Arv Z h0 b k .byte (1 : Int32) [(.int (101 : Int32))] (.int (0 : Int32))) (f18 : Exa Z h0 b "[B") (SS : own_start Z aU cs) (gt : n0 ≤ t) (gsl : n0 ≤ sl) (gbk : n0 ≤ bk) :
    MetFree l Y15 (head1 (Jvm.Cond.code Y15 prog_57_method_6_code 5 (some .boolean) :: ws) ({ frames := 5, cells := 2, slots := 13, locals := 77 } : Room)) (fun A_ U => A_ = #[(.ref t), (.ref a)] ∧ Z.Warmed39 U.vm ∧ U.heap = h0) (fun _ _ _ _ _ => True) (fun _ U o_ U' => ∃ v_ L_, o_ = .returned v_ ∧ Q_add4 Z t a b k sl ks en ken bl kbl bk kbk aU cs h0 n0 v_ U'.heap L_ ∧ FrameEnd U o_ U' L_ ({ frames := 5, cells := 2, slots := 13, locals := 77 } : Room).cells ({ frames := 5, cells := 2, slots := 13, locals := 77 } : Room).slots) := by
  refine MetFree.of_bodySF (plainFor_of_name pn_2) hisR ?_
  intro p e s m args below meth c s₁ Bd hml0 hP hK
  obtain ⟨rfl, hZ, hh⟩ := hP
  have hx := Bd.exec
  have hby := Bd.bytes
  have hml : c.maxLocals = 5 := hml0
  have hown : s.vm.findClass S1 = some m.cls := findClass_of_methodNamed Bd.named
  have hnm := (name_of_methodNamed Bd.named Bd.method).1
  have hret := Bd.returns
  have X0 : Stand p l e ({ frames := 5, cells := 2, slots := 13, locals := 77 } : Room) s m #[(.ref t), (.ref a)] below meth c s₁ [] 0 0 := Stand.of_body Bd
  have e0 : s₁.heap = h0 := by rw [← hh, Bd.state]; rfl
  have N0 := Fr.nil n0
  have pre0 : ∀ t_, Sp p e below s₁ (mkF m 0 #[.val (.ref t), .val (.ref a), .unset, .unset, .unset] []) t_ → Sp p e below s₁ (entryFrame m #[(.ref t), (.ref a)] 5) t_ := fun t_ k_ => castTop (ef_7_RR m t a) k_
  obtain ⟨S_U8, S_IN, S_CS, H_CS⟩ := SS
  have F1 := S_U8.ext O0.2
  obtain ⟨Tg2, Xg2, eg2, stg2⟩ := getS2 X0 hx hZ hown (host := "") (Or.inl (tw hw 50 rfl)) Via.refl e0 F1 (g := (mkF m 1 #[.val (.ref t), .val (.ref a), .unset, .unset, .unset] [(.ref a)])) rfl (hb hby d7_1)
  obtain ⟨cqk3, kqk3, qk3a, qk3b, qk3c⟩ := isOf hZ eg2 f14
  obtain ⟨_, _, ⟨Tk3, Lk3, kk3, nk3⟩, -, Xk3, ⟨Lck3, hQk3, lk3, yk3, zk3⟩, stk3⟩ := Xg2.virtualBack hx (y := Y5) (z := Y5) hown (mvT hZ (tw hw 52 rfl)) (mvT hZ (tw hw 53 rfl)) (notFace_of_selects (args := #[]) (mvT hZ (tw hw 55 rfl))) (mvT hZ (tw hw 55 rfl)) (mvT hZ (tw hw 54 rfl)) (by decide) (backOf (W := 0) (rm_getbytes l Z a0 hw [] a b k (101 : Int32) aU cs h0 n0 Z0 O0 f14 f15 f16 f17 f18 ⟨S_U8, S_IN, S_CS, H_CS⟩ (by decide)) hZ (tw hw 56 rfl) (tw hw 38 rfl) (by decide) (by decide)) qk3a qk3c (g := (mkF m 4 #[.val (.ref t), .val (.ref a), .unset, .unset, .unset] [(.ref aU), (.ref a)])) rfl (by rw [hml]; rfl) (Steps.refl _) (argsL := [(.ref aU)]) (rest := []) (lenOf pd__Ljava_nio_charset_Charset___B rfl) rfl (by show 2 * 0 + _ ≤ _; exact Nat.le_of_eq rfl) (hb hby d7_4) (fun _ _ => ⟨rfl, eg2, (by decide : 0 + 1 ≤ _), (by decide : 0 + 1 ≤ _)⟩)
  dsimp only [Pt.U, Pt.locs, Pt.cells, Pt.slots] at Xk3 lk3 yk3 zk3 stk3 hQk3
  subst lk3 yk3 zk3
  obtain ⟨dk3, rfl, Nk3q, Kk3q, Gk3_0, Qk3_0, Qk3_1⟩ := hQk3
  have g_dk3 : n0 ≤ dk3 := Nat.le_trans Z0 Gk3_0
  have y_dk3 : h0.size ≤ dk3 := Nat.le_trans (Nat.le_refl h0.size) Gk3_0
  have K4 : Keep h0 Tk3.heap [t, sl, bk] := (Keep.refl h0 [t, sl, bk]).trans Kk3q all0
  have Nk3 := Fr.app N0 Nk3q
  have Z5 : n0 ≤ Tk3.heap.size := (Nat.le_trans Z0 Kk3q.1)
  have O6 : Old Z n0 Tk3.heap := (O0.keep Kk3q all0)
  obtain ⟨_, _, ⟨Tk7, Lk7, kk7, nk7⟩, -, Xk7, ⟨Lck7, hQk7, lk7, yk7, zk7⟩, stk7⟩ := Jvm.LawKit.callS Xk3 hx (y := Y6) hown (mvT hZ (tw hw 89 rfl)) (mvT hZ (tw hw 90 rfl)) (mvT hZ (tw hw 3 rfl)) (mvT hZ (tw hw 91 rfl)) (by decide) (backOf (W := 0) (rm_hash l Z a0 hw [] dk3 k (101 : Int32) (866031701 : Int32)  Tk3.heap n0 Z5 O6 Qk3_0 own_hash4) hZ (tw hw 91 rfl) (tw hw 3 rfl) (by decide) (by decide)) (g := (mkF m 9 #[.val (.ref t), .val (.ref a), .val (.ref dk3), .unset, .unset] [(.ref dk3)])) rfl (by rw [hml]; rfl) (argsL := [(.ref dk3)]) (rest := []) (lenOf pd___B_I rfl) rfl (by show 2 * 0 + _ ≤ _; exact Nat.le_of_eq rfl) (hb hby d7_9) (fun _ _ => ⟨rfl, rfl, (by decide : 1 + 0 ≤ _), (by decide : 1 + 0 ≤ _)⟩)
  dsimp only [Pt.U, Pt.locs, Pt.cells, Pt.slots] at Xk7 lk7 yk7 zk7 stk7 hQk7
  subst lk7 yk7 zk7
  obtain ⟨rfl, Nk7q, ek7⟩ := hQk7
  have Nk7 := Fr.app Nk3 Nk7q
  have F8 := (f1.keep Kk3q nin0)
  have F9 := (f6.keep Kk3q nin0)
  have F11 := (f0.keep Kk3q)
  obtain ⟨cqk10, qk10, qk10'⟩ := F11.cell
  obtain ⟨_, _, ⟨Tk10, Lk10, kk10, nk10⟩, -, Xk10, ⟨Lck10, hQk10, lk10, yk10, zk10⟩, stk10⟩ := Xk7.privateBack hx (y := Y7) hown (mvT hZ (tw hw 95 rfl)) (mvT hZ (tw hw 96 rfl)) (own_selp (mvT hZ (tw hw 27 rfl)) rfl (Cond.privateMethod_at (mvP hZ (tw hw 97 rfl) (args := #[]))) (mvT hZ (tw hw 96 rfl)) (by decide)) (Cond.privateMethod_at (mvP hZ (tw hw 97 rfl) (args := #[]))) (mvT hZ (tw hw 98 rfl)) (by decide) (backOf (W := 0) (rm_find4 l Z a0 hw [] t dk3 sl ks  Tk3.heap n0 Z5 O6 F8 F9) hZ (tw hw 98 rfl) (tw hw 3 rfl) (by decide) (by decide)) (g := (mkF m 16 #[.val (.ref t), .val (.ref a), .val (.ref dk3), .val (.int (866031701 : Int32)), .unset] [(.int (866031701 : Int32)), (.ref dk3), (.ref t)])) rfl (by rw [hml]; rfl) (Steps.refl _) (a := t) (own_eq ek7 qk10) qk10' (argsL := [(.ref dk3), (.int (866031701 : Int32))]) (rest := []) (lenOf pd___BI_I rfl) rfl (by show 2 * 0 + _ ≤ _; exact Nat.le_of_eq rfl) (hb hby d7_16) (fun _ _ => ⟨rfl, ek7, (by decide : 1 + 0 ≤ _), (by decide : 1 + 0 ≤ _)⟩)
  dsimp only [Pt.U, Pt.locs, Pt.cells, Pt.slots] at Xk10 lk10 yk10 zk10 stk10 hQk10
  subst lk10 yk10 zk10
  obtain ⟨rfl, Nk10q, ek10⟩ := hQk10
  have Nk10 := Fr.app Nk7 Nk10q
  obtain ⟨Tf12, Xf12, ef12, stf12⟩ := getF Xk10 hx hZ hown (host := "") (Or.inl (tw hw 11 rfl)) Via.refl ek10 F8 (g := (mkF m 22 #[.val (.ref t), .val (.ref a), .val (.ref dk3), .val (.int (866031701 : Int32)), .val (.int (5 : Int32))] [(.ref t)])) rfl rfl (hb hby d7_22)
  obtain ⟨clv13, Arv13, qv13, Sv13, Nv13, Hv13, Gv13⟩ := id F9
  have in14 : ¬ ((5 : Int32) < 0 ∨ clv13.slots.size ≤ ((5 : Int32)).toNatClampNeg) := inb_of Sv13 ⟨by decide, by decide⟩
  have atin14 : clv13.slots[((5 : Int32)).toNatClampNeg]? = some (.long (0 : Int64)) := Has.at Hv13 in14 rfl
  have F15 := (f5.keep Kk3q nin0)
  obtain ⟨Tf16, Xf16, ef16, stf16⟩ := getF Xf12 hx hZ hown (host := "") (Or.inl (tw hw 29 rfl)) Via.refl ef12 F15 (g := (mkF m 36 #[.val (.ref t), .val (.ref a), .val (.ref dk3), .val (.int (866031701 : Int32)), .val (.int (5 : Int32))] [(.ref t)])) rfl rfl (hb hby d7_36)
  obtain ⟨Tf17, Xf17, ef17, stf17⟩ := getF Xf16 hx hZ hown (host := "") (Or.inl (tw hw 11 rfl)) Via.refl ef16 F8 (g := (mkF m 42 #[.val (.ref t), .val (.ref a), .val (.ref dk3), .val (.int (866031701 : Int32)), .val (.int (5 : Int32))] [(.ref t), (.int (5 : Int32))])) rfl rfl (hb hby d7_42)
  have F18 := (f4.keep Kk3q nin0)
  have F19 := (f3.keep Kk3q nin0)
  have F20 := (f2.keep Kk3q nin0)
  have F21 := (f10.keep Kk3q nin0)
  have F22 := (f12.keep Kk3q nin0)
  have F24 := (f13.keep Kk3q)
  have ne23 : t ≠ bk := ne_exa F11 F24 (by decide)
  have ne25 : bk ≠ dk3 := Nat.ne_of_lt (Nat.lt_of_lt_of_le f12.lt Gk3_0)
  have F27 := (f11.keep Kk3q)
  have ne26 : bl ≠ bk := ne_exa F27 F24 (by decide)
  obtain ⟨cqk28, qk28, qk28'⟩ := F11.cell
  obtain ⟨_, _, ⟨Tk28, Lk28, kk28, nk28⟩, -, Xk28, ⟨Lck28, hQk28, lk28, yk28, zk28⟩, stk28⟩ := Xf17.privateBack hx (y := Y10) hown (mvT hZ (tw hw 99 rfl)) (mvT hZ (tw hw 100 rfl)) (own_selp (mvT hZ (tw hw 27 rfl)) rfl (Cond.privateMethod_at (mvP hZ (tw hw 101 rfl) (args := #[]))) (mvT hZ (tw hw 100 rfl)) (by decide)) (Cond.privateMethod_at (mvP hZ (tw hw 101 rfl) (args := #[]))) (mvT hZ (tw hw 102 rfl)) (by decide) (backOf (W := 0) (rm_store4 l Z a0 hw [] t dk3 k bl kbl sl en bk kbk  Tk3.heap n0 Z5 O6 F11 F18 F19 Qk3_0 F15 F8 F20 F21 F22 gt gbk ne23 (Ne.symm ne25) ne26) hZ (tw hw 102 rfl) (tw hw 3 rfl) (by decide) (by decide)) (g := (mkF m 67 #[.val (.ref t), .val (.ref a), .val (.ref dk3), .val (.int (866031701 : Int32)), .val (.int (5 : Int32))] [(.ref dk3), (.ref t)])) rfl (by rw [hml]; rfl) (Steps.refl _) (a := t) (own_eq ef17 qk28) qk28' (argsL := [(.ref dk3)]) (rest := []) (lenOf pd___B_V rfl) rfl (by show 2 * 0 + _ ≤ _; exact Nat.le_of_eq rfl) (hb hby d7_67) (fun _ _ => ⟨rfl, ef17, (by decide : 1 + 0 ≤ _), (by decide : 1 + 0 ≤ _)⟩)
  dsimp only [Pt.U, Pt.locs, Pt.cells, Pt.slots] at Xk28 lk28 yk28 zk28 stk28 hQk28
  subst lk28 yk28 zk28
  obtain ⟨rfl, Nk28q, Kk28q, Qk28_0, Qk28_1, Qk28_2, Qk28_3, Qk28_4, Qk28_5⟩ := hQk28
  have K29 : Keep h0 Tk28.heap [t, sl, bk] := K4.trans Kk28q (allS (P := fun x => x ∈ [t, sl, bk] ∨ h0.size ≤ x) (Or.inl (List.mem_of_getElem? (i := 0) rfl)) (allS (P := fun x => x ∈ [t, sl, bk] ∨ h0.size ≤ x) (Or.inl (List.mem_of_getElem? (i := 2) rfl)) all0))
  have Nk28 := Fr.app Nk10 Nk28q
  obtain ⟨Tf30, Xf30, ef30, stf30⟩ := getF Xk28 hx hZ hown (host := "") (Or.inl (tw hw 11 rfl)) Via.refl rfl Qk28_3 (g := (mkF m 71 #[.val (.ref t), .val (.ref a), .val (.ref dk3), .val (.int (866031701 : Int32)), .val (.int (5 : Int32))] [(.ref t)])) rfl rfl (hb hby d7_71)
  obtain ⟨Tf31, Xf31, ef31, stf31⟩ := getF Xf30 hx hZ hown (host := "") (Or.inl (tw hw 29 rfl)) Via.refl ef30 Qk28_2 (g := (mkF m 82 #[.val (.ref t), .val (.ref a), .val (.ref dk3), .val (.int (866031701 : Int32)), .val (.int (5 : Int32))] [(.ref t), (.long (3719577833094250496 : Int64)), (.int (5 : Int32)), (.ref sl)])) rfl rfl (hb hby d7_82)
  have F33 := ((f7.keep Kk3q).keep Kk28q)
  have F34 := (F24.keep Kk28q)
  have ne32 : sl ≠ bk := ne_exa F33 F34 (by decide)
  have F36 := (F11.keep Kk28q)
  have ne35 : sl ≠ t := ne_exa F33 F36 (by decide)
  have F37 := (F9.keep Kk28q (ninS ne35 (ninS ne32 nin0)))
  obtain ⟨clv38, Arv38, qv38, Sv38, Nv38, Hv38, Gv38⟩ := id F37
  have in39 : ¬ ((5 : Int32) < 0 ∨ clv38.slots.size ≤ ((5 : Int32)).toNatClampNeg) := inb_of Sv38 ⟨by decide, by decide⟩
  obtain ⟨Tw40, hw40, Xw40, ew40, Ww40, stw40⟩ := stJ Xf31 hx hZ ef31 Arv38 (j := (5 : Int32)) in39 (g := (mkF m 89 #[.val (.ref t), .val (.ref a), .val (.ref dk3), .val (.int (866031701 : Int32)), .val (.int (5 : Int32))] [(.long (3719577833094250501 : Int64)), (.int (5 : Int32)), (.ref sl)])) rfl rfl (hb hby d7_89)
  have Vw40 : Arv Z hw40 sl ks .long (16 : Int32) [(.long (0 : Int64)), (.long (0 : Int64)), (.long (0 : Int64)), (.long (0 : Int64)), (.long (0 : Int64)), (.long (3719577833094250501 : Int64)), (.long (0 : Int64)), (.long (0 : Int64)), (.long (0 : Int64)), (.long (0 : Int64)), (.long (0 : Int64)), (.long (0 : Int64)), (.long (-2306841795268444158 : Int64)), (.long (1808655176962146305 : Int64)), (.long (-2839092971725389821 : Int64)), (.long (1750739909502566404 : Int64))] (.long (0 : Int64)) := Arv.set Arv38 qv38 Sv38 Nv38 Hv38 Gv38 rfl Ww40 5 rfl (Nat.le_of_ble_eq_true rfl)
  have Nw40 := Fr.snoc Xw40 Nk28 gsl
  have K41 : Keep h0 hw40 [t, sl, bk] := K29.wr Ww40 (Or.inl (List.mem_of_getElem? (i := 1) rfl))
  have F42 := (Qk28_2.other Ww40 (Or.inl (Ne.symm ne35)))
  obtain ⟨Tf43, Xf43, ef43, stf43⟩ := getF Xw40 hx hZ hown (host := "") (Or.inl (tw hw 29 rfl)) Via.refl ew40 F42 (g := (mkF m 92 #[.val (.ref t), .val (.ref a), .val (.ref dk3), .val (.int (866031701 : Int32)), .val (.int (5 : Int32))] [(.ref t), (.ref t)])) rfl rfl (hb hby d7_92)
  have F44 := (F36.wr Ww40)
  obtain ⟨Tp45, hp45, Xp45, ep45, Wp45, stp45⟩ := putF Xf43 hx hZ hown (host := "") (Or.inl (tw hw 29 rfl)) Via.refl ef43 F42 F44 (Or.inl (tw hw 30 rfl)) (tw hw 2 rfl) (ty := .int) (by decide) rfl rfl (g := (mkF m 97 #[.val (.ref t), .val (.ref a), .val (.ref dk3), .val (.int (866031701 : Int32)), .val (.int (5 : Int32))] [(.int (5 : Int32)), (.ref t)])) rfl rfl (hb hby d7_97)
  have Fwp45 : Fld Z hp45 t S1 "size" "I" (.int (5 : Int32)) := F42.same Wp45
  have Np45 := Fr.snoc Xp45 Nw40 gt
  have K46 : Keep h0 hp45 [t, sl, bk] := K41.wr Wp45 (Or.inl (List.mem_of_getElem? (i := 0) rfl))
  have F47 := ((Qk28_4.other Ww40 (Or.inl (Ne.symm ne35))).other Wp45 (Or.inr (slot_ne (Or.inl (tw hw 15 rfl)) (Or.inl (tw hw 30 rfl)) (by decide) (t := (.array .int)) (t' := .int) (by decide) (by decide))))
  obtain ⟨Tf48, Xf48, ef48, stf48⟩ := getF Xp45 hx hZ hown (host := "") (Or.inl (tw hw 14 rfl)) Via.refl ep45 F47 (g := (mkF m 103 #[.val (.ref t), .val (.ref a), .val (.ref dk3), .val (.int (866031701 : Int32)), .val (.int (5 : Int32))] [(.ref t), (.ref t), (.ref t)])) rfl rfl (hb hby d7_103)
  have F49 := (F44.wr Wp45)
  have F51 := ((((f9.keep Kk3q).keep Kk28q).wr Ww40).wr Wp45)
  have F52 := ((F34.wr Ww40).wr Wp45)
  have ne50 : en ≠ bk := ne_exa F51 F52 (by decide)
  have ne53 : en ≠ t := ne_exa F51 F49 (by decide)
  have F55 := ((F33.wr Ww40).wr Wp45)
  have ne54 : en ≠ sl := ne_exa F51 F55 (by decide)
  have F56 := ((((f8.keep Kk3q nin0).keep Kk28q (ninS ne53 (ninS ne50 nin0))).other Ww40 ne54).other Wp45 ne53)
  have Z57 : n0 ≤ hp45.size := (Nat.le_trans (Nat.le_trans (Nat.le_trans Z5 Kk28q.1) (Keep.of_wr Ww40).1) (Keep.of_wr Wp45).1)
  have O58 : Old Z n0 hp45 := (((O6.keep Kk28q (allS gt (allS gbk all0))).wr Ww40 gsl).wr Wp45 gt)
  obtain ⟨cqk59, kqk59, qk59a, qk59b, qk59c⟩ := isOf hZ ef48 F49
  obtain ⟨_, _, ⟨Tk59, Lk59, kk59, nk59⟩, -, Xk59, ⟨Lck59, hQk59, lk59, yk59, zk59⟩, stk59⟩ := Xf48.virtualBack hx (y := Y13) (z := Y13) hown (mvT hZ (tw hw 116 rfl)) (mvT hZ (tw hw 25 rfl)) (notFace_of_selects (args := #[]) (mvT hZ (tw hw 27 rfl))) (mvT hZ (tw hw 27 rfl)) (mvT hZ (tw hw 26 rfl)) (by decide) (backOf (W := 1) (rm_fitg l Z a0 hw [] t en ken (4 : Int32) [(.int (1 : Int32)), (.int (2 : Int32)), (.int (3 : Int32)), (.int (4 : Int32))] (5 : Int32) (6 : Int32)  hp45 n0 Z57 O58 F49 Fwp45 F56 (by decide) (by decide) (by decide) (by decide) (by decide) (by decide) (by decide) (by decide) (by decide)) hZ (tw hw 28 rfl) (tw hw 3 rfl) (by decide) (by decide)) qk59a qk59c (g := (mkF m 106 #[.val (.ref t), .val (.ref a), .val (.ref dk3), .val (.int (866031701 : Int32)), .val (.int (5 : Int32))] [(.ref en), (.ref t), (.ref t)])) rfl (by rw [hml]; rfl) (Steps.refl _) (argsL := [(.ref en)]) (rest := [(.ref t)]) (lenOf pd___I__I rfl) rfl (by show 2 * 0 + _ ≤ _; exact Nat.le_of_eq rfl) (hb hby d7_106) (fun _ _ => ⟨rfl, ef48, (by decide : 1 + 1 ≤ _), (by decide : 1 + 12 ≤ _)⟩)
  dsimp only [Pt.U, Pt.locs, Pt.cells, Pt.slots] at Xk59 lk59 yk59 zk59 stk59 hQk59
  subst lk59 yk59 zk59
  obtain ⟨bk59, kbk59, rfl, Nk59q, Kk59q, Gk59_0, Qk59_0, Qk59_1⟩ := hQk59
  have Y60 : h0.size ≤ hp45.size := (Nat.le_trans (Nat.le_trans (Nat.le_trans (Nat.le_trans (Nat.le_refl h0.size) Kk3q.1) Kk28q.1) (Keep.of_wr Ww40).1) (Keep.of_wr Wp45).1)
  have g_bk59 : n0 ≤ bk59 := Nat.le_trans Z57 Gk59_0
  have y_bk59 : h0.size ≤ bk59 := Nat.le_trans Y60 Gk59_0
  have K61 : Keep h0 Tk59.heap [t, sl, bk] := K46.trans Kk59q all0
  have vp62 : Arv Z Tk59.heap bk59 kbk59 .int (6 : Int32) [(.int (1 : Int32)), (.int (2 : Int32)), (.int (3 : Int32)), (.int (4 : Int32)), (.int (0 : Int32)), (.int (0 : Int32))] (.int (0 : Int32)) := Qk59_0.pad (pad_rep [(.int (1 : Int32)), (.int (2 : Int32)), (.int (3 : Int32)), (.int (4 : Int32))] (.int (0 : Int32)) 2)
  have Nk59 := Fr.app Np45 Nk59q
  have F63 := (F47.keep Kk59q nin0)
  have F64 := (F49.keep Kk59q)
  obtain ⟨Tp65, hp65, Xp65, ep65, Wp65, stp65⟩ := putF Xk59 hx hZ hown (host := "") (Or.inl (tw hw 14 rfl)) Via.refl rfl F63 F64 (Or.inl (tw hw 15 rfl)) (tw hw 2 rfl) (ty := (.array .int)) (by decide) rfl rfl (g := (mkF m 109 #[.val (.ref t), .val (.ref a), .val (.ref dk3), .val (.int (866031701 : Int32)), .val (.int (5 : Int32))] [(.ref bk59), (.ref t)])) rfl rfl (hb hby d7_109)
  have Fwp65 : Fld Z hp65 t S1 "ends" "[I" (.ref bk59) := F63.same Wp65
  have Np65 := Fr.snoc Xp65 Nk59 gt
  have K66 : Keep h0 hp65 [t, sl, bk] := K61.wr Wp65 (Or.inl (List.mem_of_getElem? (i := 0) rfl))
  obtain ⟨Tf67, Xf67, ef67, stf67⟩ := getF Xp65 hx hZ hown (host := "") (Or.inl (tw hw 14 rfl)) Via.refl ep65 Fwp65 (g := (mkF m 113 #[.val (.ref t), .val (.ref a), .val (.ref dk3), .val (.int (866031701 : Int32)), .val (.int (5 : Int32))] [(.ref t)])) rfl rfl (hb hby d7_113)
  have F68 := ((Fwp45.keep Kk59q nin0).other Wp65 (Or.inr (slot_ne (Or.inl (tw hw 30 rfl)) (Or.inl (tw hw 15 rfl)) (by decide) (t := .int) (t' := (.array .int)) (by decide) (by decide))))
  obtain ⟨Tf69, Xf69, ef69, stf69⟩ := getF Xf67 hx hZ hown (host := "") (Or.inl (tw hw 29 rfl)) Via.refl ef67 F68 (g := (mkF m 117 #[.val (.ref t), .val (.ref a), .val (.ref dk3), .val (.int (866031701 : Int32)), .val (.int (5 : Int32))] [(.ref t), (.ref bk59)])) rfl rfl (hb hby d7_117)
  have F70 := ((((Qk28_0.other Ww40 (Or.inl (Ne.symm ne35))).other Wp45 (Or.inr (slot_ne (Or.inl (tw hw 105 rfl)) (Or.inl (tw hw 30 rfl)) (by decide) (t := .int) (t' := .int) (by decide) (by decide)))).keep Kk59q nin0).other Wp65 (Or.inr (slot_ne (Or.inl (tw hw 105 rfl)) (Or.inl (tw hw 15 rfl)) (by decide) (t := .int) (t' := (.array .int)) (by decide) (by decide))))
  obtain ⟨Tf71, Xf71, ef71, stf71⟩ := getF Xf69 hx hZ hown (host := "") (Or.inl (tw hw 104 rfl)) Via.refl ef69 F70 (g := (mkF m 123 #[.val (.ref t), .val (.ref a), .val (.ref dk3), .val (.int (866031701 : Int32)), .val (.int (5 : Int32))] [(.ref t), (.int (4 : Int32)), (.ref bk59)])) rfl rfl (hb hby d7_123)
  have F73 := (Qk59_1.wr Wp65)
  have F74 := (F64.wr Wp65)
  have ne72 : bk59 ≠ t := ne_exa F73 F74 (by decide)
  have F75 := (vp62.other Wp65 ne72)
  obtain ⟨clv76, Arv76, qv76, Sv76, Nv76, Hv76, Gv76⟩ := id F75
  have in77 : ¬ ((4 : Int32) < 0 ∨ clv76.slots.size ≤ ((4 : Int32)).toNatClampNeg) := inb_of Sv76 ⟨by decide, by decide⟩
  obtain ⟨Tw78, hw78, Xw78, ew78, Ww78, stw78⟩ := stI Xf71 hx hZ ef71 Arv76 (j := (4 : Int32)) in77 (g := (mkF m 126 #[.val (.ref t), .val (.ref a), .val (.ref dk3), .val (.int (866031701 : Int32)), .val (.int (5 : Int32))] [(.int (5 : Int32)), (.int (4 : Int32)), (.ref bk59)])) rfl rfl (hb hby d7_126)
  have Vw78 : Arv Z hw78 bk59 kbk59 .int (6 : Int32) [(.int (1 : Int32)), (.int (2 : Int32)), (.int (3 : Int32)), (.int (4 : Int32)), (.int (5 : Int32)), (.int (0 : Int32))] (.int (0 : Int32)) := Arv.set Arv76 qv76 Sv76 Nv76 Hv76 Gv76 rfl Ww78 4 rfl (Nat.le_of_ble_eq_true rfl)
  have Nw78 := Fr.snoc Xw78 Np65 g_bk59
  have K79 : Keep h0 hw78 [t, sl, bk] := K66.wr Ww78 (Or.inr y_bk59)
  have F80 := (((((Qk28_3.other Ww40 (Or.inl (Ne.symm ne35))).other Wp45 (Or.inr (slot_ne (Or.inl (tw hw 12 rfl)) (Or.inl (tw hw 30 rfl)) (by decide) (t := (.array .long)) (t' := .int) (by decide) (by decide)))).keep Kk59q nin0).other Wp65 (Or.inr (slot_ne (Or.inl (tw hw 12 rfl)) (Or.inl (tw hw 15 rfl)) (by decide) (t := (.array .long)) (t' := (.array .int)) (by decide) (by decide)))).other Ww78 (Or.inl (Ne.symm ne72)))
  have F81 := (Fwp65.other Ww78 (Or.inl (Ne.symm ne72)))
  have F82 := (((((Qk28_1.other Ww40 (Or.inl (Ne.symm ne35))).other Wp45 (Or.inr (slot_ne (Or.inl (tw hw 19 rfl)) (Or.inl (tw hw 30 rfl)) (by decide) (t := (.array (.array .byte))) (t' := .int) (by decide) (by decide)))).keep Kk59q nin0).other Wp65 (Or.inr (slot_ne (Or.inl (tw hw 19 rfl)) (Or.inl (tw hw 15 rfl)) (by decide) (t := (.array (.array .byte))) (t' := (.array .int)) (by decide) (by decide)))).other Ww78 (Or.inl (Ne.symm ne72)))
  have F83 := (F70.other Ww78 (Or.inl (Ne.symm ne72)))
  have F84 := (F68.other Ww78 (Or.inl (Ne.symm ne72)))
  have F86 := (((F55.keep Kk59q).wr Wp65).wr Ww78)
  have F87 := (F73.wr Ww78)
  have ne85 : sl ≠ bk59 := ne_exa F86 F87 (by decide)
  have F88 := ((((Vw40.other Wp45 ne35).keep Kk59q nin0).other Wp65 ne35).other Ww78 ne85)
  have F90 := ((((((F27.keep Kk28q).wr Ww40).wr Wp45).keep Kk59q).wr Wp65).wr Ww78)
  have F91 := (F74.wr Ww78)
  have ne89 : bl ≠ t := ne_exa F90 F91 (by decide)
  have ne92 : bl ≠ sl := ne_exa F90 F86 (by decide)
  have ne93 : bl ≠ bk59 := ne_exa F90 F87 (by decide)
  have F94 := ((((((F21.keep Kk28q (ninS ne89 (ninS ne26 nin0))).other Ww40 ne92).other Wp45 ne89).keep Kk59q nin0).other Wp65 ne89).other Ww78 ne93)
  have F96 := (((F52.keep Kk59q).wr Wp65).wr Ww78)
  have ne95 : bk ≠ bk59 := ne_exa F96 F87 (by decide)
  have F97 := (((((Qk28_5.other Ww40 (Ne.symm ne32)).other Wp45 (Ne.symm ne23)).keep Kk59q nin0).other Wp65 (Ne.symm ne23)).other Ww78 ne95)
  obtain ⟨fs, hlv, hrun, hended, hW, hsame⟩ := Xw78.leave (v := some (.int (1 : Int32))) (fun h => by rw [hret] at h; cases h)
  refine ⟨_, _, pre0 _ ?_, hrun, hended, _, _, rfl, ?_, ⟨_, rfl⟩, hW, hsame.mono (by decide) (by decide)⟩
  · refine XS.aloadN X0.here hx rfl (hb hby d7_0) rfl rfl ?_
    show Sp p e below s₁ (mkF m 1 #[.val (.ref t), .val (.ref a), .unset, .unset, .unset] [(.ref a)]) _
    refine stg2 _ ?_
    refine stk3.trans ?_
    refine XS.astoreN Xk3.here hx rfl (hb hby d7_7) rfl rfl (l' := #[.val (.ref t), .val (.ref a), .val (.ref dk3), .unset, .unset]) rfl ?_
    refine XS.aloadN Xk3.here hx rfl (hb hby d7_8) rfl rfl ?_
    refine stk7 _ ?_
    refine XS.istoreN Xk7.here hx rfl (hb hby d7_12) rfl (l' := #[.val (.ref t), .val (.ref a), .val (.ref dk3), .val (.int (866031701 : Int32)), .unset]) rfl ?_
    refine XS.aloadN Xk7.here hx rfl (hb hby d7_13) rfl rfl ?_
    refine XS.aloadN Xk7.here hx rfl (hb hby d7_14) rfl rfl ?_
    refine XS.iloadN Xk7.here hx rfl (hb hby d7_15) rfl ?_
    refine stk10.trans ?_
    refine XS.istore Xk10.here hx rfl (hb hby d7_19) rfl (l' := #[.val (.ref t), .val (.ref a), .val (.ref dk3), .val (.int (866031701 : Int32)), .val (.int (5 : Int32))]) rfl ?_
    refine XS.aloadN Xk10.here hx rfl (hb hby d7_21) rfl rfl ?_
    refine stf12 _ ?_
    refine XS.iload Xf12.here hx rfl (hb hby d7_25) rfl ?_
    show Sp p e below Tf12 (mkF m 27 #[.val (.ref t), .val (.ref a), .val (.ref dk3), .val (.int (866031701 : Int32)), .val (.int (5 : Int32))] [(.int (5 : Int32)), (.ref sl)]) _
    refine Xf12.laload hx (j := (5 : Int32)) (v := (.long (0 : Int64))) (own_eq ef12 Arv13.1) (State.isArrayOf_alike hZ.alike Arv13.2.1) Arv13.2.2 in14 atin14 (g := (mkF m 27 #[.val (.ref t), .val (.ref a), .val (.ref dk3), .val (.int (866031701 : Int32)), .val (.int (5 : Int32))] [(.int (5 : Int32)), (.ref sl)])) rfl rfl (hb hby d7_27) _ ?_
    show Sp p e below Tf12 (mkF m 28 #[.val (.ref t), .val (.ref a), .val (.ref dk3), .val (.int (866031701 : Int32)), .val (.int (5 : Int32))] [(.long (0 : Int64))]) _
    refine XS.lconst Xf12.here hx rfl (hb hby d7_28) ?_
    refine XS.lcmp Xf12.here hx rfl (hb hby d7_29) rfl ?_
    refine XS.ifYes Xf12.here hx rfl (pc0 := 30) (pc' := 35) rfl (hb hby d7_30) rfl ((if0 _ _).trans (teq (by decide : (0 : Int32) = (0 : Int32))).1) (by decide) (by decide) ?_
    refine XS.aloadN Xf12.here hx rfl (hb hby d7_35) rfl rfl ?_
    refine stf16 _ ?_
    refine XS.iconst Xf16.here hx rfl (hb hby d7_39) ?_
    refine XS.iadd Xf16.here hx rfl (hb hby d7_40) rfl ?_
    refine XS.aloadN Xf16.here hx rfl (hb hby d7_41) rfl rfl ?_
    refine stf17 _ ?_
    show Sp p e below Tf17 (mkF m 45 #[.val (.ref t), .val (.ref a), .val (.ref dk3), .val (.int (866031701 : Int32)), .val (.int (5 : Int32))] [(.ref sl), (.int (5 : Int32))]) _
    refine Xf17.arraylength hx (own_eq ef17 Arv13.1) (State.isArrayOf_alike hZ.alike Arv13.2.1) (g := (mkF m 45 #[.val (.ref t), .val (.ref a), .val (.ref dk3), .val (.int (866031701 : Int32)), .val (.int (5 : Int32))] [(.ref sl), (.int (5 : Int32))])) rfl rfl (hb hby d7_45) _ ?_
    rw [len_of Sv13 Nv13]
    show Sp p e below Tf17 (mkF m 46 #[.val (.ref t), .val (.ref a), .val (.ref dk3), .val (.int (866031701 : Int32)), .val (.int (5 : Int32))] [(.int (16 : Int32)), (.int (5 : Int32))]) _
    refine XS.iconst Xf17.here hx rfl (hb hby d7_46) ?_
    refine XS.idiv Xf17.here hx rfl (hb hby d7_47) rfl (by decide) ?_
    refine XS.iconst Xf17.here hx rfl (hb hby d7_48) ?_
    refine XS.imul Xf17.here hx rfl (hb hby d7_49) rfl ?_
    refine XS.icmpYes Xf17.here hx rfl (pc0 := 50) (pc' := 65) rfl (hb hby d7_50) rfl (flt (by decide : ¬ ((12 : Int32) < (5 : Int32)))).2.2.2 (by decide) (by decide) ?_
    refine XS.aloadN Xf17.here hx rfl (hb hby d7_65) rfl rfl ?_
    refine XS.aloadN Xf17.here hx rfl (hb hby d7_66) rfl rfl ?_
    refine stk28.trans ?_
    refine XS.aloadN Xk28.here hx rfl (hb hby d7_70) rfl rfl ?_
    refine stf30 _ ?_
    refine XS.iload Xf30.here hx rfl (hb hby d7_74) rfl ?_
    refine XS.iloadN Xf30.here hx rfl (hb hby d7_76) rfl ?_
    refine XS.i2l Xf30.here hx rfl (hb hby d7_77) rfl ?_
    refine XS.bipush Xf30.here hx rfl (hb hby d7_78) ?_
    refine XS.lshl Xf30.here hx rfl (hb hby d7_80) rfl ?_
    refine XS.aloadN Xf30.here hx rfl (hb hby d7_81) rfl rfl ?_
    refine stf31 _ ?_
    refine XS.i2l Xf31.here hx rfl (hb hby d7_85) rfl ?_
    refine XS.lconst Xf31.here hx rfl (hb hby d7_86) ?_
    refine XS.ladd Xf31.here hx rfl (hb hby d7_87) rfl ?_
    refine XS.lor Xf31.here hx rfl (hb hby d7_88) rfl ?_
    show Sp p e below Tf31 (mkF m 89 #[.val (.ref t), .val (.ref a), .val (.ref dk3), .val (.int (866031701 : Int32)), .val (.int (5 : Int32))] [(.long (3719577833094250501 : Int64)), (.int (5 : Int32)), (.ref sl)]) _
    refine stw40 _ ?_
    refine XS.aloadN Xw40.here hx rfl (hb hby d7_90) rfl rfl ?_
    refine XS.dup Xw40.here hx rfl (hb hby d7_91) rfl rfl ?_
    refine stf43 _ ?_
    refine XS.iconst Xf43.here hx rfl (hb hby d7_95) ?_
    refine XS.iadd Xf43.here hx rfl (hb hby d7_96) rfl ?_
    refine stp45 _ ?_
    refine XS.aloadN Xp45.here hx rfl (hb hby d7_100) rfl rfl ?_
    refine XS.aloadN Xp45.here hx rfl (hb hby d7_101) rfl rfl ?_
    refine XS.aloadN Xp45.here hx rfl (hb hby d7_102) rfl rfl ?_
    refine stf48 _ ?_
    refine stk59.trans ?_
    refine stp65 _ ?_
    refine XS.aloadN Xp65.here hx rfl (hb hby d7_112) rfl rfl ?_
    refine stf67 _ ?_
    refine XS.aloadN Xf67.here hx rfl (hb hby d7_116) rfl rfl ?_
    refine stf69 _ ?_
    refine XS.iconst Xf69.here hx rfl (hb hby d7_120) ?_
    refine XS.isub Xf69.here hx rfl (hb hby d7_121) rfl ?_
    refine XS.aloadN Xf69.here hx rfl (hb hby d7_122) rfl rfl ?_
    refine stf71 _ ?_
    show Sp p e below Tf71 (mkF m 126 #[.val (.ref t), .val (.ref a), .val (.ref dk3), .val (.int (866031701 : Int32)), .val (.int (5 : Int32))] [(.int (5 : Int32)), (.int (4 : Int32)), (.ref bk59)]) _
    refine stw78 _ ?_
    refine XS.iconst Xw78.here hx rfl (hb hby d7_127) ?_
    show Sp p e below Tw78 (mkF m 128 #[.val (.ref t), .val (.ref a), .val (.ref dk3), .val (.int (866031701 : Int32)), .val (.int (5 : Int32))] [(.int (1 : Int32))]) _
    exact retN Xw78 hx (t := .boolean) hret (by simp) (hb hby d7_128) hlv
  · show Q_add4 Z t a b k sl ks en ken bl kbl bk kbk aU cs h0 n0 _ Tw78.heap _
    rw [ew78]
    exact ⟨bk59, kbk59, rfl, Nw78, K79, y_bk59, F80, F81, F82, F83, F84, F88, Vw78, F87, F94, F97⟩
def Q_add5 (Z : State) (t : Addr) (a : Addr) (b : Addr) (k : ClassId) (sl : Addr) (ks : ClassId) (en : Addr) (ken : ClassId) (bl : Addr) (kbl : ClassId) (bk : Addr) (kbk : ClassId) (aU : Addr) (cs : Int32) (h0 : Heap) (n0 : Nat) (v : Option Value) (h : Heap) (L : List Loc) : Prop := v = some (.int (1 : Int32)) ∧ Fr n0 L ∧ Keep h0 h [t, sl, en, bk] ∧ Fld Z h t S1 "slots" "[J" (.ref sl) ∧ Fld Z h t S1 "ends" "[I" (.ref en) ∧ Fld Z h t S1 "blocks" "[[B" (.ref bl) ∧ Fld Z h t S1 "stored" "I" (.int (6 : Int32)) ∧ Fld Z h t S1 "size" "I" (.int (6 : Int32)) ∧ Arv Z h sl ks .long (16 : Int32) [(.long (1796898511443197958 : Int64)), (.long (0 : Int64)), (.long (0 : Int64)), (.long (0 : Int64)), (.long (0 : Int64)), (.long (3719577833094250501 : Int64)), (.long (0 : Int64)), (.long (0 : Int64)), (.long (0 : Int64)), (.long (0 : Int64)), (.long (0 : Int64)), (.long (0 : Int64)), (.long (-2306841795268444158 : Int64)), (.long (1808655176962146305 : Int64)), (.long (-2839092971725389821 : Int64)), (.long (1750739909502566404 : Int64))] (.long (0 : Int64)) ∧ Arv Z h en ken .int (6 : Int32) [(.int (1 : Int32)), (.int (2 : Int32)), (.int (3 : Int32)), (.int (4 : Int32)), (.int (5 : Int32)), (.int (6 : Int32))] (.int (0 : Int32)) ∧ Arv Z h bl kbl (.array .byte) (1 : Int32) [(.ref bk)] .null ∧ Arv Z h bk kbk .byte (65536 : Int32) [(.int (97 : Int32)), (.int (98 : Int32)), (.int (99 : Int32)), (.int (100 : Int32)), (.int (101 : Int32)), (.int (102 : Int32)), (.int (0 : Int32)), (.int (0 : Int32))] (.int (0 : Int32))
set_option maxRecDepth 65536 in
set_option maxHeartbeats 40000000 in
theorem rm_add5 (l : Launch) (Z : State) (a0 : Array Value) (hw : ∀ d ∈ tables_1, d.before a0 Z = true) (ws : List Jvm.Cond) (t : Addr) (a : Addr) (b : Addr) (k : ClassId) (sl : Addr) (ks : ClassId) (en : Addr) (ken : ClassId) (bl : Addr) (kbl : ClassId) (bk : Addr) (kbk : ClassId) (aU : Addr) (cs : Int32) (h0 : Heap) (n0 : Nat) (Z0 : n0 ≤ h0.size) (O0 : Old Z n0 h0) (f0 : Exa Z h0 t S1) (f1 : Fld Z h0 t S1 "slots" "[J" (.ref sl)) (f2 : Fld Z h0 t S1 "ends" "[I" (.ref en)) (f3 : Fld Z h0 t S1 "blocks" "[[B" (.ref bl)) (f4 : Fld Z h0 t S1 "stored" "I" (.int (5 : Int32))) (f5 : Fld Z h0 t S1 "size" "I" (.int (5 : Int32))) (f6 : Arv Z h0 sl ks .long (16 : Int32) [(.long (0 : Int64)), (.long (0 : Int64)), (.long (0 : Int64)), (.long (0 : Int64)), (.long (0 : Int64)), (.long (3719577833094250501 : Int64)), (.long (0 : Int64)), (.long (0 : Int64)), (.long (0 : Int64)), (.long (0 : Int64)), (.long (0 : Int64)), (.long (0 : Int64)), (.long (-2306841795268444158 : Int64)), (.long (1808655176962146305 : Int64)), (.long (-2839092971725389821 : Int64)), (.long (1750739909502566404 : Int64))] (.long (0 : Int64))) (f7 : Exa Z h0 sl "[J") (f8 : Arv Z h0 en ken .int (6 : Int32) [(.int (1 : Int32)), (.int (2 : Int32)), (.int (3 : Int32)), (.int (4 : Int32)), (.int (5 : Int32)), (.int (0 : Int32))] (.int (0 : Int32))) (f9 : Exa Z h0 en "[I") (f10 : Arv Z h0 bl kbl (.array .byte) (1 : Int32) [(.ref bk)] .null) (f11 : Exa Z h0 bl "[[B") (f12 : Arv Z h0 bk kbk .byte (65536 : Int32) [(.int (97 : Int32)), (.int (98 : Int32)), (.int (99 : Int32)), (.int (100 : Int32)), (.int (101 : Int32)), (.int (0 : Int32)), (.int (0 : Int32)), (.int (0 : Int32))] (.int (0 : Int32))) (f13 : Exa Z h0 bk "[B") (f14 : Exa Z h0 a S0) (f15 : Fld Z h0 a S0 "coder" "B" (.int (0 : Int32))) (f16 : Fld Z h0 a S0 "value" "[B" (.ref b)) (f17 : Arv Z h0 b k .byte (1 : Int32) [(.int (102 : Int32))] (.int (0 : Int32))) (f18 : Exa Z h0 b "[B") (SS : own_start Z aU cs) (gt : n0 ≤ t) (gsl : n0 ≤ sl) (gen : n0 ≤ en) (gbk : n0 ≤ bk) :
    MetFree l Y15 (head1 (Jvm.Cond.code Y15 prog_57_method_6_code 5 (some .boolean) :: ws) ({ frames := 5, cells := 1, slots := 1, locals := 77 } : Room)) (fun A_ U => A_ = #[(.ref t), (.ref a)] ∧ Z.Warmed39 U.vm ∧ U.heap = h0) (fun _ _ _ _ _ => True) (fun _ U o_ U' => ∃ v_ L_, o_ = .returned v_ ∧ Q_add5 Z t a b k sl ks en ken bl kbl bk kbk aU cs h0 n0 v_ U'.heap L_ ∧ FrameEnd U o_ U' L_ ({ frames := 5, cells := 1, slots := 1, locals := 77 } : Room).cells ({ frames := 5, cells := 1, slots := 1, locals := 77 } : Room).slots) := by
  refine MetFree.of_bodySF (plainFor_of_name pn_2) hisR ?_
  intro p e s m args below meth c s₁ Bd hml0 hP hK
  obtain ⟨rfl, hZ, hh⟩ := hP
  have hx := Bd.exec
  have hby := Bd.bytes
  have hml : c.maxLocals = 5 := hml0
  have hown : s.vm.findClass S1 = some m.cls := findClass_of_methodNamed Bd.named
  have hnm := (name_of_methodNamed Bd.named Bd.method).1
  have hret := Bd.returns
  have X0 : Stand p l e ({ frames := 5, cells := 1, slots := 1, locals := 77 } : Room) s m #[(.ref t), (.ref a)] below meth c s₁ [] 0 0 := Stand.of_body Bd
  have e0 : s₁.heap = h0 := by rw [← hh, Bd.state]; rfl
  have N0 := Fr.nil n0
  have pre0 : ∀ t_, Sp p e below s₁ (mkF m 0 #[.val (.ref t), .val (.ref a), .unset, .unset, .unset] []) t_ → Sp p e below s₁ (entryFrame m #[(.ref t), (.ref a)] 5) t_ := fun t_ k_ => castTop (ef_7_RR m t a) k_
  obtain ⟨S_U8, S_IN, S_CS, H_CS⟩ := SS
  have F1 := S_U8.ext O0.2
  obtain ⟨Tg2, Xg2, eg2, stg2⟩ := getS2 X0 hx hZ hown (host := "") (Or.inl (tw hw 50 rfl)) Via.refl e0 F1 (g := (mkF m 1 #[.val (.ref t), .val (.ref a), .unset, .unset, .unset] [(.ref a)])) rfl (hb hby d7_1)
  obtain ⟨cqk3, kqk3, qk3a, qk3b, qk3c⟩ := isOf hZ eg2 f14
  obtain ⟨_, _, ⟨Tk3, Lk3, kk3, nk3⟩, -, Xk3, ⟨Lck3, hQk3, lk3, yk3, zk3⟩, stk3⟩ := Xg2.virtualBack hx (y := Y5) (z := Y5) hown (mvT hZ (tw hw 52 rfl)) (mvT hZ (tw hw 53 rfl)) (notFace_of_selects (args := #[]) (mvT hZ (tw hw 55 rfl))) (mvT hZ (tw hw 55 rfl)) (mvT hZ (tw hw 54 rfl)) (by decide) (backOf (W := 0) (rm_getbytes l Z a0 hw [] a b k (102 : Int32) aU cs h0 n0 Z0 O0 f14 f15 f16 f17 f18 ⟨S_U8, S_IN, S_CS, H_CS⟩ (by decide)) hZ (tw hw 56 rfl) (tw hw 38 rfl) (by decide) (by decide)) qk3a qk3c (g := (mkF m 4 #[.val (.ref t), .val (.ref a), .unset, .unset, .unset] [(.ref aU), (.ref a)])) rfl (by rw [hml]; rfl) (Steps.refl _) (argsL := [(.ref aU)]) (rest := []) (lenOf pd__Ljava_nio_charset_Charset___B rfl) rfl (by show 2 * 0 + _ ≤ _; exact Nat.le_of_eq rfl) (hb hby d7_4) (fun _ _ => ⟨rfl, eg2, (by decide : 0 + 1 ≤ _), (by decide : 0 + 1 ≤ _)⟩)
  dsimp only [Pt.U, Pt.locs, Pt.cells, Pt.slots] at Xk3 lk3 yk3 zk3 stk3 hQk3
  subst lk3 yk3 zk3
  obtain ⟨dk3, rfl, Nk3q, Kk3q, Gk3_0, Qk3_0, Qk3_1⟩ := hQk3
  have g_dk3 : n0 ≤ dk3 := Nat.le_trans Z0 Gk3_0
  have y_dk3 : h0.size ≤ dk3 := Nat.le_trans (Nat.le_refl h0.size) Gk3_0
  have K4 : Keep h0 Tk3.heap [t, sl, en, bk] := (Keep.refl h0 [t, sl, en, bk]).trans Kk3q all0
  have Nk3 := Fr.app N0 Nk3q
  have Z5 : n0 ≤ Tk3.heap.size := (Nat.le_trans Z0 Kk3q.1)
  have O6 : Old Z n0 Tk3.heap := (O0.keep Kk3q all0)
  obtain ⟨_, _, ⟨Tk7, Lk7, kk7, nk7⟩, -, Xk7, ⟨Lck7, hQk7, lk7, yk7, zk7⟩, stk7⟩ := Jvm.LawKit.callS Xk3 hx (y := Y6) hown (mvT hZ (tw hw 89 rfl)) (mvT hZ (tw hw 90 rfl)) (mvT hZ (tw hw 3 rfl)) (mvT hZ (tw hw 91 rfl)) (by decide) (backOf (W := 0) (rm_hash l Z a0 hw [] dk3 k (102 : Int32) (418373037 : Int32)  Tk3.heap n0 Z5 O6 Qk3_0 own_hash5) hZ (tw hw 91 rfl) (tw hw 3 rfl) (by decide) (by decide)) (g := (mkF m 9 #[.val (.ref t), .val (.ref a), .val (.ref dk3), .unset, .unset] [(.ref dk3)])) rfl (by rw [hml]; rfl) (argsL := [(.ref dk3)]) (rest := []) (lenOf pd___B_I rfl) rfl (by show 2 * 0 + _ ≤ _; exact Nat.le_of_eq rfl) (hb hby d7_9) (fun _ _ => ⟨rfl, rfl, (by decide : 1 + 0 ≤ _), (by decide : 1 + 0 ≤ _)⟩)
  dsimp only [Pt.U, Pt.locs, Pt.cells, Pt.slots] at Xk7 lk7 yk7 zk7 stk7 hQk7
  subst lk7 yk7 zk7
  obtain ⟨rfl, Nk7q, ek7⟩ := hQk7
  have Nk7 := Fr.app Nk3 Nk7q
  have F8 := (f1.keep Kk3q nin0)
  have F9 := (f6.keep Kk3q nin0)
  have F11 := (f0.keep Kk3q)
  obtain ⟨cqk10, qk10, qk10'⟩ := F11.cell
  obtain ⟨_, _, ⟨Tk10, Lk10, kk10, nk10⟩, -, Xk10, ⟨Lck10, hQk10, lk10, yk10, zk10⟩, stk10⟩ := Xk7.privateBack hx (y := Y7) hown (mvT hZ (tw hw 95 rfl)) (mvT hZ (tw hw 96 rfl)) (own_selp (mvT hZ (tw hw 27 rfl)) rfl (Cond.privateMethod_at (mvP hZ (tw hw 97 rfl) (args := #[]))) (mvT hZ (tw hw 96 rfl)) (by decide)) (Cond.privateMethod_at (mvP hZ (tw hw 97 rfl) (args := #[]))) (mvT hZ (tw hw 98 rfl)) (by decide) (backOf (W := 0) (rm_find5 l Z a0 hw [] t dk3 sl ks  Tk3.heap n0 Z5 O6 F8 F9) hZ (tw hw 98 rfl) (tw hw 3 rfl) (by decide) (by decide)) (g := (mkF m 16 #[.val (.ref t), .val (.ref a), .val (.ref dk3), .val (.int (418373037 : Int32)), .unset] [(.int (418373037 : Int32)), (.ref dk3), (.ref t)])) rfl (by rw [hml]; rfl) (Steps.refl _) (a := t) (own_eq ek7 qk10) qk10' (argsL := [(.ref dk3), (.int (418373037 : Int32))]) (rest := []) (lenOf pd___BI_I rfl) rfl (by show 2 * 0 + _ ≤ _; exact Nat.le_of_eq rfl) (hb hby d7_16) (fun _ _ => ⟨rfl, ek7, (by decide : 1 + 0 ≤ _), (by decide : 1 + 0 ≤ _)⟩)
  dsimp only [Pt.U, Pt.locs, Pt.cells, Pt.slots] at Xk10 lk10 yk10 zk10 stk10 hQk10
  subst lk10 yk10 zk10
  obtain ⟨rfl, Nk10q, ek10⟩ := hQk10
  have Nk10 := Fr.app Nk7 Nk10q
  obtain ⟨Tf12, Xf12, ef12, stf12⟩ := getF Xk10 hx hZ hown (host := "") (Or.inl (tw hw 11 rfl)) Via.refl ek10 F8 (g := (mkF m 22 #[.val (.ref t), .val (.ref a), .val (.ref dk3), .val (.int (418373037 : Int32)), .val (.int (0 : Int32))] [(.ref t)])) rfl rfl (hb hby d7_22)
  obtain ⟨clv13, Arv13, qv13, Sv13, Nv13, Hv13, Gv13⟩ := id F9
  have in14 : ¬ ((0 : Int32) < 0 ∨ clv13.slots.size ≤ ((0 : Int32)).toNatClampNeg) := inb_of Sv13 ⟨by decide, by decide⟩
  have atin14 : clv13.slots[((0 : Int32)).toNatClampNeg]? = some (.long (0 : Int64)) := Has.at Hv13 in14 rfl
  have F15 := (f5.keep Kk3q nin0)
  obtain ⟨Tf16, Xf16, ef16, stf16⟩ := getF Xf12 hx hZ hown (host := "") (Or.inl (tw hw 29 rfl)) Via.refl ef12 F15 (g := (mkF m 36 #[.val (.ref t), .val (.ref a), .val (.ref dk3), .val (.int (418373037 : Int32)), .val (.int (0 : Int32))] [(.ref t)])) rfl rfl (hb hby d7_36)
  obtain ⟨Tf17, Xf17, ef17, stf17⟩ := getF Xf16 hx hZ hown (host := "") (Or.inl (tw hw 11 rfl)) Via.refl ef16 F8 (g := (mkF m 42 #[.val (.ref t), .val (.ref a), .val (.ref dk3), .val (.int (418373037 : Int32)), .val (.int (0 : Int32))] [(.ref t), (.int (6 : Int32))])) rfl rfl (hb hby d7_42)
  have F18 := (f4.keep Kk3q nin0)
  have F19 := (f3.keep Kk3q nin0)
  have F20 := (f2.keep Kk3q nin0)
  have F21 := (f10.keep Kk3q nin0)
  have F22 := (f12.keep Kk3q nin0)
  have F24 := (f13.keep Kk3q)
  have ne23 : t ≠ bk := ne_exa F11 F24 (by decide)
  have ne25 : bk ≠ dk3 := Nat.ne_of_lt (Nat.lt_of_lt_of_le f12.lt Gk3_0)
  have F27 := (f11.keep Kk3q)
  have ne26 : bl ≠ bk := ne_exa F27 F24 (by decide)
  obtain ⟨cqk28, qk28, qk28'⟩ := F11.cell
  obtain ⟨_, _, ⟨Tk28, Lk28, kk28, nk28⟩, -, Xk28, ⟨Lck28, hQk28, lk28, yk28, zk28⟩, stk28⟩ := Xf17.privateBack hx (y := Y10) hown (mvT hZ (tw hw 99 rfl)) (mvT hZ (tw hw 100 rfl)) (own_selp (mvT hZ (tw hw 27 rfl)) rfl (Cond.privateMethod_at (mvP hZ (tw hw 101 rfl) (args := #[]))) (mvT hZ (tw hw 100 rfl)) (by decide)) (Cond.privateMethod_at (mvP hZ (tw hw 101 rfl) (args := #[]))) (mvT hZ (tw hw 102 rfl)) (by decide) (backOf (W := 0) (rm_store5 l Z a0 hw [] t dk3 k bl kbl sl en bk kbk  Tk3.heap n0 Z5 O6 F11 F18 F19 Qk3_0 F15 F8 F20 F21 F22 gt gbk ne23 (Ne.symm ne25) ne26) hZ (tw hw 102 rfl) (tw hw 3 rfl) (by decide) (by decide)) (g := (mkF m 67 #[.val (.ref t), .val (.ref a), .val (.ref dk3), .val (.int (418373037 : Int32)), .val (.int (0 : Int32))] [(.ref dk3), (.ref t)])) rfl (by rw [hml]; rfl) (Steps.refl _) (a := t) (own_eq ef17 qk28) qk28' (argsL := [(.ref dk3)]) (rest := []) (lenOf pd___B_V rfl) rfl (by show 2 * 0 + _ ≤ _; exact Nat.le_of_eq rfl) (hb hby d7_67) (fun _ _ => ⟨rfl, ef17, (by decide : 1 + 0 ≤ _), (by decide : 1 + 0 ≤ _)⟩)
  dsimp only [Pt.U, Pt.locs, Pt.cells, Pt.slots] at Xk28 lk28 yk28 zk28 stk28 hQk28
  subst lk28 yk28 zk28
  obtain ⟨rfl, Nk28q, Kk28q, Qk28_0, Qk28_1, Qk28_2, Qk28_3, Qk28_4, Qk28_5⟩ := hQk28
  have K29 : Keep h0 Tk28.heap [t, sl, en, bk] := K4.trans Kk28q (allS (P := fun x => x ∈ [t, sl, en, bk] ∨ h0.size ≤ x) (Or.inl (List.mem_of_getElem? (i := 0) rfl)) (allS (P := fun x => x ∈ [t, sl, en, bk] ∨ h0.size ≤ x) (Or.inl (List.mem_of_getElem? (i := 3) rfl)) all0))
  have Nk28 := Fr.app Nk10 Nk28q
  obtain ⟨Tf30, Xf30, ef30, stf30⟩ := getF Xk28 hx hZ hown (host := "") (Or.inl (tw hw 11 rfl)) Via.refl rfl Qk28_3 (g := (mkF m 71 #[.val (.ref t), .val (.ref a), .val (.ref dk3), .val (.int (418373037 : Int32)), .val (.int (0 : Int32))] [(.ref t)])) rfl rfl (hb hby d7_71)
  obtain ⟨Tf31, Xf31, ef31, stf31⟩ := getF Xf30 hx hZ hown (host := "") (Or.inl (tw hw 29 rfl)) Via.refl ef30 Qk28_2 (g := (mkF m 82 #[.val (.ref t), .val (.ref a), .val (.ref dk3), .val (.int (418373037 : Int32)), .val (.int (0 : Int32))] [(.ref t), (.long (1796898511443197952 : Int64)), (.int (0 : Int32)), (.ref sl)])) rfl rfl (hb hby d7_82)
  have F33 := ((f7.keep Kk3q).keep Kk28q)
  have F34 := (F24.keep Kk28q)
  have ne32 : sl ≠ bk := ne_exa F33 F34 (by decide)
  have F36 := (F11.keep Kk28q)
  have ne35 : sl ≠ t := ne_exa F33 F36 (by decide)
  have F37 := (F9.keep Kk28q (ninS ne35 (ninS ne32 nin0)))
  obtain ⟨clv38, Arv38, qv38, Sv38, Nv38, Hv38, Gv38⟩ := id F37
  have in39 : ¬ ((0 : Int32) < 0 ∨ clv38.slots.size ≤ ((0 : Int32)).toNatClampNeg) := inb_of Sv38 ⟨by decide, by decide⟩
  obtain ⟨Tw40, hw40, Xw40, ew40, Ww40, stw40⟩ := stJ Xf31 hx hZ ef31 Arv38 (j := (0 : Int32)) in39 (g := (mkF m 89 #[.val (.ref t), .val (.ref a), .val (.ref dk3), .val (.int (418373037 : Int32)), .val (.int (0 : Int32))] [(.long (1796898511443197958 : Int64)), (.int (0 : Int32)), (.ref sl)])) rfl rfl (hb hby d7_89)
  have Vw40 : Arv Z hw40 sl ks .long (16 : Int32) [(.long (1796898511443197958 : Int64)), (.long (0 : Int64)), (.long (0 : Int64)), (.long (0 : Int64)), (.long (0 : Int64)), (.long (3719577833094250501 : Int64)), (.long (0 : Int64)), (.long (0 : Int64)), (.long (0 : Int64)), (.long (0 : Int64)), (.long (0 : Int64)), (.long (0 : Int64)), (.long (-2306841795268444158 : Int64)), (.long (1808655176962146305 : Int64)), (.long (-2839092971725389821 : Int64)), (.long (1750739909502566404 : Int64))] (.long (0 : Int64)) := Arv.set Arv38 qv38 Sv38 Nv38 Hv38 Gv38 rfl Ww40 0 rfl (Nat.le_of_ble_eq_true rfl)
  have Nw40 := Fr.snoc Xw40 Nk28 gsl
  have K41 : Keep h0 hw40 [t, sl, en, bk] := K29.wr Ww40 (Or.inl (List.mem_of_getElem? (i := 1) rfl))
  have F42 := (Qk28_2.other Ww40 (Or.inl (Ne.symm ne35)))
  obtain ⟨Tf43, Xf43, ef43, stf43⟩ := getF Xw40 hx hZ hown (host := "") (Or.inl (tw hw 29 rfl)) Via.refl ew40 F42 (g := (mkF m 92 #[.val (.ref t), .val (.ref a), .val (.ref dk3), .val (.int (418373037 : Int32)), .val (.int (0 : Int32))] [(.ref t), (.ref t)])) rfl rfl (hb hby d7_92)
  have F44 := (F36.wr Ww40)
  obtain ⟨Tp45, hp45, Xp45, ep45, Wp45, stp45⟩ := putF Xf43 hx hZ hown (host := "") (Or.inl (tw hw 29 rfl)) Via.refl ef43 F42 F44 (Or.inl (tw hw 30 rfl)) (tw hw 2 rfl) (ty := .int) (by decide) rfl rfl (g := (mkF m 97 #[.val (.ref t), .val (.ref a), .val (.ref dk3), .val (.int (418373037 : Int32)), .val (.int (0 : Int32))] [(.int (6 : Int32)), (.ref t)])) rfl rfl (hb hby d7_97)
  have Fwp45 : Fld Z hp45 t S1 "size" "I" (.int (6 : Int32)) := F42.same Wp45
  have Np45 := Fr.snoc Xp45 Nw40 gt
  have K46 : Keep h0 hp45 [t, sl, en, bk] := K41.wr Wp45 (Or.inl (List.mem_of_getElem? (i := 0) rfl))
  have F47 := ((Qk28_4.other Ww40 (Or.inl (Ne.symm ne35))).other Wp45 (Or.inr (slot_ne (Or.inl (tw hw 15 rfl)) (Or.inl (tw hw 30 rfl)) (by decide) (t := (.array .int)) (t' := .int) (by decide) (by decide))))
  obtain ⟨Tf48, Xf48, ef48, stf48⟩ := getF Xp45 hx hZ hown (host := "") (Or.inl (tw hw 14 rfl)) Via.refl ep45 F47 (g := (mkF m 103 #[.val (.ref t), .val (.ref a), .val (.ref dk3), .val (.int (418373037 : Int32)), .val (.int (0 : Int32))] [(.ref t), (.ref t), (.ref t)])) rfl rfl (hb hby d7_103)
  have F50 := ((((f9.keep Kk3q).keep Kk28q).wr Ww40).wr Wp45)
  have F51 := ((F34.wr Ww40).wr Wp45)
  have ne49 : en ≠ bk := ne_exa F50 F51 (by decide)
  have F53 := (F44.wr Wp45)
  have ne52 : en ≠ t := ne_exa F50 F53 (by decide)
  have F55 := ((F33.wr Ww40).wr Wp45)
  have ne54 : en ≠ sl := ne_exa F50 F55 (by decide)
  have F56 := ((((f8.keep Kk3q nin0).keep Kk28q (ninS ne52 (ninS ne49 nin0))).other Ww40 ne54).other Wp45 ne52)
  have Z57 : n0 ≤ hp45.size := (Nat.le_trans (Nat.le_trans (Nat.le_trans Z5 Kk28q.1) (Keep.of_wr Ww40).1) (Keep.of_wr Wp45).1)
  have O58 : Old Z n0 hp45 := (((O6.keep Kk28q (allS gt (allS gbk all0))).wr Ww40 gsl).wr Wp45 gt)
  obtain ⟨cqk59, kqk59, qk59a, qk59b, qk59c⟩ := isOf hZ ef48 F53
  obtain ⟨_, _, ⟨Tk59, Lk59, kk59, nk59⟩, -, Xk59, ⟨Lck59, hQk59, lk59, yk59, zk59⟩, stk59⟩ := Xf48.virtualBack hx (y := Y13) (z := Y13) hown (mvT hZ (tw hw 116 rfl)) (mvT hZ (tw hw 25 rfl)) (notFace_of_selects (args := #[]) (mvT hZ (tw hw 27 rfl))) (mvT hZ (tw hw 27 rfl)) (mvT hZ (tw hw 26 rfl)) (by decide) (backOf (W := 1) (rm_fits_ l Z a0 hw [] t en ken (6 : Int32) [(.int (1 : Int32)), (.int (2 : Int32)), (.int (3 : Int32)), (.int (4 : Int32)), (.int (5 : Int32)), (.int (0 : Int32))] (6 : Int32)  hp45 n0 Z57 O58 Fwp45 F56 (by decide)) hZ (tw hw 28 rfl) (tw hw 3 rfl) (by decide) (by decide)) qk59a qk59c (g := (mkF m 106 #[.val (.ref t), .val (.ref a), .val (.ref dk3), .val (.int (418373037 : Int32)), .val (.int (0 : Int32))] [(.ref en), (.ref t), (.ref t)])) rfl (by rw [hml]; rfl) (Steps.refl _) (argsL := [(.ref en)]) (rest := [(.ref t)]) (lenOf pd___I__I rfl) rfl (by show 2 * 0 + _ ≤ _; exact Nat.le_of_eq rfl) (hb hby d7_106) (fun _ _ => ⟨rfl, ef48, (by decide : 1 + 0 ≤ _), (by decide : 1 + 0 ≤ _)⟩)
  dsimp only [Pt.U, Pt.locs, Pt.cells, Pt.slots] at Xk59 lk59 yk59 zk59 stk59 hQk59
  subst lk59 yk59 zk59
  obtain ⟨rfl, Nk59q, ek59⟩ := hQk59
  have Nk59 := Fr.app Np45 Nk59q
  obtain ⟨Tp60, hp60, Xp60, ep60, Wp60, stp60⟩ := putF Xk59 hx hZ hown (host := "") (Or.inl (tw hw 14 rfl)) Via.refl ek59 F47 F53 (Or.inl (tw hw 15 rfl)) (tw hw 2 rfl) (ty := (.array .int)) (by decide) rfl rfl (g := (mkF m 109 #[.val (.ref t), .val (.ref a), .val (.ref dk3), .val (.int (418373037 : Int32)), .val (.int (0 : Int32))] [(.ref en), (.ref t)])) rfl rfl (hb hby d7_109)
  have Fwp60 : Fld Z hp60 t S1 "ends" "[I" (.ref en) := F47.same Wp60
  have Np60 := Fr.snoc Xp60 Nk59 gt
  have K61 : Keep h0 hp60 [t, sl, en, bk] := K46.wr Wp60 (Or.inl (List.mem_of_getElem? (i := 0) rfl))
  obtain ⟨Tf62, Xf62, ef62, stf62⟩ := getF Xp60 hx hZ hown (host := "") (Or.inl (tw hw 14 rfl)) Via.refl ep60 Fwp60 (g := (mkF m 113 #[.val (.ref t), .val (.ref a), .val (.ref dk3), .val (.int (418373037 : Int32)), .val (.int (0 : Int32))] [(.ref t)])) rfl rfl (hb hby d7_113)
  have F63 := (Fwp45.other Wp60 (Or.inr (slot_ne (Or.inl (tw hw 30 rfl)) (Or.inl (tw hw 15 rfl)) (by decide) (t := .int) (t' := (.array .int)) (by decide) (by decide))))
  obtain ⟨Tf64, Xf64, ef64, stf64⟩ := getF Xf62 hx hZ hown (host := "") (Or.inl (tw hw 29 rfl)) Via.refl ef62 F63 (g := (mkF m 117 #[.val (.ref t), .val (.ref a), .val (.ref dk3), .val (.int (418373037 : Int32)), .val (.int (0 : Int32))] [(.ref t), (.ref en)])) rfl rfl (hb hby d7_117)
  have F65 := (((Qk28_0.other Ww40 (Or.inl (Ne.symm ne35))).other Wp45 (Or.inr (slot_ne (Or.inl (tw hw 105 rfl)) (Or.inl (tw hw 30 rfl)) (by decide) (t := .int) (t' := .int) (by decide) (by decide)))).other Wp60 (Or.inr (slot_ne (Or.inl (tw hw 105 rfl)) (Or.inl (tw hw 15 rfl)) (by decide) (t := .int) (t' := (.array .int)) (by decide) (by decide))))
  obtain ⟨Tf66, Xf66, ef66, stf66⟩ := getF Xf64 hx hZ hown (host := "") (Or.inl (tw hw 104 rfl)) Via.refl ef64 F65 (g := (mkF m 123 #[.val (.ref t), .val (.ref a), .val (.ref dk3), .val (.int (418373037 : Int32)), .val (.int (0 : Int32))] [(.ref t), (.int (5 : Int32)), (.ref en)])) rfl rfl (hb hby d7_123)
  have F67 := (F56.other Wp60 ne52)
  obtain ⟨clv68, Arv68, qv68, Sv68, Nv68, Hv68, Gv68⟩ := id F67
  have in69 : ¬ ((5 : Int32) < 0 ∨ clv68.slots.size ≤ ((5 : Int32)).toNatClampNeg) := inb_of Sv68 ⟨by decide, by decide⟩
  obtain ⟨Tw70, hw70, Xw70, ew70, Ww70, stw70⟩ := stI Xf66 hx hZ ef66 Arv68 (j := (5 : Int32)) in69 (g := (mkF m 126 #[.val (.ref t), .val (.ref a), .val (.ref dk3), .val (.int (418373037 : Int32)), .val (.int (0 : Int32))] [(.int (6 : Int32)), (.int (5 : Int32)), (.ref en)])) rfl rfl (hb hby d7_126)
  have Vw70 : Arv Z hw70 en ken .int (6 : Int32) [(.int (1 : Int32)), (.int (2 : Int32)), (.int (3 : Int32)), (.int (4 : Int32)), (.int (5 : Int32)), (.int (6 : Int32))] (.int (0 : Int32)) := Arv.set Arv68 qv68 Sv68 Nv68 Hv68 Gv68 rfl Ww70 5 rfl (Nat.le_of_ble_eq_true rfl)
  have Nw70 := Fr.snoc Xw70 Np60 gen
  have K71 : Keep h0 hw70 [t, sl, en, bk] := K61.wr Ww70 (Or.inl (List.mem_of_getElem? (i := 2) rfl))
  have F72 := ((((Qk28_3.other Ww40 (Or.inl (Ne.symm ne35))).other Wp45 (Or.inr (slot_ne (Or.inl (tw hw 12 rfl)) (Or.inl (tw hw 30 rfl)) (by decide) (t := (.array .long)) (t' := .int) (by decide) (by decide)))).other Wp60 (Or.inr (slot_ne (Or.inl (tw hw 12 rfl)) (Or.inl (tw hw 15 rfl)) (by decide) (t := (.array .long)) (t' := (.array .int)) (by decide) (by decide)))).other Ww70 (Or.inl (Ne.symm ne52)))
  have F73 := (Fwp60.other Ww70 (Or.inl (Ne.symm ne52)))
  have F74 := ((((Qk28_1.other Ww40 (Or.inl (Ne.symm ne35))).other Wp45 (Or.inr (slot_ne (Or.inl (tw hw 19 rfl)) (Or.inl (tw hw 30 rfl)) (by decide) (t := (.array (.array .byte))) (t' := .int) (by decide) (by decide)))).other Wp60 (Or.inr (slot_ne (Or.inl (tw hw 19 rfl)) (Or.inl (tw hw 15 rfl)) (by decide) (t := (.array (.array .byte))) (t' := (.array .int)) (by decide) (by decide)))).other Ww70 (Or.inl (Ne.symm ne52)))
  have F75 := (F65.other Ww70 (Or.inl (Ne.symm ne52)))
  have F76 := (F63.other Ww70 (Or.inl (Ne.symm ne52)))
  have F77 := (((Vw40.other Wp45 ne35).other Wp60 ne35).other Ww70 (Ne.symm ne54))
  have F79 := (((((F27.keep Kk28q).wr Ww40).wr Wp45).wr Wp60).wr Ww70)
  have F80 := ((F53.wr Wp60).wr Ww70)
  have ne78 : bl ≠ t := ne_exa F79 F80 (by decide)
  have F82 := ((F55.wr Wp60).wr Ww70)
  have ne81 : bl ≠ sl := ne_exa F79 F82 (by decide)
  have F84 := ((F50.wr Wp60).wr Ww70)
  have ne83 : bl ≠ en := ne_exa F79 F84 (by decide)
  have F85 := (((((F21.keep Kk28q (ninS ne78 (ninS ne26 nin0))).other Ww40 ne81).other Wp45 ne78).other Wp60 ne78).other Ww70 ne83)
  have F86 := ((((Qk28_5.other Ww40 (Ne.symm ne32)).other Wp45 (Ne.symm ne23)).other Wp60 (Ne.symm ne23)).other Ww70 (Ne.symm ne49))
  obtain ⟨fs, hlv, hrun, hended, hW, hsame⟩ := Xw70.leave (v := some (.int (1 : Int32))) (fun h => by rw [hret] at h; cases h)
  refine ⟨_, _, pre0 _ ?_, hrun, hended, _, _, rfl, ?_, ⟨_, rfl⟩, hW, hsame.mono (by decide) (by decide)⟩
  · refine XS.aloadN X0.here hx rfl (hb hby d7_0) rfl rfl ?_
    show Sp p e below s₁ (mkF m 1 #[.val (.ref t), .val (.ref a), .unset, .unset, .unset] [(.ref a)]) _
    refine stg2 _ ?_
    refine stk3.trans ?_
    refine XS.astoreN Xk3.here hx rfl (hb hby d7_7) rfl rfl (l' := #[.val (.ref t), .val (.ref a), .val (.ref dk3), .unset, .unset]) rfl ?_
    refine XS.aloadN Xk3.here hx rfl (hb hby d7_8) rfl rfl ?_
    refine stk7 _ ?_
    refine XS.istoreN Xk7.here hx rfl (hb hby d7_12) rfl (l' := #[.val (.ref t), .val (.ref a), .val (.ref dk3), .val (.int (418373037 : Int32)), .unset]) rfl ?_
    refine XS.aloadN Xk7.here hx rfl (hb hby d7_13) rfl rfl ?_
    refine XS.aloadN Xk7.here hx rfl (hb hby d7_14) rfl rfl ?_
    refine XS.iloadN Xk7.here hx rfl (hb hby d7_15) rfl ?_
    refine stk10.trans ?_
    refine XS.istore Xk10.here hx rfl (hb hby d7_19) rfl (l' := #[.val (.ref t), .val (.ref a), .val (.ref dk3), .val (.int (418373037 : Int32)), .val (.int (0 : Int32))]) rfl ?_
    refine XS.aloadN Xk10.here hx rfl (hb hby d7_21) rfl rfl ?_
    refine stf12 _ ?_
    refine XS.iload Xf12.here hx rfl (hb hby d7_25) rfl ?_
    show Sp p e below Tf12 (mkF m 27 #[.val (.ref t), .val (.ref a), .val (.ref dk3), .val (.int (418373037 : Int32)), .val (.int (0 : Int32))] [(.int (0 : Int32)), (.ref sl)]) _
    refine Xf12.laload hx (j := (0 : Int32)) (v := (.long (0 : Int64))) (own_eq ef12 Arv13.1) (State.isArrayOf_alike hZ.alike Arv13.2.1) Arv13.2.2 in14 atin14 (g := (mkF m 27 #[.val (.ref t), .val (.ref a), .val (.ref dk3), .val (.int (418373037 : Int32)), .val (.int (0 : Int32))] [(.int (0 : Int32)), (.ref sl)])) rfl rfl (hb hby d7_27) _ ?_
    show Sp p e below Tf12 (mkF m 28 #[.val (.ref t), .val (.ref a), .val (.ref dk3), .val (.int (418373037 : Int32)), .val (.int (0 : Int32))] [(.long (0 : Int64))]) _
    refine XS.lconst Xf12.here hx rfl (hb hby d7_28) ?_
    refine XS.lcmp Xf12.here hx rfl (hb hby d7_29) rfl ?_
    refine XS.ifYes Xf12.here hx rfl (pc0 := 30) (pc' := 35) rfl (hb hby d7_30) rfl ((if0 _ _).trans (teq (by decide : (0 : Int32) = (0 : Int32))).1) (by decide) (by decide) ?_
    refine XS.aloadN Xf12.here hx rfl (hb hby d7_35) rfl rfl ?_
    refine stf16 _ ?_
    refine XS.iconst Xf16.here hx rfl (hb hby d7_39) ?_
    refine XS.iadd Xf16.here hx rfl (hb hby d7_40) rfl ?_
    refine XS.aloadN Xf16.here hx rfl (hb hby d7_41) rfl rfl ?_
    refine stf17 _ ?_
    show Sp p e below Tf17 (mkF m 45 #[.val (.ref t), .val (.ref a), .val (.ref dk3), .val (.int (418373037 : Int32)), .val (.int (0 : Int32))] [(.ref sl), (.int (6 : Int32))]) _
    refine Xf17.arraylength hx (own_eq ef17 Arv13.1) (State.isArrayOf_alike hZ.alike Arv13.2.1) (g := (mkF m 45 #[.val (.ref t), .val (.ref a), .val (.ref dk3), .val (.int (418373037 : Int32)), .val (.int (0 : Int32))] [(.ref sl), (.int (6 : Int32))])) rfl rfl (hb hby d7_45) _ ?_
    rw [len_of Sv13 Nv13]
    show Sp p e below Tf17 (mkF m 46 #[.val (.ref t), .val (.ref a), .val (.ref dk3), .val (.int (418373037 : Int32)), .val (.int (0 : Int32))] [(.int (16 : Int32)), (.int (6 : Int32))]) _
    refine XS.iconst Xf17.here hx rfl (hb hby d7_46) ?_
    refine XS.idiv Xf17.here hx rfl (hb hby d7_47) rfl (by decide) ?_
    refine XS.iconst Xf17.here hx rfl (hb hby d7_48) ?_
    refine XS.imul Xf17.here hx rfl (hb hby d7_49) rfl ?_
    refine XS.icmpYes Xf17.here hx rfl (pc0 := 50) (pc' := 65) rfl (hb hby d7_50) rfl (flt (by decide : ¬ ((12 : Int32) < (6 : Int32)))).2.2.2 (by decide) (by decide) ?_
    refine XS.aloadN Xf17.here hx rfl (hb hby d7_65) rfl rfl ?_
    refine XS.aloadN Xf17.here hx rfl (hb hby d7_66) rfl rfl ?_
    refine stk28.trans ?_
    refine XS.aloadN Xk28.here hx rfl (hb hby d7_70) rfl rfl ?_
    refine stf30 _ ?_
    refine XS.iload Xf30.here hx rfl (hb hby d7_74) rfl ?_
    refine XS.iloadN Xf30.here hx rfl (hb hby d7_76) rfl ?_
    refine XS.i2l Xf30.here hx rfl (hb hby d7_77) rfl ?_
    refine XS.bipush Xf30.here hx rfl (hb hby d7_78) ?_
    refine XS.lshl Xf30.here hx rfl (hb hby d7_80) rfl ?_
    refine XS.aloadN Xf30.here hx rfl (hb hby d7_81) rfl rfl ?_
    refine stf31 _ ?_
    refine XS.i2l Xf31.here hx rfl (hb hby d7_85) rfl ?_
    refine XS.lconst Xf31.here hx rfl (hb hby d7_86) ?_
    refine XS.ladd Xf31.here hx rfl (hb hby d7_87) rfl ?_
    refine XS.lor Xf31.here hx rfl (hb hby d7_88) rfl ?_
    show Sp p e below Tf31 (mkF m 89 #[.val (.ref t), .val (.ref a), .val (.ref dk3), .val (.int (418373037 : Int32)), .val (.int (0 : Int32))] [(.long (1796898511443197958 : Int64)), (.int (0 : Int32)), (.ref sl)]) _
    refine stw40 _ ?_
    refine XS.aloadN Xw40.here hx rfl (hb hby d7_90) rfl rfl ?_
    refine XS.dup Xw40.here hx rfl (hb hby d7_91) rfl rfl ?_
    refine stf43 _ ?_
    refine XS.iconst Xf43.here hx rfl (hb hby d7_95) ?_
    refine XS.iadd Xf43.here hx rfl (hb hby d7_96) rfl ?_
    refine stp45 _ ?_
    refine XS.aloadN Xp45.here hx rfl (hb hby d7_100) rfl rfl ?_
    refine XS.aloadN Xp45.here hx rfl (hb hby d7_101) rfl rfl ?_
    refine XS.aloadN Xp45.here hx rfl (hb hby d7_102) rfl rfl ?_
    refine stf48 _ ?_
    refine stk59.trans ?_
    refine stp60 _ ?_
    refine XS.aloadN Xp60.here hx rfl (hb hby d7_112) rfl rfl ?_
    refine stf62 _ ?_
    refine XS.aloadN Xf62.here hx rfl (hb hby d7_116) rfl rfl ?_
    refine stf64 _ ?_
    refine XS.iconst Xf64.here hx rfl (hb hby d7_120) ?_
    refine XS.isub Xf64.here hx rfl (hb hby d7_121) rfl ?_
    refine XS.aloadN Xf64.here hx rfl (hb hby d7_122) rfl rfl ?_
    refine stf66 _ ?_
    show Sp p e below Tf66 (mkF m 126 #[.val (.ref t), .val (.ref a), .val (.ref dk3), .val (.int (418373037 : Int32)), .val (.int (0 : Int32))] [(.int (6 : Int32)), (.int (5 : Int32)), (.ref en)]) _
    refine stw70 _ ?_
    refine XS.iconst Xw70.here hx rfl (hb hby d7_127) ?_
    show Sp p e below Tw70 (mkF m 128 #[.val (.ref t), .val (.ref a), .val (.ref dk3), .val (.int (418373037 : Int32)), .val (.int (0 : Int32))] [(.int (1 : Int32))]) _
    exact retN Xw70 hx (t := .boolean) hret (by simp) (hb hby d7_128) hlv
  · show Q_add5 Z t a b k sl ks en ken bl kbl bk kbk aU cs h0 n0 _ Tw70.heap _
    rw [ew70]
    exact ⟨rfl, Nw70, K71, F72, F73, F74, F75, F76, F77, Vw70, F85, F86⟩
def Q_add6 (Z : State) (t : Addr) (a : Addr) (b : Addr) (k : ClassId) (sl : Addr) (ks : ClassId) (en : Addr) (ken : ClassId) (bl : Addr) (kbl : ClassId) (bk : Addr) (kbk : ClassId) (aU : Addr) (cs : Int32) (h0 : Heap) (n0 : Nat) (v : Option Value) (h : Heap) (L : List Loc) : Prop := ∃ en2 : Addr, ∃ ken2 : ClassId, v = some (.int (1 : Int32)) ∧ Fr n0 L ∧ Keep h0 h [t, sl, bk] ∧ h0.size ≤ en2 ∧ Fld Z h t S1 "slots" "[J" (.ref sl) ∧ Fld Z h t S1 "ends" "[I" (.ref en2) ∧ Fld Z h t S1 "blocks" "[[B" (.ref bl) ∧ Fld Z h t S1 "stored" "I" (.int (7 : Int32)) ∧ Fld Z h t S1 "size" "I" (.int (7 : Int32)) ∧ Arv Z h sl ks .long (16 : Int32) [(.long (1796898511443197958 : Int64)), (.long (0 : Int64)), (.long (0 : Int64)), (.long (0 : Int64)), (.long (0 : Int64)), (.long (3719577833094250501 : Int64)), (.long (0 : Int64)), (.long (0 : Int64)), (.long (0 : Int64)), (.long (0 : Int64)), (.long (-5987724090444611577 : Int64)), (.long (0 : Int64)), (.long (-2306841795268444158 : Int64)), (.long (1808655176962146305 : Int64)), (.long (-2839092971725389821 : Int64)), (.long (1750739909502566404 : Int64))] (.long (0 : Int64)) ∧ Arv Z h en2 ken2 .int (9 : Int32) [(.int (1 : Int32)), (.int (2 : Int32)), (.int (3 : Int32)), (.int (4 : Int32)), (.int (5 : Int32)), (.int (6 : Int32)), (.int (7 : Int32)), (.int (0 : Int32)), (.int (0 : Int32))] (.int (0 : Int32)) ∧ Exa Z h en2 "[I" ∧ Arv Z h bl kbl (.array .byte) (1 : Int32) [(.ref bk)] .null ∧ Arv Z h bk kbk .byte (65536 : Int32) [(.int (97 : Int32)), (.int (98 : Int32)), (.int (99 : Int32)), (.int (100 : Int32)), (.int (101 : Int32)), (.int (102 : Int32)), (.int (103 : Int32)), (.int (0 : Int32))] (.int (0 : Int32))
set_option maxRecDepth 65536 in
set_option maxHeartbeats 40000000 in
theorem rm_add6 (l : Launch) (Z : State) (a0 : Array Value) (hw : ∀ d ∈ tables_1, d.before a0 Z = true) (ws : List Jvm.Cond) (t : Addr) (a : Addr) (b : Addr) (k : ClassId) (sl : Addr) (ks : ClassId) (en : Addr) (ken : ClassId) (bl : Addr) (kbl : ClassId) (bk : Addr) (kbk : ClassId) (aU : Addr) (cs : Int32) (h0 : Heap) (n0 : Nat) (Z0 : n0 ≤ h0.size) (O0 : Old Z n0 h0) (f0 : Exa Z h0 t S1) (f1 : Fld Z h0 t S1 "slots" "[J" (.ref sl)) (f2 : Fld Z h0 t S1 "ends" "[I" (.ref en)) (f3 : Fld Z h0 t S1 "blocks" "[[B" (.ref bl)) (f4 : Fld Z h0 t S1 "stored" "I" (.int (6 : Int32))) (f5 : Fld Z h0 t S1 "size" "I" (.int (6 : Int32))) (f6 : Arv Z h0 sl ks .long (16 : Int32) [(.long (1796898511443197958 : Int64)), (.long (0 : Int64)), (.long (0 : Int64)), (.long (0 : Int64)), (.long (0 : Int64)), (.long (3719577833094250501 : Int64)), (.long (0 : Int64)), (.long (0 : Int64)), (.long (0 : Int64)), (.long (0 : Int64)), (.long (0 : Int64)), (.long (0 : Int64)), (.long (-2306841795268444158 : Int64)), (.long (1808655176962146305 : Int64)), (.long (-2839092971725389821 : Int64)), (.long (1750739909502566404 : Int64))] (.long (0 : Int64))) (f7 : Exa Z h0 sl "[J") (f8 : Arv Z h0 en ken .int (6 : Int32) [(.int (1 : Int32)), (.int (2 : Int32)), (.int (3 : Int32)), (.int (4 : Int32)), (.int (5 : Int32)), (.int (6 : Int32))] (.int (0 : Int32))) (f9 : Exa Z h0 en "[I") (f10 : Arv Z h0 bl kbl (.array .byte) (1 : Int32) [(.ref bk)] .null) (f11 : Exa Z h0 bl "[[B") (f12 : Arv Z h0 bk kbk .byte (65536 : Int32) [(.int (97 : Int32)), (.int (98 : Int32)), (.int (99 : Int32)), (.int (100 : Int32)), (.int (101 : Int32)), (.int (102 : Int32)), (.int (0 : Int32)), (.int (0 : Int32))] (.int (0 : Int32))) (f13 : Exa Z h0 bk "[B") (f14 : Exa Z h0 a S0) (f15 : Fld Z h0 a S0 "coder" "B" (.int (0 : Int32))) (f16 : Fld Z h0 a S0 "value" "[B" (.ref b)) (f17 : Arv Z h0 b k .byte (1 : Int32) [(.int (103 : Int32))] (.int (0 : Int32))) (f18 : Exa Z h0 b "[B") (SS : own_start Z aU cs) (gt : n0 ≤ t) (gsl : n0 ≤ sl) (gbk : n0 ≤ bk) :
    MetFree l Y15 (head1 (Jvm.Cond.code Y15 prog_57_method_6_code 5 (some .boolean) :: ws) ({ frames := 5, cells := 2, slots := 13, locals := 77 } : Room)) (fun A_ U => A_ = #[(.ref t), (.ref a)] ∧ Z.Warmed39 U.vm ∧ U.heap = h0) (fun _ _ _ _ _ => True) (fun _ U o_ U' => ∃ v_ L_, o_ = .returned v_ ∧ Q_add6 Z t a b k sl ks en ken bl kbl bk kbk aU cs h0 n0 v_ U'.heap L_ ∧ FrameEnd U o_ U' L_ ({ frames := 5, cells := 2, slots := 13, locals := 77 } : Room).cells ({ frames := 5, cells := 2, slots := 13, locals := 77 } : Room).slots) := by
  refine MetFree.of_bodySF (plainFor_of_name pn_2) hisR ?_
  intro p e s m args below meth c s₁ Bd hml0 hP hK
  obtain ⟨rfl, hZ, hh⟩ := hP
  have hx := Bd.exec
  have hby := Bd.bytes
  have hml : c.maxLocals = 5 := hml0
  have hown : s.vm.findClass S1 = some m.cls := findClass_of_methodNamed Bd.named
  have hnm := (name_of_methodNamed Bd.named Bd.method).1
  have hret := Bd.returns
  have X0 : Stand p l e ({ frames := 5, cells := 2, slots := 13, locals := 77 } : Room) s m #[(.ref t), (.ref a)] below meth c s₁ [] 0 0 := Stand.of_body Bd
  have e0 : s₁.heap = h0 := by rw [← hh, Bd.state]; rfl
  have N0 := Fr.nil n0
  have pre0 : ∀ t_, Sp p e below s₁ (mkF m 0 #[.val (.ref t), .val (.ref a), .unset, .unset, .unset] []) t_ → Sp p e below s₁ (entryFrame m #[(.ref t), (.ref a)] 5) t_ := fun t_ k_ => castTop (ef_7_RR m t a) k_
  obtain ⟨S_U8, S_IN, S_CS, H_CS⟩ := SS
  have F1 := S_U8.ext O0.2
  obtain ⟨Tg2, Xg2, eg2, stg2⟩ := getS2 X0 hx hZ hown (host := "") (Or.inl (tw hw 50 rfl)) Via.refl e0 F1 (g := (mkF m 1 #[.val (.ref t), .val (.ref a), .unset, .unset, .unset] [(.ref a)])) rfl (hb hby d7_1)
  obtain ⟨cqk3, kqk3, qk3a, qk3b, qk3c⟩ := isOf hZ eg2 f14
  obtain ⟨_, _, ⟨Tk3, Lk3, kk3, nk3⟩, -, Xk3, ⟨Lck3, hQk3, lk3, yk3, zk3⟩, stk3⟩ := Xg2.virtualBack hx (y := Y5) (z := Y5) hown (mvT hZ (tw hw 52 rfl)) (mvT hZ (tw hw 53 rfl)) (notFace_of_selects (args := #[]) (mvT hZ (tw hw 55 rfl))) (mvT hZ (tw hw 55 rfl)) (mvT hZ (tw hw 54 rfl)) (by decide) (backOf (W := 0) (rm_getbytes l Z a0 hw [] a b k (103 : Int32) aU cs h0 n0 Z0 O0 f14 f15 f16 f17 f18 ⟨S_U8, S_IN, S_CS, H_CS⟩ (by decide)) hZ (tw hw 56 rfl) (tw hw 38 rfl) (by decide) (by decide)) qk3a qk3c (g := (mkF m 4 #[.val (.ref t), .val (.ref a), .unset, .unset, .unset] [(.ref aU), (.ref a)])) rfl (by rw [hml]; rfl) (Steps.refl _) (argsL := [(.ref aU)]) (rest := []) (lenOf pd__Ljava_nio_charset_Charset___B rfl) rfl (by show 2 * 0 + _ ≤ _; exact Nat.le_of_eq rfl) (hb hby d7_4) (fun _ _ => ⟨rfl, eg2, (by decide : 0 + 1 ≤ _), (by decide : 0 + 1 ≤ _)⟩)
  dsimp only [Pt.U, Pt.locs, Pt.cells, Pt.slots] at Xk3 lk3 yk3 zk3 stk3 hQk3
  subst lk3 yk3 zk3
  obtain ⟨dk3, rfl, Nk3q, Kk3q, Gk3_0, Qk3_0, Qk3_1⟩ := hQk3
  have g_dk3 : n0 ≤ dk3 := Nat.le_trans Z0 Gk3_0
  have y_dk3 : h0.size ≤ dk3 := Nat.le_trans (Nat.le_refl h0.size) Gk3_0
  have K4 : Keep h0 Tk3.heap [t, sl, bk] := (Keep.refl h0 [t, sl, bk]).trans Kk3q all0
  have Nk3 := Fr.app N0 Nk3q
  have Z5 : n0 ≤ Tk3.heap.size := (Nat.le_trans Z0 Kk3q.1)
  have O6 : Old Z n0 Tk3.heap := (O0.keep Kk3q all0)
  obtain ⟨_, _, ⟨Tk7, Lk7, kk7, nk7⟩, -, Xk7, ⟨Lck7, hQk7, lk7, yk7, zk7⟩, stk7⟩ := Jvm.LawKit.callS Xk3 hx (y := Y6) hown (mvT hZ (tw hw 89 rfl)) (mvT hZ (tw hw 90 rfl)) (mvT hZ (tw hw 3 rfl)) (mvT hZ (tw hw 91 rfl)) (by decide) (backOf (W := 0) (rm_hash l Z a0 hw [] dk3 k (103 : Int32) (-1394125654 : Int32)  Tk3.heap n0 Z5 O6 Qk3_0 own_hash6) hZ (tw hw 91 rfl) (tw hw 3 rfl) (by decide) (by decide)) (g := (mkF m 9 #[.val (.ref t), .val (.ref a), .val (.ref dk3), .unset, .unset] [(.ref dk3)])) rfl (by rw [hml]; rfl) (argsL := [(.ref dk3)]) (rest := []) (lenOf pd___B_I rfl) rfl (by show 2 * 0 + _ ≤ _; exact Nat.le_of_eq rfl) (hb hby d7_9) (fun _ _ => ⟨rfl, rfl, (by decide : 1 + 0 ≤ _), (by decide : 1 + 0 ≤ _)⟩)
  dsimp only [Pt.U, Pt.locs, Pt.cells, Pt.slots] at Xk7 lk7 yk7 zk7 stk7 hQk7
  subst lk7 yk7 zk7
  obtain ⟨rfl, Nk7q, ek7⟩ := hQk7
  have Nk7 := Fr.app Nk3 Nk7q
  have F8 := (f1.keep Kk3q nin0)
  have F9 := (f6.keep Kk3q nin0)
  have F11 := (f0.keep Kk3q)
  obtain ⟨cqk10, qk10, qk10'⟩ := F11.cell
  obtain ⟨_, _, ⟨Tk10, Lk10, kk10, nk10⟩, -, Xk10, ⟨Lck10, hQk10, lk10, yk10, zk10⟩, stk10⟩ := Xk7.privateBack hx (y := Y7) hown (mvT hZ (tw hw 95 rfl)) (mvT hZ (tw hw 96 rfl)) (own_selp (mvT hZ (tw hw 27 rfl)) rfl (Cond.privateMethod_at (mvP hZ (tw hw 97 rfl) (args := #[]))) (mvT hZ (tw hw 96 rfl)) (by decide)) (Cond.privateMethod_at (mvP hZ (tw hw 97 rfl) (args := #[]))) (mvT hZ (tw hw 98 rfl)) (by decide) (backOf (W := 0) (rm_find6 l Z a0 hw [] t dk3 sl ks  Tk3.heap n0 Z5 O6 F8 F9) hZ (tw hw 98 rfl) (tw hw 3 rfl) (by decide) (by decide)) (g := (mkF m 16 #[.val (.ref t), .val (.ref a), .val (.ref dk3), .val (.int (-1394125654 : Int32)), .unset] [(.int (-1394125654 : Int32)), (.ref dk3), (.ref t)])) rfl (by rw [hml]; rfl) (Steps.refl _) (a := t) (own_eq ek7 qk10) qk10' (argsL := [(.ref dk3), (.int (-1394125654 : Int32))]) (rest := []) (lenOf pd___BI_I rfl) rfl (by show 2 * 0 + _ ≤ _; exact Nat.le_of_eq rfl) (hb hby d7_16) (fun _ _ => ⟨rfl, ek7, (by decide : 1 + 0 ≤ _), (by decide : 1 + 0 ≤ _)⟩)
  dsimp only [Pt.U, Pt.locs, Pt.cells, Pt.slots] at Xk10 lk10 yk10 zk10 stk10 hQk10
  subst lk10 yk10 zk10
  obtain ⟨rfl, Nk10q, ek10⟩ := hQk10
  have Nk10 := Fr.app Nk7 Nk10q
  obtain ⟨Tf12, Xf12, ef12, stf12⟩ := getF Xk10 hx hZ hown (host := "") (Or.inl (tw hw 11 rfl)) Via.refl ek10 F8 (g := (mkF m 22 #[.val (.ref t), .val (.ref a), .val (.ref dk3), .val (.int (-1394125654 : Int32)), .val (.int (10 : Int32))] [(.ref t)])) rfl rfl (hb hby d7_22)
  obtain ⟨clv13, Arv13, qv13, Sv13, Nv13, Hv13, Gv13⟩ := id F9
  have in14 : ¬ ((10 : Int32) < 0 ∨ clv13.slots.size ≤ ((10 : Int32)).toNatClampNeg) := inb_of Sv13 ⟨by decide, by decide⟩
  have atin14 : clv13.slots[((10 : Int32)).toNatClampNeg]? = some (.long (0 : Int64)) := Has.at Hv13 in14 rfl
  have F15 := (f5.keep Kk3q nin0)
  obtain ⟨Tf16, Xf16, ef16, stf16⟩ := getF Xf12 hx hZ hown (host := "") (Or.inl (tw hw 29 rfl)) Via.refl ef12 F15 (g := (mkF m 36 #[.val (.ref t), .val (.ref a), .val (.ref dk3), .val (.int (-1394125654 : Int32)), .val (.int (10 : Int32))] [(.ref t)])) rfl rfl (hb hby d7_36)
  obtain ⟨Tf17, Xf17, ef17, stf17⟩ := getF Xf16 hx hZ hown (host := "") (Or.inl (tw hw 11 rfl)) Via.refl ef16 F8 (g := (mkF m 42 #[.val (.ref t), .val (.ref a), .val (.ref dk3), .val (.int (-1394125654 : Int32)), .val (.int (10 : Int32))] [(.ref t), (.int (7 : Int32))])) rfl rfl (hb hby d7_42)
  have F18 := (f4.keep Kk3q nin0)
  have F19 := (f3.keep Kk3q nin0)
  have F20 := (f2.keep Kk3q nin0)
  have F21 := (f10.keep Kk3q nin0)
  have F22 := (f12.keep Kk3q nin0)
  have F24 := (f13.keep Kk3q)
  have ne23 : t ≠ bk := ne_exa F11 F24 (by decide)
  have ne25 : bk ≠ dk3 := Nat.ne_of_lt (Nat.lt_of_lt_of_le f12.lt Gk3_0)
  have F27 := (f11.keep Kk3q)
  have ne26 : bl ≠ bk := ne_exa F27 F24 (by decide)
  obtain ⟨cqk28, qk28, qk28'⟩ := F11.cell
  obtain ⟨_, _, ⟨Tk28, Lk28, kk28, nk28⟩, -, Xk28, ⟨Lck28, hQk28, lk28, yk28, zk28⟩, stk28⟩ := Xf17.privateBack hx (y := Y10) hown (mvT hZ (tw hw 99 rfl)) (mvT hZ (tw hw 100 rfl)) (own_selp (mvT hZ (tw hw 27 rfl)) rfl (Cond.privateMethod_at (mvP hZ (tw hw 101 rfl) (args := #[]))) (mvT hZ (tw hw 100 rfl)) (by decide)) (Cond.privateMethod_at (mvP hZ (tw hw 101 rfl) (args := #[]))) (mvT hZ (tw hw 102 rfl)) (by decide) (backOf (W := 0) (rm_store6 l Z a0 hw [] t dk3 k bl kbl sl en bk kbk  Tk3.heap n0 Z5 O6 F11 F18 F19 Qk3_0 F15 F8 F20 F21 F22 gt gbk ne23 (Ne.symm ne25) ne26) hZ (tw hw 102 rfl) (tw hw 3 rfl) (by decide) (by decide)) (g := (mkF m 67 #[.val (.ref t), .val (.ref a), .val (.ref dk3), .val (.int (-1394125654 : Int32)), .val (.int (10 : Int32))] [(.ref dk3), (.ref t)])) rfl (by rw [hml]; rfl) (Steps.refl _) (a := t) (own_eq ef17 qk28) qk28' (argsL := [(.ref dk3)]) (rest := []) (lenOf pd___B_V rfl) rfl (by show 2 * 0 + _ ≤ _; exact Nat.le_of_eq rfl) (hb hby d7_67) (fun _ _ => ⟨rfl, ef17, (by decide : 1 + 0 ≤ _), (by decide : 1 + 0 ≤ _)⟩)
  dsimp only [Pt.U, Pt.locs, Pt.cells, Pt.slots] at Xk28 lk28 yk28 zk28 stk28 hQk28
  subst lk28 yk28 zk28
  obtain ⟨rfl, Nk28q, Kk28q, Qk28_0, Qk28_1, Qk28_2, Qk28_3, Qk28_4, Qk28_5⟩ := hQk28
  have K29 : Keep h0 Tk28.heap [t, sl, bk] := K4.trans Kk28q (allS (P := fun x => x ∈ [t, sl, bk] ∨ h0.size ≤ x) (Or.inl (List.mem_of_getElem? (i := 0) rfl)) (allS (P := fun x => x ∈ [t, sl, bk] ∨ h0.size ≤ x) (Or.inl (List.mem_of_getElem? (i := 2) rfl)) all0))
  have Nk28 := Fr.app Nk10 Nk28q
  obtain ⟨Tf30, Xf30, ef30, stf30⟩ := getF Xk28 hx hZ hown (host := "") (Or.inl (tw hw 11 rfl)) Via.refl rfl Qk28_3 (g := (mkF m 71 #[.val (.ref t), .val (.ref a), .val (.ref dk3), .val (.int (-1394125654 : Int32)), .val (.int (10 : Int32))] [(.ref t)])) rfl rfl (hb hby d7_71)
  obtain ⟨Tf31, Xf31, ef31, stf31⟩ := getF Xf30 hx hZ hown (host := "") (Or.inl (tw hw 29 rfl)) Via.refl ef30 Qk28_2 (g := (mkF m 82 #[.val (.ref t), .val (.ref a), .val (.ref dk3), .val (.int (-1394125654 : Int32)), .val (.int (10 : Int32))] [(.ref t), (.long (-5987724090444611584 : Int64)), (.int (10 : Int32)), (.ref sl)])) rfl rfl (hb hby d7_82)
  have F33 := ((f7.keep Kk3q).keep Kk28q)
  have F34 := (F24.keep Kk28q)
  have ne32 : sl ≠ bk := ne_exa F33 F34 (by decide)
  have F36 := (F11.keep Kk28q)
  have ne35 : sl ≠ t := ne_exa F33 F36 (by decide)
  have F37 := (F9.keep Kk28q (ninS ne35 (ninS ne32 nin0)))
  obtain ⟨clv38, Arv38, qv38, Sv38, Nv38, Hv38, Gv38⟩ := id F37
  have in39 : ¬ ((10 : Int32) < 0 ∨ clv38.slots.size ≤ ((10 : Int32)).toNatClampNeg) := inb_of Sv38 ⟨by decide, by decide⟩
  obtain ⟨Tw40, hw40, Xw40, ew40, Ww40, stw40⟩ := stJ Xf31 hx hZ ef31 Arv38 (j := (10 : Int32)) in39 (g := (mkF m 89 #[.val (.ref t), .val (.ref a), .val (.ref dk3), .val (.int (-1394125654 : Int32)), .val (.int (10 : Int32))] [(.long (-5987724090444611577 : Int64)), (.int (10 : Int32)), (.ref sl)])) rfl rfl (hb hby d7_89)
  have Vw40 : Arv Z hw40 sl ks .long (16 : Int32) [(.long (1796898511443197958 : Int64)), (.long (0 : Int64)), (.long (0 : Int64)), (.long (0 : Int64)), (.long (0 : Int64)), (.long (3719577833094250501 : Int64)), (.long (0 : Int64)), (.long (0 : Int64)), (.long (0 : Int64)), (.long (0 : Int64)), (.long (-5987724090444611577 : Int64)), (.long (0 : Int64)), (.long (-2306841795268444158 : Int64)), (.long (1808655176962146305 : Int64)), (.long (-2839092971725389821 : Int64)), (.long (1750739909502566404 : Int64))] (.long (0 : Int64)) := Arv.set Arv38 qv38 Sv38 Nv38 Hv38 Gv38 rfl Ww40 10 rfl (Nat.le_of_ble_eq_true rfl)
  have Nw40 := Fr.snoc Xw40 Nk28 gsl
  have K41 : Keep h0 hw40 [t, sl, bk] := K29.wr Ww40 (Or.inl (List.mem_of_getElem? (i := 1) rfl))
  have F42 := (Qk28_2.other Ww40 (Or.inl (Ne.symm ne35)))
  obtain ⟨Tf43, Xf43, ef43, stf43⟩ := getF Xw40 hx hZ hown (host := "") (Or.inl (tw hw 29 rfl)) Via.refl ew40 F42 (g := (mkF m 92 #[.val (.ref t), .val (.ref a), .val (.ref dk3), .val (.int (-1394125654 : Int32)), .val (.int (10 : Int32))] [(.ref t), (.ref t)])) rfl rfl (hb hby d7_92)
  have F44 := (F36.wr Ww40)
  obtain ⟨Tp45, hp45, Xp45, ep45, Wp45, stp45⟩ := putF Xf43 hx hZ hown (host := "") (Or.inl (tw hw 29 rfl)) Via.refl ef43 F42 F44 (Or.inl (tw hw 30 rfl)) (tw hw 2 rfl) (ty := .int) (by decide) rfl rfl (g := (mkF m 97 #[.val (.ref t), .val (.ref a), .val (.ref dk3), .val (.int (-1394125654 : Int32)), .val (.int (10 : Int32))] [(.int (7 : Int32)), (.ref t)])) rfl rfl (hb hby d7_97)
  have Fwp45 : Fld Z hp45 t S1 "size" "I" (.int (7 : Int32)) := F42.same Wp45
  have Np45 := Fr.snoc Xp45 Nw40 gt
  have K46 : Keep h0 hp45 [t, sl, bk] := K41.wr Wp45 (Or.inl (List.mem_of_getElem? (i := 0) rfl))
  have F47 := ((Qk28_4.other Ww40 (Or.inl (Ne.symm ne35))).other Wp45 (Or.inr (slot_ne (Or.inl (tw hw 15 rfl)) (Or.inl (tw hw 30 rfl)) (by decide) (t := (.array .int)) (t' := .int) (by decide) (by decide))))
  obtain ⟨Tf48, Xf48, ef48, stf48⟩ := getF Xp45 hx hZ hown (host := "") (Or.inl (tw hw 14 rfl)) Via.refl ep45 F47 (g := (mkF m 103 #[.val (.ref t), .val (.ref a), .val (.ref dk3), .val (.int (-1394125654 : Int32)), .val (.int (10 : Int32))] [(.ref t), (.ref t), (.ref t)])) rfl rfl (hb hby d7_103)
  have F49 := (F44.wr Wp45)
  have F51 := ((((f9.keep Kk3q).keep Kk28q).wr Ww40).wr Wp45)
  have F52 := ((F34.wr Ww40).wr Wp45)
  have ne50 : en ≠ bk := ne_exa F51 F52 (by decide)
  have ne53 : en ≠ t := ne_exa F51 F49 (by decide)
  have F55 := ((F33.wr Ww40).wr Wp45)
  have ne54 : en ≠ sl := ne_exa F51 F55 (by decide)
  have F56 := ((((f8.keep Kk3q nin0).keep Kk28q (ninS ne53 (ninS ne50 nin0))).other Ww40 ne54).other Wp45 ne53)
  have Z57 : n0 ≤ hp45.size := (Nat.le_trans (Nat.le_trans (Nat.le_trans Z5 Kk28q.1) (Keep.of_wr Ww40).1) (Keep.of_wr Wp45).1)
  have O58 : Old Z n0 hp45 := (((O6.keep Kk28q (allS gt (allS gbk all0))).wr Ww40 gsl).wr Wp45 gt)
  obtain ⟨cqk59, kqk59, qk59a, qk59b, qk59c⟩ := isOf hZ ef48 F49
  obtain ⟨_, _, ⟨Tk59, Lk59, kk59, nk59⟩, -, Xk59, ⟨Lck59, hQk59, lk59, yk59, zk59⟩, stk59⟩ := Xf48.virtualBack hx (y := Y13) (z := Y13) hown (mvT hZ (tw hw 116 rfl)) (mvT hZ (tw hw 25 rfl)) (notFace_of_selects (args := #[]) (mvT hZ (tw hw 27 rfl))) (mvT hZ (tw hw 27 rfl)) (mvT hZ (tw hw 26 rfl)) (by decide) (backOf (W := 1) (rm_fitg l Z a0 hw [] t en ken (6 : Int32) [(.int (1 : Int32)), (.int (2 : Int32)), (.int (3 : Int32)), (.int (4 : Int32)), (.int (5 : Int32)), (.int (6 : Int32))] (7 : Int32) (9 : Int32)  hp45 n0 Z57 O58 F49 Fwp45 F56 (by decide) (by decide) (by decide) (by decide) (by decide) (by decide) (by decide) (by decide) (by decide)) hZ (tw hw 28 rfl) (tw hw 3 rfl) (by decide) (by decide)) qk59a qk59c (g := (mkF m 106 #[.val (.ref t), .val (.ref a), .val (.ref dk3), .val (.int (-1394125654 : Int32)), .val (.int (10 : Int32))] [(.ref en), (.ref t), (.ref t)])) rfl (by rw [hml]; rfl) (Steps.refl _) (argsL := [(.ref en)]) (rest := [(.ref t)]) (lenOf pd___I__I rfl) rfl (by show 2 * 0 + _ ≤ _; exact Nat.le_of_eq rfl) (hb hby d7_106) (fun _ _ => ⟨rfl, ef48, (by decide : 1 + 1 ≤ _), (by decide : 1 + 12 ≤ _)⟩)
  dsimp only [Pt.U, Pt.locs, Pt.cells, Pt.slots] at Xk59 lk59 yk59 zk59 stk59 hQk59
  subst lk59 yk59 zk59
  obtain ⟨bk59, kbk59, rfl, Nk59q, Kk59q, Gk59_0, Qk59_0, Qk59_1⟩ := hQk59
  have Y60 : h0.size ≤ hp45.size := (Nat.le_trans (Nat.le_trans (Nat.le_trans (Nat.le_trans (Nat.le_refl h0.size) Kk3q.1) Kk28q.1) (Keep.of_wr Ww40).1) (Keep.of_wr Wp45).1)
  have g_bk59 : n0 ≤ bk59 := Nat.le_trans Z57 Gk59_0
  have y_bk59 : h0.size ≤ bk59 := Nat.le_trans Y60 Gk59_0
  have K61 : Keep h0 Tk59.heap [t, sl, bk] := K46.trans Kk59q all0
  have vp62 : Arv Z Tk59.heap bk59 kbk59 .int (9 : Int32) [(.int (1 : Int32)), (.int (2 : Int32)), (.int (3 : Int32)), (.int (4 : Int32)), (.int (5 : Int32)), (.int (6 : Int32)), (.int (0 : Int32)), (.int (0 : Int32)), (.int (0 : Int32))] (.int (0 : Int32)) := Qk59_0.pad (pad_rep [(.int (1 : Int32)), (.int (2 : Int32)), (.int (3 : Int32)), (.int (4 : Int32)), (.int (5 : Int32)), (.int (6 : Int32))] (.int (0 : Int32)) 3)
  have Nk59 := Fr.app Np45 Nk59q
  have F63 := (F47.keep Kk59q nin0)
  have F64 := (F49.keep Kk59q)
  obtain ⟨Tp65, hp65, Xp65, ep65, Wp65, stp65⟩ := putF Xk59 hx hZ hown (host := "") (Or.inl (tw hw 14 rfl)) Via.refl rfl F63 F64 (Or.inl (tw hw 15 rfl)) (tw hw 2 rfl) (ty := (.array .int)) (by decide) rfl rfl (g := (mkF m 109 #[.val (.ref t), .val (.ref a), .val (.ref dk3), .val (.int (-1394125654 : Int32)), .val (.int (10 : Int32))] [(.ref bk59), (.ref t)])) rfl rfl (hb hby d7_109)
  have Fwp65 : Fld Z hp65 t S1 "ends" "[I" (.ref bk59) := F63.same Wp65
  have Np65 := Fr.snoc Xp65 Nk59 gt
  have K66 : Keep h0 hp65 [t, sl, bk] := K61.wr Wp65 (Or.inl (List.mem_of_getElem? (i := 0) rfl))
  obtain ⟨Tf67, Xf67, ef67, stf67⟩ := getF Xp65 hx hZ hown (host := "") (Or.inl (tw hw 14 rfl)) Via.refl ep65 Fwp65 (g := (mkF m 113 #[.val (.ref t), .val (.ref a), .val (.ref dk3), .val (.int (-1394125654 : Int32)), .val (.int (10 : Int32))] [(.ref t)])) rfl rfl (hb hby d7_113)
  have F68 := ((Fwp45.keep Kk59q nin0).other Wp65 (Or.inr (slot_ne (Or.inl (tw hw 30 rfl)) (Or.inl (tw hw 15 rfl)) (by decide) (t := .int) (t' := (.array .int)) (by decide) (by decide))))
  obtain ⟨Tf69, Xf69, ef69, stf69⟩ := getF Xf67 hx hZ hown (host := "") (Or.inl (tw hw 29 rfl)) Via.refl ef67 F68 (g := (mkF m 117 #[.val (.ref t), .val (.ref a), .val (.ref dk3), .val (.int (-1394125654 : Int32)), .val (.int (10 : Int32))] [(.ref t), (.ref bk59)])) rfl rfl (hb hby d7_117)
  have F70 := ((((Qk28_0.other Ww40 (Or.inl (Ne.symm ne35))).other Wp45 (Or.inr (slot_ne (Or.inl (tw hw 105 rfl)) (Or.inl (tw hw 30 rfl)) (by decide) (t := .int) (t' := .int) (by decide) (by decide)))).keep Kk59q nin0).other Wp65 (Or.inr (slot_ne (Or.inl (tw hw 105 rfl)) (Or.inl (tw hw 15 rfl)) (by decide) (t := .int) (t' := (.array .int)) (by decide) (by decide))))
  obtain ⟨Tf71, Xf71, ef71, stf71⟩ := getF Xf69 hx hZ hown (host := "") (Or.inl (tw hw 104 rfl)) Via.refl ef69 F70 (g := (mkF m 123 #[.val (.ref t), .val (.ref a), .val (.ref dk3), .val (.int (-1394125654 : Int32)), .val (.int (10 : Int32))] [(.ref t), (.int (6 : Int32)), (.ref bk59)])) rfl rfl (hb hby d7_123)
  have F73 := (Qk59_1.wr Wp65)
  have F74 := (F64.wr Wp65)
  have ne72 : bk59 ≠ t := ne_exa F73 F74 (by decide)
  have F75 := (vp62.other Wp65 ne72)
  obtain ⟨clv76, Arv76, qv76, Sv76, Nv76, Hv76, Gv76⟩ := id F75
  have in77 : ¬ ((6 : Int32) < 0 ∨ clv76.slots.size ≤ ((6 : Int32)).toNatClampNeg) := inb_of Sv76 ⟨by decide, by decide⟩
  obtain ⟨Tw78, hw78, Xw78, ew78, Ww78, stw78⟩ := stI Xf71 hx hZ ef71 Arv76 (j := (6 : Int32)) in77 (g := (mkF m 126 #[.val (.ref t), .val (.ref a), .val (.ref dk3), .val (.int (-1394125654 : Int32)), .val (.int (10 : Int32))] [(.int (7 : Int32)), (.int (6 : Int32)), (.ref bk59)])) rfl rfl (hb hby d7_126)
  have Vw78 : Arv Z hw78 bk59 kbk59 .int (9 : Int32) [(.int (1 : Int32)), (.int (2 : Int32)), (.int (3 : Int32)), (.int (4 : Int32)), (.int (5 : Int32)), (.int (6 : Int32)), (.int (7 : Int32)), (.int (0 : Int32)), (.int (0 : Int32))] (.int (0 : Int32)) := Arv.set Arv76 qv76 Sv76 Nv76 Hv76 Gv76 rfl Ww78 6 rfl (Nat.le_of_ble_eq_true rfl)
  have Nw78 := Fr.snoc Xw78 Np65 g_bk59
  have K79 : Keep h0 hw78 [t, sl, bk] := K66.wr Ww78 (Or.inr y_bk59)
  have F80 := (((((Qk28_3.other Ww40 (Or.inl (Ne.symm ne35))).other Wp45 (Or.inr (slot_ne (Or.inl (tw hw 12 rfl)) (Or.inl (tw hw 30 rfl)) (by decide) (t := (.array .long)) (t' := .int) (by decide) (by decide)))).keep Kk59q nin0).other Wp65 (Or.inr (slot_ne (Or.inl (tw hw 12 rfl)) (Or.inl (tw hw 15 rfl)) (by decide) (t := (.array .long)) (t' := (.array .int)) (by decide) (by decide)))).other Ww78 (Or.inl (Ne.symm ne72)))
  have F81 := (Fwp65.other Ww78 (Or.inl (Ne.symm ne72)))
  have F82 := (((((Qk28_1.other Ww40 (Or.inl (Ne.symm ne35))).other Wp45 (Or.inr (slot_ne (Or.inl (tw hw 19 rfl)) (Or.inl (tw hw 30 rfl)) (by decide) (t := (.array (.array .byte))) (t' := .int) (by decide) (by decide)))).keep Kk59q nin0).other Wp65 (Or.inr (slot_ne (Or.inl (tw hw 19 rfl)) (Or.inl (tw hw 15 rfl)) (by decide) (t := (.array (.array .byte))) (t' := (.array .int)) (by decide) (by decide)))).other Ww78 (Or.inl (Ne.symm ne72)))
  have F83 := (F70.other Ww78 (Or.inl (Ne.symm ne72)))
  have F84 := (F68.other Ww78 (Or.inl (Ne.symm ne72)))
  have F86 := (((F55.keep Kk59q).wr Wp65).wr Ww78)
  have F87 := (F73.wr Ww78)
  have ne85 : sl ≠ bk59 := ne_exa F86 F87 (by decide)
  have F88 := ((((Vw40.other Wp45 ne35).keep Kk59q nin0).other Wp65 ne35).other Ww78 ne85)
  have F90 := ((((((F27.keep Kk28q).wr Ww40).wr Wp45).keep Kk59q).wr Wp65).wr Ww78)
  have F91 := (F74.wr Ww78)
  have ne89 : bl ≠ t := ne_exa F90 F91 (by decide)
  have ne92 : bl ≠ sl := ne_exa F90 F86 (by decide)
  have ne93 : bl ≠ bk59 := ne_exa F90 F87 (by decide)
  have F94 := ((((((F21.keep Kk28q (ninS ne89 (ninS ne26 nin0))).other Ww40 ne92).other Wp45 ne89).keep Kk59q nin0).other Wp65 ne89).other Ww78 ne93)
  have F96 := (((F52.keep Kk59q).wr Wp65).wr Ww78)
  have ne95 : bk ≠ bk59 := ne_exa F96 F87 (by decide)
  have F97 := (((((Qk28_5.other Ww40 (Ne.symm ne32)).other Wp45 (Ne.symm ne23)).keep Kk59q nin0).other Wp65 (Ne.symm ne23)).other Ww78 ne95)
  obtain ⟨fs, hlv, hrun, hended, hW, hsame⟩ := Xw78.leave (v := some (.int (1 : Int32))) (fun h => by rw [hret] at h; cases h)
  refine ⟨_, _, pre0 _ ?_, hrun, hended, _, _, rfl, ?_, ⟨_, rfl⟩, hW, hsame.mono (by decide) (by decide)⟩
  · refine XS.aloadN X0.here hx rfl (hb hby d7_0) rfl rfl ?_
    show Sp p e below s₁ (mkF m 1 #[.val (.ref t), .val (.ref a), .unset, .unset, .unset] [(.ref a)]) _
    refine stg2 _ ?_
    refine stk3.trans ?_
    refine XS.astoreN Xk3.here hx rfl (hb hby d7_7) rfl rfl (l' := #[.val (.ref t), .val (.ref a), .val (.ref dk3), .unset, .unset]) rfl ?_
    refine XS.aloadN Xk3.here hx rfl (hb hby d7_8) rfl rfl ?_
    refine stk7 _ ?_
    refine XS.istoreN Xk7.here hx rfl (hb hby d7_12) rfl (l' := #[.val (.ref t), .val (.ref a), .val (.ref dk3), .val (.int (-1394125654 : Int32)), .unset]) rfl ?_
    refine XS.aloadN Xk7.here hx rfl (hb hby d7_13) rfl rfl ?_
    refine XS.aloadN Xk7.here hx rfl (hb hby d7_14) rfl rfl ?_
    refine XS.iloadN Xk7.here hx rfl (hb hby d7_15) rfl ?_
    refine stk10.trans ?_
    refine XS.istore Xk10.here hx rfl (hb hby d7_19) rfl (l' := #[.val (.ref t), .val (.ref a), .val (.ref dk3), .val (.int (-1394125654 : Int32)), .val (.int (10 : Int32))]) rfl ?_
    refine XS.aloadN Xk10.here hx rfl (hb hby d7_21) rfl rfl ?_
    refine stf12 _ ?_
    refine XS.iload Xf12.here hx rfl (hb hby d7_25) rfl ?_
    show Sp p e below Tf12 (mkF m 27 #[.val (.ref t), .val (.ref a), .val (.ref dk3), .val (.int (-1394125654 : Int32)), .val (.int (10 : Int32))] [(.int (10 : Int32)), (.ref sl)]) _
    refine Xf12.laload hx (j := (10 : Int32)) (v := (.long (0 : Int64))) (own_eq ef12 Arv13.1) (State.isArrayOf_alike hZ.alike Arv13.2.1) Arv13.2.2 in14 atin14 (g := (mkF m 27 #[.val (.ref t), .val (.ref a), .val (.ref dk3), .val (.int (-1394125654 : Int32)), .val (.int (10 : Int32))] [(.int (10 : Int32)), (.ref sl)])) rfl rfl (hb hby d7_27) _ ?_
    show Sp p e below Tf12 (mkF m 28 #[.val (.ref t), .val (.ref a), .val (.ref dk3), .val (.int (-1394125654 : Int32)), .val (.int (10 : Int32))] [(.long (0 : Int64))]) _
    refine XS.lconst Xf12.here hx rfl (hb hby d7_28) ?_
    refine XS.lcmp Xf12.here hx rfl (hb hby d7_29) rfl ?_
    refine XS.ifYes Xf12.here hx rfl (pc0 := 30) (pc' := 35) rfl (hb hby d7_30) rfl ((if0 _ _).trans (teq (by decide : (0 : Int32) = (0 : Int32))).1) (by decide) (by decide) ?_
    refine XS.aloadN Xf12.here hx rfl (hb hby d7_35) rfl rfl ?_
    refine stf16 _ ?_
    refine XS.iconst Xf16.here hx rfl (hb hby d7_39) ?_
    refine XS.iadd Xf16.here hx rfl (hb hby d7_40) rfl ?_
    refine XS.aloadN Xf16.here hx rfl (hb hby d7_41) rfl rfl ?_
    refine stf17 _ ?_
    show Sp p e below Tf17 (mkF m 45 #[.val (.ref t), .val (.ref a), .val (.ref dk3), .val (.int (-1394125654 : Int32)), .val (.int (10 : Int32))] [(.ref sl), (.int (7 : Int32))]) _
    refine Xf17.arraylength hx (own_eq ef17 Arv13.1) (State.isArrayOf_alike hZ.alike Arv13.2.1) (g := (mkF m 45 #[.val (.ref t), .val (.ref a), .val (.ref dk3), .val (.int (-1394125654 : Int32)), .val (.int (10 : Int32))] [(.ref sl), (.int (7 : Int32))])) rfl rfl (hb hby d7_45) _ ?_
    rw [len_of Sv13 Nv13]
    show Sp p e below Tf17 (mkF m 46 #[.val (.ref t), .val (.ref a), .val (.ref dk3), .val (.int (-1394125654 : Int32)), .val (.int (10 : Int32))] [(.int (16 : Int32)), (.int (7 : Int32))]) _
    refine XS.iconst Xf17.here hx rfl (hb hby d7_46) ?_
    refine XS.idiv Xf17.here hx rfl (hb hby d7_47) rfl (by decide) ?_
    refine XS.iconst Xf17.here hx rfl (hb hby d7_48) ?_
    refine XS.imul Xf17.here hx rfl (hb hby d7_49) rfl ?_
    refine XS.icmpYes Xf17.here hx rfl (pc0 := 50) (pc' := 65) rfl (hb hby d7_50) rfl (flt (by decide : ¬ ((12 : Int32) < (7 : Int32)))).2.2.2 (by decide) (by decide) ?_
    refine XS.aloadN Xf17.here hx rfl (hb hby d7_65) rfl rfl ?_
    refine XS.aloadN Xf17.here hx rfl (hb hby d7_66) rfl rfl ?_
    refine stk28.trans ?_
    refine XS.aloadN Xk28.here hx rfl (hb hby d7_70) rfl rfl ?_
    refine stf30 _ ?_
    refine XS.iload Xf30.here hx rfl (hb hby d7_74) rfl ?_
    refine XS.iloadN Xf30.here hx rfl (hb hby d7_76) rfl ?_
    refine XS.i2l Xf30.here hx rfl (hb hby d7_77) rfl ?_
    refine XS.bipush Xf30.here hx rfl (hb hby d7_78) ?_
    refine XS.lshl Xf30.here hx rfl (hb hby d7_80) rfl ?_
    refine XS.aloadN Xf30.here hx rfl (hb hby d7_81) rfl rfl ?_
    refine stf31 _ ?_
    refine XS.i2l Xf31.here hx rfl (hb hby d7_85) rfl ?_
    refine XS.lconst Xf31.here hx rfl (hb hby d7_86) ?_
    refine XS.ladd Xf31.here hx rfl (hb hby d7_87) rfl ?_
    refine XS.lor Xf31.here hx rfl (hb hby d7_88) rfl ?_
    show Sp p e below Tf31 (mkF m 89 #[.val (.ref t), .val (.ref a), .val (.ref dk3), .val (.int (-1394125654 : Int32)), .val (.int (10 : Int32))] [(.long (-5987724090444611577 : Int64)), (.int (10 : Int32)), (.ref sl)]) _
    refine stw40 _ ?_
    refine XS.aloadN Xw40.here hx rfl (hb hby d7_90) rfl rfl ?_
    refine XS.dup Xw40.here hx rfl (hb hby d7_91) rfl rfl ?_
    refine stf43 _ ?_
    refine XS.iconst Xf43.here hx rfl (hb hby d7_95) ?_
    refine XS.iadd Xf43.here hx rfl (hb hby d7_96) rfl ?_
    refine stp45 _ ?_
    refine XS.aloadN Xp45.here hx rfl (hb hby d7_100) rfl rfl ?_
    refine XS.aloadN Xp45.here hx rfl (hb hby d7_101) rfl rfl ?_
    refine XS.aloadN Xp45.here hx rfl (hb hby d7_102) rfl rfl ?_
    refine stf48 _ ?_
    refine stk59.trans ?_
    refine stp65 _ ?_
    refine XS.aloadN Xp65.here hx rfl (hb hby d7_112) rfl rfl ?_
    refine stf67 _ ?_
    refine XS.aloadN Xf67.here hx rfl (hb hby d7_116) rfl rfl ?_
    refine stf69 _ ?_
    refine XS.iconst Xf69.here hx rfl (hb hby d7_120) ?_
    refine XS.isub Xf69.here hx rfl (hb hby d7_121) rfl ?_
    refine XS.aloadN Xf69.here hx rfl (hb hby d7_122) rfl rfl ?_
    refine stf71 _ ?_
    show Sp p e below Tf71 (mkF m 126 #[.val (.ref t), .val (.ref a), .val (.ref dk3), .val (.int (-1394125654 : Int32)), .val (.int (10 : Int32))] [(.int (7 : Int32)), (.int (6 : Int32)), (.ref bk59)]) _
    refine stw78 _ ?_
    refine XS.iconst Xw78.here hx rfl (hb hby d7_127) ?_
    show Sp p e below Tw78 (mkF m 128 #[.val (.ref t), .val (.ref a), .val (.ref dk3), .val (.int (-1394125654 : Int32)), .val (.int (10 : Int32))] [(.int (1 : Int32))]) _
    exact retN Xw78 hx (t := .boolean) hret (by simp) (hb hby d7_128) hlv
  · show Q_add6 Z t a b k sl ks en ken bl kbl bk kbk aU cs h0 n0 _ Tw78.heap _
    rw [ew78]
    exact ⟨bk59, kbk59, rfl, Nw78, K79, y_bk59, F80, F81, F82, F83, F84, F88, Vw78, F87, F94, F97⟩
def Q_add7 (Z : State) (t : Addr) (a : Addr) (b : Addr) (k : ClassId) (sl : Addr) (ks : ClassId) (en : Addr) (ken : ClassId) (bl : Addr) (kbl : ClassId) (bk : Addr) (kbk : ClassId) (aU : Addr) (cs : Int32) (h0 : Heap) (n0 : Nat) (v : Option Value) (h : Heap) (L : List Loc) : Prop := v = some (.int (1 : Int32)) ∧ Fr n0 L ∧ Keep h0 h [t, sl, en, bk] ∧ Fld Z h t S1 "slots" "[J" (.ref sl) ∧ Fld Z h t S1 "ends" "[I" (.ref en) ∧ Fld Z h t S1 "blocks" "[[B" (.ref bl) ∧ Fld Z h t S1 "stored" "I" (.int (8 : Int32)) ∧ Fld Z h t S1 "size" "I" (.int (8 : Int32)) ∧ Arv Z h sl ks .long (16 : Int32) [(.long (1796898511443197958 : Int64)), (.long (-4057769248812957688 : Int64)), (.long (0 : Int64)), (.long (0 : Int64)), (.long (0 : Int64)), (.long (3719577833094250501 : Int64)), (.long (0 : Int64)), (.long (0 : Int64)), (.long (0 : Int64)), (.long (0 : Int64)), (.long (-5987724090444611577 : Int64)), (.long (0 : Int64)), (.long (-2306841795268444158 : Int64)), (.long (1808655176962146305 : Int64)), (.long (-2839092971725389821 : Int64)), (.long (1750739909502566404 : Int64))] (.long (0 : Int64)) ∧ Arv Z h en ken .int (9 : Int32) [(.int (1 : Int32)), (.int (2 : Int32)), (.int (3 : Int32)), (.int (4 : Int32)), (.int (5 : Int32)), (.int (6 : Int32)), (.int (7 : Int32)), (.int (8 : Int32)), (.int (0 : Int32))] (.int (0 : Int32)) ∧ Arv Z h bl kbl (.array .byte) (1 : Int32) [(.ref bk)] .null ∧ Arv Z h bk kbk .byte (65536 : Int32) [(.int (97 : Int32)), (.int (98 : Int32)), (.int (99 : Int32)), (.int (100 : Int32)), (.int (101 : Int32)), (.int (102 : Int32)), (.int (103 : Int32)), (.int (104 : Int32))] (.int (0 : Int32))
set_option maxRecDepth 65536 in
set_option maxHeartbeats 40000000 in
theorem rm_add7 (l : Launch) (Z : State) (a0 : Array Value) (hw : ∀ d ∈ tables_1, d.before a0 Z = true) (ws : List Jvm.Cond) (t : Addr) (a : Addr) (b : Addr) (k : ClassId) (sl : Addr) (ks : ClassId) (en : Addr) (ken : ClassId) (bl : Addr) (kbl : ClassId) (bk : Addr) (kbk : ClassId) (aU : Addr) (cs : Int32) (h0 : Heap) (n0 : Nat) (Z0 : n0 ≤ h0.size) (O0 : Old Z n0 h0) (f0 : Exa Z h0 t S1) (f1 : Fld Z h0 t S1 "slots" "[J" (.ref sl)) (f2 : Fld Z h0 t S1 "ends" "[I" (.ref en)) (f3 : Fld Z h0 t S1 "blocks" "[[B" (.ref bl)) (f4 : Fld Z h0 t S1 "stored" "I" (.int (7 : Int32))) (f5 : Fld Z h0 t S1 "size" "I" (.int (7 : Int32))) (f6 : Arv Z h0 sl ks .long (16 : Int32) [(.long (1796898511443197958 : Int64)), (.long (0 : Int64)), (.long (0 : Int64)), (.long (0 : Int64)), (.long (0 : Int64)), (.long (3719577833094250501 : Int64)), (.long (0 : Int64)), (.long (0 : Int64)), (.long (0 : Int64)), (.long (0 : Int64)), (.long (-5987724090444611577 : Int64)), (.long (0 : Int64)), (.long (-2306841795268444158 : Int64)), (.long (1808655176962146305 : Int64)), (.long (-2839092971725389821 : Int64)), (.long (1750739909502566404 : Int64))] (.long (0 : Int64))) (f7 : Exa Z h0 sl "[J") (f8 : Arv Z h0 en ken .int (9 : Int32) [(.int (1 : Int32)), (.int (2 : Int32)), (.int (3 : Int32)), (.int (4 : Int32)), (.int (5 : Int32)), (.int (6 : Int32)), (.int (7 : Int32)), (.int (0 : Int32)), (.int (0 : Int32))] (.int (0 : Int32))) (f9 : Exa Z h0 en "[I") (f10 : Arv Z h0 bl kbl (.array .byte) (1 : Int32) [(.ref bk)] .null) (f11 : Exa Z h0 bl "[[B") (f12 : Arv Z h0 bk kbk .byte (65536 : Int32) [(.int (97 : Int32)), (.int (98 : Int32)), (.int (99 : Int32)), (.int (100 : Int32)), (.int (101 : Int32)), (.int (102 : Int32)), (.int (103 : Int32)), (.int (0 : Int32))] (.int (0 : Int32))) (f13 : Exa Z h0 bk "[B") (f14 : Exa Z h0 a S0) (f15 : Fld Z h0 a S0 "coder" "B" (.int (0 : Int32))) (f16 : Fld Z h0 a S0 "value" "[B" (.ref b)) (f17 : Arv Z h0 b k .byte (1 : Int32) [(.int (104 : Int32))] (.int (0 : Int32))) (f18 : Exa Z h0 b "[B") (SS : own_start Z aU cs) (gt : n0 ≤ t) (gsl : n0 ≤ sl) (gen : n0 ≤ en) (gbk : n0 ≤ bk) :
    MetFree l Y15 (head1 (Jvm.Cond.code Y15 prog_57_method_6_code 5 (some .boolean) :: ws) ({ frames := 5, cells := 1, slots := 1, locals := 77 } : Room)) (fun A_ U => A_ = #[(.ref t), (.ref a)] ∧ Z.Warmed39 U.vm ∧ U.heap = h0) (fun _ _ _ _ _ => True) (fun _ U o_ U' => ∃ v_ L_, o_ = .returned v_ ∧ Q_add7 Z t a b k sl ks en ken bl kbl bk kbk aU cs h0 n0 v_ U'.heap L_ ∧ FrameEnd U o_ U' L_ ({ frames := 5, cells := 1, slots := 1, locals := 77 } : Room).cells ({ frames := 5, cells := 1, slots := 1, locals := 77 } : Room).slots) := by
  refine MetFree.of_bodySF (plainFor_of_name pn_2) hisR ?_
  intro p e s m args below meth c s₁ Bd hml0 hP hK
  obtain ⟨rfl, hZ, hh⟩ := hP
  have hx := Bd.exec
  have hby := Bd.bytes
  have hml : c.maxLocals = 5 := hml0
  have hown : s.vm.findClass S1 = some m.cls := findClass_of_methodNamed Bd.named
  have hnm := (name_of_methodNamed Bd.named Bd.method).1
  have hret := Bd.returns
  have X0 : Stand p l e ({ frames := 5, cells := 1, slots := 1, locals := 77 } : Room) s m #[(.ref t), (.ref a)] below meth c s₁ [] 0 0 := Stand.of_body Bd
  have e0 : s₁.heap = h0 := by rw [← hh, Bd.state]; rfl
  have N0 := Fr.nil n0
  have pre0 : ∀ t_, Sp p e below s₁ (mkF m 0 #[.val (.ref t), .val (.ref a), .unset, .unset, .unset] []) t_ → Sp p e below s₁ (entryFrame m #[(.ref t), (.ref a)] 5) t_ := fun t_ k_ => castTop (ef_7_RR m t a) k_
  obtain ⟨S_U8, S_IN, S_CS, H_CS⟩ := SS
  have F1 := S_U8.ext O0.2
  obtain ⟨Tg2, Xg2, eg2, stg2⟩ := getS2 X0 hx hZ hown (host := "") (Or.inl (tw hw 50 rfl)) Via.refl e0 F1 (g := (mkF m 1 #[.val (.ref t), .val (.ref a), .unset, .unset, .unset] [(.ref a)])) rfl (hb hby d7_1)
  obtain ⟨cqk3, kqk3, qk3a, qk3b, qk3c⟩ := isOf hZ eg2 f14
  obtain ⟨_, _, ⟨Tk3, Lk3, kk3, nk3⟩, -, Xk3, ⟨Lck3, hQk3, lk3, yk3, zk3⟩, stk3⟩ := Xg2.virtualBack hx (y := Y5) (z := Y5) hown (mvT hZ (tw hw 52 rfl)) (mvT hZ (tw hw 53 rfl)) (notFace_of_selects (args := #[]) (mvT hZ (tw hw 55 rfl))) (mvT hZ (tw hw 55 rfl)) (mvT hZ (tw hw 54 rfl)) (by decide) (backOf (W := 0) (rm_getbytes l Z a0 hw [] a b k (104 : Int32) aU cs h0 n0 Z0 O0 f14 f15 f16 f17 f18 ⟨S_U8, S_IN, S_CS, H_CS⟩ (by decide)) hZ (tw hw 56 rfl) (tw hw 38 rfl) (by decide) (by decide)) qk3a qk3c (g := (mkF m 4 #[.val (.ref t), .val (.ref a), .unset, .unset, .unset] [(.ref aU), (.ref a)])) rfl (by rw [hml]; rfl) (Steps.refl _) (argsL := [(.ref aU)]) (rest := []) (lenOf pd__Ljava_nio_charset_Charset___B rfl) rfl (by show 2 * 0 + _ ≤ _; exact Nat.le_of_eq rfl) (hb hby d7_4) (fun _ _ => ⟨rfl, eg2, (by decide : 0 + 1 ≤ _), (by decide : 0 + 1 ≤ _)⟩)
  dsimp only [Pt.U, Pt.locs, Pt.cells, Pt.slots] at Xk3 lk3 yk3 zk3 stk3 hQk3
  subst lk3 yk3 zk3
  obtain ⟨dk3, rfl, Nk3q, Kk3q, Gk3_0, Qk3_0, Qk3_1⟩ := hQk3
  have g_dk3 : n0 ≤ dk3 := Nat.le_trans Z0 Gk3_0
  have y_dk3 : h0.size ≤ dk3 := Nat.le_trans (Nat.le_refl h0.size) Gk3_0
  have K4 : Keep h0 Tk3.heap [t, sl, en, bk] := (Keep.refl h0 [t, sl, en, bk]).trans Kk3q all0
  have Nk3 := Fr.app N0 Nk3q
  have Z5 : n0 ≤ Tk3.heap.size := (Nat.le_trans Z0 Kk3q.1)
  have O6 : Old Z n0 Tk3.heap := (O0.keep Kk3q all0)
  obtain ⟨_, _, ⟨Tk7, Lk7, kk7, nk7⟩, -, Xk7, ⟨Lck7, hQk7, lk7, yk7, zk7⟩, stk7⟩ := Jvm.LawKit.callS Xk3 hx (y := Y6) hown (mvT hZ (tw hw 89 rfl)) (mvT hZ (tw hw 90 rfl)) (mvT hZ (tw hw 3 rfl)) (mvT hZ (tw hw 91 rfl)) (by decide) (backOf (W := 0) (rm_hash l Z a0 hw [] dk3 k (104 : Int32) (-944773026 : Int32)  Tk3.heap n0 Z5 O6 Qk3_0 own_hash7) hZ (tw hw 91 rfl) (tw hw 3 rfl) (by decide) (by decide)) (g := (mkF m 9 #[.val (.ref t), .val (.ref a), .val (.ref dk3), .unset, .unset] [(.ref dk3)])) rfl (by rw [hml]; rfl) (argsL := [(.ref dk3)]) (rest := []) (lenOf pd___B_I rfl) rfl (by show 2 * 0 + _ ≤ _; exact Nat.le_of_eq rfl) (hb hby d7_9) (fun _ _ => ⟨rfl, rfl, (by decide : 1 + 0 ≤ _), (by decide : 1 + 0 ≤ _)⟩)
  dsimp only [Pt.U, Pt.locs, Pt.cells, Pt.slots] at Xk7 lk7 yk7 zk7 stk7 hQk7
  subst lk7 yk7 zk7
  obtain ⟨rfl, Nk7q, ek7⟩ := hQk7
  have Nk7 := Fr.app Nk3 Nk7q
  have F8 := (f1.keep Kk3q nin0)
  have F9 := (f6.keep Kk3q nin0)
  have F11 := (f0.keep Kk3q)
  obtain ⟨cqk10, qk10, qk10'⟩ := F11.cell
  obtain ⟨_, _, ⟨Tk10, Lk10, kk10, nk10⟩, -, Xk10, ⟨Lck10, hQk10, lk10, yk10, zk10⟩, stk10⟩ := Xk7.privateBack hx (y := Y7) hown (mvT hZ (tw hw 95 rfl)) (mvT hZ (tw hw 96 rfl)) (own_selp (mvT hZ (tw hw 27 rfl)) rfl (Cond.privateMethod_at (mvP hZ (tw hw 97 rfl) (args := #[]))) (mvT hZ (tw hw 96 rfl)) (by decide)) (Cond.privateMethod_at (mvP hZ (tw hw 97 rfl) (args := #[]))) (mvT hZ (tw hw 98 rfl)) (by decide) (backOf (W := 0) (rm_find7 l Z a0 hw [] t dk3 sl ks  Tk3.heap n0 Z5 O6 F8 F9) hZ (tw hw 98 rfl) (tw hw 3 rfl) (by decide) (by decide)) (g := (mkF m 16 #[.val (.ref t), .val (.ref a), .val (.ref dk3), .val (.int (-944773026 : Int32)), .unset] [(.int (-944773026 : Int32)), (.ref dk3), (.ref t)])) rfl (by rw [hml]; rfl) (Steps.refl _) (a := t) (own_eq ek7 qk10) qk10' (argsL := [(.ref dk3), (.int (-944773026 : Int32))]) (rest := []) (lenOf pd___BI_I rfl) rfl (by show 2 * 0 + _ ≤ _; exact Nat.le_of_eq rfl) (hb hby d7_16) (fun _ _ => ⟨rfl, ek7, (by decide : 1 + 0 ≤ _), (by decide : 1 + 0 ≤ _)⟩)
  dsimp only [Pt.U, Pt.locs, Pt.cells, Pt.slots] at Xk10 lk10 yk10 zk10 stk10 hQk10
  subst lk10 yk10 zk10
  obtain ⟨rfl, Nk10q, ek10⟩ := hQk10
  have Nk10 := Fr.app Nk7 Nk10q
  obtain ⟨Tf12, Xf12, ef12, stf12⟩ := getF Xk10 hx hZ hown (host := "") (Or.inl (tw hw 11 rfl)) Via.refl ek10 F8 (g := (mkF m 22 #[.val (.ref t), .val (.ref a), .val (.ref dk3), .val (.int (-944773026 : Int32)), .val (.int (1 : Int32))] [(.ref t)])) rfl rfl (hb hby d7_22)
  obtain ⟨clv13, Arv13, qv13, Sv13, Nv13, Hv13, Gv13⟩ := id F9
  have in14 : ¬ ((1 : Int32) < 0 ∨ clv13.slots.size ≤ ((1 : Int32)).toNatClampNeg) := inb_of Sv13 ⟨by decide, by decide⟩
  have atin14 : clv13.slots[((1 : Int32)).toNatClampNeg]? = some (.long (0 : Int64)) := Has.at Hv13 in14 rfl
  have F15 := (f5.keep Kk3q nin0)
  obtain ⟨Tf16, Xf16, ef16, stf16⟩ := getF Xf12 hx hZ hown (host := "") (Or.inl (tw hw 29 rfl)) Via.refl ef12 F15 (g := (mkF m 36 #[.val (.ref t), .val (.ref a), .val (.ref dk3), .val (.int (-944773026 : Int32)), .val (.int (1 : Int32))] [(.ref t)])) rfl rfl (hb hby d7_36)
  obtain ⟨Tf17, Xf17, ef17, stf17⟩ := getF Xf16 hx hZ hown (host := "") (Or.inl (tw hw 11 rfl)) Via.refl ef16 F8 (g := (mkF m 42 #[.val (.ref t), .val (.ref a), .val (.ref dk3), .val (.int (-944773026 : Int32)), .val (.int (1 : Int32))] [(.ref t), (.int (8 : Int32))])) rfl rfl (hb hby d7_42)
  have F18 := (f4.keep Kk3q nin0)
  have F19 := (f3.keep Kk3q nin0)
  have F20 := (f2.keep Kk3q nin0)
  have F21 := (f10.keep Kk3q nin0)
  have F22 := (f12.keep Kk3q nin0)
  have F24 := (f13.keep Kk3q)
  have ne23 : t ≠ bk := ne_exa F11 F24 (by decide)
  have ne25 : bk ≠ dk3 := Nat.ne_of_lt (Nat.lt_of_lt_of_le f12.lt Gk3_0)
  have F27 := (f11.keep Kk3q)
  have ne26 : bl ≠ bk := ne_exa F27 F24 (by decide)
  obtain ⟨cqk28, qk28, qk28'⟩ := F11.cell
  obtain ⟨_, _, ⟨Tk28, Lk28, kk28, nk28⟩, -, Xk28, ⟨Lck28, hQk28, lk28, yk28, zk28⟩, stk28⟩ := Xf17.privateBack hx (y := Y10) hown (mvT hZ (tw hw 99 rfl)) (mvT hZ (tw hw 100 rfl)) (own_selp (mvT hZ (tw hw 27 rfl)) rfl (Cond.privateMethod_at (mvP hZ (tw hw 101 rfl) (args := #[]))) (mvT hZ (tw hw 100 rfl)) (by decide)) (Cond.privateMethod_at (mvP hZ (tw hw 101 rfl) (args := #[]))) (mvT hZ (tw hw 102 rfl)) (by decide) (backOf (W := 0) (rm_store7 l Z a0 hw [] t dk3 k bl kbl sl en bk kbk  Tk3.heap n0 Z5 O6 F11 F18 F19 Qk3_0 F15 F8 F20 F21 F22 gt gbk ne23 (Ne.symm ne25) ne26) hZ (tw hw 102 rfl) (tw hw 3 rfl) (by decide) (by decide)) (g := (mkF m 67 #[.val (.ref t), .val (.ref a), .val (.ref dk3), .val (.int (-944773026 : Int32)), .val (.int (1 : Int32))] [(.ref dk3), (.ref t)])) rfl (by rw [hml]; rfl) (Steps.refl _) (a := t) (own_eq ef17 qk28) qk28' (argsL := [(.ref dk3)]) (rest := []) (lenOf pd___B_V rfl) rfl (by show 2 * 0 + _ ≤ _; exact Nat.le_of_eq rfl) (hb hby d7_67) (fun _ _ => ⟨rfl, ef17, (by decide : 1 + 0 ≤ _), (by decide : 1 + 0 ≤ _)⟩)
  dsimp only [Pt.U, Pt.locs, Pt.cells, Pt.slots] at Xk28 lk28 yk28 zk28 stk28 hQk28
  subst lk28 yk28 zk28
  obtain ⟨rfl, Nk28q, Kk28q, Qk28_0, Qk28_1, Qk28_2, Qk28_3, Qk28_4, Qk28_5⟩ := hQk28
  have K29 : Keep h0 Tk28.heap [t, sl, en, bk] := K4.trans Kk28q (allS (P := fun x => x ∈ [t, sl, en, bk] ∨ h0.size ≤ x) (Or.inl (List.mem_of_getElem? (i := 0) rfl)) (allS (P := fun x => x ∈ [t, sl, en, bk] ∨ h0.size ≤ x) (Or.inl (List.mem_of_getElem? (i := 3) rfl)) all0))
  have Nk28 := Fr.app Nk10 Nk28q
  obtain ⟨Tf30, Xf30, ef30, stf30⟩ := getF Xk28 hx hZ hown (host := "") (Or.inl (tw hw 11 rfl)) Via.refl rfl Qk28_3 (g := (mkF m 71 #[.val (.ref t), .val (.ref a), .val (.ref dk3), .val (.int (-944773026 : Int32)), .val (.int (1 : Int32))] [(.ref t)])) rfl rfl (hb hby d7_71)
  obtain ⟨Tf31, Xf31, ef31, stf31⟩ := getF Xf30 hx hZ hown (host := "") (Or.inl (tw hw 29 rfl)) Via.refl ef30 Qk28_2 (g := (mkF m 82 #[.val (.ref t), .val (.ref a), .val (.ref dk3), .val (.int (-944773026 : Int32)), .val (.int (1 : Int32))] [(.ref t), (.long (-4057769248812957696 : Int64)), (.int (1 : Int32)), (.ref sl)])) rfl rfl (hb hby d7_82)
  have F33 := ((f7.keep Kk3q).keep Kk28q)
  have F34 := (F24.keep Kk28q)
  have ne32 : sl ≠ bk := ne_exa F33 F34 (by decide)
  have F36 := (F11.keep Kk28q)
  have ne35 : sl ≠ t := ne_exa F33 F36 (by decide)
  have F37 := (F9.keep Kk28q (ninS ne35 (ninS ne32 nin0)))
  obtain ⟨clv38, Arv38, qv38, Sv38, Nv38, Hv38, Gv38⟩ := id F37
  have in39 : ¬ ((1 : Int32) < 0 ∨ clv38.slots.size ≤ ((1 : Int32)).toNatClampNeg) := inb_of Sv38 ⟨by decide, by decide⟩
  obtain ⟨Tw40, hw40, Xw40, ew40, Ww40, stw40⟩ := stJ Xf31 hx hZ ef31 Arv38 (j := (1 : Int32)) in39 (g := (mkF m 89 #[.val (.ref t), .val (.ref a), .val (.ref dk3), .val (.int (-944773026 : Int32)), .val (.int (1 : Int32))] [(.long (-4057769248812957688 : Int64)), (.int (1 : Int32)), (.ref sl)])) rfl rfl (hb hby d7_89)
  have Vw40 : Arv Z hw40 sl ks .long (16 : Int32) [(.long (1796898511443197958 : Int64)), (.long (-4057769248812957688 : Int64)), (.long (0 : Int64)), (.long (0 : Int64)), (.long (0 : Int64)), (.long (3719577833094250501 : Int64)), (.long (0 : Int64)), (.long (0 : Int64)), (.long (0 : Int64)), (.long (0 : Int64)), (.long (-5987724090444611577 : Int64)), (.long (0 : Int64)), (.long (-2306841795268444158 : Int64)), (.long (1808655176962146305 : Int64)), (.long (-2839092971725389821 : Int64)), (.long (1750739909502566404 : Int64))] (.long (0 : Int64)) := Arv.set Arv38 qv38 Sv38 Nv38 Hv38 Gv38 rfl Ww40 1 rfl (Nat.le_of_ble_eq_true rfl)
  have Nw40 := Fr.snoc Xw40 Nk28 gsl
  have K41 : Keep h0 hw40 [t, sl, en, bk] := K29.wr Ww40 (Or.inl (List.mem_of_getElem? (i := 1) rfl))
  have F42 := (Qk28_2.other Ww40 (Or.inl (Ne.symm ne35)))
  obtain ⟨Tf43, Xf43, ef43, stf43⟩ := getF Xw40 hx hZ hown (host := "") (Or.inl (tw hw 29 rfl)) Via.refl ew40 F42 (g := (mkF m 92 #[.val (.ref t), .val (.ref a), .val (.ref dk3), .val (.int (-944773026 : Int32)), .val (.int (1 : Int32))] [(.ref t), (.ref t)])) rfl rfl (hb hby d7_92)
  have F44 := (F36.wr Ww40)
  obtain ⟨Tp45, hp45, Xp45, ep45, Wp45, stp45⟩ := putF Xf43 hx hZ hown (host := "") (Or.inl (tw hw 29 rfl)) Via.refl ef43 F42 F44 (Or.inl (tw hw 30 rfl)) (tw hw 2 rfl) (ty := .int) (by decide) rfl rfl (g := (mkF m 97 #[.val (.ref t), .val (.ref a), .val (.ref dk3), .val (.int (-944773026 : Int32)), .val (.int (1 : Int32))] [(.int (8 : Int32)), (.ref t)])) rfl rfl (hb hby d7_97)
  have Fwp45 : Fld Z hp45 t S1 "size" "I" (.int (8 : Int32)) := F42.same Wp45
  have Np45 := Fr.snoc Xp45 Nw40 gt
  have K46 : Keep h0 hp45 [t, sl, en, bk] := K41.wr Wp45 (Or.inl (List.mem_of_getElem? (i := 0) rfl))
  have F47 := ((Qk28_4.other Ww40 (Or.inl (Ne.symm ne35))).other Wp45 (Or.inr (slot_ne (Or.inl (tw hw 15 rfl)) (Or.inl (tw hw 30 rfl)) (by decide) (t := (.array .int)) (t' := .int) (by decide) (by decide))))
  obtain ⟨Tf48, Xf48, ef48, stf48⟩ := getF Xp45 hx hZ hown (host := "") (Or.inl (tw hw 14 rfl)) Via.refl ep45 F47 (g := (mkF m 103 #[.val (.ref t), .val (.ref a), .val (.ref dk3), .val (.int (-944773026 : Int32)), .val (.int (1 : Int32))] [(.ref t), (.ref t), (.ref t)])) rfl rfl (hb hby d7_103)
  have F50 := ((((f9.keep Kk3q).keep Kk28q).wr Ww40).wr Wp45)
  have F51 := ((F34.wr Ww40).wr Wp45)
  have ne49 : en ≠ bk := ne_exa F50 F51 (by decide)
  have F53 := (F44.wr Wp45)
  have ne52 : en ≠ t := ne_exa F50 F53 (by decide)
  have F55 := ((F33.wr Ww40).wr Wp45)
  have ne54 : en ≠ sl := ne_exa F50 F55 (by decide)
  have F56 := ((((f8.keep Kk3q nin0).keep Kk28q (ninS ne52 (ninS ne49 nin0))).other Ww40 ne54).other Wp45 ne52)
  have Z57 : n0 ≤ hp45.size := (Nat.le_trans (Nat.le_trans (Nat.le_trans Z5 Kk28q.1) (Keep.of_wr Ww40).1) (Keep.of_wr Wp45).1)
  have O58 : Old Z n0 hp45 := (((O6.keep Kk28q (allS gt (allS gbk all0))).wr Ww40 gsl).wr Wp45 gt)
  obtain ⟨cqk59, kqk59, qk59a, qk59b, qk59c⟩ := isOf hZ ef48 F53
  obtain ⟨_, _, ⟨Tk59, Lk59, kk59, nk59⟩, -, Xk59, ⟨Lck59, hQk59, lk59, yk59, zk59⟩, stk59⟩ := Xf48.virtualBack hx (y := Y13) (z := Y13) hown (mvT hZ (tw hw 116 rfl)) (mvT hZ (tw hw 25 rfl)) (notFace_of_selects (args := #[]) (mvT hZ (tw hw 27 rfl))) (mvT hZ (tw hw 27 rfl)) (mvT hZ (tw hw 26 rfl)) (by decide) (backOf (W := 1) (rm_fits_ l Z a0 hw [] t en ken (9 : Int32) [(.int (1 : Int32)), (.int (2 : Int32)), (.int (3 : Int32)), (.int (4 : Int32)), (.int (5 : Int32)), (.int (6 : Int32)), (.int (7 : Int32)), (.int (0 : Int32)), (.int (0 : Int32))] (8 : Int32)  hp45 n0 Z57 O58 Fwp45 F56 (by decide)) hZ (tw hw 28 rfl) (tw hw 3 rfl) (by decide) (by decide)) qk59a qk59c (g := (mkF m 106 #[.val (.ref t), .val (.ref a), .val (.ref dk3), .val (.int (-944773026 : Int32)), .val (.int (1 : Int32))] [(.ref en), (.ref t), (.ref t)])) rfl (by rw [hml]; rfl) (Steps.refl _) (argsL := [(.ref en)]) (rest := [(.ref t)]) (lenOf pd___I__I rfl) rfl (by show 2 * 0 + _ ≤ _; exact Nat.le_of_eq rfl) (hb hby d7_106) (fun _ _ => ⟨rfl, ef48, (by decide : 1 + 0 ≤ _), (by decide : 1 + 0 ≤ _)⟩)
  dsimp only [Pt.U, Pt.locs, Pt.cells, Pt.slots] at Xk59 lk59 yk59 zk59 stk59 hQk59
  subst lk59 yk59 zk59
  obtain ⟨rfl, Nk59q, ek59⟩ := hQk59
  have Nk59 := Fr.app Np45 Nk59q
  obtain ⟨Tp60, hp60, Xp60, ep60, Wp60, stp60⟩ := putF Xk59 hx hZ hown (host := "") (Or.inl (tw hw 14 rfl)) Via.refl ek59 F47 F53 (Or.inl (tw hw 15 rfl)) (tw hw 2 rfl) (ty := (.array .int)) (by decide) rfl rfl (g := (mkF m 109 #[.val (.ref t), .val (.ref a), .val (.ref dk3), .val (.int (-944773026 : Int32)), .val (.int (1 : Int32))] [(.ref en), (.ref t)])) rfl rfl (hb hby d7_109)
  have Fwp60 : Fld Z hp60 t S1 "ends" "[I" (.ref en) := F47.same Wp60
  have Np60 := Fr.snoc Xp60 Nk59 gt
  have K61 : Keep h0 hp60 [t, sl, en, bk] := K46.wr Wp60 (Or.inl (List.mem_of_getElem? (i := 0) rfl))
  obtain ⟨Tf62, Xf62, ef62, stf62⟩ := getF Xp60 hx hZ hown (host := "") (Or.inl (tw hw 14 rfl)) Via.refl ep60 Fwp60 (g := (mkF m 113 #[.val (.ref t), .val (.ref a), .val (.ref dk3), .val (.int (-944773026 : Int32)), .val (.int (1 : Int32))] [(.ref t)])) rfl rfl (hb hby d7_113)
  have F63 := (Fwp45.other Wp60 (Or.inr (slot_ne (Or.inl (tw hw 30 rfl)) (Or.inl (tw hw 15 rfl)) (by decide) (t := .int) (t' := (.array .int)) (by decide) (by decide))))
  obtain ⟨Tf64, Xf64, ef64, stf64⟩ := getF Xf62 hx hZ hown (host := "") (Or.inl (tw hw 29 rfl)) Via.refl ef62 F63 (g := (mkF m 117 #[.val (.ref t), .val (.ref a), .val (.ref dk3), .val (.int (-944773026 : Int32)), .val (.int (1 : Int32))] [(.ref t), (.ref en)])) rfl rfl (hb hby d7_117)
  have F65 := (((Qk28_0.other Ww40 (Or.inl (Ne.symm ne35))).other Wp45 (Or.inr (slot_ne (Or.inl (tw hw 105 rfl)) (Or.inl (tw hw 30 rfl)) (by decide) (t := .int) (t' := .int) (by decide) (by decide)))).other Wp60 (Or.inr (slot_ne (Or.inl (tw hw 105 rfl)) (Or.inl (tw hw 15 rfl)) (by decide) (t := .int) (t' := (.array .int)) (by decide) (by decide))))
  obtain ⟨Tf66, Xf66, ef66, stf66⟩ := getF Xf64 hx hZ hown (host := "") (Or.inl (tw hw 104 rfl)) Via.refl ef64 F65 (g := (mkF m 123 #[.val (.ref t), .val (.ref a), .val (.ref dk3), .val (.int (-944773026 : Int32)), .val (.int (1 : Int32))] [(.ref t), (.int (7 : Int32)), (.ref en)])) rfl rfl (hb hby d7_123)
  have F67 := (F56.other Wp60 ne52)
  obtain ⟨clv68, Arv68, qv68, Sv68, Nv68, Hv68, Gv68⟩ := id F67
  have in69 : ¬ ((7 : Int32) < 0 ∨ clv68.slots.size ≤ ((7 : Int32)).toNatClampNeg) := inb_of Sv68 ⟨by decide, by decide⟩
  obtain ⟨Tw70, hw70, Xw70, ew70, Ww70, stw70⟩ := stI Xf66 hx hZ ef66 Arv68 (j := (7 : Int32)) in69 (g := (mkF m 126 #[.val (.ref t), .val (.ref a), .val (.ref dk3), .val (.int (-944773026 : Int32)), .val (.int (1 : Int32))] [(.int (8 : Int32)), (.int (7 : Int32)), (.ref en)])) rfl rfl (hb hby d7_126)
  have Vw70 : Arv Z hw70 en ken .int (9 : Int32) [(.int (1 : Int32)), (.int (2 : Int32)), (.int (3 : Int32)), (.int (4 : Int32)), (.int (5 : Int32)), (.int (6 : Int32)), (.int (7 : Int32)), (.int (8 : Int32)), (.int (0 : Int32))] (.int (0 : Int32)) := Arv.set Arv68 qv68 Sv68 Nv68 Hv68 Gv68 rfl Ww70 7 rfl (Nat.le_of_ble_eq_true rfl)
  have Nw70 := Fr.snoc Xw70 Np60 gen
  have K71 : Keep h0 hw70 [t, sl, en, bk] := K61.wr Ww70 (Or.inl (List.mem_of_getElem? (i := 2) rfl))
  have F72 := ((((Qk28_3.other Ww40 (Or.inl (Ne.symm ne35))).other Wp45 (Or.inr (slot_ne (Or.inl (tw hw 12 rfl)) (Or.inl (tw hw 30 rfl)) (by decide) (t := (.array .long)) (t' := .int) (by decide) (by decide)))).other Wp60 (Or.inr (slot_ne (Or.inl (tw hw 12 rfl)) (Or.inl (tw hw 15 rfl)) (by decide) (t := (.array .long)) (t' := (.array .int)) (by decide) (by decide)))).other Ww70 (Or.inl (Ne.symm ne52)))
  have F73 := (Fwp60.other Ww70 (Or.inl (Ne.symm ne52)))
  have F74 := ((((Qk28_1.other Ww40 (Or.inl (Ne.symm ne35))).other Wp45 (Or.inr (slot_ne (Or.inl (tw hw 19 rfl)) (Or.inl (tw hw 30 rfl)) (by decide) (t := (.array (.array .byte))) (t' := .int) (by decide) (by decide)))).other Wp60 (Or.inr (slot_ne (Or.inl (tw hw 19 rfl)) (Or.inl (tw hw 15 rfl)) (by decide) (t := (.array (.array .byte))) (t' := (.array .int)) (by decide) (by decide)))).other Ww70 (Or.inl (Ne.symm ne52)))
  have F75 := (F65.other Ww70 (Or.inl (Ne.symm ne52)))
  have F76 := (F63.other Ww70 (Or.inl (Ne.symm ne52)))
  have F77 := (((Vw40.other Wp45 ne35).other Wp60 ne35).other Ww70 (Ne.symm ne54))
  have F79 := (((((F27.keep Kk28q).wr Ww40).wr Wp45).wr Wp60).wr Ww70)
  have F80 := ((F53.wr Wp60).wr Ww70)
  have ne78 : bl ≠ t := ne_exa F79 F80 (by decide)
  have F82 := ((F55.wr Wp60).wr Ww70)
  have ne81 : bl ≠ sl := ne_exa F79 F82 (by decide)
  have F84 := ((F50.wr Wp60).wr Ww70)
  have ne83 : bl ≠ en := ne_exa F79 F84 (by decide)
  have F85 := (((((F21.keep Kk28q (ninS ne78 (ninS ne26 nin0))).other Ww40 ne81).other Wp45 ne78).other Wp60 ne78).other Ww70 ne83)
  have F86 := ((((Qk28_5.other Ww40 (Ne.symm ne32)).other Wp45 (Ne.symm ne23)).other Wp60 (Ne.symm ne23)).other Ww70 (Ne.symm ne49))
  obtain ⟨fs, hlv, hrun, hended, hW, hsame⟩ := Xw70.leave (v := some (.int (1 : Int32))) (fun h => by rw [hret] at h; cases h)
  refine ⟨_, _, pre0 _ ?_, hrun, hended, _, _, rfl, ?_, ⟨_, rfl⟩, hW, hsame.mono (by decide) (by decide)⟩
  · refine XS.aloadN X0.here hx rfl (hb hby d7_0) rfl rfl ?_
    show Sp p e below s₁ (mkF m 1 #[.val (.ref t), .val (.ref a), .unset, .unset, .unset] [(.ref a)]) _
    refine stg2 _ ?_
    refine stk3.trans ?_
    refine XS.astoreN Xk3.here hx rfl (hb hby d7_7) rfl rfl (l' := #[.val (.ref t), .val (.ref a), .val (.ref dk3), .unset, .unset]) rfl ?_
    refine XS.aloadN Xk3.here hx rfl (hb hby d7_8) rfl rfl ?_
    refine stk7 _ ?_
    refine XS.istoreN Xk7.here hx rfl (hb hby d7_12) rfl (l' := #[.val (.ref t), .val (.ref a), .val (.ref dk3), .val (.int (-944773026 : Int32)), .unset]) rfl ?_
    refine XS.aloadN Xk7.here hx rfl (hb hby d7_13) rfl rfl ?_
    refine XS.aloadN Xk7.here hx rfl (hb hby d7_14) rfl rfl ?_
    refine XS.iloadN Xk7.here hx rfl (hb hby d7_15) rfl ?_
    refine stk10.trans ?_
    refine XS.istore Xk10.here hx rfl (hb hby d7_19) rfl (l' := #[.val (.ref t), .val (.ref a), .val (.ref dk3), .val (.int (-944773026 : Int32)), .val (.int (1 : Int32))]) rfl ?_
    refine XS.aloadN Xk10.here hx rfl (hb hby d7_21) rfl rfl ?_
    refine stf12 _ ?_
    refine XS.iload Xf12.here hx rfl (hb hby d7_25) rfl ?_
    show Sp p e below Tf12 (mkF m 27 #[.val (.ref t), .val (.ref a), .val (.ref dk3), .val (.int (-944773026 : Int32)), .val (.int (1 : Int32))] [(.int (1 : Int32)), (.ref sl)]) _
    refine Xf12.laload hx (j := (1 : Int32)) (v := (.long (0 : Int64))) (own_eq ef12 Arv13.1) (State.isArrayOf_alike hZ.alike Arv13.2.1) Arv13.2.2 in14 atin14 (g := (mkF m 27 #[.val (.ref t), .val (.ref a), .val (.ref dk3), .val (.int (-944773026 : Int32)), .val (.int (1 : Int32))] [(.int (1 : Int32)), (.ref sl)])) rfl rfl (hb hby d7_27) _ ?_
    show Sp p e below Tf12 (mkF m 28 #[.val (.ref t), .val (.ref a), .val (.ref dk3), .val (.int (-944773026 : Int32)), .val (.int (1 : Int32))] [(.long (0 : Int64))]) _
    refine XS.lconst Xf12.here hx rfl (hb hby d7_28) ?_
    refine XS.lcmp Xf12.here hx rfl (hb hby d7_29) rfl ?_
    refine XS.ifYes Xf12.here hx rfl (pc0 := 30) (pc' := 35) rfl (hb hby d7_30) rfl ((if0 _ _).trans (teq (by decide : (0 : Int32) = (0 : Int32))).1) (by decide) (by decide) ?_
    refine XS.aloadN Xf12.here hx rfl (hb hby d7_35) rfl rfl ?_
    refine stf16 _ ?_
    refine XS.iconst Xf16.here hx rfl (hb hby d7_39) ?_
    refine XS.iadd Xf16.here hx rfl (hb hby d7_40) rfl ?_
    refine XS.aloadN Xf16.here hx rfl (hb hby d7_41) rfl rfl ?_
    refine stf17 _ ?_
    show Sp p e below Tf17 (mkF m 45 #[.val (.ref t), .val (.ref a), .val (.ref dk3), .val (.int (-944773026 : Int32)), .val (.int (1 : Int32))] [(.ref sl), (.int (8 : Int32))]) _
    refine Xf17.arraylength hx (own_eq ef17 Arv13.1) (State.isArrayOf_alike hZ.alike Arv13.2.1) (g := (mkF m 45 #[.val (.ref t), .val (.ref a), .val (.ref dk3), .val (.int (-944773026 : Int32)), .val (.int (1 : Int32))] [(.ref sl), (.int (8 : Int32))])) rfl rfl (hb hby d7_45) _ ?_
    rw [len_of Sv13 Nv13]
    show Sp p e below Tf17 (mkF m 46 #[.val (.ref t), .val (.ref a), .val (.ref dk3), .val (.int (-944773026 : Int32)), .val (.int (1 : Int32))] [(.int (16 : Int32)), (.int (8 : Int32))]) _
    refine XS.iconst Xf17.here hx rfl (hb hby d7_46) ?_
    refine XS.idiv Xf17.here hx rfl (hb hby d7_47) rfl (by decide) ?_
    refine XS.iconst Xf17.here hx rfl (hb hby d7_48) ?_
    refine XS.imul Xf17.here hx rfl (hb hby d7_49) rfl ?_
    refine XS.icmpYes Xf17.here hx rfl (pc0 := 50) (pc' := 65) rfl (hb hby d7_50) rfl (flt (by decide : ¬ ((12 : Int32) < (8 : Int32)))).2.2.2 (by decide) (by decide) ?_
    refine XS.aloadN Xf17.here hx rfl (hb hby d7_65) rfl rfl ?_
    refine XS.aloadN Xf17.here hx rfl (hb hby d7_66) rfl rfl ?_
    refine stk28.trans ?_
    refine XS.aloadN Xk28.here hx rfl (hb hby d7_70) rfl rfl ?_
    refine stf30 _ ?_
    refine XS.iload Xf30.here hx rfl (hb hby d7_74) rfl ?_
    refine XS.iloadN Xf30.here hx rfl (hb hby d7_76) rfl ?_
    refine XS.i2l Xf30.here hx rfl (hb hby d7_77) rfl ?_
    refine XS.bipush Xf30.here hx rfl (hb hby d7_78) ?_
    refine XS.lshl Xf30.here hx rfl (hb hby d7_80) rfl ?_
    refine XS.aloadN Xf30.here hx rfl (hb hby d7_81) rfl rfl ?_
    refine stf31 _ ?_
    refine XS.i2l Xf31.here hx rfl (hb hby d7_85) rfl ?_
    refine XS.lconst Xf31.here hx rfl (hb hby d7_86) ?_
    refine XS.ladd Xf31.here hx rfl (hb hby d7_87) rfl ?_
    refine XS.lor Xf31.here hx rfl (hb hby d7_88) rfl ?_
    show Sp p e below Tf31 (mkF m 89 #[.val (.ref t), .val (.ref a), .val (.ref dk3), .val (.int (-944773026 : Int32)), .val (.int (1 : Int32))] [(.long (-4057769248812957688 : Int64)), (.int (1 : Int32)), (.ref sl)]) _
    refine stw40 _ ?_
    refine XS.aloadN Xw40.here hx rfl (hb hby d7_90) rfl rfl ?_
    refine XS.dup Xw40.here hx rfl (hb hby d7_91) rfl rfl ?_
    refine stf43 _ ?_
    refine XS.iconst Xf43.here hx rfl (hb hby d7_95) ?_
    refine XS.iadd Xf43.here hx rfl (hb hby d7_96) rfl ?_
    refine stp45 _ ?_
    refine XS.aloadN Xp45.here hx rfl (hb hby d7_100) rfl rfl ?_
    refine XS.aloadN Xp45.here hx rfl (hb hby d7_101) rfl rfl ?_
    refine XS.aloadN Xp45.here hx rfl (hb hby d7_102) rfl rfl ?_
    refine stf48 _ ?_
    refine stk59.trans ?_
    refine stp60 _ ?_
    refine XS.aloadN Xp60.here hx rfl (hb hby d7_112) rfl rfl ?_
    refine stf62 _ ?_
    refine XS.aloadN Xf62.here hx rfl (hb hby d7_116) rfl rfl ?_
    refine stf64 _ ?_
    refine XS.iconst Xf64.here hx rfl (hb hby d7_120) ?_
    refine XS.isub Xf64.here hx rfl (hb hby d7_121) rfl ?_
    refine XS.aloadN Xf64.here hx rfl (hb hby d7_122) rfl rfl ?_
    refine stf66 _ ?_
    show Sp p e below Tf66 (mkF m 126 #[.val (.ref t), .val (.ref a), .val (.ref dk3), .val (.int (-944773026 : Int32)), .val (.int (1 : Int32))] [(.int (8 : Int32)), (.int (7 : Int32)), (.ref en)]) _
    refine stw70 _ ?_
    refine XS.iconst Xw70.here hx rfl (hb hby d7_127) ?_
    show Sp p e below Tw70 (mkF m 128 #[.val (.ref t), .val (.ref a), .val (.ref dk3), .val (.int (-944773026 : Int32)), .val (.int (1 : Int32))] [(.int (1 : Int32))]) _
    exact retN Xw70 hx (t := .boolean) hret (by simp) (hb hby d7_128) hlv
  · show Q_add7 Z t a b k sl ks en ken bl kbl bk kbk aU cs h0 n0 _ Tw70.heap _
    rw [ew70]
    exact ⟨rfl, Nw70, K71, F72, F73, F74, F75, F76, F77, Vw70, F85, F86⟩
theorem d3_0 : decode method_3_code 0 = .ok (.iload_n 1, 1) := by decide +kernel
theorem d3_1 : decode method_3_code 1 = .ok (.iload_n 2, 1) := by decide +kernel
theorem d3_2 : decode method_3_code 2 = .ok (.iload_n 0, 1) := by decide +kernel
theorem d3_3 : decode method_3_code 3 = .ok (.imul, 1) := by decide +kernel
theorem d3_4 : decode method_3_code 4 = .ok (.iload_n 0, 1) := by decide +kernel
theorem d3_5 : decode method_3_code 5 = .ok (.iadd, 1) := by decide +kernel
theorem d3_6 : decode method_3_code 6 = .ok (.ixor, 1) := by decide +kernel
theorem d3_7 : decode method_3_code 7 = .ok (.ireturn, 1) := by decide +kernel
theorem pn_4 : plainName "com/example/munim/munim/csv/TextKeysFitPinLaw" = true := by first | (simp [plainName, overriddenIn]; done) | decide +kernel
theorem ef_3_III (m : MethodId) (x0 : Int32) (x1 : Int32) (x2 : Int32) : entryFrame m #[(.int x0), (.int x1), (.int x2)] 3 = mkF m 0 #[.val (.int x0), .val (.int x1), .val (.int x2)] [] := by first | (simp [entryFrame, mkF, argsToLocals, Value.category]; done) | rfl
def Q_vv (Z : State) (i : Int32) (x : Int32) (y : Int32) (h0 : Heap) (n0 : Nat) (v : Option Value) (h : Heap) (L : List Loc) : Prop := v = some (.int (x ^^^ ((y * i) + i))) ∧ Fr n0 L ∧ h = h0
set_option maxRecDepth 65536 in
set_option maxHeartbeats 40000000 in
theorem rm_vv (l : Launch) (Z : State) (a0 : Array Value) (hw : ∀ d ∈ tables_1, d.before a0 Z = true) (ws : List Jvm.Cond) (i : Int32) (x : Int32) (y : Int32) (h0 : Heap) (n0 : Nat) (Z0 : n0 ≤ h0.size) (O0 : Old Z n0 h0) :
    MetFree l Y16 (head1 (Jvm.Cond.code Y16 method_3_code 3 (some .int) :: ws) ({ frames := 0, cells := 0, slots := 0, locals := 0 } : Room)) (fun A_ U => A_ = #[(.int i), (.int x), (.int y)] ∧ Z.Warmed39 U.vm ∧ U.heap = h0) (fun _ _ _ _ _ => True) (fun _ U o_ U' => ∃ v_ L_, o_ = .returned v_ ∧ Q_vv Z i x y h0 n0 v_ U'.heap L_ ∧ FrameEnd U o_ U' L_ ({ frames := 0, cells := 0, slots := 0, locals := 0 } : Room).cells ({ frames := 0, cells := 0, slots := 0, locals := 0 } : Room).slots) := by
  refine MetFree.of_bodySF (plainFor_of_name pn_4) hisR ?_
  intro p e s m args below meth c s₁ Bd hml0 hP hK
  obtain ⟨rfl, hZ, hh⟩ := hP
  have hx := Bd.exec
  have hby := Bd.bytes
  have hml : c.maxLocals = 3 := hml0
  have hown : s.vm.findClass S2 = some m.cls := findClass_of_methodNamed Bd.named
  have hnm := (name_of_methodNamed Bd.named Bd.method).1
  have hret := Bd.returns
  have X0 : Stand p l e ({ frames := 0, cells := 0, slots := 0, locals := 0 } : Room) s m #[(.int i), (.int x), (.int y)] below meth c s₁ [] 0 0 := Stand.of_body Bd
  have e0 : s₁.heap = h0 := by rw [← hh, Bd.state]; rfl
  have N0 := Fr.nil n0
  have pre0 : ∀ t_, Sp p e below s₁ (mkF m 0 #[.val (.int i), .val (.int x), .val (.int y)] []) t_ → Sp p e below s₁ (entryFrame m #[(.int i), (.int x), (.int y)] 3) t_ := fun t_ k_ => castTop (ef_3_III m i x y) k_
  obtain ⟨fs, hlv, hrun, hended, hW, hsame⟩ := X0.leave (v := some (.int (x ^^^ ((y * i) + i)))) (fun h => by rw [hret] at h; cases h)
  refine ⟨_, _, pre0 _ ?_, hrun, hended, _, _, rfl, ?_, ⟨_, rfl⟩, hW, hsame.mono (by decide) (by decide)⟩
  · refine XS.iloadN X0.here hx rfl (hb hby d3_0) rfl ?_
    show Sp p e below s₁ (mkF m 1 #[.val (.int i), .val (.int x), .val (.int y)] [(.int x)]) _
    refine XS.iloadN X0.here hx rfl (hb hby d3_1) rfl ?_
    refine XS.iloadN X0.here hx rfl (hb hby d3_2) rfl ?_
    refine XS.imul X0.here hx rfl (hb hby d3_3) rfl ?_
    refine XS.iloadN X0.here hx rfl (hb hby d3_4) rfl ?_
    refine XS.iadd X0.here hx rfl (hb hby d3_5) rfl ?_
    refine XS.ixor X0.here hx rfl (hb hby d3_6) rfl ?_
    show Sp p e below s₁ (mkF m 7 #[.val (.int i), .val (.int x), .val (.int y)] [(.int (x ^^^ ((y * i) + i)))]) _
    exact retI X0 hx hret (hb hby d3_7) hlv
  · show Q_vv Z i x y h0 n0 _ s₁.heap _
    rw [e0]
    exact ⟨rfl, N0, rfl⟩
theorem d6_0 : decode method_4_code 0 = .ok (.iload_n 1, 1) := by decide +kernel
theorem d6_1 : decode method_4_code 1 = .ok (.aload_n 0, 1) := by decide +kernel
theorem d6_2 : decode method_4_code 2 = .ok (.arraylength, 1) := by decide +kernel
theorem d6_3 : decode method_4_code 3 = .ok (.if_icmp .lt 5, 3) := by decide +kernel
theorem d6_6 : decode method_4_code 6 = .ok (.iconst 1, 1) := by decide +kernel
theorem d6_7 : decode method_4_code 7 = .ok (.ireturn, 1) := by decide +kernel
theorem d6_8 : decode method_4_code 8 = .ok (.aload_n 0, 1) := by decide +kernel
theorem d6_9 : decode method_4_code 9 = .ok (.iload_n 1, 1) := by decide +kernel
theorem d6_10 : decode method_4_code 10 = .ok (.iaload, 1) := by decide +kernel
theorem d6_11 : decode method_4_code 11 = .ok (.iload_n 1, 1) := by decide +kernel
theorem d6_12 : decode method_4_code 12 = .ok (.iload_n 2, 1) := by decide +kernel
theorem d6_13 : decode method_4_code 13 = .ok (.if_icmp .ge 13, 3) := by decide +kernel
theorem d6_16 : decode method_4_code 16 = .ok (.iload_n 1, 1) := by decide +kernel
theorem d6_17 : decode method_4_code 17 = .ok (.iload_n 3, 1) := by decide +kernel
theorem d6_18 : decode method_4_code 18 = .ok (.iload 4, 2) := by decide +kernel
theorem d6_20 : decode method_4_code 20 = .ok (.invokestatic 31, 3) := by decide +kernel
theorem d6_23 : decode method_4_code 23 = .ok (.goto 4, 3) := by decide +kernel
theorem d6_26 : decode method_4_code 26 = .ok (.iconst 0, 1) := by decide +kernel
theorem d6_27 : decode method_4_code 27 = .ok (.if_icmp .ne 7, 3) := by decide +kernel
theorem d6_30 : decode method_4_code 30 = .ok (.iconst 1, 1) := by decide +kernel
theorem d6_31 : decode method_4_code 31 = .ok (.goto 4, 3) := by decide +kernel
theorem d6_35 : decode method_4_code 35 = .ok (.ireturn, 1) := by decide +kernel
theorem ef_6_RIIII (m : MethodId) (x0 : Addr) (x1 : Int32) (x2 : Int32) (x3 : Int32) (x4 : Int32) : entryFrame m #[(.ref x0), (.int x1), (.int x2), (.int x3), (.int x4)] 5 = mkF m 0 #[.val (.ref x0), .val (.int x1), .val (.int x2), .val (.int x3), .val (.int x4)] [] := by first | (simp [entryFrame, mkF, argsToLocals, Value.category]; done) | rfl
theorem pd__III_I : parseMethodDescriptor "(III)I" = some ⟨[.int, .int, .int], some .int⟩ := by decide +kernel
def Q_cell (Z : State) (a : Addr) (i : Int32) (ln : Int32) (x : Int32) (y : Int32) (k : ClassId) (z : Int32) (vs : List Value) (h0 : Heap) (n0 : Nat) (v : Option Value) (h : Heap) (L : List Loc) : Prop := v = some (.int (1 : Int32)) ∧ Fr n0 L ∧ h = h0
set_option maxRecDepth 65536 in
set_option maxHeartbeats 40000000 in
theorem rm_cell (l : Launch) (Z : State) (a0 : Array Value) (hw : ∀ d ∈ tables_1, d.before a0 Z = true) (ws : List Jvm.Cond) (a : Addr) (i : Int32) (ln : Int32) (x : Int32) (y : Int32) (k : ClassId) (z : Int32) (vs : List Value) (h0 : Heap) (n0 : Nat) (Z0 : n0 ≤ h0.size) (O0 : Old Z n0 h0) (f0 : Arv Z h0 a k .int z vs (.int (0 : Int32))) (hi0 : ¬ (i < 0)) (hel : List.getD vs (i).toNatClampNeg (Value.int (0 : Int32)) = Value.int (if i < ln then (x ^^^ ((y * i) + i)) else 0)) :
    MetFree l Y17 (head1 (Jvm.Cond.code Y17 method_4_code 5 (some .boolean) :: ws) ({ frames := 1, cells := 0, slots := 0, locals := 15 } : Room)) (fun A_ U => A_ = #[(.ref a), (.int i), (.int ln), (.int x), (.int y)] ∧ Z.Warmed39 U.vm ∧ U.heap = h0) (fun _ _ _ _ _ => True) (fun _ U o_ U' => ∃ v_ L_, o_ = .returned v_ ∧ Q_cell Z a i ln x y k z vs h0 n0 v_ U'.heap L_ ∧ FrameEnd U o_ U' L_ ({ frames := 1, cells := 0, slots := 0, locals := 15 } : Room).cells ({ frames := 1, cells := 0, slots := 0, locals := 15 } : Room).slots) := by
  refine MetFree.of_bodySF (plainFor_of_name pn_4) hisR ?_
  intro p e s m args below meth c s₁ Bd hml0 hP hK
  obtain ⟨rfl, hZ, hh⟩ := hP
  have hx := Bd.exec
  have hby := Bd.bytes
  have hml : c.maxLocals = 5 := hml0
  have hown : s.vm.findClass S2 = some m.cls := findClass_of_methodNamed Bd.named
  have hnm := (name_of_methodNamed Bd.named Bd.method).1
  have hret := Bd.returns
  have X0 : Stand p l e ({ frames := 1, cells := 0, slots := 0, locals := 15 } : Room) s m #[(.ref a), (.int i), (.int ln), (.int x), (.int y)] below meth c s₁ [] 0 0 := Stand.of_body Bd
  have e0 : s₁.heap = h0 := by rw [← hh, Bd.state]; rfl
  have N0 := Fr.nil n0
  have pre0 : ∀ t_, Sp p e below s₁ (mkF m 0 #[.val (.ref a), .val (.int i), .val (.int ln), .val (.int x), .val (.int y)] []) t_ → Sp p e below s₁ (entryFrame m #[(.ref a), (.int i), (.int ln), (.int x), (.int y)] 5) t_ := fun t_ k_ => castTop (ef_6_RIIII m a i ln x y) k_
  obtain ⟨clv1, Arv1, qv1, Sv1, Nv1, Hv1, Gv1⟩ := id f0
  have r2 : ∀ t_, Sp p e below s₁ (mkF m 3 #[.val (.ref a), .val (.int i), .val (.int ln), .val (.int x), .val (.int y)] [(.int z), (.int i)]) t_ → Sp p e below s₁ (entryFrame m #[(.ref a), (.int i), (.int ln), (.int x), (.int y)] 5) t_ := by
    intro t_ k_
    refine pre0 _ ?_
    refine XS.iloadN X0.here hx rfl (hb hby d6_0) rfl ?_
    refine XS.aloadN X0.here hx rfl (hb hby d6_1) rfl rfl ?_
    show Sp p e below s₁ (mkF m 2 #[.val (.ref a), .val (.int i), .val (.int ln), .val (.int x), .val (.int y)] [(.ref a), (.int i)]) _
    refine X0.arraylength hx (own_eq e0 Arv1.1) (State.isArrayOf_alike hZ.alike Arv1.2.1) (g := (mkF m 2 #[.val (.ref a), .val (.int i), .val (.int ln), .val (.int x), .val (.int y)] [(.ref a), (.int i)])) rfl rfl (hb hby d6_2) _ ?_
    rw [len_of Sv1 Nv1]
    show Sp p e below s₁ (mkF m 3 #[.val (.ref a), .val (.int i), .val (.int ln), .val (.int x), .val (.int y)] [(.int z), (.int i)]) _
    exact k_
  by_cases c3 : i < z
  · obtain ⟨ww, hww⟩ : ∃ z : Int32, z = if i < ln then (x ^^^ ((y * i) + i)) else 0 := ⟨_, rfl⟩
    have in4 : ¬ (i < 0 ∨ clv1.slots.size ≤ (i).toNatClampNeg) := inb_of Sv1 ⟨hi0, c3⟩
    have atin4 : clv1.slots[(i).toNatClampNeg]? = some (.int ww) := Has.at Hv1 in4 (hel.trans (by rw [hww]))
    have r5 : ∀ t_, Sp p e below s₁ (mkF m 13 #[.val (.ref a), .val (.int i), .val (.int ln), .val (.int x), .val (.int y)] [(.int ln), (.int i), (.int ww)]) t_ → Sp p e below s₁ (entryFrame m #[(.ref a), (.int i), (.int ln), (.int x), (.int y)] 5) t_ := by
      intro t_ k_
      refine r2 _ ?_
      refine XS.icmpYes X0.here hx rfl (pc0 := 3) (pc' := 8) rfl (hb hby d6_3) rfl (tlt c3).1 (by decide) (by decide) ?_
      refine XS.aloadN X0.here hx rfl (hb hby d6_8) rfl rfl ?_
      refine XS.iloadN X0.here hx rfl (hb hby d6_9) rfl ?_
      show Sp p e below s₁ (mkF m 10 #[.val (.ref a), .val (.int i), .val (.int ln), .val (.int x), .val (.int y)] [(.int i), (.ref a)]) _
      refine X0.iaload hx (j := i) (v := (.int ww)) (own_eq e0 Arv1.1) (State.isArrayOf_alike hZ.alike Arv1.2.1) Arv1.2.2 in4 atin4 (g := (mkF m 10 #[.val (.ref a), .val (.int i), .val (.int ln), .val (.int x), .val (.int y)] [(.int i), (.ref a)])) rfl rfl (hb hby d6_10) _ ?_
      show Sp p e below s₁ (mkF m 11 #[.val (.ref a), .val (.int i), .val (.int ln), .val (.int x), .val (.int y)] [(.int ww)]) _
      refine XS.iloadN X0.here hx rfl (hb hby d6_11) rfl ?_
      refine XS.iloadN X0.here hx rfl (hb hby d6_12) rfl ?_
      show Sp p e below s₁ (mkF m 13 #[.val (.ref a), .val (.int i), .val (.int ln), .val (.int x), .val (.int y)] [(.int ln), (.int i), (.int ww)]) _
      exact k_
    by_cases c6 : i < ln
    · obtain ⟨_, _, ⟨Tk7, Lk7, kk7, nk7⟩, -, Xk7, ⟨Lck7, hQk7, lk7, yk7, zk7⟩, stk7⟩ := Jvm.LawKit.callS X0 hx (y := Y16) hown (mvT hZ (tw hw 20 rfl)) (mvT hZ (tw hw 21 rfl)) (mvT hZ (tw hw 22 rfl)) (mvT hZ (tw hw 23 rfl)) (by decide) (backOf (W := 1) (rm_vv l Z a0 hw [] i x y  h0 n0 Z0 O0) hZ (tw hw 23 rfl) (tw hw 22 rfl) (by decide) (by decide)) (g := (mkF m 20 #[.val (.ref a), .val (.int i), .val (.int ln), .val (.int x), .val (.int y)] [(.int y), (.int x), (.int i), (.int ww)])) rfl (by rw [hml]; rfl) (argsL := [(.int i), (.int x), (.int y)]) (rest := [(.int ww)]) (lenOf pd__III_I rfl) rfl (by show 2 * 0 + _ ≤ _; exact Nat.le_of_eq rfl) (hb hby d6_20) (fun _ _ => ⟨rfl, e0, (by decide : 0 + 0 ≤ _), (by decide : 0 + 0 ≤ _)⟩)
      dsimp only [Pt.U, Pt.locs, Pt.cells, Pt.slots] at Xk7 lk7 yk7 zk7 stk7 hQk7
      subst lk7 yk7 zk7
      obtain ⟨rfl, Nk7q, ek7⟩ := hQk7
      have Nk7 := Fr.app N0 Nk7q
      obtain ⟨fs, hlv, hrun, hended, hW, hsame⟩ := Xk7.leave (v := some (.int (1 : Int32))) (fun h => by rw [hret] at h; cases h)
      refine ⟨_, _, r5 _ ?_, hrun, hended, _, _, rfl, ?_, ⟨_, rfl⟩, hW, hsame.mono (by decide) (by decide)⟩
      · refine XS.icmpNo X0.here hx rfl (hb hby d6_13) rfl (tlt c6).2.1 ?_
        show Sp p e below s₁ (mkF m 16 #[.val (.ref a), .val (.int i), .val (.int ln), .val (.int x), .val (.int y)] [(.int ww)]) _
        refine XS.iloadN X0.here hx rfl (hb hby d6_16) rfl ?_
        refine XS.iloadN X0.here hx rfl (hb hby d6_17) rfl ?_
        refine XS.iload X0.here hx rfl (hb hby d6_18) rfl ?_
        refine stk7 _ ?_
        refine XS.goto Xk7.here hx rfl (pc0 := 23) (pc' := 27) rfl (hb hby d6_23) (by decide) (by decide) ?_
        refine XS.icmpNo Xk7.here hx rfl (hb hby d6_27) rfl (teq (hww.trans (if_pos c6))).2 ?_
        refine XS.iconst Xk7.here hx rfl (hb hby d6_30) ?_
        refine XS.goto Xk7.here hx rfl (pc0 := 31) (pc' := 35) rfl (hb hby d6_31) (by decide) (by decide) ?_
        show Sp p e below Tk7 (mkF m 35 #[.val (.ref a), .val (.int i), .val (.int ln), .val (.int x), .val (.int y)] [(.int (1 : Int32))]) _
        exact retN Xk7 hx (t := .boolean) hret (by simp) (hb hby d6_35) hlv
      · show Q_cell Z a i ln x y k z vs h0 n0 _ Tk7.heap _
        rw [ek7]
        exact ⟨rfl, Nk7, rfl⟩
    · obtain ⟨fs, hlv, hrun, hended, hW, hsame⟩ := X0.leave (v := some (.int (1 : Int32))) (fun h => by rw [hret] at h; cases h)
      refine ⟨_, _, r5 _ ?_, hrun, hended, _, _, rfl, ?_, ⟨_, rfl⟩, hW, hsame.mono (by decide) (by decide)⟩
      · refine XS.icmpYes X0.here hx rfl (pc0 := 13) (pc' := 26) rfl (hb hby d6_13) rfl (flt c6).2.1 (by decide) (by decide) ?_
        show Sp p e below s₁ (mkF m 26 #[.val (.ref a), .val (.int i), .val (.int ln), .val (.int x), .val (.int y)] [(.int ww)]) _
        refine XS.iconst X0.here hx rfl (hb hby d6_26) ?_
        refine XS.icmpNo X0.here hx rfl (hb hby d6_27) rfl (teq (hww.trans (if_neg c6))).2 ?_
        refine XS.iconst X0.here hx rfl (hb hby d6_30) ?_
        refine XS.goto X0.here hx rfl (pc0 := 31) (pc' := 35) rfl (hb hby d6_31) (by decide) (by decide) ?_
        show Sp p e below s₁ (mkF m 35 #[.val (.ref a), .val (.int i), .val (.int ln), .val (.int x), .val (.int y)] [(.int (1 : Int32))]) _
        exact retN X0 hx (t := .boolean) hret (by simp) (hb hby d6_35) hlv
      · show Q_cell Z a i ln x y k z vs h0 n0 _ s₁.heap _
        rw [e0]
        exact ⟨rfl, N0, rfl⟩
  · obtain ⟨fs, hlv, hrun, hended, hW, hsame⟩ := X0.leave (v := some (.int (1 : Int32))) (fun h => by rw [hret] at h; cases h)
    refine ⟨_, _, r2 _ ?_, hrun, hended, _, _, rfl, ?_, ⟨_, rfl⟩, hW, hsame.mono (by decide) (by decide)⟩
    · refine XS.icmpNo X0.here hx rfl (hb hby d6_3) rfl (flt c3).1 ?_
      show Sp p e below s₁ (mkF m 6 #[.val (.ref a), .val (.int i), .val (.int ln), .val (.int x), .val (.int y)] []) _
      refine XS.iconst X0.here hx rfl (hb hby d6_6) ?_
      show Sp p e below s₁ (mkF m 7 #[.val (.ref a), .val (.int i), .val (.int ln), .val (.int x), .val (.int y)] [(.int (1 : Int32))]) _
      exact retN X0 hx (t := .boolean) hret (by simp) (hb hby d6_7) hlv
    · show Q_cell Z a i ln x y k z vs h0 n0 _ s₁.heap _
      rw [e0]
      exact ⟨rfl, N0, rfl⟩
theorem d5_0 : decode method_5_code 0 = .ok (.aload_n 0, 1) := by decide +kernel
theorem d5_1 : decode method_5_code 1 = .ok (.arraylength, 1) := by decide +kernel
theorem d5_2 : decode method_5_code 2 = .ok (.iload_n 1, 1) := by decide +kernel
theorem d5_3 : decode method_5_code 3 = .ok (.if_icmp .ne 97, 3) := by decide +kernel
theorem d5_6 : decode method_5_code 6 = .ok (.aload_n 0, 1) := by decide +kernel
theorem d5_7 : decode method_5_code 7 = .ok (.iconst 0, 1) := by decide +kernel
theorem d5_8 : decode method_5_code 8 = .ok (.iload_n 1, 1) := by decide +kernel
theorem d5_9 : decode method_5_code 9 = .ok (.iload_n 2, 1) := by decide +kernel
theorem d5_10 : decode method_5_code 10 = .ok (.iload_n 3, 1) := by decide +kernel
theorem d5_11 : decode method_5_code 11 = .ok (.invokestatic 45, 3) := by decide +kernel
theorem d5_14 : decode method_5_code 14 = .ok (.ifCond .eq 86, 3) := by decide +kernel
theorem d5_17 : decode method_5_code 17 = .ok (.aload_n 0, 1) := by decide +kernel
theorem d5_18 : decode method_5_code 18 = .ok (.iconst 1, 1) := by decide +kernel
theorem d5_19 : decode method_5_code 19 = .ok (.iload_n 1, 1) := by decide +kernel
theorem d5_20 : decode method_5_code 20 = .ok (.iload_n 2, 1) := by decide +kernel
theorem d5_21 : decode method_5_code 21 = .ok (.iload_n 3, 1) := by decide +kernel
theorem d5_22 : decode method_5_code 22 = .ok (.invokestatic 45, 3) := by decide +kernel
theorem d5_25 : decode method_5_code 25 = .ok (.ifCond .eq 75, 3) := by decide +kernel
theorem d5_28 : decode method_5_code 28 = .ok (.aload_n 0, 1) := by decide +kernel
theorem d5_29 : decode method_5_code 29 = .ok (.iconst 2, 1) := by decide +kernel
theorem d5_30 : decode method_5_code 30 = .ok (.iload_n 1, 1) := by decide +kernel
theorem d5_31 : decode method_5_code 31 = .ok (.iload_n 2, 1) := by decide +kernel
theorem d5_32 : decode method_5_code 32 = .ok (.iload_n 3, 1) := by decide +kernel
theorem d5_33 : decode method_5_code 33 = .ok (.invokestatic 45, 3) := by decide +kernel
theorem d5_36 : decode method_5_code 36 = .ok (.ifCond .eq 64, 3) := by decide +kernel
theorem d5_39 : decode method_5_code 39 = .ok (.aload_n 0, 1) := by decide +kernel
theorem d5_40 : decode method_5_code 40 = .ok (.iconst 3, 1) := by decide +kernel
theorem d5_41 : decode method_5_code 41 = .ok (.iload_n 1, 1) := by decide +kernel
theorem d5_42 : decode method_5_code 42 = .ok (.iload_n 2, 1) := by decide +kernel
theorem d5_43 : decode method_5_code 43 = .ok (.iload_n 3, 1) := by decide +kernel
theorem d5_44 : decode method_5_code 44 = .ok (.invokestatic 45, 3) := by decide +kernel
theorem d5_47 : decode method_5_code 47 = .ok (.ifCond .eq 53, 3) := by decide +kernel
theorem d5_50 : decode method_5_code 50 = .ok (.aload_n 0, 1) := by decide +kernel
theorem d5_51 : decode method_5_code 51 = .ok (.iconst 4, 1) := by decide +kernel
theorem d5_52 : decode method_5_code 52 = .ok (.iload_n 1, 1) := by decide +kernel
theorem d5_53 : decode method_5_code 53 = .ok (.iload_n 2, 1) := by decide +kernel
theorem d5_54 : decode method_5_code 54 = .ok (.iload_n 3, 1) := by decide +kernel
theorem d5_55 : decode method_5_code 55 = .ok (.invokestatic 45, 3) := by decide +kernel
theorem d5_58 : decode method_5_code 58 = .ok (.ifCond .eq 42, 3) := by decide +kernel
theorem d5_61 : decode method_5_code 61 = .ok (.aload_n 0, 1) := by decide +kernel
theorem d5_62 : decode method_5_code 62 = .ok (.iconst 5, 1) := by decide +kernel
theorem d5_63 : decode method_5_code 63 = .ok (.iload_n 1, 1) := by decide +kernel
theorem d5_64 : decode method_5_code 64 = .ok (.iload_n 2, 1) := by decide +kernel
theorem d5_65 : decode method_5_code 65 = .ok (.iload_n 3, 1) := by decide +kernel
theorem d5_66 : decode method_5_code 66 = .ok (.invokestatic 45, 3) := by decide +kernel
theorem d5_69 : decode method_5_code 69 = .ok (.ifCond .eq 31, 3) := by decide +kernel
theorem d5_72 : decode method_5_code 72 = .ok (.aload_n 0, 1) := by decide +kernel
theorem d5_73 : decode method_5_code 73 = .ok (.bipush 6, 2) := by decide +kernel
theorem d5_75 : decode method_5_code 75 = .ok (.iload_n 1, 1) := by decide +kernel
theorem d5_76 : decode method_5_code 76 = .ok (.iload_n 2, 1) := by decide +kernel
theorem d5_77 : decode method_5_code 77 = .ok (.iload_n 3, 1) := by decide +kernel
theorem d5_78 : decode method_5_code 78 = .ok (.invokestatic 45, 3) := by decide +kernel
theorem d5_81 : decode method_5_code 81 = .ok (.ifCond .eq 19, 3) := by decide +kernel
theorem d5_84 : decode method_5_code 84 = .ok (.aload_n 0, 1) := by decide +kernel
theorem d5_85 : decode method_5_code 85 = .ok (.bipush 7, 2) := by decide +kernel
theorem d5_87 : decode method_5_code 87 = .ok (.iload_n 1, 1) := by decide +kernel
theorem d5_88 : decode method_5_code 88 = .ok (.iload_n 2, 1) := by decide +kernel
theorem d5_89 : decode method_5_code 89 = .ok (.iload_n 3, 1) := by decide +kernel
theorem d5_90 : decode method_5_code 90 = .ok (.invokestatic 45, 3) := by decide +kernel
theorem d5_93 : decode method_5_code 93 = .ok (.ifCond .eq 7, 3) := by decide +kernel
theorem d5_96 : decode method_5_code 96 = .ok (.iconst 1, 1) := by decide +kernel
theorem d5_97 : decode method_5_code 97 = .ok (.goto 4, 3) := by decide +kernel
theorem d5_101 : decode method_5_code 101 = .ok (.ireturn, 1) := by decide +kernel
theorem ef_5_RIII (m : MethodId) (x0 : Addr) (x1 : Int32) (x2 : Int32) (x3 : Int32) : entryFrame m #[(.ref x0), (.int x1), (.int x2), (.int x3)] 4 = mkF m 0 #[.val (.ref x0), .val (.int x1), .val (.int x2), .val (.int x3)] [] := by first | (simp [entryFrame, mkF, argsToLocals, Value.category]; done) | rfl
theorem pd___IIIII_Z : parseMethodDescriptor "([IIIII)Z" = some ⟨[(.array .int), .int, .int, .int, .int], some .boolean⟩ := by decide +kernel
def Q_same (Z : State) (a : Addr) (ln : Int32) (x : Int32) (y : Int32) (k : ClassId) (vs : List Value) (h0 : Heap) (n0 : Nat) (v : Option Value) (h : Heap) (L : List Loc) : Prop := v = some (.int (1 : Int32)) ∧ Fr n0 L ∧ h = h0
set_option maxRecDepth 65536 in
set_option maxHeartbeats 40000000 in
theorem rm_same (l : Launch) (Z : State) (a0 : Array Value) (hw : ∀ d ∈ tables_1, d.before a0 Z = true) (ws : List Jvm.Cond) (a : Addr) (ln : Int32) (x : Int32) (y : Int32) (k : ClassId) (vs : List Value) (h0 : Heap) (n0 : Nat) (Z0 : n0 ≤ h0.size) (O0 : Old Z n0 h0) (f0 : Arv Z h0 a k .int ln vs (.int (0 : Int32))) (hv0 : List.getD vs ((0 : Int32)).toNatClampNeg (Value.int (0 : Int32)) = Value.int (if (0 : Int32) < ln then (x ^^^ ((y * (0 : Int32)) + (0 : Int32))) else 0)) (hv1 : List.getD vs ((1 : Int32)).toNatClampNeg (Value.int (0 : Int32)) = Value.int (if (1 : Int32) < ln then (x ^^^ ((y * (1 : Int32)) + (1 : Int32))) else 0)) (hv2 : List.getD vs ((2 : Int32)).toNatClampNeg (Value.int (0 : Int32)) = Value.int (if (2 : Int32) < ln then (x ^^^ ((y * (2 : Int32)) + (2 : Int32))) else 0)) (hv3 : List.getD vs ((3 : Int32)).toNatClampNeg (Value.int (0 : Int32)) = Value.int (if (3 : Int32) < ln then (x ^^^ ((y * (3 : Int32)) + (3 : Int32))) else 0)) (hv4 : List.getD vs ((4 : Int32)).toNatClampNeg (Value.int (0 : Int32)) = Value.int (if (4 : Int32) < ln then (x ^^^ ((y * (4 : Int32)) + (4 : Int32))) else 0)) (hv5 : List.getD vs ((5 : Int32)).toNatClampNeg (Value.int (0 : Int32)) = Value.int (if (5 : Int32) < ln then (x ^^^ ((y * (5 : Int32)) + (5 : Int32))) else 0)) (hv6 : List.getD vs ((6 : Int32)).toNatClampNeg (Value.int (0 : Int32)) = Value.int (if (6 : Int32) < ln then (x ^^^ ((y * (6 : Int32)) + (6 : Int32))) else 0)) (hv7 : List.getD vs ((7 : Int32)).toNatClampNeg (Value.int (0 : Int32)) = Value.int (if (7 : Int32) < ln then (x ^^^ ((y * (7 : Int32)) + (7 : Int32))) else 0)) :
    MetFree l Y18 (head1 (Jvm.Cond.code Y18 method_5_code 4 (some .boolean) :: ws) ({ frames := 2, cells := 0, slots := 0, locals := 31 } : Room)) (fun A_ U => A_ = #[(.ref a), (.int ln), (.int x), (.int y)] ∧ Z.Warmed39 U.vm ∧ U.heap = h0) (fun _ _ _ _ _ => True) (fun _ U o_ U' => ∃ v_ L_, o_ = .returned v_ ∧ Q_same Z a ln x y k vs h0 n0 v_ U'.heap L_ ∧ FrameEnd U o_ U' L_ ({ frames := 2, cells := 0, slots := 0, locals := 31 } : Room).cells ({ frames := 2, cells := 0, slots := 0, locals := 31 } : Room).slots) := by
  refine MetFree.of_bodySF (plainFor_of_name pn_4) hisR ?_
  intro p e s m args below meth c s₁ Bd hml0 hP hK
  obtain ⟨rfl, hZ, hh⟩ := hP
  have hx := Bd.exec
  have hby := Bd.bytes
  have hml : c.maxLocals = 4 := hml0
  have hown : s.vm.findClass S2 = some m.cls := findClass_of_methodNamed Bd.named
  have hnm := (name_of_methodNamed Bd.named Bd.method).1
  have hret := Bd.returns
  have X0 : Stand p l e ({ frames := 2, cells := 0, slots := 0, locals := 31 } : Room) s m #[(.ref a), (.int ln), (.int x), (.int y)] below meth c s₁ [] 0 0 := Stand.of_body Bd
  have e0 : s₁.heap = h0 := by rw [← hh, Bd.state]; rfl
  have N0 := Fr.nil n0
  have pre0 : ∀ t_, Sp p e below s₁ (mkF m 0 #[.val (.ref a), .val (.int ln), .val (.int x), .val (.int y)] []) t_ → Sp p e below s₁ (entryFrame m #[(.ref a), (.int ln), (.int x), (.int y)] 4) t_ := fun t_ k_ => castTop (ef_5_RIII m a ln x y) k_
  obtain ⟨clv1, Arv1, qv1, Sv1, Nv1, Hv1, Gv1⟩ := id f0
  obtain ⟨_, _, ⟨Tk2, Lk2, kk2, nk2⟩, -, Xk2, ⟨Lck2, hQk2, lk2, yk2, zk2⟩, stk2⟩ := Jvm.LawKit.callS X0 hx (y := Y17) hown (mvT hZ (tw hw 34 rfl)) (mvT hZ (tw hw 35 rfl)) (mvT hZ (tw hw 22 rfl)) (mvT hZ (tw hw 36 rfl)) (by decide) (backOf (W := 0) (rm_cell l Z a0 hw [] a (0 : Int32) ln x y k ln vs  h0 n0 Z0 O0 f0 (by decide) hv0) hZ (tw hw 36 rfl) (tw hw 22 rfl) (by decide) (by decide)) (g := (mkF m 11 #[.val (.ref a), .val (.int ln), .val (.int x), .val (.int y)] [(.int y), (.int x), (.int ln), (.int (0 : Int32)), (.ref a)])) rfl (by rw [hml]; rfl) (argsL := [(.ref a), (.int (0 : Int32)), (.int ln), (.int x), (.int y)]) (rest := []) (lenOf pd___IIIII_Z rfl) rfl (by show 2 * 0 + _ ≤ _; exact Nat.le_of_eq rfl) (hb hby d5_11) (fun _ _ => ⟨rfl, e0, (by decide : 0 + 0 ≤ _), (by decide : 0 + 0 ≤ _)⟩)
  dsimp only [Pt.U, Pt.locs, Pt.cells, Pt.slots] at Xk2 lk2 yk2 zk2 stk2 hQk2
  subst lk2 yk2 zk2
  obtain ⟨rfl, Nk2q, ek2⟩ := hQk2
  have Nk2 := Fr.app N0 Nk2q
  obtain ⟨_, _, ⟨Tk3, Lk3, kk3, nk3⟩, -, Xk3, ⟨Lck3, hQk3, lk3, yk3, zk3⟩, stk3⟩ := Jvm.LawKit.callS Xk2 hx (y := Y17) hown (mvT hZ (tw hw 34 rfl)) (mvT hZ (tw hw 35 rfl)) (mvT hZ (tw hw 22 rfl)) (mvT hZ (tw hw 36 rfl)) (by decide) (backOf (W := 0) (rm_cell l Z a0 hw [] a (1 : Int32) ln x y k ln vs  h0 n0 Z0 O0 f0 (by decide) hv1) hZ (tw hw 36 rfl) (tw hw 22 rfl) (by decide) (by decide)) (g := (mkF m 22 #[.val (.ref a), .val (.int ln), .val (.int x), .val (.int y)] [(.int y), (.int x), (.int ln), (.int (1 : Int32)), (.ref a)])) rfl (by rw [hml]; rfl) (argsL := [(.ref a), (.int (1 : Int32)), (.int ln), (.int x), (.int y)]) (rest := []) (lenOf pd___IIIII_Z rfl) rfl (by show 2 * 0 + _ ≤ _; exact Nat.le_of_eq rfl) (hb hby d5_22) (fun _ _ => ⟨rfl, ek2, (by decide : 0 + 0 ≤ _), (by decide : 0 + 0 ≤ _)⟩)
  dsimp only [Pt.U, Pt.locs, Pt.cells, Pt.slots] at Xk3 lk3 yk3 zk3 stk3 hQk3
  subst lk3 yk3 zk3
  obtain ⟨rfl, Nk3q, ek3⟩ := hQk3
  have Nk3 := Fr.app Nk2 Nk3q
  obtain ⟨_, _, ⟨Tk4, Lk4, kk4, nk4⟩, -, Xk4, ⟨Lck4, hQk4, lk4, yk4, zk4⟩, stk4⟩ := Jvm.LawKit.callS Xk3 hx (y := Y17) hown (mvT hZ (tw hw 34 rfl)) (mvT hZ (tw hw 35 rfl)) (mvT hZ (tw hw 22 rfl)) (mvT hZ (tw hw 36 rfl)) (by decide) (backOf (W := 0) (rm_cell l Z a0 hw [] a (2 : Int32) ln x y k ln vs  h0 n0 Z0 O0 f0 (by decide) hv2) hZ (tw hw 36 rfl) (tw hw 22 rfl) (by decide) (by decide)) (g := (mkF m 33 #[.val (.ref a), .val (.int ln), .val (.int x), .val (.int y)] [(.int y), (.int x), (.int ln), (.int (2 : Int32)), (.ref a)])) rfl (by rw [hml]; rfl) (argsL := [(.ref a), (.int (2 : Int32)), (.int ln), (.int x), (.int y)]) (rest := []) (lenOf pd___IIIII_Z rfl) rfl (by show 2 * 0 + _ ≤ _; exact Nat.le_of_eq rfl) (hb hby d5_33) (fun _ _ => ⟨rfl, ek3, (by decide : 0 + 0 ≤ _), (by decide : 0 + 0 ≤ _)⟩)
  dsimp only [Pt.U, Pt.locs, Pt.cells, Pt.slots] at Xk4 lk4 yk4 zk4 stk4 hQk4
  subst lk4 yk4 zk4
  obtain ⟨rfl, Nk4q, ek4⟩ := hQk4
  have Nk4 := Fr.app Nk3 Nk4q
  obtain ⟨_, _, ⟨Tk5, Lk5, kk5, nk5⟩, -, Xk5, ⟨Lck5, hQk5, lk5, yk5, zk5⟩, stk5⟩ := Jvm.LawKit.callS Xk4 hx (y := Y17) hown (mvT hZ (tw hw 34 rfl)) (mvT hZ (tw hw 35 rfl)) (mvT hZ (tw hw 22 rfl)) (mvT hZ (tw hw 36 rfl)) (by decide) (backOf (W := 0) (rm_cell l Z a0 hw [] a (3 : Int32) ln x y k ln vs  h0 n0 Z0 O0 f0 (by decide) hv3) hZ (tw hw 36 rfl) (tw hw 22 rfl) (by decide) (by decide)) (g := (mkF m 44 #[.val (.ref a), .val (.int ln), .val (.int x), .val (.int y)] [(.int y), (.int x), (.int ln), (.int (3 : Int32)), (.ref a)])) rfl (by rw [hml]; rfl) (argsL := [(.ref a), (.int (3 : Int32)), (.int ln), (.int x), (.int y)]) (rest := []) (lenOf pd___IIIII_Z rfl) rfl (by show 2 * 0 + _ ≤ _; exact Nat.le_of_eq rfl) (hb hby d5_44) (fun _ _ => ⟨rfl, ek4, (by decide : 0 + 0 ≤ _), (by decide : 0 + 0 ≤ _)⟩)
  dsimp only [Pt.U, Pt.locs, Pt.cells, Pt.slots] at Xk5 lk5 yk5 zk5 stk5 hQk5
  subst lk5 yk5 zk5
  obtain ⟨rfl, Nk5q, ek5⟩ := hQk5
  have Nk5 := Fr.app Nk4 Nk5q
  obtain ⟨_, _, ⟨Tk6, Lk6, kk6, nk6⟩, -, Xk6, ⟨Lck6, hQk6, lk6, yk6, zk6⟩, stk6⟩ := Jvm.LawKit.callS Xk5 hx (y := Y17) hown (mvT hZ (tw hw 34 rfl)) (mvT hZ (tw hw 35 rfl)) (mvT hZ (tw hw 22 rfl)) (mvT hZ (tw hw 36 rfl)) (by decide) (backOf (W := 0) (rm_cell l Z a0 hw [] a (4 : Int32) ln x y k ln vs  h0 n0 Z0 O0 f0 (by decide) hv4) hZ (tw hw 36 rfl) (tw hw 22 rfl) (by decide) (by decide)) (g := (mkF m 55 #[.val (.ref a), .val (.int ln), .val (.int x), .val (.int y)] [(.int y), (.int x), (.int ln), (.int (4 : Int32)), (.ref a)])) rfl (by rw [hml]; rfl) (argsL := [(.ref a), (.int (4 : Int32)), (.int ln), (.int x), (.int y)]) (rest := []) (lenOf pd___IIIII_Z rfl) rfl (by show 2 * 0 + _ ≤ _; exact Nat.le_of_eq rfl) (hb hby d5_55) (fun _ _ => ⟨rfl, ek5, (by decide : 0 + 0 ≤ _), (by decide : 0 + 0 ≤ _)⟩)
  dsimp only [Pt.U, Pt.locs, Pt.cells, Pt.slots] at Xk6 lk6 yk6 zk6 stk6 hQk6
  subst lk6 yk6 zk6
  obtain ⟨rfl, Nk6q, ek6⟩ := hQk6
  have Nk6 := Fr.app Nk5 Nk6q
  obtain ⟨_, _, ⟨Tk7, Lk7, kk7, nk7⟩, -, Xk7, ⟨Lck7, hQk7, lk7, yk7, zk7⟩, stk7⟩ := Jvm.LawKit.callS Xk6 hx (y := Y17) hown (mvT hZ (tw hw 34 rfl)) (mvT hZ (tw hw 35 rfl)) (mvT hZ (tw hw 22 rfl)) (mvT hZ (tw hw 36 rfl)) (by decide) (backOf (W := 0) (rm_cell l Z a0 hw [] a (5 : Int32) ln x y k ln vs  h0 n0 Z0 O0 f0 (by decide) hv5) hZ (tw hw 36 rfl) (tw hw 22 rfl) (by decide) (by decide)) (g := (mkF m 66 #[.val (.ref a), .val (.int ln), .val (.int x), .val (.int y)] [(.int y), (.int x), (.int ln), (.int (5 : Int32)), (.ref a)])) rfl (by rw [hml]; rfl) (argsL := [(.ref a), (.int (5 : Int32)), (.int ln), (.int x), (.int y)]) (rest := []) (lenOf pd___IIIII_Z rfl) rfl (by show 2 * 0 + _ ≤ _; exact Nat.le_of_eq rfl) (hb hby d5_66) (fun _ _ => ⟨rfl, ek6, (by decide : 0 + 0 ≤ _), (by decide : 0 + 0 ≤ _)⟩)
  dsimp only [Pt.U, Pt.locs, Pt.cells, Pt.slots] at Xk7 lk7 yk7 zk7 stk7 hQk7
  subst lk7 yk7 zk7
  obtain ⟨rfl, Nk7q, ek7⟩ := hQk7
  have Nk7 := Fr.app Nk6 Nk7q
  obtain ⟨_, _, ⟨Tk8, Lk8, kk8, nk8⟩, -, Xk8, ⟨Lck8, hQk8, lk8, yk8, zk8⟩, stk8⟩ := Jvm.LawKit.callS Xk7 hx (y := Y17) hown (mvT hZ (tw hw 34 rfl)) (mvT hZ (tw hw 35 rfl)) (mvT hZ (tw hw 22 rfl)) (mvT hZ (tw hw 36 rfl)) (by decide) (backOf (W := 0) (rm_cell l Z a0 hw [] a (6 : Int32) ln x y k ln vs  h0 n0 Z0 O0 f0 (by decide) hv6) hZ (tw hw 36 rfl) (tw hw 22 rfl) (by decide) (by decide)) (g := (mkF m 78 #[.val (.ref a), .val (.int ln), .val (.int x), .val (.int y)] [(.int y), (.int x), (.int ln), (.int (6 : Int32)), (.ref a)])) rfl (by rw [hml]; rfl) (argsL := [(.ref a), (.int (6 : Int32)), (.int ln), (.int x), (.int y)]) (rest := []) (lenOf pd___IIIII_Z rfl) rfl (by show 2 * 0 + _ ≤ _; exact Nat.le_of_eq rfl) (hb hby d5_78) (fun _ _ => ⟨rfl, ek7, (by decide : 0 + 0 ≤ _), (by decide : 0 + 0 ≤ _)⟩)
  dsimp only [Pt.U, Pt.locs, Pt.cells, Pt.slots] at Xk8 lk8 yk8 zk8 stk8 hQk8
  subst lk8 yk8 zk8
  obtain ⟨rfl, Nk8q, ek8⟩ := hQk8
  have Nk8 := Fr.app Nk7 Nk8q
  obtain ⟨_, _, ⟨Tk9, Lk9, kk9, nk9⟩, -, Xk9, ⟨Lck9, hQk9, lk9, yk9, zk9⟩, stk9⟩ := Jvm.LawKit.callS Xk8 hx (y := Y17) hown (mvT hZ (tw hw 34 rfl)) (mvT hZ (tw hw 35 rfl)) (mvT hZ (tw hw 22 rfl)) (mvT hZ (tw hw 36 rfl)) (by decide) (backOf (W := 0) (rm_cell l Z a0 hw [] a (7 : Int32) ln x y k ln vs  h0 n0 Z0 O0 f0 (by decide) hv7) hZ (tw hw 36 rfl) (tw hw 22 rfl) (by decide) (by decide)) (g := (mkF m 90 #[.val (.ref a), .val (.int ln), .val (.int x), .val (.int y)] [(.int y), (.int x), (.int ln), (.int (7 : Int32)), (.ref a)])) rfl (by rw [hml]; rfl) (argsL := [(.ref a), (.int (7 : Int32)), (.int ln), (.int x), (.int y)]) (rest := []) (lenOf pd___IIIII_Z rfl) rfl (by show 2 * 0 + _ ≤ _; exact Nat.le_of_eq rfl) (hb hby d5_90) (fun _ _ => ⟨rfl, ek8, (by decide : 0 + 0 ≤ _), (by decide : 0 + 0 ≤ _)⟩)
  dsimp only [Pt.U, Pt.locs, Pt.cells, Pt.slots] at Xk9 lk9 yk9 zk9 stk9 hQk9
  subst lk9 yk9 zk9
  obtain ⟨rfl, Nk9q, ek9⟩ := hQk9
  have Nk9 := Fr.app Nk8 Nk9q
  obtain ⟨fs, hlv, hrun, hended, hW, hsame⟩ := Xk9.leave (v := some (.int (1 : Int32))) (fun h => by rw [hret] at h; cases h)
  refine ⟨_, _, pre0 _ ?_, hrun, hended, _, _, rfl, ?_, ⟨_, rfl⟩, hW, hsame.mono (by decide) (by decide)⟩
  · refine XS.aloadN X0.here hx rfl (hb hby d5_0) rfl rfl ?_
    show Sp p e below s₁ (mkF m 1 #[.val (.ref a), .val (.int ln), .val (.int x), .val (.int y)] [(.ref a)]) _
    refine X0.arraylength hx (own_eq e0 Arv1.1) (State.isArrayOf_alike hZ.alike Arv1.2.1) (g := (mkF m 1 #[.val (.ref a), .val (.int ln), .val (.int x), .val (.int y)] [(.ref a)])) rfl rfl (hb hby d5_1) _ ?_
    rw [len_of Sv1 Nv1]
    show Sp p e below s₁ (mkF m 2 #[.val (.ref a), .val (.int ln), .val (.int x), .val (.int y)] [(.int ln)]) _
    refine XS.iloadN X0.here hx rfl (hb hby d5_2) rfl ?_
    refine XS.icmpNo X0.here hx rfl (hb hby d5_3) rfl (teq (rfl : ln = ln)).2 ?_
    refine XS.aloadN X0.here hx rfl (hb hby d5_6) rfl rfl ?_
    refine XS.iconst X0.here hx rfl (hb hby d5_7) ?_
    refine XS.iloadN X0.here hx rfl (hb hby d5_8) rfl ?_
    refine XS.iloadN X0.here hx rfl (hb hby d5_9) rfl ?_
    refine XS.iloadN X0.here hx rfl (hb hby d5_10) rfl ?_
    refine stk2 _ ?_
    refine XS.ifNo Xk2.here hx rfl (hb hby d5_14) rfl ((if0 _ _).trans (feq (by decide : ¬ ((1 : Int32) = (0 : Int32)))).1) ?_
    refine XS.aloadN Xk2.here hx rfl (hb hby d5_17) rfl rfl ?_
    refine XS.iconst Xk2.here hx rfl (hb hby d5_18) ?_
    refine XS.iloadN Xk2.here hx rfl (hb hby d5_19) rfl ?_
    refine XS.iloadN Xk2.here hx rfl (hb hby d5_20) rfl ?_
    refine XS.iloadN Xk2.here hx rfl (hb hby d5_21) rfl ?_
    refine stk3 _ ?_
    refine XS.ifNo Xk3.here hx rfl (hb hby d5_25) rfl ((if0 _ _).trans (feq (by decide : ¬ ((1 : Int32) = (0 : Int32)))).1) ?_
    refine XS.aloadN Xk3.here hx rfl (hb hby d5_28) rfl rfl ?_
    refine XS.iconst Xk3.here hx rfl (hb hby d5_29) ?_
    refine XS.iloadN Xk3.here hx rfl (hb hby d5_30) rfl ?_
    refine XS.iloadN Xk3.here hx rfl (hb hby d5_31) rfl ?_
    refine XS.iloadN Xk3.here hx rfl (hb hby d5_32) rfl ?_
    show Sp p e below Tk3 (mkF m 33 #[.val (.ref a), .val (.int ln), .val (.int x), .val (.int y)] [(.int y), (.int x), (.int ln), (.int (2 : Int32)), (.ref a)]) _
    refine stk4 _ ?_
    refine XS.ifNo Xk4.here hx rfl (hb hby d5_36) rfl ((if0 _ _).trans (feq (by decide : ¬ ((1 : Int32) = (0 : Int32)))).1) ?_
    refine XS.aloadN Xk4.here hx rfl (hb hby d5_39) rfl rfl ?_
    refine XS.iconst Xk4.here hx rfl (hb hby d5_40) ?_
    refine XS.iloadN Xk4.here hx rfl (hb hby d5_41) rfl ?_
    refine XS.iloadN Xk4.here hx rfl (hb hby d5_42) rfl ?_
    refine XS.iloadN Xk4.here hx rfl (hb hby d5_43) rfl ?_
    refine stk5 _ ?_
    refine XS.ifNo Xk5.here hx rfl (hb hby d5_47) rfl ((if0 _ _).trans (feq (by decide : ¬ ((1 : Int32) = (0 : Int32)))).1) ?_
    refine XS.aloadN Xk5.here hx rfl (hb hby d5_50) rfl rfl ?_
    refine XS.iconst Xk5.here hx rfl (hb hby d5_51) ?_
    refine XS.iloadN Xk5.here hx rfl (hb hby d5_52) rfl ?_
    refine XS.iloadN Xk5.here hx rfl (hb hby d5_53) rfl ?_
    refine XS.iloadN Xk5.here hx rfl (hb hby d5_54) rfl ?_
    refine stk6 _ ?_
    refine XS.ifNo Xk6.here hx rfl (hb hby d5_58) rfl ((if0 _ _).trans (feq (by decide : ¬ ((1 : Int32) = (0 : Int32)))).1) ?_
    refine XS.aloadN Xk6.here hx rfl (hb hby d5_61) rfl rfl ?_
    refine XS.iconst Xk6.here hx rfl (hb hby d5_62) ?_
    refine XS.iloadN Xk6.here hx rfl (hb hby d5_63) rfl ?_
    refine XS.iloadN Xk6.here hx rfl (hb hby d5_64) rfl ?_
    refine XS.iloadN Xk6.here hx rfl (hb hby d5_65) rfl ?_
    show Sp p e below Tk6 (mkF m 66 #[.val (.ref a), .val (.int ln), .val (.int x), .val (.int y)] [(.int y), (.int x), (.int ln), (.int (5 : Int32)), (.ref a)]) _
    refine stk7 _ ?_
    refine XS.ifNo Xk7.here hx rfl (hb hby d5_69) rfl ((if0 _ _).trans (feq (by decide : ¬ ((1 : Int32) = (0 : Int32)))).1) ?_
    refine XS.aloadN Xk7.here hx rfl (hb hby d5_72) rfl rfl ?_
    refine XS.bipush Xk7.here hx rfl (hb hby d5_73) ?_
    refine XS.iloadN Xk7.here hx rfl (hb hby d5_75) rfl ?_
    refine XS.iloadN Xk7.here hx rfl (hb hby d5_76) rfl ?_
    refine XS.iloadN Xk7.here hx rfl (hb hby d5_77) rfl ?_
    refine stk8 _ ?_
    refine XS.ifNo Xk8.here hx rfl (hb hby d5_81) rfl ((if0 _ _).trans (feq (by decide : ¬ ((1 : Int32) = (0 : Int32)))).1) ?_
    refine XS.aloadN Xk8.here hx rfl (hb hby d5_84) rfl rfl ?_
    refine XS.bipush Xk8.here hx rfl (hb hby d5_85) ?_
    refine XS.iloadN Xk8.here hx rfl (hb hby d5_87) rfl ?_
    refine XS.iloadN Xk8.here hx rfl (hb hby d5_88) rfl ?_
    refine XS.iloadN Xk8.here hx rfl (hb hby d5_89) rfl ?_
    refine stk9 _ ?_
    refine XS.ifNo Xk9.here hx rfl (hb hby d5_93) rfl ((if0 _ _).trans (feq (by decide : ¬ ((1 : Int32) = (0 : Int32)))).1) ?_
    refine XS.iconst Xk9.here hx rfl (hb hby d5_96) ?_
    refine XS.goto Xk9.here hx rfl (pc0 := 97) (pc' := 101) rfl (hb hby d5_97) (by decide) (by decide) ?_
    show Sp p e below Tk9 (mkF m 101 #[.val (.ref a), .val (.int ln), .val (.int x), .val (.int y)] [(.int (1 : Int32))]) _
    exact retN Xk9 hx (t := .boolean) hret (by simp) (hb hby d5_101) hlv
  · show Q_same Z a ln x y k vs h0 n0 _ Tk9.heap _
    rw [ek9]
    exact ⟨rfl, Nk9, rfl⟩
theorem own_cases9 (p : Int32) : ((p &&& (2147483647 : Int32)) % (9 : Int32)) = (0 : Int32) ∨ ((p &&& (2147483647 : Int32)) % (9 : Int32)) = (1 : Int32) ∨ ((p &&& (2147483647 : Int32)) % (9 : Int32)) = (2 : Int32) ∨ ((p &&& (2147483647 : Int32)) % (9 : Int32)) = (3 : Int32) ∨ ((p &&& (2147483647 : Int32)) % (9 : Int32)) = (4 : Int32) ∨ ((p &&& (2147483647 : Int32)) % (9 : Int32)) = (5 : Int32) ∨ ((p &&& (2147483647 : Int32)) % (9 : Int32)) = (6 : Int32) ∨ ((p &&& (2147483647 : Int32)) % (9 : Int32)) = (7 : Int32) ∨ ((p &&& (2147483647 : Int32)) % (9 : Int32)) = (8 : Int32) := by
  have h1 := c_and p (2147483647 : Int32) (by decide)
  have h2 := (c_irem (p &&& (2147483647 : Int32)) (9 : Int32) 9 (by decide)).1 h1.1
  generalize ((p &&& (2147483647 : Int32)) % (9 : Int32)) = z at h2 ⊢
  have h3 : z.toInt = 0 ∨ z.toInt = 1 ∨ z.toInt = 2 ∨ z.toInt = 3 ∨ z.toInt = 4 ∨ z.toInt = 5 ∨ z.toInt = 6 ∨ z.toInt = 7 ∨ z.toInt = 8 := by omega
  rcases h3 with h | h | h | h | h | h | h | h | h
  · exact Or.inl (Int32.toInt_inj.mp (h.trans (by decide)))
  · exact Or.inr (Or.inl (Int32.toInt_inj.mp (h.trans (by decide))))
  · exact Or.inr (Or.inr (Or.inl (Int32.toInt_inj.mp (h.trans (by decide)))))
  · exact Or.inr (Or.inr (Or.inr (Or.inl (Int32.toInt_inj.mp (h.trans (by decide))))))
  · exact Or.inr (Or.inr (Or.inr (Or.inr (Or.inl (Int32.toInt_inj.mp (h.trans (by decide)))))))
  · exact Or.inr (Or.inr (Or.inr (Or.inr (Or.inr (Or.inl (Int32.toInt_inj.mp (h.trans (by decide))))))))
  · exact Or.inr (Or.inr (Or.inr (Or.inr (Or.inr (Or.inr (Or.inl (Int32.toInt_inj.mp (h.trans (by decide)))))))))
  · exact Or.inr (Or.inr (Or.inr (Or.inr (Or.inr (Or.inr (Or.inr (Or.inl (Int32.toInt_inj.mp (h.trans (by decide))))))))))
  · exact Or.inr (Or.inr (Or.inr (Or.inr (Or.inr (Or.inr (Or.inr (Or.inr ((Int32.toInt_inj.mp (h.trans (by decide)))))))))))
theorem own_08 {z : Int32} (h : ¬ (z < 0) ∧ ¬ ((8 : Int32) < z)) : z = 0 ∨ z = 1 ∨ z = 2 ∨ z = 3 ∨ z = 4 ∨ z = 5 ∨ z = 6 ∨ z = 7 ∨ z = 8 := by
  obtain ⟨h1, h2⟩ := h
  rw [Int32.lt_iff_toInt_lt] at h1 h2
  have e0 : (0 : Int32).toInt = 0 := by decide
  have e8 : (8 : Int32).toInt = 8 := by decide
  have h3 : z.toInt = 0 ∨ z.toInt = 1 ∨ z.toInt = 2 ∨ z.toInt = 3 ∨ z.toInt = 4 ∨ z.toInt = 5 ∨ z.toInt = 6 ∨ z.toInt = 7 ∨ z.toInt = 8 := by omega
  rcases h3 with h | h | h | h | h | h | h | h | h
  · exact Or.inl (Int32.toInt_inj.mp (h.trans (by decide)))
  · exact Or.inr (Or.inl (Int32.toInt_inj.mp (h.trans (by decide))))
  · exact Or.inr (Or.inr (Or.inl (Int32.toInt_inj.mp (h.trans (by decide)))))
  · exact Or.inr (Or.inr (Or.inr (Or.inl (Int32.toInt_inj.mp (h.trans (by decide))))))
  · exact Or.inr (Or.inr (Or.inr (Or.inr (Or.inl (Int32.toInt_inj.mp (h.trans (by decide)))))))
  · exact Or.inr (Or.inr (Or.inr (Or.inr (Or.inr (Or.inl (Int32.toInt_inj.mp (h.trans (by decide))))))))
  · exact Or.inr (Or.inr (Or.inr (Or.inr (Or.inr (Or.inr (Or.inl (Int32.toInt_inj.mp (h.trans (by decide)))))))))
  · exact Or.inr (Or.inr (Or.inr (Or.inr (Or.inr (Or.inr (Or.inr (Or.inl (Int32.toInt_inj.mp (h.trans (by decide))))))))))
  · exact Or.inr (Or.inr (Or.inr (Or.inr (Or.inr (Or.inr (Or.inr (Or.inr (Int32.toInt_inj.mp (h.trans (by decide))))))))))
theorem own_grow {kk ln r : Int32} (hk : ¬ (kk < 0) ∧ ¬ ((8 : Int32) < kk)) (hl : ¬ (ln < 0) ∧ ¬ ((8 : Int32) < ln)) (h : ln < kk) (hr : r = if kk < (ln + (ln >>> ((1 : Int32) &&& 31))) then (ln + (ln >>> ((1 : Int32) &&& 31))) else kk) : ¬ (r = ln) ∧ ln < r ∧ ¬ (r < ln) ∧ ¬ (r < 0) ∧ r.toNatClampNeg ≤ 12 ∧ (¬ ((ln + (ln / (2 : Int32))) < kk) → r = (ln + (ln / (2 : Int32)))) ∧ ((ln + (ln / (2 : Int32))) < kk → r = kk) := by
  subst hr
  rcases own_08 hl with rfl | rfl | rfl | rfl | rfl | rfl | rfl | rfl | rfl <;> rcases own_08 hk with rfl | rfl | rfl | rfl | rfl | rfl | rfl | rfl | rfl <;> revert h <;> decide
theorem own_cap8 {z : Int32} (h : ¬ (z < 0) ∧ ¬ ((8 : Int32) < z)) : z.toNatClampNeg ≤ 8 := by
  rcases own_08 h with rfl | rfl | rfl | rfl | rfl | rfl | rfl | rfl | rfl <;> decide
theorem own_rem9 (p : Int32) : ¬ (((p &&& (2147483647 : Int32)) % (9 : Int32)) < 0) ∧ ¬ ((8 : Int32) < ((p &&& (2147483647 : Int32)) % (9 : Int32))) := by
  rcases own_cases9 p with h | h | h | h | h | h | h | h | h <;> rw [h] <;> decide
def Q_law (Z : State) (n0 : Nat) (v : Option Value) (h : Heap) (L : List Loc) : Prop := v = some (.int 1) ∧ Fr n0 L
theorem pd___IIII_Z : parseMethodDescriptor "([IIII)Z" = some ⟨[(.array .int), .int, .int, .int], some .boolean⟩ := by decide +kernel
set_option maxRecDepth 65536 in
set_option maxHeartbeats 40000000 in
theorem tl_p3 (p : Program) (l : Launch) (e : Env) (s : State) (m : MethodId) (args : Array Value) (below : List Frame) (meth : Method) (c : Code) (T0 : State) (locs : List Loc) (vm0 : Vm) (k0 : Nat) (Z : State) (a0 : Array Value) (hw : ∀ d ∈ tables_1, d.before a0 Z = true) (p1 : Int32) (p2 : Int32) (x : Int32) (y : Int32) (kk : Int32) (ln : Int32) (t : Addr) (a : Addr) (ka : ClassId) (vs : List Value) (h0 : Heap) (n0 : Nat)
    (X0 : Stand p l e room_1 (s.setVm vm0) m args below meth c T0 locs 60 90000) (hx : p.tables.exec = Jvm.exec) (hZ : Z.Warmed39 (s.setVm vm0).vm) (hby : c.code = code) (hml : c.maxLocals = 11) (hown : (s.setVm vm0).vm.findClass S2 = some m.cls) (hret : meth.sig.returnType = (some .boolean)) (hlk : meth.locks = false) (hS : s.Since vm0 k0) (hk0 : k0 ≤ h0.size) (e0 : T0.heap = h0) (N0 : Fr n0 locs) (Z0 : n0 ≤ h0.size) (O0 : Old Z n0 h0) (f0 : Exa Z h0 t S1) (f1 : Fld Z h0 t S1 "size" "I" (.int kk)) (f2 : Arv Z h0 a ka .int ln vs (.int (0 : Int32))) (hk : ¬ (kk < 0) ∧ ¬ ((8 : Int32) < kk)) (hl : ¬ (ln < 0) ∧ ¬ ((8 : Int32) < ln)) (hvl : vs.length ≤ ln.toNatClampNeg) (hv0 : List.getD vs ((0 : Int32)).toNatClampNeg (Value.int (0 : Int32)) = Value.int (if (0 : Int32) < ln then (x ^^^ ((y * (0 : Int32)) + (0 : Int32))) else 0)) (hv1 : List.getD vs ((1 : Int32)).toNatClampNeg (Value.int (0 : Int32)) = Value.int (if (1 : Int32) < ln then (x ^^^ ((y * (1 : Int32)) + (1 : Int32))) else 0)) (hv2 : List.getD vs ((2 : Int32)).toNatClampNeg (Value.int (0 : Int32)) = Value.int (if (2 : Int32) < ln then (x ^^^ ((y * (2 : Int32)) + (2 : Int32))) else 0)) (hv3 : List.getD vs ((3 : Int32)).toNatClampNeg (Value.int (0 : Int32)) = Value.int (if (3 : Int32) < ln then (x ^^^ ((y * (3 : Int32)) + (3 : Int32))) else 0)) (hv4 : List.getD vs ((4 : Int32)).toNatClampNeg (Value.int (0 : Int32)) = Value.int (if (4 : Int32) < ln then (x ^^^ ((y * (4 : Int32)) + (4 : Int32))) else 0)) (hv5 : List.getD vs ((5 : Int32)).toNatClampNeg (Value.int (0 : Int32)) = Value.int (if (5 : Int32) < ln then (x ^^^ ((y * (5 : Int32)) + (5 : Int32))) else 0)) (hv6 : List.getD vs ((6 : Int32)).toNatClampNeg (Value.int (0 : Int32)) = Value.int (if (6 : Int32) < ln then (x ^^^ ((y * (6 : Int32)) + (6 : Int32))) else 0)) (hv7 : List.getD vs ((7 : Int32)).toNatClampNeg (Value.int (0 : Int32)) = Value.int (if (7 : Int32) < ln then (x ^^^ ((y * (7 : Int32)) + (7 : Int32))) else 0)) (hv8 : List.getD vs ((8 : Int32)).toNatClampNeg (Value.int (0 : Int32)) = Value.int (if (8 : Int32) < ln then (x ^^^ ((y * (8 : Int32)) + (8 : Int32))) else 0)) (hv9 : List.getD vs ((9 : Int32)).toNatClampNeg (Value.int (0 : Int32)) = Value.int (if (9 : Int32) < ln then (x ^^^ ((y * (9 : Int32)) + (9 : Int32))) else 0)) :
    ∃ s₂ o, Sp p e below T0 (mkF m 279 #[.val (.int p1), .val (.int p2), .val (.int x), .val (.int y), .val (.int kk), .val (.int ln), .val (.ref t), .val (.ref a), .unset, .unset, .unset] []) s₂ ∧ s₂.status = .running ∧ Ended s₂ below o ∧ ∃ v L, o = .returned v ∧ Q_law Z  n0 v s₂.heap L ∧ ReturnedEndW s o s₂ L room_1.cells room_1.slots := by
  have pre0 : ∀ t_, Sp p e below T0 (mkF m 279 #[.val (.int p1), .val (.int p2), .val (.int x), .val (.int y), .val (.int kk), .val (.int ln), .val (.ref t), .val (.ref a), .unset, .unset, .unset] []) t_ → Sp p e below T0 (mkF m 279 #[.val (.int p1), .val (.int p2), .val (.int x), .val (.int y), .val (.int kk), .val (.int ln), .val (.ref t), .val (.ref a), .unset, .unset, .unset] []) t_ := fun t_ k_ => k_
  by_cases clk : ln < kk
  · obtain ⟨r, hr⟩ : ∃ z : Int32, z = if kk < (ln + (ln >>> ((1 : Int32) &&& 31))) then (ln + (ln >>> ((1 : Int32) &&& 31))) else kk := ⟨_, rfl⟩
    obtain ⟨rq1, rq2, rq3, rq4, rq5, rq6, rq7⟩ := own_grow hk hl clk hr
    obtain ⟨cqk1, kqk1, qk1a, qk1b, qk1c⟩ := isOf hZ e0 f0
    obtain ⟨_, _, ⟨Tk1, Lk1, kk1, nk1⟩, -, Xk1, ⟨Lck1, hQk1, lk1, yk1, zk1⟩, stk1⟩ := X0.virtualBack hx (y := Y13) (z := Y13) hown (mvT hZ (tw hw 24 rfl)) (mvT hZ (tw hw 25 rfl)) (notFace_of_selects (args := #[]) (mvT hZ (tw hw 27 rfl))) (mvT hZ (tw hw 27 rfl)) (mvT hZ (tw hw 26 rfl)) (by decide) (backOf (W := 0) (rm_fitg l Z a0 hw [] t a ka ln vs kk r  h0 n0 Z0 O0 f0 f1 f2 clk hr rq1 hl.1 rq2 rq3 rq4 rq5 hvl) hZ (tw hw 28 rfl) (tw hw 3 rfl) (by decide) (by decide)) qk1a qk1c (g := (mkF m 283 #[.val (.int p1), .val (.int p2), .val (.int x), .val (.int y), .val (.int kk), .val (.int ln), .val (.ref t), .val (.ref a), .unset, .unset, .unset] [(.ref a), (.ref t)])) rfl (by rw [hml]; rfl) (Steps.refl _) (argsL := [(.ref a)]) (rest := []) (lenOf pd___I__I rfl) rfl (by show 2 * 0 + _ ≤ _; exact Nat.le_of_eq rfl) (hb hby at_283) (fun _ _ => ⟨rfl, e0, (by decide : 60 + 1 ≤ _), (by decide : 90000 + 12 ≤ _)⟩)
    dsimp only [Pt.U, Pt.locs, Pt.cells, Pt.slots] at Xk1 lk1 yk1 zk1 stk1 hQk1
    subst lk1 yk1 zk1
    obtain ⟨bk1, kbk1, rfl, Nk1q, Kk1q, Gk1_0, Qk1_0, Qk1_1⟩ := hQk1
    have g_bk1 : n0 ≤ bk1 := Nat.le_trans Z0 Gk1_0
    have y_bk1 : h0.size ≤ bk1 := Nat.le_trans (Nat.le_refl h0.size) Gk1_0
    have K2 : Keep h0 Tk1.heap [] := (Keep.refl h0 []).trans Kk1q all0
    have Nk1 := Fr.app N0 Nk1q
    have r3 : ∀ t_, Sp p e below Tk1 (mkF m 333 #[.val (.int p1), .val (.int p2), .val (.int x), .val (.int y), .val (.int kk), .val (.int ln), .val (.ref t), .val (.ref a), .val (.ref bk1), .val (.int (ln + (ln / (2 : Int32)))), .unset] [(.int kk), (.int (ln + (ln / (2 : Int32))))]) t_ → Sp p e below T0 (mkF m 279 #[.val (.int p1), .val (.int p2), .val (.int x), .val (.int y), .val (.int kk), .val (.int ln), .val (.ref t), .val (.ref a), .unset, .unset, .unset] []) t_ := by
      intro t_ k_
      refine pre0 _ ?_
      refine XS.aload X0.here hx rfl (hb hby at_279) rfl rfl ?_
      refine XS.aload X0.here hx rfl (hb hby at_281) rfl rfl ?_
      refine stk1.trans ?_
      refine XS.astore Xk1.here hx rfl (hb hby at_286) rfl rfl (l' := #[.val (.int p1), .val (.int p2), .val (.int x), .val (.int y), .val (.int kk), .val (.int ln), .val (.ref t), .val (.ref a), .val (.ref bk1), .unset, .unset]) rfl ?_
      refine XS.iload Xk1.here hx rfl (hb hby at_288) rfl ?_
      refine XS.iload Xk1.here hx rfl (hb hby at_290) rfl ?_
      refine XS.icmpYes Xk1.here hx rfl (pc0 := 292) (pc' := 320) rfl (hb hby at_292) rfl (tlt clk).1 (by decide) (by decide) ?_
      refine XS.iload Xk1.here hx rfl (hb hby at_320) rfl ?_
      refine XS.iload Xk1.here hx rfl (hb hby at_322) rfl ?_
      refine XS.iconst Xk1.here hx rfl (hb hby at_324) ?_
      refine XS.idiv Xk1.here hx rfl (hb hby at_325) rfl (by decide) ?_
      refine XS.iadd Xk1.here hx rfl (hb hby at_326) rfl ?_
      refine XS.istore Xk1.here hx rfl (hb hby at_327) rfl (l' := #[.val (.int p1), .val (.int p2), .val (.int x), .val (.int y), .val (.int kk), .val (.int ln), .val (.ref t), .val (.ref a), .val (.ref bk1), .val (.int (ln + (ln / (2 : Int32)))), .unset]) rfl ?_
      refine XS.iload Xk1.here hx rfl (hb hby at_329) rfl ?_
      refine XS.iload Xk1.here hx rfl (hb hby at_331) rfl ?_
      show Sp p e below Tk1 (mkF m 333 #[.val (.int p1), .val (.int p2), .val (.int x), .val (.int y), .val (.int kk), .val (.int ln), .val (.ref t), .val (.ref a), .val (.ref bk1), .val (.int (ln + (ln / (2 : Int32)))), .unset] [(.int kk), (.int (ln + (ln / (2 : Int32))))]) _
      exact k_
    by_cases c4 : (ln + (ln / (2 : Int32))) < kk
    · have ne5 : a ≠ bk1 := Nat.ne_of_lt (Nat.lt_of_lt_of_le f2.lt Gk1_0)
      obtain ⟨clv6, Arv6, qv6, Sv6, Nv6, Hv6, Gv6⟩ := id Qk1_0
      have F7 := (f2.keep K2 nin0)
      have Z8 : n0 ≤ Tk1.heap.size := (Nat.le_trans Z0 Kk1q.1)
      have O9 : Old Z n0 Tk1.heap := (O0.keep Kk1q all0)
      obtain ⟨_, _, ⟨Tk10, Lk10, kk10, nk10⟩, -, Xk10, ⟨Lck10, hQk10, lk10, yk10, zk10⟩, stk10⟩ := Jvm.LawKit.callS Xk1 hx (y := Y18) hown (mvT hZ (tw hw 31 rfl)) (mvT hZ (tw hw 32 rfl)) (mvT hZ (tw hw 22 rfl)) (mvT hZ (tw hw 33 rfl)) (by decide) (backOf (W := 0) (rm_same l Z a0 hw [] a ln x y ka vs  Tk1.heap n0 Z8 O9 F7 hv0 hv1 hv2 hv3 hv4 hv5 hv6 hv7) hZ (tw hw 33 rfl) (tw hw 22 rfl) (by decide) (by decide)) (g := (mkF m 368 #[.val (.int p1), .val (.int p2), .val (.int x), .val (.int y), .val (.int kk), .val (.int ln), .val (.ref t), .val (.ref a), .val (.ref bk1), .val (.int (ln + (ln / (2 : Int32)))), .val (.int kk)] [(.int y), (.int x), (.int ln), (.ref a)])) rfl (by rw [hml]; rfl) (argsL := [(.ref a), (.int ln), (.int x), (.int y)]) (rest := []) (lenOf pd___IIII_Z rfl) rfl (by show 2 * 0 + _ ≤ _; exact Nat.le_of_eq rfl) (hb hby at_368) (fun _ _ => ⟨rfl, rfl, (by decide : 61 + 0 ≤ _), (by decide : 90012 + 0 ≤ _)⟩)
      dsimp only [Pt.U, Pt.locs, Pt.cells, Pt.slots] at Xk10 lk10 yk10 zk10 stk10 hQk10
      subst lk10 yk10 zk10
      obtain ⟨rfl, Nk10q, ek10⟩ := hQk10
      have Nk10 := Fr.app Nk1 Nk10q
      obtain ⟨_, _, ⟨Tk11, Lk11, kk11, nk11⟩, -, Xk11, ⟨Lck11, hQk11, lk11, yk11, zk11⟩, stk11⟩ := Jvm.LawKit.callS Xk10 hx (y := Y17) hown (mvT hZ (tw hw 34 rfl)) (mvT hZ (tw hw 35 rfl)) (mvT hZ (tw hw 22 rfl)) (mvT hZ (tw hw 36 rfl)) (by decide) (backOf (W := 0) (rm_cell l Z a0 hw [] bk1 (0 : Int32) ln x y kbk1 r vs  Tk1.heap n0 Z8 O9 Qk1_0 (by decide) hv0) hZ (tw hw 36 rfl) (tw hw 22 rfl) (by decide) (by decide)) (g := (mkF m 383 #[.val (.int p1), .val (.int p2), .val (.int x), .val (.int y), .val (.int kk), .val (.int ln), .val (.ref t), .val (.ref a), .val (.ref bk1), .val (.int (ln + (ln / (2 : Int32)))), .val (.int kk)] [(.int y), (.int x), (.int ln), (.int (0 : Int32)), (.ref bk1)])) rfl (by rw [hml]; rfl) (argsL := [(.ref bk1), (.int (0 : Int32)), (.int ln), (.int x), (.int y)]) (rest := []) (lenOf pd___IIIII_Z rfl) rfl (by show 2 * 0 + _ ≤ _; exact Nat.le_of_eq rfl) (hb hby at_383) (fun _ _ => ⟨rfl, ek10, (by decide : 61 + 0 ≤ _), (by decide : 90012 + 0 ≤ _)⟩)
      dsimp only [Pt.U, Pt.locs, Pt.cells, Pt.slots] at Xk11 lk11 yk11 zk11 stk11 hQk11
      subst lk11 yk11 zk11
      obtain ⟨rfl, Nk11q, ek11⟩ := hQk11
      have Nk11 := Fr.app Nk10 Nk11q
      obtain ⟨_, _, ⟨Tk12, Lk12, kk12, nk12⟩, -, Xk12, ⟨Lck12, hQk12, lk12, yk12, zk12⟩, stk12⟩ := Jvm.LawKit.callS Xk11 hx (y := Y17) hown (mvT hZ (tw hw 34 rfl)) (mvT hZ (tw hw 35 rfl)) (mvT hZ (tw hw 22 rfl)) (mvT hZ (tw hw 36 rfl)) (by decide) (backOf (W := 0) (rm_cell l Z a0 hw [] bk1 (1 : Int32) ln x y kbk1 r vs  Tk1.heap n0 Z8 O9 Qk1_0 (by decide) hv1) hZ (tw hw 36 rfl) (tw hw 22 rfl) (by decide) (by decide)) (g := (mkF m 396 #[.val (.int p1), .val (.int p2), .val (.int x), .val (.int y), .val (.int kk), .val (.int ln), .val (.ref t), .val (.ref a), .val (.ref bk1), .val (.int (ln + (ln / (2 : Int32)))), .val (.int kk)] [(.int y), (.int x), (.int ln), (.int (1 : Int32)), (.ref bk1)])) rfl (by rw [hml]; rfl) (argsL := [(.ref bk1), (.int (1 : Int32)), (.int ln), (.int x), (.int y)]) (rest := []) (lenOf pd___IIIII_Z rfl) rfl (by show 2 * 0 + _ ≤ _; exact Nat.le_of_eq rfl) (hb hby at_396) (fun _ _ => ⟨rfl, ek11, (by decide : 61 + 0 ≤ _), (by decide : 90012 + 0 ≤ _)⟩)
      dsimp only [Pt.U, Pt.locs, Pt.cells, Pt.slots] at Xk12 lk12 yk12 zk12 stk12 hQk12
      subst lk12 yk12 zk12
      obtain ⟨rfl, Nk12q, ek12⟩ := hQk12
      have Nk12 := Fr.app Nk11 Nk12q
      obtain ⟨_, _, ⟨Tk13, Lk13, kk13, nk13⟩, -, Xk13, ⟨Lck13, hQk13, lk13, yk13, zk13⟩, stk13⟩ := Jvm.LawKit.callS Xk12 hx (y := Y17) hown (mvT hZ (tw hw 34 rfl)) (mvT hZ (tw hw 35 rfl)) (mvT hZ (tw hw 22 rfl)) (mvT hZ (tw hw 36 rfl)) (by decide) (backOf (W := 0) (rm_cell l Z a0 hw [] bk1 (2 : Int32) ln x y kbk1 r vs  Tk1.heap n0 Z8 O9 Qk1_0 (by decide) hv2) hZ (tw hw 36 rfl) (tw hw 22 rfl) (by decide) (by decide)) (g := (mkF m 409 #[.val (.int p1), .val (.int p2), .val (.int x), .val (.int y), .val (.int kk), .val (.int ln), .val (.ref t), .val (.ref a), .val (.ref bk1), .val (.int (ln + (ln / (2 : Int32)))), .val (.int kk)] [(.int y), (.int x), (.int ln), (.int (2 : Int32)), (.ref bk1)])) rfl (by rw [hml]; rfl) (argsL := [(.ref bk1), (.int (2 : Int32)), (.int ln), (.int x), (.int y)]) (rest := []) (lenOf pd___IIIII_Z rfl) rfl (by show 2 * 0 + _ ≤ _; exact Nat.le_of_eq rfl) (hb hby at_409) (fun _ _ => ⟨rfl, ek12, (by decide : 61 + 0 ≤ _), (by decide : 90012 + 0 ≤ _)⟩)
      dsimp only [Pt.U, Pt.locs, Pt.cells, Pt.slots] at Xk13 lk13 yk13 zk13 stk13 hQk13
      subst lk13 yk13 zk13
      obtain ⟨rfl, Nk13q, ek13⟩ := hQk13
      have Nk13 := Fr.app Nk12 Nk13q
      obtain ⟨_, _, ⟨Tk14, Lk14, kk14, nk14⟩, -, Xk14, ⟨Lck14, hQk14, lk14, yk14, zk14⟩, stk14⟩ := Jvm.LawKit.callS Xk13 hx (y := Y17) hown (mvT hZ (tw hw 34 rfl)) (mvT hZ (tw hw 35 rfl)) (mvT hZ (tw hw 22 rfl)) (mvT hZ (tw hw 36 rfl)) (by decide) (backOf (W := 0) (rm_cell l Z a0 hw [] bk1 (3 : Int32) ln x y kbk1 r vs  Tk1.heap n0 Z8 O9 Qk1_0 (by decide) hv3) hZ (tw hw 36 rfl) (tw hw 22 rfl) (by decide) (by decide)) (g := (mkF m 422 #[.val (.int p1), .val (.int p2), .val (.int x), .val (.int y), .val (.int kk), .val (.int ln), .val (.ref t), .val (.ref a), .val (.ref bk1), .val (.int (ln + (ln / (2 : Int32)))), .val (.int kk)] [(.int y), (.int x), (.int ln), (.int (3 : Int32)), (.ref bk1)])) rfl (by rw [hml]; rfl) (argsL := [(.ref bk1), (.int (3 : Int32)), (.int ln), (.int x), (.int y)]) (rest := []) (lenOf pd___IIIII_Z rfl) rfl (by show 2 * 0 + _ ≤ _; exact Nat.le_of_eq rfl) (hb hby at_422) (fun _ _ => ⟨rfl, ek13, (by decide : 61 + 0 ≤ _), (by decide : 90012 + 0 ≤ _)⟩)
      dsimp only [Pt.U, Pt.locs, Pt.cells, Pt.slots] at Xk14 lk14 yk14 zk14 stk14 hQk14
      subst lk14 yk14 zk14
      obtain ⟨rfl, Nk14q, ek14⟩ := hQk14
      have Nk14 := Fr.app Nk13 Nk14q
      obtain ⟨_, _, ⟨Tk15, Lk15, kk15, nk15⟩, -, Xk15, ⟨Lck15, hQk15, lk15, yk15, zk15⟩, stk15⟩ := Jvm.LawKit.callS Xk14 hx (y := Y17) hown (mvT hZ (tw hw 34 rfl)) (mvT hZ (tw hw 35 rfl)) (mvT hZ (tw hw 22 rfl)) (mvT hZ (tw hw 36 rfl)) (by decide) (backOf (W := 0) (rm_cell l Z a0 hw [] bk1 (4 : Int32) ln x y kbk1 r vs  Tk1.heap n0 Z8 O9 Qk1_0 (by decide) hv4) hZ (tw hw 36 rfl) (tw hw 22 rfl) (by decide) (by decide)) (g := (mkF m 435 #[.val (.int p1), .val (.int p2), .val (.int x), .val (.int y), .val (.int kk), .val (.int ln), .val (.ref t), .val (.ref a), .val (.ref bk1), .val (.int (ln + (ln / (2 : Int32)))), .val (.int kk)] [(.int y), (.int x), (.int ln), (.int (4 : Int32)), (.ref bk1)])) rfl (by rw [hml]; rfl) (argsL := [(.ref bk1), (.int (4 : Int32)), (.int ln), (.int x), (.int y)]) (rest := []) (lenOf pd___IIIII_Z rfl) rfl (by show 2 * 0 + _ ≤ _; exact Nat.le_of_eq rfl) (hb hby at_435) (fun _ _ => ⟨rfl, ek14, (by decide : 61 + 0 ≤ _), (by decide : 90012 + 0 ≤ _)⟩)
      dsimp only [Pt.U, Pt.locs, Pt.cells, Pt.slots] at Xk15 lk15 yk15 zk15 stk15 hQk15
      subst lk15 yk15 zk15
      obtain ⟨rfl, Nk15q, ek15⟩ := hQk15
      have Nk15 := Fr.app Nk14 Nk15q
      obtain ⟨_, _, ⟨Tk16, Lk16, kk16, nk16⟩, -, Xk16, ⟨Lck16, hQk16, lk16, yk16, zk16⟩, stk16⟩ := Jvm.LawKit.callS Xk15 hx (y := Y17) hown (mvT hZ (tw hw 34 rfl)) (mvT hZ (tw hw 35 rfl)) (mvT hZ (tw hw 22 rfl)) (mvT hZ (tw hw 36 rfl)) (by decide) (backOf (W := 0) (rm_cell l Z a0 hw [] bk1 (5 : Int32) ln x y kbk1 r vs  Tk1.heap n0 Z8 O9 Qk1_0 (by decide) hv5) hZ (tw hw 36 rfl) (tw hw 22 rfl) (by decide) (by decide)) (g := (mkF m 448 #[.val (.int p1), .val (.int p2), .val (.int x), .val (.int y), .val (.int kk), .val (.int ln), .val (.ref t), .val (.ref a), .val (.ref bk1), .val (.int (ln + (ln / (2 : Int32)))), .val (.int kk)] [(.int y), (.int x), (.int ln), (.int (5 : Int32)), (.ref bk1)])) rfl (by rw [hml]; rfl) (argsL := [(.ref bk1), (.int (5 : Int32)), (.int ln), (.int x), (.int y)]) (rest := []) (lenOf pd___IIIII_Z rfl) rfl (by show 2 * 0 + _ ≤ _; exact Nat.le_of_eq rfl) (hb hby at_448) (fun _ _ => ⟨rfl, ek15, (by decide : 61 + 0 ≤ _), (by decide : 90012 + 0 ≤ _)⟩)
      dsimp only [Pt.U, Pt.locs, Pt.cells, Pt.slots] at Xk16 lk16 yk16 zk16 stk16 hQk16
      subst lk16 yk16 zk16
      obtain ⟨rfl, Nk16q, ek16⟩ := hQk16
      have Nk16 := Fr.app Nk15 Nk16q
      obtain ⟨_, _, ⟨Tk17, Lk17, kk17, nk17⟩, -, Xk17, ⟨Lck17, hQk17, lk17, yk17, zk17⟩, stk17⟩ := Jvm.LawKit.callS Xk16 hx (y := Y17) hown (mvT hZ (tw hw 34 rfl)) (mvT hZ (tw hw 35 rfl)) (mvT hZ (tw hw 22 rfl)) (mvT hZ (tw hw 36 rfl)) (by decide) (backOf (W := 0) (rm_cell l Z a0 hw [] bk1 (6 : Int32) ln x y kbk1 r vs  Tk1.heap n0 Z8 O9 Qk1_0 (by decide) hv6) hZ (tw hw 36 rfl) (tw hw 22 rfl) (by decide) (by decide)) (g := (mkF m 462 #[.val (.int p1), .val (.int p2), .val (.int x), .val (.int y), .val (.int kk), .val (.int ln), .val (.ref t), .val (.ref a), .val (.ref bk1), .val (.int (ln + (ln / (2 : Int32)))), .val (.int kk)] [(.int y), (.int x), (.int ln), (.int (6 : Int32)), (.ref bk1)])) rfl (by rw [hml]; rfl) (argsL := [(.ref bk1), (.int (6 : Int32)), (.int ln), (.int x), (.int y)]) (rest := []) (lenOf pd___IIIII_Z rfl) rfl (by show 2 * 0 + _ ≤ _; exact Nat.le_of_eq rfl) (hb hby at_462) (fun _ _ => ⟨rfl, ek16, (by decide : 61 + 0 ≤ _), (by decide : 90012 + 0 ≤ _)⟩)
      dsimp only [Pt.U, Pt.locs, Pt.cells, Pt.slots] at Xk17 lk17 yk17 zk17 stk17 hQk17
      subst lk17 yk17 zk17
      obtain ⟨rfl, Nk17q, ek17⟩ := hQk17
      have Nk17 := Fr.app Nk16 Nk17q
      obtain ⟨_, _, ⟨Tk18, Lk18, kk18, nk18⟩, -, Xk18, ⟨Lck18, hQk18, lk18, yk18, zk18⟩, stk18⟩ := Jvm.LawKit.callS Xk17 hx (y := Y17) hown (mvT hZ (tw hw 34 rfl)) (mvT hZ (tw hw 35 rfl)) (mvT hZ (tw hw 22 rfl)) (mvT hZ (tw hw 36 rfl)) (by decide) (backOf (W := 0) (rm_cell l Z a0 hw [] bk1 (7 : Int32) ln x y kbk1 r vs  Tk1.heap n0 Z8 O9 Qk1_0 (by decide) hv7) hZ (tw hw 36 rfl) (tw hw 22 rfl) (by decide) (by decide)) (g := (mkF m 476 #[.val (.int p1), .val (.int p2), .val (.int x), .val (.int y), .val (.int kk), .val (.int ln), .val (.ref t), .val (.ref a), .val (.ref bk1), .val (.int (ln + (ln / (2 : Int32)))), .val (.int kk)] [(.int y), (.int x), (.int ln), (.int (7 : Int32)), (.ref bk1)])) rfl (by rw [hml]; rfl) (argsL := [(.ref bk1), (.int (7 : Int32)), (.int ln), (.int x), (.int y)]) (rest := []) (lenOf pd___IIIII_Z rfl) rfl (by show 2 * 0 + _ ≤ _; exact Nat.le_of_eq rfl) (hb hby at_476) (fun _ _ => ⟨rfl, ek17, (by decide : 61 + 0 ≤ _), (by decide : 90012 + 0 ≤ _)⟩)
      dsimp only [Pt.U, Pt.locs, Pt.cells, Pt.slots] at Xk18 lk18 yk18 zk18 stk18 hQk18
      subst lk18 yk18 zk18
      obtain ⟨rfl, Nk18q, ek18⟩ := hQk18
      have Nk18 := Fr.app Nk17 Nk18q
      obtain ⟨_, _, ⟨Tk19, Lk19, kk19, nk19⟩, -, Xk19, ⟨Lck19, hQk19, lk19, yk19, zk19⟩, stk19⟩ := Jvm.LawKit.callS Xk18 hx (y := Y17) hown (mvT hZ (tw hw 34 rfl)) (mvT hZ (tw hw 35 rfl)) (mvT hZ (tw hw 22 rfl)) (mvT hZ (tw hw 36 rfl)) (by decide) (backOf (W := 0) (rm_cell l Z a0 hw [] bk1 (8 : Int32) ln x y kbk1 r vs  Tk1.heap n0 Z8 O9 Qk1_0 (by decide) hv8) hZ (tw hw 36 rfl) (tw hw 22 rfl) (by decide) (by decide)) (g := (mkF m 490 #[.val (.int p1), .val (.int p2), .val (.int x), .val (.int y), .val (.int kk), .val (.int ln), .val (.ref t), .val (.ref a), .val (.ref bk1), .val (.int (ln + (ln / (2 : Int32)))), .val (.int kk)] [(.int y), (.int x), (.int ln), (.int (8 : Int32)), (.ref bk1)])) rfl (by rw [hml]; rfl) (argsL := [(.ref bk1), (.int (8 : Int32)), (.int ln), (.int x), (.int y)]) (rest := []) (lenOf pd___IIIII_Z rfl) rfl (by show 2 * 0 + _ ≤ _; exact Nat.le_of_eq rfl) (hb hby at_490) (fun _ _ => ⟨rfl, ek18, (by decide : 61 + 0 ≤ _), (by decide : 90012 + 0 ≤ _)⟩)
      dsimp only [Pt.U, Pt.locs, Pt.cells, Pt.slots] at Xk19 lk19 yk19 zk19 stk19 hQk19
      subst lk19 yk19 zk19
      obtain ⟨rfl, Nk19q, ek19⟩ := hQk19
      have Nk19 := Fr.app Nk18 Nk19q
      obtain ⟨_, _, ⟨Tk20, Lk20, kk20, nk20⟩, -, Xk20, ⟨Lck20, hQk20, lk20, yk20, zk20⟩, stk20⟩ := Jvm.LawKit.callS Xk19 hx (y := Y17) hown (mvT hZ (tw hw 34 rfl)) (mvT hZ (tw hw 35 rfl)) (mvT hZ (tw hw 22 rfl)) (mvT hZ (tw hw 36 rfl)) (by decide) (backOf (W := 0) (rm_cell l Z a0 hw [] bk1 (9 : Int32) ln x y kbk1 r vs  Tk1.heap n0 Z8 O9 Qk1_0 (by decide) hv9) hZ (tw hw 36 rfl) (tw hw 22 rfl) (by decide) (by decide)) (g := (mkF m 504 #[.val (.int p1), .val (.int p2), .val (.int x), .val (.int y), .val (.int kk), .val (.int ln), .val (.ref t), .val (.ref a), .val (.ref bk1), .val (.int (ln + (ln / (2 : Int32)))), .val (.int kk)] [(.int y), (.int x), (.int ln), (.int (9 : Int32)), (.ref bk1)])) rfl (by rw [hml]; rfl) (argsL := [(.ref bk1), (.int (9 : Int32)), (.int ln), (.int x), (.int y)]) (rest := []) (lenOf pd___IIIII_Z rfl) rfl (by show 2 * 0 + _ ≤ _; exact Nat.le_of_eq rfl) (hb hby at_504) (fun _ _ => ⟨rfl, ek19, (by decide : 61 + 0 ≤ _), (by decide : 90012 + 0 ≤ _)⟩)
      dsimp only [Pt.U, Pt.locs, Pt.cells, Pt.slots] at Xk20 lk20 yk20 zk20 stk20 hQk20
      subst lk20 yk20 zk20
      obtain ⟨rfl, Nk20q, ek20⟩ := hQk20
      have Nk20 := Fr.app Nk19 Nk20q
      have Y21 : h0.size ≤ Tk1.heap.size := (Nat.le_trans (Nat.le_refl h0.size) Kk1q.1)
      obtain ⟨fs, hlv, hrun, hended, hw1, hw2, hw3, hsame⟩ := Xk20.leaveW hS (Nat.le_trans hk0 ((ek20).symm ▸ Y21)) (v := some (.int (1 : Int32))) (fun h => by rw [hret] at h; cases h)
      refine ⟨_, _, r3 _ ?_, hrun, hended, _, _, rfl, ?_, hw1, hw2, hw3, hsame.mono (by decide) (by decide)⟩
      · refine XS.icmpYes Xk1.here hx rfl (pc0 := 333) (pc' := 341) rfl (hb hby at_333) rfl (tlt c4).1 (by decide) (by decide) ?_
        show Sp p e below Tk1 (mkF m 341 #[.val (.int p1), .val (.int p2), .val (.int x), .val (.int y), .val (.int kk), .val (.int ln), .val (.ref t), .val (.ref a), .val (.ref bk1), .val (.int (ln + (ln / (2 : Int32)))), .unset] []) _
        refine XS.iload Xk1.here hx rfl (hb hby at_341) rfl ?_
        refine XS.istore Xk1.here hx rfl (hb hby at_343) rfl (l' := #[.val (.int p1), .val (.int p2), .val (.int x), .val (.int y), .val (.int kk), .val (.int ln), .val (.ref t), .val (.ref a), .val (.ref bk1), .val (.int (ln + (ln / (2 : Int32)))), .val (.int kk)]) rfl ?_
        refine XS.aload Xk1.here hx rfl (hb hby at_345) rfl rfl ?_
        refine XS.aload Xk1.here hx rfl (hb hby at_347) rfl rfl ?_
        show Sp p e below Tk1 (mkF m 349 #[.val (.int p1), .val (.int p2), .val (.int x), .val (.int y), .val (.int kk), .val (.int ln), .val (.ref t), .val (.ref a), .val (.ref bk1), .val (.int (ln + (ln / (2 : Int32)))), .val (.int kk)] [(.ref a), (.ref bk1)]) _
        refine Jvm.RoadKit.acmp (g := (mkF m 349 #[.val (.int p1), .val (.int p2), .val (.int x), .val (.int y), .val (.int kk), .val (.int ln), .val (.ref t), .val (.ref a), .val (.ref bk1), .val (.int (ln + (ln / (2 : Int32)))), .val (.int kk)] [(.ref a), (.ref bk1)])) Xk1 hx rfl rfl rfl (pc0 := 349) (pc' := 352) (same := false) rfl (hb hby at_349) rfl (decide_eq_false fun q => ((Ne.symm ne5)) (Value.ref.inj q)) (by decide) (by decide) ?_
        show Sp p e below Tk1 (mkF m 352 #[.val (.int p1), .val (.int p2), .val (.int x), .val (.int y), .val (.int kk), .val (.int ln), .val (.ref t), .val (.ref a), .val (.ref bk1), .val (.int (ln + (ln / (2 : Int32)))), .val (.int kk)] []) _
        refine XS.aload Xk1.here hx rfl (hb hby at_352) rfl rfl ?_
        show Sp p e below Tk1 (mkF m 354 #[.val (.int p1), .val (.int p2), .val (.int x), .val (.int y), .val (.int kk), .val (.int ln), .val (.ref t), .val (.ref a), .val (.ref bk1), .val (.int (ln + (ln / (2 : Int32)))), .val (.int kk)] [(.ref bk1)]) _
        refine Xk1.arraylength hx (own_eq rfl Arv6.1) (State.isArrayOf_alike hZ.alike Arv6.2.1) (g := (mkF m 354 #[.val (.int p1), .val (.int p2), .val (.int x), .val (.int y), .val (.int kk), .val (.int ln), .val (.ref t), .val (.ref a), .val (.ref bk1), .val (.int (ln + (ln / (2 : Int32)))), .val (.int kk)] [(.ref bk1)])) rfl rfl (hb hby at_354) _ ?_
        rw [len_of Sv6 Nv6]
        show Sp p e below Tk1 (mkF m 355 #[.val (.int p1), .val (.int p2), .val (.int x), .val (.int y), .val (.int kk), .val (.int ln), .val (.ref t), .val (.ref a), .val (.ref bk1), .val (.int (ln + (ln / (2 : Int32)))), .val (.int kk)] [(.int r)]) _
        refine XS.iload Xk1.here hx rfl (hb hby at_355) rfl ?_
        refine XS.icmpYes Xk1.here hx rfl (pc0 := 357) (pc' := 362) rfl (hb hby at_357) rfl (teq (rq7 c4)).1 (by decide) (by decide) ?_
        refine XS.aload Xk1.here hx rfl (hb hby at_362) rfl rfl ?_
        refine XS.iload Xk1.here hx rfl (hb hby at_364) rfl ?_
        refine XS.iloadN Xk1.here hx rfl (hb hby at_366) rfl ?_
        refine XS.iloadN Xk1.here hx rfl (hb hby at_367) rfl ?_
        refine stk10 _ ?_
        refine XS.ifYes Xk10.here hx rfl (pc0 := 371) (pc' := 376) rfl (hb hby at_371) rfl ((if0 _ _).trans (feq (by decide : ¬ ((1 : Int32) = (0 : Int32)))).2) (by decide) (by decide) ?_
        refine XS.aload Xk10.here hx rfl (hb hby at_376) rfl rfl ?_
        refine XS.iconst Xk10.here hx rfl (hb hby at_378) ?_
        refine XS.iload Xk10.here hx rfl (hb hby at_379) rfl ?_
        refine XS.iloadN Xk10.here hx rfl (hb hby at_381) rfl ?_
        refine XS.iloadN Xk10.here hx rfl (hb hby at_382) rfl ?_
        refine stk11 _ ?_
        refine XS.ifNo Xk11.here hx rfl (hb hby at_386) rfl ((if0 _ _).trans (feq (by decide : ¬ ((1 : Int32) = (0 : Int32)))).1) ?_
        refine XS.aload Xk11.here hx rfl (hb hby at_389) rfl rfl ?_
        refine XS.iconst Xk11.here hx rfl (hb hby at_391) ?_
        refine XS.iload Xk11.here hx rfl (hb hby at_392) rfl ?_
        refine XS.iloadN Xk11.here hx rfl (hb hby at_394) rfl ?_
        refine XS.iloadN Xk11.here hx rfl (hb hby at_395) rfl ?_
        refine stk12 _ ?_
        show Sp p e below Tk12 (mkF m 399 #[.val (.int p1), .val (.int p2), .val (.int x), .val (.int y), .val (.int kk), .val (.int ln), .val (.ref t), .val (.ref a), .val (.ref bk1), .val (.int (ln + (ln / (2 : Int32)))), .val (.int kk)] [(.int (1 : Int32))]) _
        refine XS.ifNo Xk12.here hx rfl (hb hby at_399) rfl ((if0 _ _).trans (feq (by decide : ¬ ((1 : Int32) = (0 : Int32)))).1) ?_
        refine XS.aload Xk12.here hx rfl (hb hby at_402) rfl rfl ?_
        refine XS.iconst Xk12.here hx rfl (hb hby at_404) ?_
        refine XS.iload Xk12.here hx rfl (hb hby at_405) rfl ?_
        refine XS.iloadN Xk12.here hx rfl (hb hby at_407) rfl ?_
        refine XS.iloadN Xk12.here hx rfl (hb hby at_408) rfl ?_
        refine stk13 _ ?_
        refine XS.ifNo Xk13.here hx rfl (hb hby at_412) rfl ((if0 _ _).trans (feq (by decide : ¬ ((1 : Int32) = (0 : Int32)))).1) ?_
        refine XS.aload Xk13.here hx rfl (hb hby at_415) rfl rfl ?_
        refine XS.iconst Xk13.here hx rfl (hb hby at_417) ?_
        refine XS.iload Xk13.here hx rfl (hb hby at_418) rfl ?_
        refine XS.iloadN Xk13.here hx rfl (hb hby at_420) rfl ?_
        refine XS.iloadN Xk13.here hx rfl (hb hby at_421) rfl ?_
        refine stk14 _ ?_
        refine XS.ifNo Xk14.here hx rfl (hb hby at_425) rfl ((if0 _ _).trans (feq (by decide : ¬ ((1 : Int32) = (0 : Int32)))).1) ?_
        refine XS.aload Xk14.here hx rfl (hb hby at_428) rfl rfl ?_
        refine XS.iconst Xk14.here hx rfl (hb hby at_430) ?_
        refine XS.iload Xk14.here hx rfl (hb hby at_431) rfl ?_
        refine XS.iloadN Xk14.here hx rfl (hb hby at_433) rfl ?_
        refine XS.iloadN Xk14.here hx rfl (hb hby at_434) rfl ?_
        refine stk15 _ ?_
        show Sp p e below Tk15 (mkF m 438 #[.val (.int p1), .val (.int p2), .val (.int x), .val (.int y), .val (.int kk), .val (.int ln), .val (.ref t), .val (.ref a), .val (.ref bk1), .val (.int (ln + (ln / (2 : Int32)))), .val (.int kk)] [(.int (1 : Int32))]) _
        refine XS.ifNo Xk15.here hx rfl (hb hby at_438) rfl ((if0 _ _).trans (feq (by decide : ¬ ((1 : Int32) = (0 : Int32)))).1) ?_
        refine XS.aload Xk15.here hx rfl (hb hby at_441) rfl rfl ?_
        refine XS.iconst Xk15.here hx rfl (hb hby at_443) ?_
        refine XS.iload Xk15.here hx rfl (hb hby at_444) rfl ?_
        refine XS.iloadN Xk15.here hx rfl (hb hby at_446) rfl ?_
        refine XS.iloadN Xk15.here hx rfl (hb hby at_447) rfl ?_
        refine stk16 _ ?_
        refine XS.ifNo Xk16.here hx rfl (hb hby at_451) rfl ((if0 _ _).trans (feq (by decide : ¬ ((1 : Int32) = (0 : Int32)))).1) ?_
        refine XS.aload Xk16.here hx rfl (hb hby at_454) rfl rfl ?_
        refine XS.bipush Xk16.here hx rfl (hb hby at_456) ?_
        refine XS.iload Xk16.here hx rfl (hb hby at_458) rfl ?_
        refine XS.iloadN Xk16.here hx rfl (hb hby at_460) rfl ?_
        refine XS.iloadN Xk16.here hx rfl (hb hby at_461) rfl ?_
        refine stk17 _ ?_
        refine XS.ifNo Xk17.here hx rfl (hb hby at_465) rfl ((if0 _ _).trans (feq (by decide : ¬ ((1 : Int32) = (0 : Int32)))).1) ?_
        refine XS.aload Xk17.here hx rfl (hb hby at_468) rfl rfl ?_
        refine XS.bipush Xk17.here hx rfl (hb hby at_470) ?_
        refine XS.iload Xk17.here hx rfl (hb hby at_472) rfl ?_
        refine XS.iloadN Xk17.here hx rfl (hb hby at_474) rfl ?_
        refine XS.iloadN Xk17.here hx rfl (hb hby at_475) rfl ?_
        refine stk18 _ ?_
        show Sp p e below Tk18 (mkF m 479 #[.val (.int p1), .val (.int p2), .val (.int x), .val (.int y), .val (.int kk), .val (.int ln), .val (.ref t), .val (.ref a), .val (.ref bk1), .val (.int (ln + (ln / (2 : Int32)))), .val (.int kk)] [(.int (1 : Int32))]) _
        refine XS.ifNo Xk18.here hx rfl (hb hby at_479) rfl ((if0 _ _).trans (feq (by decide : ¬ ((1 : Int32) = (0 : Int32)))).1) ?_
        refine XS.aload Xk18.here hx rfl (hb hby at_482) rfl rfl ?_
        refine XS.bipush Xk18.here hx rfl (hb hby at_484) ?_
        refine XS.iload Xk18.here hx rfl (hb hby at_486) rfl ?_
        refine XS.iloadN Xk18.here hx rfl (hb hby at_488) rfl ?_
        refine XS.iloadN Xk18.here hx rfl (hb hby at_489) rfl ?_
        refine stk19 _ ?_
        refine XS.ifNo Xk19.here hx rfl (hb hby at_493) rfl ((if0 _ _).trans (feq (by decide : ¬ ((1 : Int32) = (0 : Int32)))).1) ?_
        refine XS.aload Xk19.here hx rfl (hb hby at_496) rfl rfl ?_
        refine XS.bipush Xk19.here hx rfl (hb hby at_498) ?_
        refine XS.iload Xk19.here hx rfl (hb hby at_500) rfl ?_
        refine XS.iloadN Xk19.here hx rfl (hb hby at_502) rfl ?_
        refine XS.iloadN Xk19.here hx rfl (hb hby at_503) rfl ?_
        refine stk20 _ ?_
        refine XS.ifNo Xk20.here hx rfl (hb hby at_507) rfl ((if0 _ _).trans (feq (by decide : ¬ ((1 : Int32) = (0 : Int32)))).1) ?_
        refine XS.iconst Xk20.here hx rfl (hb hby at_510) ?_
        refine XS.goto Xk20.here hx rfl (pc0 := 511) (pc' := 515) rfl (hb hby at_511) (by decide) (by decide) ?_
        show Sp p e below Tk20 (mkF m 515 #[.val (.int p1), .val (.int p2), .val (.int x), .val (.int y), .val (.int kk), .val (.int ln), .val (.ref t), .val (.ref a), .val (.ref bk1), .val (.int (ln + (ln / (2 : Int32)))), .val (.int kk)] [(.int (1 : Int32))]) _
        exact retN Xk20 hx (t := .boolean) hret (by simp) (hb hby at_515) hlv
      · show Q_law Z  n0 _ Tk20.heap _
        rw [ek20]
        exact ⟨rfl, Nk20⟩
    · have ne22 : a ≠ bk1 := Nat.ne_of_lt (Nat.lt_of_lt_of_le f2.lt Gk1_0)
      obtain ⟨clv23, Arv23, qv23, Sv23, Nv23, Hv23, Gv23⟩ := id Qk1_0
      have F24 := (f2.keep K2 nin0)
      have Z25 : n0 ≤ Tk1.heap.size := (Nat.le_trans Z0 Kk1q.1)
      have O26 : Old Z n0 Tk1.heap := (O0.keep Kk1q all0)
      obtain ⟨_, _, ⟨Tk27, Lk27, kk27, nk27⟩, -, Xk27, ⟨Lck27, hQk27, lk27, yk27, zk27⟩, stk27⟩ := Jvm.LawKit.callS Xk1 hx (y := Y18) hown (mvT hZ (tw hw 31 rfl)) (mvT hZ (tw hw 32 rfl)) (mvT hZ (tw hw 22 rfl)) (mvT hZ (tw hw 33 rfl)) (by decide) (backOf (W := 0) (rm_same l Z a0 hw [] a ln x y ka vs  Tk1.heap n0 Z25 O26 F24 hv0 hv1 hv2 hv3 hv4 hv5 hv6 hv7) hZ (tw hw 33 rfl) (tw hw 22 rfl) (by decide) (by decide)) (g := (mkF m 368 #[.val (.int p1), .val (.int p2), .val (.int x), .val (.int y), .val (.int kk), .val (.int ln), .val (.ref t), .val (.ref a), .val (.ref bk1), .val (.int (ln + (ln / (2 : Int32)))), .val (.int (ln + (ln / (2 : Int32))))] [(.int y), (.int x), (.int ln), (.ref a)])) rfl (by rw [hml]; rfl) (argsL := [(.ref a), (.int ln), (.int x), (.int y)]) (rest := []) (lenOf pd___IIII_Z rfl) rfl (by show 2 * 0 + _ ≤ _; exact Nat.le_of_eq rfl) (hb hby at_368) (fun _ _ => ⟨rfl, rfl, (by decide : 61 + 0 ≤ _), (by decide : 90012 + 0 ≤ _)⟩)
      dsimp only [Pt.U, Pt.locs, Pt.cells, Pt.slots] at Xk27 lk27 yk27 zk27 stk27 hQk27
      subst lk27 yk27 zk27
      obtain ⟨rfl, Nk27q, ek27⟩ := hQk27
      have Nk27 := Fr.app Nk1 Nk27q
      obtain ⟨_, _, ⟨Tk28, Lk28, kk28, nk28⟩, -, Xk28, ⟨Lck28, hQk28, lk28, yk28, zk28⟩, stk28⟩ := Jvm.LawKit.callS Xk27 hx (y := Y17) hown (mvT hZ (tw hw 34 rfl)) (mvT hZ (tw hw 35 rfl)) (mvT hZ (tw hw 22 rfl)) (mvT hZ (tw hw 36 rfl)) (by decide) (backOf (W := 0) (rm_cell l Z a0 hw [] bk1 (0 : Int32) ln x y kbk1 r vs  Tk1.heap n0 Z25 O26 Qk1_0 (by decide) hv0) hZ (tw hw 36 rfl) (tw hw 22 rfl) (by decide) (by decide)) (g := (mkF m 383 #[.val (.int p1), .val (.int p2), .val (.int x), .val (.int y), .val (.int kk), .val (.int ln), .val (.ref t), .val (.ref a), .val (.ref bk1), .val (.int (ln + (ln / (2 : Int32)))), .val (.int (ln + (ln / (2 : Int32))))] [(.int y), (.int x), (.int ln), (.int (0 : Int32)), (.ref bk1)])) rfl (by rw [hml]; rfl) (argsL := [(.ref bk1), (.int (0 : Int32)), (.int ln), (.int x), (.int y)]) (rest := []) (lenOf pd___IIIII_Z rfl) rfl (by show 2 * 0 + _ ≤ _; exact Nat.le_of_eq rfl) (hb hby at_383) (fun _ _ => ⟨rfl, ek27, (by decide : 61 + 0 ≤ _), (by decide : 90012 + 0 ≤ _)⟩)
      dsimp only [Pt.U, Pt.locs, Pt.cells, Pt.slots] at Xk28 lk28 yk28 zk28 stk28 hQk28
      subst lk28 yk28 zk28
      obtain ⟨rfl, Nk28q, ek28⟩ := hQk28
      have Nk28 := Fr.app Nk27 Nk28q
      obtain ⟨_, _, ⟨Tk29, Lk29, kk29, nk29⟩, -, Xk29, ⟨Lck29, hQk29, lk29, yk29, zk29⟩, stk29⟩ := Jvm.LawKit.callS Xk28 hx (y := Y17) hown (mvT hZ (tw hw 34 rfl)) (mvT hZ (tw hw 35 rfl)) (mvT hZ (tw hw 22 rfl)) (mvT hZ (tw hw 36 rfl)) (by decide) (backOf (W := 0) (rm_cell l Z a0 hw [] bk1 (1 : Int32) ln x y kbk1 r vs  Tk1.heap n0 Z25 O26 Qk1_0 (by decide) hv1) hZ (tw hw 36 rfl) (tw hw 22 rfl) (by decide) (by decide)) (g := (mkF m 396 #[.val (.int p1), .val (.int p2), .val (.int x), .val (.int y), .val (.int kk), .val (.int ln), .val (.ref t), .val (.ref a), .val (.ref bk1), .val (.int (ln + (ln / (2 : Int32)))), .val (.int (ln + (ln / (2 : Int32))))] [(.int y), (.int x), (.int ln), (.int (1 : Int32)), (.ref bk1)])) rfl (by rw [hml]; rfl) (argsL := [(.ref bk1), (.int (1 : Int32)), (.int ln), (.int x), (.int y)]) (rest := []) (lenOf pd___IIIII_Z rfl) rfl (by show 2 * 0 + _ ≤ _; exact Nat.le_of_eq rfl) (hb hby at_396) (fun _ _ => ⟨rfl, ek28, (by decide : 61 + 0 ≤ _), (by decide : 90012 + 0 ≤ _)⟩)
      dsimp only [Pt.U, Pt.locs, Pt.cells, Pt.slots] at Xk29 lk29 yk29 zk29 stk29 hQk29
      subst lk29 yk29 zk29
      obtain ⟨rfl, Nk29q, ek29⟩ := hQk29
      have Nk29 := Fr.app Nk28 Nk29q
      obtain ⟨_, _, ⟨Tk30, Lk30, kk30, nk30⟩, -, Xk30, ⟨Lck30, hQk30, lk30, yk30, zk30⟩, stk30⟩ := Jvm.LawKit.callS Xk29 hx (y := Y17) hown (mvT hZ (tw hw 34 rfl)) (mvT hZ (tw hw 35 rfl)) (mvT hZ (tw hw 22 rfl)) (mvT hZ (tw hw 36 rfl)) (by decide) (backOf (W := 0) (rm_cell l Z a0 hw [] bk1 (2 : Int32) ln x y kbk1 r vs  Tk1.heap n0 Z25 O26 Qk1_0 (by decide) hv2) hZ (tw hw 36 rfl) (tw hw 22 rfl) (by decide) (by decide)) (g := (mkF m 409 #[.val (.int p1), .val (.int p2), .val (.int x), .val (.int y), .val (.int kk), .val (.int ln), .val (.ref t), .val (.ref a), .val (.ref bk1), .val (.int (ln + (ln / (2 : Int32)))), .val (.int (ln + (ln / (2 : Int32))))] [(.int y), (.int x), (.int ln), (.int (2 : Int32)), (.ref bk1)])) rfl (by rw [hml]; rfl) (argsL := [(.ref bk1), (.int (2 : Int32)), (.int ln), (.int x), (.int y)]) (rest := []) (lenOf pd___IIIII_Z rfl) rfl (by show 2 * 0 + _ ≤ _; exact Nat.le_of_eq rfl) (hb hby at_409) (fun _ _ => ⟨rfl, ek29, (by decide : 61 + 0 ≤ _), (by decide : 90012 + 0 ≤ _)⟩)
      dsimp only [Pt.U, Pt.locs, Pt.cells, Pt.slots] at Xk30 lk30 yk30 zk30 stk30 hQk30
      subst lk30 yk30 zk30
      obtain ⟨rfl, Nk30q, ek30⟩ := hQk30
      have Nk30 := Fr.app Nk29 Nk30q
      obtain ⟨_, _, ⟨Tk31, Lk31, kk31, nk31⟩, -, Xk31, ⟨Lck31, hQk31, lk31, yk31, zk31⟩, stk31⟩ := Jvm.LawKit.callS Xk30 hx (y := Y17) hown (mvT hZ (tw hw 34 rfl)) (mvT hZ (tw hw 35 rfl)) (mvT hZ (tw hw 22 rfl)) (mvT hZ (tw hw 36 rfl)) (by decide) (backOf (W := 0) (rm_cell l Z a0 hw [] bk1 (3 : Int32) ln x y kbk1 r vs  Tk1.heap n0 Z25 O26 Qk1_0 (by decide) hv3) hZ (tw hw 36 rfl) (tw hw 22 rfl) (by decide) (by decide)) (g := (mkF m 422 #[.val (.int p1), .val (.int p2), .val (.int x), .val (.int y), .val (.int kk), .val (.int ln), .val (.ref t), .val (.ref a), .val (.ref bk1), .val (.int (ln + (ln / (2 : Int32)))), .val (.int (ln + (ln / (2 : Int32))))] [(.int y), (.int x), (.int ln), (.int (3 : Int32)), (.ref bk1)])) rfl (by rw [hml]; rfl) (argsL := [(.ref bk1), (.int (3 : Int32)), (.int ln), (.int x), (.int y)]) (rest := []) (lenOf pd___IIIII_Z rfl) rfl (by show 2 * 0 + _ ≤ _; exact Nat.le_of_eq rfl) (hb hby at_422) (fun _ _ => ⟨rfl, ek30, (by decide : 61 + 0 ≤ _), (by decide : 90012 + 0 ≤ _)⟩)
      dsimp only [Pt.U, Pt.locs, Pt.cells, Pt.slots] at Xk31 lk31 yk31 zk31 stk31 hQk31
      subst lk31 yk31 zk31
      obtain ⟨rfl, Nk31q, ek31⟩ := hQk31
      have Nk31 := Fr.app Nk30 Nk31q
      obtain ⟨_, _, ⟨Tk32, Lk32, kk32, nk32⟩, -, Xk32, ⟨Lck32, hQk32, lk32, yk32, zk32⟩, stk32⟩ := Jvm.LawKit.callS Xk31 hx (y := Y17) hown (mvT hZ (tw hw 34 rfl)) (mvT hZ (tw hw 35 rfl)) (mvT hZ (tw hw 22 rfl)) (mvT hZ (tw hw 36 rfl)) (by decide) (backOf (W := 0) (rm_cell l Z a0 hw [] bk1 (4 : Int32) ln x y kbk1 r vs  Tk1.heap n0 Z25 O26 Qk1_0 (by decide) hv4) hZ (tw hw 36 rfl) (tw hw 22 rfl) (by decide) (by decide)) (g := (mkF m 435 #[.val (.int p1), .val (.int p2), .val (.int x), .val (.int y), .val (.int kk), .val (.int ln), .val (.ref t), .val (.ref a), .val (.ref bk1), .val (.int (ln + (ln / (2 : Int32)))), .val (.int (ln + (ln / (2 : Int32))))] [(.int y), (.int x), (.int ln), (.int (4 : Int32)), (.ref bk1)])) rfl (by rw [hml]; rfl) (argsL := [(.ref bk1), (.int (4 : Int32)), (.int ln), (.int x), (.int y)]) (rest := []) (lenOf pd___IIIII_Z rfl) rfl (by show 2 * 0 + _ ≤ _; exact Nat.le_of_eq rfl) (hb hby at_435) (fun _ _ => ⟨rfl, ek31, (by decide : 61 + 0 ≤ _), (by decide : 90012 + 0 ≤ _)⟩)
      dsimp only [Pt.U, Pt.locs, Pt.cells, Pt.slots] at Xk32 lk32 yk32 zk32 stk32 hQk32
      subst lk32 yk32 zk32
      obtain ⟨rfl, Nk32q, ek32⟩ := hQk32
      have Nk32 := Fr.app Nk31 Nk32q
      obtain ⟨_, _, ⟨Tk33, Lk33, kk33, nk33⟩, -, Xk33, ⟨Lck33, hQk33, lk33, yk33, zk33⟩, stk33⟩ := Jvm.LawKit.callS Xk32 hx (y := Y17) hown (mvT hZ (tw hw 34 rfl)) (mvT hZ (tw hw 35 rfl)) (mvT hZ (tw hw 22 rfl)) (mvT hZ (tw hw 36 rfl)) (by decide) (backOf (W := 0) (rm_cell l Z a0 hw [] bk1 (5 : Int32) ln x y kbk1 r vs  Tk1.heap n0 Z25 O26 Qk1_0 (by decide) hv5) hZ (tw hw 36 rfl) (tw hw 22 rfl) (by decide) (by decide)) (g := (mkF m 448 #[.val (.int p1), .val (.int p2), .val (.int x), .val (.int y), .val (.int kk), .val (.int ln), .val (.ref t), .val (.ref a), .val (.ref bk1), .val (.int (ln + (ln / (2 : Int32)))), .val (.int (ln + (ln / (2 : Int32))))] [(.int y), (.int x), (.int ln), (.int (5 : Int32)), (.ref bk1)])) rfl (by rw [hml]; rfl) (argsL := [(.ref bk1), (.int (5 : Int32)), (.int ln), (.int x), (.int y)]) (rest := []) (lenOf pd___IIIII_Z rfl) rfl (by show 2 * 0 + _ ≤ _; exact Nat.le_of_eq rfl) (hb hby at_448) (fun _ _ => ⟨rfl, ek32, (by decide : 61 + 0 ≤ _), (by decide : 90012 + 0 ≤ _)⟩)
      dsimp only [Pt.U, Pt.locs, Pt.cells, Pt.slots] at Xk33 lk33 yk33 zk33 stk33 hQk33
      subst lk33 yk33 zk33
      obtain ⟨rfl, Nk33q, ek33⟩ := hQk33
      have Nk33 := Fr.app Nk32 Nk33q
      obtain ⟨_, _, ⟨Tk34, Lk34, kk34, nk34⟩, -, Xk34, ⟨Lck34, hQk34, lk34, yk34, zk34⟩, stk34⟩ := Jvm.LawKit.callS Xk33 hx (y := Y17) hown (mvT hZ (tw hw 34 rfl)) (mvT hZ (tw hw 35 rfl)) (mvT hZ (tw hw 22 rfl)) (mvT hZ (tw hw 36 rfl)) (by decide) (backOf (W := 0) (rm_cell l Z a0 hw [] bk1 (6 : Int32) ln x y kbk1 r vs  Tk1.heap n0 Z25 O26 Qk1_0 (by decide) hv6) hZ (tw hw 36 rfl) (tw hw 22 rfl) (by decide) (by decide)) (g := (mkF m 462 #[.val (.int p1), .val (.int p2), .val (.int x), .val (.int y), .val (.int kk), .val (.int ln), .val (.ref t), .val (.ref a), .val (.ref bk1), .val (.int (ln + (ln / (2 : Int32)))), .val (.int (ln + (ln / (2 : Int32))))] [(.int y), (.int x), (.int ln), (.int (6 : Int32)), (.ref bk1)])) rfl (by rw [hml]; rfl) (argsL := [(.ref bk1), (.int (6 : Int32)), (.int ln), (.int x), (.int y)]) (rest := []) (lenOf pd___IIIII_Z rfl) rfl (by show 2 * 0 + _ ≤ _; exact Nat.le_of_eq rfl) (hb hby at_462) (fun _ _ => ⟨rfl, ek33, (by decide : 61 + 0 ≤ _), (by decide : 90012 + 0 ≤ _)⟩)
      dsimp only [Pt.U, Pt.locs, Pt.cells, Pt.slots] at Xk34 lk34 yk34 zk34 stk34 hQk34
      subst lk34 yk34 zk34
      obtain ⟨rfl, Nk34q, ek34⟩ := hQk34
      have Nk34 := Fr.app Nk33 Nk34q
      obtain ⟨_, _, ⟨Tk35, Lk35, kk35, nk35⟩, -, Xk35, ⟨Lck35, hQk35, lk35, yk35, zk35⟩, stk35⟩ := Jvm.LawKit.callS Xk34 hx (y := Y17) hown (mvT hZ (tw hw 34 rfl)) (mvT hZ (tw hw 35 rfl)) (mvT hZ (tw hw 22 rfl)) (mvT hZ (tw hw 36 rfl)) (by decide) (backOf (W := 0) (rm_cell l Z a0 hw [] bk1 (7 : Int32) ln x y kbk1 r vs  Tk1.heap n0 Z25 O26 Qk1_0 (by decide) hv7) hZ (tw hw 36 rfl) (tw hw 22 rfl) (by decide) (by decide)) (g := (mkF m 476 #[.val (.int p1), .val (.int p2), .val (.int x), .val (.int y), .val (.int kk), .val (.int ln), .val (.ref t), .val (.ref a), .val (.ref bk1), .val (.int (ln + (ln / (2 : Int32)))), .val (.int (ln + (ln / (2 : Int32))))] [(.int y), (.int x), (.int ln), (.int (7 : Int32)), (.ref bk1)])) rfl (by rw [hml]; rfl) (argsL := [(.ref bk1), (.int (7 : Int32)), (.int ln), (.int x), (.int y)]) (rest := []) (lenOf pd___IIIII_Z rfl) rfl (by show 2 * 0 + _ ≤ _; exact Nat.le_of_eq rfl) (hb hby at_476) (fun _ _ => ⟨rfl, ek34, (by decide : 61 + 0 ≤ _), (by decide : 90012 + 0 ≤ _)⟩)
      dsimp only [Pt.U, Pt.locs, Pt.cells, Pt.slots] at Xk35 lk35 yk35 zk35 stk35 hQk35
      subst lk35 yk35 zk35
      obtain ⟨rfl, Nk35q, ek35⟩ := hQk35
      have Nk35 := Fr.app Nk34 Nk35q
      obtain ⟨_, _, ⟨Tk36, Lk36, kk36, nk36⟩, -, Xk36, ⟨Lck36, hQk36, lk36, yk36, zk36⟩, stk36⟩ := Jvm.LawKit.callS Xk35 hx (y := Y17) hown (mvT hZ (tw hw 34 rfl)) (mvT hZ (tw hw 35 rfl)) (mvT hZ (tw hw 22 rfl)) (mvT hZ (tw hw 36 rfl)) (by decide) (backOf (W := 0) (rm_cell l Z a0 hw [] bk1 (8 : Int32) ln x y kbk1 r vs  Tk1.heap n0 Z25 O26 Qk1_0 (by decide) hv8) hZ (tw hw 36 rfl) (tw hw 22 rfl) (by decide) (by decide)) (g := (mkF m 490 #[.val (.int p1), .val (.int p2), .val (.int x), .val (.int y), .val (.int kk), .val (.int ln), .val (.ref t), .val (.ref a), .val (.ref bk1), .val (.int (ln + (ln / (2 : Int32)))), .val (.int (ln + (ln / (2 : Int32))))] [(.int y), (.int x), (.int ln), (.int (8 : Int32)), (.ref bk1)])) rfl (by rw [hml]; rfl) (argsL := [(.ref bk1), (.int (8 : Int32)), (.int ln), (.int x), (.int y)]) (rest := []) (lenOf pd___IIIII_Z rfl) rfl (by show 2 * 0 + _ ≤ _; exact Nat.le_of_eq rfl) (hb hby at_490) (fun _ _ => ⟨rfl, ek35, (by decide : 61 + 0 ≤ _), (by decide : 90012 + 0 ≤ _)⟩)
      dsimp only [Pt.U, Pt.locs, Pt.cells, Pt.slots] at Xk36 lk36 yk36 zk36 stk36 hQk36
      subst lk36 yk36 zk36
      obtain ⟨rfl, Nk36q, ek36⟩ := hQk36
      have Nk36 := Fr.app Nk35 Nk36q
      obtain ⟨_, _, ⟨Tk37, Lk37, kk37, nk37⟩, -, Xk37, ⟨Lck37, hQk37, lk37, yk37, zk37⟩, stk37⟩ := Jvm.LawKit.callS Xk36 hx (y := Y17) hown (mvT hZ (tw hw 34 rfl)) (mvT hZ (tw hw 35 rfl)) (mvT hZ (tw hw 22 rfl)) (mvT hZ (tw hw 36 rfl)) (by decide) (backOf (W := 0) (rm_cell l Z a0 hw [] bk1 (9 : Int32) ln x y kbk1 r vs  Tk1.heap n0 Z25 O26 Qk1_0 (by decide) hv9) hZ (tw hw 36 rfl) (tw hw 22 rfl) (by decide) (by decide)) (g := (mkF m 504 #[.val (.int p1), .val (.int p2), .val (.int x), .val (.int y), .val (.int kk), .val (.int ln), .val (.ref t), .val (.ref a), .val (.ref bk1), .val (.int (ln + (ln / (2 : Int32)))), .val (.int (ln + (ln / (2 : Int32))))] [(.int y), (.int x), (.int ln), (.int (9 : Int32)), (.ref bk1)])) rfl (by rw [hml]; rfl) (argsL := [(.ref bk1), (.int (9 : Int32)), (.int ln), (.int x), (.int y)]) (rest := []) (lenOf pd___IIIII_Z rfl) rfl (by show 2 * 0 + _ ≤ _; exact Nat.le_of_eq rfl) (hb hby at_504) (fun _ _ => ⟨rfl, ek36, (by decide : 61 + 0 ≤ _), (by decide : 90012 + 0 ≤ _)⟩)
      dsimp only [Pt.U, Pt.locs, Pt.cells, Pt.slots] at Xk37 lk37 yk37 zk37 stk37 hQk37
      subst lk37 yk37 zk37
      obtain ⟨rfl, Nk37q, ek37⟩ := hQk37
      have Nk37 := Fr.app Nk36 Nk37q
      have Y38 : h0.size ≤ Tk1.heap.size := (Nat.le_trans (Nat.le_refl h0.size) Kk1q.1)
      obtain ⟨fs, hlv, hrun, hended, hw1, hw2, hw3, hsame⟩ := Xk37.leaveW hS (Nat.le_trans hk0 ((ek37).symm ▸ Y38)) (v := some (.int (1 : Int32))) (fun h => by rw [hret] at h; cases h)
      refine ⟨_, _, r3 _ ?_, hrun, hended, _, _, rfl, ?_, hw1, hw2, hw3, hsame.mono (by decide) (by decide)⟩
      · refine XS.icmpNo Xk1.here hx rfl (hb hby at_333) rfl (flt c4).1 ?_
        show Sp p e below Tk1 (mkF m 336 #[.val (.int p1), .val (.int p2), .val (.int x), .val (.int y), .val (.int kk), .val (.int ln), .val (.ref t), .val (.ref a), .val (.ref bk1), .val (.int (ln + (ln / (2 : Int32)))), .unset] []) _
        refine XS.iload Xk1.here hx rfl (hb hby at_336) rfl ?_
        refine XS.goto Xk1.here hx rfl (pc0 := 338) (pc' := 343) rfl (hb hby at_338) (by decide) (by decide) ?_
        refine XS.istore Xk1.here hx rfl (hb hby at_343) rfl (l' := #[.val (.int p1), .val (.int p2), .val (.int x), .val (.int y), .val (.int kk), .val (.int ln), .val (.ref t), .val (.ref a), .val (.ref bk1), .val (.int (ln + (ln / (2 : Int32)))), .val (.int (ln + (ln / (2 : Int32))))]) rfl ?_
        refine XS.aload Xk1.here hx rfl (hb hby at_345) rfl rfl ?_
        refine XS.aload Xk1.here hx rfl (hb hby at_347) rfl rfl ?_
        show Sp p e below Tk1 (mkF m 349 #[.val (.int p1), .val (.int p2), .val (.int x), .val (.int y), .val (.int kk), .val (.int ln), .val (.ref t), .val (.ref a), .val (.ref bk1), .val (.int (ln + (ln / (2 : Int32)))), .val (.int (ln + (ln / (2 : Int32))))] [(.ref a), (.ref bk1)]) _
        refine Jvm.RoadKit.acmp (g := (mkF m 349 #[.val (.int p1), .val (.int p2), .val (.int x), .val (.int y), .val (.int kk), .val (.int ln), .val (.ref t), .val (.ref a), .val (.ref bk1), .val (.int (ln + (ln / (2 : Int32)))), .val (.int (ln + (ln / (2 : Int32))))] [(.ref a), (.ref bk1)])) Xk1 hx rfl rfl rfl (pc0 := 349) (pc' := 352) (same := false) rfl (hb hby at_349) rfl (decide_eq_false fun q => ((Ne.symm ne22)) (Value.ref.inj q)) (by decide) (by decide) ?_
        show Sp p e below Tk1 (mkF m 352 #[.val (.int p1), .val (.int p2), .val (.int x), .val (.int y), .val (.int kk), .val (.int ln), .val (.ref t), .val (.ref a), .val (.ref bk1), .val (.int (ln + (ln / (2 : Int32)))), .val (.int (ln + (ln / (2 : Int32))))] []) _
        refine XS.aload Xk1.here hx rfl (hb hby at_352) rfl rfl ?_
        show Sp p e below Tk1 (mkF m 354 #[.val (.int p1), .val (.int p2), .val (.int x), .val (.int y), .val (.int kk), .val (.int ln), .val (.ref t), .val (.ref a), .val (.ref bk1), .val (.int (ln + (ln / (2 : Int32)))), .val (.int (ln + (ln / (2 : Int32))))] [(.ref bk1)]) _
        refine Xk1.arraylength hx (own_eq rfl Arv23.1) (State.isArrayOf_alike hZ.alike Arv23.2.1) (g := (mkF m 354 #[.val (.int p1), .val (.int p2), .val (.int x), .val (.int y), .val (.int kk), .val (.int ln), .val (.ref t), .val (.ref a), .val (.ref bk1), .val (.int (ln + (ln / (2 : Int32)))), .val (.int (ln + (ln / (2 : Int32))))] [(.ref bk1)])) rfl rfl (hb hby at_354) _ ?_
        rw [len_of Sv23 Nv23]
        show Sp p e below Tk1 (mkF m 355 #[.val (.int p1), .val (.int p2), .val (.int x), .val (.int y), .val (.int kk), .val (.int ln), .val (.ref t), .val (.ref a), .val (.ref bk1), .val (.int (ln + (ln / (2 : Int32)))), .val (.int (ln + (ln / (2 : Int32))))] [(.int r)]) _
        refine XS.iload Xk1.here hx rfl (hb hby at_355) rfl ?_
        refine XS.icmpYes Xk1.here hx rfl (pc0 := 357) (pc' := 362) rfl (hb hby at_357) rfl (teq (rq6 c4)).1 (by decide) (by decide) ?_
        refine XS.aload Xk1.here hx rfl (hb hby at_362) rfl rfl ?_
        refine XS.iload Xk1.here hx rfl (hb hby at_364) rfl ?_
        refine XS.iloadN Xk1.here hx rfl (hb hby at_366) rfl ?_
        refine XS.iloadN Xk1.here hx rfl (hb hby at_367) rfl ?_
        refine stk27 _ ?_
        refine XS.ifYes Xk27.here hx rfl (pc0 := 371) (pc' := 376) rfl (hb hby at_371) rfl ((if0 _ _).trans (feq (by decide : ¬ ((1 : Int32) = (0 : Int32)))).2) (by decide) (by decide) ?_
        refine XS.aload Xk27.here hx rfl (hb hby at_376) rfl rfl ?_
        refine XS.iconst Xk27.here hx rfl (hb hby at_378) ?_
        refine XS.iload Xk27.here hx rfl (hb hby at_379) rfl ?_
        refine XS.iloadN Xk27.here hx rfl (hb hby at_381) rfl ?_
        refine XS.iloadN Xk27.here hx rfl (hb hby at_382) rfl ?_
        refine stk28 _ ?_
        refine XS.ifNo Xk28.here hx rfl (hb hby at_386) rfl ((if0 _ _).trans (feq (by decide : ¬ ((1 : Int32) = (0 : Int32)))).1) ?_
        refine XS.aload Xk28.here hx rfl (hb hby at_389) rfl rfl ?_
        refine XS.iconst Xk28.here hx rfl (hb hby at_391) ?_
        refine XS.iload Xk28.here hx rfl (hb hby at_392) rfl ?_
        refine XS.iloadN Xk28.here hx rfl (hb hby at_394) rfl ?_
        refine XS.iloadN Xk28.here hx rfl (hb hby at_395) rfl ?_
        refine stk29 _ ?_
        show Sp p e below Tk29 (mkF m 399 #[.val (.int p1), .val (.int p2), .val (.int x), .val (.int y), .val (.int kk), .val (.int ln), .val (.ref t), .val (.ref a), .val (.ref bk1), .val (.int (ln + (ln / (2 : Int32)))), .val (.int (ln + (ln / (2 : Int32))))] [(.int (1 : Int32))]) _
        refine XS.ifNo Xk29.here hx rfl (hb hby at_399) rfl ((if0 _ _).trans (feq (by decide : ¬ ((1 : Int32) = (0 : Int32)))).1) ?_
        refine XS.aload Xk29.here hx rfl (hb hby at_402) rfl rfl ?_
        refine XS.iconst Xk29.here hx rfl (hb hby at_404) ?_
        refine XS.iload Xk29.here hx rfl (hb hby at_405) rfl ?_
        refine XS.iloadN Xk29.here hx rfl (hb hby at_407) rfl ?_
        refine XS.iloadN Xk29.here hx rfl (hb hby at_408) rfl ?_
        refine stk30 _ ?_
        refine XS.ifNo Xk30.here hx rfl (hb hby at_412) rfl ((if0 _ _).trans (feq (by decide : ¬ ((1 : Int32) = (0 : Int32)))).1) ?_
        refine XS.aload Xk30.here hx rfl (hb hby at_415) rfl rfl ?_
        refine XS.iconst Xk30.here hx rfl (hb hby at_417) ?_
        refine XS.iload Xk30.here hx rfl (hb hby at_418) rfl ?_
        refine XS.iloadN Xk30.here hx rfl (hb hby at_420) rfl ?_
        refine XS.iloadN Xk30.here hx rfl (hb hby at_421) rfl ?_
        refine stk31 _ ?_
        refine XS.ifNo Xk31.here hx rfl (hb hby at_425) rfl ((if0 _ _).trans (feq (by decide : ¬ ((1 : Int32) = (0 : Int32)))).1) ?_
        refine XS.aload Xk31.here hx rfl (hb hby at_428) rfl rfl ?_
        refine XS.iconst Xk31.here hx rfl (hb hby at_430) ?_
        refine XS.iload Xk31.here hx rfl (hb hby at_431) rfl ?_
        refine XS.iloadN Xk31.here hx rfl (hb hby at_433) rfl ?_
        refine XS.iloadN Xk31.here hx rfl (hb hby at_434) rfl ?_
        refine stk32 _ ?_
        show Sp p e below Tk32 (mkF m 438 #[.val (.int p1), .val (.int p2), .val (.int x), .val (.int y), .val (.int kk), .val (.int ln), .val (.ref t), .val (.ref a), .val (.ref bk1), .val (.int (ln + (ln / (2 : Int32)))), .val (.int (ln + (ln / (2 : Int32))))] [(.int (1 : Int32))]) _
        refine XS.ifNo Xk32.here hx rfl (hb hby at_438) rfl ((if0 _ _).trans (feq (by decide : ¬ ((1 : Int32) = (0 : Int32)))).1) ?_
        refine XS.aload Xk32.here hx rfl (hb hby at_441) rfl rfl ?_
        refine XS.iconst Xk32.here hx rfl (hb hby at_443) ?_
        refine XS.iload Xk32.here hx rfl (hb hby at_444) rfl ?_
        refine XS.iloadN Xk32.here hx rfl (hb hby at_446) rfl ?_
        refine XS.iloadN Xk32.here hx rfl (hb hby at_447) rfl ?_
        refine stk33 _ ?_
        refine XS.ifNo Xk33.here hx rfl (hb hby at_451) rfl ((if0 _ _).trans (feq (by decide : ¬ ((1 : Int32) = (0 : Int32)))).1) ?_
        refine XS.aload Xk33.here hx rfl (hb hby at_454) rfl rfl ?_
        refine XS.bipush Xk33.here hx rfl (hb hby at_456) ?_
        refine XS.iload Xk33.here hx rfl (hb hby at_458) rfl ?_
        refine XS.iloadN Xk33.here hx rfl (hb hby at_460) rfl ?_
        refine XS.iloadN Xk33.here hx rfl (hb hby at_461) rfl ?_
        refine stk34 _ ?_
        refine XS.ifNo Xk34.here hx rfl (hb hby at_465) rfl ((if0 _ _).trans (feq (by decide : ¬ ((1 : Int32) = (0 : Int32)))).1) ?_
        refine XS.aload Xk34.here hx rfl (hb hby at_468) rfl rfl ?_
        refine XS.bipush Xk34.here hx rfl (hb hby at_470) ?_
        refine XS.iload Xk34.here hx rfl (hb hby at_472) rfl ?_
        refine XS.iloadN Xk34.here hx rfl (hb hby at_474) rfl ?_
        refine XS.iloadN Xk34.here hx rfl (hb hby at_475) rfl ?_
        refine stk35 _ ?_
        show Sp p e below Tk35 (mkF m 479 #[.val (.int p1), .val (.int p2), .val (.int x), .val (.int y), .val (.int kk), .val (.int ln), .val (.ref t), .val (.ref a), .val (.ref bk1), .val (.int (ln + (ln / (2 : Int32)))), .val (.int (ln + (ln / (2 : Int32))))] [(.int (1 : Int32))]) _
        refine XS.ifNo Xk35.here hx rfl (hb hby at_479) rfl ((if0 _ _).trans (feq (by decide : ¬ ((1 : Int32) = (0 : Int32)))).1) ?_
        refine XS.aload Xk35.here hx rfl (hb hby at_482) rfl rfl ?_
        refine XS.bipush Xk35.here hx rfl (hb hby at_484) ?_
        refine XS.iload Xk35.here hx rfl (hb hby at_486) rfl ?_
        refine XS.iloadN Xk35.here hx rfl (hb hby at_488) rfl ?_
        refine XS.iloadN Xk35.here hx rfl (hb hby at_489) rfl ?_
        refine stk36 _ ?_
        refine XS.ifNo Xk36.here hx rfl (hb hby at_493) rfl ((if0 _ _).trans (feq (by decide : ¬ ((1 : Int32) = (0 : Int32)))).1) ?_
        refine XS.aload Xk36.here hx rfl (hb hby at_496) rfl rfl ?_
        refine XS.bipush Xk36.here hx rfl (hb hby at_498) ?_
        refine XS.iload Xk36.here hx rfl (hb hby at_500) rfl ?_
        refine XS.iloadN Xk36.here hx rfl (hb hby at_502) rfl ?_
        refine XS.iloadN Xk36.here hx rfl (hb hby at_503) rfl ?_
        refine stk37 _ ?_
        refine XS.ifNo Xk37.here hx rfl (hb hby at_507) rfl ((if0 _ _).trans (feq (by decide : ¬ ((1 : Int32) = (0 : Int32)))).1) ?_
        refine XS.iconst Xk37.here hx rfl (hb hby at_510) ?_
        refine XS.goto Xk37.here hx rfl (pc0 := 511) (pc' := 515) rfl (hb hby at_511) (by decide) (by decide) ?_
        show Sp p e below Tk37 (mkF m 515 #[.val (.int p1), .val (.int p2), .val (.int x), .val (.int y), .val (.int kk), .val (.int ln), .val (.ref t), .val (.ref a), .val (.ref bk1), .val (.int (ln + (ln / (2 : Int32)))), .val (.int (ln + (ln / (2 : Int32))))] [(.int (1 : Int32))]) _
        exact retN Xk37 hx (t := .boolean) hret (by simp) (hb hby at_515) hlv
      · show Q_law Z  n0 _ Tk37.heap _
        rw [ek37]
        exact ⟨rfl, Nk37⟩
  · obtain ⟨cqk39, kqk39, qk39a, qk39b, qk39c⟩ := isOf hZ e0 f0
    obtain ⟨_, _, ⟨Tk39, Lk39, kk39, nk39⟩, -, Xk39, ⟨Lck39, hQk39, lk39, yk39, zk39⟩, stk39⟩ := X0.virtualBack hx (y := Y13) (z := Y13) hown (mvT hZ (tw hw 24 rfl)) (mvT hZ (tw hw 25 rfl)) (notFace_of_selects (args := #[]) (mvT hZ (tw hw 27 rfl))) (mvT hZ (tw hw 27 rfl)) (mvT hZ (tw hw 26 rfl)) (by decide) (backOf (W := 0) (rm_fits_ l Z a0 hw [] t a ka ln vs kk  h0 n0 Z0 O0 f1 f2 clk) hZ (tw hw 28 rfl) (tw hw 3 rfl) (by decide) (by decide)) qk39a qk39c (g := (mkF m 283 #[.val (.int p1), .val (.int p2), .val (.int x), .val (.int y), .val (.int kk), .val (.int ln), .val (.ref t), .val (.ref a), .unset, .unset, .unset] [(.ref a), (.ref t)])) rfl (by rw [hml]; rfl) (Steps.refl _) (argsL := [(.ref a)]) (rest := []) (lenOf pd___I__I rfl) rfl (by show 2 * 0 + _ ≤ _; exact Nat.le_of_eq rfl) (hb hby at_283) (fun _ _ => ⟨rfl, e0, (by decide : 60 + 0 ≤ _), (by decide : 90000 + 0 ≤ _)⟩)
    dsimp only [Pt.U, Pt.locs, Pt.cells, Pt.slots] at Xk39 lk39 yk39 zk39 stk39 hQk39
    subst lk39 yk39 zk39
    obtain ⟨rfl, Nk39q, ek39⟩ := hQk39
    have Nk39 := Fr.app N0 Nk39q
    obtain ⟨_, _, ⟨Tk40, Lk40, kk40, nk40⟩, -, Xk40, ⟨Lck40, hQk40, lk40, yk40, zk40⟩, stk40⟩ := Jvm.LawKit.callS Xk39 hx (y := Y18) hown (mvT hZ (tw hw 31 rfl)) (mvT hZ (tw hw 32 rfl)) (mvT hZ (tw hw 22 rfl)) (mvT hZ (tw hw 33 rfl)) (by decide) (backOf (W := 0) (rm_same l Z a0 hw [] a ln x y ka vs  h0 n0 Z0 O0 f2 hv0 hv1 hv2 hv3 hv4 hv5 hv6 hv7) hZ (tw hw 33 rfl) (tw hw 22 rfl) (by decide) (by decide)) (g := (mkF m 308 #[.val (.int p1), .val (.int p2), .val (.int x), .val (.int y), .val (.int kk), .val (.int ln), .val (.ref t), .val (.ref a), .val (.ref a), .unset, .unset] [(.int y), (.int x), (.int ln), (.ref a)])) rfl (by rw [hml]; rfl) (argsL := [(.ref a), (.int ln), (.int x), (.int y)]) (rest := []) (lenOf pd___IIII_Z rfl) rfl (by show 2 * 0 + _ ≤ _; exact Nat.le_of_eq rfl) (hb hby at_308) (fun _ _ => ⟨rfl, ek39, (by decide : 60 + 0 ≤ _), (by decide : 90000 + 0 ≤ _)⟩)
    dsimp only [Pt.U, Pt.locs, Pt.cells, Pt.slots] at Xk40 lk40 yk40 zk40 stk40 hQk40
    subst lk40 yk40 zk40
    obtain ⟨rfl, Nk40q, ek40⟩ := hQk40
    have Nk40 := Fr.app Nk39 Nk40q
    obtain ⟨fs, hlv, hrun, hended, hw1, hw2, hw3, hsame⟩ := Xk40.leaveW hS (Nat.le_trans hk0 ((ek40).symm ▸ (Nat.le_refl h0.size))) (v := some (.int (1 : Int32))) (fun h => by rw [hret] at h; cases h)
    refine ⟨_, _, pre0 _ ?_, hrun, hended, _, _, rfl, ?_, hw1, hw2, hw3, hsame.mono (by decide) (by decide)⟩
    · refine XS.aload X0.here hx rfl (hb hby at_279) rfl rfl ?_
      show Sp p e below T0 (mkF m 281 #[.val (.int p1), .val (.int p2), .val (.int x), .val (.int y), .val (.int kk), .val (.int ln), .val (.ref t), .val (.ref a), .unset, .unset, .unset] [(.ref t)]) _
      refine XS.aload X0.here hx rfl (hb hby at_281) rfl rfl ?_
      refine stk39.trans ?_
      refine XS.astore Xk39.here hx rfl (hb hby at_286) rfl rfl (l' := #[.val (.int p1), .val (.int p2), .val (.int x), .val (.int y), .val (.int kk), .val (.int ln), .val (.ref t), .val (.ref a), .val (.ref a), .unset, .unset]) rfl ?_
      refine XS.iload Xk39.here hx rfl (hb hby at_288) rfl ?_
      refine XS.iload Xk39.here hx rfl (hb hby at_290) rfl ?_
      refine XS.icmpNo Xk39.here hx rfl (hb hby at_292) rfl (flt clk).1 ?_
      refine XS.aload Xk39.here hx rfl (hb hby at_295) rfl rfl ?_
      refine XS.aload Xk39.here hx rfl (hb hby at_297) rfl rfl ?_
      show Sp p e below Tk39 (mkF m 299 #[.val (.int p1), .val (.int p2), .val (.int x), .val (.int y), .val (.int kk), .val (.int ln), .val (.ref t), .val (.ref a), .val (.ref a), .unset, .unset] [(.ref a), (.ref a)]) _
      refine Jvm.RoadKit.acmp (g := (mkF m 299 #[.val (.int p1), .val (.int p2), .val (.int x), .val (.int y), .val (.int kk), .val (.int ln), .val (.ref t), .val (.ref a), .val (.ref a), .unset, .unset] [(.ref a), (.ref a)])) Xk39 hx rfl rfl rfl (pc0 := 299) (pc' := 302) (same := true) rfl (hb hby at_299) rfl (decide_eq_true rfl) (by decide) (by decide) ?_
      show Sp p e below Tk39 (mkF m 302 #[.val (.int p1), .val (.int p2), .val (.int x), .val (.int y), .val (.int kk), .val (.int ln), .val (.ref t), .val (.ref a), .val (.ref a), .unset, .unset] []) _
      refine XS.aload Xk39.here hx rfl (hb hby at_302) rfl rfl ?_
      refine XS.iload Xk39.here hx rfl (hb hby at_304) rfl ?_
      refine XS.iloadN Xk39.here hx rfl (hb hby at_306) rfl ?_
      refine XS.iloadN Xk39.here hx rfl (hb hby at_307) rfl ?_
      refine stk40 _ ?_
      refine XS.ifNo Xk40.here hx rfl (hb hby at_311) rfl ((if0 _ _).trans (feq (by decide : ¬ ((1 : Int32) = (0 : Int32)))).1) ?_
      refine XS.iconst Xk40.here hx rfl (hb hby at_314) ?_
      refine XS.goto Xk40.here hx rfl (pc0 := 315) (pc' := 319) rfl (hb hby at_315) (by decide) (by decide) ?_
      show Sp p e below Tk40 (mkF m 319 #[.val (.int p1), .val (.int p2), .val (.int x), .val (.int y), .val (.int kk), .val (.int ln), .val (.ref t), .val (.ref a), .val (.ref a), .unset, .unset] [(.int (1 : Int32))]) _
      exact retN Xk40 hx (t := .boolean) hret (by simp) (hb hby at_319) hlv
    · show Q_law Z  n0 _ Tk40.heap _
      rw [ek40]
      exact ⟨rfl, Nk40⟩
set_option maxRecDepth 65536 in
set_option maxHeartbeats 40000000 in
theorem tl_p2 (p : Program) (l : Launch) (e : Env) (s : State) (m : MethodId) (args : Array Value) (below : List Frame) (meth : Method) (c : Code) (T0 : State) (locs : List Loc) (vm0 : Vm) (k0 : Nat) (Z : State) (a0 : Array Value) (hw : ∀ d ∈ tables_1, d.before a0 Z = true) (p1 : Int32) (p2 : Int32) (x : Int32) (y : Int32) (kk : Int32) (ln : Int32) (t : Addr) (h0 : Heap) (n0 : Nat)
    (X0 : Stand p l e room_1 (s.setVm vm0) m args below meth c T0 locs 59 89000) (hx : p.tables.exec = Jvm.exec) (hZ : Z.Warmed39 (s.setVm vm0).vm) (hby : c.code = code) (hml : c.maxLocals = 11) (hown : (s.setVm vm0).vm.findClass S2 = some m.cls) (hret : meth.sig.returnType = (some .boolean)) (hlk : meth.locks = false) (hS : s.Since vm0 k0) (hk0 : k0 ≤ h0.size) (e0 : T0.heap = h0) (N0 : Fr n0 locs) (Z0 : n0 ≤ h0.size) (O0 : Old Z n0 h0) (f0 : Exa Z h0 t S1) (f1 : Fld Z h0 t S1 "size" "I" (.int kk)) (hk : ¬ (kk < 0) ∧ ¬ ((8 : Int32) < kk)) (hl : ¬ (ln < 0) ∧ ¬ ((8 : Int32) < ln)) :
    ∃ s₂ o, Sp p e below T0 (mkF m 140 #[.val (.int p1), .val (.int p2), .val (.int x), .val (.int y), .val (.int kk), .val (.int ln), .val (.ref t), .unset, .unset, .unset, .unset] []) s₂ ∧ s₂.status = .running ∧ Ended s₂ below o ∧ ∃ v L, o = .returned v ∧ Q_law Z  n0 v s₂.heap L ∧ ReturnedEndW s o s₂ L room_1.cells room_1.slots := by
  have pre0 : ∀ t_, Sp p e below T0 (mkF m 140 #[.val (.int p1), .val (.int p2), .val (.int x), .val (.int y), .val (.int kk), .val (.int ln), .val (.ref t), .unset, .unset, .unset, .unset] []) t_ → Sp p e below T0 (mkF m 140 #[.val (.int p1), .val (.int p2), .val (.int x), .val (.int y), .val (.int kk), .val (.int ln), .val (.ref t), .unset, .unset, .unset, .unset] []) t_ := fun t_ k_ => k_
  obtain ⟨Ta1, ha1, ka1, Xa1, ea1, Ea1, Aa1, Ba1, sta1⟩ := newPE X0 hx hZ (tw hw 13 rfl) e0 (g := (mkF m 142 #[.val (.int p1), .val (.int p2), .val (.int x), .val (.int y), .val (.int kk), .val (.int ln), .val (.ref t), .unset, .unset, .unset, .unset] [(.int ln)])) rfl (hb hby at_142) rfl hl.1 (cap := 8) (own_cap8 hl) (by decide) (by decide) (by decide) (ad := "[I") (by decide)
  obtain ⟨ba1, ga1⟩ : ∃ z, z = h0.size := ⟨_, rfl⟩
  rw [← ga1] at Aa1 Ba1 sta1
  have g_ba1 : n0 ≤ ba1 := Nat.le_trans Z0 (Nat.le_of_eq ga1.symm)
  have y_ba1 : h0.size ≤ ba1 := Nat.le_trans (Nat.le_refl h0.size) (Nat.le_of_eq ga1.symm)
  have Va1 : Arv Z ha1 ba1 ka1 .int ln [(.int (0 : Int32)), (.int (0 : Int32)), (.int (0 : Int32)), (.int (0 : Int32)), (.int (0 : Int32)), (.int (0 : Int32)), (.int (0 : Int32)), (.int (0 : Int32))] (.int (0 : Int32)) := (Arv.new Aa1 hl.1).pad (pad_rep [] (.int (0 : Int32)) 8)
  have K2 : Keep h0 ha1 [] := (Keep.refl h0 []).ext Ea1
  have r3 : ∀ t_, Sp p e below Ta1 (mkF m 148 #[.val (.int p1), .val (.int p2), .val (.int x), .val (.int y), .val (.int kk), .val (.int ln), .val (.ref t), .val (.ref ba1), .unset, .unset, .unset] [(.int ln)]) t_ → Sp p e below T0 (mkF m 140 #[.val (.int p1), .val (.int p2), .val (.int x), .val (.int y), .val (.int kk), .val (.int ln), .val (.ref t), .unset, .unset, .unset, .unset] []) t_ := by
    intro t_ k_
    refine pre0 _ ?_
    refine XS.iload X0.here hx rfl (hb hby at_140) rfl ?_
    refine sta1 _ ?_
    refine XS.astore Xa1.here hx rfl (hb hby at_144) rfl rfl (l' := #[.val (.int p1), .val (.int p2), .val (.int x), .val (.int y), .val (.int kk), .val (.int ln), .val (.ref t), .val (.ref ba1), .unset, .unset, .unset]) rfl ?_
    refine XS.iload Xa1.here hx rfl (hb hby at_146) rfl ?_
    show Sp p e below Ta1 (mkF m 148 #[.val (.int p1), .val (.int p2), .val (.int x), .val (.int y), .val (.int kk), .val (.int ln), .val (.ref t), .val (.ref ba1), .unset, .unset, .unset] [(.int ln)]) _
    exact k_
  by_cases c4 : (0 : Int32) < ln
  · have Z5 : n0 ≤ ha1.size := (Nat.le_trans Z0 Ea1.1)
    have O6 : Old Z n0 ha1 := (O0.ext Ea1)
    obtain ⟨_, _, ⟨Tk7, Lk7, kk7, nk7⟩, -, Xk7, ⟨Lck7, hQk7, lk7, yk7, zk7⟩, stk7⟩ := Jvm.LawKit.callS Xa1 hx (y := Y16) hown (mvT hZ (tw hw 20 rfl)) (mvT hZ (tw hw 21 rfl)) (mvT hZ (tw hw 22 rfl)) (mvT hZ (tw hw 23 rfl)) (by decide) (backOf (W := 2) (rm_vv l Z a0 hw [] (0 : Int32) x y  ha1 n0 Z5 O6) hZ (tw hw 23 rfl) (tw hw 22 rfl) (by decide) (by decide)) (g := (mkF m 157 #[.val (.int p1), .val (.int p2), .val (.int x), .val (.int y), .val (.int kk), .val (.int ln), .val (.ref t), .val (.ref ba1), .unset, .unset, .unset] [(.int y), (.int x), (.int (0 : Int32)), (.int (0 : Int32)), (.ref ba1)])) rfl (by rw [hml]; rfl) (argsL := [(.int (0 : Int32)), (.int x), (.int y)]) (rest := [(.int (0 : Int32)), (.ref ba1)]) (lenOf pd__III_I rfl) rfl (by show 2 * 0 + _ ≤ _; exact Nat.le_of_eq rfl) (hb hby at_157) (fun _ _ => ⟨rfl, ea1, (by decide : 60 + 0 ≤ _), (by decide : 89008 + 0 ≤ _)⟩)
    dsimp only [Pt.U, Pt.locs, Pt.cells, Pt.slots] at Xk7 lk7 yk7 zk7 stk7 hQk7
    subst lk7 yk7 zk7
    obtain ⟨rfl, Nk7q, ek7⟩ := hQk7
    have Nk7 := Fr.app N0 Nk7q
    obtain ⟨clv8, Arv8, qv8, Sv8, Nv8, Hv8, Gv8⟩ := id Va1
    have in9 : ¬ ((0 : Int32) < 0 ∨ clv8.slots.size ≤ ((0 : Int32)).toNatClampNeg) := inb_of Sv8 ⟨by decide, c4⟩
    obtain ⟨Tw10, hw10, Xw10, ew10, Ww10, stw10⟩ := stI Xk7 hx hZ ek7 Arv8 (j := (0 : Int32)) in9 (g := (mkF m 160 #[.val (.int p1), .val (.int p2), .val (.int x), .val (.int y), .val (.int kk), .val (.int ln), .val (.ref t), .val (.ref ba1), .unset, .unset, .unset] [(.int (x ^^^ ((y * (0 : Int32)) + (0 : Int32)))), (.int (0 : Int32)), (.ref ba1)])) rfl rfl (hb hby at_160)
    have Vw10 : Arv Z hw10 ba1 ka1 .int ln [(.int (x ^^^ ((y * (0 : Int32)) + (0 : Int32)))), (.int (0 : Int32)), (.int (0 : Int32)), (.int (0 : Int32)), (.int (0 : Int32)), (.int (0 : Int32)), (.int (0 : Int32)), (.int (0 : Int32))] (.int (0 : Int32)) := Arv.set Arv8 qv8 Sv8 Nv8 Hv8 Gv8 rfl Ww10 0 rfl (Nat.le_of_ble_eq_true rfl)
    have Nw10 := Fr.snoc Xw10 Nk7 g_ba1
    have K11 : Keep h0 hw10 [] := K2.wr Ww10 (Or.inr y_ba1)
    have r12 : ∀ t_, Sp p e below Tw10 (mkF m 164 #[.val (.int p1), .val (.int p2), .val (.int x), .val (.int y), .val (.int kk), .val (.int ln), .val (.ref t), .val (.ref ba1), .unset, .unset, .unset] [(.int (1 : Int32)), (.int ln)]) t_ → Sp p e below T0 (mkF m 140 #[.val (.int p1), .val (.int p2), .val (.int x), .val (.int y), .val (.int kk), .val (.int ln), .val (.ref t), .unset, .unset, .unset, .unset] []) t_ := by
      intro t_ k_
      refine r3 _ ?_
      refine XS.ifNo Xa1.here hx rfl (hb hby at_148) rfl ((if0 _ _).trans (tlt c4).2.2.2) ?_
      refine XS.aload Xa1.here hx rfl (hb hby at_151) rfl rfl ?_
      refine XS.iconst Xa1.here hx rfl (hb hby at_153) ?_
      refine XS.iconst Xa1.here hx rfl (hb hby at_154) ?_
      refine XS.iloadN Xa1.here hx rfl (hb hby at_155) rfl ?_
      refine XS.iloadN Xa1.here hx rfl (hb hby at_156) rfl ?_
      refine stk7 _ ?_
      refine stw10 _ ?_
      refine XS.iload Xw10.here hx rfl (hb hby at_161) rfl ?_
      refine XS.iconst Xw10.here hx rfl (hb hby at_163) ?_
      show Sp p e below Tw10 (mkF m 164 #[.val (.int p1), .val (.int p2), .val (.int x), .val (.int y), .val (.int kk), .val (.int ln), .val (.ref t), .val (.ref ba1), .unset, .unset, .unset] [(.int (1 : Int32)), (.int ln)]) _
      exact k_
    by_cases c13 : (1 : Int32) < ln
    · have Z14 : n0 ≤ hw10.size := (Nat.le_trans Z5 (Keep.of_wr Ww10).1)
      have O15 : Old Z n0 hw10 := (O6.wr Ww10 g_ba1)
      obtain ⟨_, _, ⟨Tk16, Lk16, kk16, nk16⟩, -, Xk16, ⟨Lck16, hQk16, lk16, yk16, zk16⟩, stk16⟩ := Jvm.LawKit.callS Xw10 hx (y := Y16) hown (mvT hZ (tw hw 20 rfl)) (mvT hZ (tw hw 21 rfl)) (mvT hZ (tw hw 22 rfl)) (mvT hZ (tw hw 23 rfl)) (by decide) (backOf (W := 2) (rm_vv l Z a0 hw [] (1 : Int32) x y  hw10 n0 Z14 O15) hZ (tw hw 23 rfl) (tw hw 22 rfl) (by decide) (by decide)) (g := (mkF m 173 #[.val (.int p1), .val (.int p2), .val (.int x), .val (.int y), .val (.int kk), .val (.int ln), .val (.ref t), .val (.ref ba1), .unset, .unset, .unset] [(.int y), (.int x), (.int (1 : Int32)), (.int (1 : Int32)), (.ref ba1)])) rfl (by rw [hml]; rfl) (argsL := [(.int (1 : Int32)), (.int x), (.int y)]) (rest := [(.int (1 : Int32)), (.ref ba1)]) (lenOf pd__III_I rfl) rfl (by show 2 * 0 + _ ≤ _; exact Nat.le_of_eq rfl) (hb hby at_173) (fun _ _ => ⟨rfl, ew10, (by decide : 60 + 0 ≤ _), (by decide : 89008 + 0 ≤ _)⟩)
      dsimp only [Pt.U, Pt.locs, Pt.cells, Pt.slots] at Xk16 lk16 yk16 zk16 stk16 hQk16
      subst lk16 yk16 zk16
      obtain ⟨rfl, Nk16q, ek16⟩ := hQk16
      have Nk16 := Fr.app Nw10 Nk16q
      obtain ⟨clv17, Arv17, qv17, Sv17, Nv17, Hv17, Gv17⟩ := id Vw10
      have in18 : ¬ ((1 : Int32) < 0 ∨ clv17.slots.size ≤ ((1 : Int32)).toNatClampNeg) := inb_of Sv17 ⟨by decide, c13⟩
      obtain ⟨Tw19, hw19, Xw19, ew19, Ww19, stw19⟩ := stI Xk16 hx hZ ek16 Arv17 (j := (1 : Int32)) in18 (g := (mkF m 176 #[.val (.int p1), .val (.int p2), .val (.int x), .val (.int y), .val (.int kk), .val (.int ln), .val (.ref t), .val (.ref ba1), .unset, .unset, .unset] [(.int (x ^^^ ((y * (1 : Int32)) + (1 : Int32)))), (.int (1 : Int32)), (.ref ba1)])) rfl rfl (hb hby at_176)
      have Vw19 : Arv Z hw19 ba1 ka1 .int ln [(.int (x ^^^ ((y * (0 : Int32)) + (0 : Int32)))), (.int (x ^^^ ((y * (1 : Int32)) + (1 : Int32)))), (.int (0 : Int32)), (.int (0 : Int32)), (.int (0 : Int32)), (.int (0 : Int32)), (.int (0 : Int32)), (.int (0 : Int32))] (.int (0 : Int32)) := Arv.set Arv17 qv17 Sv17 Nv17 Hv17 Gv17 rfl Ww19 1 rfl (Nat.le_of_ble_eq_true rfl)
      have Nw19 := Fr.snoc Xw19 Nk16 g_ba1
      have K20 : Keep h0 hw19 [] := K11.wr Ww19 (Or.inr y_ba1)
      have r21 : ∀ t_, Sp p e below Tw19 (mkF m 180 #[.val (.int p1), .val (.int p2), .val (.int x), .val (.int y), .val (.int kk), .val (.int ln), .val (.ref t), .val (.ref ba1), .unset, .unset, .unset] [(.int (2 : Int32)), (.int ln)]) t_ → Sp p e below T0 (mkF m 140 #[.val (.int p1), .val (.int p2), .val (.int x), .val (.int y), .val (.int kk), .val (.int ln), .val (.ref t), .unset, .unset, .unset, .unset] []) t_ := by
        intro t_ k_
        refine r12 _ ?_
        refine XS.icmpNo Xw10.here hx rfl (hb hby at_164) rfl (tlt c13).2.2.2 ?_
        refine XS.aload Xw10.here hx rfl (hb hby at_167) rfl rfl ?_
        refine XS.iconst Xw10.here hx rfl (hb hby at_169) ?_
        refine XS.iconst Xw10.here hx rfl (hb hby at_170) ?_
        refine XS.iloadN Xw10.here hx rfl (hb hby at_171) rfl ?_
        refine XS.iloadN Xw10.here hx rfl (hb hby at_172) rfl ?_
        refine stk16 _ ?_
        refine stw19 _ ?_
        refine XS.iload Xw19.here hx rfl (hb hby at_177) rfl ?_
        refine XS.iconst Xw19.here hx rfl (hb hby at_179) ?_
        show Sp p e below Tw19 (mkF m 180 #[.val (.int p1), .val (.int p2), .val (.int x), .val (.int y), .val (.int kk), .val (.int ln), .val (.ref t), .val (.ref ba1), .unset, .unset, .unset] [(.int (2 : Int32)), (.int ln)]) _
        exact k_
      by_cases c22 : (2 : Int32) < ln
      · have Z23 : n0 ≤ hw19.size := (Nat.le_trans Z14 (Keep.of_wr Ww19).1)
        have O24 : Old Z n0 hw19 := (O15.wr Ww19 g_ba1)
        obtain ⟨_, _, ⟨Tk25, Lk25, kk25, nk25⟩, -, Xk25, ⟨Lck25, hQk25, lk25, yk25, zk25⟩, stk25⟩ := Jvm.LawKit.callS Xw19 hx (y := Y16) hown (mvT hZ (tw hw 20 rfl)) (mvT hZ (tw hw 21 rfl)) (mvT hZ (tw hw 22 rfl)) (mvT hZ (tw hw 23 rfl)) (by decide) (backOf (W := 2) (rm_vv l Z a0 hw [] (2 : Int32) x y  hw19 n0 Z23 O24) hZ (tw hw 23 rfl) (tw hw 22 rfl) (by decide) (by decide)) (g := (mkF m 189 #[.val (.int p1), .val (.int p2), .val (.int x), .val (.int y), .val (.int kk), .val (.int ln), .val (.ref t), .val (.ref ba1), .unset, .unset, .unset] [(.int y), (.int x), (.int (2 : Int32)), (.int (2 : Int32)), (.ref ba1)])) rfl (by rw [hml]; rfl) (argsL := [(.int (2 : Int32)), (.int x), (.int y)]) (rest := [(.int (2 : Int32)), (.ref ba1)]) (lenOf pd__III_I rfl) rfl (by show 2 * 0 + _ ≤ _; exact Nat.le_of_eq rfl) (hb hby at_189) (fun _ _ => ⟨rfl, ew19, (by decide : 60 + 0 ≤ _), (by decide : 89008 + 0 ≤ _)⟩)
        dsimp only [Pt.U, Pt.locs, Pt.cells, Pt.slots] at Xk25 lk25 yk25 zk25 stk25 hQk25
        subst lk25 yk25 zk25
        obtain ⟨rfl, Nk25q, ek25⟩ := hQk25
        have Nk25 := Fr.app Nw19 Nk25q
        obtain ⟨clv26, Arv26, qv26, Sv26, Nv26, Hv26, Gv26⟩ := id Vw19
        have in27 : ¬ ((2 : Int32) < 0 ∨ clv26.slots.size ≤ ((2 : Int32)).toNatClampNeg) := inb_of Sv26 ⟨by decide, c22⟩
        obtain ⟨Tw28, hw28, Xw28, ew28, Ww28, stw28⟩ := stI Xk25 hx hZ ek25 Arv26 (j := (2 : Int32)) in27 (g := (mkF m 192 #[.val (.int p1), .val (.int p2), .val (.int x), .val (.int y), .val (.int kk), .val (.int ln), .val (.ref t), .val (.ref ba1), .unset, .unset, .unset] [(.int (x ^^^ ((y * (2 : Int32)) + (2 : Int32)))), (.int (2 : Int32)), (.ref ba1)])) rfl rfl (hb hby at_192)
        have Vw28 : Arv Z hw28 ba1 ka1 .int ln [(.int (x ^^^ ((y * (0 : Int32)) + (0 : Int32)))), (.int (x ^^^ ((y * (1 : Int32)) + (1 : Int32)))), (.int (x ^^^ ((y * (2 : Int32)) + (2 : Int32)))), (.int (0 : Int32)), (.int (0 : Int32)), (.int (0 : Int32)), (.int (0 : Int32)), (.int (0 : Int32))] (.int (0 : Int32)) := Arv.set Arv26 qv26 Sv26 Nv26 Hv26 Gv26 rfl Ww28 2 rfl (Nat.le_of_ble_eq_true rfl)
        have Nw28 := Fr.snoc Xw28 Nk25 g_ba1
        have K29 : Keep h0 hw28 [] := K20.wr Ww28 (Or.inr y_ba1)
        have r30 : ∀ t_, Sp p e below Tw28 (mkF m 196 #[.val (.int p1), .val (.int p2), .val (.int x), .val (.int y), .val (.int kk), .val (.int ln), .val (.ref t), .val (.ref ba1), .unset, .unset, .unset] [(.int (3 : Int32)), (.int ln)]) t_ → Sp p e below T0 (mkF m 140 #[.val (.int p1), .val (.int p2), .val (.int x), .val (.int y), .val (.int kk), .val (.int ln), .val (.ref t), .unset, .unset, .unset, .unset] []) t_ := by
          intro t_ k_
          refine r21 _ ?_
          refine XS.icmpNo Xw19.here hx rfl (hb hby at_180) rfl (tlt c22).2.2.2 ?_
          refine XS.aload Xw19.here hx rfl (hb hby at_183) rfl rfl ?_
          refine XS.iconst Xw19.here hx rfl (hb hby at_185) ?_
          refine XS.iconst Xw19.here hx rfl (hb hby at_186) ?_
          refine XS.iloadN Xw19.here hx rfl (hb hby at_187) rfl ?_
          refine XS.iloadN Xw19.here hx rfl (hb hby at_188) rfl ?_
          refine stk25 _ ?_
          refine stw28 _ ?_
          refine XS.iload Xw28.here hx rfl (hb hby at_193) rfl ?_
          refine XS.iconst Xw28.here hx rfl (hb hby at_195) ?_
          show Sp p e below Tw28 (mkF m 196 #[.val (.int p1), .val (.int p2), .val (.int x), .val (.int y), .val (.int kk), .val (.int ln), .val (.ref t), .val (.ref ba1), .unset, .unset, .unset] [(.int (3 : Int32)), (.int ln)]) _
          exact k_
        by_cases c31 : (3 : Int32) < ln
        · have Z32 : n0 ≤ hw28.size := (Nat.le_trans Z23 (Keep.of_wr Ww28).1)
          have O33 : Old Z n0 hw28 := (O24.wr Ww28 g_ba1)
          obtain ⟨_, _, ⟨Tk34, Lk34, kk34, nk34⟩, -, Xk34, ⟨Lck34, hQk34, lk34, yk34, zk34⟩, stk34⟩ := Jvm.LawKit.callS Xw28 hx (y := Y16) hown (mvT hZ (tw hw 20 rfl)) (mvT hZ (tw hw 21 rfl)) (mvT hZ (tw hw 22 rfl)) (mvT hZ (tw hw 23 rfl)) (by decide) (backOf (W := 2) (rm_vv l Z a0 hw [] (3 : Int32) x y  hw28 n0 Z32 O33) hZ (tw hw 23 rfl) (tw hw 22 rfl) (by decide) (by decide)) (g := (mkF m 205 #[.val (.int p1), .val (.int p2), .val (.int x), .val (.int y), .val (.int kk), .val (.int ln), .val (.ref t), .val (.ref ba1), .unset, .unset, .unset] [(.int y), (.int x), (.int (3 : Int32)), (.int (3 : Int32)), (.ref ba1)])) rfl (by rw [hml]; rfl) (argsL := [(.int (3 : Int32)), (.int x), (.int y)]) (rest := [(.int (3 : Int32)), (.ref ba1)]) (lenOf pd__III_I rfl) rfl (by show 2 * 0 + _ ≤ _; exact Nat.le_of_eq rfl) (hb hby at_205) (fun _ _ => ⟨rfl, ew28, (by decide : 60 + 0 ≤ _), (by decide : 89008 + 0 ≤ _)⟩)
          dsimp only [Pt.U, Pt.locs, Pt.cells, Pt.slots] at Xk34 lk34 yk34 zk34 stk34 hQk34
          subst lk34 yk34 zk34
          obtain ⟨rfl, Nk34q, ek34⟩ := hQk34
          have Nk34 := Fr.app Nw28 Nk34q
          obtain ⟨clv35, Arv35, qv35, Sv35, Nv35, Hv35, Gv35⟩ := id Vw28
          have in36 : ¬ ((3 : Int32) < 0 ∨ clv35.slots.size ≤ ((3 : Int32)).toNatClampNeg) := inb_of Sv35 ⟨by decide, c31⟩
          obtain ⟨Tw37, hw37, Xw37, ew37, Ww37, stw37⟩ := stI Xk34 hx hZ ek34 Arv35 (j := (3 : Int32)) in36 (g := (mkF m 208 #[.val (.int p1), .val (.int p2), .val (.int x), .val (.int y), .val (.int kk), .val (.int ln), .val (.ref t), .val (.ref ba1), .unset, .unset, .unset] [(.int (x ^^^ ((y * (3 : Int32)) + (3 : Int32)))), (.int (3 : Int32)), (.ref ba1)])) rfl rfl (hb hby at_208)
          have Vw37 : Arv Z hw37 ba1 ka1 .int ln [(.int (x ^^^ ((y * (0 : Int32)) + (0 : Int32)))), (.int (x ^^^ ((y * (1 : Int32)) + (1 : Int32)))), (.int (x ^^^ ((y * (2 : Int32)) + (2 : Int32)))), (.int (x ^^^ ((y * (3 : Int32)) + (3 : Int32)))), (.int (0 : Int32)), (.int (0 : Int32)), (.int (0 : Int32)), (.int (0 : Int32))] (.int (0 : Int32)) := Arv.set Arv35 qv35 Sv35 Nv35 Hv35 Gv35 rfl Ww37 3 rfl (Nat.le_of_ble_eq_true rfl)
          have Nw37 := Fr.snoc Xw37 Nk34 g_ba1
          have K38 : Keep h0 hw37 [] := K29.wr Ww37 (Or.inr y_ba1)
          have r39 : ∀ t_, Sp p e below Tw37 (mkF m 212 #[.val (.int p1), .val (.int p2), .val (.int x), .val (.int y), .val (.int kk), .val (.int ln), .val (.ref t), .val (.ref ba1), .unset, .unset, .unset] [(.int (4 : Int32)), (.int ln)]) t_ → Sp p e below T0 (mkF m 140 #[.val (.int p1), .val (.int p2), .val (.int x), .val (.int y), .val (.int kk), .val (.int ln), .val (.ref t), .unset, .unset, .unset, .unset] []) t_ := by
            intro t_ k_
            refine r30 _ ?_
            refine XS.icmpNo Xw28.here hx rfl (hb hby at_196) rfl (tlt c31).2.2.2 ?_
            refine XS.aload Xw28.here hx rfl (hb hby at_199) rfl rfl ?_
            refine XS.iconst Xw28.here hx rfl (hb hby at_201) ?_
            refine XS.iconst Xw28.here hx rfl (hb hby at_202) ?_
            refine XS.iloadN Xw28.here hx rfl (hb hby at_203) rfl ?_
            refine XS.iloadN Xw28.here hx rfl (hb hby at_204) rfl ?_
            refine stk34 _ ?_
            refine stw37 _ ?_
            refine XS.iload Xw37.here hx rfl (hb hby at_209) rfl ?_
            refine XS.iconst Xw37.here hx rfl (hb hby at_211) ?_
            show Sp p e below Tw37 (mkF m 212 #[.val (.int p1), .val (.int p2), .val (.int x), .val (.int y), .val (.int kk), .val (.int ln), .val (.ref t), .val (.ref ba1), .unset, .unset, .unset] [(.int (4 : Int32)), (.int ln)]) _
            exact k_
          by_cases c40 : (4 : Int32) < ln
          · have Z41 : n0 ≤ hw37.size := (Nat.le_trans Z32 (Keep.of_wr Ww37).1)
            have O42 : Old Z n0 hw37 := (O33.wr Ww37 g_ba1)
            obtain ⟨_, _, ⟨Tk43, Lk43, kk43, nk43⟩, -, Xk43, ⟨Lck43, hQk43, lk43, yk43, zk43⟩, stk43⟩ := Jvm.LawKit.callS Xw37 hx (y := Y16) hown (mvT hZ (tw hw 20 rfl)) (mvT hZ (tw hw 21 rfl)) (mvT hZ (tw hw 22 rfl)) (mvT hZ (tw hw 23 rfl)) (by decide) (backOf (W := 2) (rm_vv l Z a0 hw [] (4 : Int32) x y  hw37 n0 Z41 O42) hZ (tw hw 23 rfl) (tw hw 22 rfl) (by decide) (by decide)) (g := (mkF m 221 #[.val (.int p1), .val (.int p2), .val (.int x), .val (.int y), .val (.int kk), .val (.int ln), .val (.ref t), .val (.ref ba1), .unset, .unset, .unset] [(.int y), (.int x), (.int (4 : Int32)), (.int (4 : Int32)), (.ref ba1)])) rfl (by rw [hml]; rfl) (argsL := [(.int (4 : Int32)), (.int x), (.int y)]) (rest := [(.int (4 : Int32)), (.ref ba1)]) (lenOf pd__III_I rfl) rfl (by show 2 * 0 + _ ≤ _; exact Nat.le_of_eq rfl) (hb hby at_221) (fun _ _ => ⟨rfl, ew37, (by decide : 60 + 0 ≤ _), (by decide : 89008 + 0 ≤ _)⟩)
            dsimp only [Pt.U, Pt.locs, Pt.cells, Pt.slots] at Xk43 lk43 yk43 zk43 stk43 hQk43
            subst lk43 yk43 zk43
            obtain ⟨rfl, Nk43q, ek43⟩ := hQk43
            have Nk43 := Fr.app Nw37 Nk43q
            obtain ⟨clv44, Arv44, qv44, Sv44, Nv44, Hv44, Gv44⟩ := id Vw37
            have in45 : ¬ ((4 : Int32) < 0 ∨ clv44.slots.size ≤ ((4 : Int32)).toNatClampNeg) := inb_of Sv44 ⟨by decide, c40⟩
            obtain ⟨Tw46, hw46, Xw46, ew46, Ww46, stw46⟩ := stI Xk43 hx hZ ek43 Arv44 (j := (4 : Int32)) in45 (g := (mkF m 224 #[.val (.int p1), .val (.int p2), .val (.int x), .val (.int y), .val (.int kk), .val (.int ln), .val (.ref t), .val (.ref ba1), .unset, .unset, .unset] [(.int (x ^^^ ((y * (4 : Int32)) + (4 : Int32)))), (.int (4 : Int32)), (.ref ba1)])) rfl rfl (hb hby at_224)
            have Vw46 : Arv Z hw46 ba1 ka1 .int ln [(.int (x ^^^ ((y * (0 : Int32)) + (0 : Int32)))), (.int (x ^^^ ((y * (1 : Int32)) + (1 : Int32)))), (.int (x ^^^ ((y * (2 : Int32)) + (2 : Int32)))), (.int (x ^^^ ((y * (3 : Int32)) + (3 : Int32)))), (.int (x ^^^ ((y * (4 : Int32)) + (4 : Int32)))), (.int (0 : Int32)), (.int (0 : Int32)), (.int (0 : Int32))] (.int (0 : Int32)) := Arv.set Arv44 qv44 Sv44 Nv44 Hv44 Gv44 rfl Ww46 4 rfl (Nat.le_of_ble_eq_true rfl)
            have Nw46 := Fr.snoc Xw46 Nk43 g_ba1
            have K47 : Keep h0 hw46 [] := K38.wr Ww46 (Or.inr y_ba1)
            have r48 : ∀ t_, Sp p e below Tw46 (mkF m 228 #[.val (.int p1), .val (.int p2), .val (.int x), .val (.int y), .val (.int kk), .val (.int ln), .val (.ref t), .val (.ref ba1), .unset, .unset, .unset] [(.int (5 : Int32)), (.int ln)]) t_ → Sp p e below T0 (mkF m 140 #[.val (.int p1), .val (.int p2), .val (.int x), .val (.int y), .val (.int kk), .val (.int ln), .val (.ref t), .unset, .unset, .unset, .unset] []) t_ := by
              intro t_ k_
              refine r39 _ ?_
              refine XS.icmpNo Xw37.here hx rfl (hb hby at_212) rfl (tlt c40).2.2.2 ?_
              refine XS.aload Xw37.here hx rfl (hb hby at_215) rfl rfl ?_
              refine XS.iconst Xw37.here hx rfl (hb hby at_217) ?_
              refine XS.iconst Xw37.here hx rfl (hb hby at_218) ?_
              refine XS.iloadN Xw37.here hx rfl (hb hby at_219) rfl ?_
              refine XS.iloadN Xw37.here hx rfl (hb hby at_220) rfl ?_
              refine stk43 _ ?_
              refine stw46 _ ?_
              refine XS.iload Xw46.here hx rfl (hb hby at_225) rfl ?_
              refine XS.iconst Xw46.here hx rfl (hb hby at_227) ?_
              show Sp p e below Tw46 (mkF m 228 #[.val (.int p1), .val (.int p2), .val (.int x), .val (.int y), .val (.int kk), .val (.int ln), .val (.ref t), .val (.ref ba1), .unset, .unset, .unset] [(.int (5 : Int32)), (.int ln)]) _
              exact k_
            by_cases c49 : (5 : Int32) < ln
            · have Z50 : n0 ≤ hw46.size := (Nat.le_trans Z41 (Keep.of_wr Ww46).1)
              have O51 : Old Z n0 hw46 := (O42.wr Ww46 g_ba1)
              obtain ⟨_, _, ⟨Tk52, Lk52, kk52, nk52⟩, -, Xk52, ⟨Lck52, hQk52, lk52, yk52, zk52⟩, stk52⟩ := Jvm.LawKit.callS Xw46 hx (y := Y16) hown (mvT hZ (tw hw 20 rfl)) (mvT hZ (tw hw 21 rfl)) (mvT hZ (tw hw 22 rfl)) (mvT hZ (tw hw 23 rfl)) (by decide) (backOf (W := 2) (rm_vv l Z a0 hw [] (5 : Int32) x y  hw46 n0 Z50 O51) hZ (tw hw 23 rfl) (tw hw 22 rfl) (by decide) (by decide)) (g := (mkF m 237 #[.val (.int p1), .val (.int p2), .val (.int x), .val (.int y), .val (.int kk), .val (.int ln), .val (.ref t), .val (.ref ba1), .unset, .unset, .unset] [(.int y), (.int x), (.int (5 : Int32)), (.int (5 : Int32)), (.ref ba1)])) rfl (by rw [hml]; rfl) (argsL := [(.int (5 : Int32)), (.int x), (.int y)]) (rest := [(.int (5 : Int32)), (.ref ba1)]) (lenOf pd__III_I rfl) rfl (by show 2 * 0 + _ ≤ _; exact Nat.le_of_eq rfl) (hb hby at_237) (fun _ _ => ⟨rfl, ew46, (by decide : 60 + 0 ≤ _), (by decide : 89008 + 0 ≤ _)⟩)
              dsimp only [Pt.U, Pt.locs, Pt.cells, Pt.slots] at Xk52 lk52 yk52 zk52 stk52 hQk52
              subst lk52 yk52 zk52
              obtain ⟨rfl, Nk52q, ek52⟩ := hQk52
              have Nk52 := Fr.app Nw46 Nk52q
              obtain ⟨clv53, Arv53, qv53, Sv53, Nv53, Hv53, Gv53⟩ := id Vw46
              have in54 : ¬ ((5 : Int32) < 0 ∨ clv53.slots.size ≤ ((5 : Int32)).toNatClampNeg) := inb_of Sv53 ⟨by decide, c49⟩
              obtain ⟨Tw55, hw55, Xw55, ew55, Ww55, stw55⟩ := stI Xk52 hx hZ ek52 Arv53 (j := (5 : Int32)) in54 (g := (mkF m 240 #[.val (.int p1), .val (.int p2), .val (.int x), .val (.int y), .val (.int kk), .val (.int ln), .val (.ref t), .val (.ref ba1), .unset, .unset, .unset] [(.int (x ^^^ ((y * (5 : Int32)) + (5 : Int32)))), (.int (5 : Int32)), (.ref ba1)])) rfl rfl (hb hby at_240)
              have Vw55 : Arv Z hw55 ba1 ka1 .int ln [(.int (x ^^^ ((y * (0 : Int32)) + (0 : Int32)))), (.int (x ^^^ ((y * (1 : Int32)) + (1 : Int32)))), (.int (x ^^^ ((y * (2 : Int32)) + (2 : Int32)))), (.int (x ^^^ ((y * (3 : Int32)) + (3 : Int32)))), (.int (x ^^^ ((y * (4 : Int32)) + (4 : Int32)))), (.int (x ^^^ ((y * (5 : Int32)) + (5 : Int32)))), (.int (0 : Int32)), (.int (0 : Int32))] (.int (0 : Int32)) := Arv.set Arv53 qv53 Sv53 Nv53 Hv53 Gv53 rfl Ww55 5 rfl (Nat.le_of_ble_eq_true rfl)
              have Nw55 := Fr.snoc Xw55 Nk52 g_ba1
              have K56 : Keep h0 hw55 [] := K47.wr Ww55 (Or.inr y_ba1)
              have r57 : ∀ t_, Sp p e below Tw55 (mkF m 245 #[.val (.int p1), .val (.int p2), .val (.int x), .val (.int y), .val (.int kk), .val (.int ln), .val (.ref t), .val (.ref ba1), .unset, .unset, .unset] [(.int (6 : Int32)), (.int ln)]) t_ → Sp p e below T0 (mkF m 140 #[.val (.int p1), .val (.int p2), .val (.int x), .val (.int y), .val (.int kk), .val (.int ln), .val (.ref t), .unset, .unset, .unset, .unset] []) t_ := by
                intro t_ k_
                refine r48 _ ?_
                refine XS.icmpNo Xw46.here hx rfl (hb hby at_228) rfl (tlt c49).2.2.2 ?_
                refine XS.aload Xw46.here hx rfl (hb hby at_231) rfl rfl ?_
                refine XS.iconst Xw46.here hx rfl (hb hby at_233) ?_
                refine XS.iconst Xw46.here hx rfl (hb hby at_234) ?_
                refine XS.iloadN Xw46.here hx rfl (hb hby at_235) rfl ?_
                refine XS.iloadN Xw46.here hx rfl (hb hby at_236) rfl ?_
                refine stk52 _ ?_
                refine stw55 _ ?_
                refine XS.iload Xw55.here hx rfl (hb hby at_241) rfl ?_
                refine XS.bipush Xw55.here hx rfl (hb hby at_243) ?_
                show Sp p e below Tw55 (mkF m 245 #[.val (.int p1), .val (.int p2), .val (.int x), .val (.int y), .val (.int kk), .val (.int ln), .val (.ref t), .val (.ref ba1), .unset, .unset, .unset] [(.int (6 : Int32)), (.int ln)]) _
                exact k_
              by_cases c58 : (6 : Int32) < ln
              · have Z59 : n0 ≤ hw55.size := (Nat.le_trans Z50 (Keep.of_wr Ww55).1)
                have O60 : Old Z n0 hw55 := (O51.wr Ww55 g_ba1)
                obtain ⟨_, _, ⟨Tk61, Lk61, kk61, nk61⟩, -, Xk61, ⟨Lck61, hQk61, lk61, yk61, zk61⟩, stk61⟩ := Jvm.LawKit.callS Xw55 hx (y := Y16) hown (mvT hZ (tw hw 20 rfl)) (mvT hZ (tw hw 21 rfl)) (mvT hZ (tw hw 22 rfl)) (mvT hZ (tw hw 23 rfl)) (by decide) (backOf (W := 2) (rm_vv l Z a0 hw [] (6 : Int32) x y  hw55 n0 Z59 O60) hZ (tw hw 23 rfl) (tw hw 22 rfl) (by decide) (by decide)) (g := (mkF m 256 #[.val (.int p1), .val (.int p2), .val (.int x), .val (.int y), .val (.int kk), .val (.int ln), .val (.ref t), .val (.ref ba1), .unset, .unset, .unset] [(.int y), (.int x), (.int (6 : Int32)), (.int (6 : Int32)), (.ref ba1)])) rfl (by rw [hml]; rfl) (argsL := [(.int (6 : Int32)), (.int x), (.int y)]) (rest := [(.int (6 : Int32)), (.ref ba1)]) (lenOf pd__III_I rfl) rfl (by show 2 * 0 + _ ≤ _; exact Nat.le_of_eq rfl) (hb hby at_256) (fun _ _ => ⟨rfl, ew55, (by decide : 60 + 0 ≤ _), (by decide : 89008 + 0 ≤ _)⟩)
                dsimp only [Pt.U, Pt.locs, Pt.cells, Pt.slots] at Xk61 lk61 yk61 zk61 stk61 hQk61
                subst lk61 yk61 zk61
                obtain ⟨rfl, Nk61q, ek61⟩ := hQk61
                have Nk61 := Fr.app Nw55 Nk61q
                obtain ⟨clv62, Arv62, qv62, Sv62, Nv62, Hv62, Gv62⟩ := id Vw55
                have in63 : ¬ ((6 : Int32) < 0 ∨ clv62.slots.size ≤ ((6 : Int32)).toNatClampNeg) := inb_of Sv62 ⟨by decide, c58⟩
                obtain ⟨Tw64, hw64, Xw64, ew64, Ww64, stw64⟩ := stI Xk61 hx hZ ek61 Arv62 (j := (6 : Int32)) in63 (g := (mkF m 259 #[.val (.int p1), .val (.int p2), .val (.int x), .val (.int y), .val (.int kk), .val (.int ln), .val (.ref t), .val (.ref ba1), .unset, .unset, .unset] [(.int (x ^^^ ((y * (6 : Int32)) + (6 : Int32)))), (.int (6 : Int32)), (.ref ba1)])) rfl rfl (hb hby at_259)
                have Vw64 : Arv Z hw64 ba1 ka1 .int ln [(.int (x ^^^ ((y * (0 : Int32)) + (0 : Int32)))), (.int (x ^^^ ((y * (1 : Int32)) + (1 : Int32)))), (.int (x ^^^ ((y * (2 : Int32)) + (2 : Int32)))), (.int (x ^^^ ((y * (3 : Int32)) + (3 : Int32)))), (.int (x ^^^ ((y * (4 : Int32)) + (4 : Int32)))), (.int (x ^^^ ((y * (5 : Int32)) + (5 : Int32)))), (.int (x ^^^ ((y * (6 : Int32)) + (6 : Int32)))), (.int (0 : Int32))] (.int (0 : Int32)) := Arv.set Arv62 qv62 Sv62 Nv62 Hv62 Gv62 rfl Ww64 6 rfl (Nat.le_of_ble_eq_true rfl)
                have Nw64 := Fr.snoc Xw64 Nk61 g_ba1
                have K65 : Keep h0 hw64 [] := K56.wr Ww64 (Or.inr y_ba1)
                have r66 : ∀ t_, Sp p e below Tw64 (mkF m 264 #[.val (.int p1), .val (.int p2), .val (.int x), .val (.int y), .val (.int kk), .val (.int ln), .val (.ref t), .val (.ref ba1), .unset, .unset, .unset] [(.int (7 : Int32)), (.int ln)]) t_ → Sp p e below T0 (mkF m 140 #[.val (.int p1), .val (.int p2), .val (.int x), .val (.int y), .val (.int kk), .val (.int ln), .val (.ref t), .unset, .unset, .unset, .unset] []) t_ := by
                  intro t_ k_
                  refine r57 _ ?_
                  refine XS.icmpNo Xw55.here hx rfl (hb hby at_245) rfl (tlt c58).2.2.2 ?_
                  refine XS.aload Xw55.here hx rfl (hb hby at_248) rfl rfl ?_
                  refine XS.bipush Xw55.here hx rfl (hb hby at_250) ?_
                  refine XS.bipush Xw55.here hx rfl (hb hby at_252) ?_
                  refine XS.iloadN Xw55.here hx rfl (hb hby at_254) rfl ?_
                  refine XS.iloadN Xw55.here hx rfl (hb hby at_255) rfl ?_
                  refine stk61 _ ?_
                  refine stw64 _ ?_
                  refine XS.iload Xw64.here hx rfl (hb hby at_260) rfl ?_
                  refine XS.bipush Xw64.here hx rfl (hb hby at_262) ?_
                  show Sp p e below Tw64 (mkF m 264 #[.val (.int p1), .val (.int p2), .val (.int x), .val (.int y), .val (.int kk), .val (.int ln), .val (.ref t), .val (.ref ba1), .unset, .unset, .unset] [(.int (7 : Int32)), (.int ln)]) _
                  exact k_
                by_cases c67 : (7 : Int32) < ln
                · have Z68 : n0 ≤ hw64.size := (Nat.le_trans Z59 (Keep.of_wr Ww64).1)
                  have O69 : Old Z n0 hw64 := (O60.wr Ww64 g_ba1)
                  obtain ⟨_, _, ⟨Tk70, Lk70, kk70, nk70⟩, -, Xk70, ⟨Lck70, hQk70, lk70, yk70, zk70⟩, stk70⟩ := Jvm.LawKit.callS Xw64 hx (y := Y16) hown (mvT hZ (tw hw 20 rfl)) (mvT hZ (tw hw 21 rfl)) (mvT hZ (tw hw 22 rfl)) (mvT hZ (tw hw 23 rfl)) (by decide) (backOf (W := 2) (rm_vv l Z a0 hw [] (7 : Int32) x y  hw64 n0 Z68 O69) hZ (tw hw 23 rfl) (tw hw 22 rfl) (by decide) (by decide)) (g := (mkF m 275 #[.val (.int p1), .val (.int p2), .val (.int x), .val (.int y), .val (.int kk), .val (.int ln), .val (.ref t), .val (.ref ba1), .unset, .unset, .unset] [(.int y), (.int x), (.int (7 : Int32)), (.int (7 : Int32)), (.ref ba1)])) rfl (by rw [hml]; rfl) (argsL := [(.int (7 : Int32)), (.int x), (.int y)]) (rest := [(.int (7 : Int32)), (.ref ba1)]) (lenOf pd__III_I rfl) rfl (by show 2 * 0 + _ ≤ _; exact Nat.le_of_eq rfl) (hb hby at_275) (fun _ _ => ⟨rfl, ew64, (by decide : 60 + 0 ≤ _), (by decide : 89008 + 0 ≤ _)⟩)
                  dsimp only [Pt.U, Pt.locs, Pt.cells, Pt.slots] at Xk70 lk70 yk70 zk70 stk70 hQk70
                  subst lk70 yk70 zk70
                  obtain ⟨rfl, Nk70q, ek70⟩ := hQk70
                  have Nk70 := Fr.app Nw64 Nk70q
                  obtain ⟨clv71, Arv71, qv71, Sv71, Nv71, Hv71, Gv71⟩ := id Vw64
                  have in72 : ¬ ((7 : Int32) < 0 ∨ clv71.slots.size ≤ ((7 : Int32)).toNatClampNeg) := inb_of Sv71 ⟨by decide, c67⟩
                  obtain ⟨Tw73, hw73, Xw73, ew73, Ww73, stw73⟩ := stI Xk70 hx hZ ek70 Arv71 (j := (7 : Int32)) in72 (g := (mkF m 278 #[.val (.int p1), .val (.int p2), .val (.int x), .val (.int y), .val (.int kk), .val (.int ln), .val (.ref t), .val (.ref ba1), .unset, .unset, .unset] [(.int (x ^^^ ((y * (7 : Int32)) + (7 : Int32)))), (.int (7 : Int32)), (.ref ba1)])) rfl rfl (hb hby at_278)
                  have Vw73 : Arv Z hw73 ba1 ka1 .int ln [(.int (x ^^^ ((y * (0 : Int32)) + (0 : Int32)))), (.int (x ^^^ ((y * (1 : Int32)) + (1 : Int32)))), (.int (x ^^^ ((y * (2 : Int32)) + (2 : Int32)))), (.int (x ^^^ ((y * (3 : Int32)) + (3 : Int32)))), (.int (x ^^^ ((y * (4 : Int32)) + (4 : Int32)))), (.int (x ^^^ ((y * (5 : Int32)) + (5 : Int32)))), (.int (x ^^^ ((y * (6 : Int32)) + (6 : Int32)))), (.int (x ^^^ ((y * (7 : Int32)) + (7 : Int32))))] (.int (0 : Int32)) := Arv.set Arv71 qv71 Sv71 Nv71 Hv71 Gv71 rfl Ww73 7 rfl (Nat.le_of_ble_eq_true rfl)
                  have Nw73 := Fr.snoc Xw73 Nk70 g_ba1
                  have K74 : Keep h0 hw73 [] := K65.wr Ww73 (Or.inr y_ba1)
                  have r75 : ∀ t_, Sp p e below Tw73 (mkF m 279 #[.val (.int p1), .val (.int p2), .val (.int x), .val (.int y), .val (.int kk), .val (.int ln), .val (.ref t), .val (.ref ba1), .unset, .unset, .unset] []) t_ → Sp p e below T0 (mkF m 140 #[.val (.int p1), .val (.int p2), .val (.int x), .val (.int y), .val (.int kk), .val (.int ln), .val (.ref t), .unset, .unset, .unset, .unset] []) t_ := by
                    intro t_ k_
                    refine r66 _ ?_
                    refine XS.icmpNo Xw64.here hx rfl (hb hby at_264) rfl (tlt c67).2.2.2 ?_
                    refine XS.aload Xw64.here hx rfl (hb hby at_267) rfl rfl ?_
                    refine XS.bipush Xw64.here hx rfl (hb hby at_269) ?_
                    refine XS.bipush Xw64.here hx rfl (hb hby at_271) ?_
                    refine XS.iloadN Xw64.here hx rfl (hb hby at_273) rfl ?_
                    refine XS.iloadN Xw64.here hx rfl (hb hby at_274) rfl ?_
                    refine stk70 _ ?_
                    refine stw73 _ ?_
                    show Sp p e below Tw73 (mkF m 279 #[.val (.int p1), .val (.int p2), .val (.int x), .val (.int y), .val (.int kk), .val (.int ln), .val (.ref t), .val (.ref ba1), .unset, .unset, .unset] []) _
                    exact k_
                  have hln : ln = (8 : Int32) := by
                    rcases own_08 hl with q | q | q | q | q | q | q | q | q <;> simp only [q] at c67 ⊢ <;> first | rfl | (exfalso; revert c67; decide)
                  have Vx : Arv Z hw73 ba1 ka1 .int ln [(.int (x ^^^ ((y * (0 : Int32)) + (0 : Int32)))), (.int (x ^^^ ((y * (1 : Int32)) + (1 : Int32)))), (.int (x ^^^ ((y * (2 : Int32)) + (2 : Int32)))), (.int (x ^^^ ((y * (3 : Int32)) + (3 : Int32)))), (.int (x ^^^ ((y * (4 : Int32)) + (4 : Int32)))), (.int (x ^^^ ((y * (5 : Int32)) + (5 : Int32)))), (.int (x ^^^ ((y * (6 : Int32)) + (6 : Int32)))), (.int (x ^^^ ((y * (7 : Int32)) + (7 : Int32))))] (.int (0 : Int32)) := Vw73.pad (fun i => (pad_rep ([(.int (x ^^^ ((y * (0 : Int32)) + (0 : Int32)))), (.int (x ^^^ ((y * (1 : Int32)) + (1 : Int32)))), (.int (x ^^^ ((y * (2 : Int32)) + (2 : Int32)))), (.int (x ^^^ ((y * (3 : Int32)) + (3 : Int32)))), (.int (x ^^^ ((y * (4 : Int32)) + (4 : Int32)))), (.int (x ^^^ ((y * (5 : Int32)) + (5 : Int32)))), (.int (x ^^^ ((y * (6 : Int32)) + (6 : Int32)))), (.int (x ^^^ ((y * (7 : Int32)) + (7 : Int32))))] : List Value) (.int (0 : Int32)) 0 i).symm)
                  have F76 := (f0.keep K74)
                  have F77 := (f1.keep K74 nin0)
                  have Z78 : n0 ≤ hw73.size := (Nat.le_trans Z68 (Keep.of_wr Ww73).1)
                  have O79 : Old Z n0 hw73 := (O69.wr Ww73 g_ba1)
                  have Y80 : h0.size ≤ hw73.size := (Nat.le_trans (Nat.le_trans (Nat.le_trans (Nat.le_trans (Nat.le_trans (Nat.le_trans (Nat.le_trans (Nat.le_trans (Nat.le_trans (Nat.le_refl h0.size) Ea1.1) (Keep.of_wr Ww10).1) (Keep.of_wr Ww19).1) (Keep.of_wr Ww28).1) (Keep.of_wr Ww37).1) (Keep.of_wr Ww46).1) (Keep.of_wr Ww55).1) (Keep.of_wr Ww64).1) (Keep.of_wr Ww73).1)
                  obtain ⟨s₂, o, q1, q2, q3, q4⟩ := tl_p3 p l e s m _ below meth c _ _ vm0 k0 Z a0 hw p1 p2 x y kk ln t ba1 ka1 [(.int (x ^^^ ((y * (0 : Int32)) + (0 : Int32)))), (.int (x ^^^ ((y * (1 : Int32)) + (1 : Int32)))), (.int (x ^^^ ((y * (2 : Int32)) + (2 : Int32)))), (.int (x ^^^ ((y * (3 : Int32)) + (3 : Int32)))), (.int (x ^^^ ((y * (4 : Int32)) + (4 : Int32)))), (.int (x ^^^ ((y * (5 : Int32)) + (5 : Int32)))), (.int (x ^^^ ((y * (6 : Int32)) + (6 : Int32)))), (.int (x ^^^ ((y * (7 : Int32)) + (7 : Int32))))] hw73 n0 (Xw73.more (by decide) (by decide)) hx hZ hby hml hown hret hlk hS (Nat.le_trans hk0 Y80) ew73 Nw73 Z78 O79 F76 F77 Vx hk hl (by rw [hln]; exact Nat.le_of_ble_eq_true rfl) (by rw [hln]; rfl) (by rw [hln]; rfl) (by rw [hln]; rfl) (by rw [hln]; rfl) (by rw [hln]; rfl) (by rw [hln]; rfl) (by rw [hln]; rfl) (by rw [hln]; rfl) (by rw [hln]; rfl) (by rw [hln]; rfl)
                  exact ⟨s₂, o, r75 _ q1, q2, q3, q4⟩
                · have r81 : ∀ t_, Sp p e below Tw64 (mkF m 279 #[.val (.int p1), .val (.int p2), .val (.int x), .val (.int y), .val (.int kk), .val (.int ln), .val (.ref t), .val (.ref ba1), .unset, .unset, .unset] []) t_ → Sp p e below T0 (mkF m 140 #[.val (.int p1), .val (.int p2), .val (.int x), .val (.int y), .val (.int kk), .val (.int ln), .val (.ref t), .unset, .unset, .unset, .unset] []) t_ := by
                    intro t_ k_
                    refine r66 _ ?_
                    refine XS.icmpYes Xw64.here hx rfl (pc0 := 264) (pc' := 279) rfl (hb hby at_264) rfl (flt c67).2.2.2 (by decide) (by decide) ?_
                    show Sp p e below Tw64 (mkF m 279 #[.val (.int p1), .val (.int p2), .val (.int x), .val (.int y), .val (.int kk), .val (.int ln), .val (.ref t), .val (.ref ba1), .unset, .unset, .unset] []) _
                    exact k_
                  have hln : ln = (7 : Int32) := by
                    rcases own_08 hl with q | q | q | q | q | q | q | q | q <;> simp only [q] at c58 c67 ⊢ <;> first | rfl | (exfalso; revert c58 c67; decide)
                  have Vx : Arv Z hw64 ba1 ka1 .int ln [(.int (x ^^^ ((y * (0 : Int32)) + (0 : Int32)))), (.int (x ^^^ ((y * (1 : Int32)) + (1 : Int32)))), (.int (x ^^^ ((y * (2 : Int32)) + (2 : Int32)))), (.int (x ^^^ ((y * (3 : Int32)) + (3 : Int32)))), (.int (x ^^^ ((y * (4 : Int32)) + (4 : Int32)))), (.int (x ^^^ ((y * (5 : Int32)) + (5 : Int32)))), (.int (x ^^^ ((y * (6 : Int32)) + (6 : Int32))))] (.int (0 : Int32)) := Vw64.pad (fun i => (pad_rep ([(.int (x ^^^ ((y * (0 : Int32)) + (0 : Int32)))), (.int (x ^^^ ((y * (1 : Int32)) + (1 : Int32)))), (.int (x ^^^ ((y * (2 : Int32)) + (2 : Int32)))), (.int (x ^^^ ((y * (3 : Int32)) + (3 : Int32)))), (.int (x ^^^ ((y * (4 : Int32)) + (4 : Int32)))), (.int (x ^^^ ((y * (5 : Int32)) + (5 : Int32)))), (.int (x ^^^ ((y * (6 : Int32)) + (6 : Int32))))] : List Value) (.int (0 : Int32)) 1 i).symm)
                  have F82 := (f0.keep K65)
                  have F83 := (f1.keep K65 nin0)
                  have Z84 : n0 ≤ hw64.size := (Nat.le_trans Z59 (Keep.of_wr Ww64).1)
                  have O85 : Old Z n0 hw64 := (O60.wr Ww64 g_ba1)
                  have Y86 : h0.size ≤ hw64.size := (Nat.le_trans (Nat.le_trans (Nat.le_trans (Nat.le_trans (Nat.le_trans (Nat.le_trans (Nat.le_trans (Nat.le_trans (Nat.le_refl h0.size) Ea1.1) (Keep.of_wr Ww10).1) (Keep.of_wr Ww19).1) (Keep.of_wr Ww28).1) (Keep.of_wr Ww37).1) (Keep.of_wr Ww46).1) (Keep.of_wr Ww55).1) (Keep.of_wr Ww64).1)
                  obtain ⟨s₂, o, q1, q2, q3, q4⟩ := tl_p3 p l e s m _ below meth c _ _ vm0 k0 Z a0 hw p1 p2 x y kk ln t ba1 ka1 [(.int (x ^^^ ((y * (0 : Int32)) + (0 : Int32)))), (.int (x ^^^ ((y * (1 : Int32)) + (1 : Int32)))), (.int (x ^^^ ((y * (2 : Int32)) + (2 : Int32)))), (.int (x ^^^ ((y * (3 : Int32)) + (3 : Int32)))), (.int (x ^^^ ((y * (4 : Int32)) + (4 : Int32)))), (.int (x ^^^ ((y * (5 : Int32)) + (5 : Int32)))), (.int (x ^^^ ((y * (6 : Int32)) + (6 : Int32))))] hw64 n0 (Xw64.more (by decide) (by decide)) hx hZ hby hml hown hret hlk hS (Nat.le_trans hk0 Y86) ew64 Nw64 Z84 O85 F82 F83 Vx hk hl (by rw [hln]; exact Nat.le_of_ble_eq_true rfl) (by rw [hln]; rfl) (by rw [hln]; rfl) (by rw [hln]; rfl) (by rw [hln]; rfl) (by rw [hln]; rfl) (by rw [hln]; rfl) (by rw [hln]; rfl) (by rw [hln]; rfl) (by rw [hln]; rfl) (by rw [hln]; rfl)
                  exact ⟨s₂, o, r81 _ q1, q2, q3, q4⟩
              · have r87 : ∀ t_, Sp p e below Tw55 (mkF m 279 #[.val (.int p1), .val (.int p2), .val (.int x), .val (.int y), .val (.int kk), .val (.int ln), .val (.ref t), .val (.ref ba1), .unset, .unset, .unset] []) t_ → Sp p e below T0 (mkF m 140 #[.val (.int p1), .val (.int p2), .val (.int x), .val (.int y), .val (.int kk), .val (.int ln), .val (.ref t), .unset, .unset, .unset, .unset] []) t_ := by
                  intro t_ k_
                  refine r57 _ ?_
                  refine XS.icmpYes Xw55.here hx rfl (pc0 := 245) (pc' := 260) rfl (hb hby at_245) rfl (flt c58).2.2.2 (by decide) (by decide) ?_
                  refine XS.iload Xw55.here hx rfl (hb hby at_260) rfl ?_
                  refine XS.bipush Xw55.here hx rfl (hb hby at_262) ?_
                  refine XS.icmpYes Xw55.here hx rfl (pc0 := 264) (pc' := 279) rfl (hb hby at_264) rfl (flt (fun q => c58 (Int32.lt_trans (by decide) q))).2.2.2 (by decide) (by decide) ?_
                  show Sp p e below Tw55 (mkF m 279 #[.val (.int p1), .val (.int p2), .val (.int x), .val (.int y), .val (.int kk), .val (.int ln), .val (.ref t), .val (.ref ba1), .unset, .unset, .unset] []) _
                  exact k_
                have hln : ln = (6 : Int32) := by
                  rcases own_08 hl with q | q | q | q | q | q | q | q | q <;> simp only [q] at c49 c58 ⊢ <;> first | rfl | (exfalso; revert c49 c58; decide)
                have Vx : Arv Z hw55 ba1 ka1 .int ln [(.int (x ^^^ ((y * (0 : Int32)) + (0 : Int32)))), (.int (x ^^^ ((y * (1 : Int32)) + (1 : Int32)))), (.int (x ^^^ ((y * (2 : Int32)) + (2 : Int32)))), (.int (x ^^^ ((y * (3 : Int32)) + (3 : Int32)))), (.int (x ^^^ ((y * (4 : Int32)) + (4 : Int32)))), (.int (x ^^^ ((y * (5 : Int32)) + (5 : Int32))))] (.int (0 : Int32)) := Vw55.pad (fun i => (pad_rep ([(.int (x ^^^ ((y * (0 : Int32)) + (0 : Int32)))), (.int (x ^^^ ((y * (1 : Int32)) + (1 : Int32)))), (.int (x ^^^ ((y * (2 : Int32)) + (2 : Int32)))), (.int (x ^^^ ((y * (3 : Int32)) + (3 : Int32)))), (.int (x ^^^ ((y * (4 : Int32)) + (4 : Int32)))), (.int (x ^^^ ((y * (5 : Int32)) + (5 : Int32))))] : List Value) (.int (0 : Int32)) 2 i).symm)
                have F88 := (f0.keep K56)
                have F89 := (f1.keep K56 nin0)
                have Z90 : n0 ≤ hw55.size := (Nat.le_trans Z50 (Keep.of_wr Ww55).1)
                have O91 : Old Z n0 hw55 := (O51.wr Ww55 g_ba1)
                have Y92 : h0.size ≤ hw55.size := (Nat.le_trans (Nat.le_trans (Nat.le_trans (Nat.le_trans (Nat.le_trans (Nat.le_trans (Nat.le_trans (Nat.le_refl h0.size) Ea1.1) (Keep.of_wr Ww10).1) (Keep.of_wr Ww19).1) (Keep.of_wr Ww28).1) (Keep.of_wr Ww37).1) (Keep.of_wr Ww46).1) (Keep.of_wr Ww55).1)
                obtain ⟨s₂, o, q1, q2, q3, q4⟩ := tl_p3 p l e s m _ below meth c _ _ vm0 k0 Z a0 hw p1 p2 x y kk ln t ba1 ka1 [(.int (x ^^^ ((y * (0 : Int32)) + (0 : Int32)))), (.int (x ^^^ ((y * (1 : Int32)) + (1 : Int32)))), (.int (x ^^^ ((y * (2 : Int32)) + (2 : Int32)))), (.int (x ^^^ ((y * (3 : Int32)) + (3 : Int32)))), (.int (x ^^^ ((y * (4 : Int32)) + (4 : Int32)))), (.int (x ^^^ ((y * (5 : Int32)) + (5 : Int32))))] hw55 n0 (Xw55.more (by decide) (by decide)) hx hZ hby hml hown hret hlk hS (Nat.le_trans hk0 Y92) ew55 Nw55 Z90 O91 F88 F89 Vx hk hl (by rw [hln]; exact Nat.le_of_ble_eq_true rfl) (by rw [hln]; rfl) (by rw [hln]; rfl) (by rw [hln]; rfl) (by rw [hln]; rfl) (by rw [hln]; rfl) (by rw [hln]; rfl) (by rw [hln]; rfl) (by rw [hln]; rfl) (by rw [hln]; rfl) (by rw [hln]; rfl)
                exact ⟨s₂, o, r87 _ q1, q2, q3, q4⟩
            · have r93 : ∀ t_, Sp p e below Tw46 (mkF m 279 #[.val (.int p1), .val (.int p2), .val (.int x), .val (.int y), .val (.int kk), .val (.int ln), .val (.ref t), .val (.ref ba1), .unset, .unset, .unset] []) t_ → Sp p e below T0 (mkF m 140 #[.val (.int p1), .val (.int p2), .val (.int x), .val (.int y), .val (.int kk), .val (.int ln), .val (.ref t), .unset, .unset, .unset, .unset] []) t_ := by
                intro t_ k_
                refine r48 _ ?_
                refine XS.icmpYes Xw46.here hx rfl (pc0 := 228) (pc' := 241) rfl (hb hby at_228) rfl (flt c49).2.2.2 (by decide) (by decide) ?_
                refine XS.iload Xw46.here hx rfl (hb hby at_241) rfl ?_
                refine XS.bipush Xw46.here hx rfl (hb hby at_243) ?_
                refine XS.icmpYes Xw46.here hx rfl (pc0 := 245) (pc' := 260) rfl (hb hby at_245) rfl (flt (fun q => c49 (Int32.lt_trans (by decide) q))).2.2.2 (by decide) (by decide) ?_
                refine XS.iload Xw46.here hx rfl (hb hby at_260) rfl ?_
                refine XS.bipush Xw46.here hx rfl (hb hby at_262) ?_
                refine XS.icmpYes Xw46.here hx rfl (pc0 := 264) (pc' := 279) rfl (hb hby at_264) rfl (flt (fun q => c49 (Int32.lt_trans (by decide) q))).2.2.2 (by decide) (by decide) ?_
                show Sp p e below Tw46 (mkF m 279 #[.val (.int p1), .val (.int p2), .val (.int x), .val (.int y), .val (.int kk), .val (.int ln), .val (.ref t), .val (.ref ba1), .unset, .unset, .unset] []) _
                exact k_
              have hln : ln = (5 : Int32) := by
                rcases own_08 hl with q | q | q | q | q | q | q | q | q <;> simp only [q] at c40 c49 ⊢ <;> first | rfl | (exfalso; revert c40 c49; decide)
              have Vx : Arv Z hw46 ba1 ka1 .int ln [(.int (x ^^^ ((y * (0 : Int32)) + (0 : Int32)))), (.int (x ^^^ ((y * (1 : Int32)) + (1 : Int32)))), (.int (x ^^^ ((y * (2 : Int32)) + (2 : Int32)))), (.int (x ^^^ ((y * (3 : Int32)) + (3 : Int32)))), (.int (x ^^^ ((y * (4 : Int32)) + (4 : Int32))))] (.int (0 : Int32)) := Vw46.pad (fun i => (pad_rep ([(.int (x ^^^ ((y * (0 : Int32)) + (0 : Int32)))), (.int (x ^^^ ((y * (1 : Int32)) + (1 : Int32)))), (.int (x ^^^ ((y * (2 : Int32)) + (2 : Int32)))), (.int (x ^^^ ((y * (3 : Int32)) + (3 : Int32)))), (.int (x ^^^ ((y * (4 : Int32)) + (4 : Int32))))] : List Value) (.int (0 : Int32)) 3 i).symm)
              have F94 := (f0.keep K47)
              have F95 := (f1.keep K47 nin0)
              have Z96 : n0 ≤ hw46.size := (Nat.le_trans Z41 (Keep.of_wr Ww46).1)
              have O97 : Old Z n0 hw46 := (O42.wr Ww46 g_ba1)
              have Y98 : h0.size ≤ hw46.size := (Nat.le_trans (Nat.le_trans (Nat.le_trans (Nat.le_trans (Nat.le_trans (Nat.le_trans (Nat.le_refl h0.size) Ea1.1) (Keep.of_wr Ww10).1) (Keep.of_wr Ww19).1) (Keep.of_wr Ww28).1) (Keep.of_wr Ww37).1) (Keep.of_wr Ww46).1)
              obtain ⟨s₂, o, q1, q2, q3, q4⟩ := tl_p3 p l e s m _ below meth c _ _ vm0 k0 Z a0 hw p1 p2 x y kk ln t ba1 ka1 [(.int (x ^^^ ((y * (0 : Int32)) + (0 : Int32)))), (.int (x ^^^ ((y * (1 : Int32)) + (1 : Int32)))), (.int (x ^^^ ((y * (2 : Int32)) + (2 : Int32)))), (.int (x ^^^ ((y * (3 : Int32)) + (3 : Int32)))), (.int (x ^^^ ((y * (4 : Int32)) + (4 : Int32))))] hw46 n0 (Xw46.more (by decide) (by decide)) hx hZ hby hml hown hret hlk hS (Nat.le_trans hk0 Y98) ew46 Nw46 Z96 O97 F94 F95 Vx hk hl (by rw [hln]; exact Nat.le_of_ble_eq_true rfl) (by rw [hln]; rfl) (by rw [hln]; rfl) (by rw [hln]; rfl) (by rw [hln]; rfl) (by rw [hln]; rfl) (by rw [hln]; rfl) (by rw [hln]; rfl) (by rw [hln]; rfl) (by rw [hln]; rfl) (by rw [hln]; rfl)
              exact ⟨s₂, o, r93 _ q1, q2, q3, q4⟩
          · have r99 : ∀ t_, Sp p e below Tw37 (mkF m 279 #[.val (.int p1), .val (.int p2), .val (.int x), .val (.int y), .val (.int kk), .val (.int ln), .val (.ref t), .val (.ref ba1), .unset, .unset, .unset] []) t_ → Sp p e below T0 (mkF m 140 #[.val (.int p1), .val (.int p2), .val (.int x), .val (.int y), .val (.int kk), .val (.int ln), .val (.ref t), .unset, .unset, .unset, .unset] []) t_ := by
              intro t_ k_
              refine r39 _ ?_
              refine XS.icmpYes Xw37.here hx rfl (pc0 := 212) (pc' := 225) rfl (hb hby at_212) rfl (flt c40).2.2.2 (by decide) (by decide) ?_
              refine XS.iload Xw37.here hx rfl (hb hby at_225) rfl ?_
              refine XS.iconst Xw37.here hx rfl (hb hby at_227) ?_
              refine XS.icmpYes Xw37.here hx rfl (pc0 := 228) (pc' := 241) rfl (hb hby at_228) rfl (flt (fun q => c40 (Int32.lt_trans (by decide) q))).2.2.2 (by decide) (by decide) ?_
              refine XS.iload Xw37.here hx rfl (hb hby at_241) rfl ?_
              refine XS.bipush Xw37.here hx rfl (hb hby at_243) ?_
              refine XS.icmpYes Xw37.here hx rfl (pc0 := 245) (pc' := 260) rfl (hb hby at_245) rfl (flt (fun q => c40 (Int32.lt_trans (by decide) q))).2.2.2 (by decide) (by decide) ?_
              refine XS.iload Xw37.here hx rfl (hb hby at_260) rfl ?_
              refine XS.bipush Xw37.here hx rfl (hb hby at_262) ?_
              refine XS.icmpYes Xw37.here hx rfl (pc0 := 264) (pc' := 279) rfl (hb hby at_264) rfl (flt (fun q => c40 (Int32.lt_trans (by decide) q))).2.2.2 (by decide) (by decide) ?_
              show Sp p e below Tw37 (mkF m 279 #[.val (.int p1), .val (.int p2), .val (.int x), .val (.int y), .val (.int kk), .val (.int ln), .val (.ref t), .val (.ref ba1), .unset, .unset, .unset] []) _
              exact k_
            have hln : ln = (4 : Int32) := by
              rcases own_08 hl with q | q | q | q | q | q | q | q | q <;> simp only [q] at c31 c40 ⊢ <;> first | rfl | (exfalso; revert c31 c40; decide)
            have Vx : Arv Z hw37 ba1 ka1 .int ln [(.int (x ^^^ ((y * (0 : Int32)) + (0 : Int32)))), (.int (x ^^^ ((y * (1 : Int32)) + (1 : Int32)))), (.int (x ^^^ ((y * (2 : Int32)) + (2 : Int32)))), (.int (x ^^^ ((y * (3 : Int32)) + (3 : Int32))))] (.int (0 : Int32)) := Vw37.pad (fun i => (pad_rep ([(.int (x ^^^ ((y * (0 : Int32)) + (0 : Int32)))), (.int (x ^^^ ((y * (1 : Int32)) + (1 : Int32)))), (.int (x ^^^ ((y * (2 : Int32)) + (2 : Int32)))), (.int (x ^^^ ((y * (3 : Int32)) + (3 : Int32))))] : List Value) (.int (0 : Int32)) 4 i).symm)
            have F100 := (f0.keep K38)
            have F101 := (f1.keep K38 nin0)
            have Z102 : n0 ≤ hw37.size := (Nat.le_trans Z32 (Keep.of_wr Ww37).1)
            have O103 : Old Z n0 hw37 := (O33.wr Ww37 g_ba1)
            have Y104 : h0.size ≤ hw37.size := (Nat.le_trans (Nat.le_trans (Nat.le_trans (Nat.le_trans (Nat.le_trans (Nat.le_refl h0.size) Ea1.1) (Keep.of_wr Ww10).1) (Keep.of_wr Ww19).1) (Keep.of_wr Ww28).1) (Keep.of_wr Ww37).1)
            obtain ⟨s₂, o, q1, q2, q3, q4⟩ := tl_p3 p l e s m _ below meth c _ _ vm0 k0 Z a0 hw p1 p2 x y kk ln t ba1 ka1 [(.int (x ^^^ ((y * (0 : Int32)) + (0 : Int32)))), (.int (x ^^^ ((y * (1 : Int32)) + (1 : Int32)))), (.int (x ^^^ ((y * (2 : Int32)) + (2 : Int32)))), (.int (x ^^^ ((y * (3 : Int32)) + (3 : Int32))))] hw37 n0 (Xw37.more (by decide) (by decide)) hx hZ hby hml hown hret hlk hS (Nat.le_trans hk0 Y104) ew37 Nw37 Z102 O103 F100 F101 Vx hk hl (by rw [hln]; exact Nat.le_of_ble_eq_true rfl) (by rw [hln]; rfl) (by rw [hln]; rfl) (by rw [hln]; rfl) (by rw [hln]; rfl) (by rw [hln]; rfl) (by rw [hln]; rfl) (by rw [hln]; rfl) (by rw [hln]; rfl) (by rw [hln]; rfl) (by rw [hln]; rfl)
            exact ⟨s₂, o, r99 _ q1, q2, q3, q4⟩
        · have r105 : ∀ t_, Sp p e below Tw28 (mkF m 279 #[.val (.int p1), .val (.int p2), .val (.int x), .val (.int y), .val (.int kk), .val (.int ln), .val (.ref t), .val (.ref ba1), .unset, .unset, .unset] []) t_ → Sp p e below T0 (mkF m 140 #[.val (.int p1), .val (.int p2), .val (.int x), .val (.int y), .val (.int kk), .val (.int ln), .val (.ref t), .unset, .unset, .unset, .unset] []) t_ := by
            intro t_ k_
            refine r30 _ ?_
            refine XS.icmpYes Xw28.here hx rfl (pc0 := 196) (pc' := 209) rfl (hb hby at_196) rfl (flt c31).2.2.2 (by decide) (by decide) ?_
            refine XS.iload Xw28.here hx rfl (hb hby at_209) rfl ?_
            refine XS.iconst Xw28.here hx rfl (hb hby at_211) ?_
            refine XS.icmpYes Xw28.here hx rfl (pc0 := 212) (pc' := 225) rfl (hb hby at_212) rfl (flt (fun q => c31 (Int32.lt_trans (by decide) q))).2.2.2 (by decide) (by decide) ?_
            refine XS.iload Xw28.here hx rfl (hb hby at_225) rfl ?_
            refine XS.iconst Xw28.here hx rfl (hb hby at_227) ?_
            refine XS.icmpYes Xw28.here hx rfl (pc0 := 228) (pc' := 241) rfl (hb hby at_228) rfl (flt (fun q => c31 (Int32.lt_trans (by decide) q))).2.2.2 (by decide) (by decide) ?_
            refine XS.iload Xw28.here hx rfl (hb hby at_241) rfl ?_
            refine XS.bipush Xw28.here hx rfl (hb hby at_243) ?_
            refine XS.icmpYes Xw28.here hx rfl (pc0 := 245) (pc' := 260) rfl (hb hby at_245) rfl (flt (fun q => c31 (Int32.lt_trans (by decide) q))).2.2.2 (by decide) (by decide) ?_
            refine XS.iload Xw28.here hx rfl (hb hby at_260) rfl ?_
            refine XS.bipush Xw28.here hx rfl (hb hby at_262) ?_
            refine XS.icmpYes Xw28.here hx rfl (pc0 := 264) (pc' := 279) rfl (hb hby at_264) rfl (flt (fun q => c31 (Int32.lt_trans (by decide) q))).2.2.2 (by decide) (by decide) ?_
            show Sp p e below Tw28 (mkF m 279 #[.val (.int p1), .val (.int p2), .val (.int x), .val (.int y), .val (.int kk), .val (.int ln), .val (.ref t), .val (.ref ba1), .unset, .unset, .unset] []) _
            exact k_
          have hln : ln = (3 : Int32) := by
            rcases own_08 hl with q | q | q | q | q | q | q | q | q <;> simp only [q] at c22 c31 ⊢ <;> first | rfl | (exfalso; revert c22 c31; decide)
          have Vx : Arv Z hw28 ba1 ka1 .int ln [(.int (x ^^^ ((y * (0 : Int32)) + (0 : Int32)))), (.int (x ^^^ ((y * (1 : Int32)) + (1 : Int32)))), (.int (x ^^^ ((y * (2 : Int32)) + (2 : Int32))))] (.int (0 : Int32)) := Vw28.pad (fun i => (pad_rep ([(.int (x ^^^ ((y * (0 : Int32)) + (0 : Int32)))), (.int (x ^^^ ((y * (1 : Int32)) + (1 : Int32)))), (.int (x ^^^ ((y * (2 : Int32)) + (2 : Int32))))] : List Value) (.int (0 : Int32)) 5 i).symm)
          have F106 := (f0.keep K29)
          have F107 := (f1.keep K29 nin0)
          have Z108 : n0 ≤ hw28.size := (Nat.le_trans Z23 (Keep.of_wr Ww28).1)
          have O109 : Old Z n0 hw28 := (O24.wr Ww28 g_ba1)
          have Y110 : h0.size ≤ hw28.size := (Nat.le_trans (Nat.le_trans (Nat.le_trans (Nat.le_trans (Nat.le_refl h0.size) Ea1.1) (Keep.of_wr Ww10).1) (Keep.of_wr Ww19).1) (Keep.of_wr Ww28).1)
          obtain ⟨s₂, o, q1, q2, q3, q4⟩ := tl_p3 p l e s m _ below meth c _ _ vm0 k0 Z a0 hw p1 p2 x y kk ln t ba1 ka1 [(.int (x ^^^ ((y * (0 : Int32)) + (0 : Int32)))), (.int (x ^^^ ((y * (1 : Int32)) + (1 : Int32)))), (.int (x ^^^ ((y * (2 : Int32)) + (2 : Int32))))] hw28 n0 (Xw28.more (by decide) (by decide)) hx hZ hby hml hown hret hlk hS (Nat.le_trans hk0 Y110) ew28 Nw28 Z108 O109 F106 F107 Vx hk hl (by rw [hln]; exact Nat.le_of_ble_eq_true rfl) (by rw [hln]; rfl) (by rw [hln]; rfl) (by rw [hln]; rfl) (by rw [hln]; rfl) (by rw [hln]; rfl) (by rw [hln]; rfl) (by rw [hln]; rfl) (by rw [hln]; rfl) (by rw [hln]; rfl) (by rw [hln]; rfl)
          exact ⟨s₂, o, r105 _ q1, q2, q3, q4⟩
      · have r111 : ∀ t_, Sp p e below Tw19 (mkF m 279 #[.val (.int p1), .val (.int p2), .val (.int x), .val (.int y), .val (.int kk), .val (.int ln), .val (.ref t), .val (.ref ba1), .unset, .unset, .unset] []) t_ → Sp p e below T0 (mkF m 140 #[.val (.int p1), .val (.int p2), .val (.int x), .val (.int y), .val (.int kk), .val (.int ln), .val (.ref t), .unset, .unset, .unset, .unset] []) t_ := by
          intro t_ k_
          refine r21 _ ?_
          refine XS.icmpYes Xw19.here hx rfl (pc0 := 180) (pc' := 193) rfl (hb hby at_180) rfl (flt c22).2.2.2 (by decide) (by decide) ?_
          refine XS.iload Xw19.here hx rfl (hb hby at_193) rfl ?_
          refine XS.iconst Xw19.here hx rfl (hb hby at_195) ?_
          refine XS.icmpYes Xw19.here hx rfl (pc0 := 196) (pc' := 209) rfl (hb hby at_196) rfl (flt (fun q => c22 (Int32.lt_trans (by decide) q))).2.2.2 (by decide) (by decide) ?_
          refine XS.iload Xw19.here hx rfl (hb hby at_209) rfl ?_
          refine XS.iconst Xw19.here hx rfl (hb hby at_211) ?_
          refine XS.icmpYes Xw19.here hx rfl (pc0 := 212) (pc' := 225) rfl (hb hby at_212) rfl (flt (fun q => c22 (Int32.lt_trans (by decide) q))).2.2.2 (by decide) (by decide) ?_
          refine XS.iload Xw19.here hx rfl (hb hby at_225) rfl ?_
          refine XS.iconst Xw19.here hx rfl (hb hby at_227) ?_
          refine XS.icmpYes Xw19.here hx rfl (pc0 := 228) (pc' := 241) rfl (hb hby at_228) rfl (flt (fun q => c22 (Int32.lt_trans (by decide) q))).2.2.2 (by decide) (by decide) ?_
          refine XS.iload Xw19.here hx rfl (hb hby at_241) rfl ?_
          refine XS.bipush Xw19.here hx rfl (hb hby at_243) ?_
          refine XS.icmpYes Xw19.here hx rfl (pc0 := 245) (pc' := 260) rfl (hb hby at_245) rfl (flt (fun q => c22 (Int32.lt_trans (by decide) q))).2.2.2 (by decide) (by decide) ?_
          refine XS.iload Xw19.here hx rfl (hb hby at_260) rfl ?_
          refine XS.bipush Xw19.here hx rfl (hb hby at_262) ?_
          refine XS.icmpYes Xw19.here hx rfl (pc0 := 264) (pc' := 279) rfl (hb hby at_264) rfl (flt (fun q => c22 (Int32.lt_trans (by decide) q))).2.2.2 (by decide) (by decide) ?_
          show Sp p e below Tw19 (mkF m 279 #[.val (.int p1), .val (.int p2), .val (.int x), .val (.int y), .val (.int kk), .val (.int ln), .val (.ref t), .val (.ref ba1), .unset, .unset, .unset] []) _
          exact k_
        have hln : ln = (2 : Int32) := by
          rcases own_08 hl with q | q | q | q | q | q | q | q | q <;> simp only [q] at c13 c22 ⊢ <;> first | rfl | (exfalso; revert c13 c22; decide)
        have Vx : Arv Z hw19 ba1 ka1 .int ln [(.int (x ^^^ ((y * (0 : Int32)) + (0 : Int32)))), (.int (x ^^^ ((y * (1 : Int32)) + (1 : Int32))))] (.int (0 : Int32)) := Vw19.pad (fun i => (pad_rep ([(.int (x ^^^ ((y * (0 : Int32)) + (0 : Int32)))), (.int (x ^^^ ((y * (1 : Int32)) + (1 : Int32))))] : List Value) (.int (0 : Int32)) 6 i).symm)
        have F112 := (f0.keep K20)
        have F113 := (f1.keep K20 nin0)
        have Z114 : n0 ≤ hw19.size := (Nat.le_trans Z14 (Keep.of_wr Ww19).1)
        have O115 : Old Z n0 hw19 := (O15.wr Ww19 g_ba1)
        have Y116 : h0.size ≤ hw19.size := (Nat.le_trans (Nat.le_trans (Nat.le_trans (Nat.le_refl h0.size) Ea1.1) (Keep.of_wr Ww10).1) (Keep.of_wr Ww19).1)
        obtain ⟨s₂, o, q1, q2, q3, q4⟩ := tl_p3 p l e s m _ below meth c _ _ vm0 k0 Z a0 hw p1 p2 x y kk ln t ba1 ka1 [(.int (x ^^^ ((y * (0 : Int32)) + (0 : Int32)))), (.int (x ^^^ ((y * (1 : Int32)) + (1 : Int32))))] hw19 n0 (Xw19.more (by decide) (by decide)) hx hZ hby hml hown hret hlk hS (Nat.le_trans hk0 Y116) ew19 Nw19 Z114 O115 F112 F113 Vx hk hl (by rw [hln]; exact Nat.le_of_ble_eq_true rfl) (by rw [hln]; rfl) (by rw [hln]; rfl) (by rw [hln]; rfl) (by rw [hln]; rfl) (by rw [hln]; rfl) (by rw [hln]; rfl) (by rw [hln]; rfl) (by rw [hln]; rfl) (by rw [hln]; rfl) (by rw [hln]; rfl)
        exact ⟨s₂, o, r111 _ q1, q2, q3, q4⟩
    · have r117 : ∀ t_, Sp p e below Tw10 (mkF m 279 #[.val (.int p1), .val (.int p2), .val (.int x), .val (.int y), .val (.int kk), .val (.int ln), .val (.ref t), .val (.ref ba1), .unset, .unset, .unset] []) t_ → Sp p e below T0 (mkF m 140 #[.val (.int p1), .val (.int p2), .val (.int x), .val (.int y), .val (.int kk), .val (.int ln), .val (.ref t), .unset, .unset, .unset, .unset] []) t_ := by
        intro t_ k_
        refine r12 _ ?_
        refine XS.icmpYes Xw10.here hx rfl (pc0 := 164) (pc' := 177) rfl (hb hby at_164) rfl (flt c13).2.2.2 (by decide) (by decide) ?_
        refine XS.iload Xw10.here hx rfl (hb hby at_177) rfl ?_
        refine XS.iconst Xw10.here hx rfl (hb hby at_179) ?_
        refine XS.icmpYes Xw10.here hx rfl (pc0 := 180) (pc' := 193) rfl (hb hby at_180) rfl (flt (fun q => c13 (Int32.lt_trans (by decide) q))).2.2.2 (by decide) (by decide) ?_
        refine XS.iload Xw10.here hx rfl (hb hby at_193) rfl ?_
        refine XS.iconst Xw10.here hx rfl (hb hby at_195) ?_
        refine XS.icmpYes Xw10.here hx rfl (pc0 := 196) (pc' := 209) rfl (hb hby at_196) rfl (flt (fun q => c13 (Int32.lt_trans (by decide) q))).2.2.2 (by decide) (by decide) ?_
        refine XS.iload Xw10.here hx rfl (hb hby at_209) rfl ?_
        refine XS.iconst Xw10.here hx rfl (hb hby at_211) ?_
        refine XS.icmpYes Xw10.here hx rfl (pc0 := 212) (pc' := 225) rfl (hb hby at_212) rfl (flt (fun q => c13 (Int32.lt_trans (by decide) q))).2.2.2 (by decide) (by decide) ?_
        refine XS.iload Xw10.here hx rfl (hb hby at_225) rfl ?_
        refine XS.iconst Xw10.here hx rfl (hb hby at_227) ?_
        refine XS.icmpYes Xw10.here hx rfl (pc0 := 228) (pc' := 241) rfl (hb hby at_228) rfl (flt (fun q => c13 (Int32.lt_trans (by decide) q))).2.2.2 (by decide) (by decide) ?_
        refine XS.iload Xw10.here hx rfl (hb hby at_241) rfl ?_
        refine XS.bipush Xw10.here hx rfl (hb hby at_243) ?_
        refine XS.icmpYes Xw10.here hx rfl (pc0 := 245) (pc' := 260) rfl (hb hby at_245) rfl (flt (fun q => c13 (Int32.lt_trans (by decide) q))).2.2.2 (by decide) (by decide) ?_
        refine XS.iload Xw10.here hx rfl (hb hby at_260) rfl ?_
        refine XS.bipush Xw10.here hx rfl (hb hby at_262) ?_
        refine XS.icmpYes Xw10.here hx rfl (pc0 := 264) (pc' := 279) rfl (hb hby at_264) rfl (flt (fun q => c13 (Int32.lt_trans (by decide) q))).2.2.2 (by decide) (by decide) ?_
        show Sp p e below Tw10 (mkF m 279 #[.val (.int p1), .val (.int p2), .val (.int x), .val (.int y), .val (.int kk), .val (.int ln), .val (.ref t), .val (.ref ba1), .unset, .unset, .unset] []) _
        exact k_
      have hln : ln = (1 : Int32) := by
        rcases own_08 hl with q | q | q | q | q | q | q | q | q <;> simp only [q] at c4 c13 ⊢ <;> first | rfl | (exfalso; revert c4 c13; decide)
      have Vx : Arv Z hw10 ba1 ka1 .int ln [(.int (x ^^^ ((y * (0 : Int32)) + (0 : Int32))))] (.int (0 : Int32)) := Vw10.pad (fun i => (pad_rep ([(.int (x ^^^ ((y * (0 : Int32)) + (0 : Int32))))] : List Value) (.int (0 : Int32)) 7 i).symm)
      have F118 := (f0.keep K11)
      have F119 := (f1.keep K11 nin0)
      have Z120 : n0 ≤ hw10.size := (Nat.le_trans Z5 (Keep.of_wr Ww10).1)
      have O121 : Old Z n0 hw10 := (O6.wr Ww10 g_ba1)
      have Y122 : h0.size ≤ hw10.size := (Nat.le_trans (Nat.le_trans (Nat.le_refl h0.size) Ea1.1) (Keep.of_wr Ww10).1)
      obtain ⟨s₂, o, q1, q2, q3, q4⟩ := tl_p3 p l e s m _ below meth c _ _ vm0 k0 Z a0 hw p1 p2 x y kk ln t ba1 ka1 [(.int (x ^^^ ((y * (0 : Int32)) + (0 : Int32))))] hw10 n0 (Xw10.more (by decide) (by decide)) hx hZ hby hml hown hret hlk hS (Nat.le_trans hk0 Y122) ew10 Nw10 Z120 O121 F118 F119 Vx hk hl (by rw [hln]; exact Nat.le_of_ble_eq_true rfl) (by rw [hln]; rfl) (by rw [hln]; rfl) (by rw [hln]; rfl) (by rw [hln]; rfl) (by rw [hln]; rfl) (by rw [hln]; rfl) (by rw [hln]; rfl) (by rw [hln]; rfl) (by rw [hln]; rfl) (by rw [hln]; rfl)
      exact ⟨s₂, o, r117 _ q1, q2, q3, q4⟩
  · have r123 : ∀ t_, Sp p e below Ta1 (mkF m 279 #[.val (.int p1), .val (.int p2), .val (.int x), .val (.int y), .val (.int kk), .val (.int ln), .val (.ref t), .val (.ref ba1), .unset, .unset, .unset] []) t_ → Sp p e below T0 (mkF m 140 #[.val (.int p1), .val (.int p2), .val (.int x), .val (.int y), .val (.int kk), .val (.int ln), .val (.ref t), .unset, .unset, .unset, .unset] []) t_ := by
      intro t_ k_
      refine r3 _ ?_
      refine XS.ifYes Xa1.here hx rfl (pc0 := 148) (pc' := 161) rfl (hb hby at_148) rfl ((if0 _ _).trans (flt c4).2.2.2) (by decide) (by decide) ?_
      refine XS.iload Xa1.here hx rfl (hb hby at_161) rfl ?_
      refine XS.iconst Xa1.here hx rfl (hb hby at_163) ?_
      refine XS.icmpYes Xa1.here hx rfl (pc0 := 164) (pc' := 177) rfl (hb hby at_164) rfl (flt (fun q => c4 (Int32.lt_trans (by decide) q))).2.2.2 (by decide) (by decide) ?_
      refine XS.iload Xa1.here hx rfl (hb hby at_177) rfl ?_
      refine XS.iconst Xa1.here hx rfl (hb hby at_179) ?_
      refine XS.icmpYes Xa1.here hx rfl (pc0 := 180) (pc' := 193) rfl (hb hby at_180) rfl (flt (fun q => c4 (Int32.lt_trans (by decide) q))).2.2.2 (by decide) (by decide) ?_
      refine XS.iload Xa1.here hx rfl (hb hby at_193) rfl ?_
      refine XS.iconst Xa1.here hx rfl (hb hby at_195) ?_
      refine XS.icmpYes Xa1.here hx rfl (pc0 := 196) (pc' := 209) rfl (hb hby at_196) rfl (flt (fun q => c4 (Int32.lt_trans (by decide) q))).2.2.2 (by decide) (by decide) ?_
      refine XS.iload Xa1.here hx rfl (hb hby at_209) rfl ?_
      refine XS.iconst Xa1.here hx rfl (hb hby at_211) ?_
      refine XS.icmpYes Xa1.here hx rfl (pc0 := 212) (pc' := 225) rfl (hb hby at_212) rfl (flt (fun q => c4 (Int32.lt_trans (by decide) q))).2.2.2 (by decide) (by decide) ?_
      refine XS.iload Xa1.here hx rfl (hb hby at_225) rfl ?_
      refine XS.iconst Xa1.here hx rfl (hb hby at_227) ?_
      refine XS.icmpYes Xa1.here hx rfl (pc0 := 228) (pc' := 241) rfl (hb hby at_228) rfl (flt (fun q => c4 (Int32.lt_trans (by decide) q))).2.2.2 (by decide) (by decide) ?_
      refine XS.iload Xa1.here hx rfl (hb hby at_241) rfl ?_
      refine XS.bipush Xa1.here hx rfl (hb hby at_243) ?_
      refine XS.icmpYes Xa1.here hx rfl (pc0 := 245) (pc' := 260) rfl (hb hby at_245) rfl (flt (fun q => c4 (Int32.lt_trans (by decide) q))).2.2.2 (by decide) (by decide) ?_
      refine XS.iload Xa1.here hx rfl (hb hby at_260) rfl ?_
      refine XS.bipush Xa1.here hx rfl (hb hby at_262) ?_
      show Sp p e below Ta1 (mkF m 264 #[.val (.int p1), .val (.int p2), .val (.int x), .val (.int y), .val (.int kk), .val (.int ln), .val (.ref t), .val (.ref ba1), .unset, .unset, .unset] [(.int (7 : Int32)), (.int ln)]) _
      refine XS.icmpYes Xa1.here hx rfl (pc0 := 264) (pc' := 279) rfl (hb hby at_264) rfl (flt (fun q => c4 (Int32.lt_trans (by decide) q))).2.2.2 (by decide) (by decide) ?_
      show Sp p e below Ta1 (mkF m 279 #[.val (.int p1), .val (.int p2), .val (.int x), .val (.int y), .val (.int kk), .val (.int ln), .val (.ref t), .val (.ref ba1), .unset, .unset, .unset] []) _
      exact k_
    have hln : ln = (0 : Int32) := by
      rcases own_08 hl with q | q | q | q | q | q | q | q | q <;> simp only [q] at c4 ⊢ <;> first | rfl | (exfalso; revert c4; decide)
    have Vx : Arv Z ha1 ba1 ka1 .int ln [] (.int (0 : Int32)) := Va1.pad (fun i => (pad_rep ([] : List Value) (.int (0 : Int32)) 8 i).symm)
    have F124 := (f0.keep K2)
    have F125 := (f1.keep K2 nin0)
    have Z126 : n0 ≤ ha1.size := (Nat.le_trans Z0 Ea1.1)
    have O127 : Old Z n0 ha1 := (O0.ext Ea1)
    have Y128 : h0.size ≤ ha1.size := (Nat.le_trans (Nat.le_refl h0.size) Ea1.1)
    obtain ⟨s₂, o, q1, q2, q3, q4⟩ := tl_p3 p l e s m _ below meth c _ _ vm0 k0 Z a0 hw p1 p2 x y kk ln t ba1 ka1 [] ha1 n0 (Xa1.more (by decide) (by decide)) hx hZ hby hml hown hret hlk hS (Nat.le_trans hk0 Y128) ea1 N0 Z126 O127 F124 F125 Vx hk hl (by rw [hln]; exact Nat.le_of_ble_eq_true rfl) (by rw [hln]; rfl) (by rw [hln]; rfl) (by rw [hln]; rfl) (by rw [hln]; rfl) (by rw [hln]; rfl) (by rw [hln]; rfl) (by rw [hln]; rfl) (by rw [hln]; rfl) (by rw [hln]; rfl) (by rw [hln]; rfl)
    exact ⟨s₂, o, r123 _ q1, q2, q3, q4⟩
theorem own_since (s : State) : s.Since s.vm 0 := (State.WarmedH.refl s).since 0
/-- a String that a table's entry names keeps its text in a byte[] -/
theorem own_bytes {Z s : State} {a0 : Array Value} {EL : List (String × Nat)} {vm : Vm} {h : Heap} {own text : String} {ix : Nat} {m : ClassId} {a b : Addr} {k : ClassId} {z : Int32} {vs : List Value} {d : Value} (hZ : Z.Warmed39 vm) (hown : vm.findClass own = some m) (w : (Jvm.Cond.stringLink own ix text).before a0 Z = true) (hm : (own, ix) ∈ EL) (H : CHv Z EL vm h) (L : Lit (s.setVm vm) own ix a) (F : Fld Z h a S0 "value" "[B" (.ref b)) (V : Arv Z h b k .byte z vs d) : Exa Z h b "[B" := by
  obtain ⟨kc, cf, i, u, e1, e2, e3, e4, -, -, e5⟩ := Cond.stringLink_spec (s := Wst Z vm h) hown (mvS (args := a0) (s := { Z with heap := h }) hZ w)
  have r : (kc.resolved[ix]?).join = some (.string a) := by
    have q : (vm.findClass own).bind (fun c => (vm.classes[c]?).bind fun k => (k.resolved[ix]?).join) = some (.string a) := L
    rw [hown] at q
    exact (congrArg (fun o => o.bind fun k : Class => (k.resolved[ix]?).join) e1).symm.trans q
  have B : Booksv vm own ix u a := by
    refine ⟨m, kc, cf, i, hown, e1, e2, e3, e4, Or.inl ?_⟩
    rcases e5 with e | ⟨a', e⟩ <;> rw [e] at r
    · cases r
    · rw [e]; exact congrArg some r
  obtain ⟨q, rfl, S⟩ := SlB.of (H _ hm u a B)
  have D : h[q.sd]? = some q.SA := S.hd
  obtain ⟨cS, ⟨⟨p1, p2, p3, ⟨c, kf, j, p4, p5⟩, -, p6, -, p7, -⟩, -⟩, -, fB, -⟩ := S
  have G : Fld (Wst Z vm h) h q.sa S0 "value" "[B" (.ref q.sd) := ⟨q.sC, c, kf, j, q.fSV, p1, p4, p6, p2, p3, p5, p7⟩
  have e := (Fld.fin (U := Wst Z vm h) hZ.alike F).symm.trans (Fld.fin (U := Wst Z vm h) (Vm.Alike.refl _) G)
  simp only [Option.some.injEq, Value.ref.injEq] at e
  subst e
  obtain ⟨C, ⟨A, ⟨n1, kb, n2, comp, n3⟩, -⟩, -⟩ := V
  cases A.symm.trans D
  refine ⟨_, kb, A, (hZ.alike.findClass _ _).symm.trans fB, n2, ?_, fun o => nomatch n3.symm.trans o⟩
  cases hv : q.SA.vm with
  | statics x => exact absurd hv (n1 x)
  | _ => rfl
def own_el : List (String × Nat) := [11, 17, 19, 21, 23, 25, 27, 29].map fun i => (S2, i)
theorem own_ew {Z : State} {a0 : Array Value} (hw : ∀ d ∈ tables_1, d.before a0 Z = true) : EW Z a0 own_el := (EW.cons (own := S2) (index := 11) (text := "a") (tw hw 37 rfl) (by decide) (EW.cons (own := S2) (index := 17) (text := "b") (tw hw 130 rfl) (by decide) (EW.cons (own := S2) (index := 19) (text := "c") (tw hw 131 rfl) (by decide) (EW.cons (own := S2) (index := 21) (text := "d") (tw hw 132 rfl) (by decide) (EW.cons (own := S2) (index := 23) (text := "e") (tw hw 133 rfl) (by decide) (EW.cons (own := S2) (index := 25) (text := "f") (tw hw 134 rfl) (by decide) (EW.cons (own := S2) (index := 27) (text := "g") (tw hw 135 rfl) (by decide) (EW.cons (own := S2) (index := 29) (text := "h") (tw hw 136 rfl) (by decide) EW.nil))))))))
theorem own_held {Z : State} (hheld : ∀ i ∈ [11, 17, 19, 21, 23, 25, 27, 29], Jvm.Lit.constHeld Z S2 i) : ∀ p ∈ own_el, Jvm.Lit.constHeld Z p.1 p.2 := fun p hp => by
  obtain ⟨i, hi, rfl⟩ := List.mem_map.mp hp
  exact hheld i hi
theorem ef_0_IIII (m : MethodId) (x0 : Int32) (x1 : Int32) (x2 : Int32) (x3 : Int32) : entryFrame m #[(.int x0), (.int x1), (.int x2), (.int x3)] maxLocals = mkF m 0 #[.val (.int x0), .val (.int x1), .val (.int x2), .val (.int x3), .unset, .unset, .unset, .unset, .unset, .unset, .unset] [] := by first | (simp [entryFrame, mkF, argsToLocals, Value.category, maxLocals]; done) | rfl
theorem pd___V : parseMethodDescriptor "()V" = some ⟨[], none⟩ := by decide +kernel
theorem pd__Ljava_lang_String__Z : parseMethodDescriptor "(Ljava/lang/String;)Z" = some ⟨[(.object "java/lang/String")], some .boolean⟩ := by decide +kernel
set_option maxRecDepth 65536 in
set_option maxHeartbeats 40000000 in
theorem rm_law (l : Launch) (Z : State) (a0 : Array Value) (hw : ∀ d ∈ tables_1, d.before a0 Z = true) (ws : List Jvm.Cond) (p1 p2 x y : Int32) (aU : Addr) (cs : Int32) (SS : own_start Z aU cs) (hheld : ∀ i ∈ [11, 17, 19, 21, 23, 25, 27, 29], Jvm.Lit.constHeld Z S2 i) (hcw : Jvm.Lit.compactW.before a0 Z = true) (wS : ∀ a ∈ Bundle.stringAtoms, a.before a0 Z = true) :
    MetFree l Jvm.Pilot.@@N@@.x (head1 (Jvm.Cond.code Jvm.Pilot.@@N@@.x code maxLocals ret :: ws) room_1) (fun a U => a = #[(.int p1), (.int p2), (.int x), (.int y)] ∧ U = Z) (fun _ _ _ _ _ => True) (fun _ U o U' => ∃ v L, o = .returned v ∧ Q_law Z Z.heap.size v U'.heap L ∧ ReturnedEndW U o U' L room_1.cells room_1.slots) := by
  refine MetFree.of_bodySF (plainFor_of_name pn_4) hisR ?_
  intro p e s m args below meth c s₁ Bd hml0 hP hK
  obtain ⟨rfl, hsZ⟩ := hP
  have hx := Bd.exec
  have hby := Bd.bytes
  have hml : c.maxLocals = 11 := hml0
  have hown : s.vm.findClass S2 = some m.cls := findClass_of_methodNamed Bd.named
  have hret := Bd.returns
  have hlk := Bd.notSynchronized
  have hZ : Z.Warmed39 s.vm := by rw [hsZ]; exact State.Warmed39.refl Z
  have X0 : Stand p l e room_1 s m #[(.int p1), (.int p2), (.int x), (.int y)] below meth c s₁ [] 0 0 := Stand.of_body Bd
  obtain ⟨h0, hh0⟩ : ∃ z, z = Z.heap := ⟨_, rfl⟩
  have e0 : s₁.heap = h0 := by rw [hh0, Bd.state, ← hsZ]; rfl
  obtain ⟨n0, hn0⟩ : ∃ z, z = Z.heap.size := ⟨_, rfl⟩
  have hn1 : n0 = s.heap.size := by rw [hn0, hsZ]
  have hkp : ∀ (b : Addr) (cl : Cell), Z.heap[b]? = some cl → s.heap[b]? = some cl := fun b cl q => by rw [hsZ]; exact q
  have Z0 : n0 ≤ h0.size := by rw [hn0, hh0]; exact Nat.le_refl _
  have O0 : Old Z n0 h0 := by rw [hn0, hh0]; exact Old.start Z
  have N0 := Fr.nil n0
  have C0 : CHv Z own_el s.vm h0 := by rw [hsZ, hh0]; exact CHv.start (own_ew hw) (own_held hheld) hcw (wS _ (by decide +kernel)) (wS _ (by decide +kernel))
  have hS : s.Since s.vm 0 := own_since s
  have hk0 : 0 ≤ h0.size := Nat.zero_le _
  obtain ⟨vm0, hvm0⟩ : ∃ z, z = s.vm := ⟨_, rfl⟩
  have X0 : Stand p l e room_1 (s.setVm vm0) m #[(.int p1), (.int p2), (.int x), (.int y)] below meth c s₁ [] 0 0 := by rw [hvm0]; exact X0
  have hZ : Z.Warmed39 (s.setVm vm0).vm := by rw [hvm0]; exact hZ
  have hown : (s.setVm vm0).vm.findClass S2 = some m.cls := by rw [hvm0]; exact hown
  rw [← hvm0] at C0 hS
  obtain ⟨S_U8, S_IN, S_CS, H_CS⟩ := SS
  have pre0 : ∀ t_, Sp p e below s₁ (mkF m 0 #[.val (.int p1), .val (.int p2), .val (.int x), .val (.int y), .unset, .unset, .unset, .unset, .unset, .unset, .unset] []) t_ → Sp p e below s₁ (entryFrame m #[(.int p1), (.int p2), (.int x), (.int y)] maxLocals) t_ := fun t_ k_ => castTop (ef_0_IIII m p1 p2 x y) k_
  have r1 : ∀ t_, Sp p e below s₁ (mkF m 7 #[.val (.int p1), .val (.int p2), .val (.int x), .val (.int y), .unset, .unset, .unset, .unset, .unset, .unset, .unset] [(.int ((p1 &&& (2147483647 : Int32)) % (9 : Int32)))]) t_ → Sp p e below s₁ (entryFrame m #[(.int p1), (.int p2), (.int x), (.int y)] maxLocals) t_ := by
    intro t_ k_
    refine pre0 _ ?_
    refine XS.iloadN X0.here hx rfl (hb hby at_0) rfl ?_
    show Sp p e below s₁ (mkF m 1 #[.val (.int p1), .val (.int p2), .val (.int x), .val (.int y), .unset, .unset, .unset, .unset, .unset, .unset, .unset] [(.int p1)]) _
    refine Jvm.Stand.ldcI X0 hx hown (mvT hZ (tw hw 0 rfl)) rfl (hb hby at_1) ?_
    refine XS.iand X0.here hx rfl (hb hby at_3) rfl ?_
    refine XS.bipush X0.here hx rfl (hb hby at_4) ?_
    show Sp p e below s₁ (mkF m 6 #[.val (.int p1), .val (.int p2), .val (.int x), .val (.int y), .unset, .unset, .unset, .unset, .unset, .unset, .unset] [(.int (9 : Int32)), (.int (p1 &&& (2147483647 : Int32)))]) _
    refine iremM X0 hx rfl (hb hby at_6) rfl (by decide) ?_
    show Sp p e below s₁ (mkF m 7 #[.val (.int p1), .val (.int p2), .val (.int x), .val (.int y), .unset, .unset, .unset, .unset, .unset, .unset, .unset] [(.int ((p1 &&& (2147483647 : Int32)) % (9 : Int32)))]) _
    exact k_
  have hk := own_rem9 p1
  obtain ⟨kk, hkk⟩ : ∃ z : Int32, z = ((p1 &&& (2147483647 : Int32)) % (9 : Int32)) := ⟨_, rfl⟩
  rw [← hkk] at r1 hk
  have r2 : ∀ t_, Sp p e below s₁ (mkF m 16 #[.val (.int p1), .val (.int p2), .val (.int x), .val (.int y), .val (.int kk), .unset, .unset, .unset, .unset, .unset, .unset] [(.int ((p2 &&& (2147483647 : Int32)) % (9 : Int32)))]) t_ → Sp p e below s₁ (entryFrame m #[(.int p1), (.int p2), (.int x), (.int y)] maxLocals) t_ := by
    intro t_ k_
    refine r1 _ ?_
    refine XS.istore X0.here hx rfl (hb hby at_7) rfl (l' := #[.val (.int p1), .val (.int p2), .val (.int x), .val (.int y), .val (.int kk), .unset, .unset, .unset, .unset, .unset, .unset]) rfl ?_
    refine XS.iloadN X0.here hx rfl (hb hby at_9) rfl ?_
    show Sp p e below s₁ (mkF m 10 #[.val (.int p1), .val (.int p2), .val (.int x), .val (.int y), .val (.int kk), .unset, .unset, .unset, .unset, .unset, .unset] [(.int p2)]) _
    refine Jvm.Stand.ldcI X0 hx hown (mvT hZ (tw hw 0 rfl)) rfl (hb hby at_10) ?_
    refine XS.iand X0.here hx rfl (hb hby at_12) rfl ?_
    refine XS.bipush X0.here hx rfl (hb hby at_13) ?_
    show Sp p e below s₁ (mkF m 15 #[.val (.int p1), .val (.int p2), .val (.int x), .val (.int y), .val (.int kk), .unset, .unset, .unset, .unset, .unset, .unset] [(.int (9 : Int32)), (.int (p2 &&& (2147483647 : Int32)))]) _
    refine iremM X0 hx rfl (hb hby at_15) rfl (by decide) ?_
    show Sp p e below s₁ (mkF m 16 #[.val (.int p1), .val (.int p2), .val (.int x), .val (.int y), .val (.int kk), .unset, .unset, .unset, .unset, .unset, .unset] [(.int ((p2 &&& (2147483647 : Int32)) % (9 : Int32)))]) _
    exact k_
  have hl := own_rem9 p2
  obtain ⟨ln, hln⟩ : ∃ z : Int32, z = ((p2 &&& (2147483647 : Int32)) % (9 : Int32)) := ⟨_, rfl⟩
  rw [← hln] at r2 hl
  obtain ⟨To3, ho3, Xo3, eo3, Eo3, Ao3, Do3, -, sto3⟩ := newO X0 hx hZ hown (tw hw 1 rfl) (tw hw 2 rfl) (tw hw 3 rfl) e0 (g := (mkF m 18 #[.val (.int p1), .val (.int p2), .val (.int x), .val (.int y), .val (.int kk), .val (.int ln), .unset, .unset, .unset, .unset, .unset] [])) rfl (hb hby at_18) (by decide) (by decide)
  obtain ⟨bo3, go3⟩ : ∃ z, z = h0.size := ⟨_, rfl⟩
  rw [← go3] at Ao3 Do3 sto3
  have g_bo3 : n0 ≤ bo3 := Nat.le_trans Z0 (Nat.le_of_eq go3.symm)
  have y_bo3 : h0.size ≤ bo3 := Nat.le_trans (Nat.le_refl h0.size) (Nat.le_of_eq go3.symm)
  have K4 : Keep h0 ho3 [] := (Keep.refl h0 []).ext Eo3
  have Fo3_slots : Fld Z ho3 bo3 S1 "slots" "[J" .null := Do3 (Or.inl (tw hw 12 rfl)) (ty := (.array .long)) (by decide)
  have Fo3_ends : Fld Z ho3 bo3 S1 "ends" "[I" .null := Do3 (Or.inl (tw hw 15 rfl)) (ty := (.array .int)) (by decide)
  have Fo3_blocks : Fld Z ho3 bo3 S1 "blocks" "[[B" .null := Do3 (Or.inl (tw hw 19 rfl)) (ty := (.array (.array .byte))) (by decide)
  have Fo3_size : Fld Z ho3 bo3 S1 "size" "I" (.int (0 : Int32)) := Do3 (Or.inl (tw hw 30 rfl)) (ty := .int) (by decide)
  have Fo3_stored : Fld Z ho3 bo3 S1 "stored" "I" (.int (0 : Int32)) := Do3 (Or.inl (tw hw 105 rfl)) (ty := .int) (by decide)
  have Z5 : n0 ≤ ho3.size := (Nat.le_trans Z0 Eo3.1)
  have O6 : Old Z n0 ho3 := (O0.ext Eo3)
  obtain ⟨_, _, ⟨Tk7, Lk7, kk7, nk7⟩, -, Xk7, ⟨Lck7, hQk7, lk7, yk7, zk7⟩, stk7⟩ := Xo3.specialBack hx (y := Y14) rfl hown (mvT hZ (tw hw 4 rfl)) (mvT hZ (tw hw 5 rfl)) (mvT hZ (tw hw 6 rfl)) (by decide) (backOf (W := 1) (rm_tkinit l Z a0 hw [] bo3  ho3 n0 Z5 O6 Ao3 Fo3_slots Fo3_ends Fo3_blocks Fo3_stored Fo3_size g_bo3) hZ (tw hw 6 rfl) (tw hw 3 rfl) (by decide) (by decide)) (g := (mkF m 22 #[.val (.int p1), .val (.int p2), .val (.int x), .val (.int y), .val (.int kk), .val (.int ln), .unset, .unset, .unset, .unset, .unset] [(.ref bo3), (.ref bo3)])) rfl (by rw [hml]; rfl) (Steps.refl _) (a := bo3) (argsL := []) (rest := [(.ref bo3)]) (lenOf pd___V rfl) rfl (by show 2 * 0 + _ ≤ _; exact Nat.le_of_eq rfl) (hb hby at_22) (fun _ _ => ⟨rfl, eo3, (by decide : 1 + 3 ≤ _), (by decide : 5 + 17 ≤ _)⟩)
  dsimp only [Pt.U, Pt.locs, Pt.cells, Pt.slots] at Xk7 lk7 yk7 zk7 stk7 hQk7
  subst lk7 yk7 zk7
  obtain ⟨slk7, ksk7, enk7, kenk7, blk7, kblk7, rfl, Nk7q, Kk7q, Gk7_0, Gk7_1, Gk7_2, Qk7_0, Qk7_1, Qk7_2, Qk7_3, Qk7_4, Qk7_5, Qk7_6, Qk7_7, Qk7_8, Qk7_9, Qk7_10, Qk7_11⟩ := hQk7
  have Y8 : h0.size ≤ ho3.size := (Nat.le_trans (Nat.le_refl h0.size) Eo3.1)
  have g_slk7 : n0 ≤ slk7 := Nat.le_trans Z5 Gk7_0
  have y_slk7 : h0.size ≤ slk7 := Nat.le_trans Y8 Gk7_0
  have g_enk7 : n0 ≤ enk7 := Nat.le_trans Z5 Gk7_1
  have y_enk7 : h0.size ≤ enk7 := Nat.le_trans Y8 Gk7_1
  have g_blk7 : n0 ≤ blk7 := Nat.le_trans Z5 Gk7_2
  have y_blk7 : h0.size ≤ blk7 := Nat.le_trans Y8 Gk7_2
  have K9 : Keep h0 Tk7.heap [] := K4.trans Kk7q (allS (P := fun x => x ∈ ([] : List Addr) ∨ h0.size ≤ x) (Or.inr y_bo3) all0)
  have Nk7 := Fr.app N0 Nk7q
  have r10 : ∀ t_, Sp p e below Tk7 (mkF m 29 #[.val (.int p1), .val (.int p2), .val (.int x), .val (.int y), .val (.int kk), .val (.int ln), .val (.ref bo3), .unset, .unset, .unset, .unset] [(.int kk)]) t_ → Sp p e below s₁ (entryFrame m #[(.int p1), (.int p2), (.int x), (.int y)] maxLocals) t_ := by
    intro t_ k_
    refine r2 _ ?_
    refine XS.istore X0.here hx rfl (hb hby at_16) rfl (l' := #[.val (.int p1), .val (.int p2), .val (.int x), .val (.int y), .val (.int kk), .val (.int ln), .unset, .unset, .unset, .unset, .unset]) rfl ?_
    refine sto3 _ ?_
    refine XS.dup Xo3.here hx rfl (hb hby at_21) rfl rfl ?_
    refine stk7.trans ?_
    refine XS.astore Xk7.here hx rfl (hb hby at_25) rfl rfl (l' := #[.val (.int p1), .val (.int p2), .val (.int x), .val (.int y), .val (.int kk), .val (.int ln), .val (.ref bo3), .unset, .unset, .unset, .unset]) rfl ?_
    refine XS.iload Xk7.here hx rfl (hb hby at_27) rfl ?_
    show Sp p e below Tk7 (mkF m 29 #[.val (.int p1), .val (.int p2), .val (.int x), .val (.int y), .val (.int kk), .val (.int ln), .val (.ref bo3), .unset, .unset, .unset, .unset] [(.int kk)]) _
    exact k_
  by_cases c11 : (0 : Int32) < kk
  · have C12 : CHv Z own_el vm0 ho3 := CHv.ext Eo3 C0
    have A13 : ∀ x ∈ [bo3], Safe Z own_el vm0 ho3 x := (allS (P := fun x => Safe Z own_el vm0 ho3 x) (Safe.exa hZ.alike Ao3 (by decide) (by decide)) all0)
    have C14 : CHv Z own_el vm0 Tk7.heap := CHv.keep Kk7q A13 C12
    obtain ⟨aq15, Tq15, hq15, kq15, bq15, cq15, Xq15, eq15, Eq15, hSq15, hkq15, hZ, hown, Eaq15, Fcq15, Fvq15, Vbq15, -, -, Cq15, Lq15, -, stq15⟩ := ldcCH Xk7 hx hZ hown (text := "a") (tw hw 37 rfl) wS rfl hS (Nat.le_trans (Nat.le_trans hk0 Eo3.1) Kk7q.1) (own_ew hw) (List.mem_of_getElem? (i := 0) rfl) C14 (vs := [(.int (97 : Int32))]) (z := (1 : Int32)) (by decide) (by decide) (by decide) (g := (mkF m 34 #[.val (.int p1), .val (.int p2), .val (.int x), .val (.int y), .val (.int kk), .val (.int ln), .val (.ref bo3), .unset, .unset, .unset, .unset] [(.ref bo3)])) rfl (hb hby at_34) (n := 4) (by decide) (by decide) (by decide) (by decide)
    have Ebq15 := own_bytes (vm := Tq15.vm) (text := "a") hZ hown (tw hw 37 rfl) (List.mem_of_getElem? (i := 0) rfl) Cq15.1 Lq15 Fvq15 Vbq15
    have K16 : Keep h0 hq15 [] := K9.ext Eq15
    have F17 := ((Ao3.keep Kk7q).ext Eq15)
    have F18 := (Qk7_0.ext Eq15)
    have F19 := (Qk7_1.ext Eq15)
    have F20 := (Qk7_2.ext Eq15)
    have F21 := (Qk7_3.ext Eq15)
    have F22 := (Qk7_4.ext Eq15)
    have F23 := (Qk7_5.ext Eq15)
    have F24 := (Qk7_6.ext Eq15)
    have F25 := (Qk7_7.ext Eq15)
    have F26 := (Qk7_8.ext Eq15)
    have F27 := (Qk7_9.ext Eq15)
    have F28 := (Qk7_10.ext Eq15)
    have F29 := Qk7_11
    have Z30 : n0 ≤ hq15.size := (Nat.le_trans (Nat.le_trans Z5 Kk7q.1) Eq15.1)
    have O31 : Old Z n0 hq15 := ((O6.keep Kk7q (allS g_bo3 all0)).ext Eq15)
    obtain ⟨cqk32, kqk32, qk32a, qk32b, qk32c⟩ := isOf hZ eq15 F17
    obtain ⟨_, _, ⟨Tk32, Lk32, kk32, nk32⟩, -, Xk32, ⟨Lck32, hQk32, lk32, yk32, zk32⟩, stk32⟩ := Xq15.virtualBack hx (y := Y15) (z := Y15) hown (mvT hZ (tw hw 45 rfl)) (mvT hZ (tw hw 46 rfl)) (notFace_of_selects (args := #[]) (mvT hZ (tw hw 48 rfl))) (mvT hZ (tw hw 48 rfl)) (mvT hZ (tw hw 47 rfl)) (by decide) (backOf (W := 0) (rm_add0 l Z a0 hw [] bo3 aq15 bq15 cq15 slk7 ksk7 enk7 kenk7 blk7 kblk7 aU cs hq15 n0 Z30 O31 F17 F18 F19 F20 F21 F22 F23 F24 F25 F26 F27 F28 F29 Eaq15 Fcq15 Fvq15 Vbq15 Ebq15 ⟨S_U8, S_IN, S_CS, H_CS⟩ g_bo3 g_slk7 g_blk7) hZ (tw hw 49 rfl) (tw hw 3 rfl) (by decide) (by decide)) qk32a qk32c (g := (mkF m 36 #[.val (.int p1), .val (.int p2), .val (.int x), .val (.int y), .val (.int kk), .val (.int ln), .val (.ref bo3), .unset, .unset, .unset, .unset] [(.ref aq15), (.ref bo3)])) rfl (by rw [hml]; rfl) (Steps.refl _) (argsL := [(.ref aq15)]) (rest := []) (lenOf pd__Ljava_lang_String__Z rfl) rfl (by show 2 * 0 + _ ≤ _; exact Nat.le_of_eq rfl) (hb hby at_36) (fun _ _ => ⟨rfl, eq15, (by decide : 6 + 3 ≤ _), (by decide : 30 + 65549 ≤ _)⟩)
    dsimp only [Pt.U, Pt.locs, Pt.cells, Pt.slots] at Xk32 lk32 yk32 zk32 stk32 hQk32
    subst lk32 yk32 zk32
    obtain ⟨en2k32, ken2k32, bkk32, kbkk32, rfl, Nk32q, Kk32q, Gk32_0, Gk32_1, Qk32_0, Qk32_1, Qk32_2, Qk32_3, Qk32_4, Qk32_5, Qk32_6, Qk32_7, Qk32_8, Qk32_9, Qk32_10⟩ := hQk32
    have Y33 : h0.size ≤ hq15.size := (Nat.le_trans (Nat.le_trans Y8 Kk7q.1) Eq15.1)
    have g_en2k32 : n0 ≤ en2k32 := Nat.le_trans Z30 Gk32_0
    have y_en2k32 : h0.size ≤ en2k32 := Nat.le_trans Y33 Gk32_0
    have g_bkk32 : n0 ≤ bkk32 := Nat.le_trans Z30 Gk32_1
    have y_bkk32 : h0.size ≤ bkk32 := Nat.le_trans Y33 Gk32_1
    have K34 : Keep h0 Tk32.heap [] := K16.trans Kk32q (allS (P := fun x => x ∈ ([] : List Addr) ∨ h0.size ≤ x) (Or.inr y_bo3) (allS (P := fun x => x ∈ ([] : List Addr) ∨ h0.size ≤ x) (Or.inr y_slk7) (allS (P := fun x => x ∈ ([] : List Addr) ∨ h0.size ≤ x) (Or.inr y_blk7) all0)))
    have Nk32 := Fr.app Nk7 Nk32q
    have r35 : ∀ t_, Sp p e below Tk32 (mkF m 43 #[.val (.int p1), .val (.int p2), .val (.int x), .val (.int y), .val (.int kk), .val (.int ln), .val (.ref bo3), .unset, .unset, .unset, .unset] [(.int (1 : Int32)), (.int kk)]) t_ → Sp p e below s₁ (entryFrame m #[(.int p1), (.int p2), (.int x), (.int y)] maxLocals) t_ := by
      intro t_ k_
      refine r10 _ ?_
      refine XS.ifNo Xk7.here hx rfl (hb hby at_29) rfl ((if0 _ _).trans (tlt c11).2.2.2) ?_
      refine XS.aload Xk7.here hx rfl (hb hby at_32) rfl rfl ?_
      refine stq15 _ ?_
      refine stk32.trans ?_
      refine XS.pop Xk32.here hx rfl (hb hby at_39) rfl rfl ?_
      refine XS.iload Xk32.here hx rfl (hb hby at_40) rfl ?_
      refine XS.iconst Xk32.here hx rfl (hb hby at_42) ?_
      show Sp p e below Tk32 (mkF m 43 #[.val (.int p1), .val (.int p2), .val (.int x), .val (.int y), .val (.int kk), .val (.int ln), .val (.ref bo3), .unset, .unset, .unset, .unset] [(.int (1 : Int32)), (.int kk)]) _
      exact k_
    by_cases c36 : (1 : Int32) < kk
    · have S37 : Safe Z own_el Tq15.vm hq15 bkk32 := Safe.new Gk32_1
      have A38 : ∀ x ∈ [bo3, slk7, blk7], Safe Z own_el Tq15.vm hq15 x := (allS (P := fun x => Safe Z own_el Tq15.vm hq15 x) (Safe.exa hZ.alike ((Ao3.keep Kk7q).ext Eq15) (by decide) (by decide)) (allS (P := fun x => Safe Z own_el Tq15.vm hq15 x) (Safe.exa hZ.alike (Qk7_6.ext Eq15) (by decide) (by decide)) (allS (P := fun x => Safe Z own_el Tq15.vm hq15 x) (Safe.exa hZ.alike (Qk7_10.ext Eq15) (by decide) (by decide)) all0)))
      have S39 : Safe Z own_el Tq15.vm Tk32.heap bkk32 := Safe.keep Kk32q A38 Cq15.1 S37
      have C40 : CHv Z own_el Tq15.vm Tk32.heap := CHv.keep Kk32q A38 Cq15.1
      obtain ⟨aq41, Tq41, hq41, kq41, bq41, cq41, Xq41, eq41, Eq41, hSq41, hkq41, hZ, hown, Eaq41, Fcq41, Fvq41, Vbq41, -, -, Cq41, Lq41, -, stq41⟩ := ldcCH Xk32 hx hZ hown (text := "b") (tw hw 130 rfl) wS rfl hSq15 (Nat.le_trans hkq15 Kk32q.1) (own_ew hw) (List.mem_of_getElem? (i := 1) rfl) C40 (vs := [(.int (98 : Int32))]) (z := (1 : Int32)) (by decide) (by decide) (by decide) (g := (mkF m 48 #[.val (.int p1), .val (.int p2), .val (.int x), .val (.int y), .val (.int kk), .val (.int ln), .val (.ref bo3), .unset, .unset, .unset, .unset] [(.ref bo3)])) rfl (hb hby at_48) (n := 4) (by decide) (by decide) (by decide) (by decide)
      have Ebq41 := own_bytes (vm := Tq41.vm) (text := "b") hZ hown (tw hw 130 rfl) (List.mem_of_getElem? (i := 1) rfl) Cq41.1 Lq41 Fvq41 Vbq41
      have S42 : Safe Z own_el Tq41.vm hq41 bkk32 := Cq41.safe Qk32_10.lt S39
      have K43 : Keep h0 hq41 [] := K34.ext Eq41
      have F44 := ((F17.keep Kk32q).ext Eq41)
      have F45 := (Qk32_0.ext Eq41)
      have F46 := (Qk32_1.ext Eq41)
      have F47 := (Qk32_2.ext Eq41)
      have F48 := (Qk32_3.ext Eq41)
      have F49 := (Qk32_4.ext Eq41)
      have F50 := (Qk32_5.ext Eq41)
      have F51 := ((F24.keep Kk32q).ext Eq41)
      have F52 := (Qk32_6.ext Eq41)
      have F53 := (Qk32_7.ext Eq41)
      have F54 := (Qk32_8.ext Eq41)
      have F55 := ((F28.keep Kk32q).ext Eq41)
      have F56 := (Qk32_9.ext Eq41)
      have F57 := (Qk32_10.ext Eq41)
      have Z58 : n0 ≤ hq41.size := (Nat.le_trans (Nat.le_trans Z30 Kk32q.1) Eq41.1)
      have O59 : Old Z n0 hq41 := ((O31.keep Kk32q (allS g_bo3 (allS g_slk7 (allS g_blk7 all0)))).ext Eq41)
      obtain ⟨cqk60, kqk60, qk60a, qk60b, qk60c⟩ := isOf hZ eq41 F44
      obtain ⟨_, _, ⟨Tk60, Lk60, kk60, nk60⟩, -, Xk60, ⟨Lck60, hQk60, lk60, yk60, zk60⟩, stk60⟩ := Xq41.virtualBack hx (y := Y15) (z := Y15) hown (mvT hZ (tw hw 45 rfl)) (mvT hZ (tw hw 46 rfl)) (notFace_of_selects (args := #[]) (mvT hZ (tw hw 48 rfl))) (mvT hZ (tw hw 48 rfl)) (mvT hZ (tw hw 47 rfl)) (by decide) (backOf (W := 0) (rm_add1 l Z a0 hw [] bo3 aq41 bq41 cq41 slk7 ksk7 en2k32 ken2k32 blk7 kblk7 bkk32 kbkk32 aU cs hq41 n0 Z58 O59 F44 F45 F46 F47 F48 F49 F50 F51 F52 F53 F54 F55 F56 F57 Eaq41 Fcq41 Fvq41 Vbq41 Ebq41 ⟨S_U8, S_IN, S_CS, H_CS⟩ g_bo3 g_slk7 g_bkk32) hZ (tw hw 49 rfl) (tw hw 3 rfl) (by decide) (by decide)) qk60a qk60c (g := (mkF m 50 #[.val (.int p1), .val (.int p2), .val (.int x), .val (.int y), .val (.int kk), .val (.int ln), .val (.ref bo3), .unset, .unset, .unset, .unset] [(.ref aq41), (.ref bo3)])) rfl (by rw [hml]; rfl) (Steps.refl _) (argsL := [(.ref aq41)]) (rest := []) (lenOf pd__Ljava_lang_String__Z rfl) rfl (by show 2 * 0 + _ ≤ _; exact Nat.le_of_eq rfl) (hb hby at_50) (fun _ _ => ⟨rfl, eq41, (by decide : 11 + 2 ≤ _), (by decide : 65587 + 13 ≤ _)⟩)
      dsimp only [Pt.U, Pt.locs, Pt.cells, Pt.slots] at Xk60 lk60 yk60 zk60 stk60 hQk60
      subst lk60 yk60 zk60
      obtain ⟨en2k60, ken2k60, rfl, Nk60q, Kk60q, Gk60_0, Qk60_0, Qk60_1, Qk60_2, Qk60_3, Qk60_4, Qk60_5, Qk60_6, Qk60_7, Qk60_8, Qk60_9⟩ := hQk60
      have Y61 : h0.size ≤ hq41.size := (Nat.le_trans (Nat.le_trans Y33 Kk32q.1) Eq41.1)
      have g_en2k60 : n0 ≤ en2k60 := Nat.le_trans Z58 Gk60_0
      have y_en2k60 : h0.size ≤ en2k60 := Nat.le_trans Y61 Gk60_0
      have K62 : Keep h0 Tk60.heap [] := K43.trans Kk60q (allS (P := fun x => x ∈ ([] : List Addr) ∨ h0.size ≤ x) (Or.inr y_bo3) (allS (P := fun x => x ∈ ([] : List Addr) ∨ h0.size ≤ x) (Or.inr y_slk7) (allS (P := fun x => x ∈ ([] : List Addr) ∨ h0.size ≤ x) (Or.inr y_bkk32) all0)))
      have Nk60 := Fr.app Nk32 Nk60q
      have r63 : ∀ t_, Sp p e below Tk60 (mkF m 57 #[.val (.int p1), .val (.int p2), .val (.int x), .val (.int y), .val (.int kk), .val (.int ln), .val (.ref bo3), .unset, .unset, .unset, .unset] [(.int (2 : Int32)), (.int kk)]) t_ → Sp p e below s₁ (entryFrame m #[(.int p1), (.int p2), (.int x), (.int y)] maxLocals) t_ := by
        intro t_ k_
        refine r35 _ ?_
        refine XS.icmpNo Xk32.here hx rfl (hb hby at_43) rfl (tlt c36).2.2.2 ?_
        refine XS.aload Xk32.here hx rfl (hb hby at_46) rfl rfl ?_
        refine stq41 _ ?_
        refine stk60.trans ?_
        refine XS.pop Xk60.here hx rfl (hb hby at_53) rfl rfl ?_
        refine XS.iload Xk60.here hx rfl (hb hby at_54) rfl ?_
        refine XS.iconst Xk60.here hx rfl (hb hby at_56) ?_
        show Sp p e below Tk60 (mkF m 57 #[.val (.int p1), .val (.int p2), .val (.int x), .val (.int y), .val (.int kk), .val (.int ln), .val (.ref bo3), .unset, .unset, .unset, .unset] [(.int (2 : Int32)), (.int kk)]) _
        exact k_
      by_cases c64 : (2 : Int32) < kk
      · have A65 : ∀ x ∈ [bo3, slk7, bkk32], Safe Z own_el Tq41.vm hq41 x := (allS (P := fun x => Safe Z own_el Tq41.vm hq41 x) (Safe.exa hZ.alike ((((Ao3.keep Kk7q).ext Eq15).keep Kk32q).ext Eq41) (by decide) (by decide)) (allS (P := fun x => Safe Z own_el Tq41.vm hq41 x) (Safe.exa hZ.alike (((Qk7_6.ext Eq15).keep Kk32q).ext Eq41) (by decide) (by decide)) (allS (P := fun x => Safe Z own_el Tq41.vm hq41 x) S42 all0)))
        have S66 : Safe Z own_el Tq41.vm Tk60.heap bkk32 := Safe.keep Kk60q A65 Cq41.1 S42
        have C67 : CHv Z own_el Tq41.vm Tk60.heap := CHv.keep Kk60q A65 Cq41.1
        have F68 := (F57.keep Kk60q)
        obtain ⟨aq69, Tq69, hq69, kq69, bq69, cq69, Xq69, eq69, Eq69, hSq69, hkq69, hZ, hown, Eaq69, Fcq69, Fvq69, Vbq69, -, -, Cq69, Lq69, -, stq69⟩ := ldcCH Xk60 hx hZ hown (text := "c") (tw hw 131 rfl) wS rfl hSq41 (Nat.le_trans hkq41 Kk60q.1) (own_ew hw) (List.mem_of_getElem? (i := 2) rfl) C67 (vs := [(.int (99 : Int32))]) (z := (1 : Int32)) (by decide) (by decide) (by decide) (g := (mkF m 62 #[.val (.int p1), .val (.int p2), .val (.int x), .val (.int y), .val (.int kk), .val (.int ln), .val (.ref bo3), .unset, .unset, .unset, .unset] [(.ref bo3)])) rfl (hb hby at_62) (n := 4) (by decide) (by decide) (by decide) (by decide)
        have Ebq69 := own_bytes (vm := Tq69.vm) (text := "c") hZ hown (tw hw 131 rfl) (List.mem_of_getElem? (i := 2) rfl) Cq69.1 Lq69 Fvq69 Vbq69
        have S70 : Safe Z own_el Tq69.vm hq69 bkk32 := Cq69.safe F68.lt S66
        have K71 : Keep h0 hq69 [] := K62.ext Eq69
        have F72 := ((F44.keep Kk60q).ext Eq69)
        have F73 := (Qk60_0.ext Eq69)
        have F74 := (Qk60_1.ext Eq69)
        have F75 := (Qk60_2.ext Eq69)
        have F76 := (Qk60_3.ext Eq69)
        have F77 := (Qk60_4.ext Eq69)
        have F78 := (Qk60_5.ext Eq69)
        have F79 := ((F51.keep Kk60q).ext Eq69)
        have F80 := (Qk60_6.ext Eq69)
        have F81 := (Qk60_7.ext Eq69)
        have F82 := (Qk60_8.ext Eq69)
        have F83 := ((F55.keep Kk60q).ext Eq69)
        have F84 := (Qk60_9.ext Eq69)
        have F85 := (F68.ext Eq69)
        have Z86 : n0 ≤ hq69.size := (Nat.le_trans (Nat.le_trans Z58 Kk60q.1) Eq69.1)
        have O87 : Old Z n0 hq69 := ((O59.keep Kk60q (allS g_bo3 (allS g_slk7 (allS g_bkk32 all0)))).ext Eq69)
        obtain ⟨cqk88, kqk88, qk88a, qk88b, qk88c⟩ := isOf hZ eq69 F72
        obtain ⟨_, _, ⟨Tk88, Lk88, kk88, nk88⟩, -, Xk88, ⟨Lck88, hQk88, lk88, yk88, zk88⟩, stk88⟩ := Xq69.virtualBack hx (y := Y15) (z := Y15) hown (mvT hZ (tw hw 45 rfl)) (mvT hZ (tw hw 46 rfl)) (notFace_of_selects (args := #[]) (mvT hZ (tw hw 48 rfl))) (mvT hZ (tw hw 48 rfl)) (mvT hZ (tw hw 47 rfl)) (by decide) (backOf (W := 0) (rm_add2 l Z a0 hw [] bo3 aq69 bq69 cq69 slk7 ksk7 en2k60 ken2k60 blk7 kblk7 bkk32 kbkk32 aU cs hq69 n0 Z86 O87 F72 F73 F74 F75 F76 F77 F78 F79 F80 F81 F82 F83 F84 F85 Eaq69 Fcq69 Fvq69 Vbq69 Ebq69 ⟨S_U8, S_IN, S_CS, H_CS⟩ g_bo3 g_slk7 g_bkk32) hZ (tw hw 49 rfl) (tw hw 3 rfl) (by decide) (by decide)) qk88a qk88c (g := (mkF m 64 #[.val (.int p1), .val (.int p2), .val (.int x), .val (.int y), .val (.int kk), .val (.int ln), .val (.ref bo3), .unset, .unset, .unset, .unset] [(.ref aq69), (.ref bo3)])) rfl (by rw [hml]; rfl) (Steps.refl _) (argsL := [(.ref aq69)]) (rest := []) (lenOf pd__Ljava_lang_String__Z rfl) rfl (by show 2 * 0 + _ ≤ _; exact Nat.le_of_eq rfl) (hb hby at_64) (fun _ _ => ⟨rfl, eq69, (by decide : 15 + 2 ≤ _), (by decide : 65608 + 13 ≤ _)⟩)
        dsimp only [Pt.U, Pt.locs, Pt.cells, Pt.slots] at Xk88 lk88 yk88 zk88 stk88 hQk88
        subst lk88 yk88 zk88
        obtain ⟨en2k88, ken2k88, rfl, Nk88q, Kk88q, Gk88_0, Qk88_0, Qk88_1, Qk88_2, Qk88_3, Qk88_4, Qk88_5, Qk88_6, Qk88_7, Qk88_8, Qk88_9⟩ := hQk88
        have Y89 : h0.size ≤ hq69.size := (Nat.le_trans (Nat.le_trans Y61 Kk60q.1) Eq69.1)
        have g_en2k88 : n0 ≤ en2k88 := Nat.le_trans Z86 Gk88_0
        have y_en2k88 : h0.size ≤ en2k88 := Nat.le_trans Y89 Gk88_0
        have K90 : Keep h0 Tk88.heap [] := K71.trans Kk88q (allS (P := fun x => x ∈ ([] : List Addr) ∨ h0.size ≤ x) (Or.inr y_bo3) (allS (P := fun x => x ∈ ([] : List Addr) ∨ h0.size ≤ x) (Or.inr y_slk7) (allS (P := fun x => x ∈ ([] : List Addr) ∨ h0.size ≤ x) (Or.inr y_bkk32) all0)))
        have Nk88 := Fr.app Nk60 Nk88q
        have r91 : ∀ t_, Sp p e below Tk88 (mkF m 71 #[.val (.int p1), .val (.int p2), .val (.int x), .val (.int y), .val (.int kk), .val (.int ln), .val (.ref bo3), .unset, .unset, .unset, .unset] [(.int (3 : Int32)), (.int kk)]) t_ → Sp p e below s₁ (entryFrame m #[(.int p1), (.int p2), (.int x), (.int y)] maxLocals) t_ := by
          intro t_ k_
          refine r63 _ ?_
          refine XS.icmpNo Xk60.here hx rfl (hb hby at_57) rfl (tlt c64).2.2.2 ?_
          refine XS.aload Xk60.here hx rfl (hb hby at_60) rfl rfl ?_
          refine stq69 _ ?_
          refine stk88.trans ?_
          refine XS.pop Xk88.here hx rfl (hb hby at_67) rfl rfl ?_
          refine XS.iload Xk88.here hx rfl (hb hby at_68) rfl ?_
          refine XS.iconst Xk88.here hx rfl (hb hby at_70) ?_
          show Sp p e below Tk88 (mkF m 71 #[.val (.int p1), .val (.int p2), .val (.int x), .val (.int y), .val (.int kk), .val (.int ln), .val (.ref bo3), .unset, .unset, .unset, .unset] [(.int (3 : Int32)), (.int kk)]) _
          exact k_
        by_cases c92 : (3 : Int32) < kk
        · have A93 : ∀ x ∈ [bo3, slk7, bkk32], Safe Z own_el Tq69.vm hq69 x := (allS (P := fun x => Safe Z own_el Tq69.vm hq69 x) (Safe.exa hZ.alike ((((((Ao3.keep Kk7q).ext Eq15).keep Kk32q).ext Eq41).keep Kk60q).ext Eq69) (by decide) (by decide)) (allS (P := fun x => Safe Z own_el Tq69.vm hq69 x) (Safe.exa hZ.alike (((((Qk7_6.ext Eq15).keep Kk32q).ext Eq41).keep Kk60q).ext Eq69) (by decide) (by decide)) (allS (P := fun x => Safe Z own_el Tq69.vm hq69 x) S70 all0)))
          have S94 : Safe Z own_el Tq69.vm Tk88.heap bkk32 := Safe.keep Kk88q A93 Cq69.1 S70
          have C95 : CHv Z own_el Tq69.vm Tk88.heap := CHv.keep Kk88q A93 Cq69.1
          have F96 := (F85.keep Kk88q)
          obtain ⟨aq97, Tq97, hq97, kq97, bq97, cq97, Xq97, eq97, Eq97, hSq97, hkq97, hZ, hown, Eaq97, Fcq97, Fvq97, Vbq97, -, -, Cq97, Lq97, -, stq97⟩ := ldcCH Xk88 hx hZ hown (text := "d") (tw hw 132 rfl) wS rfl hSq69 (Nat.le_trans hkq69 Kk88q.1) (own_ew hw) (List.mem_of_getElem? (i := 3) rfl) C95 (vs := [(.int (100 : Int32))]) (z := (1 : Int32)) (by decide) (by decide) (by decide) (g := (mkF m 76 #[.val (.int p1), .val (.int p2), .val (.int x), .val (.int y), .val (.int kk), .val (.int ln), .val (.ref bo3), .unset, .unset, .unset, .unset] [(.ref bo3)])) rfl (hb hby at_76) (n := 4) (by decide) (by decide) (by decide) (by decide)
          have Ebq97 := own_bytes (vm := Tq97.vm) (text := "d") hZ hown (tw hw 132 rfl) (List.mem_of_getElem? (i := 3) rfl) Cq97.1 Lq97 Fvq97 Vbq97
          have S98 : Safe Z own_el Tq97.vm hq97 bkk32 := Cq97.safe F96.lt S94
          have K99 : Keep h0 hq97 [] := K90.ext Eq97
          have F100 := ((F72.keep Kk88q).ext Eq97)
          have F101 := (Qk88_0.ext Eq97)
          have F102 := (Qk88_1.ext Eq97)
          have F103 := (Qk88_2.ext Eq97)
          have F104 := (Qk88_3.ext Eq97)
          have F105 := (Qk88_4.ext Eq97)
          have F106 := (Qk88_5.ext Eq97)
          have F107 := ((F79.keep Kk88q).ext Eq97)
          have F108 := (Qk88_6.ext Eq97)
          have F109 := (Qk88_7.ext Eq97)
          have F110 := (Qk88_8.ext Eq97)
          have F111 := ((F83.keep Kk88q).ext Eq97)
          have F112 := (Qk88_9.ext Eq97)
          have F113 := (F96.ext Eq97)
          have Z114 : n0 ≤ hq97.size := (Nat.le_trans (Nat.le_trans Z86 Kk88q.1) Eq97.1)
          have O115 : Old Z n0 hq97 := ((O87.keep Kk88q (allS g_bo3 (allS g_slk7 (allS g_bkk32 all0)))).ext Eq97)
          obtain ⟨cqk116, kqk116, qk116a, qk116b, qk116c⟩ := isOf hZ eq97 F100
          obtain ⟨_, _, ⟨Tk116, Lk116, kk116, nk116⟩, -, Xk116, ⟨Lck116, hQk116, lk116, yk116, zk116⟩, stk116⟩ := Xq97.virtualBack hx (y := Y15) (z := Y15) hown (mvT hZ (tw hw 45 rfl)) (mvT hZ (tw hw 46 rfl)) (notFace_of_selects (args := #[]) (mvT hZ (tw hw 48 rfl))) (mvT hZ (tw hw 48 rfl)) (mvT hZ (tw hw 47 rfl)) (by decide) (backOf (W := 0) (rm_add3 l Z a0 hw [] bo3 aq97 bq97 cq97 slk7 ksk7 en2k88 ken2k88 blk7 kblk7 bkk32 kbkk32 aU cs hq97 n0 Z114 O115 F100 F101 F102 F103 F104 F105 F106 F107 F108 F109 F110 F111 F112 F113 Eaq97 Fcq97 Fvq97 Vbq97 Ebq97 ⟨S_U8, S_IN, S_CS, H_CS⟩ g_bo3 g_slk7 g_bkk32) hZ (tw hw 49 rfl) (tw hw 3 rfl) (by decide) (by decide)) qk116a qk116c (g := (mkF m 78 #[.val (.int p1), .val (.int p2), .val (.int x), .val (.int y), .val (.int kk), .val (.int ln), .val (.ref bo3), .unset, .unset, .unset, .unset] [(.ref aq97), (.ref bo3)])) rfl (by rw [hml]; rfl) (Steps.refl _) (argsL := [(.ref aq97)]) (rest := []) (lenOf pd__Ljava_lang_String__Z rfl) rfl (by show 2 * 0 + _ ≤ _; exact Nat.le_of_eq rfl) (hb hby at_78) (fun _ _ => ⟨rfl, eq97, (by decide : 19 + 2 ≤ _), (by decide : 65629 + 13 ≤ _)⟩)
          dsimp only [Pt.U, Pt.locs, Pt.cells, Pt.slots] at Xk116 lk116 yk116 zk116 stk116 hQk116
          subst lk116 yk116 zk116
          obtain ⟨en2k116, ken2k116, rfl, Nk116q, Kk116q, Gk116_0, Qk116_0, Qk116_1, Qk116_2, Qk116_3, Qk116_4, Qk116_5, Qk116_6, Qk116_7, Qk116_8, Qk116_9⟩ := hQk116
          have Y117 : h0.size ≤ hq97.size := (Nat.le_trans (Nat.le_trans Y89 Kk88q.1) Eq97.1)
          have g_en2k116 : n0 ≤ en2k116 := Nat.le_trans Z114 Gk116_0
          have y_en2k116 : h0.size ≤ en2k116 := Nat.le_trans Y117 Gk116_0
          have K118 : Keep h0 Tk116.heap [] := K99.trans Kk116q (allS (P := fun x => x ∈ ([] : List Addr) ∨ h0.size ≤ x) (Or.inr y_bo3) (allS (P := fun x => x ∈ ([] : List Addr) ∨ h0.size ≤ x) (Or.inr y_slk7) (allS (P := fun x => x ∈ ([] : List Addr) ∨ h0.size ≤ x) (Or.inr y_bkk32) all0)))
          have Nk116 := Fr.app Nk88 Nk116q
          have r119 : ∀ t_, Sp p e below Tk116 (mkF m 85 #[.val (.int p1), .val (.int p2), .val (.int x), .val (.int y), .val (.int kk), .val (.int ln), .val (.ref bo3), .unset, .unset, .unset, .unset] [(.int (4 : Int32)), (.int kk)]) t_ → Sp p e below s₁ (entryFrame m #[(.int p1), (.int p2), (.int x), (.int y)] maxLocals) t_ := by
            intro t_ k_
            refine r91 _ ?_
            refine XS.icmpNo Xk88.here hx rfl (hb hby at_71) rfl (tlt c92).2.2.2 ?_
            refine XS.aload Xk88.here hx rfl (hb hby at_74) rfl rfl ?_
            refine stq97 _ ?_
            refine stk116.trans ?_
            refine XS.pop Xk116.here hx rfl (hb hby at_81) rfl rfl ?_
            refine XS.iload Xk116.here hx rfl (hb hby at_82) rfl ?_
            refine XS.iconst Xk116.here hx rfl (hb hby at_84) ?_
            show Sp p e below Tk116 (mkF m 85 #[.val (.int p1), .val (.int p2), .val (.int x), .val (.int y), .val (.int kk), .val (.int ln), .val (.ref bo3), .unset, .unset, .unset, .unset] [(.int (4 : Int32)), (.int kk)]) _
            exact k_
          by_cases c120 : (4 : Int32) < kk
          · have A121 : ∀ x ∈ [bo3, slk7, bkk32], Safe Z own_el Tq97.vm hq97 x := (allS (P := fun x => Safe Z own_el Tq97.vm hq97 x) (Safe.exa hZ.alike ((((((((Ao3.keep Kk7q).ext Eq15).keep Kk32q).ext Eq41).keep Kk60q).ext Eq69).keep Kk88q).ext Eq97) (by decide) (by decide)) (allS (P := fun x => Safe Z own_el Tq97.vm hq97 x) (Safe.exa hZ.alike (((((((Qk7_6.ext Eq15).keep Kk32q).ext Eq41).keep Kk60q).ext Eq69).keep Kk88q).ext Eq97) (by decide) (by decide)) (allS (P := fun x => Safe Z own_el Tq97.vm hq97 x) S98 all0)))
            have S122 : Safe Z own_el Tq97.vm Tk116.heap bkk32 := Safe.keep Kk116q A121 Cq97.1 S98
            have C123 : CHv Z own_el Tq97.vm Tk116.heap := CHv.keep Kk116q A121 Cq97.1
            have F124 := (F113.keep Kk116q)
            obtain ⟨aq125, Tq125, hq125, kq125, bq125, cq125, Xq125, eq125, Eq125, hSq125, hkq125, hZ, hown, Eaq125, Fcq125, Fvq125, Vbq125, -, -, Cq125, Lq125, -, stq125⟩ := ldcCH Xk116 hx hZ hown (text := "e") (tw hw 133 rfl) wS rfl hSq97 (Nat.le_trans hkq97 Kk116q.1) (own_ew hw) (List.mem_of_getElem? (i := 4) rfl) C123 (vs := [(.int (101 : Int32))]) (z := (1 : Int32)) (by decide) (by decide) (by decide) (g := (mkF m 90 #[.val (.int p1), .val (.int p2), .val (.int x), .val (.int y), .val (.int kk), .val (.int ln), .val (.ref bo3), .unset, .unset, .unset, .unset] [(.ref bo3)])) rfl (hb hby at_90) (n := 4) (by decide) (by decide) (by decide) (by decide)
            have Ebq125 := own_bytes (vm := Tq125.vm) (text := "e") hZ hown (tw hw 133 rfl) (List.mem_of_getElem? (i := 4) rfl) Cq125.1 Lq125 Fvq125 Vbq125
            have S126 : Safe Z own_el Tq125.vm hq125 bkk32 := Cq125.safe F124.lt S122
            have K127 : Keep h0 hq125 [] := K118.ext Eq125
            have F128 := ((F100.keep Kk116q).ext Eq125)
            have F129 := (Qk116_0.ext Eq125)
            have F130 := (Qk116_1.ext Eq125)
            have F131 := (Qk116_2.ext Eq125)
            have F132 := (Qk116_3.ext Eq125)
            have F133 := (Qk116_4.ext Eq125)
            have F134 := (Qk116_5.ext Eq125)
            have F135 := ((F107.keep Kk116q).ext Eq125)
            have F136 := (Qk116_6.ext Eq125)
            have F137 := (Qk116_7.ext Eq125)
            have F138 := (Qk116_8.ext Eq125)
            have F139 := ((F111.keep Kk116q).ext Eq125)
            have F140 := (Qk116_9.ext Eq125)
            have F141 := (F124.ext Eq125)
            have Z142 : n0 ≤ hq125.size := (Nat.le_trans (Nat.le_trans Z114 Kk116q.1) Eq125.1)
            have O143 : Old Z n0 hq125 := ((O115.keep Kk116q (allS g_bo3 (allS g_slk7 (allS g_bkk32 all0)))).ext Eq125)
            obtain ⟨cqk144, kqk144, qk144a, qk144b, qk144c⟩ := isOf hZ eq125 F128
            obtain ⟨_, _, ⟨Tk144, Lk144, kk144, nk144⟩, -, Xk144, ⟨Lck144, hQk144, lk144, yk144, zk144⟩, stk144⟩ := Xq125.virtualBack hx (y := Y15) (z := Y15) hown (mvT hZ (tw hw 45 rfl)) (mvT hZ (tw hw 46 rfl)) (notFace_of_selects (args := #[]) (mvT hZ (tw hw 48 rfl))) (mvT hZ (tw hw 48 rfl)) (mvT hZ (tw hw 47 rfl)) (by decide) (backOf (W := 0) (rm_add4 l Z a0 hw [] bo3 aq125 bq125 cq125 slk7 ksk7 en2k116 ken2k116 blk7 kblk7 bkk32 kbkk32 aU cs hq125 n0 Z142 O143 F128 F129 F130 F131 F132 F133 F134 F135 F136 F137 F138 F139 F140 F141 Eaq125 Fcq125 Fvq125 Vbq125 Ebq125 ⟨S_U8, S_IN, S_CS, H_CS⟩ g_bo3 g_slk7 g_bkk32) hZ (tw hw 49 rfl) (tw hw 3 rfl) (by decide) (by decide)) qk144a qk144c (g := (mkF m 92 #[.val (.int p1), .val (.int p2), .val (.int x), .val (.int y), .val (.int kk), .val (.int ln), .val (.ref bo3), .unset, .unset, .unset, .unset] [(.ref aq125), (.ref bo3)])) rfl (by rw [hml]; rfl) (Steps.refl _) (argsL := [(.ref aq125)]) (rest := []) (lenOf pd__Ljava_lang_String__Z rfl) rfl (by show 2 * 0 + _ ≤ _; exact Nat.le_of_eq rfl) (hb hby at_92) (fun _ _ => ⟨rfl, eq125, (by decide : 23 + 2 ≤ _), (by decide : 65650 + 13 ≤ _)⟩)
            dsimp only [Pt.U, Pt.locs, Pt.cells, Pt.slots] at Xk144 lk144 yk144 zk144 stk144 hQk144
            subst lk144 yk144 zk144
            obtain ⟨en2k144, ken2k144, rfl, Nk144q, Kk144q, Gk144_0, Qk144_0, Qk144_1, Qk144_2, Qk144_3, Qk144_4, Qk144_5, Qk144_6, Qk144_7, Qk144_8, Qk144_9⟩ := hQk144
            have Y145 : h0.size ≤ hq125.size := (Nat.le_trans (Nat.le_trans Y117 Kk116q.1) Eq125.1)
            have g_en2k144 : n0 ≤ en2k144 := Nat.le_trans Z142 Gk144_0
            have y_en2k144 : h0.size ≤ en2k144 := Nat.le_trans Y145 Gk144_0
            have K146 : Keep h0 Tk144.heap [] := K127.trans Kk144q (allS (P := fun x => x ∈ ([] : List Addr) ∨ h0.size ≤ x) (Or.inr y_bo3) (allS (P := fun x => x ∈ ([] : List Addr) ∨ h0.size ≤ x) (Or.inr y_slk7) (allS (P := fun x => x ∈ ([] : List Addr) ∨ h0.size ≤ x) (Or.inr y_bkk32) all0)))
            have Nk144 := Fr.app Nk116 Nk144q
            have r147 : ∀ t_, Sp p e below Tk144 (mkF m 99 #[.val (.int p1), .val (.int p2), .val (.int x), .val (.int y), .val (.int kk), .val (.int ln), .val (.ref bo3), .unset, .unset, .unset, .unset] [(.int (5 : Int32)), (.int kk)]) t_ → Sp p e below s₁ (entryFrame m #[(.int p1), (.int p2), (.int x), (.int y)] maxLocals) t_ := by
              intro t_ k_
              refine r119 _ ?_
              refine XS.icmpNo Xk116.here hx rfl (hb hby at_85) rfl (tlt c120).2.2.2 ?_
              refine XS.aload Xk116.here hx rfl (hb hby at_88) rfl rfl ?_
              refine stq125 _ ?_
              refine stk144.trans ?_
              refine XS.pop Xk144.here hx rfl (hb hby at_95) rfl rfl ?_
              refine XS.iload Xk144.here hx rfl (hb hby at_96) rfl ?_
              refine XS.iconst Xk144.here hx rfl (hb hby at_98) ?_
              show Sp p e below Tk144 (mkF m 99 #[.val (.int p1), .val (.int p2), .val (.int x), .val (.int y), .val (.int kk), .val (.int ln), .val (.ref bo3), .unset, .unset, .unset, .unset] [(.int (5 : Int32)), (.int kk)]) _
              exact k_
            by_cases c148 : (5 : Int32) < kk
            · have A149 : ∀ x ∈ [bo3, slk7, bkk32], Safe Z own_el Tq125.vm hq125 x := (allS (P := fun x => Safe Z own_el Tq125.vm hq125 x) (Safe.exa hZ.alike ((((((((((Ao3.keep Kk7q).ext Eq15).keep Kk32q).ext Eq41).keep Kk60q).ext Eq69).keep Kk88q).ext Eq97).keep Kk116q).ext Eq125) (by decide) (by decide)) (allS (P := fun x => Safe Z own_el Tq125.vm hq125 x) (Safe.exa hZ.alike (((((((((Qk7_6.ext Eq15).keep Kk32q).ext Eq41).keep Kk60q).ext Eq69).keep Kk88q).ext Eq97).keep Kk116q).ext Eq125) (by decide) (by decide)) (allS (P := fun x => Safe Z own_el Tq125.vm hq125 x) S126 all0)))
              have S150 : Safe Z own_el Tq125.vm Tk144.heap bkk32 := Safe.keep Kk144q A149 Cq125.1 S126
              have C151 : CHv Z own_el Tq125.vm Tk144.heap := CHv.keep Kk144q A149 Cq125.1
              have F152 := (F141.keep Kk144q)
              obtain ⟨aq153, Tq153, hq153, kq153, bq153, cq153, Xq153, eq153, Eq153, hSq153, hkq153, hZ, hown, Eaq153, Fcq153, Fvq153, Vbq153, -, -, Cq153, Lq153, -, stq153⟩ := ldcCH Xk144 hx hZ hown (text := "f") (tw hw 134 rfl) wS rfl hSq125 (Nat.le_trans hkq125 Kk144q.1) (own_ew hw) (List.mem_of_getElem? (i := 5) rfl) C151 (vs := [(.int (102 : Int32))]) (z := (1 : Int32)) (by decide) (by decide) (by decide) (g := (mkF m 104 #[.val (.int p1), .val (.int p2), .val (.int x), .val (.int y), .val (.int kk), .val (.int ln), .val (.ref bo3), .unset, .unset, .unset, .unset] [(.ref bo3)])) rfl (hb hby at_104) (n := 4) (by decide) (by decide) (by decide) (by decide)
              have Ebq153 := own_bytes (vm := Tq153.vm) (text := "f") hZ hown (tw hw 134 rfl) (List.mem_of_getElem? (i := 5) rfl) Cq153.1 Lq153 Fvq153 Vbq153
              have S154 : Safe Z own_el Tq153.vm hq153 bkk32 := Cq153.safe F152.lt S150
              have K155 : Keep h0 hq153 [] := K146.ext Eq153
              have F156 := ((F128.keep Kk144q).ext Eq153)
              have F157 := (Qk144_0.ext Eq153)
              have F158 := (Qk144_1.ext Eq153)
              have F159 := (Qk144_2.ext Eq153)
              have F160 := (Qk144_3.ext Eq153)
              have F161 := (Qk144_4.ext Eq153)
              have F162 := (Qk144_5.ext Eq153)
              have F163 := ((F135.keep Kk144q).ext Eq153)
              have F164 := (Qk144_6.ext Eq153)
              have F165 := (Qk144_7.ext Eq153)
              have F166 := (Qk144_8.ext Eq153)
              have F167 := ((F139.keep Kk144q).ext Eq153)
              have F168 := (Qk144_9.ext Eq153)
              have F169 := (F152.ext Eq153)
              have Z170 : n0 ≤ hq153.size := (Nat.le_trans (Nat.le_trans Z142 Kk144q.1) Eq153.1)
              have O171 : Old Z n0 hq153 := ((O143.keep Kk144q (allS g_bo3 (allS g_slk7 (allS g_bkk32 all0)))).ext Eq153)
              obtain ⟨cqk172, kqk172, qk172a, qk172b, qk172c⟩ := isOf hZ eq153 F156
              obtain ⟨_, _, ⟨Tk172, Lk172, kk172, nk172⟩, -, Xk172, ⟨Lck172, hQk172, lk172, yk172, zk172⟩, stk172⟩ := Xq153.virtualBack hx (y := Y15) (z := Y15) hown (mvT hZ (tw hw 45 rfl)) (mvT hZ (tw hw 46 rfl)) (notFace_of_selects (args := #[]) (mvT hZ (tw hw 48 rfl))) (mvT hZ (tw hw 48 rfl)) (mvT hZ (tw hw 47 rfl)) (by decide) (backOf (W := 0) (rm_add5 l Z a0 hw [] bo3 aq153 bq153 cq153 slk7 ksk7 en2k144 ken2k144 blk7 kblk7 bkk32 kbkk32 aU cs hq153 n0 Z170 O171 F156 F157 F158 F159 F160 F161 F162 F163 F164 F165 F166 F167 F168 F169 Eaq153 Fcq153 Fvq153 Vbq153 Ebq153 ⟨S_U8, S_IN, S_CS, H_CS⟩ g_bo3 g_slk7 g_en2k144 g_bkk32) hZ (tw hw 49 rfl) (tw hw 3 rfl) (by decide) (by decide)) qk172a qk172c (g := (mkF m 106 #[.val (.int p1), .val (.int p2), .val (.int x), .val (.int y), .val (.int kk), .val (.int ln), .val (.ref bo3), .unset, .unset, .unset, .unset] [(.ref aq153), (.ref bo3)])) rfl (by rw [hml]; rfl) (Steps.refl _) (argsL := [(.ref aq153)]) (rest := []) (lenOf pd__Ljava_lang_String__Z rfl) rfl (by show 2 * 0 + _ ≤ _; exact Nat.le_of_eq rfl) (hb hby at_106) (fun _ _ => ⟨rfl, eq153, (by decide : 27 + 1 ≤ _), (by decide : 65671 + 1 ≤ _)⟩)
              dsimp only [Pt.U, Pt.locs, Pt.cells, Pt.slots] at Xk172 lk172 yk172 zk172 stk172 hQk172
              subst lk172 yk172 zk172
              obtain ⟨rfl, Nk172q, Kk172q, Qk172_0, Qk172_1, Qk172_2, Qk172_3, Qk172_4, Qk172_5, Qk172_6, Qk172_7, Qk172_8⟩ := hQk172
              have K173 : Keep h0 Tk172.heap [] := K155.trans Kk172q (allS (P := fun x => x ∈ ([] : List Addr) ∨ h0.size ≤ x) (Or.inr y_bo3) (allS (P := fun x => x ∈ ([] : List Addr) ∨ h0.size ≤ x) (Or.inr y_slk7) (allS (P := fun x => x ∈ ([] : List Addr) ∨ h0.size ≤ x) (Or.inr y_en2k144) (allS (P := fun x => x ∈ ([] : List Addr) ∨ h0.size ≤ x) (Or.inr y_bkk32) all0))))
              have Nk172 := Fr.app Nk144 Nk172q
              have r174 : ∀ t_, Sp p e below Tk172 (mkF m 114 #[.val (.int p1), .val (.int p2), .val (.int x), .val (.int y), .val (.int kk), .val (.int ln), .val (.ref bo3), .unset, .unset, .unset, .unset] [(.int (6 : Int32)), (.int kk)]) t_ → Sp p e below s₁ (entryFrame m #[(.int p1), (.int p2), (.int x), (.int y)] maxLocals) t_ := by
                intro t_ k_
                refine r147 _ ?_
                refine XS.icmpNo Xk144.here hx rfl (hb hby at_99) rfl (tlt c148).2.2.2 ?_
                refine XS.aload Xk144.here hx rfl (hb hby at_102) rfl rfl ?_
                refine stq153 _ ?_
                refine stk172.trans ?_
                refine XS.pop Xk172.here hx rfl (hb hby at_109) rfl rfl ?_
                refine XS.iload Xk172.here hx rfl (hb hby at_110) rfl ?_
                refine XS.bipush Xk172.here hx rfl (hb hby at_112) ?_
                show Sp p e below Tk172 (mkF m 114 #[.val (.int p1), .val (.int p2), .val (.int x), .val (.int y), .val (.int kk), .val (.int ln), .val (.ref bo3), .unset, .unset, .unset, .unset] [(.int (6 : Int32)), (.int kk)]) _
                exact k_
              by_cases c175 : (6 : Int32) < kk
              · have A176 : ∀ x ∈ [bo3, slk7, en2k144, bkk32], Safe Z own_el Tq153.vm hq153 x := (allS (P := fun x => Safe Z own_el Tq153.vm hq153 x) (Safe.exa hZ.alike ((((((((((((Ao3.keep Kk7q).ext Eq15).keep Kk32q).ext Eq41).keep Kk60q).ext Eq69).keep Kk88q).ext Eq97).keep Kk116q).ext Eq125).keep Kk144q).ext Eq153) (by decide) (by decide)) (allS (P := fun x => Safe Z own_el Tq153.vm hq153 x) (Safe.exa hZ.alike (((((((((((Qk7_6.ext Eq15).keep Kk32q).ext Eq41).keep Kk60q).ext Eq69).keep Kk88q).ext Eq97).keep Kk116q).ext Eq125).keep Kk144q).ext Eq153) (by decide) (by decide)) (allS (P := fun x => Safe Z own_el Tq153.vm hq153 x) (Safe.exa hZ.alike (Qk144_7.ext Eq153) (by decide) (by decide)) (allS (P := fun x => Safe Z own_el Tq153.vm hq153 x) S154 all0))))
                have S177 : Safe Z own_el Tq153.vm Tk172.heap bkk32 := Safe.keep Kk172q A176 Cq153.1 S154
                have C178 : CHv Z own_el Tq153.vm Tk172.heap := CHv.keep Kk172q A176 Cq153.1
                have F179 := (F169.keep Kk172q)
                obtain ⟨aq180, Tq180, hq180, kq180, bq180, cq180, Xq180, eq180, Eq180, hSq180, hkq180, hZ, hown, Eaq180, Fcq180, Fvq180, Vbq180, -, -, Cq180, Lq180, -, stq180⟩ := ldcCH Xk172 hx hZ hown (text := "g") (tw hw 135 rfl) wS rfl hSq153 (Nat.le_trans hkq153 Kk172q.1) (own_ew hw) (List.mem_of_getElem? (i := 6) rfl) C178 (vs := [(.int (103 : Int32))]) (z := (1 : Int32)) (by decide) (by decide) (by decide) (g := (mkF m 119 #[.val (.int p1), .val (.int p2), .val (.int x), .val (.int y), .val (.int kk), .val (.int ln), .val (.ref bo3), .unset, .unset, .unset, .unset] [(.ref bo3)])) rfl (hb hby at_119) (n := 4) (by decide) (by decide) (by decide) (by decide)
                have Ebq180 := own_bytes (vm := Tq180.vm) (text := "g") hZ hown (tw hw 135 rfl) (List.mem_of_getElem? (i := 6) rfl) Cq180.1 Lq180 Fvq180 Vbq180
                have S181 : Safe Z own_el Tq180.vm hq180 bkk32 := Cq180.safe F179.lt S177
                have K182 : Keep h0 hq180 [] := K173.ext Eq180
                have F183 := ((F156.keep Kk172q).ext Eq180)
                have F184 := (Qk172_0.ext Eq180)
                have F185 := (Qk172_1.ext Eq180)
                have F186 := (Qk172_2.ext Eq180)
                have F187 := (Qk172_3.ext Eq180)
                have F188 := (Qk172_4.ext Eq180)
                have F189 := (Qk172_5.ext Eq180)
                have F190 := ((F163.keep Kk172q).ext Eq180)
                have F191 := (Qk172_6.ext Eq180)
                have F192 := ((F165.keep Kk172q).ext Eq180)
                have F193 := (Qk172_7.ext Eq180)
                have F194 := ((F167.keep Kk172q).ext Eq180)
                have F195 := (Qk172_8.ext Eq180)
                have F196 := (F179.ext Eq180)
                have Z197 : n0 ≤ hq180.size := (Nat.le_trans (Nat.le_trans Z170 Kk172q.1) Eq180.1)
                have O198 : Old Z n0 hq180 := ((O171.keep Kk172q (allS g_bo3 (allS g_slk7 (allS g_en2k144 (allS g_bkk32 all0))))).ext Eq180)
                obtain ⟨cqk199, kqk199, qk199a, qk199b, qk199c⟩ := isOf hZ eq180 F183
                obtain ⟨_, _, ⟨Tk199, Lk199, kk199, nk199⟩, -, Xk199, ⟨Lck199, hQk199, lk199, yk199, zk199⟩, stk199⟩ := Xq180.virtualBack hx (y := Y15) (z := Y15) hown (mvT hZ (tw hw 45 rfl)) (mvT hZ (tw hw 46 rfl)) (notFace_of_selects (args := #[]) (mvT hZ (tw hw 48 rfl))) (mvT hZ (tw hw 48 rfl)) (mvT hZ (tw hw 47 rfl)) (by decide) (backOf (W := 0) (rm_add6 l Z a0 hw [] bo3 aq180 bq180 cq180 slk7 ksk7 en2k144 ken2k144 blk7 kblk7 bkk32 kbkk32 aU cs hq180 n0 Z197 O198 F183 F184 F185 F186 F187 F188 F189 F190 F191 F192 F193 F194 F195 F196 Eaq180 Fcq180 Fvq180 Vbq180 Ebq180 ⟨S_U8, S_IN, S_CS, H_CS⟩ g_bo3 g_slk7 g_bkk32) hZ (tw hw 49 rfl) (tw hw 3 rfl) (by decide) (by decide)) qk199a qk199c (g := (mkF m 121 #[.val (.int p1), .val (.int p2), .val (.int x), .val (.int y), .val (.int kk), .val (.int ln), .val (.ref bo3), .unset, .unset, .unset, .unset] [(.ref aq180), (.ref bo3)])) rfl (by rw [hml]; rfl) (Steps.refl _) (argsL := [(.ref aq180)]) (rest := []) (lenOf pd__Ljava_lang_String__Z rfl) rfl (by show 2 * 0 + _ ≤ _; exact Nat.le_of_eq rfl) (hb hby at_121) (fun _ _ => ⟨rfl, eq180, (by decide : 30 + 2 ≤ _), (by decide : 65680 + 13 ≤ _)⟩)
                dsimp only [Pt.U, Pt.locs, Pt.cells, Pt.slots] at Xk199 lk199 yk199 zk199 stk199 hQk199
                subst lk199 yk199 zk199
                obtain ⟨en2k199, ken2k199, rfl, Nk199q, Kk199q, Gk199_0, Qk199_0, Qk199_1, Qk199_2, Qk199_3, Qk199_4, Qk199_5, Qk199_6, Qk199_7, Qk199_8, Qk199_9⟩ := hQk199
                have Y200 : h0.size ≤ hq180.size := (Nat.le_trans (Nat.le_trans (Nat.le_trans (Nat.le_trans Y145 Kk144q.1) Eq153.1) Kk172q.1) Eq180.1)
                have g_en2k199 : n0 ≤ en2k199 := Nat.le_trans Z197 Gk199_0
                have y_en2k199 : h0.size ≤ en2k199 := Nat.le_trans Y200 Gk199_0
                have K201 : Keep h0 Tk199.heap [] := K182.trans Kk199q (allS (P := fun x => x ∈ ([] : List Addr) ∨ h0.size ≤ x) (Or.inr y_bo3) (allS (P := fun x => x ∈ ([] : List Addr) ∨ h0.size ≤ x) (Or.inr y_slk7) (allS (P := fun x => x ∈ ([] : List Addr) ∨ h0.size ≤ x) (Or.inr y_bkk32) all0)))
                have Nk199 := Fr.app Nk172 Nk199q
                have r202 : ∀ t_, Sp p e below Tk199 (mkF m 129 #[.val (.int p1), .val (.int p2), .val (.int x), .val (.int y), .val (.int kk), .val (.int ln), .val (.ref bo3), .unset, .unset, .unset, .unset] [(.int (7 : Int32)), (.int kk)]) t_ → Sp p e below s₁ (entryFrame m #[(.int p1), (.int p2), (.int x), (.int y)] maxLocals) t_ := by
                  intro t_ k_
                  refine r174 _ ?_
                  refine XS.icmpNo Xk172.here hx rfl (hb hby at_114) rfl (tlt c175).2.2.2 ?_
                  refine XS.aload Xk172.here hx rfl (hb hby at_117) rfl rfl ?_
                  refine stq180 _ ?_
                  refine stk199.trans ?_
                  refine XS.pop Xk199.here hx rfl (hb hby at_124) rfl rfl ?_
                  refine XS.iload Xk199.here hx rfl (hb hby at_125) rfl ?_
                  refine XS.bipush Xk199.here hx rfl (hb hby at_127) ?_
                  show Sp p e below Tk199 (mkF m 129 #[.val (.int p1), .val (.int p2), .val (.int x), .val (.int y), .val (.int kk), .val (.int ln), .val (.ref bo3), .unset, .unset, .unset, .unset] [(.int (7 : Int32)), (.int kk)]) _
                  exact k_
                by_cases c203 : (7 : Int32) < kk
                · have A204 : ∀ x ∈ [bo3, slk7, bkk32], Safe Z own_el Tq180.vm hq180 x := (allS (P := fun x => Safe Z own_el Tq180.vm hq180 x) (Safe.exa hZ.alike ((((((((((((((Ao3.keep Kk7q).ext Eq15).keep Kk32q).ext Eq41).keep Kk60q).ext Eq69).keep Kk88q).ext Eq97).keep Kk116q).ext Eq125).keep Kk144q).ext Eq153).keep Kk172q).ext Eq180) (by decide) (by decide)) (allS (P := fun x => Safe Z own_el Tq180.vm hq180 x) (Safe.exa hZ.alike (((((((((((((Qk7_6.ext Eq15).keep Kk32q).ext Eq41).keep Kk60q).ext Eq69).keep Kk88q).ext Eq97).keep Kk116q).ext Eq125).keep Kk144q).ext Eq153).keep Kk172q).ext Eq180) (by decide) (by decide)) (allS (P := fun x => Safe Z own_el Tq180.vm hq180 x) S181 all0)))
                  have S205 : Safe Z own_el Tq180.vm Tk199.heap bkk32 := Safe.keep Kk199q A204 Cq180.1 S181
                  have C206 : CHv Z own_el Tq180.vm Tk199.heap := CHv.keep Kk199q A204 Cq180.1
                  have F207 := (F196.keep Kk199q)
                  obtain ⟨aq208, Tq208, hq208, kq208, bq208, cq208, Xq208, eq208, Eq208, hSq208, hkq208, hZ, hown, Eaq208, Fcq208, Fvq208, Vbq208, -, -, Cq208, Lq208, -, stq208⟩ := ldcCH Xk199 hx hZ hown (text := "h") (tw hw 136 rfl) wS rfl hSq180 (Nat.le_trans hkq180 Kk199q.1) (own_ew hw) (List.mem_of_getElem? (i := 7) rfl) C206 (vs := [(.int (104 : Int32))]) (z := (1 : Int32)) (by decide) (by decide) (by decide) (g := (mkF m 134 #[.val (.int p1), .val (.int p2), .val (.int x), .val (.int y), .val (.int kk), .val (.int ln), .val (.ref bo3), .unset, .unset, .unset, .unset] [(.ref bo3)])) rfl (hb hby at_134) (n := 4) (by decide) (by decide) (by decide) (by decide)
                  have Ebq208 := own_bytes (vm := Tq208.vm) (text := "h") hZ hown (tw hw 136 rfl) (List.mem_of_getElem? (i := 7) rfl) Cq208.1 Lq208 Fvq208 Vbq208
                  have S209 : Safe Z own_el Tq208.vm hq208 bkk32 := Cq208.safe F207.lt S205
                  have K210 : Keep h0 hq208 [] := K201.ext Eq208
                  have F211 := ((F183.keep Kk199q).ext Eq208)
                  have F212 := (Qk199_0.ext Eq208)
                  have F213 := (Qk199_1.ext Eq208)
                  have F214 := (Qk199_2.ext Eq208)
                  have F215 := (Qk199_3.ext Eq208)
                  have F216 := (Qk199_4.ext Eq208)
                  have F217 := (Qk199_5.ext Eq208)
                  have F218 := ((F190.keep Kk199q).ext Eq208)
                  have F219 := (Qk199_6.ext Eq208)
                  have F220 := (Qk199_7.ext Eq208)
                  have F221 := (Qk199_8.ext Eq208)
                  have F222 := ((F194.keep Kk199q).ext Eq208)
                  have F223 := (Qk199_9.ext Eq208)
                  have F224 := (F207.ext Eq208)
                  have Z225 : n0 ≤ hq208.size := (Nat.le_trans (Nat.le_trans Z197 Kk199q.1) Eq208.1)
                  have O226 : Old Z n0 hq208 := ((O198.keep Kk199q (allS g_bo3 (allS g_slk7 (allS g_bkk32 all0)))).ext Eq208)
                  obtain ⟨cqk227, kqk227, qk227a, qk227b, qk227c⟩ := isOf hZ eq208 F211
                  obtain ⟨_, _, ⟨Tk227, Lk227, kk227, nk227⟩, -, Xk227, ⟨Lck227, hQk227, lk227, yk227, zk227⟩, stk227⟩ := Xq208.virtualBack hx (y := Y15) (z := Y15) hown (mvT hZ (tw hw 45 rfl)) (mvT hZ (tw hw 46 rfl)) (notFace_of_selects (args := #[]) (mvT hZ (tw hw 48 rfl))) (mvT hZ (tw hw 48 rfl)) (mvT hZ (tw hw 47 rfl)) (by decide) (backOf (W := 0) (rm_add7 l Z a0 hw [] bo3 aq208 bq208 cq208 slk7 ksk7 en2k199 ken2k199 blk7 kblk7 bkk32 kbkk32 aU cs hq208 n0 Z225 O226 F211 F212 F213 F214 F215 F216 F217 F218 F219 F220 F221 F222 F223 F224 Eaq208 Fcq208 Fvq208 Vbq208 Ebq208 ⟨S_U8, S_IN, S_CS, H_CS⟩ g_bo3 g_slk7 g_en2k199 g_bkk32) hZ (tw hw 49 rfl) (tw hw 3 rfl) (by decide) (by decide)) qk227a qk227c (g := (mkF m 136 #[.val (.int p1), .val (.int p2), .val (.int x), .val (.int y), .val (.int kk), .val (.int ln), .val (.ref bo3), .unset, .unset, .unset, .unset] [(.ref aq208), (.ref bo3)])) rfl (by rw [hml]; rfl) (Steps.refl _) (argsL := [(.ref aq208)]) (rest := []) (lenOf pd__Ljava_lang_String__Z rfl) rfl (by show 2 * 0 + _ ≤ _; exact Nat.le_of_eq rfl) (hb hby at_136) (fun _ _ => ⟨rfl, eq208, (by decide : 34 + 1 ≤ _), (by decide : 65701 + 1 ≤ _)⟩)
                  dsimp only [Pt.U, Pt.locs, Pt.cells, Pt.slots] at Xk227 lk227 yk227 zk227 stk227 hQk227
                  subst lk227 yk227 zk227
                  obtain ⟨rfl, Nk227q, Kk227q, Qk227_0, Qk227_1, Qk227_2, Qk227_3, Qk227_4, Qk227_5, Qk227_6, Qk227_7, Qk227_8⟩ := hQk227
                  have K228 : Keep h0 Tk227.heap [] := K210.trans Kk227q (allS (P := fun x => x ∈ ([] : List Addr) ∨ h0.size ≤ x) (Or.inr y_bo3) (allS (P := fun x => x ∈ ([] : List Addr) ∨ h0.size ≤ x) (Or.inr y_slk7) (allS (P := fun x => x ∈ ([] : List Addr) ∨ h0.size ≤ x) (Or.inr y_en2k199) (allS (P := fun x => x ∈ ([] : List Addr) ∨ h0.size ≤ x) (Or.inr y_bkk32) all0))))
                  have Nk227 := Fr.app Nk199 Nk227q
                  have r229 : ∀ t_, Sp p e below Tk227 (mkF m 140 #[.val (.int p1), .val (.int p2), .val (.int x), .val (.int y), .val (.int kk), .val (.int ln), .val (.ref bo3), .unset, .unset, .unset, .unset] []) t_ → Sp p e below s₁ (entryFrame m #[(.int p1), (.int p2), (.int x), (.int y)] maxLocals) t_ := by
                    intro t_ k_
                    refine r202 _ ?_
                    refine XS.icmpNo Xk199.here hx rfl (hb hby at_129) rfl (tlt c203).2.2.2 ?_
                    refine XS.aload Xk199.here hx rfl (hb hby at_132) rfl rfl ?_
                    refine stq208 _ ?_
                    refine stk227.trans ?_
                    refine XS.pop Xk227.here hx rfl (hb hby at_139) rfl rfl ?_
                    show Sp p e below Tk227 (mkF m 140 #[.val (.int p1), .val (.int p2), .val (.int x), .val (.int y), .val (.int kk), .val (.int ln), .val (.ref bo3), .unset, .unset, .unset, .unset] []) _
                    exact k_
                  have hkk : kk = (8 : Int32) := by
                    rcases own_08 hk with q | q | q | q | q | q | q | q | q <;> simp only [q] at c203 ⊢ <;> first | rfl | (exfalso; revert c203; decide)
                  have F230 := (F211.keep Kk227q)
                  have Z231 : n0 ≤ Tk227.heap.size := (Nat.le_trans Z225 Kk227q.1)
                  have O232 : Old Z n0 Tk227.heap := (O226.keep Kk227q (allS g_bo3 (allS g_slk7 (allS g_en2k199 (allS g_bkk32 all0)))))
                  obtain ⟨s₂, o, q1, q2, q3, q4⟩ := tl_p2 p l e s m _ below meth c _ _ Tq208.vm kq208 Z a0 hw p1 p2 x y kk ln bo3 Tk227.heap n0 (Xk227.more (by decide) (by decide)) hx hZ hby hml hown hret hlk hSq208 (Nat.le_trans hkq208 Kk227q.1) rfl Nk227 Z231 O232 F230 (hkk ▸ Qk227_4) hk hl
                  exact ⟨s₂, o, r229 _ q1, q2, q3, hn0 ▸ q4⟩
                · have r233 : ∀ t_, Sp p e below Tk199 (mkF m 140 #[.val (.int p1), .val (.int p2), .val (.int x), .val (.int y), .val (.int kk), .val (.int ln), .val (.ref bo3), .unset, .unset, .unset, .unset] []) t_ → Sp p e below s₁ (entryFrame m #[(.int p1), (.int p2), (.int x), (.int y)] maxLocals) t_ := by
                    intro t_ k_
                    refine r202 _ ?_
                    refine XS.icmpYes Xk199.here hx rfl (pc0 := 129) (pc' := 140) rfl (hb hby at_129) rfl (flt c203).2.2.2 (by decide) (by decide) ?_
                    show Sp p e below Tk199 (mkF m 140 #[.val (.int p1), .val (.int p2), .val (.int x), .val (.int y), .val (.int kk), .val (.int ln), .val (.ref bo3), .unset, .unset, .unset, .unset] []) _
                    exact k_
                  have hkk : kk = (7 : Int32) := by
                    rcases own_08 hk with q | q | q | q | q | q | q | q | q <;> simp only [q] at c175 c203 ⊢ <;> first | rfl | (exfalso; revert c175 c203; decide)
                  have F234 := (F183.keep Kk199q)
                  have Z235 : n0 ≤ Tk199.heap.size := (Nat.le_trans Z197 Kk199q.1)
                  have O236 : Old Z n0 Tk199.heap := (O198.keep Kk199q (allS g_bo3 (allS g_slk7 (allS g_bkk32 all0))))
                  obtain ⟨s₂, o, q1, q2, q3, q4⟩ := tl_p2 p l e s m _ below meth c _ _ Tq180.vm kq180 Z a0 hw p1 p2 x y kk ln bo3 Tk199.heap n0 (Xk199.more (by decide) (by decide)) hx hZ hby hml hown hret hlk hSq180 (Nat.le_trans hkq180 Kk199q.1) rfl Nk199 Z235 O236 F234 (hkk ▸ Qk199_4) hk hl
                  exact ⟨s₂, o, r233 _ q1, q2, q3, hn0 ▸ q4⟩
              · have r237 : ∀ t_, Sp p e below Tk172 (mkF m 140 #[.val (.int p1), .val (.int p2), .val (.int x), .val (.int y), .val (.int kk), .val (.int ln), .val (.ref bo3), .unset, .unset, .unset, .unset] []) t_ → Sp p e below s₁ (entryFrame m #[(.int p1), (.int p2), (.int x), (.int y)] maxLocals) t_ := by
                  intro t_ k_
                  refine r174 _ ?_
                  refine XS.icmpYes Xk172.here hx rfl (pc0 := 114) (pc' := 125) rfl (hb hby at_114) rfl (flt c175).2.2.2 (by decide) (by decide) ?_
                  refine XS.iload Xk172.here hx rfl (hb hby at_125) rfl ?_
                  refine XS.bipush Xk172.here hx rfl (hb hby at_127) ?_
                  refine XS.icmpYes Xk172.here hx rfl (pc0 := 129) (pc' := 140) rfl (hb hby at_129) rfl (flt (fun q => c175 (Int32.lt_trans (by decide) q))).2.2.2 (by decide) (by decide) ?_
                  show Sp p e below Tk172 (mkF m 140 #[.val (.int p1), .val (.int p2), .val (.int x), .val (.int y), .val (.int kk), .val (.int ln), .val (.ref bo3), .unset, .unset, .unset, .unset] []) _
                  exact k_
                have hkk : kk = (6 : Int32) := by
                  rcases own_08 hk with q | q | q | q | q | q | q | q | q <;> simp only [q] at c148 c175 ⊢ <;> first | rfl | (exfalso; revert c148 c175; decide)
                have F238 := (F156.keep Kk172q)
                have Z239 : n0 ≤ Tk172.heap.size := (Nat.le_trans Z170 Kk172q.1)
                have O240 : Old Z n0 Tk172.heap := (O171.keep Kk172q (allS g_bo3 (allS g_slk7 (allS g_en2k144 (allS g_bkk32 all0)))))
                obtain ⟨s₂, o, q1, q2, q3, q4⟩ := tl_p2 p l e s m _ below meth c _ _ Tq153.vm kq153 Z a0 hw p1 p2 x y kk ln bo3 Tk172.heap n0 (Xk172.more (by decide) (by decide)) hx hZ hby hml hown hret hlk hSq153 (Nat.le_trans hkq153 Kk172q.1) rfl Nk172 Z239 O240 F238 (hkk ▸ Qk172_4) hk hl
                exact ⟨s₂, o, r237 _ q1, q2, q3, hn0 ▸ q4⟩
            · have r241 : ∀ t_, Sp p e below Tk144 (mkF m 140 #[.val (.int p1), .val (.int p2), .val (.int x), .val (.int y), .val (.int kk), .val (.int ln), .val (.ref bo3), .unset, .unset, .unset, .unset] []) t_ → Sp p e below s₁ (entryFrame m #[(.int p1), (.int p2), (.int x), (.int y)] maxLocals) t_ := by
                intro t_ k_
                refine r147 _ ?_
                refine XS.icmpYes Xk144.here hx rfl (pc0 := 99) (pc' := 110) rfl (hb hby at_99) rfl (flt c148).2.2.2 (by decide) (by decide) ?_
                refine XS.iload Xk144.here hx rfl (hb hby at_110) rfl ?_
                refine XS.bipush Xk144.here hx rfl (hb hby at_112) ?_
                refine XS.icmpYes Xk144.here hx rfl (pc0 := 114) (pc' := 125) rfl (hb hby at_114) rfl (flt (fun q => c148 (Int32.lt_trans (by decide) q))).2.2.2 (by decide) (by decide) ?_
                refine XS.iload Xk144.here hx rfl (hb hby at_125) rfl ?_
                refine XS.bipush Xk144.here hx rfl (hb hby at_127) ?_
                refine XS.icmpYes Xk144.here hx rfl (pc0 := 129) (pc' := 140) rfl (hb hby at_129) rfl (flt (fun q => c148 (Int32.lt_trans (by decide) q))).2.2.2 (by decide) (by decide) ?_
                show Sp p e below Tk144 (mkF m 140 #[.val (.int p1), .val (.int p2), .val (.int x), .val (.int y), .val (.int kk), .val (.int ln), .val (.ref bo3), .unset, .unset, .unset, .unset] []) _
                exact k_
              have hkk : kk = (5 : Int32) := by
                rcases own_08 hk with q | q | q | q | q | q | q | q | q <;> simp only [q] at c120 c148 ⊢ <;> first | rfl | (exfalso; revert c120 c148; decide)
              have F242 := (F128.keep Kk144q)
              have Z243 : n0 ≤ Tk144.heap.size := (Nat.le_trans Z142 Kk144q.1)
              have O244 : Old Z n0 Tk144.heap := (O143.keep Kk144q (allS g_bo3 (allS g_slk7 (allS g_bkk32 all0))))
              obtain ⟨s₂, o, q1, q2, q3, q4⟩ := tl_p2 p l e s m _ below meth c _ _ Tq125.vm kq125 Z a0 hw p1 p2 x y kk ln bo3 Tk144.heap n0 (Xk144.more (by decide) (by decide)) hx hZ hby hml hown hret hlk hSq125 (Nat.le_trans hkq125 Kk144q.1) rfl Nk144 Z243 O244 F242 (hkk ▸ Qk144_4) hk hl
              exact ⟨s₂, o, r241 _ q1, q2, q3, hn0 ▸ q4⟩
          · have r245 : ∀ t_, Sp p e below Tk116 (mkF m 140 #[.val (.int p1), .val (.int p2), .val (.int x), .val (.int y), .val (.int kk), .val (.int ln), .val (.ref bo3), .unset, .unset, .unset, .unset] []) t_ → Sp p e below s₁ (entryFrame m #[(.int p1), (.int p2), (.int x), (.int y)] maxLocals) t_ := by
              intro t_ k_
              refine r119 _ ?_
              refine XS.icmpYes Xk116.here hx rfl (pc0 := 85) (pc' := 96) rfl (hb hby at_85) rfl (flt c120).2.2.2 (by decide) (by decide) ?_
              refine XS.iload Xk116.here hx rfl (hb hby at_96) rfl ?_
              refine XS.iconst Xk116.here hx rfl (hb hby at_98) ?_
              refine XS.icmpYes Xk116.here hx rfl (pc0 := 99) (pc' := 110) rfl (hb hby at_99) rfl (flt (fun q => c120 (Int32.lt_trans (by decide) q))).2.2.2 (by decide) (by decide) ?_
              refine XS.iload Xk116.here hx rfl (hb hby at_110) rfl ?_
              refine XS.bipush Xk116.here hx rfl (hb hby at_112) ?_
              refine XS.icmpYes Xk116.here hx rfl (pc0 := 114) (pc' := 125) rfl (hb hby at_114) rfl (flt (fun q => c120 (Int32.lt_trans (by decide) q))).2.2.2 (by decide) (by decide) ?_
              refine XS.iload Xk116.here hx rfl (hb hby at_125) rfl ?_
              refine XS.bipush Xk116.here hx rfl (hb hby at_127) ?_
              refine XS.icmpYes Xk116.here hx rfl (pc0 := 129) (pc' := 140) rfl (hb hby at_129) rfl (flt (fun q => c120 (Int32.lt_trans (by decide) q))).2.2.2 (by decide) (by decide) ?_
              show Sp p e below Tk116 (mkF m 140 #[.val (.int p1), .val (.int p2), .val (.int x), .val (.int y), .val (.int kk), .val (.int ln), .val (.ref bo3), .unset, .unset, .unset, .unset] []) _
              exact k_
            have hkk : kk = (4 : Int32) := by
              rcases own_08 hk with q | q | q | q | q | q | q | q | q <;> simp only [q] at c92 c120 ⊢ <;> first | rfl | (exfalso; revert c92 c120; decide)
            have F246 := (F100.keep Kk116q)
            have Z247 : n0 ≤ Tk116.heap.size := (Nat.le_trans Z114 Kk116q.1)
            have O248 : Old Z n0 Tk116.heap := (O115.keep Kk116q (allS g_bo3 (allS g_slk7 (allS g_bkk32 all0))))
            obtain ⟨s₂, o, q1, q2, q3, q4⟩ := tl_p2 p l e s m _ below meth c _ _ Tq97.vm kq97 Z a0 hw p1 p2 x y kk ln bo3 Tk116.heap n0 (Xk116.more (by decide) (by decide)) hx hZ hby hml hown hret hlk hSq97 (Nat.le_trans hkq97 Kk116q.1) rfl Nk116 Z247 O248 F246 (hkk ▸ Qk116_4) hk hl
            exact ⟨s₂, o, r245 _ q1, q2, q3, hn0 ▸ q4⟩
        · have r249 : ∀ t_, Sp p e below Tk88 (mkF m 140 #[.val (.int p1), .val (.int p2), .val (.int x), .val (.int y), .val (.int kk), .val (.int ln), .val (.ref bo3), .unset, .unset, .unset, .unset] []) t_ → Sp p e below s₁ (entryFrame m #[(.int p1), (.int p2), (.int x), (.int y)] maxLocals) t_ := by
            intro t_ k_
            refine r91 _ ?_
            refine XS.icmpYes Xk88.here hx rfl (pc0 := 71) (pc' := 82) rfl (hb hby at_71) rfl (flt c92).2.2.2 (by decide) (by decide) ?_
            refine XS.iload Xk88.here hx rfl (hb hby at_82) rfl ?_
            refine XS.iconst Xk88.here hx rfl (hb hby at_84) ?_
            refine XS.icmpYes Xk88.here hx rfl (pc0 := 85) (pc' := 96) rfl (hb hby at_85) rfl (flt (fun q => c92 (Int32.lt_trans (by decide) q))).2.2.2 (by decide) (by decide) ?_
            refine XS.iload Xk88.here hx rfl (hb hby at_96) rfl ?_
            refine XS.iconst Xk88.here hx rfl (hb hby at_98) ?_
            refine XS.icmpYes Xk88.here hx rfl (pc0 := 99) (pc' := 110) rfl (hb hby at_99) rfl (flt (fun q => c92 (Int32.lt_trans (by decide) q))).2.2.2 (by decide) (by decide) ?_
            refine XS.iload Xk88.here hx rfl (hb hby at_110) rfl ?_
            refine XS.bipush Xk88.here hx rfl (hb hby at_112) ?_
            refine XS.icmpYes Xk88.here hx rfl (pc0 := 114) (pc' := 125) rfl (hb hby at_114) rfl (flt (fun q => c92 (Int32.lt_trans (by decide) q))).2.2.2 (by decide) (by decide) ?_
            refine XS.iload Xk88.here hx rfl (hb hby at_125) rfl ?_
            refine XS.bipush Xk88.here hx rfl (hb hby at_127) ?_
            refine XS.icmpYes Xk88.here hx rfl (pc0 := 129) (pc' := 140) rfl (hb hby at_129) rfl (flt (fun q => c92 (Int32.lt_trans (by decide) q))).2.2.2 (by decide) (by decide) ?_
            show Sp p e below Tk88 (mkF m 140 #[.val (.int p1), .val (.int p2), .val (.int x), .val (.int y), .val (.int kk), .val (.int ln), .val (.ref bo3), .unset, .unset, .unset, .unset] []) _
            exact k_
          have hkk : kk = (3 : Int32) := by
            rcases own_08 hk with q | q | q | q | q | q | q | q | q <;> simp only [q] at c64 c92 ⊢ <;> first | rfl | (exfalso; revert c64 c92; decide)
          have F250 := (F72.keep Kk88q)
          have Z251 : n0 ≤ Tk88.heap.size := (Nat.le_trans Z86 Kk88q.1)
          have O252 : Old Z n0 Tk88.heap := (O87.keep Kk88q (allS g_bo3 (allS g_slk7 (allS g_bkk32 all0))))
          obtain ⟨s₂, o, q1, q2, q3, q4⟩ := tl_p2 p l e s m _ below meth c _ _ Tq69.vm kq69 Z a0 hw p1 p2 x y kk ln bo3 Tk88.heap n0 (Xk88.more (by decide) (by decide)) hx hZ hby hml hown hret hlk hSq69 (Nat.le_trans hkq69 Kk88q.1) rfl Nk88 Z251 O252 F250 (hkk ▸ Qk88_4) hk hl
          exact ⟨s₂, o, r249 _ q1, q2, q3, hn0 ▸ q4⟩
      · have r253 : ∀ t_, Sp p e below Tk60 (mkF m 140 #[.val (.int p1), .val (.int p2), .val (.int x), .val (.int y), .val (.int kk), .val (.int ln), .val (.ref bo3), .unset, .unset, .unset, .unset] []) t_ → Sp p e below s₁ (entryFrame m #[(.int p1), (.int p2), (.int x), (.int y)] maxLocals) t_ := by
          intro t_ k_
          refine r63 _ ?_
          refine XS.icmpYes Xk60.here hx rfl (pc0 := 57) (pc' := 68) rfl (hb hby at_57) rfl (flt c64).2.2.2 (by decide) (by decide) ?_
          refine XS.iload Xk60.here hx rfl (hb hby at_68) rfl ?_
          refine XS.iconst Xk60.here hx rfl (hb hby at_70) ?_
          refine XS.icmpYes Xk60.here hx rfl (pc0 := 71) (pc' := 82) rfl (hb hby at_71) rfl (flt (fun q => c64 (Int32.lt_trans (by decide) q))).2.2.2 (by decide) (by decide) ?_
          refine XS.iload Xk60.here hx rfl (hb hby at_82) rfl ?_
          refine XS.iconst Xk60.here hx rfl (hb hby at_84) ?_
          refine XS.icmpYes Xk60.here hx rfl (pc0 := 85) (pc' := 96) rfl (hb hby at_85) rfl (flt (fun q => c64 (Int32.lt_trans (by decide) q))).2.2.2 (by decide) (by decide) ?_
          refine XS.iload Xk60.here hx rfl (hb hby at_96) rfl ?_
          refine XS.iconst Xk60.here hx rfl (hb hby at_98) ?_
          refine XS.icmpYes Xk60.here hx rfl (pc0 := 99) (pc' := 110) rfl (hb hby at_99) rfl (flt (fun q => c64 (Int32.lt_trans (by decide) q))).2.2.2 (by decide) (by decide) ?_
          refine XS.iload Xk60.here hx rfl (hb hby at_110) rfl ?_
          refine XS.bipush Xk60.here hx rfl (hb hby at_112) ?_
          refine XS.icmpYes Xk60.here hx rfl (pc0 := 114) (pc' := 125) rfl (hb hby at_114) rfl (flt (fun q => c64 (Int32.lt_trans (by decide) q))).2.2.2 (by decide) (by decide) ?_
          refine XS.iload Xk60.here hx rfl (hb hby at_125) rfl ?_
          refine XS.bipush Xk60.here hx rfl (hb hby at_127) ?_
          refine XS.icmpYes Xk60.here hx rfl (pc0 := 129) (pc' := 140) rfl (hb hby at_129) rfl (flt (fun q => c64 (Int32.lt_trans (by decide) q))).2.2.2 (by decide) (by decide) ?_
          show Sp p e below Tk60 (mkF m 140 #[.val (.int p1), .val (.int p2), .val (.int x), .val (.int y), .val (.int kk), .val (.int ln), .val (.ref bo3), .unset, .unset, .unset, .unset] []) _
          exact k_
        have hkk : kk = (2 : Int32) := by
          rcases own_08 hk with q | q | q | q | q | q | q | q | q <;> simp only [q] at c36 c64 ⊢ <;> first | rfl | (exfalso; revert c36 c64; decide)
        have F254 := (F44.keep Kk60q)
        have Z255 : n0 ≤ Tk60.heap.size := (Nat.le_trans Z58 Kk60q.1)
        have O256 : Old Z n0 Tk60.heap := (O59.keep Kk60q (allS g_bo3 (allS g_slk7 (allS g_bkk32 all0))))
        obtain ⟨s₂, o, q1, q2, q3, q4⟩ := tl_p2 p l e s m _ below meth c _ _ Tq41.vm kq41 Z a0 hw p1 p2 x y kk ln bo3 Tk60.heap n0 (Xk60.more (by decide) (by decide)) hx hZ hby hml hown hret hlk hSq41 (Nat.le_trans hkq41 Kk60q.1) rfl Nk60 Z255 O256 F254 (hkk ▸ Qk60_4) hk hl
        exact ⟨s₂, o, r253 _ q1, q2, q3, hn0 ▸ q4⟩
    · have r257 : ∀ t_, Sp p e below Tk32 (mkF m 140 #[.val (.int p1), .val (.int p2), .val (.int x), .val (.int y), .val (.int kk), .val (.int ln), .val (.ref bo3), .unset, .unset, .unset, .unset] []) t_ → Sp p e below s₁ (entryFrame m #[(.int p1), (.int p2), (.int x), (.int y)] maxLocals) t_ := by
        intro t_ k_
        refine r35 _ ?_
        refine XS.icmpYes Xk32.here hx rfl (pc0 := 43) (pc' := 54) rfl (hb hby at_43) rfl (flt c36).2.2.2 (by decide) (by decide) ?_
        refine XS.iload Xk32.here hx rfl (hb hby at_54) rfl ?_
        refine XS.iconst Xk32.here hx rfl (hb hby at_56) ?_
        refine XS.icmpYes Xk32.here hx rfl (pc0 := 57) (pc' := 68) rfl (hb hby at_57) rfl (flt (fun q => c36 (Int32.lt_trans (by decide) q))).2.2.2 (by decide) (by decide) ?_
        refine XS.iload Xk32.here hx rfl (hb hby at_68) rfl ?_
        refine XS.iconst Xk32.here hx rfl (hb hby at_70) ?_
        refine XS.icmpYes Xk32.here hx rfl (pc0 := 71) (pc' := 82) rfl (hb hby at_71) rfl (flt (fun q => c36 (Int32.lt_trans (by decide) q))).2.2.2 (by decide) (by decide) ?_
        refine XS.iload Xk32.here hx rfl (hb hby at_82) rfl ?_
        refine XS.iconst Xk32.here hx rfl (hb hby at_84) ?_
        refine XS.icmpYes Xk32.here hx rfl (pc0 := 85) (pc' := 96) rfl (hb hby at_85) rfl (flt (fun q => c36 (Int32.lt_trans (by decide) q))).2.2.2 (by decide) (by decide) ?_
        refine XS.iload Xk32.here hx rfl (hb hby at_96) rfl ?_
        refine XS.iconst Xk32.here hx rfl (hb hby at_98) ?_
        refine XS.icmpYes Xk32.here hx rfl (pc0 := 99) (pc' := 110) rfl (hb hby at_99) rfl (flt (fun q => c36 (Int32.lt_trans (by decide) q))).2.2.2 (by decide) (by decide) ?_
        refine XS.iload Xk32.here hx rfl (hb hby at_110) rfl ?_
        refine XS.bipush Xk32.here hx rfl (hb hby at_112) ?_
        refine XS.icmpYes Xk32.here hx rfl (pc0 := 114) (pc' := 125) rfl (hb hby at_114) rfl (flt (fun q => c36 (Int32.lt_trans (by decide) q))).2.2.2 (by decide) (by decide) ?_
        refine XS.iload Xk32.here hx rfl (hb hby at_125) rfl ?_
        refine XS.bipush Xk32.here hx rfl (hb hby at_127) ?_
        refine XS.icmpYes Xk32.here hx rfl (pc0 := 129) (pc' := 140) rfl (hb hby at_129) rfl (flt (fun q => c36 (Int32.lt_trans (by decide) q))).2.2.2 (by decide) (by decide) ?_
        show Sp p e below Tk32 (mkF m 140 #[.val (.int p1), .val (.int p2), .val (.int x), .val (.int y), .val (.int kk), .val (.int ln), .val (.ref bo3), .unset, .unset, .unset, .unset] []) _
        exact k_
      have hkk : kk = (1 : Int32) := by
        rcases own_08 hk with q | q | q | q | q | q | q | q | q <;> simp only [q] at c11 c36 ⊢ <;> first | rfl | (exfalso; revert c11 c36; decide)
      have F258 := (F17.keep Kk32q)
      have Z259 : n0 ≤ Tk32.heap.size := (Nat.le_trans Z30 Kk32q.1)
      have O260 : Old Z n0 Tk32.heap := (O31.keep Kk32q (allS g_bo3 (allS g_slk7 (allS g_blk7 all0))))
      obtain ⟨s₂, o, q1, q2, q3, q4⟩ := tl_p2 p l e s m _ below meth c _ _ Tq15.vm kq15 Z a0 hw p1 p2 x y kk ln bo3 Tk32.heap n0 (Xk32.more (by decide) (by decide)) hx hZ hby hml hown hret hlk hSq15 (Nat.le_trans hkq15 Kk32q.1) rfl Nk32 Z259 O260 F258 (hkk ▸ Qk32_4) hk hl
      exact ⟨s₂, o, r257 _ q1, q2, q3, hn0 ▸ q4⟩
  · have r261 : ∀ t_, Sp p e below Tk7 (mkF m 140 #[.val (.int p1), .val (.int p2), .val (.int x), .val (.int y), .val (.int kk), .val (.int ln), .val (.ref bo3), .unset, .unset, .unset, .unset] []) t_ → Sp p e below s₁ (entryFrame m #[(.int p1), (.int p2), (.int x), (.int y)] maxLocals) t_ := by
      intro t_ k_
      refine r10 _ ?_
      refine XS.ifYes Xk7.here hx rfl (pc0 := 29) (pc' := 40) rfl (hb hby at_29) rfl ((if0 _ _).trans (flt c11).2.2.2) (by decide) (by decide) ?_
      refine XS.iload Xk7.here hx rfl (hb hby at_40) rfl ?_
      refine XS.iconst Xk7.here hx rfl (hb hby at_42) ?_
      refine XS.icmpYes Xk7.here hx rfl (pc0 := 43) (pc' := 54) rfl (hb hby at_43) rfl (flt (fun q => c11 (Int32.lt_trans (by decide) q))).2.2.2 (by decide) (by decide) ?_
      refine XS.iload Xk7.here hx rfl (hb hby at_54) rfl ?_
      refine XS.iconst Xk7.here hx rfl (hb hby at_56) ?_
      refine XS.icmpYes Xk7.here hx rfl (pc0 := 57) (pc' := 68) rfl (hb hby at_57) rfl (flt (fun q => c11 (Int32.lt_trans (by decide) q))).2.2.2 (by decide) (by decide) ?_
      refine XS.iload Xk7.here hx rfl (hb hby at_68) rfl ?_
      refine XS.iconst Xk7.here hx rfl (hb hby at_70) ?_
      refine XS.icmpYes Xk7.here hx rfl (pc0 := 71) (pc' := 82) rfl (hb hby at_71) rfl (flt (fun q => c11 (Int32.lt_trans (by decide) q))).2.2.2 (by decide) (by decide) ?_
      refine XS.iload Xk7.here hx rfl (hb hby at_82) rfl ?_
      refine XS.iconst Xk7.here hx rfl (hb hby at_84) ?_
      refine XS.icmpYes Xk7.here hx rfl (pc0 := 85) (pc' := 96) rfl (hb hby at_85) rfl (flt (fun q => c11 (Int32.lt_trans (by decide) q))).2.2.2 (by decide) (by decide) ?_
      refine XS.iload Xk7.here hx rfl (hb hby at_96) rfl ?_
      refine XS.iconst Xk7.here hx rfl (hb hby at_98) ?_
      refine XS.icmpYes Xk7.here hx rfl (pc0 := 99) (pc' := 110) rfl (hb hby at_99) rfl (flt (fun q => c11 (Int32.lt_trans (by decide) q))).2.2.2 (by decide) (by decide) ?_
      refine XS.iload Xk7.here hx rfl (hb hby at_110) rfl ?_
      refine XS.bipush Xk7.here hx rfl (hb hby at_112) ?_
      refine XS.icmpYes Xk7.here hx rfl (pc0 := 114) (pc' := 125) rfl (hb hby at_114) rfl (flt (fun q => c11 (Int32.lt_trans (by decide) q))).2.2.2 (by decide) (by decide) ?_
      refine XS.iload Xk7.here hx rfl (hb hby at_125) rfl ?_
      refine XS.bipush Xk7.here hx rfl (hb hby at_127) ?_
      show Sp p e below Tk7 (mkF m 129 #[.val (.int p1), .val (.int p2), .val (.int x), .val (.int y), .val (.int kk), .val (.int ln), .val (.ref bo3), .unset, .unset, .unset, .unset] [(.int (7 : Int32)), (.int kk)]) _
      refine XS.icmpYes Xk7.here hx rfl (pc0 := 129) (pc' := 140) rfl (hb hby at_129) rfl (flt (fun q => c11 (Int32.lt_trans (by decide) q))).2.2.2 (by decide) (by decide) ?_
      show Sp p e below Tk7 (mkF m 140 #[.val (.int p1), .val (.int p2), .val (.int x), .val (.int y), .val (.int kk), .val (.int ln), .val (.ref bo3), .unset, .unset, .unset, .unset] []) _
      exact k_
    have hkk : kk = (0 : Int32) := by
      rcases own_08 hk with q | q | q | q | q | q | q | q | q <;> simp only [q] at c11 ⊢ <;> first | rfl | (exfalso; revert c11; decide)
    have F262 := (Ao3.keep Kk7q)
    have Z263 : n0 ≤ Tk7.heap.size := (Nat.le_trans Z5 Kk7q.1)
    have O264 : Old Z n0 Tk7.heap := (O6.keep Kk7q (allS g_bo3 all0))
    obtain ⟨s₂, o, q1, q2, q3, q4⟩ := tl_p2 p l e s m _ below meth c _ _ vm0 0 Z a0 hw p1 p2 x y kk ln bo3 Tk7.heap n0 (Xk7.more (by decide) (by decide)) hx hZ hby hml hown hret hlk hS (Nat.le_trans (Nat.le_trans hk0 Eo3.1) Kk7q.1) rfl Nk7 Z263 O264 F262 (hkk ▸ Qk7_4) hk hl
    exact ⟨s₂, o, r261 _ q1, q2, q3, hn0 ▸ q4⟩
theorem own_wS : ∀ w ∈ Bundle.stringAtoms, w ∈ tables_1 := by decide +kernel
theorem own_eqref2 {args : Array Value} {Z : State} {a b : Term} {y : Addr} (ha : a.eval args Z none [] Z = some (.ref y)) (h : (Jvm.Cond.eq a b).value args Z none Z [] = some true) : b.eval args Z none [] Z = some (.ref y) := by
  obtain ⟨u, w, e1, e2, -, -⟩ := cmp_v (Or.inl h)
  cases ha.symm.trans e1
  simp only [Jvm.Cond.value, e1, e2] at h
  cases w <;> simp_all
theorem own_nz {args : Array Value} {Z : State} {t : Term} {v : Int32} (ev : t.eval args Z none [] Z = some (.int v)) (h : (Jvm.Cond.not (.eq t (.int 0))).value args Z none Z [] = some true) : ¬ (v = (0 : Int32)) := by
  have h1 := not_v h
  intro hv
  subst hv
  rw [eq_i ev (Term.int_eval (0 : Int32)) rfl] at h1
  cases h1
set_option maxRecDepth 65536 in
set_option maxHeartbeats 40000000 in
theorem comes_1 {Post : Tables → Env → Array Value → State → Outcome → State → Prop} (hpost : ∀ tb e args s v u, (limb_1_1.after args s (.returned v) u = true ∧ limb_1_2.after args s (.returned v) u = true ∧ True) → ReturnedEndW s (.returned v) u (Jvm.fieldLocs frame_1_writes args s ++ Jvm.arrayLocs frame_1_arrays args s ++ Jvm.staticLocs frame_1_statics s) 72 139520 → Post tb e args s (.returned v) u) :
    ArmFor flags0 classFile x code maxLocals ret World_1 tables_1 room_1 Calls_1 rest_1 Pre_1 Post := by
  intro l hfl _ _ p e ha hc hk s m args below hf hA hF happ hP
  obtain ⟨hcalls, hrest, hpre⟩ := hP
  obtain ⟨-, -, -, hnamed, -, -, -, hat⟩ := (Spec.applies_iff hf).mp happ
  obtain ⟨hg, hn⟩ := and_e (Cond.before_iff.mp (show (Jvm.Cond.and given_1 narrow_1).before args s = true from hpre))
  obtain ⟨hcount, hg0⟩ := and_e hg
  obtain ⟨w0, w1, w2, w3, rfl⟩ : ∃ w0 w1 w2 w3 : Value, args = #[w0, w1, w2, w3] := by
    have hs : args.size = 4 := by simpa [Cond.value, given_1] using hcount
    obtain ⟨L⟩ := args
    match L, hs with
    | [w0, w1, w2, w3], _ => exact ⟨w0, w1, w2, w3, rfl⟩
  obtain ⟨ha0, hg1⟩ := and_e hg0
  obtain ⟨ha1, hg2⟩ := and_e hg1
  obtain ⟨ha2, ha3⟩ := and_e hg2
  obtain ⟨i0, ei0⟩ := is_v ha0
  obtain rfl : w0 = (.int i0) := Option.some.inj ei0
  obtain ⟨i1, ei1⟩ := is_v ha1
  obtain rfl : w1 = (.int i1) := Option.some.inj ei1
  obtain ⟨i2, ei2⟩ := is_v ha2
  obtain rfl : w2 = (.int i2) := Option.some.inj ei2
  obtain ⟨i3, ei3⟩ := is_v ha3
  obtain rfl : w3 = (.int i3) := Option.some.inj ei3
  have hw := fun d (hd : d ∈ tables_1) => atoms_spec (ws := Jvm.Cond.code x code maxLocals ret :: tables_1) hat d (List.mem_cons_of_mem _ hd)
  obtain ⟨hsets, hown0⟩ := atoms_of _ (rest_1_c_eq ▸ (show rest_1_c.before _ s = true from hrest))
  obtain ⟨aU, evU⟩ := exa_v (Cond.before_iff.mp (hsets _ (List.mem_of_getElem? (i := 5) rfl)))
  have S_U8 := Sta.start evU (Or.inl (hsets _ (List.mem_of_getElem? (i := 1) rfl)))
  have S_IN := Sta.start (own_eqref2 evU (Cond.before_iff.mp (hsets _ (List.mem_of_getElem? (i := 4) rfl)))) (Or.inl (hsets _ (List.mem_of_getElem? (i := 3) rfl)))
  obtain ⟨cs, evC⟩ := is_v (Cond.before_iff.mp (hsets _ (List.mem_of_getElem? (i := 7) rfl)))
  have S_CS := Sta.start evC (Or.inl (hsets _ (List.mem_of_getElem? (i := 6) rfl)))
  have H_CS := own_nz evC (Cond.before_iff.mp (hsets _ (List.mem_of_getElem? (i := 8) rfl)))
  obtain ⟨n, o, h1, h2, h3, _, L, rfl, ⟨rfl, N⟩, hq⟩ := rm_law l s _ hw tables_1 i0 i1 i2 i3 aU cs ⟨S_U8, S_IN, S_CS, H_CS⟩ (fun i hi => by
      have hh := hcalls.1
      simp only [List.mem_cons, List.not_mem_nil, or_false] at hi
      rcases hi with rfl | rfl | rfl | rfl | rfl | rfl | rfl | rfl
      · exact hh (S2, 11) (by simp [consts_1])
      · exact hh (S2, 17) (by simp [consts_1])
      · exact hh (S2, 19) (by simp [consts_1])
      · exact hh (S2, 21) (by simp [consts_1])
      · exact hh (S2, 23) (by simp [consts_1])
      · exact hh (S2, 25) (by simp [consts_1])
      · exact hh (S2, 27) (by simp [consts_1])
      · exact hh (S2, 29) (by simp [consts_1])
      ) (hsets _ (List.mem_of_getElem? (i := 8) rfl)) (fun a hh => hw a (own_wS a hh)) p e ha hc hk s m _ below hf ((Spec.applies_iff_loose hf).mp happ).1 ⟨rfl, rfl⟩ trivial
  refine ⟨n, _, h1, h2, h3, hpost _ _ _ _ _ _ ⟨Cond.after_iff.mpr rfl, Cond.after_iff.mpr (eq_i res_at (Term.int_eval (1)) rfl), trivial⟩ ⟨hq.1, hq.2.1, hq.2.2.1, (hq.2.2.2.sift fun y hy => Or.inr (N y hy)).mono (by decide) (by decide)⟩⟩
theorem main_1_1 : Claimed_1_1 := comes_1 fun _ _ _ _ _ _ h hF => ⟨h.1, hF⟩
theorem main_1_2 : Claimed_1_2 := comes_1 fun _ _ _ _ _ _ h hF => ⟨h.2.1, hF⟩
end Jvm.Pilot.@@N@@
namespace Jvm.Pilot.@@N@@
open Jvm Jvm.ClassFile Sem Op Lib Jvm.Free Jvm.Stand Jvm.Pilot.@@N@@.Jvm.D
/-! MADE BY PROGRAM (witnessworld.py) out of the Statement's table words and the real class files: 28 classes; the members and pool entries that the words name. The judged class is class 1, her method 1. -/
namespace start1
open Jvm.ClassFile
def u (s : String) : CpInfo := .utf8 (stringToUtf16 s)
/-- a pool by its gaps: so many unusable entries, then the entry; so many at the end -/
def gap : Nat → List CpInfo → List CpInfo
  | 0, r => r
  | n + 1, r => .unusable :: gap n r
def poolList (es : List (Nat × CpInfo)) (last : Nat) : List CpInfo := es.foldr (fun e r => gap e.1 (e.2 :: r)) (gap last [])
def pool (es : List (Nat × CpInfo)) (last : Nat) : Array CpInfo := ⟨poolList es last⟩
def fileOf (pool : Array CpInfo) (this : Nat) (attrs : Array Attribute := #[]) (ms : Array MethodInfo := #[]) (fl : Nat := 33) (sup : Nat := 0) (ifs : Array Nat := #[]) (fds : Array FieldInfo := #[]) : ClassFile where
  minorVersion := 0
  majorVersion := 65
  constantPool := pool
  accessFlags := fl
  thisClass := this
  superClass := sup
  interfaces := ifs
  fields := fds
  methods := ms
  attributes := attrs
def plain (name : String) (sup : Option ClassId) : Class where
  name := name
  kind := .ordinary
  loader := none
  accessFlags := 33
  super := sup
  interfaces := #[]
  cf := none
  fields := #[]
  methods := #[]
  instanceTypes := #[]
  staticTypes := #[]
  resolved := #[]
  callSites := []
  init := .initialized
  statics := none
  mirror := none

def pool0 : Array CpInfo := pool [(5, u "<init>"), (0, u "()V"), (1, .class_ 10), (1, u "java/lang/Object"), (85, u "clone"), (0, u "()Ljava/lang/Object;")] 26

def k0c0 : Code := { maxStack := 0, maxLocals := 1, code := object_method_1_code, exceptionTable := #[], attributes := #[] }
def k0m0 : Method := { name := "<init>", desc := "()V", sig := { parameters := [], returnType := none }, accessFlags := 1, code := some k0c0 }
def k0m1 : Method := { name := "clone", desc := "()Ljava/lang/Object;", sig := { parameters := [], returnType := some (.object "java/lang/Object") }, accessFlags := 260, code := none }
/-- java/lang/Object -/
def k0 : Class := { plain "java/lang/Object" none with
  accessFlags := 33
  interfaces := #[]
  cf := some (fileOf pool0 8 #[] #[{ accessFlags := 1, nameIndex := 5, descriptorIndex := 6, attributes := #[] }, { accessFlags := 260, nameIndex := 96, descriptorIndex := 97, attributes := #[] }] 33 0 #[] #[])
  fields := #[]
  methods := #[k0m0, k0m1]
  instanceTypes := #[]
  staticTypes := #[]
  resolved := Array.replicate 124 none
  statics := none }

def pool1 : Array CpInfo := pool [(2, .class_ 4), (0, .nameAndType 5 6), (0, u "java/lang/Object"), (0, u "<init>"), (0, u "()V"), (0, .integer 2147483647), (0, .class_ 9), (0, u "com/example/munim/munim/csv/TextKeys"), (0, .methodref 8 3), (0, .string 12), (0, u "a"), (0, .methodref 8 14), (0, .nameAndType 15 16), (0, u "add"), (0, u "(Ljava/lang/String;)Z"), (0, .string 18), (0, u "b"), (0, .string 20), (0, u "c"), (0, .string 22), (0, u "d"), (0, .string 24), (0, u "e"), (0, .string 26), (0, u "f"), (0, .string 28), (0, u "g"), (0, .string 30), (0, u "h"), (0, .methodref 32 33), (0, .class_ 34), (0, .nameAndType 35 36), (0, u "com/example/munim/munim/csv/TextKeysFitPinLaw"), (0, u "v"), (0, u "(III)I"), (0, .methodref 8 38), (0, .nameAndType 39 40), (0, u "fit"), (0, u "([I)[I"), (0, .methodref 32 42), (0, .nameAndType 43 44), (0, u "same"), (0, u "([IIII)Z"), (0, .methodref 32 46), (0, .nameAndType 47 48), (0, u "cell"), (0, u "([IIIII)Z"), (2, u "law"), (0, u "(IIII)Z")] 5

def k1m0 : Method := { name := "<init>", desc := "()V", sig := { parameters := [], returnType := none }, accessFlags := 1, code := none }
def k1c1 : Code := { maxStack := 5, maxLocals := 11, code := code, exceptionTable := #[], attributes := #[] }
def k1m1 : Method := { name := "law", desc := "(IIII)Z", sig := { parameters := [.int, .int, .int, .int], returnType := some .boolean }, accessFlags := 9, code := some k1c1 }
def k1c2 : Code := { maxStack := 3, maxLocals := 3, code := method_3_code, exceptionTable := #[], attributes := #[] }
def k1m2 : Method := { name := "v", desc := "(III)I", sig := { parameters := [.int, .int, .int], returnType := some .int }, accessFlags := 10, code := some k1c2 }
def k1c3 : Code := { maxStack := 4, maxLocals := 5, code := method_4_code, exceptionTable := #[], attributes := #[] }
def k1m3 : Method := { name := "cell", desc := "([IIIII)Z", sig := { parameters := [(.array .int), .int, .int, .int, .int], returnType := some .boolean }, accessFlags := 10, code := some k1c3 }
def k1c4 : Code := { maxStack := 5, maxLocals := 4, code := method_5_code, exceptionTable := #[], attributes := #[] }
def k1m4 : Method := { name := "same", desc := "([IIII)Z", sig := { parameters := [(.array .int), .int, .int, .int], returnType := some .boolean }, accessFlags := 10, code := some k1c4 }
/-- com/example/munim/munim/csv/TextKeysFitPinLaw -/
def k1 : Class := { plain "com/example/munim/munim/csv/TextKeysFitPinLaw" (some 0) with
  accessFlags := 49
  interfaces := #[]
  cf := some (fileOf pool1 32 #[] #[{ accessFlags := 1, nameIndex := 5, descriptorIndex := 6, attributes := #[] }, { accessFlags := 9, nameIndex := 51, descriptorIndex := 52, attributes := #[] }, { accessFlags := 10, nameIndex := 35, descriptorIndex := 36, attributes := #[] }, { accessFlags := 10, nameIndex := 47, descriptorIndex := 48, attributes := #[] }, { accessFlags := 10, nameIndex := 43, descriptorIndex := 44, attributes := #[] }] 49 2 #[] #[])
  fields := #[]
  methods := #[k1m0, k1m1, k1m2, k1m3, k1m4]
  instanceTypes := #[]
  staticTypes := #[]
  resolved := Array.replicate 58 none
  statics := none }

def pool2 : Array CpInfo := pool [(1, .class_ 2), (0, u "com/example/munim/munim/csv/TextKeys"), (0, .methodref 4 5), (0, .class_ 6), (0, .nameAndType 7 8), (0, u "java/lang/Object"), (0, u "<init>"), (0, u "()V"), (0, .fieldref 1 10), (0, .nameAndType 11 12), (0, u "slots"), (0, u "[J"), (0, .fieldref 1 14), (0, .nameAndType 15 16), (0, u "ends"), (0, u "[I"), (0, .class_ 18), (0, u "[B"), (0, .fieldref 1 20), (0, .nameAndType 21 22), (0, u "blocks"), (0, u "[[B"), (0, .fieldref 1 24), (0, .nameAndType 25 26), (0, u "size"), (0, u "I"), (0, .methodref 1 28), (0, .nameAndType 29 30), (0, u "room"), (0, u "(I)I"), (0, .methodref 32 33), (0, .class_ 34), (0, .nameAndType 35 36), (0, u "java/util/Arrays"), (0, u "copyOf"), (0, u "([II)[I"), (3, .methodref 41 42), (0, .class_ 43), (0, .nameAndType 44 45), (0, u "java/lang/Math"), (0, u "max"), (0, u "(II)I"), (0, .fieldref 47 48), (0, .class_ 49), (0, .nameAndType 50 51), (0, u "java/nio/charset/StandardCharsets"), (0, u "UTF_8"), (0, u "Ljava/nio/charset/Charset;"), (0, .methodref 53 54), (0, .class_ 55), (0, .nameAndType 56 57), (0, u "java/lang/String"), (0, u "getBytes"), (0, u "(Ljava/nio/charset/Charset;)[B"), (0, .methodref 1 59), (0, .nameAndType 60 61), (0, u "hash"), (0, u "([B)I"), (0, .methodref 1 63), (0, .nameAndType 64 65), (0, u "find"), (0, u "([BI)I"), (3, .methodref 1 70), (0, .nameAndType 71 72), (0, u "store"), (0, u "([B)V"), (0, .methodref 1 74), (0, .nameAndType 75 76), (0, u "fit"), (0, u "([I)[I"), (0, .fieldref 1 78), (0, .nameAndType 79 26), (0, u "stored"), (4, .integer 65535), (0, .integer 65536), (0, .methodref 41 87), (0, .nameAndType 88 45), (0, u "min"), (6, .integer 2147483647), (11, .methodref 108 109), (0, .class_ 110), (0, .nameAndType 111 112), (0, u "java/lang/System"), (0, u "arraycopy"), (0, u "(Ljava/lang/Object;ILjava/lang/Object;II)V"), (3, .long 14695981039346656037), (1, .long 1099511628211), (1, .long 18397679294719823053), (1, u "BLOCK_BITS"), (2, u "BLOCK"), (0, u "BLOCK_MASK"), (0, u "FNV_OFFSET"), (0, u "J"), (0, u "FNV_PRIME"), (0, u "MAX_SLOTS"), (6, u "add"), (0, u "(Ljava/lang/String;)Z")] 5

def k2c0 : Code := { maxStack := 2, maxLocals := 1, code := prog_57_method_1_code, exceptionTable := #[], attributes := #[] }
def k2m0 : Method := { name := "<init>", desc := "()V", sig := { parameters := [], returnType := none }, accessFlags := 1, code := some k2c0 }
def k2c1 : Code := { maxStack := 3, maxLocals := 2, code := prog_57_method_3_code, exceptionTable := #[], attributes := #[] }
def k2m1 : Method := { name := "fit", desc := "([I)[I", sig := { parameters := [(.array .int)], returnType := some (.array .int) }, accessFlags := 1, code := some k2c1 }
def k2c2 : Code := { maxStack := 4, maxLocals := 2, code := prog_57_method_5_code, exceptionTable := #[], attributes := #[] }
def k2m2 : Method := { name := "room", desc := "(I)I", sig := { parameters := [.int], returnType := some .int }, accessFlags := 2, code := some k2c2 }
def k2c3 : Code := { maxStack := 8, maxLocals := 5, code := prog_57_method_6_code, exceptionTable := #[], attributes := #[] }
def k2m3 : Method := { name := "add", desc := "(Ljava/lang/String;)Z", sig := { parameters := [(.object "java/lang/String")], returnType := some .boolean }, accessFlags := 1, code := some k2c3 }
def k2c4 : Code := { maxStack := 4, maxLocals := 7, code := prog_57_method_8_code, exceptionTable := #[], attributes := #[] }
def k2m4 : Method := { name := "find", desc := "([BI)I", sig := { parameters := [(.array .byte), .int], returnType := some .int }, accessFlags := 2, code := some k2c4 }
def k2c5 : Code := { maxStack := 5, maxLocals := 6, code := prog_57_method_10_code, exceptionTable := #[], attributes := #[] }
def k2m5 : Method := { name := "store", desc := "([B)V", sig := { parameters := [(.array .byte)], returnType := none }, accessFlags := 2, code := some k2c5 }
def k2c6 : Code := { maxStack := 5, maxLocals := 7, code := prog_57_method_12_code, exceptionTable := #[], attributes := #[] }
def k2m6 : Method := { name := "hash", desc := "([B)I", sig := { parameters := [(.array .byte)], returnType := some .int }, accessFlags := 8, code := some k2c6 }
/-- com/example/munim/munim/csv/TextKeys -/
def k2 : Class := { plain "com/example/munim/munim/csv/TextKeys" (some 0) with
  accessFlags := 49
  interfaces := #[]
  cf := some (fileOf pool2 1 #[] #[{ accessFlags := 1, nameIndex := 7, descriptorIndex := 8, attributes := #[] }, { accessFlags := 1, nameIndex := 75, descriptorIndex := 76, attributes := #[] }, { accessFlags := 2, nameIndex := 29, descriptorIndex := 30, attributes := #[] }, { accessFlags := 1, nameIndex := 137, descriptorIndex := 138, attributes := #[] }, { accessFlags := 2, nameIndex := 64, descriptorIndex := 65, attributes := #[] }, { accessFlags := 2, nameIndex := 71, descriptorIndex := 72, attributes := #[] }, { accessFlags := 8, nameIndex := 60, descriptorIndex := 61, attributes := #[] }] 49 4 #[] #[{ accessFlags := 26, nameIndex := 122, descriptorIndex := 26, attributes := #[] }, { accessFlags := 26, nameIndex := 125, descriptorIndex := 26, attributes := #[] }, { accessFlags := 26, nameIndex := 126, descriptorIndex := 26, attributes := #[] }, { accessFlags := 26, nameIndex := 127, descriptorIndex := 128, attributes := #[] }, { accessFlags := 26, nameIndex := 129, descriptorIndex := 128, attributes := #[] }, { accessFlags := 26, nameIndex := 130, descriptorIndex := 26, attributes := #[] }, { accessFlags := 2, nameIndex := 11, descriptorIndex := 12, attributes := #[] }, { accessFlags := 2, nameIndex := 15, descriptorIndex := 16, attributes := #[] }, { accessFlags := 2, nameIndex := 21, descriptorIndex := 22, attributes := #[] }, { accessFlags := 2, nameIndex := 79, descriptorIndex := 26, attributes := #[] }, { accessFlags := 2, nameIndex := 25, descriptorIndex := 26, attributes := #[] }])
  fields := #[{ name := "BLOCK_BITS", type := .int, accessFlags := 26, slot := 0, constantValue := 0 }, { name := "BLOCK", type := .int, accessFlags := 26, slot := 1, constantValue := 0 }, { name := "BLOCK_MASK", type := .int, accessFlags := 26, slot := 2, constantValue := 0 }, { name := "FNV_OFFSET", type := .long, accessFlags := 26, slot := 3, constantValue := 0 }, { name := "FNV_PRIME", type := .long, accessFlags := 26, slot := 4, constantValue := 0 }, { name := "MAX_SLOTS", type := .int, accessFlags := 26, slot := 5, constantValue := 0 }, { name := "slots", type := (.array .long), accessFlags := 2, slot := 0, constantValue := 0 }, { name := "ends", type := (.array .int), accessFlags := 2, slot := 1, constantValue := 0 }, { name := "blocks", type := (.array (.array .byte)), accessFlags := 2, slot := 2, constantValue := 0 }, { name := "stored", type := .int, accessFlags := 2, slot := 3, constantValue := 0 }, { name := "size", type := .int, accessFlags := 2, slot := 4, constantValue := 0 }]
  methods := #[k2m0, k2m1, k2m2, k2m3, k2m4, k2m5, k2m6]
  instanceTypes := #[(.array .long), (.array .int), (.array (.array .byte)), .int, .int]
  staticTypes := #[.int, .int, .int, .long, .long, .int]
  resolved := Array.replicate 144 none
  statics := none }

def pool3 : Array CpInfo := pool [(1, .class_ 2), (0, u "java/io/Serializable"), (0, .class_ 4), (0, u "java/lang/Object")] 2

/-- java/io/Serializable -/
def k3 : Class := { plain "java/io/Serializable" (some 0) with
  accessFlags := 1537
  interfaces := #[]
  cf := some (fileOf pool3 1 #[] #[] 1537 3 #[] #[])
  fields := #[]
  methods := #[]
  instanceTypes := #[]
  staticTypes := #[]
  resolved := Array.replicate 7 none
  statics := none }

def pool4 : Array CpInfo := pool [(1, .class_ 2), (0, u "java/lang/Comparable"), (0, .class_ 4), (0, u "java/lang/Object")] 7

/-- java/lang/Comparable -/
def k4 : Class := { plain "java/lang/Comparable" (some 0) with
  accessFlags := 1537
  interfaces := #[]
  cf := some (fileOf pool4 1 #[] #[] 1537 3 #[] #[])
  fields := #[]
  methods := #[]
  instanceTypes := #[]
  staticTypes := #[]
  resolved := Array.replicate 12 none
  statics := none }

def pool5 : Array CpInfo := pool [(2, .class_ 4), (1, u "java/lang/CharSequence"), (42, .class_ 48), (0, u "java/lang/CharSequence$1CodePointIterator"), (10, .class_ 60), (0, u "java/lang/CharSequence$1CharIterator"), (5, .class_ 67), (0, u "java/lang/Object")] 63

/-- java/lang/CharSequence -/
def k5 : Class := { plain "java/lang/CharSequence" (some 0) with
  accessFlags := 1537
  interfaces := #[]
  cf := some (fileOf pool5 2 #[.nestMembers #[47, 59]] #[] 1537 66 #[] #[])
  fields := #[]
  methods := #[]
  instanceTypes := #[]
  staticTypes := #[]
  resolved := Array.replicate 131 none
  statics := none }

def pool6 : Array CpInfo := pool [(1, .class_ 2), (0, u "java/lang/constant/Constable"), (0, .class_ 4), (0, u "java/lang/Object")] 6

/-- java/lang/constant/Constable -/
def k6 : Class := { plain "java/lang/constant/Constable" (some 0) with
  accessFlags := 1537
  interfaces := #[]
  cf := some (fileOf pool6 1 #[] #[] 1537 3 #[] #[])
  fields := #[]
  methods := #[]
  instanceTypes := #[]
  staticTypes := #[]
  resolved := Array.replicate 11 none
  statics := none }

def pool7 : Array CpInfo := pool [(1, .class_ 2), (0, u "java/lang/constant/ConstantDesc"), (0, .class_ 4), (0, u "java/lang/Object")] 32

/-- java/lang/constant/ConstantDesc -/
def k7 : Class := { plain "java/lang/constant/ConstantDesc" (some 0) with
  accessFlags := 1537
  interfaces := #[]
  cf := some (fileOf pool7 1 #[] #[] 1537 3 #[] #[])
  fields := #[]
  methods := #[]
  instanceTypes := #[]
  staticTypes := #[]
  resolved := Array.replicate 37 none
  statics := none }

def pool8 : Array CpInfo := pool [(2, .class_ 4), (1, u "java/lang/Object"), (0, u "<init>"), (0, u "()V"), (2, .fieldref 10 11), (0, .class_ 12), (0, .nameAndType 13 14), (0, u "java/lang/String"), (0, u "value"), (0, u "[B"), (0, .fieldref 10 16), (0, .nameAndType 17 18), (0, u "coder"), (0, u "B"), (2, u "hash"), (0, u "I"), (2, u "hashIsZero"), (0, u "Z"), (11, .fieldref 10 39), (0, .nameAndType 40 26), (0, u "COMPACT_STRINGS"), (45, .fieldref 87 88), (0, .class_ 89), (0, .nameAndType 90 91), (0, u "sun/nio/cs/UTF_8"), (0, u "INSTANCE"), (0, u "Lsun/nio/cs/UTF_8;"), (1, .class_ 95), (1, u "java/lang/StringCoding"), (32, .methodref 93 129), (0, .nameAndType 130 131), (0, u "hasNegatives"), (0, u "([BII)Z"), (120, .methodref 10 253), (0, .nameAndType 254 255), (0, u "encodeUTF8"), (0, u "(B[BZ)[B"), (23, .methodref 280 281), (0, .class_ 14), (0, .nameAndType 282 283), (0, u "clone"), (0, u "()Ljava/lang/Object;"), (33, u "encode"), (17, .methodref 10 336), (0, .nameAndType 17 337), (0, u "()B"), (194, u "getBytes"), (2, .methodref 10 536), (0, .nameAndType 317 537), (0, u "(Ljava/nio/charset/Charset;B[B)[B"), (37, .class_ 576), (0, u "java/lang/CharSequence"), (22, u "CASE_INSENSITIVE_ORDER"), (0, u "Ljava/util/Comparator;"), (500, u "serialPersistentFields"), (0, u "[Ljava/io/ObjectStreamField;"), (0, .class_ 1104), (0, u "java/lang/String$CaseInsensitiveComparator"), (1, .class_ 1107), (0, u "java/io/Serializable"), (0, .class_ 1109), (0, u "java/lang/Comparable"), (0, .class_ 1111), (0, u "java/lang/constant/Constable"), (0, .class_ 1113), (0, u "java/lang/constant/ConstantDesc"), (2, u "serialVersionUID"), (0, u "J"), (3, u "REPL"), (0, u "C"), (2, u "LATIN1"), (1, u "UTF16"), (117, u "(Ljava/nio/charset/Charset;)[B")] 205

def k8m0 : Method := { name := "<init>", desc := "()V", sig := { parameters := [], returnType := none }, accessFlags := 1, code := none }
def k8c1 : Code := { maxStack := 4, maxLocals := 3, code := jdk_42_method_18_code, exceptionTable := #[], attributes := #[] }
def k8m1 : Method := { name := "encode", desc := "(Ljava/nio/charset/Charset;B[B)[B", sig := { parameters := [(.object "java/nio/charset/Charset"), .byte, (.array .byte)], returnType := some (.array .byte) }, accessFlags := 10, code := some k8c1 }
def k8c2 : Code := { maxStack := 5, maxLocals := 9, code := jdk_42_method_46_code, exceptionTable := #[], attributes := #[] }
def k8m2 : Method := { name := "encodeUTF8", desc := "(B[BZ)[B", sig := { parameters := [.byte, (.array .byte), .boolean], returnType := some (.array .byte) }, accessFlags := 10, code := some k8c2 }
def k8c3 : Code := { maxStack := 3, maxLocals := 2, code := jdk_42_method_64_code, exceptionTable := #[], attributes := #[] }
def k8m3 : Method := { name := "getBytes", desc := "(Ljava/nio/charset/Charset;)[B", sig := { parameters := [(.object "java/nio/charset/Charset")], returnType := some (.array .byte) }, accessFlags := 1, code := some k8c3 }
def k8c4 : Code := { maxStack := 1, maxLocals := 1, code := jdk_42_method_152_code, exceptionTable := #[], attributes := #[] }
def k8m4 : Method := { name := "coder", desc := "()B", sig := { parameters := [], returnType := some .byte }, accessFlags := 0, code := some k8c4 }
/-- java/lang/String -/
def k8 : Class := { plain "java/lang/String" (some 0) with
  accessFlags := 49
  interfaces := #[3, 4, 5, 6, 7]
  cf := some (fileOf pool8 10 #[.nestMembers #[1103]] #[{ accessFlags := 1, nameIndex := 5, descriptorIndex := 6, attributes := #[] }, { accessFlags := 10, nameIndex := 317, descriptorIndex := 537, attributes := #[] }, { accessFlags := 10, nameIndex := 254, descriptorIndex := 255, attributes := #[] }, { accessFlags := 1, nameIndex := 532, descriptorIndex := 1245, attributes := #[] }, { accessFlags := 0, nameIndex := 17, descriptorIndex := 337, attributes := #[] }] 49 2 #[1106, 1108, 575, 1110, 1112] #[{ accessFlags := 18, nameIndex := 13, descriptorIndex := 14, attributes := #[] }, { accessFlags := 18, nameIndex := 17, descriptorIndex := 18, attributes := #[] }, { accessFlags := 2, nameIndex := 21, descriptorIndex := 22, attributes := #[] }, { accessFlags := 2, nameIndex := 25, descriptorIndex := 26, attributes := #[] }, { accessFlags := 26, nameIndex := 1116, descriptorIndex := 1117, attributes := #[] }, { accessFlags := 24, nameIndex := 40, descriptorIndex := 26, attributes := #[] }, { accessFlags := 26, nameIndex := 1101, descriptorIndex := 1102, attributes := #[] }, { accessFlags := 26, nameIndex := 1121, descriptorIndex := 1122, attributes := #[] }, { accessFlags := 25, nameIndex := 599, descriptorIndex := 600, attributes := #[] }, { accessFlags := 24, nameIndex := 1125, descriptorIndex := 18, attributes := #[] }, { accessFlags := 24, nameIndex := 1127, descriptorIndex := 18, attributes := #[] }])
  fields := #[{ name := "value", type := (.array .byte), accessFlags := 18, slot := 0, constantValue := 0 }, { name := "coder", type := .byte, accessFlags := 18, slot := 1, constantValue := 0 }, { name := "hash", type := .int, accessFlags := 2, slot := 2, constantValue := 0 }, { name := "hashIsZero", type := .boolean, accessFlags := 2, slot := 3, constantValue := 0 }, { name := "serialVersionUID", type := .long, accessFlags := 26, slot := 0, constantValue := 0 }, { name := "COMPACT_STRINGS", type := .boolean, accessFlags := 24, slot := 1, constantValue := 0 }, { name := "serialPersistentFields", type := (.array (.object "java/io/ObjectStreamField")), accessFlags := 26, slot := 2, constantValue := 0 }, { name := "REPL", type := .char, accessFlags := 26, slot := 3, constantValue := 0 }, { name := "CASE_INSENSITIVE_ORDER", type := (.object "java/util/Comparator"), accessFlags := 25, slot := 4, constantValue := 0 }, { name := "LATIN1", type := .byte, accessFlags := 24, slot := 5, constantValue := 0 }, { name := "UTF16", type := .byte, accessFlags := 24, slot := 6, constantValue := 0 }]
  methods := #[k8m0, k8m1, k8m2, k8m3, k8m4]
  instanceTypes := #[(.array .byte), .byte, .int, .boolean]
  staticTypes := #[.long, .boolean, (.array (.object "java/io/ObjectStreamField")), .char, (.object "java/util/Comparator"), .byte, .byte]
  resolved := Array.replicate 1451 none
  statics := some 0 }

def pool9 : Array CpInfo := pool [(2, .class_ 4), (1, u "java/lang/Object"), (0, u "<init>"), (0, u "()V"), (14, .class_ 23), (1, u "java/nio/charset/StandardCharsets"), (0, u "US_ASCII"), (0, u "Ljava/nio/charset/Charset;"), (7, u "ISO_8859_1"), (7, u "UTF_8"), (5, u "UTF_16BE"), (5, u "UTF_16LE"), (5, u "UTF_16")] 8

def k9m0 : Method := { name := "<init>", desc := "()V", sig := { parameters := [], returnType := none }, accessFlags := 2, code := none }
/-- java/nio/charset/StandardCharsets -/
def k9 : Class := { plain "java/nio/charset/StandardCharsets" (some 0) with
  accessFlags := 49
  interfaces := #[]
  cf := some (fileOf pool9 21 #[] #[{ accessFlags := 2, nameIndex := 5, descriptorIndex := 6, attributes := #[] }] 49 2 #[] #[{ accessFlags := 25, nameIndex := 24, descriptorIndex := 25, attributes := #[] }, { accessFlags := 25, nameIndex := 33, descriptorIndex := 25, attributes := #[] }, { accessFlags := 25, nameIndex := 41, descriptorIndex := 25, attributes := #[] }, { accessFlags := 25, nameIndex := 47, descriptorIndex := 25, attributes := #[] }, { accessFlags := 25, nameIndex := 53, descriptorIndex := 25, attributes := #[] }, { accessFlags := 25, nameIndex := 59, descriptorIndex := 25, attributes := #[] }])
  fields := #[{ name := "US_ASCII", type := (.object "java/nio/charset/Charset"), accessFlags := 25, slot := 0, constantValue := 0 }, { name := "ISO_8859_1", type := (.object "java/nio/charset/Charset"), accessFlags := 25, slot := 1, constantValue := 0 }, { name := "UTF_8", type := (.object "java/nio/charset/Charset"), accessFlags := 25, slot := 2, constantValue := 0 }, { name := "UTF_16BE", type := (.object "java/nio/charset/Charset"), accessFlags := 25, slot := 3, constantValue := 0 }, { name := "UTF_16LE", type := (.object "java/nio/charset/Charset"), accessFlags := 25, slot := 4, constantValue := 0 }, { name := "UTF_16", type := (.object "java/nio/charset/Charset"), accessFlags := 25, slot := 5, constantValue := 0 }]
  methods := #[k9m0]
  instanceTypes := #[]
  staticTypes := #[(.object "java/nio/charset/Charset"), (.object "java/nio/charset/Charset"), (.object "java/nio/charset/Charset"), (.object "java/nio/charset/Charset"), (.object "java/nio/charset/Charset"), (.object "java/nio/charset/Charset")]
  resolved := Array.replicate 68 none
  statics := some 1 }

def pool10 : Array CpInfo := pool [(18, .class_ 20), (1, u "java/nio/charset/Charset"), (0, u "cache1"), (0, u "[Ljava/lang/Object;"), (2, u "cache2"), (0, .class_ 27), (0, u "java/lang/Object"), (0, .class_ 29), (0, u "java/nio/charset/Charset$1"), (4, .class_ 36), (1, u "java/nio/charset/Charset$ThreadTrackHolder"), (21, .class_ 59), (0, u "java/nio/charset/Charset$2"), (11, .class_ 73), (1, u "java/nio/charset/Charset$ExtendedProviderHolder"), (22, u "standardProvider"), (0, u "Ljava/nio/charset/spi/CharsetProvider;"), (29, u "name"), (7, .class_ 136), (0, u "java/nio/charset/Charset$3"), (5, u "defaultCharset"), (0, u "Ljava/nio/charset/Charset;"), (14, u "zeroAliases"), (0, u "[Ljava/lang/String;"), (29, u "Ljava/lang/String;"), (2, u "aliases"), (2, u "aliasSet"), (0, u "Ljava/util/Set;"), (82, .class_ 280), (0, u "java/lang/Comparable"), (84, .class_ 366), (0, u "java/nio/charset/Charset$ExtendedProviderHolder$1")] 3

/-- java/nio/charset/Charset -/
def k10 : Class := { plain "java/nio/charset/Charset" (some 0) with
  accessFlags := 1057
  interfaces := #[4]
  cf := some (fileOf pool10 18 #[.nestMembers #[71, 365, 34, 135, 58, 28]] #[] 1057 26 #[279] #[{ accessFlags := 26, nameIndex := 96, descriptorIndex := 97, attributes := #[] }, { accessFlags := 26, nameIndex := 158, descriptorIndex := 159, attributes := #[] }, { accessFlags := 74, nameIndex := 21, descriptorIndex := 22, attributes := #[] }, { accessFlags := 74, nameIndex := 25, descriptorIndex := 22, attributes := #[] }, { accessFlags := 10, nameIndex := 142, descriptorIndex := 143, attributes := #[] }, { accessFlags := 18, nameIndex := 127, descriptorIndex := 189, attributes := #[] }, { accessFlags := 18, nameIndex := 192, descriptorIndex := 159, attributes := #[] }, { accessFlags := 2, nameIndex := 195, descriptorIndex := 196, attributes := #[] }])
  fields := #[{ name := "standardProvider", type := (.object "java/nio/charset/spi/CharsetProvider"), accessFlags := 26, slot := 0, constantValue := 0 }, { name := "zeroAliases", type := (.array (.object "java/lang/String")), accessFlags := 26, slot := 1, constantValue := 0 }, { name := "cache1", type := (.array (.object "java/lang/Object")), accessFlags := 74, slot := 2, constantValue := 0 }, { name := "cache2", type := (.array (.object "java/lang/Object")), accessFlags := 74, slot := 3, constantValue := 0 }, { name := "defaultCharset", type := (.object "java/nio/charset/Charset"), accessFlags := 10, slot := 4, constantValue := 0 }, { name := "name", type := (.object "java/lang/String"), accessFlags := 18, slot := 0, constantValue := 0 }, { name := "aliases", type := (.array (.object "java/lang/String")), accessFlags := 18, slot := 1, constantValue := 0 }, { name := "aliasSet", type := (.object "java/util/Set"), accessFlags := 2, slot := 2, constantValue := 0 }]
  methods := #[]
  instanceTypes := #[(.object "java/lang/String"), (.array (.object "java/lang/String")), (.object "java/util/Set")]
  staticTypes := #[(.object "java/nio/charset/spi/CharsetProvider"), (.array (.object "java/lang/String")), (.array (.object "java/lang/Object")), (.array (.object "java/lang/Object")), (.object "java/nio/charset/Charset")]
  resolved := Array.replicate 370 none
  statics := none }

def pool11 : Array CpInfo := pool [(1, .class_ 2), (0, u "sun/nio/cs/HistoricallyNamedCharset"), (0, .class_ 4), (0, u "java/lang/Object")] 4

/-- sun/nio/cs/HistoricallyNamedCharset -/
def k11 : Class := { plain "sun/nio/cs/HistoricallyNamedCharset" (some 0) with
  accessFlags := 1537
  interfaces := #[]
  cf := some (fileOf pool11 1 #[] #[] 1537 3 #[] #[])
  fields := #[]
  methods := #[]
  instanceTypes := #[]
  staticTypes := #[]
  resolved := Array.replicate 9 none
  statics := none }

def pool12 : Array CpInfo := pool [(2, .class_ 4), (1, u "java/nio/charset/Charset"), (130, .class_ 136), (0, u "sun/nio/cs/Unicode"), (0, .class_ 138), (0, u "sun/nio/cs/HistoricallyNamedCharset")] 15

/-- sun/nio/cs/Unicode -/
def k12 : Class := { plain "sun/nio/cs/Unicode" (some 10) with
  accessFlags := 1056
  interfaces := #[11]
  cf := some (fileOf pool12 135 #[] #[] 1056 2 #[137] #[])
  fields := #[]
  methods := #[]
  instanceTypes := #[(.object "java/lang/String"), (.array (.object "java/lang/String")), (.object "java/util/Set")]
  staticTypes := #[]
  resolved := Array.replicate 154 none
  statics := none }

def pool13 : Array CpInfo := pool [(10, .class_ 12), (1, u "sun/nio/cs/Unicode"), (0, u "<init>"), (3, .class_ 18), (0, u "sun/nio/cs/UTF_8$Decoder"), (3, .class_ 23), (0, u "sun/nio/cs/UTF_8$Encoder"), (15, .class_ 40), (0, u "sun/nio/cs/UTF_8"), (2, u "()V"), (2, u "INSTANCE"), (0, u "Lsun/nio/cs/UTF_8;"), (8, u "JLA"), (0, u "Ljdk/internal/access/JavaLangAccess;")] 26

def k13m0 : Method := { name := "<init>", desc := "()V", sig := { parameters := [], returnType := none }, accessFlags := 1, code := none }
/-- sun/nio/cs/UTF_8 -/
def k13 : Class := { plain "sun/nio/cs/UTF_8" (some 12) with
  accessFlags := 49
  interfaces := #[]
  cf := some (fileOf pool13 39 #[.nestMembers #[22, 17]] #[{ accessFlags := 1, nameIndex := 13, descriptorIndex := 43, attributes := #[] }] 49 10 #[] #[{ accessFlags := 25, nameIndex := 46, descriptorIndex := 47, attributes := #[] }, { accessFlags := 26, nameIndex := 56, descriptorIndex := 57, attributes := #[] }])
  fields := #[{ name := "INSTANCE", type := (.object "sun/nio/cs/UTF_8"), accessFlags := 25, slot := 0, constantValue := 0 }, { name := "JLA", type := (.object "jdk/internal/access/JavaLangAccess"), accessFlags := 26, slot := 1, constantValue := 0 }]
  methods := #[k13m0]
  instanceTypes := #[(.object "java/lang/String"), (.array (.object "java/lang/String")), (.object "java/util/Set")]
  staticTypes := #[(.object "sun/nio/cs/UTF_8"), (.object "jdk/internal/access/JavaLangAccess")]
  resolved := Array.replicate 84 none
  statics := some 2 }

def pool14 : Array CpInfo := pool [(2, .class_ 4), (1, u "java/lang/Object"), (0, u "<init>"), (0, u "()V"), (0, .methodref 8 9), (0, .class_ 10), (0, .nameAndType 11 12), (0, u "java/lang/StringCoding"), (0, u "countPositives"), (0, u "([BII)I"), (11, u "hasNegatives"), (0, u "([BII)Z")] 23

def k14m0 : Method := { name := "<init>", desc := "()V", sig := { parameters := [], returnType := none }, accessFlags := 2, code := none }
def k14c1 : Code := { maxStack := 3, maxLocals := 3, code := jdk_123_method_2_code, exceptionTable := #[], attributes := #[] }
def k14m1 : Method := { name := "hasNegatives", desc := "([BII)Z", sig := { parameters := [(.array .byte), .int, .int], returnType := some .boolean }, accessFlags := 9, code := some k14c1 }
def k14c2 : Code := { maxStack := 2, maxLocals := 5, code := jdk_123_method_3_code, exceptionTable := #[], attributes := #[] }
def k14m2 : Method := { name := "countPositives", desc := "([BII)I", sig := { parameters := [(.array .byte), .int, .int], returnType := some .int }, accessFlags := 9, code := some k14c2 }
/-- java/lang/StringCoding -/
def k14 : Class := { plain "java/lang/StringCoding" (some 0) with
  accessFlags := 32
  interfaces := #[]
  cf := some (fileOf pool14 8 #[] #[{ accessFlags := 2, nameIndex := 5, descriptorIndex := 6, attributes := #[] }, { accessFlags := 9, nameIndex := 24, descriptorIndex := 25, attributes := #[] }, { accessFlags := 9, nameIndex := 11, descriptorIndex := 12, attributes := #[] }] 32 2 #[] #[])
  fields := #[]
  methods := #[k14m0, k14m1, k14m2]
  instanceTypes := #[]
  staticTypes := #[]
  resolved := Array.replicate 49 none
  statics := none }

def pool15 : Array CpInfo := pool [(1, .class_ 2), (0, u "java/lang/Cloneable"), (0, .class_ 4), (0, u "java/lang/Object")] 2

/-- java/lang/Cloneable -/
def k15 : Class := { plain "java/lang/Cloneable" (some 0) with
  accessFlags := 1537
  interfaces := #[]
  cf := some (fileOf pool15 1 #[] #[] 1537 3 #[] #[])
  fields := #[]
  methods := #[]
  instanceTypes := #[]
  staticTypes := #[]
  resolved := Array.replicate 7 none
  statics := none }

def pool16 : Array CpInfo := pool [(1, .class_ 2), (0, u "java/lang/Math"), (1, .class_ 6), (1, u "java/lang/Object"), (0, u "<init>"), (0, u "()V"), (89, .class_ 100), (1, u "java/lang/Math$RandomNumberGeneratorHolder"), (71, u "negativeZeroFloatBits"), (0, u "J"), (2, u "negativeZeroDoubleBits"), (21, u "max"), (2, u "min"), (43, u "$assertionsDisabled"), (0, u "Z"), (88, u "(II)I"), (2, u "twoToTheDoubleScaleDown"), (0, u "D"), (4, u "twoToTheDoubleScaleUp"), (9, u "E"), (3, u "PI"), (2, u "TAU"), (2, u "DEGREES_TO_RADIANS"), (0, u "RADIANS_TO_DEGREES")] 94

def k16m0 : Method := { name := "<init>", desc := "()V", sig := { parameters := [], returnType := none }, accessFlags := 2, code := none }
def k16c1 : Code := { maxStack := 2, maxLocals := 2, code := jdk_29_method_65_code, exceptionTable := #[], attributes := #[] }
def k16m1 : Method := { name := "max", desc := "(II)I", sig := { parameters := [.int, .int], returnType := some .int }, accessFlags := 9, code := some k16c1 }
def k16c2 : Code := { maxStack := 2, maxLocals := 2, code := jdk_29_method_69_code, exceptionTable := #[], attributes := #[] }
def k16m2 : Method := { name := "min", desc := "(II)I", sig := { parameters := [.int, .int], returnType := some .int }, accessFlags := 9, code := some k16c2 }
/-- java/lang/Math -/
def k16 : Class := { plain "java/lang/Math" (some 0) with
  accessFlags := 49
  interfaces := #[]
  cf := some (fileOf pool16 1 #[.nestMembers #[98]] #[{ accessFlags := 2, nameIndex := 7, descriptorIndex := 8, attributes := #[] }, { accessFlags := 9, nameIndex := 198, descriptorIndex := 335, attributes := #[] }, { accessFlags := 9, nameIndex := 201, descriptorIndex := 335, attributes := #[] }] 49 4 #[] #[{ accessFlags := 25, nameIndex := 354, descriptorIndex := 339, attributes := #[] }, { accessFlags := 25, nameIndex := 358, descriptorIndex := 339, attributes := #[] }, { accessFlags := 25, nameIndex := 361, descriptorIndex := 339, attributes := #[] }, { accessFlags := 26, nameIndex := 364, descriptorIndex := 339, attributes := #[] }, { accessFlags := 26, nameIndex := 365, descriptorIndex := 339, attributes := #[] }, { accessFlags := 26, nameIndex := 172, descriptorIndex := 173, attributes := #[] }, { accessFlags := 26, nameIndex := 176, descriptorIndex := 173, attributes := #[] }, { accessFlags := 8, nameIndex := 344, descriptorIndex := 339, attributes := #[] }, { accessFlags := 8, nameIndex := 338, descriptorIndex := 339, attributes := #[] }, { accessFlags := 4120, nameIndex := 245, descriptorIndex := 246, attributes := #[] }])
  fields := #[{ name := "E", type := .double, accessFlags := 25, slot := 0, constantValue := 0 }, { name := "PI", type := .double, accessFlags := 25, slot := 1, constantValue := 0 }, { name := "TAU", type := .double, accessFlags := 25, slot := 2, constantValue := 0 }, { name := "DEGREES_TO_RADIANS", type := .double, accessFlags := 26, slot := 3, constantValue := 0 }, { name := "RADIANS_TO_DEGREES", type := .double, accessFlags := 26, slot := 4, constantValue := 0 }, { name := "negativeZeroFloatBits", type := .long, accessFlags := 26, slot := 5, constantValue := 0 }, { name := "negativeZeroDoubleBits", type := .long, accessFlags := 26, slot := 6, constantValue := 0 }, { name := "twoToTheDoubleScaleUp", type := .double, accessFlags := 8, slot := 7, constantValue := 0 }, { name := "twoToTheDoubleScaleDown", type := .double, accessFlags := 8, slot := 8, constantValue := 0 }, { name := "$assertionsDisabled", type := .boolean, accessFlags := 4120, slot := 9, constantValue := 0 }]
  methods := #[k16m0, k16m1, k16m2]
  instanceTypes := #[]
  staticTypes := #[.double, .double, .double, .double, .double, .long, .long, .double, .double, .boolean]
  resolved := Array.replicate 460 none
  statics := none }

def pool17 : Array CpInfo := pool [(2, .class_ 4), (1, u "java/lang/Object"), (0, u "<init>"), (0, u "()V"), (1, .class_ 10), (1, u "java/lang/System"), (0, u "allowSecurityManager"), (0, u "I"), (16, u "cons"), (0, u "Ljava/io/Console;"), (77, .class_ 110), (1, u "java/lang/System$CallersHolder"), (43, u "initialErrStream"), (0, u "Ljava/io/PrintStream;"), (19, u "security"), (0, u "Ljava/lang/SecurityManager;"), (31, .class_ 209), (0, u "java/lang/System$1"), (7, u "props"), (0, u "Ljava/util/Properties;"), (2, u "lineSeparator"), (0, u "Ljava/lang/String;"), (96, .class_ 321), (1, u "java/lang/System$LoggerFinder"), (5, .class_ 328), (0, u "java/lang/System$Logger"), (67, u "err"), (2, u "out"), (91, u "notSupportedJnuEncoding"), (15, u "in"), (17, u "initialIn"), (0, u "Ljava/io/InputStream;"), (35, u "bootLayer"), (0, u "Ljava/lang/ModuleLayer;"), (99, .class_ 664), (0, u "java/lang/System$2"), (9, u "NEVER"), (2, u "MAYBE"), (49, u "arraycopy"), (0, u "(Ljava/lang/Object;ILjava/lang/Object;II)V"), (72, .class_ 802), (0, u "java/lang/System$Logger$Level")] 31

def k17m0 : Method := { name := "<init>", desc := "()V", sig := { parameters := [], returnType := none }, accessFlags := 2, code := none }
def k17m1 : Method := { name := "arraycopy", desc := "(Ljava/lang/Object;ILjava/lang/Object;II)V", sig := { parameters := [(.object "java/lang/Object"), .int, (.object "java/lang/Object"), .int, .int], returnType := none }, accessFlags := 265, code := none }
/-- java/lang/System -/
def k17 : Class := { plain "java/lang/System" (some 0) with
  accessFlags := 49
  interfaces := #[]
  cf := some (fileOf pool17 8 #[.nestMembers #[319, 327, 801, 108, 663, 208]] #[{ accessFlags := 2, nameIndex := 5, descriptorIndex := 6, attributes := #[] }, { accessFlags := 265, nameIndex := 727, descriptorIndex := 728, attributes := #[] }] 49 2 #[] #[{ accessFlags := 25, nameIndex := 507, descriptorIndex := 526, attributes := #[] }, { accessFlags := 25, nameIndex := 399, descriptorIndex := 155, attributes := #[] }, { accessFlags := 25, nameIndex := 396, descriptorIndex := 155, attributes := #[] }, { accessFlags := 10, nameIndex := 525, descriptorIndex := 526, attributes := #[] }, { accessFlags := 26, nameIndex := 674, descriptorIndex := 12, attributes := #[] }, { accessFlags := 26, nameIndex := 677, descriptorIndex := 12, attributes := #[] }, { accessFlags := 10, nameIndex := 11, descriptorIndex := 12, attributes := #[] }, { accessFlags := 74, nameIndex := 175, descriptorIndex := 176, attributes := #[] }, { accessFlags := 10, nameIndex := 491, descriptorIndex := 222, attributes := #[] }, { accessFlags := 74, nameIndex := 29, descriptorIndex := 30, attributes := #[] }, { accessFlags := 74, nameIndex := 154, descriptorIndex := 155, attributes := #[] }, { accessFlags := 10, nameIndex := 217, descriptorIndex := 218, attributes := #[] }, { accessFlags := 10, nameIndex := 221, descriptorIndex := 222, attributes := #[] }, { accessFlags := 8, nameIndex := 562, descriptorIndex := 563, attributes := #[] }])
  fields := #[{ name := "in", type := (.object "java/io/InputStream"), accessFlags := 25, slot := 0, constantValue := 0 }, { name := "out", type := (.object "java/io/PrintStream"), accessFlags := 25, slot := 1, constantValue := 0 }, { name := "err", type := (.object "java/io/PrintStream"), accessFlags := 25, slot := 2, constantValue := 0 }, { name := "initialIn", type := (.object "java/io/InputStream"), accessFlags := 10, slot := 3, constantValue := 0 }, { name := "NEVER", type := .int, accessFlags := 26, slot := 4, constantValue := 0 }, { name := "MAYBE", type := .int, accessFlags := 26, slot := 5, constantValue := 0 }, { name := "allowSecurityManager", type := .int, accessFlags := 10, slot := 6, constantValue := 0 }, { name := "security", type := (.object "java/lang/SecurityManager"), accessFlags := 74, slot := 7, constantValue := 0 }, { name := "notSupportedJnuEncoding", type := (.object "java/lang/String"), accessFlags := 10, slot := 8, constantValue := 0 }, { name := "cons", type := (.object "java/io/Console"), accessFlags := 74, slot := 9, constantValue := 0 }, { name := "initialErrStream", type := (.object "java/io/PrintStream"), accessFlags := 74, slot := 10, constantValue := 0 }, { name := "props", type := (.object "java/util/Properties"), accessFlags := 10, slot := 11, constantValue := 0 }, { name := "lineSeparator", type := (.object "java/lang/String"), accessFlags := 10, slot := 12, constantValue := 0 }, { name := "bootLayer", type := (.object "java/lang/ModuleLayer"), accessFlags := 8, slot := 13, constantValue := 0 }]
  methods := #[k17m0, k17m1]
  instanceTypes := #[]
  staticTypes := #[(.object "java/io/InputStream"), (.object "java/io/PrintStream"), (.object "java/io/PrintStream"), (.object "java/io/InputStream"), .int, .int, .int, (.object "java/lang/SecurityManager"), (.object "java/lang/String"), (.object "java/io/Console"), (.object "java/io/PrintStream"), (.object "java/util/Properties"), (.object "java/lang/String"), (.object "java/lang/ModuleLayer")]
  resolved := Array.replicate 834 none
  statics := none }

def pool18 : Array CpInfo := pool [(2, .class_ 4), (1, u "java/lang/Object"), (0, u "<init>"), (0, u "()V"), (7, .class_ 16), (1, u "java/util/Arrays"), (57, .class_ 76), (1, u "java/util/Arrays$NaturalOrder"), (36, .class_ 115), (1, u "java/util/Arrays$LegacyMergeSort"), (1, u "Z"), (32, .methodref 151 152), (0, .class_ 153), (0, .nameAndType 154 155), (0, u "java/lang/System"), (0, u "arraycopy"), (0, u "(Ljava/lang/Object;ILjava/lang/Object;II)V"), (146, u "copyOf"), (1, .methodref 305 306), (0, .class_ 307), (0, .nameAndType 308 309), (0, u "java/lang/Math"), (0, u "min"), (0, u "(II)I"), (65, .class_ 376), (0, u "java/util/Arrays$ArrayList"), (68, u "$assertionsDisabled"), (269, u "MIN_ARRAY_SORT_GRAN"), (0, u "I"), (2, u "INSERTIONSORT_THRESHOLD"), (151, u "([II)[I"), (103, .class_ 976), (0, u "java/util/Arrays$ArrayItr")] 52

def k18m0 : Method := { name := "<init>", desc := "()V", sig := { parameters := [], returnType := none }, accessFlags := 2, code := none }
def k18c1 : Code := { maxStack := 6, maxLocals := 3, code := jdk_65_method_123_code, exceptionTable := #[], attributes := #[] }
def k18m1 : Method := { name := "copyOf", desc := "([II)[I", sig := { parameters := [(.array .int), .int], returnType := some (.array .int) }, accessFlags := 9, code := some k18c1 }
/-- java/util/Arrays -/
def k18 : Class := { plain "java/util/Arrays" (some 0) with
  accessFlags := 49
  interfaces := #[]
  cf := some (fileOf pool18 14 #[.nestMembers #[975, 375, 113, 74]] #[{ accessFlags := 2, nameIndex := 5, descriptorIndex := 6, attributes := #[] }, { accessFlags := 9, nameIndex := 302, descriptorIndex := 871, attributes := #[] }] 49 2 #[] #[{ accessFlags := 26, nameIndex := 715, descriptorIndex := 716, attributes := #[] }, { accessFlags := 26, nameIndex := 719, descriptorIndex := 716, attributes := #[] }, { accessFlags := 4120, nameIndex := 445, descriptorIndex := 117, attributes := #[] }])
  fields := #[{ name := "MIN_ARRAY_SORT_GRAN", type := .int, accessFlags := 26, slot := 0, constantValue := 0 }, { name := "INSERTIONSORT_THRESHOLD", type := .int, accessFlags := 26, slot := 1, constantValue := 0 }, { name := "$assertionsDisabled", type := .boolean, accessFlags := 4120, slot := 2, constantValue := 0 }]
  methods := #[k18m0, k18m1]
  instanceTypes := #[]
  staticTypes := #[.int, .int, .boolean]
  resolved := Array.replicate 1029 none
  statics := none }

def pool19 : Array CpInfo := pool [(4, .class_ 6), (1, u "java/lang/Object"), (0, u "<init>"), (0, u "()V"), (5, .class_ 16), (1, u "java/lang/StringLatin1"), (104, u "$assertionsDisabled"), (0, u "Z"), (98, .class_ 223), (1, u "java/lang/StringLatin1$LinesSpliterator"), (166, .class_ 391), (0, u "java/lang/StringLatin1$CharsSpliterator")] 3

def k19m0 : Method := { name := "<init>", desc := "()V", sig := { parameters := [], returnType := none }, accessFlags := 0, code := none }
/-- java/lang/StringLatin1 -/
def k19 : Class := { plain "java/lang/StringLatin1" (some 0) with
  accessFlags := 48
  interfaces := #[]
  cf := some (fileOf pool19 14 #[.nestMembers #[390, 221]] #[{ accessFlags := 0, nameIndex := 7, descriptorIndex := 8, attributes := #[] }] 48 4 #[] #[{ accessFlags := 4120, nameIndex := 121, descriptorIndex := 122, attributes := #[] }])
  fields := #[{ name := "$assertionsDisabled", type := .boolean, accessFlags := 4120, slot := 0, constantValue := 0 }]
  methods := #[k19m0]
  instanceTypes := #[]
  staticTypes := #[.boolean]
  resolved := Array.replicate 395 none
  statics := none }

def pool20 : Array CpInfo := pool [(2, .class_ 4), (1, u "java/lang/Object"), (0, u "<init>"), (0, u "()V"), (17, .class_ 26), (1, u "jdk/internal/util/Preconditions"), (28, .class_ 56), (0, u "jdk/internal/util/Preconditions$4"), (57, .class_ 115), (0, u "jdk/internal/util/Preconditions$1"), (7, u "SIOOBE_FORMATTER"), (0, u "Ljava/util/function/BiFunction;"), (0, .class_ 126), (0, u "jdk/internal/util/Preconditions$2"), (3, u "AIOOBE_FORMATTER"), (0, .class_ 132), (0, u "jdk/internal/util/Preconditions$3"), (3, u "IOOBE_FORMATTER")] 57

def k20m0 : Method := { name := "<init>", desc := "()V", sig := { parameters := [], returnType := none }, accessFlags := 1, code := none }
/-- jdk/internal/util/Preconditions -/
def k20 : Class := { plain "jdk/internal/util/Preconditions" (some 0) with
  accessFlags := 33
  interfaces := #[]
  cf := some (fileOf pool20 24 #[.nestMembers #[55, 131, 125, 114]] #[{ accessFlags := 1, nameIndex := 5, descriptorIndex := 6, attributes := #[] }] 33 2 #[] #[{ accessFlags := 25, nameIndex := 123, descriptorIndex := 124, attributes := #[] }, { accessFlags := 25, nameIndex := 130, descriptorIndex := 124, attributes := #[] }, { accessFlags := 25, nameIndex := 136, descriptorIndex := 124, attributes := #[] }])
  fields := #[{ name := "SIOOBE_FORMATTER", type := (.object "java/util/function/BiFunction"), accessFlags := 25, slot := 0, constantValue := 0 }, { name := "AIOOBE_FORMATTER", type := (.object "java/util/function/BiFunction"), accessFlags := 25, slot := 1, constantValue := 0 }, { name := "IOOBE_FORMATTER", type := (.object "java/util/function/BiFunction"), accessFlags := 25, slot := 2, constantValue := 0 }]
  methods := #[k20m0]
  instanceTypes := #[]
  staticTypes := #[(.object "java/util/function/BiFunction"), (.object "java/util/function/BiFunction"), (.object "java/util/function/BiFunction")]
  resolved := Array.replicate 194 none
  statics := some 3 }

def pool21 : Array CpInfo := pool [(9, u "<init>"), (6, .class_ 18), (1, u "java/lang/Object"), (0, u "()V"), (1, .class_ 23), (1, u "jdk/internal/util/ArraysSupport"), (0, u "LOG2_ARRAY_LONG_INDEX_SCALE"), (0, u "I"), (2, u "U"), (0, u "Ljdk/internal/misc/Unsafe;"), (8, u "BIG_ENDIAN"), (0, u "Z"), (8, u "LOG2_BYTE_BIT_SIZE"), (4, u "LOG2_ARRAY_INT_INDEX_SCALE"), (54, u "JLA"), (0, u "Ljdk/internal/access/JavaLangAccess;"), (11, u "LOG2_ARRAY_BOOLEAN_INDEX_SCALE"), (9, u "LOG2_ARRAY_BYTE_INDEX_SCALE"), (5, u "LOG2_ARRAY_CHAR_INDEX_SCALE"), (5, u "LOG2_ARRAY_SHORT_INDEX_SCALE"), (18, u "LOG2_ARRAY_FLOAT_INDEX_SCALE"), (24, u "LOG2_ARRAY_DOUBLE_INDEX_SCALE"), (89, u "T_BOOLEAN"), (2, u "T_CHAR"), (1, u "T_FLOAT"), (1, u "T_DOUBLE"), (1, u "T_BYTE"), (1, u "T_SHORT"), (1, u "T_INT"), (1, u "T_LONG"), (1, u "SOFT_MAX_ARRAY_LENGTH")] 83

def k21m0 : Method := { name := "<init>", desc := "()V", sig := { parameters := [], returnType := none }, accessFlags := 2, code := none }
/-- jdk/internal/util/ArraysSupport -/
def k21 : Class := { plain "jdk/internal/util/ArraysSupport" (some 0) with
  accessFlags := 33
  interfaces := #[]
  cf := some (fileOf pool21 21 #[] #[{ accessFlags := 2, nameIndex := 9, descriptorIndex := 19, attributes := #[] }] 33 16 #[] #[{ accessFlags := 24, nameIndex := 28, descriptorIndex := 29, attributes := #[] }, { accessFlags := 26, nameIndex := 38, descriptorIndex := 39, attributes := #[] }, { accessFlags := 25, nameIndex := 121, descriptorIndex := 25, attributes := #[] }, { accessFlags := 25, nameIndex := 131, descriptorIndex := 25, attributes := #[] }, { accessFlags := 25, nameIndex := 137, descriptorIndex := 25, attributes := #[] }, { accessFlags := 25, nameIndex := 143, descriptorIndex := 25, attributes := #[] }, { accessFlags := 25, nameIndex := 53, descriptorIndex := 25, attributes := #[] }, { accessFlags := 25, nameIndex := 24, descriptorIndex := 25, attributes := #[] }, { accessFlags := 25, nameIndex := 162, descriptorIndex := 25, attributes := #[] }, { accessFlags := 25, nameIndex := 187, descriptorIndex := 25, attributes := #[] }, { accessFlags := 26, nameIndex := 48, descriptorIndex := 25, attributes := #[] }, { accessFlags := 25, nameIndex := 277, descriptorIndex := 25, attributes := #[] }, { accessFlags := 25, nameIndex := 280, descriptorIndex := 25, attributes := #[] }, { accessFlags := 25, nameIndex := 282, descriptorIndex := 25, attributes := #[] }, { accessFlags := 25, nameIndex := 284, descriptorIndex := 25, attributes := #[] }, { accessFlags := 25, nameIndex := 286, descriptorIndex := 25, attributes := #[] }, { accessFlags := 25, nameIndex := 288, descriptorIndex := 25, attributes := #[] }, { accessFlags := 25, nameIndex := 290, descriptorIndex := 25, attributes := #[] }, { accessFlags := 25, nameIndex := 292, descriptorIndex := 25, attributes := #[] }, { accessFlags := 26, nameIndex := 108, descriptorIndex := 109, attributes := #[] }, { accessFlags := 25, nameIndex := 294, descriptorIndex := 25, attributes := #[] }])
  fields := #[{ name := "U", type := (.object "jdk/internal/misc/Unsafe"), accessFlags := 24, slot := 0, constantValue := 0 }, { name := "BIG_ENDIAN", type := .boolean, accessFlags := 26, slot := 1, constantValue := 0 }, { name := "LOG2_ARRAY_BOOLEAN_INDEX_SCALE", type := .int, accessFlags := 25, slot := 2, constantValue := 0 }, { name := "LOG2_ARRAY_BYTE_INDEX_SCALE", type := .int, accessFlags := 25, slot := 3, constantValue := 0 }, { name := "LOG2_ARRAY_CHAR_INDEX_SCALE", type := .int, accessFlags := 25, slot := 4, constantValue := 0 }, { name := "LOG2_ARRAY_SHORT_INDEX_SCALE", type := .int, accessFlags := 25, slot := 5, constantValue := 0 }, { name := "LOG2_ARRAY_INT_INDEX_SCALE", type := .int, accessFlags := 25, slot := 6, constantValue := 0 }, { name := "LOG2_ARRAY_LONG_INDEX_SCALE", type := .int, accessFlags := 25, slot := 7, constantValue := 0 }, { name := "LOG2_ARRAY_FLOAT_INDEX_SCALE", type := .int, accessFlags := 25, slot := 8, constantValue := 0 }, { name := "LOG2_ARRAY_DOUBLE_INDEX_SCALE", type := .int, accessFlags := 25, slot := 9, constantValue := 0 }, { name := "LOG2_BYTE_BIT_SIZE", type := .int, accessFlags := 26, slot := 10, constantValue := 0 }, { name := "T_BOOLEAN", type := .int, accessFlags := 25, slot := 11, constantValue := 0 }, { name := "T_CHAR", type := .int, accessFlags := 25, slot := 12, constantValue := 0 }, { name := "T_FLOAT", type := .int, accessFlags := 25, slot := 13, constantValue := 0 }, { name := "T_DOUBLE", type := .int, accessFlags := 25, slot := 14, constantValue := 0 }, { name := "T_BYTE", type := .int, accessFlags := 25, slot := 15, constantValue := 0 }, { name := "T_SHORT", type := .int, accessFlags := 25, slot := 16, constantValue := 0 }, { name := "T_INT", type := .int, accessFlags := 25, slot := 17, constantValue := 0 }, { name := "T_LONG", type := .int, accessFlags := 25, slot := 18, constantValue := 0 }, { name := "JLA", type := (.object "jdk/internal/access/JavaLangAccess"), accessFlags := 26, slot := 19, constantValue := 0 }, { name := "SOFT_MAX_ARRAY_LENGTH", type := .int, accessFlags := 25, slot := 20, constantValue := 0 }]
  methods := #[k21m0]
  instanceTypes := #[]
  staticTypes := #[(.object "jdk/internal/misc/Unsafe"), .boolean, .int, .int, .int, .int, .int, .int, .int, .int, .int, .int, .int, .int, .int, .int, .int, .int, .int, (.object "jdk/internal/access/JavaLangAccess"), .int]
  resolved := Array.replicate 378 none
  statics := none }

/-- the primitive byte -/
def k22 : Class := { plain "byte" none with kind := .primitive 'B', accessFlags := 0x411 }
/-- [B -/
def k23 : Class := { plain "[B" (some 0) with kind := .array 22 .byte, interfaces := #[15, 3], accessFlags := 1041 }

/-- the primitive int -/
def k24 : Class := { plain "int" none with kind := .primitive 'I', accessFlags := 0x411 }
/-- [I -/
def k25 : Class := { plain "[I" (some 0) with kind := .array 24 .int, interfaces := #[15, 3], accessFlags := 1041 }

/-- the primitive long -/
def k26 : Class := { plain "long" none with kind := .primitive 'J', accessFlags := 0x411 }
/-- [J -/
def k27 : Class := { plain "[J" (some 0) with kind := .array 26 .long, interfaces := #[15, 3], accessFlags := 1041 }
/-- [[B -/
def k28 : Class := { plain "[[B" (some 0) with kind := .array 23 (.array .byte), interfaces := #[15, 3], accessFlags := 1041 }

def heap : Heap := #[{ cls := 8, slots := #[.long 0, .int 1, .null, .int 0, .null, .int 0, .int 0], vm := .statics 8 },
  { cls := 9, slots := #[.null, .null, .ref 4, .null, .null, .null], vm := .statics 9 },
  { cls := 13, slots := #[.ref 4, .null], vm := .statics 13 },
  { cls := 20, slots := #[.null, .null, .null], vm := .statics 20 },
  { cls := 13, slots := #[.null, .null, .null], vm := .none }]
def classes : Array Class := #[k0, k1, k2, k3, k4, k5, k6, k7, k8, k9, k10, k11, k12, k13, k14, k15, k16, k17, k18, k19, k20, k21, k22, k23, k24, k25, k26, k27, k28]
def interned : List (Array UInt16 × Addr) := []
def slotsUsed : Nat := 21
def theMethod : MethodId := ⟨1, 1⟩
def args0 : Array Value := #[.int 3, .int 2, .int 7, .int 9]
def aboutOver (below : List Frame) : State where
  vm := { classes := classes, interned := interned.toArray }
  heap := heap
  slotsUsed := slotsUsed
  threads := #[{ frames := .invoking theMethod args0 :: below }]
def below0 : List Frame := [.native { method := ⟨0, 0⟩, args := #[] }]
def about1 : State := aboutOver below0
def p0 : Program := .bare "" "" ""
def e0 : Env := launch0.env 0 0 0
theorem w_frames : about1.frames = Frame.invoking theMethod args0 :: below0 := rfl
set_option maxRecDepth 65536 in
theorem w_args : argsFit about1.vm theMethod args0 = true := by decide +kernel
set_option maxRecDepth 65536 in
theorem w_heap : heapFits about1 = true := by decide +kernel
set_option maxRecDepth 65536 in
theorem w_runnable : about1.curStatus? = some .runnable := by decide +kernel
set_option maxRecDepth 65536 in
theorem w_alone : about1.alone = true := by decide +kernel
set_option maxRecDepth 65536 in
theorem w_named : about1.methodNamed? x = some theMethod := by decide +kernel
set_option maxRecDepth 65536 in
theorem w_hears : about1.hears theMethod below0 = true := by decide +kernel
set_option maxRecDepth 65536 in
theorem w_ripe : about1.ripe theMethod args0 below0 = true := by decide +kernel
theorem w_running : about1.status = .running := rfl
set_option maxRecDepth 65536 in
theorem w_room : about1.hasRoom e0.platform room_1 = true :=
  launch0.hasRoom_least _ room_1 (by decide +kernel) (by decide +kernel) (by decide +kernel) (by decide +kernel) (by decide +kernel) (by decide +kernel)
theorem allAtoms_all (ts : List Jvm.Cond) (a : Array Jvm.Value) (st : Jvm.State) : (allAtoms ts).before a st = ts.all (fun c => c.before a st) := by
  induction ts with
  | nil => rfl
  | cons c t ih =>
    show (Jvm.Cond.and c (allAtoms t)).before a st = _
    rw [Jvm.Cond.before_and, ih, List.all_cons]
def words1 : List Jvm.Cond := Jvm.Cond.code x code maxLocals ret :: tables_1
/-- a 'code' word, met by the world's own term for the bytes: nothing is compared byte by byte -/
theorem code_word {y : MethodName} {bytes : ByteArray} {mx : Nat} {rt : Option FieldType} {a : Array Value} {s : State} {m : MethodId} {meth : Method} {c : Code} (h1 : s.methodNamed? y = some m) (h2 : s.vm.method? m = some meth) (h3 : meth.code = some c) (h4 : c.code = bytes)
    (h5 : (c.maxLocals == mx && c.exceptionTable.isEmpty && decide (c.maxStack ≤ mostOperands) && decide (meth.sig.returnType = rt) && !meth.locks && decide (parseMethodDescriptor y.desc = some meth.sig)) = true) : (Jvm.Cond.code y bytes mx rt).before a s = true := by
  simp only [Bool.and_eq_true, beq_iff_eq, Bool.not_eq_true', decide_eq_true_eq] at h5
  obtain ⟨⟨⟨⟨⟨g1, g2⟩, g3⟩, g4⟩, g5⟩, g6⟩ := h5
  simp [Cond.before, Cond.holds, Cond.value, h1, h2, h3, h4, g1, g2, g3, g4, g5, g6]
def isCode : Jvm.Cond → Bool
  | .code _ _ _ _ => true
  | _ => false
theorem all_split {L : List Jvm.Cond} {P : Jvm.Cond → Bool} (h1 : L.all (fun c => isCode c || P c) = true) (h2 : ∀ c ∈ L.filter isCode, P c = true) : L.all P = true := by
  refine List.all_eq_true.mpr fun c hc => ?_
  have h := List.all_eq_true.mp h1 c hc
  rcases Bool.eq_false_or_eq_true (isCode c) with hi | hi
  · exact h2 c (List.mem_filter.mpr ⟨hc, hi⟩)
  · simpa [hi] using h
set_option maxRecDepth 65536 in
theorem w_c0 : (Jvm.Cond.code x code maxLocals ret).before args0 about1 = true := code_word (m := ⟨1, 1⟩) (meth := k1m1) (c := k1c1) (by decide +kernel) rfl rfl rfl (by decide +kernel)
set_option maxRecDepth 65536 in
theorem w_c1 : (Jvm.Cond.code ({ cls := "com/example/munim/munim/csv/TextKeys", name := "<init>", desc := "()V" } : Jvm.MethodName) prog_57_method_1_code (1 : Nat) (Option.none : Option Jvm.ClassFile.FieldType)).before args0 about1 = true := code_word (m := ⟨2, 0⟩) (meth := k2m0) (c := k2c0) (by decide +kernel) rfl rfl rfl (by decide +kernel)
set_option maxRecDepth 65536 in
theorem w_c2 : (Jvm.Cond.code ({ cls := "java/lang/Object", name := "<init>", desc := "()V" } : Jvm.MethodName) object_method_1_code (1 : Nat) (Option.none : Option Jvm.ClassFile.FieldType)).before args0 about1 = true := code_word (m := ⟨0, 0⟩) (meth := k0m0) (c := k0c0) (by decide +kernel) rfl rfl rfl (by decide +kernel)
set_option maxRecDepth 65536 in
theorem w_c3 : (Jvm.Cond.code ({ cls := "com/example/munim/munim/csv/TextKeysFitPinLaw", name := "v", desc := "(III)I" } : Jvm.MethodName) method_3_code (3 : Nat) (Option.some Jvm.ClassFile.FieldType.int)).before args0 about1 = true := code_word (m := ⟨1, 2⟩) (meth := k1m2) (c := k1c2) (by decide +kernel) rfl rfl rfl (by decide +kernel)
set_option maxRecDepth 65536 in
theorem w_c4 : (Jvm.Cond.code ({ cls := "com/example/munim/munim/csv/TextKeys", name := "fit", desc := "([I)[I" } : Jvm.MethodName) prog_57_method_3_code (2 : Nat) (Option.some (Jvm.ClassFile.FieldType.array Jvm.ClassFile.FieldType.int))).before args0 about1 = true := code_word (m := ⟨2, 1⟩) (meth := k2m1) (c := k2c1) (by decide +kernel) rfl rfl rfl (by decide +kernel)
set_option maxRecDepth 65536 in
theorem w_c5 : (Jvm.Cond.code ({ cls := "com/example/munim/munim/csv/TextKeysFitPinLaw", name := "same", desc := "([IIII)Z" } : Jvm.MethodName) method_5_code (4 : Nat) (Option.some Jvm.ClassFile.FieldType.boolean)).before args0 about1 = true := code_word (m := ⟨1, 4⟩) (meth := k1m4) (c := k1c4) (by decide +kernel) rfl rfl rfl (by decide +kernel)
set_option maxRecDepth 65536 in
theorem w_c6 : (Jvm.Cond.code ({ cls := "com/example/munim/munim/csv/TextKeysFitPinLaw", name := "cell", desc := "([IIIII)Z" } : Jvm.MethodName) method_4_code (5 : Nat) (Option.some Jvm.ClassFile.FieldType.boolean)).before args0 about1 = true := code_word (m := ⟨1, 3⟩) (meth := k1m3) (c := k1c3) (by decide +kernel) rfl rfl rfl (by decide +kernel)
set_option maxRecDepth 65536 in
theorem w_c7 : (Jvm.Cond.code ({ cls := "com/example/munim/munim/csv/TextKeys", name := "add", desc := "(Ljava/lang/String;)Z" } : Jvm.MethodName) prog_57_method_6_code (5 : Nat) (Option.some Jvm.ClassFile.FieldType.boolean)).before args0 about1 = true := code_word (m := ⟨2, 3⟩) (meth := k2m3) (c := k2c3) (by decide +kernel) rfl rfl rfl (by decide +kernel)
set_option maxRecDepth 65536 in
theorem w_c8 : (Jvm.Cond.code ({ cls := "java/lang/String", name := "getBytes", desc := "(Ljava/nio/charset/Charset;)[B" } : Jvm.MethodName) jdk_42_method_64_code (2 : Nat) (Option.some (Jvm.ClassFile.FieldType.array Jvm.ClassFile.FieldType.byte))).before args0 about1 = true := code_word (m := ⟨8, 3⟩) (meth := k8m3) (c := k8c3) (by decide +kernel) rfl rfl rfl (by decide +kernel)
set_option maxRecDepth 65536 in
theorem w_c9 : (Jvm.Cond.code ({ cls := "java/lang/String", name := "coder", desc := "()B" } : Jvm.MethodName) jdk_42_method_152_code (1 : Nat) (Option.some Jvm.ClassFile.FieldType.byte)).before args0 about1 = true := code_word (m := ⟨8, 4⟩) (meth := k8m4) (c := k8c4) (by decide +kernel) rfl rfl rfl (by decide +kernel)
set_option maxRecDepth 65536 in
theorem w_c10 : (Jvm.Cond.code ({ cls := "java/lang/String", name := "encode", desc := "(Ljava/nio/charset/Charset;B[B)[B" } : Jvm.MethodName) jdk_42_method_18_code (3 : Nat) (Option.some (Jvm.ClassFile.FieldType.array Jvm.ClassFile.FieldType.byte))).before args0 about1 = true := code_word (m := ⟨8, 1⟩) (meth := k8m1) (c := k8c1) (by decide +kernel) rfl rfl rfl (by decide +kernel)
set_option maxRecDepth 65536 in
theorem w_c11 : (Jvm.Cond.code ({ cls := "java/lang/String", name := "encodeUTF8", desc := "(B[BZ)[B" } : Jvm.MethodName) jdk_42_method_46_code (9 : Nat) (Option.some (Jvm.ClassFile.FieldType.array Jvm.ClassFile.FieldType.byte))).before args0 about1 = true := code_word (m := ⟨8, 2⟩) (meth := k8m2) (c := k8c2) (by decide +kernel) rfl rfl rfl (by decide +kernel)
set_option maxRecDepth 65536 in
theorem w_c12 : (Jvm.Cond.code ({ cls := "java/lang/StringCoding", name := "hasNegatives", desc := "([BII)Z" } : Jvm.MethodName) jdk_123_method_2_code (3 : Nat) (Option.some Jvm.ClassFile.FieldType.boolean)).before args0 about1 = true := code_word (m := ⟨14, 1⟩) (meth := k14m1) (c := k14c1) (by decide +kernel) rfl rfl rfl (by decide +kernel)
set_option maxRecDepth 65536 in
theorem w_c13 : (Jvm.Cond.code ({ cls := "java/lang/StringCoding", name := "countPositives", desc := "([BII)I" } : Jvm.MethodName) jdk_123_method_3_code (5 : Nat) (Option.some Jvm.ClassFile.FieldType.int)).before args0 about1 = true := code_word (m := ⟨14, 2⟩) (meth := k14m2) (c := k14c2) (by decide +kernel) rfl rfl rfl (by decide +kernel)
set_option maxRecDepth 65536 in
theorem w_c14 : (Jvm.Cond.code ({ cls := "com/example/munim/munim/csv/TextKeys", name := "hash", desc := "([B)I" } : Jvm.MethodName) prog_57_method_12_code (7 : Nat) (Option.some Jvm.ClassFile.FieldType.int)).before args0 about1 = true := code_word (m := ⟨2, 6⟩) (meth := k2m6) (c := k2c6) (by decide +kernel) rfl rfl rfl (by decide +kernel)
set_option maxRecDepth 65536 in
theorem w_c15 : (Jvm.Cond.code ({ cls := "com/example/munim/munim/csv/TextKeys", name := "find", desc := "([BI)I" } : Jvm.MethodName) prog_57_method_8_code (7 : Nat) (Option.some Jvm.ClassFile.FieldType.int)).before args0 about1 = true := code_word (m := ⟨2, 4⟩) (meth := k2m4) (c := k2c4) (by decide +kernel) rfl rfl rfl (by decide +kernel)
set_option maxRecDepth 65536 in
theorem w_c16 : (Jvm.Cond.code ({ cls := "com/example/munim/munim/csv/TextKeys", name := "store", desc := "([B)V" } : Jvm.MethodName) prog_57_method_10_code (6 : Nat) (Option.none : Option Jvm.ClassFile.FieldType)).before args0 about1 = true := code_word (m := ⟨2, 5⟩) (meth := k2m5) (c := k2c5) (by decide +kernel) rfl rfl rfl (by decide +kernel)
set_option maxRecDepth 65536 in
theorem w_c17 : (Jvm.Cond.code ({ cls := "java/lang/Math", name := "min", desc := "(II)I" } : Jvm.MethodName) jdk_29_method_69_code (2 : Nat) (Option.some Jvm.ClassFile.FieldType.int)).before args0 about1 = true := code_word (m := ⟨16, 2⟩) (meth := k16m2) (c := k16c2) (by decide +kernel) rfl rfl rfl (by decide +kernel)
set_option maxRecDepth 65536 in
theorem w_c18 : (Jvm.Cond.code ({ cls := "com/example/munim/munim/csv/TextKeys", name := "room", desc := "(I)I" } : Jvm.MethodName) prog_57_method_5_code (2 : Nat) (Option.some Jvm.ClassFile.FieldType.int)).before args0 about1 = true := code_word (m := ⟨2, 2⟩) (meth := k2m2) (c := k2c2) (by decide +kernel) rfl rfl rfl (by decide +kernel)
set_option maxRecDepth 65536 in
theorem w_c19 : (Jvm.Cond.code ({ cls := "java/lang/Math", name := "max", desc := "(II)I" } : Jvm.MethodName) jdk_29_method_65_code (2 : Nat) (Option.some Jvm.ClassFile.FieldType.int)).before args0 about1 = true := code_word (m := ⟨16, 1⟩) (meth := k16m1) (c := k16c1) (by decide +kernel) rfl rfl rfl (by decide +kernel)
set_option maxRecDepth 65536 in
theorem w_c20 : (Jvm.Cond.code ({ cls := "java/util/Arrays", name := "copyOf", desc := "([II)[I" } : Jvm.MethodName) jdk_65_method_123_code (3 : Nat) (Option.some (Jvm.ClassFile.FieldType.array Jvm.ClassFile.FieldType.int))).before args0 about1 = true := code_word (m := ⟨18, 1⟩) (meth := k18m1) (c := k18c1) (by decide +kernel) rfl rfl rfl (by decide +kernel)
def codes1 : List Jvm.Cond := [Jvm.Cond.code x code maxLocals ret, Jvm.Cond.code ({ cls := "com/example/munim/munim/csv/TextKeys", name := "<init>", desc := "()V" } : Jvm.MethodName) prog_57_method_1_code (1 : Nat) (Option.none : Option Jvm.ClassFile.FieldType), Jvm.Cond.code ({ cls := "java/lang/Object", name := "<init>", desc := "()V" } : Jvm.MethodName) object_method_1_code (1 : Nat) (Option.none : Option Jvm.ClassFile.FieldType), Jvm.Cond.code ({ cls := "com/example/munim/munim/csv/TextKeysFitPinLaw", name := "v", desc := "(III)I" } : Jvm.MethodName) method_3_code (3 : Nat) (Option.some Jvm.ClassFile.FieldType.int), Jvm.Cond.code ({ cls := "com/example/munim/munim/csv/TextKeys", name := "fit", desc := "([I)[I" } : Jvm.MethodName) prog_57_method_3_code (2 : Nat) (Option.some (Jvm.ClassFile.FieldType.array Jvm.ClassFile.FieldType.int)), Jvm.Cond.code ({ cls := "com/example/munim/munim/csv/TextKeysFitPinLaw", name := "same", desc := "([IIII)Z" } : Jvm.MethodName) method_5_code (4 : Nat) (Option.some Jvm.ClassFile.FieldType.boolean), Jvm.Cond.code ({ cls := "com/example/munim/munim/csv/TextKeysFitPinLaw", name := "cell", desc := "([IIIII)Z" } : Jvm.MethodName) method_4_code (5 : Nat) (Option.some Jvm.ClassFile.FieldType.boolean), Jvm.Cond.code ({ cls := "com/example/munim/munim/csv/TextKeys", name := "add", desc := "(Ljava/lang/String;)Z" } : Jvm.MethodName) prog_57_method_6_code (5 : Nat) (Option.some Jvm.ClassFile.FieldType.boolean), Jvm.Cond.code ({ cls := "java/lang/String", name := "getBytes", desc := "(Ljava/nio/charset/Charset;)[B" } : Jvm.MethodName) jdk_42_method_64_code (2 : Nat) (Option.some (Jvm.ClassFile.FieldType.array Jvm.ClassFile.FieldType.byte)), Jvm.Cond.code ({ cls := "java/lang/String", name := "coder", desc := "()B" } : Jvm.MethodName) jdk_42_method_152_code (1 : Nat) (Option.some Jvm.ClassFile.FieldType.byte), Jvm.Cond.code ({ cls := "java/lang/String", name := "encode", desc := "(Ljava/nio/charset/Charset;B[B)[B" } : Jvm.MethodName) jdk_42_method_18_code (3 : Nat) (Option.some (Jvm.ClassFile.FieldType.array Jvm.ClassFile.FieldType.byte)), Jvm.Cond.code ({ cls := "java/lang/String", name := "encodeUTF8", desc := "(B[BZ)[B" } : Jvm.MethodName) jdk_42_method_46_code (9 : Nat) (Option.some (Jvm.ClassFile.FieldType.array Jvm.ClassFile.FieldType.byte)), Jvm.Cond.code ({ cls := "java/lang/StringCoding", name := "hasNegatives", desc := "([BII)Z" } : Jvm.MethodName) jdk_123_method_2_code (3 : Nat) (Option.some Jvm.ClassFile.FieldType.boolean), Jvm.Cond.code ({ cls := "java/lang/StringCoding", name := "countPositives", desc := "([BII)I" } : Jvm.MethodName) jdk_123_method_3_code (5 : Nat) (Option.some Jvm.ClassFile.FieldType.int), Jvm.Cond.code ({ cls := "com/example/munim/munim/csv/TextKeys", name := "hash", desc := "([B)I" } : Jvm.MethodName) prog_57_method_12_code (7 : Nat) (Option.some Jvm.ClassFile.FieldType.int), Jvm.Cond.code ({ cls := "com/example/munim/munim/csv/TextKeys", name := "find", desc := "([BI)I" } : Jvm.MethodName) prog_57_method_8_code (7 : Nat) (Option.some Jvm.ClassFile.FieldType.int), Jvm.Cond.code ({ cls := "com/example/munim/munim/csv/TextKeys", name := "store", desc := "([B)V" } : Jvm.MethodName) prog_57_method_10_code (6 : Nat) (Option.none : Option Jvm.ClassFile.FieldType), Jvm.Cond.code ({ cls := "java/lang/Math", name := "min", desc := "(II)I" } : Jvm.MethodName) jdk_29_method_69_code (2 : Nat) (Option.some Jvm.ClassFile.FieldType.int), Jvm.Cond.code ({ cls := "com/example/munim/munim/csv/TextKeys", name := "room", desc := "(I)I" } : Jvm.MethodName) prog_57_method_5_code (2 : Nat) (Option.some Jvm.ClassFile.FieldType.int), Jvm.Cond.code ({ cls := "java/lang/Math", name := "max", desc := "(II)I" } : Jvm.MethodName) jdk_29_method_65_code (2 : Nat) (Option.some Jvm.ClassFile.FieldType.int), Jvm.Cond.code ({ cls := "java/util/Arrays", name := "copyOf", desc := "([II)[I" } : Jvm.MethodName) jdk_65_method_123_code (3 : Nat) (Option.some (Jvm.ClassFile.FieldType.array Jvm.ClassFile.FieldType.int))]
set_option maxRecDepth 65536 in
theorem codes_eq : words1.filter isCode = codes1 := rfl
theorem w_codes : ∀ c ∈ words1.filter isCode, c.before args0 about1 = true := by
  rw [codes_eq]
  intro c hc
  simp only [codes1, List.mem_cons, List.not_mem_nil, or_false] at hc
  rcases hc with rfl | rfl | rfl | rfl | rfl | rfl | rfl | rfl | rfl | rfl | rfl | rfl | rfl | rfl | rfl | rfl | rfl | rfl | rfl | rfl | rfl
  · exact w_c0
  · exact w_c1
  · exact w_c2
  · exact w_c3
  · exact w_c4
  · exact w_c5
  · exact w_c6
  · exact w_c7
  · exact w_c8
  · exact w_c9
  · exact w_c10
  · exact w_c11
  · exact w_c12
  · exact w_c13
  · exact w_c14
  · exact w_c15
  · exact w_c16
  · exact w_c17
  · exact w_c18
  · exact w_c19
  · exact w_c20
set_option maxRecDepth 65536 in
theorem w_t1 : (words1.take 24).all (fun c => isCode c || c.before args0 about1) = true := by decide +kernel
set_option maxRecDepth 65536 in
theorem w_t2 : ((words1.drop 24).take 24).all (fun c => isCode c || c.before args0 about1) = true := by decide +kernel
set_option maxRecDepth 65536 in
theorem w_t3 : (((words1.drop 24).drop 24).take 24).all (fun c => isCode c || c.before args0 about1) = true := by decide +kernel
set_option maxRecDepth 65536 in
theorem w_t4 : ((((words1.drop 24).drop 24).drop 24).take 24).all (fun c => isCode c || c.before args0 about1) = true := by decide +kernel
set_option maxRecDepth 65536 in
theorem w_t5 : (((((words1.drop 24).drop 24).drop 24).drop 24).take 24).all (fun c => isCode c || c.before args0 about1) = true := by decide +kernel
set_option maxRecDepth 65536 in
theorem w_t6 : (((((words1.drop 24).drop 24).drop 24).drop 24).drop 24).all (fun c => isCode c || c.before args0 about1) = true := by decide +kernel
theorem w_tables : (allAtoms (Jvm.Cond.code x code maxLocals ret :: tables_1)).before args0 about1 = true := by
  rw [allAtoms_all]
  show words1.all (fun c => c.before args0 about1) = true
  refine all_split ?_ w_codes
  rw [← List.take_append_drop 24 words1, List.all_append, w_t1, ← List.take_append_drop 24 (words1.drop 24), List.all_append, w_t2, ← List.take_append_drop 24 ((words1.drop 24).drop 24), List.all_append, w_t3, ← List.take_append_drop 24 (((words1.drop 24).drop 24).drop 24), List.all_append, w_t4, ← List.take_append_drop 24 ((((words1.drop 24).drop 24).drop 24).drop 24), List.all_append, w_t5, w_t6]
  rfl
set_option maxRecDepth 65536 in
theorem w_rest : rest_1_c.before args0 about1 = true := by decide +kernel
set_option maxRecDepth 65536 in
theorem w_case : (Jvm.Cond.and given_1 narrow_1).before args0 about1 = true := by decide +kernel
set_option maxRecDepth 65536 in
theorem w_consts : constsHeld consts_1 about1 := Jvm.Lit.constsHeldB_iff.mp (by decide +kernel)
theorem w_applies : (headSpec (Jvm.Cond.code x code maxLocals ret :: tables_1) room_1).applies x e0.platform about1 = true :=
  (Spec.applies_iff w_frames).mpr ⟨w_running, w_runnable, w_alone, w_named, w_hears, w_ripe, w_room, w_tables⟩
theorem atStart : AtStart classFile x code maxLocals ret World_1 tables_1 room_1 Calls_1 rest_1 Pre_1 launch0 p0 e0 about1 theMethod args0 below0 :=
  ⟨lists_1, trivial, launch0.admits_env _ _ _, launch0.least_env, fairChoices_fair.cas, fairChoices_fair.clock, w_frames, w_args, w_heap, w_applies, ⟨w_consts, trivial⟩, w_rest, w_case⟩
end start1
theorem witness_1 : WitnessClaimed_1 := ⟨start1.p0, start1.e0, start1.about1, start1.theMethod, start1.args0, start1.below0, start1.atStart⟩
end Jvm.Pilot.@@N@@
