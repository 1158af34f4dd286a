import JvmDerived
import JvmDerived.Pilot.@@N@@Statement
import JvmDerived.Pilot.@@N@@Code
set_option linter.unusedVariables false
set_option linter.unusedSimpArgs false
namespace Jvm.RoadKit
open Sem ClassFile Op Lib Jvm.Stand Jvm.Free Jvm.LawKit
section New
variable {p : Program} {l : Launch} {e : Env} {R : Room} {s : State} {m : MethodId} {args : Array Value} {below : List Frame} {meth : Method} {c : Code} {T : State} {locs : List Loc} {cells slots : Nat}
theorem retI (X : Stand p l e R s m args below meth c T locs cells slots) (hx : p.tables.exec = Jvm.exec) {pc : Nat} {Ls : Array Slot} {z : Int32} {rest : List Value} (hret : meth.sig.returnType = some .int) (hd : decode c.code pc = .ok (.ireturn, 1)) {fs : List Frame}
    (hl : ∀ (f : JFrame) (acts : List Action), f.method = m → f.locked = none → f.entered = [] → (doReturn e (T.setTop f) acts (some (.int z))).1 = T.setFrames fs) : Steps p.tables e below (T.setTop (mkF m pc Ls (.int z :: rest))) (T.setFrames fs) := by
  have hm' : T.vm.method? m = some meth := X.method'
  have hn : narrow .int (.int z) = .int z := rfl
  show Steps p.tables e below (T.setTop { method := m, pc := pc, locals := Ls, stack := _ :: rest, locked := none }) _
  jvm_step X.here [X.here.top, hx, hd, hm', hret, hn]
  first | (intro acts; rw [hl _ acts rfl rfl rfl]) | rw [hl _ _ rfl rfl rfl]
  exact Steps.refl _
end New
end Jvm.RoadKit
namespace Jvm.Pilot.@@N@@
open Jvm Jvm.ClassFile Sem Op Lib Jvm.Free Jvm.Stand Jvm.LawKit Jvm.RoadKit Bundle Jvm.Pilot.@@N@@.Jvm.D
abbrev Sp (p : Program) (e : Env) (b : List Frame) (T : State) (f : JFrame) (t : State) : Prop := Steps p.tables e b (T.setTop f) t
theorem own_fld {args : Array Value} {Z : State} {t : Term} {C n d : String} {k : Int32} {x : Addr} (ev : t.eval args Z none [] Z = some (.ref x)) (h : (Jvm.Cond.eq (.field t C n d) (.int k)).value args Z none Z [] = some true) : Fld Z Z.heap x C n d (.int k) := by
  refine Fld.start ?_
  have h1 := fld_at (C := C) (n := n) (dd := d) ev
  obtain ⟨u, w, e1, e2, -, -⟩ := cmp_v (Or.inl h)
  have e3 : w = .int k := (Option.some.inj (e2.symm.trans (Term.int_eval k)))
  subst e3
  rw [← h1, e1]
  simp only [Jvm.Cond.value, e1, e2] at h
  cases u <;> simp_all
theorem own_sta_keep0 {Z : State} {h h' : Heap} {C n d : String} {v : Value} (F : Sta Z h C n d v) (K : Keep h h' []) : Sta Z h' C n d v := by
  obtain ⟨cf, i, k, f, st, cell, h1, h2, h3, h4, h5, r⟩ := F
  exact ⟨cf, i, k, f, st, cell, h1, h2, h3, h4, K.2.1 _ _ h5 nin0, r⟩
theorem d1_0 : decode prog_59_method_4_code 0 = .ok (.iload_n 0, 1) := by decide +kernel
theorem d1_1 : decode prog_59_method_4_code 1 = .ok (.ifCond .eq 9, 3) := by decide +kernel
theorem d1_4 : decode prog_59_method_4_code 4 = .ok (.getstatic 7, 3) := by decide +kernel
theorem d1_7 : decode prog_59_method_4_code 7 = .ok (.goto 6, 3) := by decide +kernel
theorem d1_10 : decode prog_59_method_4_code 10 = .ok (.getstatic 3, 3) := by decide +kernel
theorem d1_13 : decode prog_59_method_4_code 13 = .ok (.areturn, 1) := by decide +kernel
theorem pn_0 : plainName "com/example/lassoo/lassoo/lang/Truth" = true := by first | (simp [plainName, overriddenIn]; done) | decide +kernel
theorem ef_1_I (m : MethodId) (x0 : Int32) : entryFrame m #[(.int x0)] 1 = mkF m 0 #[.val (.int x0)] [] := by first | (simp [entryFrame, mkF, argsToLocals, Value.category]; done) | rfl
def Q_of (Z : State) (p1 : Int32) (wT : Addr) (wF : Addr) (r : Addr) (h0 : Heap) (n0 : Nat) (v : Option Value) (h : Heap) (L : List Loc) : Prop := v = some (.ref r) ∧ Fr n0 L ∧ h = h0
set_option maxRecDepth 65536 in
set_option maxHeartbeats 40000000 in
theorem rm_of (l : Launch) (Z : State) (a0 : Array Value) (hw : ∀ d ∈ tables_1, d.before a0 Z = true) (ws : List Jvm.Cond) (p1 : Int32) (wT : Addr) (wF : Addr) (r : Addr) (h0 : Heap) (n0 : Nat) (Z0 : n0 ≤ h0.size) (S_TRUE : Sta Z h0 "com/example/lassoo/lassoo/lang/Truth" "TRUE" "Lcom/example/lassoo/lassoo/lang/Truth;" (.ref wT)) (S_FALSE : Sta Z h0 "com/example/lassoo/lassoo/lang/Truth" "FALSE" "Lcom/example/lassoo/lassoo/lang/Truth;" (.ref wF)) (hres : r = if p1 = 0 then wF else wT) :
    MetFree l (⟨"com/example/lassoo/lassoo/lang/Truth", "of", "(Z)Lcom/example/lassoo/lassoo/lang/Truth;"⟩ : MethodName) (head1 (Jvm.Cond.code (⟨"com/example/lassoo/lassoo/lang/Truth", "of", "(Z)Lcom/example/lassoo/lassoo/lang/Truth;"⟩ : MethodName) prog_59_method_4_code 1 (some (.object "com/example/lassoo/lassoo/lang/Truth")) :: ws) ({ frames := 0, cells := 0, slots := 0, locals := 0 } : Room)) (fun a U => a = #[(.int p1)] ∧ Z.Warmed39 U.vm ∧ U.heap = h0) (fun _ _ _ _ _ => True) (fun _ U o U' => ∃ v L, o = .returned v ∧ Q_of Z p1 wT wF r h0 n0 v U'.heap L ∧ FrameEnd U o U' L ({ frames := 0, cells := 0, slots := 0, locals := 0 } : Room).cells ({ frames := 0, cells := 0, slots := 0, locals := 0 } : Room).slots) := by
  refine MetFree.of_bodySF (plainFor_of_name pn_0) hisR ?_
  intro p e s m args below meth c s₁ Bd hml0 hP hK
  obtain ⟨rfl, hZ, hh⟩ := hP
  have hx := Bd.exec
  have hby := Bd.bytes
  have hml : c.maxLocals = 1 := hml0
  have hown : s.vm.findClass "com/example/lassoo/lassoo/lang/Truth" = some m.cls := findClass_of_methodNamed Bd.named
  have hnm := (name_of_methodNamed Bd.named Bd.method).1
  have hret := Bd.returns
  have X0 : Stand p l e ({ frames := 0, cells := 0, slots := 0, locals := 0 } : Room) s m #[(.int p1)] below meth c s₁ [] 0 0 := Stand.of_body Bd
  have e0 : s₁.heap = h0 := by rw [← hh, Bd.state]; rfl
  have N0 := Fr.nil n0
  have pre0 : ∀ t, Sp p e below s₁ (mkF m 0 #[.val (.int p1)] []) t → Sp p e below s₁ (entryFrame m #[(.int p1)] 1) t := fun t k => castTop (ef_1_I m p1) k
  have r1 : ∀ t, Sp p e below s₁ (mkF m 1 #[.val (.int p1)] [(.int p1)]) t → Sp p e below s₁ (entryFrame m #[(.int p1)] 1) t := by
    intro t k
    refine pre0 _ ?_
    refine XS.iloadN X0.here hx rfl (hb hby d1_0) rfl ?_
    show Sp p e below s₁ (mkF m 1 #[.val (.int p1)] [(.int p1)]) _
    exact k
  by_cases c2 : p1 = (0 : Int32)
  · obtain ⟨Tg3, Xg3, eg3, stg3⟩ := getS2 X0 hx hZ hown (host := "") (Or.inl (hw _ (List.mem_of_getElem? (i := 4) rfl))) Via.refl e0 S_FALSE (g := (mkF m 10 #[.val (.int p1)] [])) rfl (hb hby d1_10)
    obtain ⟨fs, hlv, hrun, hended, hW, hsame⟩ := Xg3.leave (v := some (.ref wF)) (fun h => by rw [hret] at h; cases h)
    refine ⟨_, _, r1 _ ?_, hrun, hended, _, _, rfl, ?_, ⟨_, rfl⟩, hW, hsame.mono (by decide) (by decide)⟩
    · refine XS.ifYes X0.here hx rfl (pc0 := 1) (pc' := 10) rfl (hb hby d1_1) rfl ((if0 _ _).trans (teq c2).1) (by decide) (by decide) ?_
      show Sp p e below s₁ (mkF m 10 #[.val (.int p1)] []) _
      refine stg3 _ ?_
      show Sp p e below Tg3 (mkF m 13 #[.val (.int p1)] [(.ref wF)]) _
      jvm_step Xg3.here [Xg3.here.top, hx, (hb hby d1_13), Xg3.method', hret, Value.isRef, FieldType.isReference]
      first | (intro acts; rw [hlv _ acts rfl rfl rfl]) | rw [hlv _ _ rfl rfl rfl]
      exact Steps.refl _
    · show Q_of Z p1 wT wF r h0 n0 _ Tg3.heap _
      rw [eg3]
      exact ⟨by rw [hres]; simp [c2], N0, rfl⟩
  · obtain ⟨Tg4, Xg4, eg4, stg4⟩ := getS2 X0 hx hZ hown (host := "") (Or.inl (hw _ (List.mem_of_getElem? (i := 6) rfl))) Via.refl e0 S_TRUE (g := (mkF m 4 #[.val (.int p1)] [])) rfl (hb hby d1_4)
    obtain ⟨fs, hlv, hrun, hended, hW, hsame⟩ := Xg4.leave (v := some (.ref wT)) (fun h => by rw [hret] at h; cases h)
    refine ⟨_, _, r1 _ ?_, hrun, hended, _, _, rfl, ?_, ⟨_, rfl⟩, hW, hsame.mono (by decide) (by decide)⟩
    · refine XS.ifNo X0.here hx rfl (hb hby d1_1) rfl ((if0 _ _).trans (feq c2).1) ?_
      show Sp p e below s₁ (mkF m 4 #[.val (.int p1)] []) _
      refine stg4 _ ?_
      show Sp p e below Tg4 (mkF m 7 #[.val (.int p1)] [(.ref wT)]) _
      refine XS.goto Xg4.here hx rfl (pc0 := 7) (pc' := 13) rfl (hb hby d1_7) (by decide) (by decide) ?_
      show Sp p e below Tg4 (mkF m 13 #[.val (.int p1)] [(.ref wT)]) _
      jvm_step Xg4.here [Xg4.here.top, hx, (hb hby d1_13), Xg4.method', hret, Value.isRef, FieldType.isReference]
      first | (intro acts; rw [hlv _ acts rfl rfl rfl]) | rw [hlv _ _ rfl rfl rfl]
      exact Steps.refl _
    · show Q_of Z p1 wT wF r h0 n0 _ Tg4.heap _
      rw [eg4]
      exact ⟨by rw [hres]; simp [c2], N0, rfl⟩
theorem pn_1 : plainName "com/example/lassoo/lassoo/lang/TruthOfPinLaw" = true := by first | (simp [plainName, overriddenIn]; done) | decide +kernel
theorem ef_0_I (m : MethodId) (x0 : Int32) : entryFrame m #[(.int x0)] maxLocals = mkF m 0 #[.val (.int x0), .unset, .unset, .unset] [] := by first | (simp [entryFrame, mkF, argsToLocals, Value.category, maxLocals]; done) | rfl
theorem pd__Z_Lcom_example_lassoo_lassoo_lang_Truth_ : parseMethodDescriptor "(Z)Lcom/example/lassoo/lassoo/lang/Truth;" = some ⟨[.boolean], some (.object "com/example/lassoo/lassoo/lang/Truth")⟩ := by decide +kernel
def Q_law (Z : State) (p1 : Int32) (wT : Addr) (wF : Addr) (wE : Addr) (h0 : Heap) (n0 : Nat) (v : Option Value) (h : Heap) (L : List Loc) : Prop := v = some (.int 1) ∧ Fr n0 L
set_option maxRecDepth 65536 in
set_option maxHeartbeats 40000000 in
theorem rm_law (l : Launch) (Z : State) (a0 : Array Value) (hw : ∀ d ∈ tables_1, d.before a0 Z = true) (ws : List Jvm.Cond) (p1 : Int32) (wT : Addr) (wF : Addr) (wE : Addr) (h0 : Heap) (n0 : Nat) (Z0 : n0 ≤ h0.size) (S_TRUE : Sta Z h0 "com/example/lassoo/lassoo/lang/Truth" "TRUE" "Lcom/example/lassoo/lassoo/lang/Truth;" (.ref wT)) (S_FALSE : Sta Z h0 "com/example/lassoo/lassoo/lang/Truth" "FALSE" "Lcom/example/lassoo/lassoo/lang/Truth;" (.ref wF)) (S_EITHER : Sta Z h0 "com/example/lassoo/lassoo/lang/Truth" "EITHER" "Lcom/example/lassoo/lassoo/lang/Truth;" (.ref wE)) (nTF : ¬ (wT = wF)) (nTE : ¬ (wT = wE)) (nFE : ¬ (wF = wE)) :
    MetFree l x (head1 (Jvm.Cond.code x code maxLocals ret :: ws) room_1) (fun a U => a = #[(.int p1)] ∧ Z.Warmed39 U.vm ∧ U.heap = h0) (fun _ _ _ _ _ => True) (fun _ U o U' => ∃ v L, o = .returned v ∧ Q_law Z p1 wT wF wE h0 n0 v U'.heap L ∧ FrameEnd U o U' L room_1.cells room_1.slots) := by
  refine MetFree.of_bodySF (plainFor_of_name pn_1) hisR ?_
  intro p e s m args below meth c s₁ Bd hml0 hP hK
  obtain ⟨rfl, hZ, hh⟩ := hP
  have hx := Bd.exec
  have hby := Bd.bytes
  have hml : c.maxLocals = 4 := hml0
  have hown : s.vm.findClass "com/example/lassoo/lassoo/lang/TruthOfPinLaw" = some m.cls := findClass_of_methodNamed Bd.named
  have hnm := (name_of_methodNamed Bd.named Bd.method).1
  have hret := Bd.returns
  have X0 : Stand p l e room_1 s m #[(.int p1)] below meth c s₁ [] 0 0 := Stand.of_body Bd
  have e0 : s₁.heap = h0 := by rw [← hh, Bd.state]; rfl
  have N0 := Fr.nil n0
  have pre0 : ∀ t, Sp p e below s₁ (mkF m 0 #[.val (.int p1), .unset, .unset, .unset] []) t → Sp p e below s₁ (entryFrame m #[(.int p1)] maxLocals) t := fun t k => castTop (ef_0_I m p1) k
  have r1 : ∀ t, Sp p e below s₁ (mkF m 3 #[.val (.int p1), .unset, .unset, .unset] [(.int (p1 &&& (1 : Int32)))]) t → Sp p e below s₁ (entryFrame m #[(.int p1)] maxLocals) t := by
    intro t k
    refine pre0 _ ?_
    refine XS.iloadN X0.here hx rfl (hb hby at_0) rfl ?_
    show Sp p e below s₁ (mkF m 1 #[.val (.int p1), .unset, .unset, .unset] [(.int p1)]) _
    refine XS.iconst X0.here hx rfl (hb hby at_1) ?_
    show Sp p e below s₁ (mkF m 2 #[.val (.int p1), .unset, .unset, .unset] [(.int (1 : Int32)), (.int p1)]) _
    refine XS.iand X0.here hx rfl (hb hby at_2) rfl ?_
    show Sp p e below s₁ (mkF m 3 #[.val (.int p1), .unset, .unset, .unset] [(.int (p1 &&& (1 : Int32)))]) _
    exact k
  by_cases c2 : (p1 &&& (1 : Int32)) = (0 : Int32)
  · obtain ⟨_, _, ⟨Tk3, Lk3, kk3, nk3⟩, -, Xk3, ⟨Lck3, hQk3, lk3, yk3, zk3⟩, stk3⟩ := Jvm.LawKit.callS X0 hx (y := (⟨"com/example/lassoo/lassoo/lang/Truth", "of", "(Z)Lcom/example/lassoo/lassoo/lang/Truth;"⟩ : MethodName)) hown (mvT hZ (hw _ (List.mem_of_getElem? (i := 0) rfl))) (mvT hZ (hw _ (List.mem_of_getElem? (i := 1) rfl))) (mvT hZ (hw _ (List.mem_of_getElem? (i := 2) rfl))) (mvT hZ (hw _ (List.mem_of_getElem? (i := 3) rfl))) (by decide) (backOf (W := 0) (rm_of l Z a0 hw [] (0 : Int32) wT wF wF h0 n0 Z0 S_TRUE S_FALSE ((if_pos rfl).symm)) hZ (hw _ (List.mem_of_getElem? (i := 3) rfl)) (hw _ (List.mem_of_getElem? (i := 2) rfl)) (by decide) (by decide)) (g := (mkF m 13 #[.val (.int p1), .val (.int (0 : Int32)), .unset, .unset] [(.int (0 : Int32))])) rfl (by rw [hml]; rfl) (argsL := [(.int (0 : Int32))]) (rest := []) (lenOf pd__Z_Lcom_example_lassoo_lassoo_lang_Truth_ rfl) rfl (by show 2 * 0 + _ ≤ _; exact Nat.le_of_eq rfl) (hb hby at_13) (fun _ _ => ⟨rfl, e0, (by decide : 0 + 0 ≤ _), (by decide : 0 + 0 ≤ _)⟩)
    dsimp only [Pt.U, Pt.locs, Pt.cells, Pt.slots] at Xk3 lk3 yk3 zk3 stk3 hQk3
    subst lk3 yk3 zk3
    obtain ⟨rfl, Nk3q, ek3⟩ := hQk3
    have Nk3 := Fr.app N0 Nk3q
    obtain ⟨_, _, ⟨Tk4, Lk4, kk4, nk4⟩, -, Xk4, ⟨Lck4, hQk4, lk4, yk4, zk4⟩, stk4⟩ := Jvm.LawKit.callS Xk3 hx (y := (⟨"com/example/lassoo/lassoo/lang/Truth", "of", "(Z)Lcom/example/lassoo/lassoo/lang/Truth;"⟩ : MethodName)) hown (mvT hZ (hw _ (List.mem_of_getElem? (i := 0) rfl))) (mvT hZ (hw _ (List.mem_of_getElem? (i := 1) rfl))) (mvT hZ (hw _ (List.mem_of_getElem? (i := 2) rfl))) (mvT hZ (hw _ (List.mem_of_getElem? (i := 3) rfl))) (by decide) (backOf (W := 0) (rm_of l Z a0 hw [] (1 : Int32) wT wF wT h0 n0 Z0 S_TRUE S_FALSE ((if_neg (by decide)).symm)) hZ (hw _ (List.mem_of_getElem? (i := 3) rfl)) (hw _ (List.mem_of_getElem? (i := 2) rfl)) (by decide) (by decide)) (g := (mkF m 26 #[.val (.int p1), .val (.int (0 : Int32)), .val (.ref wF), .unset] [(.int (1 : Int32))])) rfl (by rw [hml]; rfl) (argsL := [(.int (1 : Int32))]) (rest := []) (lenOf pd__Z_Lcom_example_lassoo_lassoo_lang_Truth_ rfl) rfl (by show 2 * 0 + _ ≤ _; exact Nat.le_of_eq rfl) (hb hby at_26) (fun _ _ => ⟨rfl, ek3, (by decide : 0 + 0 ≤ _), (by decide : 0 + 0 ≤ _)⟩)
    dsimp only [Pt.U, Pt.locs, Pt.cells, Pt.slots] at Xk4 lk4 yk4 zk4 stk4 hQk4
    subst lk4 yk4 zk4
    obtain ⟨rfl, Nk4q, ek4⟩ := hQk4
    have Nk4 := Fr.app Nk3 Nk4q
    obtain ⟨Tg5, Xg5, eg5, stg5⟩ := getS2 Xk4 hx hZ hown (host := "") (Or.inl (hw _ (List.mem_of_getElem? (i := 8) rfl))) Via.refl ek4 S_EITHER (g := (mkF m 41 #[.val (.int p1), .val (.int (0 : Int32)), .val (.ref wF), .val (.ref wT)] [(.ref wF)])) rfl (hb hby at_41)
    obtain ⟨Tg6, Xg6, eg6, stg6⟩ := getS2 Xg5 hx hZ hown (host := "") (Or.inl (hw _ (List.mem_of_getElem? (i := 8) rfl))) Via.refl eg5 S_EITHER (g := (mkF m 48 #[.val (.int p1), .val (.int (0 : Int32)), .val (.ref wF), .val (.ref wT)] [(.ref wT)])) rfl (hb hby at_48)
    obtain ⟨Tg7, Xg7, eg7, stg7⟩ := getS2 Xg6 hx hZ hown (host := "") (Or.inl (hw _ (List.mem_of_getElem? (i := 10) rfl))) Via.refl eg6 S_TRUE (g := (mkF m 57 #[.val (.int p1), .val (.int (0 : Int32)), .val (.ref wF), .val (.ref wT)] [(.ref wF)])) rfl (hb hby at_57)
    obtain ⟨Tg8, Xg8, eg8, stg8⟩ := getS2 Xg7 hx hZ hown (host := "") (Or.inl (hw _ (List.mem_of_getElem? (i := 11) rfl))) Via.refl eg7 S_FALSE (g := (mkF m 75 #[.val (.int p1), .val (.int (0 : Int32)), .val (.ref wF), .val (.ref wT)] [(.ref wF)])) rfl (hb hby at_75)
    obtain ⟨fs, hlv, hrun, hended, hW, hsame⟩ := Xg8.leave (v := some (.int (1 : Int32))) (fun h => by rw [hret] at h; cases h)
    refine ⟨_, _, r1 _ ?_, hrun, hended, _, _, rfl, ?_, ⟨_, rfl⟩, hW, hsame.mono (by decide) (by decide)⟩
    · refine XS.ifYes X0.here hx rfl (pc0 := 3) (pc' := 10) rfl (hb hby at_3) rfl ((if0 _ _).trans (teq c2).1) (by decide) (by decide) ?_
      show Sp p e below s₁ (mkF m 10 #[.val (.int p1), .unset, .unset, .unset] []) _
      refine XS.iconst X0.here hx rfl (hb hby at_10) ?_
      show Sp p e below s₁ (mkF m 11 #[.val (.int p1), .unset, .unset, .unset] [(.int (0 : Int32))]) _
      refine XS.istoreN X0.here hx rfl (hb hby at_11) rfl (l' := #[.val (.int p1), .val (.int (0 : Int32)), .unset, .unset]) rfl ?_
      show Sp p e below s₁ (mkF m 12 #[.val (.int p1), .val (.int (0 : Int32)), .unset, .unset] []) _
      refine XS.iloadN X0.here hx rfl (hb hby at_12) rfl ?_
      show Sp p e below s₁ (mkF m 13 #[.val (.int p1), .val (.int (0 : Int32)), .unset, .unset] [(.int (0 : Int32))]) _
      refine stk3 _ ?_
      show Sp p e below Tk3 (mkF m 16 #[.val (.int p1), .val (.int (0 : Int32)), .unset, .unset] [(.ref wF)]) _
      refine XS.astoreN Xk3.here hx rfl (hb hby at_16) rfl rfl (l' := #[.val (.int p1), .val (.int (0 : Int32)), .val (.ref wF), .unset]) rfl ?_
      show Sp p e below Tk3 (mkF m 17 #[.val (.int p1), .val (.int (0 : Int32)), .val (.ref wF), .unset] []) _
      refine XS.iloadN Xk3.here hx rfl (hb hby at_17) rfl ?_
      show Sp p e below Tk3 (mkF m 18 #[.val (.int p1), .val (.int (0 : Int32)), .val (.ref wF), .unset] [(.int (0 : Int32))]) _
      refine XS.ifNo Xk3.here hx rfl (hb hby at_18) rfl ((if0 _ _).trans (teq (by decide : (0 : Int32) = (0 : Int32))).2) ?_
      show Sp p e below Tk3 (mkF m 21 #[.val (.int p1), .val (.int (0 : Int32)), .val (.ref wF), .unset] []) _
      refine XS.iconst Xk3.here hx rfl (hb hby at_21) ?_
      show Sp p e below Tk3 (mkF m 22 #[.val (.int p1), .val (.int (0 : Int32)), .val (.ref wF), .unset] [(.int (1 : Int32))]) _
      refine XS.goto Xk3.here hx rfl (pc0 := 22) (pc' := 26) rfl (hb hby at_22) (by decide) (by decide) ?_
      show Sp p e below Tk3 (mkF m 26 #[.val (.int p1), .val (.int (0 : Int32)), .val (.ref wF), .unset] [(.int (1 : Int32))]) _
      refine stk4 _ ?_
      show Sp p e below Tk4 (mkF m 29 #[.val (.int p1), .val (.int (0 : Int32)), .val (.ref wF), .unset] [(.ref wT)]) _
      refine XS.astoreN Xk4.here hx rfl (hb hby at_29) rfl rfl (l' := #[.val (.int p1), .val (.int (0 : Int32)), .val (.ref wF), .val (.ref wT)]) rfl ?_
      show Sp p e below Tk4 (mkF m 30 #[.val (.int p1), .val (.int (0 : Int32)), .val (.ref wF), .val (.ref wT)] []) _
      refine XS.aloadN Xk4.here hx rfl (hb hby at_30) rfl rfl ?_
      show Sp p e below Tk4 (mkF m 31 #[.val (.int p1), .val (.int (0 : Int32)), .val (.ref wF), .val (.ref wT)] [(.ref wF)]) _
      refine XS.ifnullNo Xk4.here hx rfl (hb hby at_31) rfl ?_
      show Sp p e below Tk4 (mkF m 34 #[.val (.int p1), .val (.int (0 : Int32)), .val (.ref wF), .val (.ref wT)] []) _
      refine XS.aloadN Xk4.here hx rfl (hb hby at_34) rfl rfl ?_
      show Sp p e below Tk4 (mkF m 35 #[.val (.int p1), .val (.int (0 : Int32)), .val (.ref wF), .val (.ref wT)] [(.ref wT)]) _
      refine XS.ifnonnullYes Xk4.here hx rfl (pc0 := 35) (pc' := 40) rfl (hb hby at_35) rfl (by decide) (by decide) ?_
      show Sp p e below Tk4 (mkF m 40 #[.val (.int p1), .val (.int (0 : Int32)), .val (.ref wF), .val (.ref wT)] []) _
      refine XS.aloadN Xk4.here hx rfl (hb hby at_40) rfl rfl ?_
      show Sp p e below Tk4 (mkF m 41 #[.val (.int p1), .val (.int (0 : Int32)), .val (.ref wF), .val (.ref wT)] [(.ref wF)]) _
      refine stg5 _ ?_
      show Sp p e below Tg5 (mkF m 44 #[.val (.int p1), .val (.int (0 : Int32)), .val (.ref wF), .val (.ref wT)] [(.ref wE), (.ref wF)]) _
      refine Jvm.RoadKit.acmp (g := (mkF m 44 #[.val (.int p1), .val (.int (0 : Int32)), .val (.ref wF), .val (.ref wT)] [(.ref wE), (.ref wF)])) Xg5 hx rfl rfl rfl (pc0 := 44) (pc' := 47) (same := false) rfl (hb hby at_44) rfl (decide_eq_false fun q => nFE (Value.ref.inj q)) (by decide) (by decide) ?_
      show Sp p e below Tg5 (mkF m 47 #[.val (.int p1), .val (.int (0 : Int32)), .val (.ref wF), .val (.ref wT)] []) _
      refine XS.aloadN Xg5.here hx rfl (hb hby at_47) rfl rfl ?_
      show Sp p e below Tg5 (mkF m 48 #[.val (.int p1), .val (.int (0 : Int32)), .val (.ref wF), .val (.ref wT)] [(.ref wT)]) _
      refine stg6 _ ?_
      show Sp p e below Tg6 (mkF m 51 #[.val (.int p1), .val (.int (0 : Int32)), .val (.ref wF), .val (.ref wT)] [(.ref wE), (.ref wT)]) _
      refine Jvm.RoadKit.acmp (g := (mkF m 51 #[.val (.int p1), .val (.int (0 : Int32)), .val (.ref wF), .val (.ref wT)] [(.ref wE), (.ref wT)])) Xg6 hx rfl rfl rfl (pc0 := 51) (pc' := 56) (same := false) rfl (hb hby at_51) rfl (decide_eq_false fun q => nTE (Value.ref.inj q)) (by decide) (by decide) ?_
      show Sp p e below Tg6 (mkF m 56 #[.val (.int p1), .val (.int (0 : Int32)), .val (.ref wF), .val (.ref wT)] []) _
      refine XS.aloadN Xg6.here hx rfl (hb hby at_56) rfl rfl ?_
      show Sp p e below Tg6 (mkF m 57 #[.val (.int p1), .val (.int (0 : Int32)), .val (.ref wF), .val (.ref wT)] [(.ref wF)]) _
      refine stg7 _ ?_
      show Sp p e below Tg7 (mkF m 60 #[.val (.int p1), .val (.int (0 : Int32)), .val (.ref wF), .val (.ref wT)] [(.ref wT), (.ref wF)]) _
      refine Jvm.RoadKit.acmp (g := (mkF m 60 #[.val (.int p1), .val (.int (0 : Int32)), .val (.ref wF), .val (.ref wT)] [(.ref wT), (.ref wF)])) Xg7 hx rfl rfl rfl (pc0 := 60) (pc' := 67) (same := false) rfl (hb hby at_60) rfl (decide_eq_false fun q => (fun q => nTF q.symm) (Value.ref.inj q)) (by decide) (by decide) ?_
      show Sp p e below Tg7 (mkF m 67 #[.val (.int p1), .val (.int (0 : Int32)), .val (.ref wF), .val (.ref wT)] []) _
      refine XS.iconst Xg7.here hx rfl (hb hby at_67) ?_
      show Sp p e below Tg7 (mkF m 68 #[.val (.int p1), .val (.int (0 : Int32)), .val (.ref wF), .val (.ref wT)] [(.int (0 : Int32))]) _
      refine XS.iloadN Xg7.here hx rfl (hb hby at_68) rfl ?_
      show Sp p e below Tg7 (mkF m 69 #[.val (.int p1), .val (.int (0 : Int32)), .val (.ref wF), .val (.ref wT)] [(.int (0 : Int32)), (.int (0 : Int32))]) _
      refine XS.icmpYes Xg7.here hx rfl (pc0 := 69) (pc' := 74) rfl (hb hby at_69) rfl (teq (by decide : (0 : Int32) = (0 : Int32))).1 (by decide) (by decide) ?_
      show Sp p e below Tg7 (mkF m 74 #[.val (.int p1), .val (.int (0 : Int32)), .val (.ref wF), .val (.ref wT)] []) _
      refine XS.aloadN Xg7.here hx rfl (hb hby at_74) rfl rfl ?_
      show Sp p e below Tg7 (mkF m 75 #[.val (.int p1), .val (.int (0 : Int32)), .val (.ref wF), .val (.ref wT)] [(.ref wF)]) _
      refine stg8 _ ?_
      show Sp p e below Tg8 (mkF m 78 #[.val (.int p1), .val (.int (0 : Int32)), .val (.ref wF), .val (.ref wT)] [(.ref wF), (.ref wF)]) _
      refine Jvm.RoadKit.acmp (g := (mkF m 78 #[.val (.int p1), .val (.int (0 : Int32)), .val (.ref wF), .val (.ref wT)] [(.ref wF), (.ref wF)])) Xg8 hx rfl rfl rfl (pc0 := 78) (pc' := 81) (same := true) rfl (hb hby at_78) rfl (decide_eq_true rfl) (by decide) (by decide) ?_
      show Sp p e below Tg8 (mkF m 81 #[.val (.int p1), .val (.int (0 : Int32)), .val (.ref wF), .val (.ref wT)] []) _
      refine XS.iconst Xg8.here hx rfl (hb hby at_81) ?_
      show Sp p e below Tg8 (mkF m 82 #[.val (.int p1), .val (.int (0 : Int32)), .val (.ref wF), .val (.ref wT)] [(.int (1 : Int32))]) _
      refine XS.goto Xg8.here hx rfl (pc0 := 82) (pc' := 86) rfl (hb hby at_82) (by decide) (by decide) ?_
      show Sp p e below Tg8 (mkF m 86 #[.val (.int p1), .val (.int (0 : Int32)), .val (.ref wF), .val (.ref wT)] [(.int (1 : Int32))]) _
      refine XS.iloadN Xg8.here hx rfl (hb hby at_86) rfl ?_
      show Sp p e below Tg8 (mkF m 87 #[.val (.int p1), .val (.int (0 : Int32)), .val (.ref wF), .val (.ref wT)] [(.int (0 : Int32)), (.int (1 : Int32))]) _
      refine XS.icmpYes Xg8.here hx rfl (pc0 := 87) (pc' := 92) rfl (hb hby at_87) rfl (feq (by decide : ¬ ((1 : Int32) = (0 : Int32)))).2 (by decide) (by decide) ?_
      show Sp p e below Tg8 (mkF m 92 #[.val (.int p1), .val (.int (0 : Int32)), .val (.ref wF), .val (.ref wT)] []) _
      refine XS.aloadN Xg8.here hx rfl (hb hby at_92) rfl rfl ?_
      show Sp p e below Tg8 (mkF m 93 #[.val (.int p1), .val (.int (0 : Int32)), .val (.ref wF), .val (.ref wT)] [(.ref wF)]) _
      refine XS.aloadN Xg8.here hx rfl (hb hby at_93) rfl rfl ?_
      show Sp p e below Tg8 (mkF m 94 #[.val (.int p1), .val (.int (0 : Int32)), .val (.ref wF), .val (.ref wT)] [(.ref wT), (.ref wF)]) _
      refine Jvm.RoadKit.acmp (g := (mkF m 94 #[.val (.int p1), .val (.int (0 : Int32)), .val (.ref wF), .val (.ref wT)] [(.ref wT), (.ref wF)])) Xg8 hx rfl rfl rfl (pc0 := 94) (pc' := 97) (same := false) rfl (hb hby at_94) rfl (decide_eq_false fun q => (fun q => nTF q.symm) (Value.ref.inj q)) (by decide) (by decide) ?_
      show Sp p e below Tg8 (mkF m 97 #[.val (.int p1), .val (.int (0 : Int32)), .val (.ref wF), .val (.ref wT)] []) _
      refine XS.iconst Xg8.here hx rfl (hb hby at_97) ?_
      show Sp p e below Tg8 (mkF m 98 #[.val (.int p1), .val (.int (0 : Int32)), .val (.ref wF), .val (.ref wT)] [(.int (1 : Int32))]) _
      refine XS.goto Xg8.here hx rfl (pc0 := 98) (pc' := 102) rfl (hb hby at_98) (by decide) (by decide) ?_
      show Sp p e below Tg8 (mkF m 102 #[.val (.int p1), .val (.int (0 : Int32)), .val (.ref wF), .val (.ref wT)] [(.int (1 : Int32))]) _
      exact retN Xg8 hx (t := .boolean) hret (by simp) (hb hby at_102) hlv
    · show Q_law Z p1 wT wF wE h0 n0 _ Tg8.heap _
      rw [eg8]
      exact ⟨rfl, Nk4⟩
  · obtain ⟨_, _, ⟨Tk9, Lk9, kk9, nk9⟩, -, Xk9, ⟨Lck9, hQk9, lk9, yk9, zk9⟩, stk9⟩ := Jvm.LawKit.callS X0 hx (y := (⟨"com/example/lassoo/lassoo/lang/Truth", "of", "(Z)Lcom/example/lassoo/lassoo/lang/Truth;"⟩ : MethodName)) hown (mvT hZ (hw _ (List.mem_of_getElem? (i := 0) rfl))) (mvT hZ (hw _ (List.mem_of_getElem? (i := 1) rfl))) (mvT hZ (hw _ (List.mem_of_getElem? (i := 2) rfl))) (mvT hZ (hw _ (List.mem_of_getElem? (i := 3) rfl))) (by decide) (backOf (W := 0) (rm_of l Z a0 hw [] (1 : Int32) wT wF wT h0 n0 Z0 S_TRUE S_FALSE ((if_neg (by decide)).symm)) hZ (hw _ (List.mem_of_getElem? (i := 3) rfl)) (hw _ (List.mem_of_getElem? (i := 2) rfl)) (by decide) (by decide)) (g := (mkF m 13 #[.val (.int p1), .val (.int (1 : Int32)), .unset, .unset] [(.int (1 : Int32))])) rfl (by rw [hml]; rfl) (argsL := [(.int (1 : Int32))]) (rest := []) (lenOf pd__Z_Lcom_example_lassoo_lassoo_lang_Truth_ rfl) rfl (by show 2 * 0 + _ ≤ _; exact Nat.le_of_eq rfl) (hb hby at_13) (fun _ _ => ⟨rfl, e0, (by decide : 0 + 0 ≤ _), (by decide : 0 + 0 ≤ _)⟩)
    dsimp only [Pt.U, Pt.locs, Pt.cells, Pt.slots] at Xk9 lk9 yk9 zk9 stk9 hQk9
    subst lk9 yk9 zk9
    obtain ⟨rfl, Nk9q, ek9⟩ := hQk9
    have Nk9 := Fr.app N0 Nk9q
    obtain ⟨_, _, ⟨Tk10, Lk10, kk10, nk10⟩, -, Xk10, ⟨Lck10, hQk10, lk10, yk10, zk10⟩, stk10⟩ := Jvm.LawKit.callS Xk9 hx (y := (⟨"com/example/lassoo/lassoo/lang/Truth", "of", "(Z)Lcom/example/lassoo/lassoo/lang/Truth;"⟩ : MethodName)) hown (mvT hZ (hw _ (List.mem_of_getElem? (i := 0) rfl))) (mvT hZ (hw _ (List.mem_of_getElem? (i := 1) rfl))) (mvT hZ (hw _ (List.mem_of_getElem? (i := 2) rfl))) (mvT hZ (hw _ (List.mem_of_getElem? (i := 3) rfl))) (by decide) (backOf (W := 0) (rm_of l Z a0 hw [] (0 : Int32) wT wF wF h0 n0 Z0 S_TRUE S_FALSE ((if_pos rfl).symm)) hZ (hw _ (List.mem_of_getElem? (i := 3) rfl)) (hw _ (List.mem_of_getElem? (i := 2) rfl)) (by decide) (by decide)) (g := (mkF m 26 #[.val (.int p1), .val (.int (1 : Int32)), .val (.ref wT), .unset] [(.int (0 : Int32))])) rfl (by rw [hml]; rfl) (argsL := [(.int (0 : Int32))]) (rest := []) (lenOf pd__Z_Lcom_example_lassoo_lassoo_lang_Truth_ rfl) rfl (by show 2 * 0 + _ ≤ _; exact Nat.le_of_eq rfl) (hb hby at_26) (fun _ _ => ⟨rfl, ek9, (by decide : 0 + 0 ≤ _), (by decide : 0 + 0 ≤ _)⟩)
    dsimp only [Pt.U, Pt.locs, Pt.cells, Pt.slots] at Xk10 lk10 yk10 zk10 stk10 hQk10
    subst lk10 yk10 zk10
    obtain ⟨rfl, Nk10q, ek10⟩ := hQk10
    have Nk10 := Fr.app Nk9 Nk10q
    obtain ⟨Tg11, Xg11, eg11, stg11⟩ := getS2 Xk10 hx hZ hown (host := "") (Or.inl (hw _ (List.mem_of_getElem? (i := 8) rfl))) Via.refl ek10 S_EITHER (g := (mkF m 41 #[.val (.int p1), .val (.int (1 : Int32)), .val (.ref wT), .val (.ref wF)] [(.ref wT)])) rfl (hb hby at_41)
    obtain ⟨Tg12, Xg12, eg12, stg12⟩ := getS2 Xg11 hx hZ hown (host := "") (Or.inl (hw _ (List.mem_of_getElem? (i := 8) rfl))) Via.refl eg11 S_EITHER (g := (mkF m 48 #[.val (.int p1), .val (.int (1 : Int32)), .val (.ref wT), .val (.ref wF)] [(.ref wF)])) rfl (hb hby at_48)
    obtain ⟨Tg13, Xg13, eg13, stg13⟩ := getS2 Xg12 hx hZ hown (host := "") (Or.inl (hw _ (List.mem_of_getElem? (i := 10) rfl))) Via.refl eg12 S_TRUE (g := (mkF m 57 #[.val (.int p1), .val (.int (1 : Int32)), .val (.ref wT), .val (.ref wF)] [(.ref wT)])) rfl (hb hby at_57)
    obtain ⟨Tg14, Xg14, eg14, stg14⟩ := getS2 Xg13 hx hZ hown (host := "") (Or.inl (hw _ (List.mem_of_getElem? (i := 11) rfl))) Via.refl eg13 S_FALSE (g := (mkF m 75 #[.val (.int p1), .val (.int (1 : Int32)), .val (.ref wT), .val (.ref wF)] [(.ref wT)])) rfl (hb hby at_75)
    obtain ⟨fs, hlv, hrun, hended, hW, hsame⟩ := Xg14.leave (v := some (.int (1 : Int32))) (fun h => by rw [hret] at h; cases h)
    refine ⟨_, _, r1 _ ?_, hrun, hended, _, _, rfl, ?_, ⟨_, rfl⟩, hW, hsame.mono (by decide) (by decide)⟩
    · refine XS.ifNo X0.here hx rfl (hb hby at_3) rfl ((if0 _ _).trans (feq c2).1) ?_
      show Sp p e below s₁ (mkF m 6 #[.val (.int p1), .unset, .unset, .unset] []) _
      refine XS.iconst X0.here hx rfl (hb hby at_6) ?_
      show Sp p e below s₁ (mkF m 7 #[.val (.int p1), .unset, .unset, .unset] [(.int (1 : Int32))]) _
      refine XS.goto X0.here hx rfl (pc0 := 7) (pc' := 11) rfl (hb hby at_7) (by decide) (by decide) ?_
      show Sp p e below s₁ (mkF m 11 #[.val (.int p1), .unset, .unset, .unset] [(.int (1 : Int32))]) _
      refine XS.istoreN X0.here hx rfl (hb hby at_11) rfl (l' := #[.val (.int p1), .val (.int (1 : Int32)), .unset, .unset]) rfl ?_
      show Sp p e below s₁ (mkF m 12 #[.val (.int p1), .val (.int (1 : Int32)), .unset, .unset] []) _
      refine XS.iloadN X0.here hx rfl (hb hby at_12) rfl ?_
      show Sp p e below s₁ (mkF m 13 #[.val (.int p1), .val (.int (1 : Int32)), .unset, .unset] [(.int (1 : Int32))]) _
      refine stk9 _ ?_
      show Sp p e below Tk9 (mkF m 16 #[.val (.int p1), .val (.int (1 : Int32)), .unset, .unset] [(.ref wT)]) _
      refine XS.astoreN Xk9.here hx rfl (hb hby at_16) rfl rfl (l' := #[.val (.int p1), .val (.int (1 : Int32)), .val (.ref wT), .unset]) rfl ?_
      show Sp p e below Tk9 (mkF m 17 #[.val (.int p1), .val (.int (1 : Int32)), .val (.ref wT), .unset] []) _
      refine XS.iloadN Xk9.here hx rfl (hb hby at_17) rfl ?_
      show Sp p e below Tk9 (mkF m 18 #[.val (.int p1), .val (.int (1 : Int32)), .val (.ref wT), .unset] [(.int (1 : Int32))]) _
      refine XS.ifYes Xk9.here hx rfl (pc0 := 18) (pc' := 25) rfl (hb hby at_18) rfl ((if0 _ _).trans (feq (by decide : ¬ ((1 : Int32) = (0 : Int32)))).2) (by decide) (by decide) ?_
      show Sp p e below Tk9 (mkF m 25 #[.val (.int p1), .val (.int (1 : Int32)), .val (.ref wT), .unset] []) _
      refine XS.iconst Xk9.here hx rfl (hb hby at_25) ?_
      show Sp p e below Tk9 (mkF m 26 #[.val (.int p1), .val (.int (1 : Int32)), .val (.ref wT), .unset] [(.int (0 : Int32))]) _
      refine stk10 _ ?_
      show Sp p e below Tk10 (mkF m 29 #[.val (.int p1), .val (.int (1 : Int32)), .val (.ref wT), .unset] [(.ref wF)]) _
      refine XS.astoreN Xk10.here hx rfl (hb hby at_29) rfl rfl (l' := #[.val (.int p1), .val (.int (1 : Int32)), .val (.ref wT), .val (.ref wF)]) rfl ?_
      show Sp p e below Tk10 (mkF m 30 #[.val (.int p1), .val (.int (1 : Int32)), .val (.ref wT), .val (.ref wF)] []) _
      refine XS.aloadN Xk10.here hx rfl (hb hby at_30) rfl rfl ?_
      show Sp p e below Tk10 (mkF m 31 #[.val (.int p1), .val (.int (1 : Int32)), .val (.ref wT), .val (.ref wF)] [(.ref wT)]) _
      refine XS.ifnullNo Xk10.here hx rfl (hb hby at_31) rfl ?_
      show Sp p e below Tk10 (mkF m 34 #[.val (.int p1), .val (.int (1 : Int32)), .val (.ref wT), .val (.ref wF)] []) _
      refine XS.aloadN Xk10.here hx rfl (hb hby at_34) rfl rfl ?_
      show Sp p e below Tk10 (mkF m 35 #[.val (.int p1), .val (.int (1 : Int32)), .val (.ref wT), .val (.ref wF)] [(.ref wF)]) _
      refine XS.ifnonnullYes Xk10.here hx rfl (pc0 := 35) (pc' := 40) rfl (hb hby at_35) rfl (by decide) (by decide) ?_
      show Sp p e below Tk10 (mkF m 40 #[.val (.int p1), .val (.int (1 : Int32)), .val (.ref wT), .val (.ref wF)] []) _
      refine XS.aloadN Xk10.here hx rfl (hb hby at_40) rfl rfl ?_
      show Sp p e below Tk10 (mkF m 41 #[.val (.int p1), .val (.int (1 : Int32)), .val (.ref wT), .val (.ref wF)] [(.ref wT)]) _
      refine stg11 _ ?_
      show Sp p e below Tg11 (mkF m 44 #[.val (.int p1), .val (.int (1 : Int32)), .val (.ref wT), .val (.ref wF)] [(.ref wE), (.ref wT)]) _
      refine Jvm.RoadKit.acmp (g := (mkF m 44 #[.val (.int p1), .val (.int (1 : Int32)), .val (.ref wT), .val (.ref wF)] [(.ref wE), (.ref wT)])) Xg11 hx rfl rfl rfl (pc0 := 44) (pc' := 47) (same := false) rfl (hb hby at_44) rfl (decide_eq_false fun q => nTE (Value.ref.inj q)) (by decide) (by decide) ?_
      show Sp p e below Tg11 (mkF m 47 #[.val (.int p1), .val (.int (1 : Int32)), .val (.ref wT), .val (.ref wF)] []) _
      refine XS.aloadN Xg11.here hx rfl (hb hby at_47) rfl rfl ?_
      show Sp p e below Tg11 (mkF m 48 #[.val (.int p1), .val (.int (1 : Int32)), .val (.ref wT), .val (.ref wF)] [(.ref wF)]) _
      refine stg12 _ ?_
      show Sp p e below Tg12 (mkF m 51 #[.val (.int p1), .val (.int (1 : Int32)), .val (.ref wT), .val (.ref wF)] [(.ref wE), (.ref wF)]) _
      refine Jvm.RoadKit.acmp (g := (mkF m 51 #[.val (.int p1), .val (.int (1 : Int32)), .val (.ref wT), .val (.ref wF)] [(.ref wE), (.ref wF)])) Xg12 hx rfl rfl rfl (pc0 := 51) (pc' := 56) (same := false) rfl (hb hby at_51) rfl (decide_eq_false fun q => nFE (Value.ref.inj q)) (by decide) (by decide) ?_
      show Sp p e below Tg12 (mkF m 56 #[.val (.int p1), .val (.int (1 : Int32)), .val (.ref wT), .val (.ref wF)] []) _
      refine XS.aloadN Xg12.here hx rfl (hb hby at_56) rfl rfl ?_
      show Sp p e below Tg12 (mkF m 57 #[.val (.int p1), .val (.int (1 : Int32)), .val (.ref wT), .val (.ref wF)] [(.ref wT)]) _
      refine stg13 _ ?_
      show Sp p e below Tg13 (mkF m 60 #[.val (.int p1), .val (.int (1 : Int32)), .val (.ref wT), .val (.ref wF)] [(.ref wT), (.ref wT)]) _
      refine Jvm.RoadKit.acmp (g := (mkF m 60 #[.val (.int p1), .val (.int (1 : Int32)), .val (.ref wT), .val (.ref wF)] [(.ref wT), (.ref wT)])) Xg13 hx rfl rfl rfl (pc0 := 60) (pc' := 63) (same := true) rfl (hb hby at_60) rfl (decide_eq_true rfl) (by decide) (by decide) ?_
      show Sp p e below Tg13 (mkF m 63 #[.val (.int p1), .val (.int (1 : Int32)), .val (.ref wT), .val (.ref wF)] []) _
      refine XS.iconst Xg13.here hx rfl (hb hby at_63) ?_
      show Sp p e below Tg13 (mkF m 64 #[.val (.int p1), .val (.int (1 : Int32)), .val (.ref wT), .val (.ref wF)] [(.int (1 : Int32))]) _
      refine XS.goto Xg13.here hx rfl (pc0 := 64) (pc' := 68) rfl (hb hby at_64) (by decide) (by decide) ?_
      show Sp p e below Tg13 (mkF m 68 #[.val (.int p1), .val (.int (1 : Int32)), .val (.ref wT), .val (.ref wF)] [(.int (1 : Int32))]) _
      refine XS.iloadN Xg13.here hx rfl (hb hby at_68) rfl ?_
      show Sp p e below Tg13 (mkF m 69 #[.val (.int p1), .val (.int (1 : Int32)), .val (.ref wT), .val (.ref wF)] [(.int (1 : Int32)), (.int (1 : Int32))]) _
      refine XS.icmpYes Xg13.here hx rfl (pc0 := 69) (pc' := 74) rfl (hb hby at_69) rfl (teq (by decide : (1 : Int32) = (1 : Int32))).1 (by decide) (by decide) ?_
      show Sp p e below Tg13 (mkF m 74 #[.val (.int p1), .val (.int (1 : Int32)), .val (.ref wT), .val (.ref wF)] []) _
      refine XS.aloadN Xg13.here hx rfl (hb hby at_74) rfl rfl ?_
      show Sp p e below Tg13 (mkF m 75 #[.val (.int p1), .val (.int (1 : Int32)), .val (.ref wT), .val (.ref wF)] [(.ref wT)]) _
      refine stg14 _ ?_
      show Sp p e below Tg14 (mkF m 78 #[.val (.int p1), .val (.int (1 : Int32)), .val (.ref wT), .val (.ref wF)] [(.ref wF), (.ref wT)]) _
      refine Jvm.RoadKit.acmp (g := (mkF m 78 #[.val (.int p1), .val (.int (1 : Int32)), .val (.ref wT), .val (.ref wF)] [(.ref wF), (.ref wT)])) Xg14 hx rfl rfl rfl (pc0 := 78) (pc' := 85) (same := false) rfl (hb hby at_78) rfl (decide_eq_false fun q => nTF (Value.ref.inj q)) (by decide) (by decide) ?_
      show Sp p e below Tg14 (mkF m 85 #[.val (.int p1), .val (.int (1 : Int32)), .val (.ref wT), .val (.ref wF)] []) _
      refine XS.iconst Xg14.here hx rfl (hb hby at_85) ?_
      show Sp p e below Tg14 (mkF m 86 #[.val (.int p1), .val (.int (1 : Int32)), .val (.ref wT), .val (.ref wF)] [(.int (0 : Int32))]) _
      refine XS.iloadN Xg14.here hx rfl (hb hby at_86) rfl ?_
      show Sp p e below Tg14 (mkF m 87 #[.val (.int p1), .val (.int (1 : Int32)), .val (.ref wT), .val (.ref wF)] [(.int (1 : Int32)), (.int (0 : Int32))]) _
      refine XS.icmpYes Xg14.here hx rfl (pc0 := 87) (pc' := 92) rfl (hb hby at_87) rfl (feq (by decide : ¬ ((0 : Int32) = (1 : Int32)))).2 (by decide) (by decide) ?_
      show Sp p e below Tg14 (mkF m 92 #[.val (.int p1), .val (.int (1 : Int32)), .val (.ref wT), .val (.ref wF)] []) _
      refine XS.aloadN Xg14.here hx rfl (hb hby at_92) rfl rfl ?_
      show Sp p e below Tg14 (mkF m 93 #[.val (.int p1), .val (.int (1 : Int32)), .val (.ref wT), .val (.ref wF)] [(.ref wT)]) _
      refine XS.aloadN Xg14.here hx rfl (hb hby at_93) rfl rfl ?_
      show Sp p e below Tg14 (mkF m 94 #[.val (.int p1), .val (.int (1 : Int32)), .val (.ref wT), .val (.ref wF)] [(.ref wF), (.ref wT)]) _
      refine Jvm.RoadKit.acmp (g := (mkF m 94 #[.val (.int p1), .val (.int (1 : Int32)), .val (.ref wT), .val (.ref wF)] [(.ref wF), (.ref wT)])) Xg14 hx rfl rfl rfl (pc0 := 94) (pc' := 97) (same := false) rfl (hb hby at_94) rfl (decide_eq_false fun q => nTF (Value.ref.inj q)) (by decide) (by decide) ?_
      show Sp p e below Tg14 (mkF m 97 #[.val (.int p1), .val (.int (1 : Int32)), .val (.ref wT), .val (.ref wF)] []) _
      refine XS.iconst Xg14.here hx rfl (hb hby at_97) ?_
      show Sp p e below Tg14 (mkF m 98 #[.val (.int p1), .val (.int (1 : Int32)), .val (.ref wT), .val (.ref wF)] [(.int (1 : Int32))]) _
      refine XS.goto Xg14.here hx rfl (pc0 := 98) (pc' := 102) rfl (hb hby at_98) (by decide) (by decide) ?_
      show Sp p e below Tg14 (mkF m 102 #[.val (.int p1), .val (.int (1 : Int32)), .val (.ref wT), .val (.ref wF)] [(.int (1 : Int32))]) _
      exact retN Xg14 hx (t := .boolean) hret (by simp) (hb hby at_102) hlv
    · show Q_law Z p1 wT wF wE h0 n0 _ Tg14.heap _
      rw [eg14]
      exact ⟨rfl, Nk10⟩
set_option maxRecDepth 65536 in
set_option maxHeartbeats 40000000 in
theorem comes_1 {Post : Tables → Env → Array Value → State → Outcome → State → Prop} (hpost : ∀ tb e args s v u, (limb_1_1.after args s (.returned v) u = true ∧ limb_1_2.after args s (.returned v) u = true ∧ True) → FrameEnd s (.returned v) u (Jvm.fieldLocs frame_1_writes args s ++ Jvm.arrayLocs frame_1_arrays args s ++ Jvm.staticLocs frame_1_statics s) 0 0 → Post tb e args s (.returned v) u) :
    ArmFor flags0 classFile x code maxLocals ret World_1 tables_1 room_1 Calls_1 rest_1 Pre_1 Post := by
  intro l hfl _ _ p e ha hc hk s m args below hf hA hF happ hP
  obtain ⟨hcalls, hrest, hpre⟩ := hP
  obtain ⟨-, -, -, hnamed, -, -, -, hat⟩ := (Spec.applies_iff hf).mp happ
  obtain ⟨hg, hn⟩ := and_e (Cond.before_iff.mp (show (Jvm.Cond.and given_1 narrow_1).before args s = true from hpre))
  obtain ⟨hcount, hg0⟩ := and_e hg
  obtain ⟨w0, rfl⟩ : ∃ w0 : Value, args = #[w0] := by
    have hs : args.size = 1 := by simpa [Cond.value, given_1] using hcount
    obtain ⟨L⟩ := args
    match L, hs with
    | [w0], _ => exact ⟨w0, rfl⟩
  obtain ⟨i0, ei0⟩ := is_v hg0
  obtain rfl : w0 = (.int i0) := Option.some.inj ei0
  have hw := fun d (hd : d ∈ tables_1) => atoms_spec (ws := Jvm.Cond.code x code maxLocals ret :: tables_1) hat d (List.mem_cons_of_mem _ hd)
  have hfit : Fit s := fun {y c} hc i hi => by
    obtain ⟨ha, rfl⟩ := Array.getElem?_eq_some_iff.mp hc
    have q := List.all_eq_true.mp ((Array.all_eq_true_iff_forall_mem.mp hF) _ (Array.getElem_mem ha)) i (List.mem_range.mpr hi)
    simpa [Array.getElem?_eq_getElem hi] using q
  obtain ⟨nw0, hn0⟩ := and_e hn
  obtain ⟨nw1, hn1⟩ := and_e hn0
  obtain ⟨nw2, hn2⟩ := and_e hn1
  obtain ⟨nw3, hn3⟩ := and_e hn2
  obtain ⟨nw4, hn4⟩ := and_e hn3
  have nw5 := hn4
  obtain ⟨wT, ev_TRUE⟩ := exa_v nw1
  have S_TRUE := Sta.start ev_TRUE (Or.inr ⟨(hw _ (List.mem_of_getElem? (i := 2) rfl)), (hw _ (List.mem_of_getElem? (i := 7) rfl))⟩)
  have O_TRUE := own_fld ev_TRUE nw5
  obtain ⟨wF, ev_FALSE⟩ := exa_v nw0
  have S_FALSE := Sta.start ev_FALSE (Or.inr ⟨(hw _ (List.mem_of_getElem? (i := 2) rfl)), (hw _ (List.mem_of_getElem? (i := 5) rfl))⟩)
  have O_FALSE := own_fld ev_FALSE nw3
  obtain ⟨wE, ev_EITHER⟩ := exa_v nw2
  have S_EITHER := Sta.start ev_EITHER (Or.inr ⟨(hw _ (List.mem_of_getElem? (i := 2) rfl)), (hw _ (List.mem_of_getElem? (i := 9) rfl))⟩)
  have O_EITHER := own_fld ev_EITHER nw4
  obtain ⟨n, o, h1, h2, h3, _, L, rfl, ⟨rfl, N⟩, hq⟩ := rm_law l s _ hw tables_1 i0 wT wF wE s.heap s.heap.size (Nat.le_refl _) S_TRUE S_FALSE S_EITHER (Fld.ne O_TRUE O_FALSE (fun q => absurd (Value.int.inj q) (by decide))) (Fld.ne O_TRUE O_EITHER (fun q => absurd (Value.int.inj q) (by decide))) (Fld.ne O_FALSE O_EITHER (fun q => absurd (Value.int.inj q) (by decide))) p e ha hc hk s m _ below hf ((Spec.applies_iff_loose hf).mp happ).1 ⟨rfl, State.Warmed39.refl s, rfl⟩ trivial
  refine ⟨n, _, h1, h2, h3, hpost _ _ _ _ _ _ ⟨Cond.after_iff.mpr rfl, Cond.after_iff.mpr (eq_i res_at (Term.int_eval (1)) rfl), trivial⟩ ⟨hq.1, hq.2.1, (hq.2.2.sift fun y hy => Or.inr (N y hy)).mono (by decide) (by decide)⟩⟩
theorem main_1_1 : Claimed_1_1 := comes_1 fun _ _ _ _ _ _ h hF => ⟨h.1, hF⟩
theorem main_1_2 : Claimed_1_2 := comes_1 fun _ _ _ _ _ _ h hF => ⟨h.2.1, hF⟩
end Jvm.Pilot.@@N@@
namespace Jvm.Pilot.@@N@@
open Jvm Jvm.ClassFile Sem Op Lib Jvm.Free Jvm.Stand Jvm.Pilot.@@N@@.Jvm.D
/-! MADE BY PROGRAM (witnessworld.py) out of the Statement's table words and the real class files: 12 classes; the members and pool entries that the words name. The judged class is class 1, her method 1. -/
namespace start1
open Jvm.ClassFile
def u (s : String) : CpInfo := .utf8 (stringToUtf16 s)
/-- a pool by its gaps: so many unusable entries, then the entry; so many at the end -/
def gap : Nat → List CpInfo → List CpInfo
  | 0, r => r
  | n + 1, r => .unusable :: gap n r
def poolList (es : List (Nat × CpInfo)) (last : Nat) : List CpInfo := es.foldr (fun e r => gap e.1 (e.2 :: r)) (gap last [])
def pool (es : List (Nat × CpInfo)) (last : Nat) : Array CpInfo := ⟨poolList es last⟩
def fileOf (pool : Array CpInfo) (this : Nat) (attrs : Array Attribute := #[]) (ms : Array MethodInfo := #[]) (fl : Nat := 33) (sup : Nat := 0) (ifs : Array Nat := #[]) (fds : Array FieldInfo := #[]) : ClassFile where
  minorVersion := 0
  majorVersion := 65
  constantPool := pool
  accessFlags := fl
  thisClass := this
  superClass := sup
  interfaces := ifs
  fields := fds
  methods := ms
  attributes := attrs
def plain (name : String) (sup : Option ClassId) : Class where
  name := name
  kind := .ordinary
  loader := none
  accessFlags := 33
  super := sup
  interfaces := #[]
  cf := none
  fields := #[]
  methods := #[]
  instanceTypes := #[]
  staticTypes := #[]
  resolved := #[]
  callSites := []
  init := .initialized
  statics := none
  mirror := none

def pool0 : Array CpInfo := pool [(5, u "<init>"), (0, u "()V"), (1, .class_ 10), (1, u "java/lang/Object")] 113

def k0m0 : Method := { name := "<init>", desc := "()V", sig := { parameters := [], returnType := none }, accessFlags := 1, code := none }
/-- java/lang/Object -/
def k0 : Class := { plain "java/lang/Object" none with
  accessFlags := 33
  interfaces := #[]
  cf := some (fileOf pool0 8 #[] #[{ accessFlags := 1, nameIndex := 5, descriptorIndex := 6, attributes := #[] }] 33 0 #[] #[])
  fields := #[]
  methods := #[k0m0]
  instanceTypes := #[]
  staticTypes := #[]
  resolved := Array.replicate 124 none
  statics := none }

def pool1 : Array CpInfo := pool [(2, .class_ 4), (1, u "java/lang/Object"), (0, u "<init>"), (0, u "()V"), (0, .methodref 8 9), (0, .class_ 10), (0, .nameAndType 11 12), (0, u "com/example/lassoo/lassoo/lang/Truth"), (0, u "of"), (0, u "(Z)Lcom/example/lassoo/lassoo/lang/Truth;"), (0, .fieldref 8 14), (0, .nameAndType 15 16), (0, u "EITHER"), (0, u "Lcom/example/lassoo/lassoo/lang/Truth;"), (0, .fieldref 8 18), (0, .nameAndType 19 16), (0, u "TRUE"), (0, .fieldref 8 21), (0, .nameAndType 22 16), (0, u "FALSE"), (0, .class_ 24), (0, u "com/example/lassoo/lassoo/lang/TruthOfPinLaw"), (2, u "law"), (0, u "(I)Z")] 3

def k1m0 : Method := { name := "<init>", desc := "()V", sig := { parameters := [], returnType := none }, accessFlags := 1, code := none }
def k1c1 : Code := { maxStack := 2, maxLocals := 4, code := code, exceptionTable := #[], attributes := #[] }
def k1m1 : Method := { name := "law", desc := "(I)Z", sig := { parameters := [.int], returnType := some .boolean }, accessFlags := 9, code := some k1c1 }
/-- com/example/lassoo/lassoo/lang/TruthOfPinLaw -/
def k1 : Class := { plain "com/example/lassoo/lassoo/lang/TruthOfPinLaw" (some 0) with
  accessFlags := 49
  interfaces := #[]
  cf := some (fileOf pool1 23 #[] #[{ accessFlags := 1, nameIndex := 5, descriptorIndex := 6, attributes := #[] }, { accessFlags := 9, nameIndex := 27, descriptorIndex := 28, attributes := #[] }] 49 2 #[] #[])
  fields := #[]
  methods := #[k1m0, k1m1]
  instanceTypes := #[]
  staticTypes := #[]
  resolved := Array.replicate 32 none
  statics := none }

def pool2 : Array CpInfo := pool [(1, .class_ 2), (0, u "java/lang/constant/Constable"), (0, .class_ 4), (0, u "java/lang/Object")] 6

/-- java/lang/constant/Constable -/
def k2 : Class := { plain "java/lang/constant/Constable" (some 0) with
  accessFlags := 1537
  interfaces := #[]
  cf := some (fileOf pool2 1 #[] #[] 1537 3 #[] #[])
  fields := #[]
  methods := #[]
  instanceTypes := #[]
  staticTypes := #[]
  resolved := Array.replicate 11 none
  statics := none }

def pool3 : Array CpInfo := pool [(1, .class_ 2), (0, u "java/lang/Comparable"), (0, .class_ 4), (0, u "java/lang/Object")] 7

/-- java/lang/Comparable -/
def k3 : Class := { plain "java/lang/Comparable" (some 0) with
  accessFlags := 1537
  interfaces := #[]
  cf := some (fileOf pool3 1 #[] #[] 1537 3 #[] #[])
  fields := #[]
  methods := #[]
  instanceTypes := #[]
  staticTypes := #[]
  resolved := Array.replicate 12 none
  statics := none }

def pool4 : Array CpInfo := pool [(1, .class_ 2), (0, u "java/io/Serializable"), (0, .class_ 4), (0, u "java/lang/Object")] 2

/-- java/io/Serializable -/
def k4 : Class := { plain "java/io/Serializable" (some 0) with
  accessFlags := 1537
  interfaces := #[]
  cf := some (fileOf pool4 1 #[] #[] 1537 3 #[] #[])
  fields := #[]
  methods := #[]
  instanceTypes := #[]
  staticTypes := #[]
  resolved := Array.replicate 7 none
  statics := none }

def pool5 : Array CpInfo := pool [(2, .class_ 4), (1, u "java/lang/Enum"), (0, u "name"), (0, u "Ljava/lang/String;"), (2, u "ordinal"), (0, u "I"), (1, .class_ 14), (1, u "java/lang/Object"), (4, u "hash"), (86, .class_ 108), (1, u "java/lang/Enum$EnumDesc"), (2, .class_ 112), (0, u "java/lang/constant/Constable"), (0, .class_ 114), (0, u "java/lang/Comparable"), (0, .class_ 116), (0, u "java/io/Serializable")] 87

/-- java/lang/Enum -/
def k5 : Class := { plain "java/lang/Enum" (some 0) with
  accessFlags := 1057
  interfaces := #[2, 3, 4]
  cf := some (fileOf pool5 2 #[.nestMembers #[106]] #[] 1057 12 #[111, 113, 115] #[{ accessFlags := 18, nameIndex := 5, descriptorIndex := 6, attributes := #[] }, { accessFlags := 18, nameIndex := 9, descriptorIndex := 10, attributes := #[] }, { accessFlags := 2, nameIndex := 19, descriptorIndex := 10, attributes := #[] }])
  fields := #[{ name := "name", type := (.object "java/lang/String"), accessFlags := 18, slot := 0, constantValue := 0 }, { name := "ordinal", type := .int, accessFlags := 18, slot := 1, constantValue := 0 }, { name := "hash", type := .int, accessFlags := 2, slot := 2, constantValue := 0 }]
  methods := #[]
  instanceTypes := #[(.object "java/lang/String"), .int, .int]
  staticTypes := #[]
  resolved := Array.replicate 204 none
  statics := none }

def pool6 : Array CpInfo := pool [(1, .class_ 2), (0, u "com/example/lassoo/lassoo/lang/Truth"), (0, .fieldref 1 4), (0, .nameAndType 5 6), (0, u "FALSE"), (0, u "Lcom/example/lassoo/lassoo/lang/Truth;"), (0, .fieldref 1 8), (0, .nameAndType 9 6), (0, u "TRUE"), (2, u "EITHER"), (2, u "$VALUES"), (0, u "[Lcom/example/lassoo/lassoo/lang/Truth;"), (6, .class_ 25), (1, u "java/lang/Enum"), (21, u "of"), (0, u "(Z)Lcom/example/lassoo/lassoo/lang/Truth;")] 5

def k6c0 : Code := { maxStack := 1, maxLocals := 1, code := prog_59_method_4_code, exceptionTable := #[], attributes := #[] }
def k6m0 : Method := { name := "of", desc := "(Z)Lcom/example/lassoo/lassoo/lang/Truth;", sig := { parameters := [.boolean], returnType := some (.object "com/example/lassoo/lassoo/lang/Truth") }, accessFlags := 9, code := some k6c0 }
/-- com/example/lassoo/lassoo/lang/Truth -/
def k6 : Class := { plain "com/example/lassoo/lassoo/lang/Truth" (some 5) with
  accessFlags := 16433
  interfaces := #[]
  cf := some (fileOf pool6 1 #[] #[{ accessFlags := 9, nameIndex := 47, descriptorIndex := 48, attributes := #[] }] 16433 23 #[] #[{ accessFlags := 16409, nameIndex := 5, descriptorIndex := 6, attributes := #[] }, { accessFlags := 16409, nameIndex := 9, descriptorIndex := 6, attributes := #[] }, { accessFlags := 16409, nameIndex := 12, descriptorIndex := 6, attributes := #[] }, { accessFlags := 4122, nameIndex := 15, descriptorIndex := 16, attributes := #[] }])
  fields := #[{ name := "FALSE", type := (.object "com/example/lassoo/lassoo/lang/Truth"), accessFlags := 16409, slot := 0, constantValue := 0 }, { name := "TRUE", type := (.object "com/example/lassoo/lassoo/lang/Truth"), accessFlags := 16409, slot := 1, constantValue := 0 }, { name := "EITHER", type := (.object "com/example/lassoo/lassoo/lang/Truth"), accessFlags := 16409, slot := 2, constantValue := 0 }, { name := "$VALUES", type := (.array (.object "com/example/lassoo/lassoo/lang/Truth")), accessFlags := 4122, slot := 3, constantValue := 0 }]
  methods := #[k6m0]
  instanceTypes := #[(.object "java/lang/String"), .int, .int]
  staticTypes := #[(.object "com/example/lassoo/lassoo/lang/Truth"), (.object "com/example/lassoo/lassoo/lang/Truth"), (.object "com/example/lassoo/lassoo/lang/Truth"), (.array (.object "com/example/lassoo/lassoo/lang/Truth"))]
  resolved := Array.replicate 54 none
  statics := some 0 }

def pool7 : Array CpInfo := pool [(1, u "java/lang/Cloneable"), (0, .class_ 1), (0, u "java/lang/Object"), (0, .class_ 3)] 3

/-- java/lang/Cloneable -/
def k7 : Class := { plain "java/lang/Cloneable" (some 0) with
  accessFlags := 1537
  interfaces := #[]
  cf := some (fileOf pool7 2 #[] #[] 1537 4 #[] #[])
  fields := #[]
  methods := #[]
  instanceTypes := #[]
  staticTypes := #[]
  resolved := Array.replicate 8 none
  statics := none }

/-- the primitive byte -/
def k8 : Class := { plain "byte" none with kind := .primitive 'B', accessFlags := 0x411 }
/-- [B -/
def k9 : Class := { plain "[B" (some 0) with kind := .array 8 .byte, interfaces := #[7, 4], accessFlags := 1041 }

/-- the primitive int -/
def k10 : Class := { plain "int" none with kind := .primitive 'I', accessFlags := 0x411 }
/-- [I -/
def k11 : Class := { plain "[I" (some 0) with kind := .array 10 .int, interfaces := #[7, 4], accessFlags := 1041 }

def heap : Heap := #[{ cls := 6, slots := #[.ref 1, .ref 2, .ref 3, .null], vm := .statics 6 },
  { cls := 6, slots := #[.null, .int 0, .int 0], vm := .none },
  { cls := 6, slots := #[.null, .int 1, .int 0], vm := .none },
  { cls := 6, slots := #[.null, .int 2, .int 0], vm := .none }]
def classes : Array Class := #[k0, k1, k2, k3, k4, k5, k6, k7, k8, k9, k10, k11]
def interned : List (Array UInt16 × Addr) := []
def slotsUsed : Nat := 13
def theMethod : MethodId := ⟨1, 1⟩
def args0 : Array Value := #[.int 5]
def aboutOver (below : List Frame) : State where
  vm := { classes := classes, interned := interned.toArray }
  heap := heap
  slotsUsed := slotsUsed
  threads := #[{ frames := .invoking theMethod args0 :: below }]
def below0 : List Frame := [.native { method := ⟨0, 0⟩, args := #[] }]
def about1 : State := aboutOver below0
def p0 : Program := .bare "" "" ""
def e0 : Env := launch0.env 0 0 0
theorem w_frames : about1.frames = Frame.invoking theMethod args0 :: below0 := rfl
set_option maxRecDepth 65536 in
theorem w_args : argsFit about1.vm theMethod args0 = true := by decide +kernel
set_option maxRecDepth 65536 in
theorem w_heap : heapFits about1 = true := by decide +kernel
set_option maxRecDepth 65536 in
theorem w_runnable : about1.curStatus? = some .runnable := by decide +kernel
set_option maxRecDepth 65536 in
theorem w_alone : about1.alone = true := by decide +kernel
set_option maxRecDepth 65536 in
theorem w_named : about1.methodNamed? x = some theMethod := by decide +kernel
set_option maxRecDepth 65536 in
theorem w_hears : about1.hears theMethod below0 = true := by decide +kernel
set_option maxRecDepth 65536 in
theorem w_ripe : about1.ripe theMethod args0 below0 = true := by decide +kernel
theorem w_running : about1.status = .running := rfl
set_option maxRecDepth 65536 in
theorem w_room : about1.hasRoom e0.platform room_1 = true :=
  launch0.hasRoom_least _ room_1 (by decide +kernel) (by decide +kernel) (by decide +kernel) (by decide +kernel) (by decide +kernel) (by decide +kernel)
theorem allAtoms_all (ts : List Jvm.Cond) (a : Array Jvm.Value) (st : Jvm.State) : (allAtoms ts).before a st = ts.all (fun c => c.before a st) := by
  induction ts with
  | nil => rfl
  | cons c t ih =>
    show (Jvm.Cond.and c (allAtoms t)).before a st = _
    rw [Jvm.Cond.before_and, ih, List.all_cons]
def words1 : List Jvm.Cond := Jvm.Cond.code x code maxLocals ret :: tables_1
/-- a 'code' word, met by the world's own term for the bytes: nothing is compared byte by byte -/
theorem code_word {y : MethodName} {bytes : ByteArray} {mx : Nat} {rt : Option FieldType} {a : Array Value} {s : State} {m : MethodId} {meth : Method} {c : Code} (h1 : s.methodNamed? y = some m) (h2 : s.vm.method? m = some meth) (h3 : meth.code = some c) (h4 : c.code = bytes)
    (h5 : (c.maxLocals == mx && c.exceptionTable.isEmpty && decide (c.maxStack ≤ mostOperands) && decide (meth.sig.returnType = rt) && !meth.locks && decide (parseMethodDescriptor y.desc = some meth.sig)) = true) : (Jvm.Cond.code y bytes mx rt).before a s = true := by
  simp only [Bool.and_eq_true, beq_iff_eq, Bool.not_eq_true', decide_eq_true_eq] at h5
  obtain ⟨⟨⟨⟨⟨g1, g2⟩, g3⟩, g4⟩, g5⟩, g6⟩ := h5
  simp [Cond.before, Cond.holds, Cond.value, h1, h2, h3, h4, g1, g2, g3, g4, g5, g6]
def isCode : Jvm.Cond → Bool
  | .code _ _ _ _ => true
  | _ => false
theorem all_split {L : List Jvm.Cond} {P : Jvm.Cond → Bool} (h1 : L.all (fun c => isCode c || P c) = true) (h2 : ∀ c ∈ L.filter isCode, P c = true) : L.all P = true := by
  refine List.all_eq_true.mpr fun c hc => ?_
  have h := List.all_eq_true.mp h1 c hc
  rcases Bool.eq_false_or_eq_true (isCode c) with hi | hi
  · exact h2 c (List.mem_filter.mpr ⟨hc, hi⟩)
  · simpa [hi] using h
set_option maxRecDepth 65536 in
theorem w_c0 : (Jvm.Cond.code x code maxLocals ret).before args0 about1 = true := code_word (m := ⟨1, 1⟩) (meth := k1m1) (c := k1c1) (by decide +kernel) rfl rfl rfl (by decide +kernel)
set_option maxRecDepth 65536 in
theorem w_c1 : (Jvm.Cond.code ({ cls := "com/example/lassoo/lassoo/lang/Truth", name := "of", desc := "(Z)Lcom/example/lassoo/lassoo/lang/Truth;" } : Jvm.MethodName) prog_59_method_4_code (1 : Nat) (Option.some (Jvm.ClassFile.FieldType.object "com/example/lassoo/lassoo/lang/Truth"))).before args0 about1 = true := code_word (m := ⟨6, 0⟩) (meth := k6m0) (c := k6c0) (by decide +kernel) rfl rfl rfl (by decide +kernel)
def codes1 : List Jvm.Cond := [Jvm.Cond.code x code maxLocals ret, Jvm.Cond.code ({ cls := "com/example/lassoo/lassoo/lang/Truth", name := "of", desc := "(Z)Lcom/example/lassoo/lassoo/lang/Truth;" } : Jvm.MethodName) prog_59_method_4_code (1 : Nat) (Option.some (Jvm.ClassFile.FieldType.object "com/example/lassoo/lassoo/lang/Truth"))]
set_option maxRecDepth 65536 in
theorem codes_eq : words1.filter isCode = codes1 := rfl
theorem w_codes : ∀ c ∈ words1.filter isCode, c.before args0 about1 = true := by
  rw [codes_eq]
  intro c hc
  simp only [codes1, List.mem_cons, List.not_mem_nil, or_false] at hc
  rcases hc with rfl | rfl
  · exact w_c0
  · exact w_c1
set_option maxRecDepth 65536 in
theorem w_t1 : words1.all (fun c => isCode c || c.before args0 about1) = true := by decide +kernel
theorem w_tables : (allAtoms (Jvm.Cond.code x code maxLocals ret :: tables_1)).before args0 about1 = true := by
  rw [allAtoms_all]
  show words1.all (fun c => c.before args0 about1) = true
  refine all_split ?_ w_codes
  rw [w_t1]
set_option maxRecDepth 65536 in
theorem w_case : (Jvm.Cond.and given_1 narrow_1).before args0 about1 = true := by decide +kernel
theorem w_applies : (headSpec (Jvm.Cond.code x code maxLocals ret :: tables_1) room_1).applies x e0.platform about1 = true :=
  (Spec.applies_iff w_frames).mpr ⟨w_running, w_runnable, w_alone, w_named, w_hears, w_ripe, w_room, w_tables⟩
theorem atStart : AtStart classFile x code maxLocals ret World_1 tables_1 room_1 Calls_1 rest_1 Pre_1 launch0 p0 e0 about1 theMethod args0 below0 :=
  ⟨lists_1, trivial, launch0.admits_env _ _ _, launch0.least_env, fairChoices_fair.cas, fairChoices_fair.clock, w_frames, w_args, w_heap, w_applies, trivial, trivial, w_case⟩
end start1
theorem witness_1 : WitnessClaimed_1 := ⟨start1.p0, start1.e0, start1.about1, start1.theMethod, start1.args0, start1.below0, start1.atStart⟩
end Jvm.Pilot.@@N@@
