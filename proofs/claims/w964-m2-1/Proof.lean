import JvmDerived
import JvmDerived.Pilot.@@N@@Statement
import JvmDerived.Pilot.@@N@@Code
set_option linter.unusedVariables false
set_option linter.unusedSimpArgs false
namespace Jvm.RoadKit
open Sem ClassFile Op Lib Jvm.Stand Jvm.Free Jvm.LawKit
section New
variable {p : Program} {l : Launch} {e : Env} {R : Room} {s : State} {m : MethodId} {args : Array Value} {below : List Frame} {meth : Method} {c : Code} {T : State} {locs : List Loc} {cells slots : Nat}
theorem retI (X : Stand p l e R s m args below meth c T locs cells slots) (hx : p.tables.exec = Jvm.exec) {pc : Nat} {Ls : Array Slot} {z : Int32} {rest : List Value} (hret : meth.sig.returnType = some .int) (hd : decode c.code pc = .ok (.ireturn, 1)) {fs : List Frame}
    (hl : ∀ (f : JFrame) (acts : List Action), f.method = m → f.locked = none → f.entered = [] → (doReturn e (T.setTop f) acts (some (.int z))).1 = T.setFrames fs) : Steps p.tables e below (T.setTop (mkF m pc Ls (.int z :: rest))) (T.setFrames fs) := by
  have hm' : T.vm.method? m = some meth := X.method'
  have hn : narrow .int (.int z) = .int z := rfl
  show Steps p.tables e below (T.setTop { method := m, pc := pc, locals := Ls, stack := _ :: rest, locked := none }) _
  jvm_step X.here [X.here.top, hx, hd, hm', hret, hn]
  first | (intro acts; rw [hl _ acts rfl rfl rfl]) | rw [hl _ _ rfl rfl rfl]
  exact Steps.refl _
end New
end Jvm.RoadKit
namespace Jvm.Pilot.@@N@@
open Jvm Jvm.ClassFile Sem Op Lib Jvm.Free Jvm.Stand Jvm.LawKit Jvm.RoadKit Bundle Jvm.Pilot.@@N@@.Jvm.D
abbrev Sp (p : Program) (e : Env) (b : List Frame) (T : State) (f : JFrame) (t : State) : Prop := Steps p.tables e b (T.setTop f) t
theorem own_fld {args : Array Value} {Z : State} {t : Term} {C n d : String} {k : Int32} {x : Addr} (ev : t.eval args Z none [] Z = some (.ref x)) (h : (Jvm.Cond.eq (.field t C n d) (.int k)).value args Z none Z [] = some true) : Fld Z Z.heap x C n d (.int k) := by
  refine Fld.start ?_
  have h1 := fld_at (C := C) (n := n) (dd := d) ev
  obtain ⟨u, w, e1, e2, -, -⟩ := cmp_v (Or.inl h)
  have e3 : w = .int k := (Option.some.inj (e2.symm.trans (Term.int_eval k)))
  subst e3
  rw [← h1, e1]
  simp only [Jvm.Cond.value, e1, e2] at h
  cases u <;> simp_all
theorem own_sta_keep0 {Z : State} {h h' : Heap} {C n d : String} {v : Value} (F : Sta Z h C n d v) (K : Keep h h' []) : Sta Z h' C n d v := by
  obtain ⟨cf, i, k, f, st, cell, h1, h2, h3, h4, h5, r⟩ := F
  exact ⟨cf, i, k, f, st, cell, h1, h2, h3, h4, K.2.1 _ _ h5 nin0, r⟩
theorem d1_0 : decode method_2_code 0 = .ok (.iload_n 0, 1) := by decide +kernel
theorem d1_1 : decode method_2_code 1 = .ok (.ifCond .ne 7, 3) := by decide +kernel
theorem d1_4 : decode method_2_code 4 = .ok (.getstatic 7, 3) := by decide +kernel
theorem d1_7 : decode method_2_code 7 = .ok (.areturn, 1) := by decide +kernel
theorem d1_8 : decode method_2_code 8 = .ok (.iload_n 0, 1) := by decide +kernel
theorem d1_9 : decode method_2_code 9 = .ok (.iconst 1, 1) := by decide +kernel
theorem d1_10 : decode method_2_code 10 = .ok (.if_icmp .ne 7, 3) := by decide +kernel
theorem d1_13 : decode method_2_code 13 = .ok (.getstatic 13, 3) := by decide +kernel
theorem d1_16 : decode method_2_code 16 = .ok (.areturn, 1) := by decide +kernel
theorem d1_17 : decode method_2_code 17 = .ok (.iload_n 0, 1) := by decide +kernel
theorem d1_18 : decode method_2_code 18 = .ok (.iconst 2, 1) := by decide +kernel
theorem d1_19 : decode method_2_code 19 = .ok (.if_icmp .ne 7, 3) := by decide +kernel
theorem d1_22 : decode method_2_code 22 = .ok (.getstatic 16, 3) := by decide +kernel
theorem d1_25 : decode method_2_code 25 = .ok (.areturn, 1) := by decide +kernel
theorem d1_26 : decode method_2_code 26 = .ok (.iload_n 0, 1) := by decide +kernel
theorem d1_27 : decode method_2_code 27 = .ok (.iconst 3, 1) := by decide +kernel
theorem d1_28 : decode method_2_code 28 = .ok (.if_icmp .ne 7, 3) := by decide +kernel
theorem d1_31 : decode method_2_code 31 = .ok (.getstatic 19, 3) := by decide +kernel
theorem d1_34 : decode method_2_code 34 = .ok (.areturn, 1) := by decide +kernel
theorem d1_35 : decode method_2_code 35 = .ok (.iload_n 0, 1) := by decide +kernel
theorem d1_36 : decode method_2_code 36 = .ok (.iconst 4, 1) := by decide +kernel
theorem d1_37 : decode method_2_code 37 = .ok (.if_icmp .ne 7, 3) := by decide +kernel
theorem d1_40 : decode method_2_code 40 = .ok (.getstatic 22, 3) := by decide +kernel
theorem d1_43 : decode method_2_code 43 = .ok (.areturn, 1) := by decide +kernel
theorem d1_44 : decode method_2_code 44 = .ok (.getstatic 25, 3) := by decide +kernel
theorem d1_47 : decode method_2_code 47 = .ok (.areturn, 1) := by decide +kernel
theorem pn_0 : plainName "com/example/munim/munim/journal/ProvisionHeadOfPinLaw" = true := by first | (simp [plainName, overriddenIn]; done) | decide +kernel
theorem ef_1_I (m : MethodId) (x0 : Int32) : entryFrame m #[(.int x0)] 1 = mkF m 0 #[.val (.int x0)] [] := by first | (simp [entryFrame, mkF, argsToLocals, Value.category]; done) | rfl
def Q_pick (Z : State) (p1 : Int32) (wA_STANDARD : Addr) (wA_SUBSTANDARD : Addr) (wA_DOUBTFUL_1 : Addr) (wA_DOUBTFUL_2 : Addr) (wA_DOUBTFUL_3 : Addr) (wA_LOSS : Addr) (r : Addr) (h0 : Heap) (n0 : Nat) (v : Option Value) (h : Heap) (L : List Loc) : Prop := v = some (.ref r) ∧ Fr n0 L ∧ h = h0
set_option maxRecDepth 65536 in
set_option maxHeartbeats 40000000 in
theorem rm_pick (l : Launch) (Z : State) (a0 : Array Value) (hw : ∀ d ∈ tables_1, d.before a0 Z = true) (ws : List Jvm.Cond) (p1 : Int32) (wA_STANDARD : Addr) (wA_SUBSTANDARD : Addr) (wA_DOUBTFUL_1 : Addr) (wA_DOUBTFUL_2 : Addr) (wA_DOUBTFUL_3 : Addr) (wA_LOSS : Addr) (r : Addr) (h0 : Heap) (n0 : Nat) (Z0 : n0 ≤ h0.size) (SA_STANDARD : Sta Z h0 "com/example/munim/munim/classify/AssetClass" "STANDARD" "Lcom/example/munim/munim/classify/AssetClass;" (.ref wA_STANDARD)) (SA_SUBSTANDARD : Sta Z h0 "com/example/munim/munim/classify/AssetClass" "SUBSTANDARD" "Lcom/example/munim/munim/classify/AssetClass;" (.ref wA_SUBSTANDARD)) (SA_DOUBTFUL_1 : Sta Z h0 "com/example/munim/munim/classify/AssetClass" "DOUBTFUL_1" "Lcom/example/munim/munim/classify/AssetClass;" (.ref wA_DOUBTFUL_1)) (SA_DOUBTFUL_2 : Sta Z h0 "com/example/munim/munim/classify/AssetClass" "DOUBTFUL_2" "Lcom/example/munim/munim/classify/AssetClass;" (.ref wA_DOUBTFUL_2)) (SA_DOUBTFUL_3 : Sta Z h0 "com/example/munim/munim/classify/AssetClass" "DOUBTFUL_3" "Lcom/example/munim/munim/classify/AssetClass;" (.ref wA_DOUBTFUL_3)) (SA_LOSS : Sta Z h0 "com/example/munim/munim/classify/AssetClass" "LOSS" "Lcom/example/munim/munim/classify/AssetClass;" (.ref wA_LOSS)) (hres : r = if p1 = (0 : Int32) then wA_STANDARD else if p1 = (1 : Int32) then wA_SUBSTANDARD else if p1 = (2 : Int32) then wA_DOUBTFUL_1 else if p1 = (3 : Int32) then wA_DOUBTFUL_2 else if p1 = (4 : Int32) then wA_DOUBTFUL_3 else wA_LOSS) :
    MetFree l (⟨"com/example/munim/munim/journal/ProvisionHeadOfPinLaw", "pick", "(I)Lcom/example/munim/munim/classify/AssetClass;"⟩ : MethodName) (head1 (Jvm.Cond.code (⟨"com/example/munim/munim/journal/ProvisionHeadOfPinLaw", "pick", "(I)Lcom/example/munim/munim/classify/AssetClass;"⟩ : MethodName) method_2_code 1 (some (.object "com/example/munim/munim/classify/AssetClass")) :: ws) ({ frames := 0, cells := 0, slots := 0, locals := 0 } : Room)) (fun A_ U => A_ = #[(.int p1)] ∧ Z.Warmed39 U.vm ∧ U.heap = h0) (fun _ _ _ _ _ => True) (fun _ U o U' => ∃ v L, o = .returned v ∧ Q_pick Z p1 wA_STANDARD wA_SUBSTANDARD wA_DOUBTFUL_1 wA_DOUBTFUL_2 wA_DOUBTFUL_3 wA_LOSS r h0 n0 v U'.heap L ∧ FrameEnd U o U' L ({ frames := 0, cells := 0, slots := 0, locals := 0 } : Room).cells ({ frames := 0, cells := 0, slots := 0, locals := 0 } : Room).slots) := by
  refine MetFree.of_bodySF (plainFor_of_name pn_0) hisR ?_
  intro p e s m args below meth c s₁ Bd hml0 hP hK
  obtain ⟨rfl, hZ, hh⟩ := hP
  have hx := Bd.exec
  have hby := Bd.bytes
  have hml : c.maxLocals = 1 := hml0
  have hown : s.vm.findClass "com/example/munim/munim/journal/ProvisionHeadOfPinLaw" = some m.cls := findClass_of_methodNamed Bd.named
  have hnm := (name_of_methodNamed Bd.named Bd.method).1
  have hret := Bd.returns
  have X0 : Stand p l e ({ frames := 0, cells := 0, slots := 0, locals := 0 } : Room) s m #[(.int p1)] below meth c s₁ [] 0 0 := Stand.of_body Bd
  have e0 : s₁.heap = h0 := by rw [← hh, Bd.state]; rfl
  have N0 := Fr.nil n0
  have pre0 : ∀ t, Sp p e below s₁ (mkF m 0 #[.val (.int p1)] []) t → Sp p e below s₁ (entryFrame m #[(.int p1)] 1) t := fun t k => castTop (ef_1_I m p1) k
  have r1 : ∀ t, Sp p e below s₁ (mkF m 1 #[.val (.int p1)] [(.int p1)]) t → Sp p e below s₁ (entryFrame m #[(.int p1)] 1) t := by
    intro t k
    refine pre0 _ ?_
    refine XS.iloadN X0.here hx rfl (hb hby d1_0) rfl ?_
    show Sp p e below s₁ (mkF m 1 #[.val (.int p1)] [(.int p1)]) _
    exact k
  by_cases c2 : p1 = (0 : Int32)
  · obtain ⟨Tg3, Xg3, eg3, stg3⟩ := getS2 X0 hx hZ hown (host := "") (Or.inl (hw _ (List.mem_of_getElem? (i := 5) rfl))) Via.refl e0 SA_STANDARD (g := (mkF m 4 #[.val (.int p1)] [])) rfl (hb hby d1_4)
    obtain ⟨fs, hlv, hrun, hended, hW, hsame⟩ := Xg3.leave (v := some (.ref wA_STANDARD)) (fun h => by rw [hret] at h; cases h)
    refine ⟨_, _, r1 _ ?_, hrun, hended, _, _, rfl, ?_, ⟨_, rfl⟩, hW, hsame.mono (by decide) (by decide)⟩
    · refine XS.ifNo X0.here hx rfl (hb hby d1_1) rfl ((if0 _ _).trans (teq c2).2) ?_
      show Sp p e below s₁ (mkF m 4 #[.val (.int p1)] []) _
      refine stg3 _ ?_
      show Sp p e below Tg3 (mkF m 7 #[.val (.int p1)] [(.ref wA_STANDARD)]) _
      jvm_step Xg3.here [Xg3.here.top, hx, (hb hby d1_7), Xg3.method', hret, Value.isRef, FieldType.isReference]
      first | (intro acts; rw [hlv _ acts rfl rfl rfl]) | rw [hlv _ _ rfl rfl rfl]
      exact Steps.refl _
    · show Q_pick Z p1 wA_STANDARD wA_SUBSTANDARD wA_DOUBTFUL_1 wA_DOUBTFUL_2 wA_DOUBTFUL_3 wA_LOSS r h0 n0 _ Tg3.heap _
      rw [eg3]
      exact ⟨by rw [hres]; simp [c2], N0, rfl⟩
  · have r4 : ∀ t, Sp p e below s₁ (mkF m 10 #[.val (.int p1)] [(.int (1 : Int32)), (.int p1)]) t → Sp p e below s₁ (entryFrame m #[(.int p1)] 1) t := by
      intro t k
      refine r1 _ ?_
      refine XS.ifYes X0.here hx rfl (pc0 := 1) (pc' := 8) rfl (hb hby d1_1) rfl ((if0 _ _).trans (feq c2).2) (by decide) (by decide) ?_
      show Sp p e below s₁ (mkF m 8 #[.val (.int p1)] []) _
      refine XS.iloadN X0.here hx rfl (hb hby d1_8) rfl ?_
      show Sp p e below s₁ (mkF m 9 #[.val (.int p1)] [(.int p1)]) _
      refine XS.iconst X0.here hx rfl (hb hby d1_9) ?_
      show Sp p e below s₁ (mkF m 10 #[.val (.int p1)] [(.int (1 : Int32)), (.int p1)]) _
      exact k
    by_cases c5 : p1 = (1 : Int32)
    · obtain ⟨Tg6, Xg6, eg6, stg6⟩ := getS2 X0 hx hZ hown (host := "") (Or.inl (hw _ (List.mem_of_getElem? (i := 26) rfl))) Via.refl e0 SA_SUBSTANDARD (g := (mkF m 13 #[.val (.int p1)] [])) rfl (hb hby d1_13)
      obtain ⟨fs, hlv, hrun, hended, hW, hsame⟩ := Xg6.leave (v := some (.ref wA_SUBSTANDARD)) (fun h => by rw [hret] at h; cases h)
      refine ⟨_, _, r4 _ ?_, hrun, hended, _, _, rfl, ?_, ⟨_, rfl⟩, hW, hsame.mono (by decide) (by decide)⟩
      · refine XS.icmpNo X0.here hx rfl (hb hby d1_10) rfl (teq c5).2 ?_
        show Sp p e below s₁ (mkF m 13 #[.val (.int p1)] []) _
        refine stg6 _ ?_
        show Sp p e below Tg6 (mkF m 16 #[.val (.int p1)] [(.ref wA_SUBSTANDARD)]) _
        jvm_step Xg6.here [Xg6.here.top, hx, (hb hby d1_16), Xg6.method', hret, Value.isRef, FieldType.isReference]
        first | (intro acts; rw [hlv _ acts rfl rfl rfl]) | rw [hlv _ _ rfl rfl rfl]
        exact Steps.refl _
      · show Q_pick Z p1 wA_STANDARD wA_SUBSTANDARD wA_DOUBTFUL_1 wA_DOUBTFUL_2 wA_DOUBTFUL_3 wA_LOSS r h0 n0 _ Tg6.heap _
        rw [eg6]
        exact ⟨by rw [hres]; simp [c2, c5], N0, rfl⟩
    · have r7 : ∀ t, Sp p e below s₁ (mkF m 19 #[.val (.int p1)] [(.int (2 : Int32)), (.int p1)]) t → Sp p e below s₁ (entryFrame m #[(.int p1)] 1) t := by
        intro t k
        refine r4 _ ?_
        refine XS.icmpYes X0.here hx rfl (pc0 := 10) (pc' := 17) rfl (hb hby d1_10) rfl (feq c5).2 (by decide) (by decide) ?_
        show Sp p e below s₁ (mkF m 17 #[.val (.int p1)] []) _
        refine XS.iloadN X0.here hx rfl (hb hby d1_17) rfl ?_
        show Sp p e below s₁ (mkF m 18 #[.val (.int p1)] [(.int p1)]) _
        refine XS.iconst X0.here hx rfl (hb hby d1_18) ?_
        show Sp p e below s₁ (mkF m 19 #[.val (.int p1)] [(.int (2 : Int32)), (.int p1)]) _
        exact k
      by_cases c8 : p1 = (2 : Int32)
      · obtain ⟨Tg9, Xg9, eg9, stg9⟩ := getS2 X0 hx hZ hown (host := "") (Or.inl (hw _ (List.mem_of_getElem? (i := 24) rfl))) Via.refl e0 SA_DOUBTFUL_1 (g := (mkF m 22 #[.val (.int p1)] [])) rfl (hb hby d1_22)
        obtain ⟨fs, hlv, hrun, hended, hW, hsame⟩ := Xg9.leave (v := some (.ref wA_DOUBTFUL_1)) (fun h => by rw [hret] at h; cases h)
        refine ⟨_, _, r7 _ ?_, hrun, hended, _, _, rfl, ?_, ⟨_, rfl⟩, hW, hsame.mono (by decide) (by decide)⟩
        · refine XS.icmpNo X0.here hx rfl (hb hby d1_19) rfl (teq c8).2 ?_
          show Sp p e below s₁ (mkF m 22 #[.val (.int p1)] []) _
          refine stg9 _ ?_
          show Sp p e below Tg9 (mkF m 25 #[.val (.int p1)] [(.ref wA_DOUBTFUL_1)]) _
          jvm_step Xg9.here [Xg9.here.top, hx, (hb hby d1_25), Xg9.method', hret, Value.isRef, FieldType.isReference]
          first | (intro acts; rw [hlv _ acts rfl rfl rfl]) | rw [hlv _ _ rfl rfl rfl]
          exact Steps.refl _
        · show Q_pick Z p1 wA_STANDARD wA_SUBSTANDARD wA_DOUBTFUL_1 wA_DOUBTFUL_2 wA_DOUBTFUL_3 wA_LOSS r h0 n0 _ Tg9.heap _
          rw [eg9]
          exact ⟨by rw [hres]; simp [c2, c5, c8], N0, rfl⟩
      · have r10 : ∀ t, Sp p e below s₁ (mkF m 28 #[.val (.int p1)] [(.int (3 : Int32)), (.int p1)]) t → Sp p e below s₁ (entryFrame m #[(.int p1)] 1) t := by
          intro t k
          refine r7 _ ?_
          refine XS.icmpYes X0.here hx rfl (pc0 := 19) (pc' := 26) rfl (hb hby d1_19) rfl (feq c8).2 (by decide) (by decide) ?_
          show Sp p e below s₁ (mkF m 26 #[.val (.int p1)] []) _
          refine XS.iloadN X0.here hx rfl (hb hby d1_26) rfl ?_
          show Sp p e below s₁ (mkF m 27 #[.val (.int p1)] [(.int p1)]) _
          refine XS.iconst X0.here hx rfl (hb hby d1_27) ?_
          show Sp p e below s₁ (mkF m 28 #[.val (.int p1)] [(.int (3 : Int32)), (.int p1)]) _
          exact k
        by_cases c11 : p1 = (3 : Int32)
        · obtain ⟨Tg12, Xg12, eg12, stg12⟩ := getS2 X0 hx hZ hown (host := "") (Or.inl (hw _ (List.mem_of_getElem? (i := 19) rfl))) Via.refl e0 SA_DOUBTFUL_2 (g := (mkF m 31 #[.val (.int p1)] [])) rfl (hb hby d1_31)
          obtain ⟨fs, hlv, hrun, hended, hW, hsame⟩ := Xg12.leave (v := some (.ref wA_DOUBTFUL_2)) (fun h => by rw [hret] at h; cases h)
          refine ⟨_, _, r10 _ ?_, hrun, hended, _, _, rfl, ?_, ⟨_, rfl⟩, hW, hsame.mono (by decide) (by decide)⟩
          · refine XS.icmpNo X0.here hx rfl (hb hby d1_28) rfl (teq c11).2 ?_
            show Sp p e below s₁ (mkF m 31 #[.val (.int p1)] []) _
            refine stg12 _ ?_
            show Sp p e below Tg12 (mkF m 34 #[.val (.int p1)] [(.ref wA_DOUBTFUL_2)]) _
            jvm_step Xg12.here [Xg12.here.top, hx, (hb hby d1_34), Xg12.method', hret, Value.isRef, FieldType.isReference]
            first | (intro acts; rw [hlv _ acts rfl rfl rfl]) | rw [hlv _ _ rfl rfl rfl]
            exact Steps.refl _
          · show Q_pick Z p1 wA_STANDARD wA_SUBSTANDARD wA_DOUBTFUL_1 wA_DOUBTFUL_2 wA_DOUBTFUL_3 wA_LOSS r h0 n0 _ Tg12.heap _
            rw [eg12]
            exact ⟨by rw [hres]; simp [c2, c5, c8, c11], N0, rfl⟩
        · have r13 : ∀ t, Sp p e below s₁ (mkF m 37 #[.val (.int p1)] [(.int (4 : Int32)), (.int p1)]) t → Sp p e below s₁ (entryFrame m #[(.int p1)] 1) t := by
            intro t k
            refine r10 _ ?_
            refine XS.icmpYes X0.here hx rfl (pc0 := 28) (pc' := 35) rfl (hb hby d1_28) rfl (feq c11).2 (by decide) (by decide) ?_
            show Sp p e below s₁ (mkF m 35 #[.val (.int p1)] []) _
            refine XS.iloadN X0.here hx rfl (hb hby d1_35) rfl ?_
            show Sp p e below s₁ (mkF m 36 #[.val (.int p1)] [(.int p1)]) _
            refine XS.iconst X0.here hx rfl (hb hby d1_36) ?_
            show Sp p e below s₁ (mkF m 37 #[.val (.int p1)] [(.int (4 : Int32)), (.int p1)]) _
            exact k
          by_cases c14 : p1 = (4 : Int32)
          · obtain ⟨Tg15, Xg15, eg15, stg15⟩ := getS2 X0 hx hZ hown (host := "") (Or.inl (hw _ (List.mem_of_getElem? (i := 30) rfl))) Via.refl e0 SA_DOUBTFUL_3 (g := (mkF m 40 #[.val (.int p1)] [])) rfl (hb hby d1_40)
            obtain ⟨fs, hlv, hrun, hended, hW, hsame⟩ := Xg15.leave (v := some (.ref wA_DOUBTFUL_3)) (fun h => by rw [hret] at h; cases h)
            refine ⟨_, _, r13 _ ?_, hrun, hended, _, _, rfl, ?_, ⟨_, rfl⟩, hW, hsame.mono (by decide) (by decide)⟩
            · refine XS.icmpNo X0.here hx rfl (hb hby d1_37) rfl (teq c14).2 ?_
              show Sp p e below s₁ (mkF m 40 #[.val (.int p1)] []) _
              refine stg15 _ ?_
              show Sp p e below Tg15 (mkF m 43 #[.val (.int p1)] [(.ref wA_DOUBTFUL_3)]) _
              jvm_step Xg15.here [Xg15.here.top, hx, (hb hby d1_43), Xg15.method', hret, Value.isRef, FieldType.isReference]
              first | (intro acts; rw [hlv _ acts rfl rfl rfl]) | rw [hlv _ _ rfl rfl rfl]
              exact Steps.refl _
            · show Q_pick Z p1 wA_STANDARD wA_SUBSTANDARD wA_DOUBTFUL_1 wA_DOUBTFUL_2 wA_DOUBTFUL_3 wA_LOSS r h0 n0 _ Tg15.heap _
              rw [eg15]
              exact ⟨by rw [hres]; simp [c2, c5, c8, c11, c14], N0, rfl⟩
          · obtain ⟨Tg16, Xg16, eg16, stg16⟩ := getS2 X0 hx hZ hown (host := "") (Or.inl (hw _ (List.mem_of_getElem? (i := 28) rfl))) Via.refl e0 SA_LOSS (g := (mkF m 44 #[.val (.int p1)] [])) rfl (hb hby d1_44)
            obtain ⟨fs, hlv, hrun, hended, hW, hsame⟩ := Xg16.leave (v := some (.ref wA_LOSS)) (fun h => by rw [hret] at h; cases h)
            refine ⟨_, _, r13 _ ?_, hrun, hended, _, _, rfl, ?_, ⟨_, rfl⟩, hW, hsame.mono (by decide) (by decide)⟩
            · refine XS.icmpYes X0.here hx rfl (pc0 := 37) (pc' := 44) rfl (hb hby d1_37) rfl (feq c14).2 (by decide) (by decide) ?_
              show Sp p e below s₁ (mkF m 44 #[.val (.int p1)] []) _
              refine stg16 _ ?_
              show Sp p e below Tg16 (mkF m 47 #[.val (.int p1)] [(.ref wA_LOSS)]) _
              jvm_step Xg16.here [Xg16.here.top, hx, (hb hby d1_47), Xg16.method', hret, Value.isRef, FieldType.isReference]
              first | (intro acts; rw [hlv _ acts rfl rfl rfl]) | rw [hlv _ _ rfl rfl rfl]
              exact Steps.refl _
            · show Q_pick Z p1 wA_STANDARD wA_SUBSTANDARD wA_DOUBTFUL_1 wA_DOUBTFUL_2 wA_DOUBTFUL_3 wA_LOSS r h0 n0 _ Tg16.heap _
              rw [eg16]
              exact ⟨by rw [hres]; simp [c2, c5, c8, c11, c14], N0, rfl⟩
theorem d2_0 : decode prog_70_method_4_code 0 = .ok (.aload_n 0, 1) := by decide +kernel
theorem d2_1 : decode prog_70_method_4_code 1 = .ok (.getstatic 39, 3) := by decide +kernel
theorem d2_4 : decode prog_70_method_4_code 4 = .ok (.if_acmp .ne 9, 3) := by decide +kernel
theorem d2_7 : decode prog_70_method_4_code 7 = .ok (.getstatic 3, 3) := by decide +kernel
theorem d2_10 : decode prog_70_method_4_code 10 = .ok (.goto 6, 3) := by decide +kernel
theorem d2_13 : decode prog_70_method_4_code 13 = .ok (.getstatic 7, 3) := by decide +kernel
theorem d2_16 : decode prog_70_method_4_code 16 = .ok (.areturn, 1) := by decide +kernel
theorem pn_1 : plainName "com/example/munim/munim/journal/ProvisionHead" = true := by first | (simp [plainName, overriddenIn]; done) | decide +kernel
theorem ef_2_R (m : MethodId) (x0 : Addr) : entryFrame m #[(.ref x0)] 1 = mkF m 0 #[.val (.ref x0)] [] := by first | (simp [entryFrame, mkF, argsToLocals, Value.category]; done) | rfl
def Q_of (Z : State) (a : Addr) (wA_STANDARD : Addr) (wP_STANDARD : Addr) (wP_NPA : Addr) (r : Addr) (h0 : Heap) (n0 : Nat) (v : Option Value) (h : Heap) (L : List Loc) : Prop := v = some (.ref r) ∧ Fr n0 L ∧ h = h0
set_option maxRecDepth 65536 in
set_option maxHeartbeats 40000000 in
theorem rm_of (l : Launch) (Z : State) (a0 : Array Value) (hw : ∀ d ∈ tables_1, d.before a0 Z = true) (ws : List Jvm.Cond) (a : Addr) (wA_STANDARD : Addr) (wP_STANDARD : Addr) (wP_NPA : Addr) (r : Addr) (h0 : Heap) (n0 : Nat) (Z0 : n0 ≤ h0.size) (SA_STANDARD : Sta Z h0 "com/example/munim/munim/classify/AssetClass" "STANDARD" "Lcom/example/munim/munim/classify/AssetClass;" (.ref wA_STANDARD)) (SP_STANDARD : Sta Z h0 "com/example/munim/munim/journal/ProvisionHead" "STANDARD" "Lcom/example/munim/munim/journal/ProvisionHead;" (.ref wP_STANDARD)) (SP_NPA : Sta Z h0 "com/example/munim/munim/journal/ProvisionHead" "NPA" "Lcom/example/munim/munim/journal/ProvisionHead;" (.ref wP_NPA)) (hres : r = if a = wA_STANDARD then wP_STANDARD else wP_NPA) :
    MetFree l (⟨"com/example/munim/munim/journal/ProvisionHead", "of", "(Lcom/example/munim/munim/classify/AssetClass;)Lcom/example/munim/munim/journal/ProvisionHead;"⟩ : MethodName) (head1 (Jvm.Cond.code (⟨"com/example/munim/munim/journal/ProvisionHead", "of", "(Lcom/example/munim/munim/classify/AssetClass;)Lcom/example/munim/munim/journal/ProvisionHead;"⟩ : MethodName) prog_70_method_4_code 1 (some (.object "com/example/munim/munim/journal/ProvisionHead")) :: ws) ({ frames := 0, cells := 0, slots := 0, locals := 0 } : Room)) (fun A_ U => A_ = #[(.ref a)] ∧ Z.Warmed39 U.vm ∧ U.heap = h0) (fun _ _ _ _ _ => True) (fun _ U o U' => ∃ v L, o = .returned v ∧ Q_of Z a wA_STANDARD wP_STANDARD wP_NPA r h0 n0 v U'.heap L ∧ FrameEnd U o U' L ({ frames := 0, cells := 0, slots := 0, locals := 0 } : Room).cells ({ frames := 0, cells := 0, slots := 0, locals := 0 } : Room).slots) := by
  refine MetFree.of_bodySF (plainFor_of_name pn_1) hisR ?_
  intro p e s m args below meth c s₁ Bd hml0 hP hK
  obtain ⟨rfl, hZ, hh⟩ := hP
  have hx := Bd.exec
  have hby := Bd.bytes
  have hml : c.maxLocals = 1 := hml0
  have hown : s.vm.findClass "com/example/munim/munim/journal/ProvisionHead" = some m.cls := findClass_of_methodNamed Bd.named
  have hnm := (name_of_methodNamed Bd.named Bd.method).1
  have hret := Bd.returns
  have X0 : Stand p l e ({ frames := 0, cells := 0, slots := 0, locals := 0 } : Room) s m #[(.ref a)] below meth c s₁ [] 0 0 := Stand.of_body Bd
  have e0 : s₁.heap = h0 := by rw [← hh, Bd.state]; rfl
  have N0 := Fr.nil n0
  have pre0 : ∀ t, Sp p e below s₁ (mkF m 0 #[.val (.ref a)] []) t → Sp p e below s₁ (entryFrame m #[(.ref a)] 1) t := fun t k => castTop (ef_2_R m a) k
  obtain ⟨Tg1, Xg1, eg1, stg1⟩ := getS2 X0 hx hZ hown (host := "") (Or.inl (hw _ (List.mem_of_getElem? (i := 12) rfl))) Via.refl e0 SA_STANDARD (g := (mkF m 1 #[.val (.ref a)] [(.ref a)])) rfl (hb hby d2_1)
  have r2 : ∀ t, Sp p e below Tg1 (mkF m 4 #[.val (.ref a)] [(.ref wA_STANDARD), (.ref a)]) t → Sp p e below s₁ (entryFrame m #[(.ref a)] 1) t := by
    intro t k
    refine pre0 _ ?_
    refine XS.aloadN X0.here hx rfl (hb hby d2_0) rfl rfl ?_
    show Sp p e below s₁ (mkF m 1 #[.val (.ref a)] [(.ref a)]) _
    refine stg1 _ ?_
    show Sp p e below Tg1 (mkF m 4 #[.val (.ref a)] [(.ref wA_STANDARD), (.ref a)]) _
    exact k
  by_cases c3 : a = wA_STANDARD
  · obtain ⟨Tg4, Xg4, eg4, stg4⟩ := getS2 Xg1 hx hZ hown (host := "") (Or.inl (hw _ (List.mem_of_getElem? (i := 13) rfl))) Via.refl eg1 SP_STANDARD (g := (mkF m 7 #[.val (.ref a)] [])) rfl (hb hby d2_7)
    obtain ⟨fs, hlv, hrun, hended, hW, hsame⟩ := Xg4.leave (v := some (.ref wP_STANDARD)) (fun h => by rw [hret] at h; cases h)
    refine ⟨_, _, r2 _ ?_, hrun, hended, _, _, rfl, ?_, ⟨_, rfl⟩, hW, hsame.mono (by decide) (by decide)⟩
    · refine Jvm.RoadKit.acmp (g := (mkF m 4 #[.val (.ref a)] [(.ref wA_STANDARD), (.ref a)])) Xg1 hx rfl rfl rfl (pc0 := 4) (pc' := 7) (same := true) rfl (hb hby d2_4) rfl (decide_eq_true (congrArg Value.ref c3)) (by decide) (by decide) ?_
      show Sp p e below Tg1 (mkF m 7 #[.val (.ref a)] []) _
      refine stg4 _ ?_
      show Sp p e below Tg4 (mkF m 10 #[.val (.ref a)] [(.ref wP_STANDARD)]) _
      refine XS.goto Xg4.here hx rfl (pc0 := 10) (pc' := 16) rfl (hb hby d2_10) (by decide) (by decide) ?_
      show Sp p e below Tg4 (mkF m 16 #[.val (.ref a)] [(.ref wP_STANDARD)]) _
      jvm_step Xg4.here [Xg4.here.top, hx, (hb hby d2_16), Xg4.method', hret, Value.isRef, FieldType.isReference]
      first | (intro acts; rw [hlv _ acts rfl rfl rfl]) | rw [hlv _ _ rfl rfl rfl]
      exact Steps.refl _
    · show Q_of Z a wA_STANDARD wP_STANDARD wP_NPA r h0 n0 _ Tg4.heap _
      rw [eg4]
      exact ⟨by rw [hres]; simp [c3], N0, rfl⟩
  · obtain ⟨Tg5, Xg5, eg5, stg5⟩ := getS2 Xg1 hx hZ hown (host := "") (Or.inl (hw _ (List.mem_of_getElem? (i := 21) rfl))) Via.refl eg1 SP_NPA (g := (mkF m 13 #[.val (.ref a)] [])) rfl (hb hby d2_13)
    obtain ⟨fs, hlv, hrun, hended, hW, hsame⟩ := Xg5.leave (v := some (.ref wP_NPA)) (fun h => by rw [hret] at h; cases h)
    refine ⟨_, _, r2 _ ?_, hrun, hended, _, _, rfl, ?_, ⟨_, rfl⟩, hW, hsame.mono (by decide) (by decide)⟩
    · refine Jvm.RoadKit.acmp (g := (mkF m 4 #[.val (.ref a)] [(.ref wA_STANDARD), (.ref a)])) Xg1 hx rfl rfl rfl (pc0 := 4) (pc' := 13) (same := false) rfl (hb hby d2_4) rfl (decide_eq_false fun q => c3 (Value.ref.inj q)) (by decide) (by decide) ?_
      show Sp p e below Tg1 (mkF m 13 #[.val (.ref a)] []) _
      refine stg5 _ ?_
      show Sp p e below Tg5 (mkF m 16 #[.val (.ref a)] [(.ref wP_NPA)]) _
      jvm_step Xg5.here [Xg5.here.top, hx, (hb hby d2_16), Xg5.method', hret, Value.isRef, FieldType.isReference]
      first | (intro acts; rw [hlv _ acts rfl rfl rfl]) | rw [hlv _ _ rfl rfl rfl]
      exact Steps.refl _
    · show Q_of Z a wA_STANDARD wP_STANDARD wP_NPA r h0 n0 _ Tg5.heap _
      rw [eg5]
      exact ⟨by rw [hres]; simp [c3], N0, rfl⟩
theorem d3_0 : decode method_3_code 0 = .ok (.iload_n 0, 1) := by decide +kernel
theorem d3_1 : decode method_3_code 1 = .ok (.ifCond .ne 7, 3) := by decide +kernel
theorem d3_4 : decode method_3_code 4 = .ok (.getstatic 28, 3) := by decide +kernel
theorem d3_7 : decode method_3_code 7 = .ok (.areturn, 1) := by decide +kernel
theorem d3_8 : decode method_3_code 8 = .ok (.iload_n 0, 1) := by decide +kernel
theorem d3_9 : decode method_3_code 9 = .ok (.iconst 1, 1) := by decide +kernel
theorem d3_10 : decode method_3_code 10 = .ok (.if_icmp .ne 7, 3) := by decide +kernel
theorem d3_13 : decode method_3_code 13 = .ok (.getstatic 33, 3) := by decide +kernel
theorem d3_16 : decode method_3_code 16 = .ok (.areturn, 1) := by decide +kernel
theorem d3_17 : decode method_3_code 17 = .ok (.iload_n 0, 1) := by decide +kernel
theorem d3_18 : decode method_3_code 18 = .ok (.iconst 2, 1) := by decide +kernel
theorem d3_19 : decode method_3_code 19 = .ok (.if_icmp .ne 7, 3) := by decide +kernel
theorem d3_22 : decode method_3_code 22 = .ok (.getstatic 33, 3) := by decide +kernel
theorem d3_25 : decode method_3_code 25 = .ok (.areturn, 1) := by decide +kernel
theorem d3_26 : decode method_3_code 26 = .ok (.iload_n 0, 1) := by decide +kernel
theorem d3_27 : decode method_3_code 27 = .ok (.iconst 3, 1) := by decide +kernel
theorem d3_28 : decode method_3_code 28 = .ok (.if_icmp .ne 7, 3) := by decide +kernel
theorem d3_31 : decode method_3_code 31 = .ok (.getstatic 33, 3) := by decide +kernel
theorem d3_34 : decode method_3_code 34 = .ok (.areturn, 1) := by decide +kernel
theorem d3_35 : decode method_3_code 35 = .ok (.iload_n 0, 1) := by decide +kernel
theorem d3_36 : decode method_3_code 36 = .ok (.iconst 4, 1) := by decide +kernel
theorem d3_37 : decode method_3_code 37 = .ok (.if_icmp .ne 7, 3) := by decide +kernel
theorem d3_40 : decode method_3_code 40 = .ok (.getstatic 33, 3) := by decide +kernel
theorem d3_43 : decode method_3_code 43 = .ok (.areturn, 1) := by decide +kernel
theorem d3_44 : decode method_3_code 44 = .ok (.getstatic 33, 3) := by decide +kernel
theorem d3_47 : decode method_3_code 47 = .ok (.areturn, 1) := by decide +kernel
theorem ef_3_I (m : MethodId) (x0 : Int32) : entryFrame m #[(.int x0)] 1 = mkF m 0 #[.val (.int x0)] [] := by first | (simp [entryFrame, mkF, argsToLocals, Value.category]; done) | rfl
def Q_expected (Z : State) (p1 : Int32) (wP_STANDARD : Addr) (wP_NPA : Addr) (r : Addr) (h0 : Heap) (n0 : Nat) (v : Option Value) (h : Heap) (L : List Loc) : Prop := v = some (.ref r) ∧ Fr n0 L ∧ h = h0
set_option maxRecDepth 65536 in
set_option maxHeartbeats 40000000 in
theorem rm_expected (l : Launch) (Z : State) (a0 : Array Value) (hw : ∀ d ∈ tables_1, d.before a0 Z = true) (ws : List Jvm.Cond) (p1 : Int32) (wP_STANDARD : Addr) (wP_NPA : Addr) (r : Addr) (h0 : Heap) (n0 : Nat) (Z0 : n0 ≤ h0.size) (SP_STANDARD : Sta Z h0 "com/example/munim/munim/journal/ProvisionHead" "STANDARD" "Lcom/example/munim/munim/journal/ProvisionHead;" (.ref wP_STANDARD)) (SP_NPA : Sta Z h0 "com/example/munim/munim/journal/ProvisionHead" "NPA" "Lcom/example/munim/munim/journal/ProvisionHead;" (.ref wP_NPA)) (hres : r = if p1 = (0 : Int32) then wP_STANDARD else if p1 = (1 : Int32) then wP_NPA else if p1 = (2 : Int32) then wP_NPA else if p1 = (3 : Int32) then wP_NPA else if p1 = (4 : Int32) then wP_NPA else wP_NPA) :
    MetFree l (⟨"com/example/munim/munim/journal/ProvisionHeadOfPinLaw", "expected", "(I)Lcom/example/munim/munim/journal/ProvisionHead;"⟩ : MethodName) (head1 (Jvm.Cond.code (⟨"com/example/munim/munim/journal/ProvisionHeadOfPinLaw", "expected", "(I)Lcom/example/munim/munim/journal/ProvisionHead;"⟩ : MethodName) method_3_code 1 (some (.object "com/example/munim/munim/journal/ProvisionHead")) :: ws) ({ frames := 0, cells := 0, slots := 0, locals := 0 } : Room)) (fun A_ U => A_ = #[(.int p1)] ∧ Z.Warmed39 U.vm ∧ U.heap = h0) (fun _ _ _ _ _ => True) (fun _ U o U' => ∃ v L, o = .returned v ∧ Q_expected Z p1 wP_STANDARD wP_NPA r h0 n0 v U'.heap L ∧ FrameEnd U o U' L ({ frames := 0, cells := 0, slots := 0, locals := 0 } : Room).cells ({ frames := 0, cells := 0, slots := 0, locals := 0 } : Room).slots) := by
  refine MetFree.of_bodySF (plainFor_of_name pn_0) hisR ?_
  intro p e s m args below meth c s₁ Bd hml0 hP hK
  obtain ⟨rfl, hZ, hh⟩ := hP
  have hx := Bd.exec
  have hby := Bd.bytes
  have hml : c.maxLocals = 1 := hml0
  have hown : s.vm.findClass "com/example/munim/munim/journal/ProvisionHeadOfPinLaw" = some m.cls := findClass_of_methodNamed Bd.named
  have hnm := (name_of_methodNamed Bd.named Bd.method).1
  have hret := Bd.returns
  have X0 : Stand p l e ({ frames := 0, cells := 0, slots := 0, locals := 0 } : Room) s m #[(.int p1)] below meth c s₁ [] 0 0 := Stand.of_body Bd
  have e0 : s₁.heap = h0 := by rw [← hh, Bd.state]; rfl
  have N0 := Fr.nil n0
  have pre0 : ∀ t, Sp p e below s₁ (mkF m 0 #[.val (.int p1)] []) t → Sp p e below s₁ (entryFrame m #[(.int p1)] 1) t := fun t k => castTop (ef_3_I m p1) k
  have r1 : ∀ t, Sp p e below s₁ (mkF m 1 #[.val (.int p1)] [(.int p1)]) t → Sp p e below s₁ (entryFrame m #[(.int p1)] 1) t := by
    intro t k
    refine pre0 _ ?_
    refine XS.iloadN X0.here hx rfl (hb hby d3_0) rfl ?_
    show Sp p e below s₁ (mkF m 1 #[.val (.int p1)] [(.int p1)]) _
    exact k
  by_cases c2 : p1 = (0 : Int32)
  · obtain ⟨Tg3, Xg3, eg3, stg3⟩ := getS2 X0 hx hZ hown (host := "") (Or.inl (hw _ (List.mem_of_getElem? (i := 18) rfl))) Via.refl e0 SP_STANDARD (g := (mkF m 4 #[.val (.int p1)] [])) rfl (hb hby d3_4)
    obtain ⟨fs, hlv, hrun, hended, hW, hsame⟩ := Xg3.leave (v := some (.ref wP_STANDARD)) (fun h => by rw [hret] at h; cases h)
    refine ⟨_, _, r1 _ ?_, hrun, hended, _, _, rfl, ?_, ⟨_, rfl⟩, hW, hsame.mono (by decide) (by decide)⟩
    · refine XS.ifNo X0.here hx rfl (hb hby d3_1) rfl ((if0 _ _).trans (teq c2).2) ?_
      show Sp p e below s₁ (mkF m 4 #[.val (.int p1)] []) _
      refine stg3 _ ?_
      show Sp p e below Tg3 (mkF m 7 #[.val (.int p1)] [(.ref wP_STANDARD)]) _
      jvm_step Xg3.here [Xg3.here.top, hx, (hb hby d3_7), Xg3.method', hret, Value.isRef, FieldType.isReference]
      first | (intro acts; rw [hlv _ acts rfl rfl rfl]) | rw [hlv _ _ rfl rfl rfl]
      exact Steps.refl _
    · show Q_expected Z p1 wP_STANDARD wP_NPA r h0 n0 _ Tg3.heap _
      rw [eg3]
      exact ⟨by rw [hres]; simp [c2], N0, rfl⟩
  · have r4 : ∀ t, Sp p e below s₁ (mkF m 10 #[.val (.int p1)] [(.int (1 : Int32)), (.int p1)]) t → Sp p e below s₁ (entryFrame m #[(.int p1)] 1) t := by
      intro t k
      refine r1 _ ?_
      refine XS.ifYes X0.here hx rfl (pc0 := 1) (pc' := 8) rfl (hb hby d3_1) rfl ((if0 _ _).trans (feq c2).2) (by decide) (by decide) ?_
      show Sp p e below s₁ (mkF m 8 #[.val (.int p1)] []) _
      refine XS.iloadN X0.here hx rfl (hb hby d3_8) rfl ?_
      show Sp p e below s₁ (mkF m 9 #[.val (.int p1)] [(.int p1)]) _
      refine XS.iconst X0.here hx rfl (hb hby d3_9) ?_
      show Sp p e below s₁ (mkF m 10 #[.val (.int p1)] [(.int (1 : Int32)), (.int p1)]) _
      exact k
    by_cases c5 : p1 = (1 : Int32)
    · obtain ⟨Tg6, Xg6, eg6, stg6⟩ := getS2 X0 hx hZ hown (host := "") (Or.inl (hw _ (List.mem_of_getElem? (i := 23) rfl))) Via.refl e0 SP_NPA (g := (mkF m 13 #[.val (.int p1)] [])) rfl (hb hby d3_13)
      obtain ⟨fs, hlv, hrun, hended, hW, hsame⟩ := Xg6.leave (v := some (.ref wP_NPA)) (fun h => by rw [hret] at h; cases h)
      refine ⟨_, _, r4 _ ?_, hrun, hended, _, _, rfl, ?_, ⟨_, rfl⟩, hW, hsame.mono (by decide) (by decide)⟩
      · refine XS.icmpNo X0.here hx rfl (hb hby d3_10) rfl (teq c5).2 ?_
        show Sp p e below s₁ (mkF m 13 #[.val (.int p1)] []) _
        refine stg6 _ ?_
        show Sp p e below Tg6 (mkF m 16 #[.val (.int p1)] [(.ref wP_NPA)]) _
        jvm_step Xg6.here [Xg6.here.top, hx, (hb hby d3_16), Xg6.method', hret, Value.isRef, FieldType.isReference]
        first | (intro acts; rw [hlv _ acts rfl rfl rfl]) | rw [hlv _ _ rfl rfl rfl]
        exact Steps.refl _
      · show Q_expected Z p1 wP_STANDARD wP_NPA r h0 n0 _ Tg6.heap _
        rw [eg6]
        exact ⟨by rw [hres]; simp [c2, c5], N0, rfl⟩
    · have r7 : ∀ t, Sp p e below s₁ (mkF m 19 #[.val (.int p1)] [(.int (2 : Int32)), (.int p1)]) t → Sp p e below s₁ (entryFrame m #[(.int p1)] 1) t := by
        intro t k
        refine r4 _ ?_
        refine XS.icmpYes X0.here hx rfl (pc0 := 10) (pc' := 17) rfl (hb hby d3_10) rfl (feq c5).2 (by decide) (by decide) ?_
        show Sp p e below s₁ (mkF m 17 #[.val (.int p1)] []) _
        refine XS.iloadN X0.here hx rfl (hb hby d3_17) rfl ?_
        show Sp p e below s₁ (mkF m 18 #[.val (.int p1)] [(.int p1)]) _
        refine XS.iconst X0.here hx rfl (hb hby d3_18) ?_
        show Sp p e below s₁ (mkF m 19 #[.val (.int p1)] [(.int (2 : Int32)), (.int p1)]) _
        exact k
      by_cases c8 : p1 = (2 : Int32)
      · obtain ⟨Tg9, Xg9, eg9, stg9⟩ := getS2 X0 hx hZ hown (host := "") (Or.inl (hw _ (List.mem_of_getElem? (i := 23) rfl))) Via.refl e0 SP_NPA (g := (mkF m 22 #[.val (.int p1)] [])) rfl (hb hby d3_22)
        obtain ⟨fs, hlv, hrun, hended, hW, hsame⟩ := Xg9.leave (v := some (.ref wP_NPA)) (fun h => by rw [hret] at h; cases h)
        refine ⟨_, _, r7 _ ?_, hrun, hended, _, _, rfl, ?_, ⟨_, rfl⟩, hW, hsame.mono (by decide) (by decide)⟩
        · refine XS.icmpNo X0.here hx rfl (hb hby d3_19) rfl (teq c8).2 ?_
          show Sp p e below s₁ (mkF m 22 #[.val (.int p1)] []) _
          refine stg9 _ ?_
          show Sp p e below Tg9 (mkF m 25 #[.val (.int p1)] [(.ref wP_NPA)]) _
          jvm_step Xg9.here [Xg9.here.top, hx, (hb hby d3_25), Xg9.method', hret, Value.isRef, FieldType.isReference]
          first | (intro acts; rw [hlv _ acts rfl rfl rfl]) | rw [hlv _ _ rfl rfl rfl]
          exact Steps.refl _
        · show Q_expected Z p1 wP_STANDARD wP_NPA r h0 n0 _ Tg9.heap _
          rw [eg9]
          exact ⟨by rw [hres]; simp [c2, c5, c8], N0, rfl⟩
      · have r10 : ∀ t, Sp p e below s₁ (mkF m 28 #[.val (.int p1)] [(.int (3 : Int32)), (.int p1)]) t → Sp p e below s₁ (entryFrame m #[(.int p1)] 1) t := by
          intro t k
          refine r7 _ ?_
          refine XS.icmpYes X0.here hx rfl (pc0 := 19) (pc' := 26) rfl (hb hby d3_19) rfl (feq c8).2 (by decide) (by decide) ?_
          show Sp p e below s₁ (mkF m 26 #[.val (.int p1)] []) _
          refine XS.iloadN X0.here hx rfl (hb hby d3_26) rfl ?_
          show Sp p e below s₁ (mkF m 27 #[.val (.int p1)] [(.int p1)]) _
          refine XS.iconst X0.here hx rfl (hb hby d3_27) ?_
          show Sp p e below s₁ (mkF m 28 #[.val (.int p1)] [(.int (3 : Int32)), (.int p1)]) _
          exact k
        by_cases c11 : p1 = (3 : Int32)
        · obtain ⟨Tg12, Xg12, eg12, stg12⟩ := getS2 X0 hx hZ hown (host := "") (Or.inl (hw _ (List.mem_of_getElem? (i := 23) rfl))) Via.refl e0 SP_NPA (g := (mkF m 31 #[.val (.int p1)] [])) rfl (hb hby d3_31)
          obtain ⟨fs, hlv, hrun, hended, hW, hsame⟩ := Xg12.leave (v := some (.ref wP_NPA)) (fun h => by rw [hret] at h; cases h)
          refine ⟨_, _, r10 _ ?_, hrun, hended, _, _, rfl, ?_, ⟨_, rfl⟩, hW, hsame.mono (by decide) (by decide)⟩
          · refine XS.icmpNo X0.here hx rfl (hb hby d3_28) rfl (teq c11).2 ?_
            show Sp p e below s₁ (mkF m 31 #[.val (.int p1)] []) _
            refine stg12 _ ?_
            show Sp p e below Tg12 (mkF m 34 #[.val (.int p1)] [(.ref wP_NPA)]) _
            jvm_step Xg12.here [Xg12.here.top, hx, (hb hby d3_34), Xg12.method', hret, Value.isRef, FieldType.isReference]
            first | (intro acts; rw [hlv _ acts rfl rfl rfl]) | rw [hlv _ _ rfl rfl rfl]
            exact Steps.refl _
          · show Q_expected Z p1 wP_STANDARD wP_NPA r h0 n0 _ Tg12.heap _
            rw [eg12]
            exact ⟨by rw [hres]; simp [c2, c5, c8, c11], N0, rfl⟩
        · have r13 : ∀ t, Sp p e below s₁ (mkF m 37 #[.val (.int p1)] [(.int (4 : Int32)), (.int p1)]) t → Sp p e below s₁ (entryFrame m #[(.int p1)] 1) t := by
            intro t k
            refine r10 _ ?_
            refine XS.icmpYes X0.here hx rfl (pc0 := 28) (pc' := 35) rfl (hb hby d3_28) rfl (feq c11).2 (by decide) (by decide) ?_
            show Sp p e below s₁ (mkF m 35 #[.val (.int p1)] []) _
            refine XS.iloadN X0.here hx rfl (hb hby d3_35) rfl ?_
            show Sp p e below s₁ (mkF m 36 #[.val (.int p1)] [(.int p1)]) _
            refine XS.iconst X0.here hx rfl (hb hby d3_36) ?_
            show Sp p e below s₁ (mkF m 37 #[.val (.int p1)] [(.int (4 : Int32)), (.int p1)]) _
            exact k
          by_cases c14 : p1 = (4 : Int32)
          · obtain ⟨Tg15, Xg15, eg15, stg15⟩ := getS2 X0 hx hZ hown (host := "") (Or.inl (hw _ (List.mem_of_getElem? (i := 23) rfl))) Via.refl e0 SP_NPA (g := (mkF m 40 #[.val (.int p1)] [])) rfl (hb hby d3_40)
            obtain ⟨fs, hlv, hrun, hended, hW, hsame⟩ := Xg15.leave (v := some (.ref wP_NPA)) (fun h => by rw [hret] at h; cases h)
            refine ⟨_, _, r13 _ ?_, hrun, hended, _, _, rfl, ?_, ⟨_, rfl⟩, hW, hsame.mono (by decide) (by decide)⟩
            · refine XS.icmpNo X0.here hx rfl (hb hby d3_37) rfl (teq c14).2 ?_
              show Sp p e below s₁ (mkF m 40 #[.val (.int p1)] []) _
              refine stg15 _ ?_
              show Sp p e below Tg15 (mkF m 43 #[.val (.int p1)] [(.ref wP_NPA)]) _
              jvm_step Xg15.here [Xg15.here.top, hx, (hb hby d3_43), Xg15.method', hret, Value.isRef, FieldType.isReference]
              first | (intro acts; rw [hlv _ acts rfl rfl rfl]) | rw [hlv _ _ rfl rfl rfl]
              exact Steps.refl _
            · show Q_expected Z p1 wP_STANDARD wP_NPA r h0 n0 _ Tg15.heap _
              rw [eg15]
              exact ⟨by rw [hres]; simp [c2, c5, c8, c11, c14], N0, rfl⟩
          · obtain ⟨Tg16, Xg16, eg16, stg16⟩ := getS2 X0 hx hZ hown (host := "") (Or.inl (hw _ (List.mem_of_getElem? (i := 23) rfl))) Via.refl e0 SP_NPA (g := (mkF m 44 #[.val (.int p1)] [])) rfl (hb hby d3_44)
            obtain ⟨fs, hlv, hrun, hended, hW, hsame⟩ := Xg16.leave (v := some (.ref wP_NPA)) (fun h => by rw [hret] at h; cases h)
            refine ⟨_, _, r13 _ ?_, hrun, hended, _, _, rfl, ?_, ⟨_, rfl⟩, hW, hsame.mono (by decide) (by decide)⟩
            · refine XS.icmpYes X0.here hx rfl (pc0 := 37) (pc' := 44) rfl (hb hby d3_37) rfl (feq c14).2 (by decide) (by decide) ?_
              show Sp p e below s₁ (mkF m 44 #[.val (.int p1)] []) _
              refine stg16 _ ?_
              show Sp p e below Tg16 (mkF m 47 #[.val (.int p1)] [(.ref wP_NPA)]) _
              jvm_step Xg16.here [Xg16.here.top, hx, (hb hby d3_47), Xg16.method', hret, Value.isRef, FieldType.isReference]
              first | (intro acts; rw [hlv _ acts rfl rfl rfl]) | rw [hlv _ _ rfl rfl rfl]
              exact Steps.refl _
            · show Q_expected Z p1 wP_STANDARD wP_NPA r h0 n0 _ Tg16.heap _
              rw [eg16]
              exact ⟨by rw [hres]; simp [c2, c5, c8, c11, c14], N0, rfl⟩
theorem ef_0_I (m : MethodId) (x0 : Int32) : entryFrame m #[(.int x0)] maxLocals = mkF m 0 #[.val (.int x0), .unset, .unset, .unset] [] := by first | (simp [entryFrame, mkF, argsToLocals, Value.category, maxLocals]; done) | rfl
theorem pd__I_Lcom_example_munim_munim_classify_AssetClass_ : parseMethodDescriptor "(I)Lcom/example/munim/munim/classify/AssetClass;" = some ⟨[.int], some (.object "com/example/munim/munim/classify/AssetClass")⟩ := by decide +kernel
theorem pd__Lcom_example_munim_munim_classify_AssetClass__Lcom_example_munim_munim_journal_ProvisionHead_ : parseMethodDescriptor "(Lcom/example/munim/munim/classify/AssetClass;)Lcom/example/munim/munim/journal/ProvisionHead;" = some ⟨[(.object "com/example/munim/munim/classify/AssetClass")], some (.object "com/example/munim/munim/journal/ProvisionHead")⟩ := by decide +kernel
theorem pd__I_Lcom_example_munim_munim_journal_ProvisionHead_ : parseMethodDescriptor "(I)Lcom/example/munim/munim/journal/ProvisionHead;" = some ⟨[.int], some (.object "com/example/munim/munim/journal/ProvisionHead")⟩ := by decide +kernel
def Q_law (Z : State) (p1 : Int32) (wA_STANDARD : Addr) (wA_SUBSTANDARD : Addr) (wA_DOUBTFUL_1 : Addr) (wA_DOUBTFUL_2 : Addr) (wA_DOUBTFUL_3 : Addr) (wA_LOSS : Addr) (wP_STANDARD : Addr) (wP_NPA : Addr) (h0 : Heap) (n0 : Nat) (v : Option Value) (h : Heap) (L : List Loc) : Prop := v = some (.int 1) ∧ Fr n0 L
set_option maxRecDepth 65536 in
set_option maxHeartbeats 40000000 in
theorem rm_law (l : Launch) (Z : State) (a0 : Array Value) (hw : ∀ d ∈ tables_1, d.before a0 Z = true) (ws : List Jvm.Cond) (p1 : Int32) (wA_STANDARD : Addr) (wA_SUBSTANDARD : Addr) (wA_DOUBTFUL_1 : Addr) (wA_DOUBTFUL_2 : Addr) (wA_DOUBTFUL_3 : Addr) (wA_LOSS : Addr) (wP_STANDARD : Addr) (wP_NPA : Addr) (h0 : Heap) (n0 : Nat) (Z0 : n0 ≤ h0.size) (SA_STANDARD : Sta Z h0 "com/example/munim/munim/classify/AssetClass" "STANDARD" "Lcom/example/munim/munim/classify/AssetClass;" (.ref wA_STANDARD)) (SA_SUBSTANDARD : Sta Z h0 "com/example/munim/munim/classify/AssetClass" "SUBSTANDARD" "Lcom/example/munim/munim/classify/AssetClass;" (.ref wA_SUBSTANDARD)) (SA_DOUBTFUL_1 : Sta Z h0 "com/example/munim/munim/classify/AssetClass" "DOUBTFUL_1" "Lcom/example/munim/munim/classify/AssetClass;" (.ref wA_DOUBTFUL_1)) (SA_DOUBTFUL_2 : Sta Z h0 "com/example/munim/munim/classify/AssetClass" "DOUBTFUL_2" "Lcom/example/munim/munim/classify/AssetClass;" (.ref wA_DOUBTFUL_2)) (SA_DOUBTFUL_3 : Sta Z h0 "com/example/munim/munim/classify/AssetClass" "DOUBTFUL_3" "Lcom/example/munim/munim/classify/AssetClass;" (.ref wA_DOUBTFUL_3)) (SA_LOSS : Sta Z h0 "com/example/munim/munim/classify/AssetClass" "LOSS" "Lcom/example/munim/munim/classify/AssetClass;" (.ref wA_LOSS)) (SP_STANDARD : Sta Z h0 "com/example/munim/munim/journal/ProvisionHead" "STANDARD" "Lcom/example/munim/munim/journal/ProvisionHead;" (.ref wP_STANDARD)) (SP_NPA : Sta Z h0 "com/example/munim/munim/journal/ProvisionHead" "NPA" "Lcom/example/munim/munim/journal/ProvisionHead;" (.ref wP_NPA)) (nA_SUBSTANDARD_STANDARD : ¬ (wA_SUBSTANDARD = wA_STANDARD)) (nA_DOUBTFUL_1_STANDARD : ¬ (wA_DOUBTFUL_1 = wA_STANDARD)) (nA_DOUBTFUL_2_STANDARD : ¬ (wA_DOUBTFUL_2 = wA_STANDARD)) (nA_DOUBTFUL_3_STANDARD : ¬ (wA_DOUBTFUL_3 = wA_STANDARD)) (nA_LOSS_STANDARD : ¬ (wA_LOSS = wA_STANDARD)) :
    MetFree l x (head1 (Jvm.Cond.code x code maxLocals ret :: ws) room_1) (fun A_ U => A_ = #[(.int p1)] ∧ Z.Warmed39 U.vm ∧ U.heap = h0) (fun _ _ _ _ _ => True) (fun _ U o U' => ∃ v L, o = .returned v ∧ Q_law Z p1 wA_STANDARD wA_SUBSTANDARD wA_DOUBTFUL_1 wA_DOUBTFUL_2 wA_DOUBTFUL_3 wA_LOSS wP_STANDARD wP_NPA h0 n0 v U'.heap L ∧ FrameEnd U o U' L room_1.cells room_1.slots) := by
  refine MetFree.of_bodySF (plainFor_of_name pn_0) hisR ?_
  intro p e s m args below meth c s₁ Bd hml0 hP hK
  obtain ⟨rfl, hZ, hh⟩ := hP
  have hx := Bd.exec
  have hby := Bd.bytes
  have hml : c.maxLocals = 4 := hml0
  have hown : s.vm.findClass "com/example/munim/munim/journal/ProvisionHeadOfPinLaw" = some m.cls := findClass_of_methodNamed Bd.named
  have hnm := (name_of_methodNamed Bd.named Bd.method).1
  have hret := Bd.returns
  have X0 : Stand p l e room_1 s m #[(.int p1)] below meth c s₁ [] 0 0 := Stand.of_body Bd
  have e0 : s₁.heap = h0 := by rw [← hh, Bd.state]; rfl
  have N0 := Fr.nil n0
  have pre0 : ∀ t, Sp p e below s₁ (mkF m 0 #[.val (.int p1), .unset, .unset, .unset] []) t → Sp p e below s₁ (entryFrame m #[(.int p1)] maxLocals) t := fun t k => castTop (ef_0_I m p1) k
  obtain ⟨rp, hp⟩ : ∃ z : Addr, z = if ((p1 &&& (2147483647 : Int32)) % (6 : Int32)) = (0 : Int32) then wA_STANDARD else if ((p1 &&& (2147483647 : Int32)) % (6 : Int32)) = (1 : Int32) then wA_SUBSTANDARD else if ((p1 &&& (2147483647 : Int32)) % (6 : Int32)) = (2 : Int32) then wA_DOUBTFUL_1 else if ((p1 &&& (2147483647 : Int32)) % (6 : Int32)) = (3 : Int32) then wA_DOUBTFUL_2 else if ((p1 &&& (2147483647 : Int32)) % (6 : Int32)) = (4 : Int32) then wA_DOUBTFUL_3 else wA_LOSS := ⟨_, rfl⟩
  obtain ⟨_, _, ⟨Tk1, Lk1, kk1, nk1⟩, -, Xk1, ⟨Lck1, hQk1, lk1, yk1, zk1⟩, stk1⟩ := Jvm.LawKit.callS X0 hx (y := (⟨"com/example/munim/munim/journal/ProvisionHeadOfPinLaw", "pick", "(I)Lcom/example/munim/munim/classify/AssetClass;"⟩ : MethodName)) hown (mvT hZ (hw _ (List.mem_of_getElem? (i := 1) rfl))) (mvT hZ (hw _ (List.mem_of_getElem? (i := 2) rfl))) (mvT hZ (hw _ (List.mem_of_getElem? (i := 3) rfl))) (mvT hZ (hw _ (List.mem_of_getElem? (i := 4) rfl))) (by decide) (backOf (W := 0) (rm_pick l Z a0 hw [] ((p1 &&& (2147483647 : Int32)) % (6 : Int32)) wA_STANDARD wA_SUBSTANDARD wA_DOUBTFUL_1 wA_DOUBTFUL_2 wA_DOUBTFUL_3 wA_LOSS rp h0 n0 Z0 SA_STANDARD SA_SUBSTANDARD SA_DOUBTFUL_1 SA_DOUBTFUL_2 SA_DOUBTFUL_3 SA_LOSS hp) hZ (hw _ (List.mem_of_getElem? (i := 4) rfl)) (hw _ (List.mem_of_getElem? (i := 3) rfl)) (by decide) (by decide)) (g := (mkF m 9 #[.val (.int p1), .val (.int ((p1 &&& (2147483647 : Int32)) % (6 : Int32))), .unset, .unset] [(.int ((p1 &&& (2147483647 : Int32)) % (6 : Int32)))])) rfl (by rw [hml]; rfl) (argsL := [(.int ((p1 &&& (2147483647 : Int32)) % (6 : Int32)))]) (rest := []) (lenOf pd__I_Lcom_example_munim_munim_classify_AssetClass_ rfl) rfl (by show 2 * 0 + _ ≤ _; exact Nat.le_of_eq rfl) (hb hby at_9) (fun _ _ => ⟨rfl, e0, (by decide : 0 + 0 ≤ _), (by decide : 0 + 0 ≤ _)⟩)
  dsimp only [Pt.U, Pt.locs, Pt.cells, Pt.slots] at Xk1 lk1 yk1 zk1 stk1 hQk1
  subst lk1 yk1 zk1
  obtain ⟨rfl, Nk1q, ek1⟩ := hQk1
  have Nk1 := Fr.app N0 Nk1q
  obtain ⟨ro, ho⟩ : ∃ z : Addr, z = if rp = wA_STANDARD then wP_STANDARD else wP_NPA := ⟨_, rfl⟩
  obtain ⟨_, _, ⟨Tk2, Lk2, kk2, nk2⟩, -, Xk2, ⟨Lck2, hQk2, lk2, yk2, zk2⟩, stk2⟩ := Jvm.LawKit.callS Xk1 hx (y := (⟨"com/example/munim/munim/journal/ProvisionHead", "of", "(Lcom/example/munim/munim/classify/AssetClass;)Lcom/example/munim/munim/journal/ProvisionHead;"⟩ : MethodName)) hown (mvT hZ (hw _ (List.mem_of_getElem? (i := 8) rfl))) (mvT hZ (hw _ (List.mem_of_getElem? (i := 9) rfl))) (mvT hZ (hw _ (List.mem_of_getElem? (i := 10) rfl))) (mvT hZ (hw _ (List.mem_of_getElem? (i := 11) rfl))) (by decide) (backOf (W := 0) (rm_of l Z a0 hw [] rp wA_STANDARD wP_STANDARD wP_NPA ro h0 n0 Z0 SA_STANDARD SP_STANDARD SP_NPA ho) hZ (hw _ (List.mem_of_getElem? (i := 11) rfl)) (hw _ (List.mem_of_getElem? (i := 10) rfl)) (by decide) (by decide)) (g := (mkF m 14 #[.val (.int p1), .val (.int ((p1 &&& (2147483647 : Int32)) % (6 : Int32))), .val (.ref rp), .unset] [(.ref rp)])) rfl (by rw [hml]; rfl) (argsL := [(.ref rp)]) (rest := []) (lenOf pd__Lcom_example_munim_munim_classify_AssetClass__Lcom_example_munim_munim_journal_ProvisionHead_ rfl) rfl (by show 2 * 0 + _ ≤ _; exact Nat.le_of_eq rfl) (hb hby at_14) (fun _ _ => ⟨rfl, ek1, (by decide : 0 + 0 ≤ _), (by decide : 0 + 0 ≤ _)⟩)
  dsimp only [Pt.U, Pt.locs, Pt.cells, Pt.slots] at Xk2 lk2 yk2 zk2 stk2 hQk2
  subst lk2 yk2 zk2
  obtain ⟨rfl, Nk2q, ek2⟩ := hQk2
  have Nk2 := Fr.app Nk1 Nk2q
  obtain ⟨rx, he⟩ : ∃ z : Addr, z = if ((p1 &&& (2147483647 : Int32)) % (6 : Int32)) = (0 : Int32) then wP_STANDARD else if ((p1 &&& (2147483647 : Int32)) % (6 : Int32)) = (1 : Int32) then wP_NPA else if ((p1 &&& (2147483647 : Int32)) % (6 : Int32)) = (2 : Int32) then wP_NPA else if ((p1 &&& (2147483647 : Int32)) % (6 : Int32)) = (3 : Int32) then wP_NPA else if ((p1 &&& (2147483647 : Int32)) % (6 : Int32)) = (4 : Int32) then wP_NPA else wP_NPA := ⟨_, rfl⟩
  have heq : ro = rx := by
    rw [ho, he, hp]
    generalize ((p1 &&& (2147483647 : Int32)) % (6 : Int32)) = z
    by_cases b0 : z = (0 : Int32)
    · simp [b0]
    by_cases b1 : z = (1 : Int32)
    · simp [b1, nA_SUBSTANDARD_STANDARD]
    by_cases b2 : z = (2 : Int32)
    · simp [b2, nA_DOUBTFUL_1_STANDARD]
    by_cases b3 : z = (3 : Int32)
    · simp [b3, nA_DOUBTFUL_2_STANDARD]
    by_cases b4 : z = (4 : Int32)
    · simp [b4, nA_DOUBTFUL_3_STANDARD]
    simp [b0, b1, b2, b3, b4, nA_LOSS_STANDARD]
  obtain ⟨_, _, ⟨Tk3, Lk3, kk3, nk3⟩, -, Xk3, ⟨Lck3, hQk3, lk3, yk3, zk3⟩, stk3⟩ := Jvm.LawKit.callS Xk2 hx (y := (⟨"com/example/munim/munim/journal/ProvisionHeadOfPinLaw", "expected", "(I)Lcom/example/munim/munim/journal/ProvisionHead;"⟩ : MethodName)) hown (mvT hZ (hw _ (List.mem_of_getElem? (i := 15) rfl))) (mvT hZ (hw _ (List.mem_of_getElem? (i := 16) rfl))) (mvT hZ (hw _ (List.mem_of_getElem? (i := 3) rfl))) (mvT hZ (hw _ (List.mem_of_getElem? (i := 17) rfl))) (by decide) (backOf (W := 1) (rm_expected l Z a0 hw [] ((p1 &&& (2147483647 : Int32)) % (6 : Int32)) wP_STANDARD wP_NPA rx h0 n0 Z0 SP_STANDARD SP_NPA he) hZ (hw _ (List.mem_of_getElem? (i := 17) rfl)) (hw _ (List.mem_of_getElem? (i := 3) rfl)) (by decide) (by decide)) (g := (mkF m 20 #[.val (.int p1), .val (.int ((p1 &&& (2147483647 : Int32)) % (6 : Int32))), .val (.ref rp), .val (.ref ro)] [(.int ((p1 &&& (2147483647 : Int32)) % (6 : Int32))), (.ref ro)])) rfl (by rw [hml]; rfl) (argsL := [(.int ((p1 &&& (2147483647 : Int32)) % (6 : Int32)))]) (rest := [(.ref ro)]) (lenOf pd__I_Lcom_example_munim_munim_journal_ProvisionHead_ rfl) rfl (by show 2 * 0 + _ ≤ _; exact Nat.le_of_eq rfl) (hb hby at_20) (fun _ _ => ⟨rfl, ek2, (by decide : 0 + 0 ≤ _), (by decide : 0 + 0 ≤ _)⟩)
  dsimp only [Pt.U, Pt.locs, Pt.cells, Pt.slots] at Xk3 lk3 yk3 zk3 stk3 hQk3
  subst lk3 yk3 zk3
  obtain ⟨rfl, Nk3q, ek3⟩ := hQk3
  have Nk3 := Fr.app Nk2 Nk3q
  obtain ⟨fs, hlv, hrun, hended, hW, hsame⟩ := Xk3.leave (v := some (.int (1 : Int32))) (fun h => by rw [hret] at h; cases h)
  refine ⟨_, _, pre0 _ ?_, hrun, hended, _, _, rfl, ?_, ⟨_, rfl⟩, hW, hsame.mono (by decide) (by decide)⟩
  · refine XS.iloadN X0.here hx rfl (hb hby at_0) rfl ?_
    show Sp p e below s₁ (mkF m 1 #[.val (.int p1), .unset, .unset, .unset] [(.int p1)]) _
    refine Jvm.Stand.ldcI X0 hx hown (mvT hZ (hw _ (List.mem_of_getElem? (i := 0) rfl))) rfl (hb hby at_1) ?_
    show Sp p e below s₁ (mkF m 3 #[.val (.int p1), .unset, .unset, .unset] [(.int (2147483647 : Int32)), (.int p1)]) _
    refine XS.iand X0.here hx rfl (hb hby at_3) rfl ?_
    show Sp p e below s₁ (mkF m 4 #[.val (.int p1), .unset, .unset, .unset] [(.int (p1 &&& (2147483647 : Int32)))]) _
    refine XS.bipush X0.here hx rfl (hb hby at_4) ?_
    show Sp p e below s₁ (mkF m 6 #[.val (.int p1), .unset, .unset, .unset] [(.int (6 : Int32)), (.int (p1 &&& (2147483647 : Int32)))]) _
    refine iremM X0 hx rfl (hb hby at_6) rfl (by decide) ?_
    show Sp p e below s₁ (mkF m 7 #[.val (.int p1), .unset, .unset, .unset] [(.int ((p1 &&& (2147483647 : Int32)) % (6 : Int32)))]) _
    refine XS.istoreN X0.here hx rfl (hb hby at_7) rfl (l' := #[.val (.int p1), .val (.int ((p1 &&& (2147483647 : Int32)) % (6 : Int32))), .unset, .unset]) rfl ?_
    show Sp p e below s₁ (mkF m 8 #[.val (.int p1), .val (.int ((p1 &&& (2147483647 : Int32)) % (6 : Int32))), .unset, .unset] []) _
    refine XS.iloadN X0.here hx rfl (hb hby at_8) rfl ?_
    show Sp p e below s₁ (mkF m 9 #[.val (.int p1), .val (.int ((p1 &&& (2147483647 : Int32)) % (6 : Int32))), .unset, .unset] [(.int ((p1 &&& (2147483647 : Int32)) % (6 : Int32)))]) _
    refine stk1 _ ?_
    show Sp p e below Tk1 (mkF m 12 #[.val (.int p1), .val (.int ((p1 &&& (2147483647 : Int32)) % (6 : Int32))), .unset, .unset] [(.ref rp)]) _
    refine XS.astoreN Xk1.here hx rfl (hb hby at_12) rfl rfl (l' := #[.val (.int p1), .val (.int ((p1 &&& (2147483647 : Int32)) % (6 : Int32))), .val (.ref rp), .unset]) rfl ?_
    show Sp p e below Tk1 (mkF m 13 #[.val (.int p1), .val (.int ((p1 &&& (2147483647 : Int32)) % (6 : Int32))), .val (.ref rp), .unset] []) _
    refine XS.aloadN Xk1.here hx rfl (hb hby at_13) rfl rfl ?_
    show Sp p e below Tk1 (mkF m 14 #[.val (.int p1), .val (.int ((p1 &&& (2147483647 : Int32)) % (6 : Int32))), .val (.ref rp), .unset] [(.ref rp)]) _
    refine stk2 _ ?_
    show Sp p e below Tk2 (mkF m 17 #[.val (.int p1), .val (.int ((p1 &&& (2147483647 : Int32)) % (6 : Int32))), .val (.ref rp), .unset] [(.ref ro)]) _
    refine XS.astoreN Xk2.here hx rfl (hb hby at_17) rfl rfl (l' := #[.val (.int p1), .val (.int ((p1 &&& (2147483647 : Int32)) % (6 : Int32))), .val (.ref rp), .val (.ref ro)]) rfl ?_
    show Sp p e below Tk2 (mkF m 18 #[.val (.int p1), .val (.int ((p1 &&& (2147483647 : Int32)) % (6 : Int32))), .val (.ref rp), .val (.ref ro)] []) _
    refine XS.aloadN Xk2.here hx rfl (hb hby at_18) rfl rfl ?_
    show Sp p e below Tk2 (mkF m 19 #[.val (.int p1), .val (.int ((p1 &&& (2147483647 : Int32)) % (6 : Int32))), .val (.ref rp), .val (.ref ro)] [(.ref ro)]) _
    refine XS.iloadN Xk2.here hx rfl (hb hby at_19) rfl ?_
    show Sp p e below Tk2 (mkF m 20 #[.val (.int p1), .val (.int ((p1 &&& (2147483647 : Int32)) % (6 : Int32))), .val (.ref rp), .val (.ref ro)] [(.int ((p1 &&& (2147483647 : Int32)) % (6 : Int32))), (.ref ro)]) _
    refine stk3 _ ?_
    show Sp p e below Tk3 (mkF m 23 #[.val (.int p1), .val (.int ((p1 &&& (2147483647 : Int32)) % (6 : Int32))), .val (.ref rp), .val (.ref ro)] [(.ref rx), (.ref ro)]) _
    refine Jvm.RoadKit.acmp (g := (mkF m 23 #[.val (.int p1), .val (.int ((p1 &&& (2147483647 : Int32)) % (6 : Int32))), .val (.ref rp), .val (.ref ro)] [(.ref rx), (.ref ro)])) Xk3 hx rfl rfl rfl (pc0 := 23) (pc' := 26) (same := true) rfl (hb hby at_23) rfl (decide_eq_true (congrArg Value.ref heq)) (by decide) (by decide) ?_
    show Sp p e below Tk3 (mkF m 26 #[.val (.int p1), .val (.int ((p1 &&& (2147483647 : Int32)) % (6 : Int32))), .val (.ref rp), .val (.ref ro)] []) _
    refine XS.iconst Xk3.here hx rfl (hb hby at_26) ?_
    show Sp p e below Tk3 (mkF m 27 #[.val (.int p1), .val (.int ((p1 &&& (2147483647 : Int32)) % (6 : Int32))), .val (.ref rp), .val (.ref ro)] [(.int (1 : Int32))]) _
    refine XS.goto Xk3.here hx rfl (pc0 := 27) (pc' := 31) rfl (hb hby at_27) (by decide) (by decide) ?_
    show Sp p e below Tk3 (mkF m 31 #[.val (.int p1), .val (.int ((p1 &&& (2147483647 : Int32)) % (6 : Int32))), .val (.ref rp), .val (.ref ro)] [(.int (1 : Int32))]) _
    exact retN Xk3 hx (t := .boolean) hret (by simp) (hb hby at_31) hlv
  · show Q_law Z p1 wA_STANDARD wA_SUBSTANDARD wA_DOUBTFUL_1 wA_DOUBTFUL_2 wA_DOUBTFUL_3 wA_LOSS wP_STANDARD wP_NPA h0 n0 _ Tk3.heap _
    rw [ek3]
    exact ⟨rfl, Nk3⟩
set_option maxRecDepth 65536 in
set_option maxHeartbeats 40000000 in
theorem comes_1 {Post : Tables → Env → Array Value → State → Outcome → State → Prop} (hpost : ∀ tb e args s v u, (limb_1_1.after args s (.returned v) u = true ∧ limb_1_2.after args s (.returned v) u = true ∧ True) → FrameEnd s (.returned v) u (Jvm.fieldLocs frame_1_writes args s ++ Jvm.arrayLocs frame_1_arrays args s ++ Jvm.staticLocs frame_1_statics s) 0 0 → Post tb e args s (.returned v) u) :
    ArmFor flags0 classFile x code maxLocals ret World_1 tables_1 room_1 Calls_1 rest_1 Pre_1 Post := by
  intro l hfl _ _ p e ha hc hk s m args below hf hA hF happ hP
  obtain ⟨hcalls, hrest, hpre⟩ := hP
  obtain ⟨-, -, -, hnamed, -, -, -, hat⟩ := (Spec.applies_iff hf).mp happ
  obtain ⟨hg, hn⟩ := and_e (Cond.before_iff.mp (show (Jvm.Cond.and given_1 narrow_1).before args s = true from hpre))
  obtain ⟨hcount, hg0⟩ := and_e hg
  obtain ⟨w0, rfl⟩ : ∃ w0 : Value, args = #[w0] := by
    have hs : args.size = 1 := by simpa [Cond.value, given_1] using hcount
    obtain ⟨L⟩ := args
    match L, hs with
    | [w0], _ => exact ⟨w0, rfl⟩
  obtain ⟨i0, ei0⟩ := is_v hg0
  obtain rfl : w0 = (.int i0) := Option.some.inj ei0
  have hw := fun d (hd : d ∈ tables_1) => atoms_spec (ws := Jvm.Cond.code x code maxLocals ret :: tables_1) hat d (List.mem_cons_of_mem _ hd)
  have hfit : Fit s := fun {y c} hc i hi => by
    obtain ⟨ha, rfl⟩ := Array.getElem?_eq_some_iff.mp hc
    have q := List.all_eq_true.mp ((Array.all_eq_true_iff_forall_mem.mp hF) _ (Array.getElem_mem ha)) i (List.mem_range.mpr hi)
    simpa [Array.getElem?_eq_getElem hi] using q
  obtain ⟨nw0, hn0⟩ := and_e hn
  obtain ⟨nw1, hn1⟩ := and_e hn0
  obtain ⟨nw2, hn2⟩ := and_e hn1
  obtain ⟨nw3, hn3⟩ := and_e hn2
  obtain ⟨nw4, hn4⟩ := and_e hn3
  obtain ⟨nw5, hn5⟩ := and_e hn4
  obtain ⟨nw6, hn6⟩ := and_e hn5
  obtain ⟨nw7, hn7⟩ := and_e hn6
  obtain ⟨nw8, hn8⟩ := and_e hn7
  obtain ⟨nw9, hn9⟩ := and_e hn8
  obtain ⟨nw10, hn10⟩ := and_e hn9
  obtain ⟨nw11, hn11⟩ := and_e hn10
  obtain ⟨nw12, hn12⟩ := and_e hn11
  have nw13 := hn12
  obtain ⟨wA_STANDARD, evA_STANDARD⟩ := exa_v nw0
  have SA_STANDARD := Sta.start evA_STANDARD (Or.inr ⟨(hw _ (List.mem_of_getElem? (i := 6) rfl)), (hw _ (List.mem_of_getElem? (i := 7) rfl))⟩)
  have EA_STANDARD := Exa.start evA_STANDARD nw0
  have OA_STANDARD := own_fld evA_STANDARD nw4
  obtain ⟨wA_SUBSTANDARD, evA_SUBSTANDARD⟩ := exa_v nw8
  have SA_SUBSTANDARD := Sta.start evA_SUBSTANDARD (Or.inr ⟨(hw _ (List.mem_of_getElem? (i := 6) rfl)), (hw _ (List.mem_of_getElem? (i := 27) rfl))⟩)
  have EA_SUBSTANDARD := Exa.start evA_SUBSTANDARD nw8
  have OA_SUBSTANDARD := own_fld evA_SUBSTANDARD nw9
  obtain ⟨wA_DOUBTFUL_1, evA_DOUBTFUL_1⟩ := exa_v nw6
  have SA_DOUBTFUL_1 := Sta.start evA_DOUBTFUL_1 (Or.inr ⟨(hw _ (List.mem_of_getElem? (i := 6) rfl)), (hw _ (List.mem_of_getElem? (i := 25) rfl))⟩)
  have EA_DOUBTFUL_1 := Exa.start evA_DOUBTFUL_1 nw6
  have OA_DOUBTFUL_1 := own_fld evA_DOUBTFUL_1 nw7
  obtain ⟨wA_DOUBTFUL_2, evA_DOUBTFUL_2⟩ := exa_v nw2
  have SA_DOUBTFUL_2 := Sta.start evA_DOUBTFUL_2 (Or.inr ⟨(hw _ (List.mem_of_getElem? (i := 6) rfl)), (hw _ (List.mem_of_getElem? (i := 20) rfl))⟩)
  have EA_DOUBTFUL_2 := Exa.start evA_DOUBTFUL_2 nw2
  have OA_DOUBTFUL_2 := own_fld evA_DOUBTFUL_2 nw3
  obtain ⟨wA_DOUBTFUL_3, evA_DOUBTFUL_3⟩ := exa_v nw12
  have SA_DOUBTFUL_3 := Sta.start evA_DOUBTFUL_3 (Or.inr ⟨(hw _ (List.mem_of_getElem? (i := 6) rfl)), (hw _ (List.mem_of_getElem? (i := 31) rfl))⟩)
  have EA_DOUBTFUL_3 := Exa.start evA_DOUBTFUL_3 nw12
  have OA_DOUBTFUL_3 := own_fld evA_DOUBTFUL_3 nw13
  obtain ⟨wA_LOSS, evA_LOSS⟩ := exa_v nw10
  have SA_LOSS := Sta.start evA_LOSS (Or.inr ⟨(hw _ (List.mem_of_getElem? (i := 6) rfl)), (hw _ (List.mem_of_getElem? (i := 29) rfl))⟩)
  have EA_LOSS := Exa.start evA_LOSS nw10
  have OA_LOSS := own_fld evA_LOSS nw11
  obtain ⟨wP_STANDARD, evP_STANDARD⟩ := exa_v nw1
  have SP_STANDARD := Sta.start evP_STANDARD (Or.inr ⟨(hw _ (List.mem_of_getElem? (i := 10) rfl)), (hw _ (List.mem_of_getElem? (i := 14) rfl))⟩)
  have EP_STANDARD := Exa.start evP_STANDARD nw1
  obtain ⟨wP_NPA, evP_NPA⟩ := exa_v nw5
  have SP_NPA := Sta.start evP_NPA (Or.inr ⟨(hw _ (List.mem_of_getElem? (i := 10) rfl)), (hw _ (List.mem_of_getElem? (i := 22) rfl))⟩)
  have EP_NPA := Exa.start evP_NPA nw5
  obtain ⟨n, o, h1, h2, h3, _, L, rfl, ⟨rfl, N⟩, hq⟩ := rm_law l s _ hw tables_1 i0 wA_STANDARD wA_SUBSTANDARD wA_DOUBTFUL_1 wA_DOUBTFUL_2 wA_DOUBTFUL_3 wA_LOSS wP_STANDARD wP_NPA s.heap s.heap.size (Nat.le_refl _) SA_STANDARD SA_SUBSTANDARD SA_DOUBTFUL_1 SA_DOUBTFUL_2 SA_DOUBTFUL_3 SA_LOSS SP_STANDARD SP_NPA (Fld.ne OA_SUBSTANDARD OA_STANDARD (fun q => absurd (Value.int.inj q) (by decide))) (Fld.ne OA_DOUBTFUL_1 OA_STANDARD (fun q => absurd (Value.int.inj q) (by decide))) (Fld.ne OA_DOUBTFUL_2 OA_STANDARD (fun q => absurd (Value.int.inj q) (by decide))) (Fld.ne OA_DOUBTFUL_3 OA_STANDARD (fun q => absurd (Value.int.inj q) (by decide))) (Fld.ne OA_LOSS OA_STANDARD (fun q => absurd (Value.int.inj q) (by decide))) p e ha hc hk s m _ below hf ((Spec.applies_iff_loose hf).mp happ).1 ⟨rfl, State.Warmed39.refl s, rfl⟩ trivial
  refine ⟨n, _, h1, h2, h3, hpost _ _ _ _ _ _ ⟨Cond.after_iff.mpr rfl, Cond.after_iff.mpr (eq_i res_at (Term.int_eval (1)) rfl), trivial⟩ ⟨hq.1, hq.2.1, (hq.2.2.sift fun y hy => Or.inr (N y hy)).mono (by decide) (by decide)⟩⟩
theorem main_1_1 : Claimed_1_1 := comes_1 fun _ _ _ _ _ _ h hF => ⟨h.1, hF⟩
theorem main_1_2 : Claimed_1_2 := comes_1 fun _ _ _ _ _ _ h hF => ⟨h.2.1, hF⟩
end Jvm.Pilot.@@N@@
namespace Jvm.Pilot.@@N@@
open Jvm Jvm.ClassFile Sem Op Lib Jvm.Free Jvm.Stand Jvm.Pilot.@@N@@.Jvm.D
/-! MADE BY PROGRAM (witnessworld.py) out of the Statement's table words and the real class files: 13 classes; the members and pool entries that the words name. The judged class is class 1, her method 3. -/
namespace start1
open Jvm.ClassFile
def u (s : String) : CpInfo := .utf8 (stringToUtf16 s)
/-- a pool by its gaps: so many unusable entries, then the entry; so many at the end -/
def gap : Nat → List CpInfo → List CpInfo
  | 0, r => r
  | n + 1, r => .unusable :: gap n r
def poolList (es : List (Nat × CpInfo)) (last : Nat) : List CpInfo := es.foldr (fun e r => gap e.1 (e.2 :: r)) (gap last [])
def pool (es : List (Nat × CpInfo)) (last : Nat) : Array CpInfo := ⟨poolList es last⟩
def fileOf (pool : Array CpInfo) (this : Nat) (attrs : Array Attribute := #[]) (ms : Array MethodInfo := #[]) (fl : Nat := 33) (sup : Nat := 0) (ifs : Array Nat := #[]) (fds : Array FieldInfo := #[]) : ClassFile where
  minorVersion := 0
  majorVersion := 65
  constantPool := pool
  accessFlags := fl
  thisClass := this
  superClass := sup
  interfaces := ifs
  fields := fds
  methods := ms
  attributes := attrs
def plain (name : String) (sup : Option ClassId) : Class where
  name := name
  kind := .ordinary
  loader := none
  accessFlags := 33
  super := sup
  interfaces := #[]
  cf := none
  fields := #[]
  methods := #[]
  instanceTypes := #[]
  staticTypes := #[]
  resolved := #[]
  callSites := []
  init := .initialized
  statics := none
  mirror := none

def pool0 : Array CpInfo := pool [(5, u "<init>"), (0, u "()V"), (1, .class_ 10), (1, u "java/lang/Object")] 113

def k0m0 : Method := { name := "<init>", desc := "()V", sig := { parameters := [], returnType := none }, accessFlags := 1, code := none }
/-- java/lang/Object -/
def k0 : Class := { plain "java/lang/Object" none with
  accessFlags := 33
  interfaces := #[]
  cf := some (fileOf pool0 8 #[] #[{ accessFlags := 1, nameIndex := 5, descriptorIndex := 6, attributes := #[] }] 33 0 #[] #[])
  fields := #[]
  methods := #[k0m0]
  instanceTypes := #[]
  staticTypes := #[]
  resolved := Array.replicate 124 none
  statics := none }

def pool1 : Array CpInfo := pool [(2, .class_ 4), (1, u "java/lang/Object"), (0, u "<init>"), (0, u "()V"), (0, .fieldref 8 9), (0, .class_ 10), (0, .nameAndType 11 12), (0, u "com/example/munim/munim/classify/AssetClass"), (0, u "STANDARD"), (0, u "Lcom/example/munim/munim/classify/AssetClass;"), (0, .fieldref 8 14), (0, .nameAndType 15 12), (0, u "SUBSTANDARD"), (0, .fieldref 8 17), (0, .nameAndType 18 12), (0, u "DOUBTFUL_1"), (0, .fieldref 8 20), (0, .nameAndType 21 12), (0, u "DOUBTFUL_2"), (0, .fieldref 8 23), (0, .nameAndType 24 12), (0, u "DOUBTFUL_3"), (0, .fieldref 8 26), (0, .nameAndType 27 12), (0, u "LOSS"), (0, .fieldref 29 30), (0, .class_ 31), (0, .nameAndType 11 32), (0, u "com/example/munim/munim/journal/ProvisionHead"), (0, u "Lcom/example/munim/munim/journal/ProvisionHead;"), (0, .fieldref 29 34), (0, .nameAndType 35 32), (0, u "NPA"), (0, .integer 2147483647), (0, .methodref 38 39), (0, .class_ 40), (0, .nameAndType 41 42), (0, u "com/example/munim/munim/journal/ProvisionHeadOfPinLaw"), (0, u "pick"), (0, u "(I)Lcom/example/munim/munim/classify/AssetClass;"), (0, .methodref 29 44), (0, .nameAndType 45 46), (0, u "of"), (0, u "(Lcom/example/munim/munim/classify/AssetClass;)Lcom/example/munim/munim/journal/ProvisionHead;"), (0, .methodref 38 48), (0, .nameAndType 49 50), (0, u "expected"), (0, u "(I)Lcom/example/munim/munim/journal/ProvisionHead;"), (3, u "law"), (0, u "(I)Z")] 2

def k1m0 : Method := { name := "<init>", desc := "()V", sig := { parameters := [], returnType := none }, accessFlags := 2, code := none }
def k1c1 : Code := { maxStack := 2, maxLocals := 1, code := method_2_code, exceptionTable := #[], attributes := #[] }
def k1m1 : Method := { name := "pick", desc := "(I)Lcom/example/munim/munim/classify/AssetClass;", sig := { parameters := [.int], returnType := some (.object "com/example/munim/munim/classify/AssetClass") }, accessFlags := 10, code := some k1c1 }
def k1c2 : Code := { maxStack := 2, maxLocals := 1, code := method_3_code, exceptionTable := #[], attributes := #[] }
def k1m2 : Method := { name := "expected", desc := "(I)Lcom/example/munim/munim/journal/ProvisionHead;", sig := { parameters := [.int], returnType := some (.object "com/example/munim/munim/journal/ProvisionHead") }, accessFlags := 10, code := some k1c2 }
def k1c3 : Code := { maxStack := 2, maxLocals := 4, code := code, exceptionTable := #[], attributes := #[] }
def k1m3 : Method := { name := "law", desc := "(I)Z", sig := { parameters := [.int], returnType := some .boolean }, accessFlags := 9, code := some k1c3 }
/-- com/example/munim/munim/journal/ProvisionHeadOfPinLaw -/
def k1 : Class := { plain "com/example/munim/munim/journal/ProvisionHeadOfPinLaw" (some 0) with
  accessFlags := 49
  interfaces := #[]
  cf := some (fileOf pool1 38 #[] #[{ accessFlags := 2, nameIndex := 5, descriptorIndex := 6, attributes := #[] }, { accessFlags := 10, nameIndex := 41, descriptorIndex := 42, attributes := #[] }, { accessFlags := 10, nameIndex := 49, descriptorIndex := 50, attributes := #[] }, { accessFlags := 9, nameIndex := 54, descriptorIndex := 55, attributes := #[] }] 49 2 #[] #[])
  fields := #[]
  methods := #[k1m0, k1m1, k1m2, k1m3]
  instanceTypes := #[]
  staticTypes := #[]
  resolved := Array.replicate 58 none
  statics := none }

def pool2 : Array CpInfo := pool [(1, .class_ 2), (0, u "java/lang/constant/Constable"), (0, .class_ 4), (0, u "java/lang/Object")] 6

/-- java/lang/constant/Constable -/
def k2 : Class := { plain "java/lang/constant/Constable" (some 0) with
  accessFlags := 1537
  interfaces := #[]
  cf := some (fileOf pool2 1 #[] #[] 1537 3 #[] #[])
  fields := #[]
  methods := #[]
  instanceTypes := #[]
  staticTypes := #[]
  resolved := Array.replicate 11 none
  statics := none }

def pool3 : Array CpInfo := pool [(1, .class_ 2), (0, u "java/lang/Comparable"), (0, .class_ 4), (0, u "java/lang/Object")] 7

/-- java/lang/Comparable -/
def k3 : Class := { plain "java/lang/Comparable" (some 0) with
  accessFlags := 1537
  interfaces := #[]
  cf := some (fileOf pool3 1 #[] #[] 1537 3 #[] #[])
  fields := #[]
  methods := #[]
  instanceTypes := #[]
  staticTypes := #[]
  resolved := Array.replicate 12 none
  statics := none }

def pool4 : Array CpInfo := pool [(1, .class_ 2), (0, u "java/io/Serializable"), (0, .class_ 4), (0, u "java/lang/Object")] 2

/-- java/io/Serializable -/
def k4 : Class := { plain "java/io/Serializable" (some 0) with
  accessFlags := 1537
  interfaces := #[]
  cf := some (fileOf pool4 1 #[] #[] 1537 3 #[] #[])
  fields := #[]
  methods := #[]
  instanceTypes := #[]
  staticTypes := #[]
  resolved := Array.replicate 7 none
  statics := none }

def pool5 : Array CpInfo := pool [(2, .class_ 4), (1, u "java/lang/Enum"), (0, u "name"), (0, u "Ljava/lang/String;"), (2, u "ordinal"), (0, u "I"), (1, .class_ 14), (1, u "java/lang/Object"), (4, u "hash"), (86, .class_ 108), (1, u "java/lang/Enum$EnumDesc"), (2, .class_ 112), (0, u "java/lang/constant/Constable"), (0, .class_ 114), (0, u "java/lang/Comparable"), (0, .class_ 116), (0, u "java/io/Serializable")] 87

/-- java/lang/Enum -/
def k5 : Class := { plain "java/lang/Enum" (some 0) with
  accessFlags := 1057
  interfaces := #[2, 3, 4]
  cf := some (fileOf pool5 2 #[.nestMembers #[106]] #[] 1057 12 #[111, 113, 115] #[{ accessFlags := 18, nameIndex := 5, descriptorIndex := 6, attributes := #[] }, { accessFlags := 18, nameIndex := 9, descriptorIndex := 10, attributes := #[] }, { accessFlags := 2, nameIndex := 19, descriptorIndex := 10, attributes := #[] }])
  fields := #[{ name := "name", type := (.object "java/lang/String"), accessFlags := 18, slot := 0, constantValue := 0 }, { name := "ordinal", type := .int, accessFlags := 18, slot := 1, constantValue := 0 }, { name := "hash", type := .int, accessFlags := 2, slot := 2, constantValue := 0 }]
  methods := #[]
  instanceTypes := #[(.object "java/lang/String"), .int, .int]
  staticTypes := #[]
  resolved := Array.replicate 204 none
  statics := none }

def pool6 : Array CpInfo := pool [(1, .class_ 2), (0, u "com/example/munim/munim/classify/AssetClass"), (2, u "STANDARD"), (0, u "Lcom/example/munim/munim/classify/AssetClass;"), (2, u "SUBSTANDARD"), (2, u "DOUBTFUL_1"), (2, u "DOUBTFUL_2"), (2, u "DOUBTFUL_3"), (2, u "LOSS"), (2, u "$VALUES"), (0, u "[Lcom/example/munim/munim/classify/AssetClass;"), (6, .class_ 34), (1, u "java/lang/Enum"), (8, u "label"), (0, u "Ljava/lang/String;")] 98

/-- com/example/munim/munim/classify/AssetClass -/
def k6 : Class := { plain "com/example/munim/munim/classify/AssetClass" (some 5) with
  accessFlags := 16433
  interfaces := #[]
  cf := some (fileOf pool6 1 #[] #[] 16433 32 #[] #[{ accessFlags := 16409, nameIndex := 5, descriptorIndex := 6, attributes := #[] }, { accessFlags := 16409, nameIndex := 9, descriptorIndex := 6, attributes := #[] }, { accessFlags := 16409, nameIndex := 12, descriptorIndex := 6, attributes := #[] }, { accessFlags := 16409, nameIndex := 15, descriptorIndex := 6, attributes := #[] }, { accessFlags := 16409, nameIndex := 18, descriptorIndex := 6, attributes := #[] }, { accessFlags := 16409, nameIndex := 21, descriptorIndex := 6, attributes := #[] }, { accessFlags := 18, nameIndex := 43, descriptorIndex := 44, attributes := #[] }, { accessFlags := 4122, nameIndex := 24, descriptorIndex := 25, attributes := #[] }])
  fields := #[{ name := "STANDARD", type := (.object "com/example/munim/munim/classify/AssetClass"), accessFlags := 16409, slot := 0, constantValue := 0 }, { name := "SUBSTANDARD", type := (.object "com/example/munim/munim/classify/AssetClass"), accessFlags := 16409, slot := 1, constantValue := 0 }, { name := "DOUBTFUL_1", type := (.object "com/example/munim/munim/classify/AssetClass"), accessFlags := 16409, slot := 2, constantValue := 0 }, { name := "DOUBTFUL_2", type := (.object "com/example/munim/munim/classify/AssetClass"), accessFlags := 16409, slot := 3, constantValue := 0 }, { name := "DOUBTFUL_3", type := (.object "com/example/munim/munim/classify/AssetClass"), accessFlags := 16409, slot := 4, constantValue := 0 }, { name := "LOSS", type := (.object "com/example/munim/munim/classify/AssetClass"), accessFlags := 16409, slot := 5, constantValue := 0 }, { name := "label", type := (.object "java/lang/String"), accessFlags := 18, slot := 3, constantValue := 0 }, { name := "$VALUES", type := (.array (.object "com/example/munim/munim/classify/AssetClass")), accessFlags := 4122, slot := 6, constantValue := 0 }]
  methods := #[]
  instanceTypes := #[(.object "java/lang/String"), .int, .int, (.object "java/lang/String")]
  staticTypes := #[(.object "com/example/munim/munim/classify/AssetClass"), (.object "com/example/munim/munim/classify/AssetClass"), (.object "com/example/munim/munim/classify/AssetClass"), (.object "com/example/munim/munim/classify/AssetClass"), (.object "com/example/munim/munim/classify/AssetClass"), (.object "com/example/munim/munim/classify/AssetClass"), (.array (.object "com/example/munim/munim/classify/AssetClass"))]
  resolved := Array.replicate 143 none
  statics := some 0 }

def pool7 : Array CpInfo := pool [(1, .class_ 2), (0, u "com/example/munim/munim/journal/ProvisionHead"), (0, .fieldref 1 4), (0, .nameAndType 5 6), (0, u "STANDARD"), (0, u "Lcom/example/munim/munim/journal/ProvisionHead;"), (0, .fieldref 1 8), (0, .nameAndType 9 6), (0, u "NPA"), (2, u "$VALUES"), (0, u "[Lcom/example/munim/munim/journal/ProvisionHead;"), (6, .class_ 22), (1, u "java/lang/Enum"), (8, u "label"), (0, u "Ljava/lang/String;"), (2, u "expenseAccount"), (2, u "provisionAccount"), (0, .fieldref 40 41), (0, .class_ 42), (0, .nameAndType 5 43), (0, u "com/example/munim/munim/classify/AssetClass"), (0, u "Lcom/example/munim/munim/classify/AssetClass;"), (56, u "of"), (0, u "(Lcom/example/munim/munim/classify/AssetClass;)Lcom/example/munim/munim/journal/ProvisionHead;")] 32

def k7c0 : Code := { maxStack := 2, maxLocals := 1, code := prog_70_method_4_code, exceptionTable := #[], attributes := #[] }
def k7m0 : Method := { name := "of", desc := "(Lcom/example/munim/munim/classify/AssetClass;)Lcom/example/munim/munim/journal/ProvisionHead;", sig := { parameters := [(.object "com/example/munim/munim/classify/AssetClass")], returnType := some (.object "com/example/munim/munim/journal/ProvisionHead") }, accessFlags := 9, code := some k7c0 }
/-- com/example/munim/munim/journal/ProvisionHead -/
def k7 : Class := { plain "com/example/munim/munim/journal/ProvisionHead" (some 5) with
  accessFlags := 16433
  interfaces := #[]
  cf := some (fileOf pool7 1 #[] #[{ accessFlags := 9, nameIndex := 100, descriptorIndex := 101, attributes := #[] }] 16433 20 #[] #[{ accessFlags := 16409, nameIndex := 5, descriptorIndex := 6, attributes := #[] }, { accessFlags := 16409, nameIndex := 9, descriptorIndex := 6, attributes := #[] }, { accessFlags := 18, nameIndex := 31, descriptorIndex := 32, attributes := #[] }, { accessFlags := 18, nameIndex := 35, descriptorIndex := 32, attributes := #[] }, { accessFlags := 18, nameIndex := 38, descriptorIndex := 32, attributes := #[] }, { accessFlags := 4122, nameIndex := 12, descriptorIndex := 13, attributes := #[] }])
  fields := #[{ name := "STANDARD", type := (.object "com/example/munim/munim/journal/ProvisionHead"), accessFlags := 16409, slot := 0, constantValue := 0 }, { name := "NPA", type := (.object "com/example/munim/munim/journal/ProvisionHead"), accessFlags := 16409, slot := 1, constantValue := 0 }, { name := "label", type := (.object "java/lang/String"), accessFlags := 18, slot := 3, constantValue := 0 }, { name := "expenseAccount", type := (.object "java/lang/String"), accessFlags := 18, slot := 4, constantValue := 0 }, { name := "provisionAccount", type := (.object "java/lang/String"), accessFlags := 18, slot := 5, constantValue := 0 }, { name := "$VALUES", type := (.array (.object "com/example/munim/munim/journal/ProvisionHead")), accessFlags := 4122, slot := 2, constantValue := 0 }]
  methods := #[k7m0]
  instanceTypes := #[(.object "java/lang/String"), .int, .int, (.object "java/lang/String"), (.object "java/lang/String"), (.object "java/lang/String")]
  staticTypes := #[(.object "com/example/munim/munim/journal/ProvisionHead"), (.object "com/example/munim/munim/journal/ProvisionHead"), (.array (.object "com/example/munim/munim/journal/ProvisionHead"))]
  resolved := Array.replicate 134 none
  statics := some 1 }

def pool8 : Array CpInfo := pool [(1, u "java/lang/Cloneable"), (0, .class_ 1), (0, u "java/lang/Object"), (0, .class_ 3)] 3

/-- java/lang/Cloneable -/
def k8 : Class := { plain "java/lang/Cloneable" (some 0) with
  accessFlags := 1537
  interfaces := #[]
  cf := some (fileOf pool8 2 #[] #[] 1537 4 #[] #[])
  fields := #[]
  methods := #[]
  instanceTypes := #[]
  staticTypes := #[]
  resolved := Array.replicate 8 none
  statics := none }

/-- the primitive byte -/
def k9 : Class := { plain "byte" none with kind := .primitive 'B', accessFlags := 0x411 }
/-- [B -/
def k10 : Class := { plain "[B" (some 0) with kind := .array 9 .byte, interfaces := #[8, 4], accessFlags := 1041 }

/-- the primitive int -/
def k11 : Class := { plain "int" none with kind := .primitive 'I', accessFlags := 0x411 }
/-- [I -/
def k12 : Class := { plain "[I" (some 0) with kind := .array 11 .int, interfaces := #[8, 4], accessFlags := 1041 }

def heap : Heap := #[{ cls := 6, slots := #[.ref 2, .ref 3, .ref 4, .ref 5, .ref 6, .ref 7, .null], vm := .statics 6 },
  { cls := 7, slots := #[.ref 8, .ref 9, .null], vm := .statics 7 },
  { cls := 6, slots := #[.null, .int 0, .int 0, .null], vm := .none },
  { cls := 6, slots := #[.null, .int 1, .int 0, .null], vm := .none },
  { cls := 6, slots := #[.null, .int 2, .int 0, .null], vm := .none },
  { cls := 6, slots := #[.null, .int 3, .int 0, .null], vm := .none },
  { cls := 6, slots := #[.null, .int 4, .int 0, .null], vm := .none },
  { cls := 6, slots := #[.null, .int 5, .int 0, .null], vm := .none },
  { cls := 7, slots := #[.null, .int 0, .int 0, .null, .null, .null], vm := .none },
  { cls := 7, slots := #[.null, .int 1, .int 0, .null, .null, .null], vm := .none }]
def classes : Array Class := #[k0, k1, k2, k3, k4, k5, k6, k7, k8, k9, k10, k11, k12]
def interned : List (Array UInt16 × Addr) := []
def slotsUsed : Nat := 46
def theMethod : MethodId := ⟨1, 3⟩
def args0 : Array Value := #[.int 5]
def aboutOver (below : List Frame) : State where
  vm := { classes := classes, interned := interned.toArray }
  heap := heap
  slotsUsed := slotsUsed
  threads := #[{ frames := .invoking theMethod args0 :: below }]
def below0 : List Frame := [.native { method := ⟨0, 0⟩, args := #[] }]
def about1 : State := aboutOver below0
def p0 : Program := .bare "" "" ""
def e0 : Env := launch0.env 0 0 0
theorem w_frames : about1.frames = Frame.invoking theMethod args0 :: below0 := rfl
set_option maxRecDepth 65536 in
theorem w_args : argsFit about1.vm theMethod args0 = true := by decide +kernel
set_option maxRecDepth 65536 in
theorem w_heap : heapFits about1 = true := by decide +kernel
set_option maxRecDepth 65536 in
theorem w_runnable : about1.curStatus? = some .runnable := by decide +kernel
set_option maxRecDepth 65536 in
theorem w_alone : about1.alone = true := by decide +kernel
set_option maxRecDepth 65536 in
theorem w_named : about1.methodNamed? x = some theMethod := by decide +kernel
set_option maxRecDepth 65536 in
theorem w_hears : about1.hears theMethod below0 = true := by decide +kernel
set_option maxRecDepth 65536 in
theorem w_ripe : about1.ripe theMethod args0 below0 = true := by decide +kernel
theorem w_running : about1.status = .running := rfl
set_option maxRecDepth 65536 in
theorem w_room : about1.hasRoom e0.platform room_1 = true :=
  launch0.hasRoom_least _ room_1 (by decide +kernel) (by decide +kernel) (by decide +kernel) (by decide +kernel) (by decide +kernel) (by decide +kernel)
theorem allAtoms_all (ts : List Jvm.Cond) (a : Array Jvm.Value) (st : Jvm.State) : (allAtoms ts).before a st = ts.all (fun c => c.before a st) := by
  induction ts with
  | nil => rfl
  | cons c t ih =>
    show (Jvm.Cond.and c (allAtoms t)).before a st = _
    rw [Jvm.Cond.before_and, ih, List.all_cons]
def words1 : List Jvm.Cond := Jvm.Cond.code x code maxLocals ret :: tables_1
/-- a 'code' word, met by the world's own term for the bytes: nothing is compared byte by byte -/
theorem code_word {y : MethodName} {bytes : ByteArray} {mx : Nat} {rt : Option FieldType} {a : Array Value} {s : State} {m : MethodId} {meth : Method} {c : Code} (h1 : s.methodNamed? y = some m) (h2 : s.vm.method? m = some meth) (h3 : meth.code = some c) (h4 : c.code = bytes)
    (h5 : (c.maxLocals == mx && c.exceptionTable.isEmpty && decide (c.maxStack ≤ mostOperands) && decide (meth.sig.returnType = rt) && !meth.locks && decide (parseMethodDescriptor y.desc = some meth.sig)) = true) : (Jvm.Cond.code y bytes mx rt).before a s = true := by
  simp only [Bool.and_eq_true, beq_iff_eq, Bool.not_eq_true', decide_eq_true_eq] at h5
  obtain ⟨⟨⟨⟨⟨g1, g2⟩, g3⟩, g4⟩, g5⟩, g6⟩ := h5
  simp [Cond.before, Cond.holds, Cond.value, h1, h2, h3, h4, g1, g2, g3, g4, g5, g6]
def isCode : Jvm.Cond → Bool
  | .code _ _ _ _ => true
  | _ => false
theorem all_split {L : List Jvm.Cond} {P : Jvm.Cond → Bool} (h1 : L.all (fun c => isCode c || P c) = true) (h2 : ∀ c ∈ L.filter isCode, P c = true) : L.all P = true := by
  refine List.all_eq_true.mpr fun c hc => ?_
  have h := List.all_eq_true.mp h1 c hc
  rcases Bool.eq_false_or_eq_true (isCode c) with hi | hi
  · exact h2 c (List.mem_filter.mpr ⟨hc, hi⟩)
  · simpa [hi] using h
set_option maxRecDepth 65536 in
theorem w_c0 : (Jvm.Cond.code x code maxLocals ret).before args0 about1 = true := code_word (m := ⟨1, 3⟩) (meth := k1m3) (c := k1c3) (by decide +kernel) rfl rfl rfl (by decide +kernel)
set_option maxRecDepth 65536 in
theorem w_c1 : (Jvm.Cond.code ({ cls := "com/example/munim/munim/journal/ProvisionHeadOfPinLaw", name := "pick", desc := "(I)Lcom/example/munim/munim/classify/AssetClass;" } : Jvm.MethodName) method_2_code (1 : Nat) (Option.some (Jvm.ClassFile.FieldType.object "com/example/munim/munim/classify/AssetClass"))).before args0 about1 = true := code_word (m := ⟨1, 1⟩) (meth := k1m1) (c := k1c1) (by decide +kernel) rfl rfl rfl (by decide +kernel)
set_option maxRecDepth 65536 in
theorem w_c2 : (Jvm.Cond.code ({ cls := "com/example/munim/munim/journal/ProvisionHead", name := "of", desc := "(Lcom/example/munim/munim/classify/AssetClass;)Lcom/example/munim/munim/journal/ProvisionHead;" } : Jvm.MethodName) prog_70_method_4_code (1 : Nat) (Option.some (Jvm.ClassFile.FieldType.object "com/example/munim/munim/journal/ProvisionHead"))).before args0 about1 = true := code_word (m := ⟨7, 0⟩) (meth := k7m0) (c := k7c0) (by decide +kernel) rfl rfl rfl (by decide +kernel)
set_option maxRecDepth 65536 in
theorem w_c3 : (Jvm.Cond.code ({ cls := "com/example/munim/munim/journal/ProvisionHeadOfPinLaw", name := "expected", desc := "(I)Lcom/example/munim/munim/journal/ProvisionHead;" } : Jvm.MethodName) method_3_code (1 : Nat) (Option.some (Jvm.ClassFile.FieldType.object "com/example/munim/munim/journal/ProvisionHead"))).before args0 about1 = true := code_word (m := ⟨1, 2⟩) (meth := k1m2) (c := k1c2) (by decide +kernel) rfl rfl rfl (by decide +kernel)
def codes1 : List Jvm.Cond := [Jvm.Cond.code x code maxLocals ret, Jvm.Cond.code ({ cls := "com/example/munim/munim/journal/ProvisionHeadOfPinLaw", name := "pick", desc := "(I)Lcom/example/munim/munim/classify/AssetClass;" } : Jvm.MethodName) method_2_code (1 : Nat) (Option.some (Jvm.ClassFile.FieldType.object "com/example/munim/munim/classify/AssetClass")), Jvm.Cond.code ({ cls := "com/example/munim/munim/journal/ProvisionHead", name := "of", desc := "(Lcom/example/munim/munim/classify/AssetClass;)Lcom/example/munim/munim/journal/ProvisionHead;" } : Jvm.MethodName) prog_70_method_4_code (1 : Nat) (Option.some (Jvm.ClassFile.FieldType.object "com/example/munim/munim/journal/ProvisionHead")), Jvm.Cond.code ({ cls := "com/example/munim/munim/journal/ProvisionHeadOfPinLaw", name := "expected", desc := "(I)Lcom/example/munim/munim/journal/ProvisionHead;" } : Jvm.MethodName) method_3_code (1 : Nat) (Option.some (Jvm.ClassFile.FieldType.object "com/example/munim/munim/journal/ProvisionHead"))]
set_option maxRecDepth 65536 in
theorem codes_eq : words1.filter isCode = codes1 := rfl
theorem w_codes : ∀ c ∈ words1.filter isCode, c.before args0 about1 = true := by
  rw [codes_eq]
  intro c hc
  simp only [codes1, List.mem_cons, List.not_mem_nil, or_false] at hc
  rcases hc with rfl | rfl | rfl | rfl
  · exact w_c0
  · exact w_c1
  · exact w_c2
  · exact w_c3
set_option maxRecDepth 65536 in
theorem w_t1 : (words1.take 24).all (fun c => isCode c || c.before args0 about1) = true := by decide +kernel
set_option maxRecDepth 65536 in
theorem w_t2 : (words1.drop 24).all (fun c => isCode c || c.before args0 about1) = true := by decide +kernel
theorem w_tables : (allAtoms (Jvm.Cond.code x code maxLocals ret :: tables_1)).before args0 about1 = true := by
  rw [allAtoms_all]
  show words1.all (fun c => c.before args0 about1) = true
  refine all_split ?_ w_codes
  rw [← List.take_append_drop 24 words1, List.all_append, w_t1, w_t2]
  rfl
set_option maxRecDepth 65536 in
theorem w_case : (Jvm.Cond.and given_1 narrow_1).before args0 about1 = true := by decide +kernel
theorem w_applies : (headSpec (Jvm.Cond.code x code maxLocals ret :: tables_1) room_1).applies x e0.platform about1 = true :=
  (Spec.applies_iff w_frames).mpr ⟨w_running, w_runnable, w_alone, w_named, w_hears, w_ripe, w_room, w_tables⟩
theorem atStart : AtStart classFile x code maxLocals ret World_1 tables_1 room_1 Calls_1 rest_1 Pre_1 launch0 p0 e0 about1 theMethod args0 below0 :=
  ⟨lists_1, trivial, launch0.admits_env _ _ _, launch0.least_env, fairChoices_fair.cas, fairChoices_fair.clock, w_frames, w_args, w_heap, w_applies, trivial, trivial, w_case⟩
end start1
theorem witness_1 : WitnessClaimed_1 := ⟨start1.p0, start1.e0, start1.about1, start1.theMethod, start1.args0, start1.below0, start1.atStart⟩
end Jvm.Pilot.@@N@@
