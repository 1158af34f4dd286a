import JvmDerived
import JvmDerived.Pilot.@@N@@Statement
import JvmDerived.Pilot.@@N@@Code
set_option linter.unusedVariables false
set_option linter.unusedSimpArgs false
namespace Jvm.RoadKit
open Sem ClassFile Op Lib Jvm.Stand Jvm.Free Jvm.LawKit
section New
variable {p : Program} {l : Launch} {e : Env} {R : Room} {s : State} {m : MethodId} {args : Array Value} {below : List Frame} {meth : Method} {c : Code} {T : State} {locs : List Loc} {cells slots : Nat}
theorem retI (X : Stand p l e R s m args below meth c T locs cells slots) (hx : p.tables.exec = Jvm.exec) {pc : Nat} {Ls : Array Slot} {z : Int32} {rest : List Value} (hret : meth.sig.returnType = some .int) (hd : decode c.code pc = .ok (.ireturn, 1)) {fs : List Frame}
    (hl : ∀ (f : JFrame) (acts : List Action), f.method = m → f.locked = none → f.entered = [] → (doReturn e (T.setTop f) acts (some (.int z))).1 = T.setFrames fs) : Steps p.tables e below (T.setTop (mkF m pc Ls (.int z :: rest))) (T.setFrames fs) := by
  have hm' : T.vm.method? m = some meth := X.method'
  have hn : narrow .int (.int z) = .int z := rfl
  show Steps p.tables e below (T.setTop { method := m, pc := pc, locals := Ls, stack := _ :: rest, locked := none }) _
  jvm_step X.here [X.here.top, hx, hd, hm', hret, hn]
  first | (intro acts; rw [hl _ acts rfl rfl rfl]) | rw [hl _ _ rfl rfl rfl]
  exact Steps.refl _
end New
end Jvm.RoadKit
namespace Jvm.Pilot.@@N@@
open Jvm Jvm.ClassFile Sem Op Lib Jvm.Free Jvm.Stand Jvm.LawKit Jvm.RoadKit Bundle Jvm.Pilot.@@N@@.Jvm.D
abbrev Sp (p : Program) (e : Env) (b : List Frame) (T : State) (f : JFrame) (t : State) : Prop := Steps p.tables e b (T.setTop f) t
theorem own_eq {h h' : Heap} {a : Addr} {c : Cell} (e : h = h') (q : h'[a]? = some c) : h[a]? = some c := e ▸ q
theorem own_fld {args : Array Value} {Z : State} {t : Term} {C n d : String} {k : Int32} {x : Addr} (ev : t.eval args Z none [] Z = some (.ref x)) (h : (Jvm.Cond.eq (.field t C n d) (.int k)).value args Z none Z [] = some true) : Fld Z Z.heap x C n d (.int k) := by
  refine Fld.start ?_
  have h1 := fld_at (C := C) (n := n) (dd := d) ev
  obtain ⟨u, w, e1, e2, -, -⟩ := cmp_v (Or.inl h)
  have e3 : w = .int k := (Option.some.inj (e2.symm.trans (Term.int_eval k)))
  subst e3
  rw [← h1, e1]
  simp only [Jvm.Cond.value, e1, e2] at h
  cases u <;> simp_all
theorem own_sta_keep0 {Z : State} {h h' : Heap} {C n d : String} {v : Value} (F : Sta Z h C n d v) (K : Keep h h' []) : Sta Z h' C n d v := by
  obtain ⟨cf, i, k, f, st, cell, h1, h2, h3, h4, h5, r⟩ := F
  exact ⟨cf, i, k, f, st, cell, h1, h2, h3, h4, K.2.1 _ _ h5 nin0, r⟩
theorem own_len {args : Array Value} {Z : State} {t : Term} {n : Int32} {x : Addr} {cl : Cell} {ty : FieldType} (ev : t.eval args Z none [] Z = some (.ref x)) (A : Arr Z Z.heap x cl ty) (h : (Jvm.Cond.eq (.length t) (.int n)).value args Z none Z [] = some true) : cl.slots.size < 2 ^ 31 ∧ cl.slots.size.toInt32 = n := by
  obtain ⟨u, w, e1, e2, -, -⟩ := cmp_v (Or.inl h)
  have e3 : w = .int n := (Option.some.inj (e2.symm.trans (Term.int_eval n)))
  subst e3
  have hA := A.fin (Vm.Alike.refl _)
  simp only [Jvm.Cond.value, e1, e2] at h
  by_cases hs : cl.slots.size < 2 ^ 31
  · rw [len_f ev hA hs] at e1
    cases e1
    refine ⟨hs, ?_⟩
    simpa using h
  · simp [Term.eval, ev, hA] at e1
    omega
theorem own_eqref {args : Array Value} {Z : State} {a b : Term} {y : Addr} (hb : b.eval args Z none [] Z = some (.ref y)) (h : (Jvm.Cond.eq a b).value args Z none Z [] = some true) : a.eval args Z none [] Z = some (.ref y) := by
  obtain ⟨u, w, e1, e2, -, -⟩ := cmp_v (Or.inl h)
  cases hb.symm.trans e2
  simp only [Jvm.Cond.value, e1, e2] at h
  cases u <;> simp_all
theorem d1_0 : decode prog_255_method_6_code 0 = .ok (.getstatic 78, 3) := by decide +kernel
theorem d1_3 : decode prog_255_method_6_code 3 = .ok (.astore_n 1, 1) := by decide +kernel
theorem d1_4 : decode prog_255_method_6_code 4 = .ok (.aload_n 1, 1) := by decide +kernel
theorem d1_5 : decode prog_255_method_6_code 5 = .ok (.arraylength, 1) := by decide +kernel
theorem d1_6 : decode prog_255_method_6_code 6 = .ok (.istore_n 2, 1) := by decide +kernel
theorem d1_7 : decode prog_255_method_6_code 7 = .ok (.iconst 0, 1) := by decide +kernel
theorem d1_8 : decode prog_255_method_6_code 8 = .ok (.istore_n 3, 1) := by decide +kernel
theorem d1_9 : decode prog_255_method_6_code 9 = .ok (.iload_n 3, 1) := by decide +kernel
theorem d1_10 : decode prog_255_method_6_code 10 = .ok (.iload_n 2, 1) := by decide +kernel
theorem d1_11 : decode prog_255_method_6_code 11 = .ok (.if_icmp .ge 30, 3) := by decide +kernel
theorem d1_14 : decode prog_255_method_6_code 14 = .ok (.aload_n 1, 1) := by decide +kernel
theorem d1_15 : decode prog_255_method_6_code 15 = .ok (.iload_n 3, 1) := by decide +kernel
theorem d1_16 : decode prog_255_method_6_code 16 = .ok (.aaload, 1) := by decide +kernel
theorem d1_17 : decode prog_255_method_6_code 17 = .ok (.astore 4, 2) := by decide +kernel
theorem d1_19 : decode prog_255_method_6_code 19 = .ok (.iload_n 0, 1) := by decide +kernel
theorem d1_20 : decode prog_255_method_6_code 20 = .ok (.ifCond .lt 15, 3) := by decide +kernel
theorem d1_23 : decode prog_255_method_6_code 23 = .ok (.aload 4, 2) := by decide +kernel
theorem d1_25 : decode prog_255_method_6_code 25 = .ok (.getfield 52, 3) := by decide +kernel
theorem d1_28 : decode prog_255_method_6_code 28 = .ok (.iload_n 0, 1) := by decide +kernel
theorem d1_29 : decode prog_255_method_6_code 29 = .ok (.if_icmp .ne 6, 3) := by decide +kernel
theorem d1_32 : decode prog_255_method_6_code 32 = .ok (.aload 4, 2) := by decide +kernel
theorem d1_34 : decode prog_255_method_6_code 34 = .ok (.areturn, 1) := by decide +kernel
theorem d1_35 : decode prog_255_method_6_code 35 = .ok (.iinc 3 1, 3) := by decide +kernel
theorem d1_38 : decode prog_255_method_6_code 38 = .ok (.goto (-29), 3) := by decide +kernel
theorem d1_41 : decode prog_255_method_6_code 41 = .ok (.aconst_null, 1) := by decide +kernel
theorem d1_42 : decode prog_255_method_6_code 42 = .ok (.areturn, 1) := by decide +kernel
theorem pn_0 : plainName "com/example/kilit/kilit/ValueType" = true := by first | (simp [plainName, overriddenIn]; done) | decide +kernel
theorem ef_1_I (m : MethodId) (x0 : Int32) : entryFrame m #[(.int x0)] 5 = mkF m 0 #[.val (.int x0), .unset, .unset, .unset, .unset] [] := by first | (simp [entryFrame, mkF, argsToLocals, Value.category]; done) | rfl
def Q_tagged (Z : State) (p1 : Int32) (aT : Addr) (kT : ClassId) (w_INTEGER : Addr) (w_DECIMAL : Addr) (w_VARCHAR : Addr) (w_DATE : Addr) (w_TIMESTAMP : Addr) (w_BOOLEAN : Addr) (w_NULL : Addr) (r : Value) (h0 : Heap) (n0 : Nat) (v : Option Value) (h : Heap) (L : List Loc) : Prop := v = some r ∧ Fr n0 L ∧ h = h0
set_option maxRecDepth 65536 in
set_option maxHeartbeats 40000000 in
theorem rm_tagged (l : Launch) (Z : State) (a0 : Array Value) (hw : ∀ d ∈ tables_1, d.before a0 Z = true) (ws : List Jvm.Cond) (p1 : Int32) (aT : Addr) (kT : ClassId) (w_INTEGER : Addr) (w_DECIMAL : Addr) (w_VARCHAR : Addr) (w_DATE : Addr) (w_TIMESTAMP : Addr) (w_BOOLEAN : Addr) (w_NULL : Addr) (r : Value) (h0 : Heap) (n0 : Nat) (Z0 : n0 ≤ h0.size) (S_TYPES : Sta Z h0 "com/example/kilit/kilit/ValueType" "TYPES" "[Lcom/example/kilit/kilit/ValueType;" (.ref aT)) (VT : Arv Z h0 aT kT (.object "com/example/kilit/kilit/ValueType") (7 : Int32) [(.ref w_INTEGER), (.ref w_DECIMAL), (.ref w_VARCHAR), (.ref w_DATE), (.ref w_TIMESTAMP), (.ref w_BOOLEAN), (.ref w_NULL)] .null) (F_INTEGER : Fld Z h0 w_INTEGER "com/example/kilit/kilit/ValueType" "tag" "I" (.int (1 : Int32))) (F_DECIMAL : Fld Z h0 w_DECIMAL "com/example/kilit/kilit/ValueType" "tag" "I" (.int (3 : Int32))) (F_VARCHAR : Fld Z h0 w_VARCHAR "com/example/kilit/kilit/ValueType" "tag" "I" (.int (2 : Int32))) (F_DATE : Fld Z h0 w_DATE "com/example/kilit/kilit/ValueType" "tag" "I" (.int (4 : Int32))) (F_TIMESTAMP : Fld Z h0 w_TIMESTAMP "com/example/kilit/kilit/ValueType" "tag" "I" (.int (5 : Int32))) (F_BOOLEAN : Fld Z h0 w_BOOLEAN "com/example/kilit/kilit/ValueType" "tag" "I" (.int (-1 : Int32))) (F_NULL : Fld Z h0 w_NULL "com/example/kilit/kilit/ValueType" "tag" "I" (.int (0 : Int32))) (hres : r = if p1 < (0 : Int32) then Value.null else if (1 : Int32) = p1 then Value.ref w_INTEGER else if (3 : Int32) = p1 then Value.ref w_DECIMAL else if (2 : Int32) = p1 then Value.ref w_VARCHAR else if (4 : Int32) = p1 then Value.ref w_DATE else if (5 : Int32) = p1 then Value.ref w_TIMESTAMP else if (-1 : Int32) = p1 then Value.ref w_BOOLEAN else if (0 : Int32) = p1 then Value.ref w_NULL else Value.null) :
    MetFree l (⟨"com/example/kilit/kilit/ValueType", "tagged", "(I)Lcom/example/kilit/kilit/ValueType;"⟩ : MethodName) (head1 (Jvm.Cond.code (⟨"com/example/kilit/kilit/ValueType", "tagged", "(I)Lcom/example/kilit/kilit/ValueType;"⟩ : MethodName) prog_255_method_6_code 5 (some (.object "com/example/kilit/kilit/ValueType")) :: ws) ({ frames := 0, cells := 0, slots := 0, locals := 0 } : Room)) (fun A_ U => A_ = #[(.int p1)] ∧ Z.Warmed39 U.vm ∧ U.heap = h0) (fun _ _ _ _ _ => True) (fun _ U o_ U' => ∃ v_ L_, o_ = .returned v_ ∧ Q_tagged Z p1 aT kT w_INTEGER w_DECIMAL w_VARCHAR w_DATE w_TIMESTAMP w_BOOLEAN w_NULL r h0 n0 v_ U'.heap L_ ∧ FrameEnd U o_ U' L_ ({ frames := 0, cells := 0, slots := 0, locals := 0 } : Room).cells ({ frames := 0, cells := 0, slots := 0, locals := 0 } : Room).slots) := by
  refine MetFree.of_bodySF (plainFor_of_name pn_0) hisR ?_
  intro p e s m args below meth c s₁ Bd hml0 hP hK
  obtain ⟨rfl, hZ, hh⟩ := hP
  have hx := Bd.exec
  have hby := Bd.bytes
  have hml : c.maxLocals = 5 := hml0
  have hown : s.vm.findClass "com/example/kilit/kilit/ValueType" = some m.cls := findClass_of_methodNamed Bd.named
  have hnm := (name_of_methodNamed Bd.named Bd.method).1
  have hret := Bd.returns
  have X0 : Stand p l e ({ frames := 0, cells := 0, slots := 0, locals := 0 } : Room) s m #[(.int p1)] below meth c s₁ [] 0 0 := Stand.of_body Bd
  have e0 : s₁.heap = h0 := by rw [← hh, Bd.state]; rfl
  have N0 := Fr.nil n0
  have pre0 : ∀ t_, Sp p e below s₁ (mkF m 0 #[.val (.int p1), .unset, .unset, .unset, .unset] []) t_ → Sp p e below s₁ (entryFrame m #[(.int p1)] 5) t_ := fun t_ k_ => castTop (ef_1_I m p1) k_
  obtain ⟨Tg1, Xg1, eg1, stg1⟩ := getS2 X0 hx hZ hown (host := "") (Or.inl (hw _ (List.mem_of_getElem? (i := 4) rfl))) Via.refl e0 S_TYPES (g := (mkF m 0 #[.val (.int p1), .unset, .unset, .unset, .unset] [])) rfl (hb hby d1_0)
  obtain ⟨clv2, Arv2, qv2, Sv2, Nv2, Hv2, Gv2⟩ := id VT
  have in3 : ¬ ((0 : Int32) < 0 ∨ clv2.slots.size ≤ ((0 : Int32)).toNatClampNeg) := inb_of Sv2 ⟨by decide, by decide⟩
  have atin3 : clv2.slots[((0 : Int32)).toNatClampNeg]? = some (.ref w_INTEGER) := Has.at Hv2 in3 rfl
  have r4 : ∀ t_, Sp p e below Tg1 (mkF m 20 #[.val (.int p1), .val (.ref aT), .val (.int (7 : Int32)), .val (.int (0 : Int32)), .val (.ref w_INTEGER)] [(.int p1)]) t_ → Sp p e below s₁ (entryFrame m #[(.int p1)] 5) t_ := by
    intro t_ k_
    refine pre0 _ ?_
    refine stg1 _ ?_
    show Sp p e below Tg1 (mkF m 3 #[.val (.int p1), .unset, .unset, .unset, .unset] [(.ref aT)]) _
    refine XS.astoreN Xg1.here hx rfl (hb hby d1_3) rfl rfl (l' := #[.val (.int p1), .val (.ref aT), .unset, .unset, .unset]) rfl ?_
    show Sp p e below Tg1 (mkF m 4 #[.val (.int p1), .val (.ref aT), .unset, .unset, .unset] []) _
    refine XS.aloadN Xg1.here hx rfl (hb hby d1_4) rfl rfl ?_
    show Sp p e below Tg1 (mkF m 5 #[.val (.int p1), .val (.ref aT), .unset, .unset, .unset] [(.ref aT)]) _
    refine Xg1.arraylength hx (own_eq eg1 Arv2.1) (State.isArrayOf_alike hZ.alike Arv2.2.1) (g := (mkF m 5 #[.val (.int p1), .val (.ref aT), .unset, .unset, .unset] [(.ref aT)])) rfl rfl (hb hby d1_5) _ ?_
    rw [len_of Sv2 Nv2]
    show Sp p e below Tg1 (mkF m 6 #[.val (.int p1), .val (.ref aT), .unset, .unset, .unset] [(.int (7 : Int32))]) _
    refine XS.istoreN Xg1.here hx rfl (hb hby d1_6) rfl (l' := #[.val (.int p1), .val (.ref aT), .val (.int (7 : Int32)), .unset, .unset]) rfl ?_
    show Sp p e below Tg1 (mkF m 7 #[.val (.int p1), .val (.ref aT), .val (.int (7 : Int32)), .unset, .unset] []) _
    refine XS.iconst Xg1.here hx rfl (hb hby d1_7) ?_
    show Sp p e below Tg1 (mkF m 8 #[.val (.int p1), .val (.ref aT), .val (.int (7 : Int32)), .unset, .unset] [(.int (0 : Int32))]) _
    refine XS.istoreN Xg1.here hx rfl (hb hby d1_8) rfl (l' := #[.val (.int p1), .val (.ref aT), .val (.int (7 : Int32)), .val (.int (0 : Int32)), .unset]) rfl ?_
    show Sp p e below Tg1 (mkF m 9 #[.val (.int p1), .val (.ref aT), .val (.int (7 : Int32)), .val (.int (0 : Int32)), .unset] []) _
    refine XS.iloadN Xg1.here hx rfl (hb hby d1_9) rfl ?_
    show Sp p e below Tg1 (mkF m 10 #[.val (.int p1), .val (.ref aT), .val (.int (7 : Int32)), .val (.int (0 : Int32)), .unset] [(.int (0 : Int32))]) _
    refine XS.iloadN Xg1.here hx rfl (hb hby d1_10) rfl ?_
    show Sp p e below Tg1 (mkF m 11 #[.val (.int p1), .val (.ref aT), .val (.int (7 : Int32)), .val (.int (0 : Int32)), .unset] [(.int (7 : Int32)), (.int (0 : Int32))]) _
    refine XS.icmpNo Xg1.here hx rfl (hb hby d1_11) rfl (tlt (by decide : (0 : Int32) < (7 : Int32))).2.1 ?_
    show Sp p e below Tg1 (mkF m 14 #[.val (.int p1), .val (.ref aT), .val (.int (7 : Int32)), .val (.int (0 : Int32)), .unset] []) _
    refine XS.aloadN Xg1.here hx rfl (hb hby d1_14) rfl rfl ?_
    show Sp p e below Tg1 (mkF m 15 #[.val (.int p1), .val (.ref aT), .val (.int (7 : Int32)), .val (.int (0 : Int32)), .unset] [(.ref aT)]) _
    refine XS.iloadN Xg1.here hx rfl (hb hby d1_15) rfl ?_
    show Sp p e below Tg1 (mkF m 16 #[.val (.int p1), .val (.ref aT), .val (.int (7 : Int32)), .val (.int (0 : Int32)), .unset] [(.int (0 : Int32)), (.ref aT)]) _
    refine Xg1.aaload hx (j := (0 : Int32)) (v := (.ref w_INTEGER)) (own_eq eg1 Arv2.1) (State.isArrayOf_alike hZ.alike Arv2.2.1) rfl Arv2.2.2 in3 atin3 (g := (mkF m 16 #[.val (.int p1), .val (.ref aT), .val (.int (7 : Int32)), .val (.int (0 : Int32)), .unset] [(.int (0 : Int32)), (.ref aT)])) rfl rfl (hb hby d1_16) _ ?_
    show Sp p e below Tg1 (mkF m 17 #[.val (.int p1), .val (.ref aT), .val (.int (7 : Int32)), .val (.int (0 : Int32)), .unset] [(.ref w_INTEGER)]) _
    refine XS.astore Xg1.here hx rfl (hb hby d1_17) rfl rfl (l' := #[.val (.int p1), .val (.ref aT), .val (.int (7 : Int32)), .val (.int (0 : Int32)), .val (.ref w_INTEGER)]) rfl ?_
    show Sp p e below Tg1 (mkF m 19 #[.val (.int p1), .val (.ref aT), .val (.int (7 : Int32)), .val (.int (0 : Int32)), .val (.ref w_INTEGER)] []) _
    refine XS.iloadN Xg1.here hx rfl (hb hby d1_19) rfl ?_
    show Sp p e below Tg1 (mkF m 20 #[.val (.int p1), .val (.ref aT), .val (.int (7 : Int32)), .val (.int (0 : Int32)), .val (.ref w_INTEGER)] [(.int p1)]) _
    exact k_
  by_cases c5 : p1 < (0 : Int32)
  · have in6 : ¬ ((1 : Int32) < 0 ∨ clv2.slots.size ≤ ((1 : Int32)).toNatClampNeg) := inb_of Sv2 ⟨by decide, by decide⟩
    have atin6 : clv2.slots[((1 : Int32)).toNatClampNeg]? = some (.ref w_DECIMAL) := Has.at Hv2 in6 rfl
    have in7 : ¬ ((2 : Int32) < 0 ∨ clv2.slots.size ≤ ((2 : Int32)).toNatClampNeg) := inb_of Sv2 ⟨by decide, by decide⟩
    have atin7 : clv2.slots[((2 : Int32)).toNatClampNeg]? = some (.ref w_VARCHAR) := Has.at Hv2 in7 rfl
    have in8 : ¬ ((3 : Int32) < 0 ∨ clv2.slots.size ≤ ((3 : Int32)).toNatClampNeg) := inb_of Sv2 ⟨by decide, by decide⟩
    have atin8 : clv2.slots[((3 : Int32)).toNatClampNeg]? = some (.ref w_DATE) := Has.at Hv2 in8 rfl
    have in9 : ¬ ((4 : Int32) < 0 ∨ clv2.slots.size ≤ ((4 : Int32)).toNatClampNeg) := inb_of Sv2 ⟨by decide, by decide⟩
    have atin9 : clv2.slots[((4 : Int32)).toNatClampNeg]? = some (.ref w_TIMESTAMP) := Has.at Hv2 in9 rfl
    have in10 : ¬ ((5 : Int32) < 0 ∨ clv2.slots.size ≤ ((5 : Int32)).toNatClampNeg) := inb_of Sv2 ⟨by decide, by decide⟩
    have atin10 : clv2.slots[((5 : Int32)).toNatClampNeg]? = some (.ref w_BOOLEAN) := Has.at Hv2 in10 rfl
    have in11 : ¬ ((6 : Int32) < 0 ∨ clv2.slots.size ≤ ((6 : Int32)).toNatClampNeg) := inb_of Sv2 ⟨by decide, by decide⟩
    have atin11 : clv2.slots[((6 : Int32)).toNatClampNeg]? = some (.ref w_NULL) := Has.at Hv2 in11 rfl
    obtain ⟨fs, hlv, hrun, hended, hW, hsame⟩ := Xg1.leave (v := some .null) (fun h => by rw [hret] at h; cases h)
    refine ⟨_, _, r4 _ ?_, hrun, hended, _, _, rfl, ?_, ⟨_, rfl⟩, hW, hsame.mono (by decide) (by decide)⟩
    · refine XS.ifYes Xg1.here hx rfl (pc0 := 20) (pc' := 35) rfl (hb hby d1_20) rfl ((if0 _ _).trans (tlt c5).1) (by decide) (by decide) ?_
      show Sp p e below Tg1 (mkF m 35 #[.val (.int p1), .val (.ref aT), .val (.int (7 : Int32)), .val (.int (0 : Int32)), .val (.ref w_INTEGER)] []) _
      refine XS.iinc Xg1.here hx rfl (hb hby d1_35) rfl (l' := #[.val (.int p1), .val (.ref aT), .val (.int (7 : Int32)), .val (.int (1 : Int32)), .val (.ref w_INTEGER)]) rfl ?_
      show Sp p e below Tg1 (mkF m 38 #[.val (.int p1), .val (.ref aT), .val (.int (7 : Int32)), .val (.int (1 : Int32)), .val (.ref w_INTEGER)] []) _
      refine XS.goto Xg1.here hx rfl (pc0 := 38) (pc' := 9) rfl (hb hby d1_38) (by decide) (by decide) ?_
      show Sp p e below Tg1 (mkF m 9 #[.val (.int p1), .val (.ref aT), .val (.int (7 : Int32)), .val (.int (1 : Int32)), .val (.ref w_INTEGER)] []) _
      refine XS.iloadN Xg1.here hx rfl (hb hby d1_9) rfl ?_
      show Sp p e below Tg1 (mkF m 10 #[.val (.int p1), .val (.ref aT), .val (.int (7 : Int32)), .val (.int (1 : Int32)), .val (.ref w_INTEGER)] [(.int (1 : Int32))]) _
      refine XS.iloadN Xg1.here hx rfl (hb hby d1_10) rfl ?_
      show Sp p e below Tg1 (mkF m 11 #[.val (.int p1), .val (.ref aT), .val (.int (7 : Int32)), .val (.int (1 : Int32)), .val (.ref w_INTEGER)] [(.int (7 : Int32)), (.int (1 : Int32))]) _
      refine XS.icmpNo Xg1.here hx rfl (hb hby d1_11) rfl (tlt (by decide : (1 : Int32) < (7 : Int32))).2.1 ?_
      show Sp p e below Tg1 (mkF m 14 #[.val (.int p1), .val (.ref aT), .val (.int (7 : Int32)), .val (.int (1 : Int32)), .val (.ref w_INTEGER)] []) _
      refine XS.aloadN Xg1.here hx rfl (hb hby d1_14) rfl rfl ?_
      show Sp p e below Tg1 (mkF m 15 #[.val (.int p1), .val (.ref aT), .val (.int (7 : Int32)), .val (.int (1 : Int32)), .val (.ref w_INTEGER)] [(.ref aT)]) _
      refine XS.iloadN Xg1.here hx rfl (hb hby d1_15) rfl ?_
      show Sp p e below Tg1 (mkF m 16 #[.val (.int p1), .val (.ref aT), .val (.int (7 : Int32)), .val (.int (1 : Int32)), .val (.ref w_INTEGER)] [(.int (1 : Int32)), (.ref aT)]) _
      refine Xg1.aaload hx (j := (1 : Int32)) (v := (.ref w_DECIMAL)) (own_eq eg1 Arv2.1) (State.isArrayOf_alike hZ.alike Arv2.2.1) rfl Arv2.2.2 in6 atin6 (g := (mkF m 16 #[.val (.int p1), .val (.ref aT), .val (.int (7 : Int32)), .val (.int (1 : Int32)), .val (.ref w_INTEGER)] [(.int (1 : Int32)), (.ref aT)])) rfl rfl (hb hby d1_16) _ ?_
      show Sp p e below Tg1 (mkF m 17 #[.val (.int p1), .val (.ref aT), .val (.int (7 : Int32)), .val (.int (1 : Int32)), .val (.ref w_INTEGER)] [(.ref w_DECIMAL)]) _
      refine XS.astore Xg1.here hx rfl (hb hby d1_17) rfl rfl (l' := #[.val (.int p1), .val (.ref aT), .val (.int (7 : Int32)), .val (.int (1 : Int32)), .val (.ref w_DECIMAL)]) rfl ?_
      show Sp p e below Tg1 (mkF m 19 #[.val (.int p1), .val (.ref aT), .val (.int (7 : Int32)), .val (.int (1 : Int32)), .val (.ref w_DECIMAL)] []) _
      refine XS.iloadN Xg1.here hx rfl (hb hby d1_19) rfl ?_
      show Sp p e below Tg1 (mkF m 20 #[.val (.int p1), .val (.ref aT), .val (.int (7 : Int32)), .val (.int (1 : Int32)), .val (.ref w_DECIMAL)] [(.int p1)]) _
      refine XS.ifYes Xg1.here hx rfl (pc0 := 20) (pc' := 35) rfl (hb hby d1_20) rfl ((if0 _ _).trans (tlt c5).1) (by decide) (by decide) ?_
      show Sp p e below Tg1 (mkF m 35 #[.val (.int p1), .val (.ref aT), .val (.int (7 : Int32)), .val (.int (1 : Int32)), .val (.ref w_DECIMAL)] []) _
      refine XS.iinc Xg1.here hx rfl (hb hby d1_35) rfl (l' := #[.val (.int p1), .val (.ref aT), .val (.int (7 : Int32)), .val (.int (2 : Int32)), .val (.ref w_DECIMAL)]) rfl ?_
      show Sp p e below Tg1 (mkF m 38 #[.val (.int p1), .val (.ref aT), .val (.int (7 : Int32)), .val (.int (2 : Int32)), .val (.ref w_DECIMAL)] []) _
      refine XS.goto Xg1.here hx rfl (pc0 := 38) (pc' := 9) rfl (hb hby d1_38) (by decide) (by decide) ?_
      show Sp p e below Tg1 (mkF m 9 #[.val (.int p1), .val (.ref aT), .val (.int (7 : Int32)), .val (.int (2 : Int32)), .val (.ref w_DECIMAL)] []) _
      refine XS.iloadN Xg1.here hx rfl (hb hby d1_9) rfl ?_
      show Sp p e below Tg1 (mkF m 10 #[.val (.int p1), .val (.ref aT), .val (.int (7 : Int32)), .val (.int (2 : Int32)), .val (.ref w_DECIMAL)] [(.int (2 : Int32))]) _
      refine XS.iloadN Xg1.here hx rfl (hb hby d1_10) rfl ?_
      show Sp p e below Tg1 (mkF m 11 #[.val (.int p1), .val (.ref aT), .val (.int (7 : Int32)), .val (.int (2 : Int32)), .val (.ref w_DECIMAL)] [(.int (7 : Int32)), (.int (2 : Int32))]) _
      refine XS.icmpNo Xg1.here hx rfl (hb hby d1_11) rfl (tlt (by decide : (2 : Int32) < (7 : Int32))).2.1 ?_
      show Sp p e below Tg1 (mkF m 14 #[.val (.int p1), .val (.ref aT), .val (.int (7 : Int32)), .val (.int (2 : Int32)), .val (.ref w_DECIMAL)] []) _
      refine XS.aloadN Xg1.here hx rfl (hb hby d1_14) rfl rfl ?_
      show Sp p e below Tg1 (mkF m 15 #[.val (.int p1), .val (.ref aT), .val (.int (7 : Int32)), .val (.int (2 : Int32)), .val (.ref w_DECIMAL)] [(.ref aT)]) _
      refine XS.iloadN Xg1.here hx rfl (hb hby d1_15) rfl ?_
      show Sp p e below Tg1 (mkF m 16 #[.val (.int p1), .val (.ref aT), .val (.int (7 : Int32)), .val (.int (2 : Int32)), .val (.ref w_DECIMAL)] [(.int (2 : Int32)), (.ref aT)]) _
      refine Xg1.aaload hx (j := (2 : Int32)) (v := (.ref w_VARCHAR)) (own_eq eg1 Arv2.1) (State.isArrayOf_alike hZ.alike Arv2.2.1) rfl Arv2.2.2 in7 atin7 (g := (mkF m 16 #[.val (.int p1), .val (.ref aT), .val (.int (7 : Int32)), .val (.int (2 : Int32)), .val (.ref w_DECIMAL)] [(.int (2 : Int32)), (.ref aT)])) rfl rfl (hb hby d1_16) _ ?_
      show Sp p e below Tg1 (mkF m 17 #[.val (.int p1), .val (.ref aT), .val (.int (7 : Int32)), .val (.int (2 : Int32)), .val (.ref w_DECIMAL)] [(.ref w_VARCHAR)]) _
      refine XS.astore Xg1.here hx rfl (hb hby d1_17) rfl rfl (l' := #[.val (.int p1), .val (.ref aT), .val (.int (7 : Int32)), .val (.int (2 : Int32)), .val (.ref w_VARCHAR)]) rfl ?_
      show Sp p e below Tg1 (mkF m 19 #[.val (.int p1), .val (.ref aT), .val (.int (7 : Int32)), .val (.int (2 : Int32)), .val (.ref w_VARCHAR)] []) _
      refine XS.iloadN Xg1.here hx rfl (hb hby d1_19) rfl ?_
      show Sp p e below Tg1 (mkF m 20 #[.val (.int p1), .val (.ref aT), .val (.int (7 : Int32)), .val (.int (2 : Int32)), .val (.ref w_VARCHAR)] [(.int p1)]) _
      refine XS.ifYes Xg1.here hx rfl (pc0 := 20) (pc' := 35) rfl (hb hby d1_20) rfl ((if0 _ _).trans (tlt c5).1) (by decide) (by decide) ?_
      show Sp p e below Tg1 (mkF m 35 #[.val (.int p1), .val (.ref aT), .val (.int (7 : Int32)), .val (.int (2 : Int32)), .val (.ref w_VARCHAR)] []) _
      refine XS.iinc Xg1.here hx rfl (hb hby d1_35) rfl (l' := #[.val (.int p1), .val (.ref aT), .val (.int (7 : Int32)), .val (.int (3 : Int32)), .val (.ref w_VARCHAR)]) rfl ?_
      show Sp p e below Tg1 (mkF m 38 #[.val (.int p1), .val (.ref aT), .val (.int (7 : Int32)), .val (.int (3 : Int32)), .val (.ref w_VARCHAR)] []) _
      refine XS.goto Xg1.here hx rfl (pc0 := 38) (pc' := 9) rfl (hb hby d1_38) (by decide) (by decide) ?_
      show Sp p e below Tg1 (mkF m 9 #[.val (.int p1), .val (.ref aT), .val (.int (7 : Int32)), .val (.int (3 : Int32)), .val (.ref w_VARCHAR)] []) _
      refine XS.iloadN Xg1.here hx rfl (hb hby d1_9) rfl ?_
      show Sp p e below Tg1 (mkF m 10 #[.val (.int p1), .val (.ref aT), .val (.int (7 : Int32)), .val (.int (3 : Int32)), .val (.ref w_VARCHAR)] [(.int (3 : Int32))]) _
      refine XS.iloadN Xg1.here hx rfl (hb hby d1_10) rfl ?_
      show Sp p e below Tg1 (mkF m 11 #[.val (.int p1), .val (.ref aT), .val (.int (7 : Int32)), .val (.int (3 : Int32)), .val (.ref w_VARCHAR)] [(.int (7 : Int32)), (.int (3 : Int32))]) _
      refine XS.icmpNo Xg1.here hx rfl (hb hby d1_11) rfl (tlt (by decide : (3 : Int32) < (7 : Int32))).2.1 ?_
      show Sp p e below Tg1 (mkF m 14 #[.val (.int p1), .val (.ref aT), .val (.int (7 : Int32)), .val (.int (3 : Int32)), .val (.ref w_VARCHAR)] []) _
      refine XS.aloadN Xg1.here hx rfl (hb hby d1_14) rfl rfl ?_
      show Sp p e below Tg1 (mkF m 15 #[.val (.int p1), .val (.ref aT), .val (.int (7 : Int32)), .val (.int (3 : Int32)), .val (.ref w_VARCHAR)] [(.ref aT)]) _
      refine XS.iloadN Xg1.here hx rfl (hb hby d1_15) rfl ?_
      show Sp p e below Tg1 (mkF m 16 #[.val (.int p1), .val (.ref aT), .val (.int (7 : Int32)), .val (.int (3 : Int32)), .val (.ref w_VARCHAR)] [(.int (3 : Int32)), (.ref aT)]) _
      refine Xg1.aaload hx (j := (3 : Int32)) (v := (.ref w_DATE)) (own_eq eg1 Arv2.1) (State.isArrayOf_alike hZ.alike Arv2.2.1) rfl Arv2.2.2 in8 atin8 (g := (mkF m 16 #[.val (.int p1), .val (.ref aT), .val (.int (7 : Int32)), .val (.int (3 : Int32)), .val (.ref w_VARCHAR)] [(.int (3 : Int32)), (.ref aT)])) rfl rfl (hb hby d1_16) _ ?_
      show Sp p e below Tg1 (mkF m 17 #[.val (.int p1), .val (.ref aT), .val (.int (7 : Int32)), .val (.int (3 : Int32)), .val (.ref w_VARCHAR)] [(.ref w_DATE)]) _
      refine XS.astore Xg1.here hx rfl (hb hby d1_17) rfl rfl (l' := #[.val (.int p1), .val (.ref aT), .val (.int (7 : Int32)), .val (.int (3 : Int32)), .val (.ref w_DATE)]) rfl ?_
      show Sp p e below Tg1 (mkF m 19 #[.val (.int p1), .val (.ref aT), .val (.int (7 : Int32)), .val (.int (3 : Int32)), .val (.ref w_DATE)] []) _
      refine XS.iloadN Xg1.here hx rfl (hb hby d1_19) rfl ?_
      show Sp p e below Tg1 (mkF m 20 #[.val (.int p1), .val (.ref aT), .val (.int (7 : Int32)), .val (.int (3 : Int32)), .val (.ref w_DATE)] [(.int p1)]) _
      refine XS.ifYes Xg1.here hx rfl (pc0 := 20) (pc' := 35) rfl (hb hby d1_20) rfl ((if0 _ _).trans (tlt c5).1) (by decide) (by decide) ?_
      show Sp p e below Tg1 (mkF m 35 #[.val (.int p1), .val (.ref aT), .val (.int (7 : Int32)), .val (.int (3 : Int32)), .val (.ref w_DATE)] []) _
      refine XS.iinc Xg1.here hx rfl (hb hby d1_35) rfl (l' := #[.val (.int p1), .val (.ref aT), .val (.int (7 : Int32)), .val (.int (4 : Int32)), .val (.ref w_DATE)]) rfl ?_
      show Sp p e below Tg1 (mkF m 38 #[.val (.int p1), .val (.ref aT), .val (.int (7 : Int32)), .val (.int (4 : Int32)), .val (.ref w_DATE)] []) _
      refine XS.goto Xg1.here hx rfl (pc0 := 38) (pc' := 9) rfl (hb hby d1_38) (by decide) (by decide) ?_
      show Sp p e below Tg1 (mkF m 9 #[.val (.int p1), .val (.ref aT), .val (.int (7 : Int32)), .val (.int (4 : Int32)), .val (.ref w_DATE)] []) _
      refine XS.iloadN Xg1.here hx rfl (hb hby d1_9) rfl ?_
      show Sp p e below Tg1 (mkF m 10 #[.val (.int p1), .val (.ref aT), .val (.int (7 : Int32)), .val (.int (4 : Int32)), .val (.ref w_DATE)] [(.int (4 : Int32))]) _
      refine XS.iloadN Xg1.here hx rfl (hb hby d1_10) rfl ?_
      show Sp p e below Tg1 (mkF m 11 #[.val (.int p1), .val (.ref aT), .val (.int (7 : Int32)), .val (.int (4 : Int32)), .val (.ref w_DATE)] [(.int (7 : Int32)), (.int (4 : Int32))]) _
      refine XS.icmpNo Xg1.here hx rfl (hb hby d1_11) rfl (tlt (by decide : (4 : Int32) < (7 : Int32))).2.1 ?_
      show Sp p e below Tg1 (mkF m 14 #[.val (.int p1), .val (.ref aT), .val (.int (7 : Int32)), .val (.int (4 : Int32)), .val (.ref w_DATE)] []) _
      refine XS.aloadN Xg1.here hx rfl (hb hby d1_14) rfl rfl ?_
      show Sp p e below Tg1 (mkF m 15 #[.val (.int p1), .val (.ref aT), .val (.int (7 : Int32)), .val (.int (4 : Int32)), .val (.ref w_DATE)] [(.ref aT)]) _
      refine XS.iloadN Xg1.here hx rfl (hb hby d1_15) rfl ?_
      show Sp p e below Tg1 (mkF m 16 #[.val (.int p1), .val (.ref aT), .val (.int (7 : Int32)), .val (.int (4 : Int32)), .val (.ref w_DATE)] [(.int (4 : Int32)), (.ref aT)]) _
      refine Xg1.aaload hx (j := (4 : Int32)) (v := (.ref w_TIMESTAMP)) (own_eq eg1 Arv2.1) (State.isArrayOf_alike hZ.alike Arv2.2.1) rfl Arv2.2.2 in9 atin9 (g := (mkF m 16 #[.val (.int p1), .val (.ref aT), .val (.int (7 : Int32)), .val (.int (4 : Int32)), .val (.ref w_DATE)] [(.int (4 : Int32)), (.ref aT)])) rfl rfl (hb hby d1_16) _ ?_
      show Sp p e below Tg1 (mkF m 17 #[.val (.int p1), .val (.ref aT), .val (.int (7 : Int32)), .val (.int (4 : Int32)), .val (.ref w_DATE)] [(.ref w_TIMESTAMP)]) _
      refine XS.astore Xg1.here hx rfl (hb hby d1_17) rfl rfl (l' := #[.val (.int p1), .val (.ref aT), .val (.int (7 : Int32)), .val (.int (4 : Int32)), .val (.ref w_TIMESTAMP)]) rfl ?_
      show Sp p e below Tg1 (mkF m 19 #[.val (.int p1), .val (.ref aT), .val (.int (7 : Int32)), .val (.int (4 : Int32)), .val (.ref w_TIMESTAMP)] []) _
      refine XS.iloadN Xg1.here hx rfl (hb hby d1_19) rfl ?_
      show Sp p e below Tg1 (mkF m 20 #[.val (.int p1), .val (.ref aT), .val (.int (7 : Int32)), .val (.int (4 : Int32)), .val (.ref w_TIMESTAMP)] [(.int p1)]) _
      refine XS.ifYes Xg1.here hx rfl (pc0 := 20) (pc' := 35) rfl (hb hby d1_20) rfl ((if0 _ _).trans (tlt c5).1) (by decide) (by decide) ?_
      show Sp p e below Tg1 (mkF m 35 #[.val (.int p1), .val (.ref aT), .val (.int (7 : Int32)), .val (.int (4 : Int32)), .val (.ref w_TIMESTAMP)] []) _
      refine XS.iinc Xg1.here hx rfl (hb hby d1_35) rfl (l' := #[.val (.int p1), .val (.ref aT), .val (.int (7 : Int32)), .val (.int (5 : Int32)), .val (.ref w_TIMESTAMP)]) rfl ?_
      show Sp p e below Tg1 (mkF m 38 #[.val (.int p1), .val (.ref aT), .val (.int (7 : Int32)), .val (.int (5 : Int32)), .val (.ref w_TIMESTAMP)] []) _
      refine XS.goto Xg1.here hx rfl (pc0 := 38) (pc' := 9) rfl (hb hby d1_38) (by decide) (by decide) ?_
      show Sp p e below Tg1 (mkF m 9 #[.val (.int p1), .val (.ref aT), .val (.int (7 : Int32)), .val (.int (5 : Int32)), .val (.ref w_TIMESTAMP)] []) _
      refine XS.iloadN Xg1.here hx rfl (hb hby d1_9) rfl ?_
      show Sp p e below Tg1 (mkF m 10 #[.val (.int p1), .val (.ref aT), .val (.int (7 : Int32)), .val (.int (5 : Int32)), .val (.ref w_TIMESTAMP)] [(.int (5 : Int32))]) _
      refine XS.iloadN Xg1.here hx rfl (hb hby d1_10) rfl ?_
      show Sp p e below Tg1 (mkF m 11 #[.val (.int p1), .val (.ref aT), .val (.int (7 : Int32)), .val (.int (5 : Int32)), .val (.ref w_TIMESTAMP)] [(.int (7 : Int32)), (.int (5 : Int32))]) _
      refine XS.icmpNo Xg1.here hx rfl (hb hby d1_11) rfl (tlt (by decide : (5 : Int32) < (7 : Int32))).2.1 ?_
      show Sp p e below Tg1 (mkF m 14 #[.val (.int p1), .val (.ref aT), .val (.int (7 : Int32)), .val (.int (5 : Int32)), .val (.ref w_TIMESTAMP)] []) _
      refine XS.aloadN Xg1.here hx rfl (hb hby d1_14) rfl rfl ?_
      show Sp p e below Tg1 (mkF m 15 #[.val (.int p1), .val (.ref aT), .val (.int (7 : Int32)), .val (.int (5 : Int32)), .val (.ref w_TIMESTAMP)] [(.ref aT)]) _
      refine XS.iloadN Xg1.here hx rfl (hb hby d1_15) rfl ?_
      show Sp p e below Tg1 (mkF m 16 #[.val (.int p1), .val (.ref aT), .val (.int (7 : Int32)), .val (.int (5 : Int32)), .val (.ref w_TIMESTAMP)] [(.int (5 : Int32)), (.ref aT)]) _
      refine Xg1.aaload hx (j := (5 : Int32)) (v := (.ref w_BOOLEAN)) (own_eq eg1 Arv2.1) (State.isArrayOf_alike hZ.alike Arv2.2.1) rfl Arv2.2.2 in10 atin10 (g := (mkF m 16 #[.val (.int p1), .val (.ref aT), .val (.int (7 : Int32)), .val (.int (5 : Int32)), .val (.ref w_TIMESTAMP)] [(.int (5 : Int32)), (.ref aT)])) rfl rfl (hb hby d1_16) _ ?_
      show Sp p e below Tg1 (mkF m 17 #[.val (.int p1), .val (.ref aT), .val (.int (7 : Int32)), .val (.int (5 : Int32)), .val (.ref w_TIMESTAMP)] [(.ref w_BOOLEAN)]) _
      refine XS.astore Xg1.here hx rfl (hb hby d1_17) rfl rfl (l' := #[.val (.int p1), .val (.ref aT), .val (.int (7 : Int32)), .val (.int (5 : Int32)), .val (.ref w_BOOLEAN)]) rfl ?_
      show Sp p e below Tg1 (mkF m 19 #[.val (.int p1), .val (.ref aT), .val (.int (7 : Int32)), .val (.int (5 : Int32)), .val (.ref w_BOOLEAN)] []) _
      refine XS.iloadN Xg1.here hx rfl (hb hby d1_19) rfl ?_
      show Sp p e below Tg1 (mkF m 20 #[.val (.int p1), .val (.ref aT), .val (.int (7 : Int32)), .val (.int (5 : Int32)), .val (.ref w_BOOLEAN)] [(.int p1)]) _
      refine XS.ifYes Xg1.here hx rfl (pc0 := 20) (pc' := 35) rfl (hb hby d1_20) rfl ((if0 _ _).trans (tlt c5).1) (by decide) (by decide) ?_
      show Sp p e below Tg1 (mkF m 35 #[.val (.int p1), .val (.ref aT), .val (.int (7 : Int32)), .val (.int (5 : Int32)), .val (.ref w_BOOLEAN)] []) _
      refine XS.iinc Xg1.here hx rfl (hb hby d1_35) rfl (l' := #[.val (.int p1), .val (.ref aT), .val (.int (7 : Int32)), .val (.int (6 : Int32)), .val (.ref w_BOOLEAN)]) rfl ?_
      show Sp p e below Tg1 (mkF m 38 #[.val (.int p1), .val (.ref aT), .val (.int (7 : Int32)), .val (.int (6 : Int32)), .val (.ref w_BOOLEAN)] []) _
      refine XS.goto Xg1.here hx rfl (pc0 := 38) (pc' := 9) rfl (hb hby d1_38) (by decide) (by decide) ?_
      show Sp p e below Tg1 (mkF m 9 #[.val (.int p1), .val (.ref aT), .val (.int (7 : Int32)), .val (.int (6 : Int32)), .val (.ref w_BOOLEAN)] []) _
      refine XS.iloadN Xg1.here hx rfl (hb hby d1_9) rfl ?_
      show Sp p e below Tg1 (mkF m 10 #[.val (.int p1), .val (.ref aT), .val (.int (7 : Int32)), .val (.int (6 : Int32)), .val (.ref w_BOOLEAN)] [(.int (6 : Int32))]) _
      refine XS.iloadN Xg1.here hx rfl (hb hby d1_10) rfl ?_
      show Sp p e below Tg1 (mkF m 11 #[.val (.int p1), .val (.ref aT), .val (.int (7 : Int32)), .val (.int (6 : Int32)), .val (.ref w_BOOLEAN)] [(.int (7 : Int32)), (.int (6 : Int32))]) _
      refine XS.icmpNo Xg1.here hx rfl (hb hby d1_11) rfl (tlt (by decide : (6 : Int32) < (7 : Int32))).2.1 ?_
      show Sp p e below Tg1 (mkF m 14 #[.val (.int p1), .val (.ref aT), .val (.int (7 : Int32)), .val (.int (6 : Int32)), .val (.ref w_BOOLEAN)] []) _
      refine XS.aloadN Xg1.here hx rfl (hb hby d1_14) rfl rfl ?_
      show Sp p e below Tg1 (mkF m 15 #[.val (.int p1), .val (.ref aT), .val (.int (7 : Int32)), .val (.int (6 : Int32)), .val (.ref w_BOOLEAN)] [(.ref aT)]) _
      refine XS.iloadN Xg1.here hx rfl (hb hby d1_15) rfl ?_
      show Sp p e below Tg1 (mkF m 16 #[.val (.int p1), .val (.ref aT), .val (.int (7 : Int32)), .val (.int (6 : Int32)), .val (.ref w_BOOLEAN)] [(.int (6 : Int32)), (.ref aT)]) _
      refine Xg1.aaload hx (j := (6 : Int32)) (v := (.ref w_NULL)) (own_eq eg1 Arv2.1) (State.isArrayOf_alike hZ.alike Arv2.2.1) rfl Arv2.2.2 in11 atin11 (g := (mkF m 16 #[.val (.int p1), .val (.ref aT), .val (.int (7 : Int32)), .val (.int (6 : Int32)), .val (.ref w_BOOLEAN)] [(.int (6 : Int32)), (.ref aT)])) rfl rfl (hb hby d1_16) _ ?_
      show Sp p e below Tg1 (mkF m 17 #[.val (.int p1), .val (.ref aT), .val (.int (7 : Int32)), .val (.int (6 : Int32)), .val (.ref w_BOOLEAN)] [(.ref w_NULL)]) _
      refine XS.astore Xg1.here hx rfl (hb hby d1_17) rfl rfl (l' := #[.val (.int p1), .val (.ref aT), .val (.int (7 : Int32)), .val (.int (6 : Int32)), .val (.ref w_NULL)]) rfl ?_
      show Sp p e below Tg1 (mkF m 19 #[.val (.int p1), .val (.ref aT), .val (.int (7 : Int32)), .val (.int (6 : Int32)), .val (.ref w_NULL)] []) _
      refine XS.iloadN Xg1.here hx rfl (hb hby d1_19) rfl ?_
      show Sp p e below Tg1 (mkF m 20 #[.val (.int p1), .val (.ref aT), .val (.int (7 : Int32)), .val (.int (6 : Int32)), .val (.ref w_NULL)] [(.int p1)]) _
      refine XS.ifYes Xg1.here hx rfl (pc0 := 20) (pc' := 35) rfl (hb hby d1_20) rfl ((if0 _ _).trans (tlt c5).1) (by decide) (by decide) ?_
      show Sp p e below Tg1 (mkF m 35 #[.val (.int p1), .val (.ref aT), .val (.int (7 : Int32)), .val (.int (6 : Int32)), .val (.ref w_NULL)] []) _
      refine XS.iinc Xg1.here hx rfl (hb hby d1_35) rfl (l' := #[.val (.int p1), .val (.ref aT), .val (.int (7 : Int32)), .val (.int (7 : Int32)), .val (.ref w_NULL)]) rfl ?_
      show Sp p e below Tg1 (mkF m 38 #[.val (.int p1), .val (.ref aT), .val (.int (7 : Int32)), .val (.int (7 : Int32)), .val (.ref w_NULL)] []) _
      refine XS.goto Xg1.here hx rfl (pc0 := 38) (pc' := 9) rfl (hb hby d1_38) (by decide) (by decide) ?_
      show Sp p e below Tg1 (mkF m 9 #[.val (.int p1), .val (.ref aT), .val (.int (7 : Int32)), .val (.int (7 : Int32)), .val (.ref w_NULL)] []) _
      refine XS.iloadN Xg1.here hx rfl (hb hby d1_9) rfl ?_
      show Sp p e below Tg1 (mkF m 10 #[.val (.int p1), .val (.ref aT), .val (.int (7 : Int32)), .val (.int (7 : Int32)), .val (.ref w_NULL)] [(.int (7 : Int32))]) _
      refine XS.iloadN Xg1.here hx rfl (hb hby d1_10) rfl ?_
      show Sp p e below Tg1 (mkF m 11 #[.val (.int p1), .val (.ref aT), .val (.int (7 : Int32)), .val (.int (7 : Int32)), .val (.ref w_NULL)] [(.int (7 : Int32)), (.int (7 : Int32))]) _
      refine XS.icmpYes Xg1.here hx rfl (pc0 := 11) (pc' := 41) rfl (hb hby d1_11) rfl (flt (by decide : ¬ ((7 : Int32) < (7 : Int32)))).2.1 (by decide) (by decide) ?_
      show Sp p e below Tg1 (mkF m 41 #[.val (.int p1), .val (.ref aT), .val (.int (7 : Int32)), .val (.int (7 : Int32)), .val (.ref w_NULL)] []) _
      refine XS.aconstNull Xg1.here hx rfl (hb hby d1_41) ?_
      show Sp p e below Tg1 (mkF m 42 #[.val (.int p1), .val (.ref aT), .val (.int (7 : Int32)), .val (.int (7 : Int32)), .val (.ref w_NULL)] [.null]) _
      jvm_step Xg1.here [Xg1.here.top, hx, (hb hby d1_42), Xg1.method', hret, Value.isRef, FieldType.isReference]
      first | (intro acts; rw [hlv _ acts rfl rfl rfl]) | rw [hlv _ _ rfl rfl rfl]
      exact Steps.refl _
    · show Q_tagged Z p1 aT kT w_INTEGER w_DECIMAL w_VARCHAR w_DATE w_TIMESTAMP w_BOOLEAN w_NULL r h0 n0 _ Tg1.heap _
      rw [eg1]
      exact ⟨by rw [hres]; simp [c5], N0, rfl⟩
  · obtain ⟨Tf12, Xf12, ef12, stf12⟩ := getF Xg1 hx hZ hown (host := "") (Or.inl (hw _ (List.mem_of_getElem? (i := 6) rfl))) Via.refl eg1 F_INTEGER (g := (mkF m 25 #[.val (.int p1), .val (.ref aT), .val (.int (7 : Int32)), .val (.int (0 : Int32)), .val (.ref w_INTEGER)] [(.ref w_INTEGER)])) rfl rfl (hb hby d1_25)
    have r13 : ∀ t_, Sp p e below Tf12 (mkF m 29 #[.val (.int p1), .val (.ref aT), .val (.int (7 : Int32)), .val (.int (0 : Int32)), .val (.ref w_INTEGER)] [(.int p1), (.int (1 : Int32))]) t_ → Sp p e below s₁ (entryFrame m #[(.int p1)] 5) t_ := by
      intro t_ k_
      refine r4 _ ?_
      refine XS.ifNo Xg1.here hx rfl (hb hby d1_20) rfl ((if0 _ _).trans (flt c5).1) ?_
      show Sp p e below Tg1 (mkF m 23 #[.val (.int p1), .val (.ref aT), .val (.int (7 : Int32)), .val (.int (0 : Int32)), .val (.ref w_INTEGER)] []) _
      refine XS.aload Xg1.here hx rfl (hb hby d1_23) rfl rfl ?_
      show Sp p e below Tg1 (mkF m 25 #[.val (.int p1), .val (.ref aT), .val (.int (7 : Int32)), .val (.int (0 : Int32)), .val (.ref w_INTEGER)] [(.ref w_INTEGER)]) _
      refine stf12 _ ?_
      show Sp p e below Tf12 (mkF m 28 #[.val (.int p1), .val (.ref aT), .val (.int (7 : Int32)), .val (.int (0 : Int32)), .val (.ref w_INTEGER)] [(.int (1 : Int32))]) _
      refine XS.iloadN Xf12.here hx rfl (hb hby d1_28) rfl ?_
      show Sp p e below Tf12 (mkF m 29 #[.val (.int p1), .val (.ref aT), .val (.int (7 : Int32)), .val (.int (0 : Int32)), .val (.ref w_INTEGER)] [(.int p1), (.int (1 : Int32))]) _
      exact k_
    by_cases c14 : (1 : Int32) = p1
    · obtain ⟨fs, hlv, hrun, hended, hW, hsame⟩ := Xf12.leave (v := some (.ref w_INTEGER)) (fun h => by rw [hret] at h; cases h)
      refine ⟨_, _, r13 _ ?_, hrun, hended, _, _, rfl, ?_, ⟨_, rfl⟩, hW, hsame.mono (by decide) (by decide)⟩
      · refine XS.icmpNo Xf12.here hx rfl (hb hby d1_29) rfl (teq c14).2 ?_
        show Sp p e below Tf12 (mkF m 32 #[.val (.int p1), .val (.ref aT), .val (.int (7 : Int32)), .val (.int (0 : Int32)), .val (.ref w_INTEGER)] []) _
        refine XS.aload Xf12.here hx rfl (hb hby d1_32) rfl rfl ?_
        show Sp p e below Tf12 (mkF m 34 #[.val (.int p1), .val (.ref aT), .val (.int (7 : Int32)), .val (.int (0 : Int32)), .val (.ref w_INTEGER)] [(.ref w_INTEGER)]) _
        jvm_step Xf12.here [Xf12.here.top, hx, (hb hby d1_34), Xf12.method', hret, Value.isRef, FieldType.isReference]
        first | (intro acts; rw [hlv _ acts rfl rfl rfl]) | rw [hlv _ _ rfl rfl rfl]
        exact Steps.refl _
      · show Q_tagged Z p1 aT kT w_INTEGER w_DECIMAL w_VARCHAR w_DATE w_TIMESTAMP w_BOOLEAN w_NULL r h0 n0 _ Tf12.heap _
        rw [ef12]
        exact ⟨by rw [hres]; simp [c5, c14], N0, rfl⟩
    · have in15 : ¬ ((1 : Int32) < 0 ∨ clv2.slots.size ≤ ((1 : Int32)).toNatClampNeg) := inb_of Sv2 ⟨by decide, by decide⟩
      have atin15 : clv2.slots[((1 : Int32)).toNatClampNeg]? = some (.ref w_DECIMAL) := Has.at Hv2 in15 rfl
      obtain ⟨Tf16, Xf16, ef16, stf16⟩ := getF Xf12 hx hZ hown (host := "") (Or.inl (hw _ (List.mem_of_getElem? (i := 6) rfl))) Via.refl ef12 F_DECIMAL (g := (mkF m 25 #[.val (.int p1), .val (.ref aT), .val (.int (7 : Int32)), .val (.int (1 : Int32)), .val (.ref w_DECIMAL)] [(.ref w_DECIMAL)])) rfl rfl (hb hby d1_25)
      have r17 : ∀ t_, Sp p e below Tf16 (mkF m 29 #[.val (.int p1), .val (.ref aT), .val (.int (7 : Int32)), .val (.int (1 : Int32)), .val (.ref w_DECIMAL)] [(.int p1), (.int (3 : Int32))]) t_ → Sp p e below s₁ (entryFrame m #[(.int p1)] 5) t_ := by
        intro t_ k_
        refine r13 _ ?_
        refine XS.icmpYes Xf12.here hx rfl (pc0 := 29) (pc' := 35) rfl (hb hby d1_29) rfl (feq c14).2 (by decide) (by decide) ?_
        show Sp p e below Tf12 (mkF m 35 #[.val (.int p1), .val (.ref aT), .val (.int (7 : Int32)), .val (.int (0 : Int32)), .val (.ref w_INTEGER)] []) _
        refine XS.iinc Xf12.here hx rfl (hb hby d1_35) rfl (l' := #[.val (.int p1), .val (.ref aT), .val (.int (7 : Int32)), .val (.int (1 : Int32)), .val (.ref w_INTEGER)]) rfl ?_
        show Sp p e below Tf12 (mkF m 38 #[.val (.int p1), .val (.ref aT), .val (.int (7 : Int32)), .val (.int (1 : Int32)), .val (.ref w_INTEGER)] []) _
        refine XS.goto Xf12.here hx rfl (pc0 := 38) (pc' := 9) rfl (hb hby d1_38) (by decide) (by decide) ?_
        show Sp p e below Tf12 (mkF m 9 #[.val (.int p1), .val (.ref aT), .val (.int (7 : Int32)), .val (.int (1 : Int32)), .val (.ref w_INTEGER)] []) _
        refine XS.iloadN Xf12.here hx rfl (hb hby d1_9) rfl ?_
        show Sp p e below Tf12 (mkF m 10 #[.val (.int p1), .val (.ref aT), .val (.int (7 : Int32)), .val (.int (1 : Int32)), .val (.ref w_INTEGER)] [(.int (1 : Int32))]) _
        refine XS.iloadN Xf12.here hx rfl (hb hby d1_10) rfl ?_
        show Sp p e below Tf12 (mkF m 11 #[.val (.int p1), .val (.ref aT), .val (.int (7 : Int32)), .val (.int (1 : Int32)), .val (.ref w_INTEGER)] [(.int (7 : Int32)), (.int (1 : Int32))]) _
        refine XS.icmpNo Xf12.here hx rfl (hb hby d1_11) rfl (tlt (by decide : (1 : Int32) < (7 : Int32))).2.1 ?_
        show Sp p e below Tf12 (mkF m 14 #[.val (.int p1), .val (.ref aT), .val (.int (7 : Int32)), .val (.int (1 : Int32)), .val (.ref w_INTEGER)] []) _
        refine XS.aloadN Xf12.here hx rfl (hb hby d1_14) rfl rfl ?_
        show Sp p e below Tf12 (mkF m 15 #[.val (.int p1), .val (.ref aT), .val (.int (7 : Int32)), .val (.int (1 : Int32)), .val (.ref w_INTEGER)] [(.ref aT)]) _
        refine XS.iloadN Xf12.here hx rfl (hb hby d1_15) rfl ?_
        show Sp p e below Tf12 (mkF m 16 #[.val (.int p1), .val (.ref aT), .val (.int (7 : Int32)), .val (.int (1 : Int32)), .val (.ref w_INTEGER)] [(.int (1 : Int32)), (.ref aT)]) _
        refine Xf12.aaload hx (j := (1 : Int32)) (v := (.ref w_DECIMAL)) (own_eq ef12 Arv2.1) (State.isArrayOf_alike hZ.alike Arv2.2.1) rfl Arv2.2.2 in15 atin15 (g := (mkF m 16 #[.val (.int p1), .val (.ref aT), .val (.int (7 : Int32)), .val (.int (1 : Int32)), .val (.ref w_INTEGER)] [(.int (1 : Int32)), (.ref aT)])) rfl rfl (hb hby d1_16) _ ?_
        show Sp p e below Tf12 (mkF m 17 #[.val (.int p1), .val (.ref aT), .val (.int (7 : Int32)), .val (.int (1 : Int32)), .val (.ref w_INTEGER)] [(.ref w_DECIMAL)]) _
        refine XS.astore Xf12.here hx rfl (hb hby d1_17) rfl rfl (l' := #[.val (.int p1), .val (.ref aT), .val (.int (7 : Int32)), .val (.int (1 : Int32)), .val (.ref w_DECIMAL)]) rfl ?_
        show Sp p e below Tf12 (mkF m 19 #[.val (.int p1), .val (.ref aT), .val (.int (7 : Int32)), .val (.int (1 : Int32)), .val (.ref w_DECIMAL)] []) _
        refine XS.iloadN Xf12.here hx rfl (hb hby d1_19) rfl ?_
        show Sp p e below Tf12 (mkF m 20 #[.val (.int p1), .val (.ref aT), .val (.int (7 : Int32)), .val (.int (1 : Int32)), .val (.ref w_DECIMAL)] [(.int p1)]) _
        refine XS.ifNo Xf12.here hx rfl (hb hby d1_20) rfl ((if0 _ _).trans (flt c5).1) ?_
        show Sp p e below Tf12 (mkF m 23 #[.val (.int p1), .val (.ref aT), .val (.int (7 : Int32)), .val (.int (1 : Int32)), .val (.ref w_DECIMAL)] []) _
        refine XS.aload Xf12.here hx rfl (hb hby d1_23) rfl rfl ?_
        show Sp p e below Tf12 (mkF m 25 #[.val (.int p1), .val (.ref aT), .val (.int (7 : Int32)), .val (.int (1 : Int32)), .val (.ref w_DECIMAL)] [(.ref w_DECIMAL)]) _
        refine stf16 _ ?_
        show Sp p e below Tf16 (mkF m 28 #[.val (.int p1), .val (.ref aT), .val (.int (7 : Int32)), .val (.int (1 : Int32)), .val (.ref w_DECIMAL)] [(.int (3 : Int32))]) _
        refine XS.iloadN Xf16.here hx rfl (hb hby d1_28) rfl ?_
        show Sp p e below Tf16 (mkF m 29 #[.val (.int p1), .val (.ref aT), .val (.int (7 : Int32)), .val (.int (1 : Int32)), .val (.ref w_DECIMAL)] [(.int p1), (.int (3 : Int32))]) _
        exact k_
      by_cases c18 : (3 : Int32) = p1
      · obtain ⟨fs, hlv, hrun, hended, hW, hsame⟩ := Xf16.leave (v := some (.ref w_DECIMAL)) (fun h => by rw [hret] at h; cases h)
        refine ⟨_, _, r17 _ ?_, hrun, hended, _, _, rfl, ?_, ⟨_, rfl⟩, hW, hsame.mono (by decide) (by decide)⟩
        · refine XS.icmpNo Xf16.here hx rfl (hb hby d1_29) rfl (teq c18).2 ?_
          show Sp p e below Tf16 (mkF m 32 #[.val (.int p1), .val (.ref aT), .val (.int (7 : Int32)), .val (.int (1 : Int32)), .val (.ref w_DECIMAL)] []) _
          refine XS.aload Xf16.here hx rfl (hb hby d1_32) rfl rfl ?_
          show Sp p e below Tf16 (mkF m 34 #[.val (.int p1), .val (.ref aT), .val (.int (7 : Int32)), .val (.int (1 : Int32)), .val (.ref w_DECIMAL)] [(.ref w_DECIMAL)]) _
          jvm_step Xf16.here [Xf16.here.top, hx, (hb hby d1_34), Xf16.method', hret, Value.isRef, FieldType.isReference]
          first | (intro acts; rw [hlv _ acts rfl rfl rfl]) | rw [hlv _ _ rfl rfl rfl]
          exact Steps.refl _
        · show Q_tagged Z p1 aT kT w_INTEGER w_DECIMAL w_VARCHAR w_DATE w_TIMESTAMP w_BOOLEAN w_NULL r h0 n0 _ Tf16.heap _
          rw [ef16]
          exact ⟨by rw [hres]; simp [c5, c14, c18], N0, rfl⟩
      · have in19 : ¬ ((2 : Int32) < 0 ∨ clv2.slots.size ≤ ((2 : Int32)).toNatClampNeg) := inb_of Sv2 ⟨by decide, by decide⟩
        have atin19 : clv2.slots[((2 : Int32)).toNatClampNeg]? = some (.ref w_VARCHAR) := Has.at Hv2 in19 rfl
        obtain ⟨Tf20, Xf20, ef20, stf20⟩ := getF Xf16 hx hZ hown (host := "") (Or.inl (hw _ (List.mem_of_getElem? (i := 6) rfl))) Via.refl ef16 F_VARCHAR (g := (mkF m 25 #[.val (.int p1), .val (.ref aT), .val (.int (7 : Int32)), .val (.int (2 : Int32)), .val (.ref w_VARCHAR)] [(.ref w_VARCHAR)])) rfl rfl (hb hby d1_25)
        have r21 : ∀ t_, Sp p e below Tf20 (mkF m 29 #[.val (.int p1), .val (.ref aT), .val (.int (7 : Int32)), .val (.int (2 : Int32)), .val (.ref w_VARCHAR)] [(.int p1), (.int (2 : Int32))]) t_ → Sp p e below s₁ (entryFrame m #[(.int p1)] 5) t_ := by
          intro t_ k_
          refine r17 _ ?_
          refine XS.icmpYes Xf16.here hx rfl (pc0 := 29) (pc' := 35) rfl (hb hby d1_29) rfl (feq c18).2 (by decide) (by decide) ?_
          show Sp p e below Tf16 (mkF m 35 #[.val (.int p1), .val (.ref aT), .val (.int (7 : Int32)), .val (.int (1 : Int32)), .val (.ref w_DECIMAL)] []) _
          refine XS.iinc Xf16.here hx rfl (hb hby d1_35) rfl (l' := #[.val (.int p1), .val (.ref aT), .val (.int (7 : Int32)), .val (.int (2 : Int32)), .val (.ref w_DECIMAL)]) rfl ?_
          show Sp p e below Tf16 (mkF m 38 #[.val (.int p1), .val (.ref aT), .val (.int (7 : Int32)), .val (.int (2 : Int32)), .val (.ref w_DECIMAL)] []) _
          refine XS.goto Xf16.here hx rfl (pc0 := 38) (pc' := 9) rfl (hb hby d1_38) (by decide) (by decide) ?_
          show Sp p e below Tf16 (mkF m 9 #[.val (.int p1), .val (.ref aT), .val (.int (7 : Int32)), .val (.int (2 : Int32)), .val (.ref w_DECIMAL)] []) _
          refine XS.iloadN Xf16.here hx rfl (hb hby d1_9) rfl ?_
          show Sp p e below Tf16 (mkF m 10 #[.val (.int p1), .val (.ref aT), .val (.int (7 : Int32)), .val (.int (2 : Int32)), .val (.ref w_DECIMAL)] [(.int (2 : Int32))]) _
          refine XS.iloadN Xf16.here hx rfl (hb hby d1_10) rfl ?_
          show Sp p e below Tf16 (mkF m 11 #[.val (.int p1), .val (.ref aT), .val (.int (7 : Int32)), .val (.int (2 : Int32)), .val (.ref w_DECIMAL)] [(.int (7 : Int32)), (.int (2 : Int32))]) _
          refine XS.icmpNo Xf16.here hx rfl (hb hby d1_11) rfl (tlt (by decide : (2 : Int32) < (7 : Int32))).2.1 ?_
          show Sp p e below Tf16 (mkF m 14 #[.val (.int p1), .val (.ref aT), .val (.int (7 : Int32)), .val (.int (2 : Int32)), .val (.ref w_DECIMAL)] []) _
          refine XS.aloadN Xf16.here hx rfl (hb hby d1_14) rfl rfl ?_
          show Sp p e below Tf16 (mkF m 15 #[.val (.int p1), .val (.ref aT), .val (.int (7 : Int32)), .val (.int (2 : Int32)), .val (.ref w_DECIMAL)] [(.ref aT)]) _
          refine XS.iloadN Xf16.here hx rfl (hb hby d1_15) rfl ?_
          show Sp p e below Tf16 (mkF m 16 #[.val (.int p1), .val (.ref aT), .val (.int (7 : Int32)), .val (.int (2 : Int32)), .val (.ref w_DECIMAL)] [(.int (2 : Int32)), (.ref aT)]) _
          refine Xf16.aaload hx (j := (2 : Int32)) (v := (.ref w_VARCHAR)) (own_eq ef16 Arv2.1) (State.isArrayOf_alike hZ.alike Arv2.2.1) rfl Arv2.2.2 in19 atin19 (g := (mkF m 16 #[.val (.int p1), .val (.ref aT), .val (.int (7 : Int32)), .val (.int (2 : Int32)), .val (.ref w_DECIMAL)] [(.int (2 : Int32)), (.ref aT)])) rfl rfl (hb hby d1_16) _ ?_
          show Sp p e below Tf16 (mkF m 17 #[.val (.int p1), .val (.ref aT), .val (.int (7 : Int32)), .val (.int (2 : Int32)), .val (.ref w_DECIMAL)] [(.ref w_VARCHAR)]) _
          refine XS.astore Xf16.here hx rfl (hb hby d1_17) rfl rfl (l' := #[.val (.int p1), .val (.ref aT), .val (.int (7 : Int32)), .val (.int (2 : Int32)), .val (.ref w_VARCHAR)]) rfl ?_
          show Sp p e below Tf16 (mkF m 19 #[.val (.int p1), .val (.ref aT), .val (.int (7 : Int32)), .val (.int (2 : Int32)), .val (.ref w_VARCHAR)] []) _
          refine XS.iloadN Xf16.here hx rfl (hb hby d1_19) rfl ?_
          show Sp p e below Tf16 (mkF m 20 #[.val (.int p1), .val (.ref aT), .val (.int (7 : Int32)), .val (.int (2 : Int32)), .val (.ref w_VARCHAR)] [(.int p1)]) _
          refine XS.ifNo Xf16.here hx rfl (hb hby d1_20) rfl ((if0 _ _).trans (flt c5).1) ?_
          show Sp p e below Tf16 (mkF m 23 #[.val (.int p1), .val (.ref aT), .val (.int (7 : Int32)), .val (.int (2 : Int32)), .val (.ref w_VARCHAR)] []) _
          refine XS.aload Xf16.here hx rfl (hb hby d1_23) rfl rfl ?_
          show Sp p e below Tf16 (mkF m 25 #[.val (.int p1), .val (.ref aT), .val (.int (7 : Int32)), .val (.int (2 : Int32)), .val (.ref w_VARCHAR)] [(.ref w_VARCHAR)]) _
          refine stf20 _ ?_
          show Sp p e below Tf20 (mkF m 28 #[.val (.int p1), .val (.ref aT), .val (.int (7 : Int32)), .val (.int (2 : Int32)), .val (.ref w_VARCHAR)] [(.int (2 : Int32))]) _
          refine XS.iloadN Xf20.here hx rfl (hb hby d1_28) rfl ?_
          show Sp p e below Tf20 (mkF m 29 #[.val (.int p1), .val (.ref aT), .val (.int (7 : Int32)), .val (.int (2 : Int32)), .val (.ref w_VARCHAR)] [(.int p1), (.int (2 : Int32))]) _
          exact k_
        by_cases c22 : (2 : Int32) = p1
        · obtain ⟨fs, hlv, hrun, hended, hW, hsame⟩ := Xf20.leave (v := some (.ref w_VARCHAR)) (fun h => by rw [hret] at h; cases h)
          refine ⟨_, _, r21 _ ?_, hrun, hended, _, _, rfl, ?_, ⟨_, rfl⟩, hW, hsame.mono (by decide) (by decide)⟩
          · refine XS.icmpNo Xf20.here hx rfl (hb hby d1_29) rfl (teq c22).2 ?_
            show Sp p e below Tf20 (mkF m 32 #[.val (.int p1), .val (.ref aT), .val (.int (7 : Int32)), .val (.int (2 : Int32)), .val (.ref w_VARCHAR)] []) _
            refine XS.aload Xf20.here hx rfl (hb hby d1_32) rfl rfl ?_
            show Sp p e below Tf20 (mkF m 34 #[.val (.int p1), .val (.ref aT), .val (.int (7 : Int32)), .val (.int (2 : Int32)), .val (.ref w_VARCHAR)] [(.ref w_VARCHAR)]) _
            jvm_step Xf20.here [Xf20.here.top, hx, (hb hby d1_34), Xf20.method', hret, Value.isRef, FieldType.isReference]
            first | (intro acts; rw [hlv _ acts rfl rfl rfl]) | rw [hlv _ _ rfl rfl rfl]
            exact Steps.refl _
          · show Q_tagged Z p1 aT kT w_INTEGER w_DECIMAL w_VARCHAR w_DATE w_TIMESTAMP w_BOOLEAN w_NULL r h0 n0 _ Tf20.heap _
            rw [ef20]
            exact ⟨by rw [hres]; simp [c5, c14, c18, c22], N0, rfl⟩
        · have in23 : ¬ ((3 : Int32) < 0 ∨ clv2.slots.size ≤ ((3 : Int32)).toNatClampNeg) := inb_of Sv2 ⟨by decide, by decide⟩
          have atin23 : clv2.slots[((3 : Int32)).toNatClampNeg]? = some (.ref w_DATE) := Has.at Hv2 in23 rfl
          obtain ⟨Tf24, Xf24, ef24, stf24⟩ := getF Xf20 hx hZ hown (host := "") (Or.inl (hw _ (List.mem_of_getElem? (i := 6) rfl))) Via.refl ef20 F_DATE (g := (mkF m 25 #[.val (.int p1), .val (.ref aT), .val (.int (7 : Int32)), .val (.int (3 : Int32)), .val (.ref w_DATE)] [(.ref w_DATE)])) rfl rfl (hb hby d1_25)
          have r25 : ∀ t_, Sp p e below Tf24 (mkF m 29 #[.val (.int p1), .val (.ref aT), .val (.int (7 : Int32)), .val (.int (3 : Int32)), .val (.ref w_DATE)] [(.int p1), (.int (4 : Int32))]) t_ → Sp p e below s₁ (entryFrame m #[(.int p1)] 5) t_ := by
            intro t_ k_
            refine r21 _ ?_
            refine XS.icmpYes Xf20.here hx rfl (pc0 := 29) (pc' := 35) rfl (hb hby d1_29) rfl (feq c22).2 (by decide) (by decide) ?_
            show Sp p e below Tf20 (mkF m 35 #[.val (.int p1), .val (.ref aT), .val (.int (7 : Int32)), .val (.int (2 : Int32)), .val (.ref w_VARCHAR)] []) _
            refine XS.iinc Xf20.here hx rfl (hb hby d1_35) rfl (l' := #[.val (.int p1), .val (.ref aT), .val (.int (7 : Int32)), .val (.int (3 : Int32)), .val (.ref w_VARCHAR)]) rfl ?_
            show Sp p e below Tf20 (mkF m 38 #[.val (.int p1), .val (.ref aT), .val (.int (7 : Int32)), .val (.int (3 : Int32)), .val (.ref w_VARCHAR)] []) _
            refine XS.goto Xf20.here hx rfl (pc0 := 38) (pc' := 9) rfl (hb hby d1_38) (by decide) (by decide) ?_
            show Sp p e below Tf20 (mkF m 9 #[.val (.int p1), .val (.ref aT), .val (.int (7 : Int32)), .val (.int (3 : Int32)), .val (.ref w_VARCHAR)] []) _
            refine XS.iloadN Xf20.here hx rfl (hb hby d1_9) rfl ?_
            show Sp p e below Tf20 (mkF m 10 #[.val (.int p1), .val (.ref aT), .val (.int (7 : Int32)), .val (.int (3 : Int32)), .val (.ref w_VARCHAR)] [(.int (3 : Int32))]) _
            refine XS.iloadN Xf20.here hx rfl (hb hby d1_10) rfl ?_
            show Sp p e below Tf20 (mkF m 11 #[.val (.int p1), .val (.ref aT), .val (.int (7 : Int32)), .val (.int (3 : Int32)), .val (.ref w_VARCHAR)] [(.int (7 : Int32)), (.int (3 : Int32))]) _
            refine XS.icmpNo Xf20.here hx rfl (hb hby d1_11) rfl (tlt (by decide : (3 : Int32) < (7 : Int32))).2.1 ?_
            show Sp p e below Tf20 (mkF m 14 #[.val (.int p1), .val (.ref aT), .val (.int (7 : Int32)), .val (.int (3 : Int32)), .val (.ref w_VARCHAR)] []) _
            refine XS.aloadN Xf20.here hx rfl (hb hby d1_14) rfl rfl ?_
            show Sp p e below Tf20 (mkF m 15 #[.val (.int p1), .val (.ref aT), .val (.int (7 : Int32)), .val (.int (3 : Int32)), .val (.ref w_VARCHAR)] [(.ref aT)]) _
            refine XS.iloadN Xf20.here hx rfl (hb hby d1_15) rfl ?_
            show Sp p e below Tf20 (mkF m 16 #[.val (.int p1), .val (.ref aT), .val (.int (7 : Int32)), .val (.int (3 : Int32)), .val (.ref w_VARCHAR)] [(.int (3 : Int32)), (.ref aT)]) _
            refine Xf20.aaload hx (j := (3 : Int32)) (v := (.ref w_DATE)) (own_eq ef20 Arv2.1) (State.isArrayOf_alike hZ.alike Arv2.2.1) rfl Arv2.2.2 in23 atin23 (g := (mkF m 16 #[.val (.int p1), .val (.ref aT), .val (.int (7 : Int32)), .val (.int (3 : Int32)), .val (.ref w_VARCHAR)] [(.int (3 : Int32)), (.ref aT)])) rfl rfl (hb hby d1_16) _ ?_
            show Sp p e below Tf20 (mkF m 17 #[.val (.int p1), .val (.ref aT), .val (.int (7 : Int32)), .val (.int (3 : Int32)), .val (.ref w_VARCHAR)] [(.ref w_DATE)]) _
            refine XS.astore Xf20.here hx rfl (hb hby d1_17) rfl rfl (l' := #[.val (.int p1), .val (.ref aT), .val (.int (7 : Int32)), .val (.int (3 : Int32)), .val (.ref w_DATE)]) rfl ?_
            show Sp p e below Tf20 (mkF m 19 #[.val (.int p1), .val (.ref aT), .val (.int (7 : Int32)), .val (.int (3 : Int32)), .val (.ref w_DATE)] []) _
            refine XS.iloadN Xf20.here hx rfl (hb hby d1_19) rfl ?_
            show Sp p e below Tf20 (mkF m 20 #[.val (.int p1), .val (.ref aT), .val (.int (7 : Int32)), .val (.int (3 : Int32)), .val (.ref w_DATE)] [(.int p1)]) _
            refine XS.ifNo Xf20.here hx rfl (hb hby d1_20) rfl ((if0 _ _).trans (flt c5).1) ?_
            show Sp p e below Tf20 (mkF m 23 #[.val (.int p1), .val (.ref aT), .val (.int (7 : Int32)), .val (.int (3 : Int32)), .val (.ref w_DATE)] []) _
            refine XS.aload Xf20.here hx rfl (hb hby d1_23) rfl rfl ?_
            show Sp p e below Tf20 (mkF m 25 #[.val (.int p1), .val (.ref aT), .val (.int (7 : Int32)), .val (.int (3 : Int32)), .val (.ref w_DATE)] [(.ref w_DATE)]) _
            refine stf24 _ ?_
            show Sp p e below Tf24 (mkF m 28 #[.val (.int p1), .val (.ref aT), .val (.int (7 : Int32)), .val (.int (3 : Int32)), .val (.ref w_DATE)] [(.int (4 : Int32))]) _
            refine XS.iloadN Xf24.here hx rfl (hb hby d1_28) rfl ?_
            show Sp p e below Tf24 (mkF m 29 #[.val (.int p1), .val (.ref aT), .val (.int (7 : Int32)), .val (.int (3 : Int32)), .val (.ref w_DATE)] [(.int p1), (.int (4 : Int32))]) _
            exact k_
          by_cases c26 : (4 : Int32) = p1
          · obtain ⟨fs, hlv, hrun, hended, hW, hsame⟩ := Xf24.leave (v := some (.ref w_DATE)) (fun h => by rw [hret] at h; cases h)
            refine ⟨_, _, r25 _ ?_, hrun, hended, _, _, rfl, ?_, ⟨_, rfl⟩, hW, hsame.mono (by decide) (by decide)⟩
            · refine XS.icmpNo Xf24.here hx rfl (hb hby d1_29) rfl (teq c26).2 ?_
              show Sp p e below Tf24 (mkF m 32 #[.val (.int p1), .val (.ref aT), .val (.int (7 : Int32)), .val (.int (3 : Int32)), .val (.ref w_DATE)] []) _
              refine XS.aload Xf24.here hx rfl (hb hby d1_32) rfl rfl ?_
              show Sp p e below Tf24 (mkF m 34 #[.val (.int p1), .val (.ref aT), .val (.int (7 : Int32)), .val (.int (3 : Int32)), .val (.ref w_DATE)] [(.ref w_DATE)]) _
              jvm_step Xf24.here [Xf24.here.top, hx, (hb hby d1_34), Xf24.method', hret, Value.isRef, FieldType.isReference]
              first | (intro acts; rw [hlv _ acts rfl rfl rfl]) | rw [hlv _ _ rfl rfl rfl]
              exact Steps.refl _
            · show Q_tagged Z p1 aT kT w_INTEGER w_DECIMAL w_VARCHAR w_DATE w_TIMESTAMP w_BOOLEAN w_NULL r h0 n0 _ Tf24.heap _
              rw [ef24]
              exact ⟨by rw [hres]; simp [c5, c14, c18, c22, c26], N0, rfl⟩
          · have in27 : ¬ ((4 : Int32) < 0 ∨ clv2.slots.size ≤ ((4 : Int32)).toNatClampNeg) := inb_of Sv2 ⟨by decide, by decide⟩
            have atin27 : clv2.slots[((4 : Int32)).toNatClampNeg]? = some (.ref w_TIMESTAMP) := Has.at Hv2 in27 rfl
            obtain ⟨Tf28, Xf28, ef28, stf28⟩ := getF Xf24 hx hZ hown (host := "") (Or.inl (hw _ (List.mem_of_getElem? (i := 6) rfl))) Via.refl ef24 F_TIMESTAMP (g := (mkF m 25 #[.val (.int p1), .val (.ref aT), .val (.int (7 : Int32)), .val (.int (4 : Int32)), .val (.ref w_TIMESTAMP)] [(.ref w_TIMESTAMP)])) rfl rfl (hb hby d1_25)
            have r29 : ∀ t_, Sp p e below Tf28 (mkF m 29 #[.val (.int p1), .val (.ref aT), .val (.int (7 : Int32)), .val (.int (4 : Int32)), .val (.ref w_TIMESTAMP)] [(.int p1), (.int (5 : Int32))]) t_ → Sp p e below s₁ (entryFrame m #[(.int p1)] 5) t_ := by
              intro t_ k_
              refine r25 _ ?_
              refine XS.icmpYes Xf24.here hx rfl (pc0 := 29) (pc' := 35) rfl (hb hby d1_29) rfl (feq c26).2 (by decide) (by decide) ?_
              show Sp p e below Tf24 (mkF m 35 #[.val (.int p1), .val (.ref aT), .val (.int (7 : Int32)), .val (.int (3 : Int32)), .val (.ref w_DATE)] []) _
              refine XS.iinc Xf24.here hx rfl (hb hby d1_35) rfl (l' := #[.val (.int p1), .val (.ref aT), .val (.int (7 : Int32)), .val (.int (4 : Int32)), .val (.ref w_DATE)]) rfl ?_
              show Sp p e below Tf24 (mkF m 38 #[.val (.int p1), .val (.ref aT), .val (.int (7 : Int32)), .val (.int (4 : Int32)), .val (.ref w_DATE)] []) _
              refine XS.goto Xf24.here hx rfl (pc0 := 38) (pc' := 9) rfl (hb hby d1_38) (by decide) (by decide) ?_
              show Sp p e below Tf24 (mkF m 9 #[.val (.int p1), .val (.ref aT), .val (.int (7 : Int32)), .val (.int (4 : Int32)), .val (.ref w_DATE)] []) _
              refine XS.iloadN Xf24.here hx rfl (hb hby d1_9) rfl ?_
              show Sp p e below Tf24 (mkF m 10 #[.val (.int p1), .val (.ref aT), .val (.int (7 : Int32)), .val (.int (4 : Int32)), .val (.ref w_DATE)] [(.int (4 : Int32))]) _
              refine XS.iloadN Xf24.here hx rfl (hb hby d1_10) rfl ?_
              show Sp p e below Tf24 (mkF m 11 #[.val (.int p1), .val (.ref aT), .val (.int (7 : Int32)), .val (.int (4 : Int32)), .val (.ref w_DATE)] [(.int (7 : Int32)), (.int (4 : Int32))]) _
              refine XS.icmpNo Xf24.here hx rfl (hb hby d1_11) rfl (tlt (by decide : (4 : Int32) < (7 : Int32))).2.1 ?_
              show Sp p e below Tf24 (mkF m 14 #[.val (.int p1), .val (.ref aT), .val (.int (7 : Int32)), .val (.int (4 : Int32)), .val (.ref w_DATE)] []) _
              refine XS.aloadN Xf24.here hx rfl (hb hby d1_14) rfl rfl ?_
              show Sp p e below Tf24 (mkF m 15 #[.val (.int p1), .val (.ref aT), .val (.int (7 : Int32)), .val (.int (4 : Int32)), .val (.ref w_DATE)] [(.ref aT)]) _
              refine XS.iloadN Xf24.here hx rfl (hb hby d1_15) rfl ?_
              show Sp p e below Tf24 (mkF m 16 #[.val (.int p1), .val (.ref aT), .val (.int (7 : Int32)), .val (.int (4 : Int32)), .val (.ref w_DATE)] [(.int (4 : Int32)), (.ref aT)]) _
              refine Xf24.aaload hx (j := (4 : Int32)) (v := (.ref w_TIMESTAMP)) (own_eq ef24 Arv2.1) (State.isArrayOf_alike hZ.alike Arv2.2.1) rfl Arv2.2.2 in27 atin27 (g := (mkF m 16 #[.val (.int p1), .val (.ref aT), .val (.int (7 : Int32)), .val (.int (4 : Int32)), .val (.ref w_DATE)] [(.int (4 : Int32)), (.ref aT)])) rfl rfl (hb hby d1_16) _ ?_
              show Sp p e below Tf24 (mkF m 17 #[.val (.int p1), .val (.ref aT), .val (.int (7 : Int32)), .val (.int (4 : Int32)), .val (.ref w_DATE)] [(.ref w_TIMESTAMP)]) _
              refine XS.astore Xf24.here hx rfl (hb hby d1_17) rfl rfl (l' := #[.val (.int p1), .val (.ref aT), .val (.int (7 : Int32)), .val (.int (4 : Int32)), .val (.ref w_TIMESTAMP)]) rfl ?_
              show Sp p e below Tf24 (mkF m 19 #[.val (.int p1), .val (.ref aT), .val (.int (7 : Int32)), .val (.int (4 : Int32)), .val (.ref w_TIMESTAMP)] []) _
              refine XS.iloadN Xf24.here hx rfl (hb hby d1_19) rfl ?_
              show Sp p e below Tf24 (mkF m 20 #[.val (.int p1), .val (.ref aT), .val (.int (7 : Int32)), .val (.int (4 : Int32)), .val (.ref w_TIMESTAMP)] [(.int p1)]) _
              refine XS.ifNo Xf24.here hx rfl (hb hby d1_20) rfl ((if0 _ _).trans (flt c5).1) ?_
              show Sp p e below Tf24 (mkF m 23 #[.val (.int p1), .val (.ref aT), .val (.int (7 : Int32)), .val (.int (4 : Int32)), .val (.ref w_TIMESTAMP)] []) _
              refine XS.aload Xf24.here hx rfl (hb hby d1_23) rfl rfl ?_
              show Sp p e below Tf24 (mkF m 25 #[.val (.int p1), .val (.ref aT), .val (.int (7 : Int32)), .val (.int (4 : Int32)), .val (.ref w_TIMESTAMP)] [(.ref w_TIMESTAMP)]) _
              refine stf28 _ ?_
              show Sp p e below Tf28 (mkF m 28 #[.val (.int p1), .val (.ref aT), .val (.int (7 : Int32)), .val (.int (4 : Int32)), .val (.ref w_TIMESTAMP)] [(.int (5 : Int32))]) _
              refine XS.iloadN Xf28.here hx rfl (hb hby d1_28) rfl ?_
              show Sp p e below Tf28 (mkF m 29 #[.val (.int p1), .val (.ref aT), .val (.int (7 : Int32)), .val (.int (4 : Int32)), .val (.ref w_TIMESTAMP)] [(.int p1), (.int (5 : Int32))]) _
              exact k_
            by_cases c30 : (5 : Int32) = p1
            · obtain ⟨fs, hlv, hrun, hended, hW, hsame⟩ := Xf28.leave (v := some (.ref w_TIMESTAMP)) (fun h => by rw [hret] at h; cases h)
              refine ⟨_, _, r29 _ ?_, hrun, hended, _, _, rfl, ?_, ⟨_, rfl⟩, hW, hsame.mono (by decide) (by decide)⟩
              · refine XS.icmpNo Xf28.here hx rfl (hb hby d1_29) rfl (teq c30).2 ?_
                show Sp p e below Tf28 (mkF m 32 #[.val (.int p1), .val (.ref aT), .val (.int (7 : Int32)), .val (.int (4 : Int32)), .val (.ref w_TIMESTAMP)] []) _
                refine XS.aload Xf28.here hx rfl (hb hby d1_32) rfl rfl ?_
                show Sp p e below Tf28 (mkF m 34 #[.val (.int p1), .val (.ref aT), .val (.int (7 : Int32)), .val (.int (4 : Int32)), .val (.ref w_TIMESTAMP)] [(.ref w_TIMESTAMP)]) _
                jvm_step Xf28.here [Xf28.here.top, hx, (hb hby d1_34), Xf28.method', hret, Value.isRef, FieldType.isReference]
                first | (intro acts; rw [hlv _ acts rfl rfl rfl]) | rw [hlv _ _ rfl rfl rfl]
                exact Steps.refl _
              · show Q_tagged Z p1 aT kT w_INTEGER w_DECIMAL w_VARCHAR w_DATE w_TIMESTAMP w_BOOLEAN w_NULL r h0 n0 _ Tf28.heap _
                rw [ef28]
                exact ⟨by rw [hres]; simp [c5, c14, c18, c22, c26, c30], N0, rfl⟩
            · have in31 : ¬ ((5 : Int32) < 0 ∨ clv2.slots.size ≤ ((5 : Int32)).toNatClampNeg) := inb_of Sv2 ⟨by decide, by decide⟩
              have atin31 : clv2.slots[((5 : Int32)).toNatClampNeg]? = some (.ref w_BOOLEAN) := Has.at Hv2 in31 rfl
              obtain ⟨Tf32, Xf32, ef32, stf32⟩ := getF Xf28 hx hZ hown (host := "") (Or.inl (hw _ (List.mem_of_getElem? (i := 6) rfl))) Via.refl ef28 F_BOOLEAN (g := (mkF m 25 #[.val (.int p1), .val (.ref aT), .val (.int (7 : Int32)), .val (.int (5 : Int32)), .val (.ref w_BOOLEAN)] [(.ref w_BOOLEAN)])) rfl rfl (hb hby d1_25)
              have r33 : ∀ t_, Sp p e below Tf32 (mkF m 29 #[.val (.int p1), .val (.ref aT), .val (.int (7 : Int32)), .val (.int (5 : Int32)), .val (.ref w_BOOLEAN)] [(.int p1), (.int (-1 : Int32))]) t_ → Sp p e below s₁ (entryFrame m #[(.int p1)] 5) t_ := by
                intro t_ k_
                refine r29 _ ?_
                refine XS.icmpYes Xf28.here hx rfl (pc0 := 29) (pc' := 35) rfl (hb hby d1_29) rfl (feq c30).2 (by decide) (by decide) ?_
                show Sp p e below Tf28 (mkF m 35 #[.val (.int p1), .val (.ref aT), .val (.int (7 : Int32)), .val (.int (4 : Int32)), .val (.ref w_TIMESTAMP)] []) _
                refine XS.iinc Xf28.here hx rfl (hb hby d1_35) rfl (l' := #[.val (.int p1), .val (.ref aT), .val (.int (7 : Int32)), .val (.int (5 : Int32)), .val (.ref w_TIMESTAMP)]) rfl ?_
                show Sp p e below Tf28 (mkF m 38 #[.val (.int p1), .val (.ref aT), .val (.int (7 : Int32)), .val (.int (5 : Int32)), .val (.ref w_TIMESTAMP)] []) _
                refine XS.goto Xf28.here hx rfl (pc0 := 38) (pc' := 9) rfl (hb hby d1_38) (by decide) (by decide) ?_
                show Sp p e below Tf28 (mkF m 9 #[.val (.int p1), .val (.ref aT), .val (.int (7 : Int32)), .val (.int (5 : Int32)), .val (.ref w_TIMESTAMP)] []) _
                refine XS.iloadN Xf28.here hx rfl (hb hby d1_9) rfl ?_
                show Sp p e below Tf28 (mkF m 10 #[.val (.int p1), .val (.ref aT), .val (.int (7 : Int32)), .val (.int (5 : Int32)), .val (.ref w_TIMESTAMP)] [(.int (5 : Int32))]) _
                refine XS.iloadN Xf28.here hx rfl (hb hby d1_10) rfl ?_
                show Sp p e below Tf28 (mkF m 11 #[.val (.int p1), .val (.ref aT), .val (.int (7 : Int32)), .val (.int (5 : Int32)), .val (.ref w_TIMESTAMP)] [(.int (7 : Int32)), (.int (5 : Int32))]) _
                refine XS.icmpNo Xf28.here hx rfl (hb hby d1_11) rfl (tlt (by decide : (5 : Int32) < (7 : Int32))).2.1 ?_
                show Sp p e below Tf28 (mkF m 14 #[.val (.int p1), .val (.ref aT), .val (.int (7 : Int32)), .val (.int (5 : Int32)), .val (.ref w_TIMESTAMP)] []) _
                refine XS.aloadN Xf28.here hx rfl (hb hby d1_14) rfl rfl ?_
                show Sp p e below Tf28 (mkF m 15 #[.val (.int p1), .val (.ref aT), .val (.int (7 : Int32)), .val (.int (5 : Int32)), .val (.ref w_TIMESTAMP)] [(.ref aT)]) _
                refine XS.iloadN Xf28.here hx rfl (hb hby d1_15) rfl ?_
                show Sp p e below Tf28 (mkF m 16 #[.val (.int p1), .val (.ref aT), .val (.int (7 : Int32)), .val (.int (5 : Int32)), .val (.ref w_TIMESTAMP)] [(.int (5 : Int32)), (.ref aT)]) _
                refine Xf28.aaload hx (j := (5 : Int32)) (v := (.ref w_BOOLEAN)) (own_eq ef28 Arv2.1) (State.isArrayOf_alike hZ.alike Arv2.2.1) rfl Arv2.2.2 in31 atin31 (g := (mkF m 16 #[.val (.int p1), .val (.ref aT), .val (.int (7 : Int32)), .val (.int (5 : Int32)), .val (.ref w_TIMESTAMP)] [(.int (5 : Int32)), (.ref aT)])) rfl rfl (hb hby d1_16) _ ?_
                show Sp p e below Tf28 (mkF m 17 #[.val (.int p1), .val (.ref aT), .val (.int (7 : Int32)), .val (.int (5 : Int32)), .val (.ref w_TIMESTAMP)] [(.ref w_BOOLEAN)]) _
                refine XS.astore Xf28.here hx rfl (hb hby d1_17) rfl rfl (l' := #[.val (.int p1), .val (.ref aT), .val (.int (7 : Int32)), .val (.int (5 : Int32)), .val (.ref w_BOOLEAN)]) rfl ?_
                show Sp p e below Tf28 (mkF m 19 #[.val (.int p1), .val (.ref aT), .val (.int (7 : Int32)), .val (.int (5 : Int32)), .val (.ref w_BOOLEAN)] []) _
                refine XS.iloadN Xf28.here hx rfl (hb hby d1_19) rfl ?_
                show Sp p e below Tf28 (mkF m 20 #[.val (.int p1), .val (.ref aT), .val (.int (7 : Int32)), .val (.int (5 : Int32)), .val (.ref w_BOOLEAN)] [(.int p1)]) _
                refine XS.ifNo Xf28.here hx rfl (hb hby d1_20) rfl ((if0 _ _).trans (flt c5).1) ?_
                show Sp p e below Tf28 (mkF m 23 #[.val (.int p1), .val (.ref aT), .val (.int (7 : Int32)), .val (.int (5 : Int32)), .val (.ref w_BOOLEAN)] []) _
                refine XS.aload Xf28.here hx rfl (hb hby d1_23) rfl rfl ?_
                show Sp p e below Tf28 (mkF m 25 #[.val (.int p1), .val (.ref aT), .val (.int (7 : Int32)), .val (.int (5 : Int32)), .val (.ref w_BOOLEAN)] [(.ref w_BOOLEAN)]) _
                refine stf32 _ ?_
                show Sp p e below Tf32 (mkF m 28 #[.val (.int p1), .val (.ref aT), .val (.int (7 : Int32)), .val (.int (5 : Int32)), .val (.ref w_BOOLEAN)] [(.int (-1 : Int32))]) _
                refine XS.iloadN Xf32.here hx rfl (hb hby d1_28) rfl ?_
                show Sp p e below Tf32 (mkF m 29 #[.val (.int p1), .val (.ref aT), .val (.int (7 : Int32)), .val (.int (5 : Int32)), .val (.ref w_BOOLEAN)] [(.int p1), (.int (-1 : Int32))]) _
                exact k_
              by_cases c34 : (-1 : Int32) = p1
              · obtain ⟨fs, hlv, hrun, hended, hW, hsame⟩ := Xf32.leave (v := some (.ref w_BOOLEAN)) (fun h => by rw [hret] at h; cases h)
                refine ⟨_, _, r33 _ ?_, hrun, hended, _, _, rfl, ?_, ⟨_, rfl⟩, hW, hsame.mono (by decide) (by decide)⟩
                · refine XS.icmpNo Xf32.here hx rfl (hb hby d1_29) rfl (teq c34).2 ?_
                  show Sp p e below Tf32 (mkF m 32 #[.val (.int p1), .val (.ref aT), .val (.int (7 : Int32)), .val (.int (5 : Int32)), .val (.ref w_BOOLEAN)] []) _
                  refine XS.aload Xf32.here hx rfl (hb hby d1_32) rfl rfl ?_
                  show Sp p e below Tf32 (mkF m 34 #[.val (.int p1), .val (.ref aT), .val (.int (7 : Int32)), .val (.int (5 : Int32)), .val (.ref w_BOOLEAN)] [(.ref w_BOOLEAN)]) _
                  jvm_step Xf32.here [Xf32.here.top, hx, (hb hby d1_34), Xf32.method', hret, Value.isRef, FieldType.isReference]
                  first | (intro acts; rw [hlv _ acts rfl rfl rfl]) | rw [hlv _ _ rfl rfl rfl]
                  exact Steps.refl _
                · show Q_tagged Z p1 aT kT w_INTEGER w_DECIMAL w_VARCHAR w_DATE w_TIMESTAMP w_BOOLEAN w_NULL r h0 n0 _ Tf32.heap _
                  rw [ef32]
                  exact ⟨by rw [hres]; simp [c5, c14, c18, c22, c26, c30, c34], N0, rfl⟩
              · have in35 : ¬ ((6 : Int32) < 0 ∨ clv2.slots.size ≤ ((6 : Int32)).toNatClampNeg) := inb_of Sv2 ⟨by decide, by decide⟩
                have atin35 : clv2.slots[((6 : Int32)).toNatClampNeg]? = some (.ref w_NULL) := Has.at Hv2 in35 rfl
                obtain ⟨Tf36, Xf36, ef36, stf36⟩ := getF Xf32 hx hZ hown (host := "") (Or.inl (hw _ (List.mem_of_getElem? (i := 6) rfl))) Via.refl ef32 F_NULL (g := (mkF m 25 #[.val (.int p1), .val (.ref aT), .val (.int (7 : Int32)), .val (.int (6 : Int32)), .val (.ref w_NULL)] [(.ref w_NULL)])) rfl rfl (hb hby d1_25)
                have r37 : ∀ t_, Sp p e below Tf36 (mkF m 29 #[.val (.int p1), .val (.ref aT), .val (.int (7 : Int32)), .val (.int (6 : Int32)), .val (.ref w_NULL)] [(.int p1), (.int (0 : Int32))]) t_ → Sp p e below s₁ (entryFrame m #[(.int p1)] 5) t_ := by
                  intro t_ k_
                  refine r33 _ ?_
                  refine XS.icmpYes Xf32.here hx rfl (pc0 := 29) (pc' := 35) rfl (hb hby d1_29) rfl (feq c34).2 (by decide) (by decide) ?_
                  show Sp p e below Tf32 (mkF m 35 #[.val (.int p1), .val (.ref aT), .val (.int (7 : Int32)), .val (.int (5 : Int32)), .val (.ref w_BOOLEAN)] []) _
                  refine XS.iinc Xf32.here hx rfl (hb hby d1_35) rfl (l' := #[.val (.int p1), .val (.ref aT), .val (.int (7 : Int32)), .val (.int (6 : Int32)), .val (.ref w_BOOLEAN)]) rfl ?_
                  show Sp p e below Tf32 (mkF m 38 #[.val (.int p1), .val (.ref aT), .val (.int (7 : Int32)), .val (.int (6 : Int32)), .val (.ref w_BOOLEAN)] []) _
                  refine XS.goto Xf32.here hx rfl (pc0 := 38) (pc' := 9) rfl (hb hby d1_38) (by decide) (by decide) ?_
                  show Sp p e below Tf32 (mkF m 9 #[.val (.int p1), .val (.ref aT), .val (.int (7 : Int32)), .val (.int (6 : Int32)), .val (.ref w_BOOLEAN)] []) _
                  refine XS.iloadN Xf32.here hx rfl (hb hby d1_9) rfl ?_
                  show Sp p e below Tf32 (mkF m 10 #[.val (.int p1), .val (.ref aT), .val (.int (7 : Int32)), .val (.int (6 : Int32)), .val (.ref w_BOOLEAN)] [(.int (6 : Int32))]) _
                  refine XS.iloadN Xf32.here hx rfl (hb hby d1_10) rfl ?_
                  show Sp p e below Tf32 (mkF m 11 #[.val (.int p1), .val (.ref aT), .val (.int (7 : Int32)), .val (.int (6 : Int32)), .val (.ref w_BOOLEAN)] [(.int (7 : Int32)), (.int (6 : Int32))]) _
                  refine XS.icmpNo Xf32.here hx rfl (hb hby d1_11) rfl (tlt (by decide : (6 : Int32) < (7 : Int32))).2.1 ?_
                  show Sp p e below Tf32 (mkF m 14 #[.val (.int p1), .val (.ref aT), .val (.int (7 : Int32)), .val (.int (6 : Int32)), .val (.ref w_BOOLEAN)] []) _
                  refine XS.aloadN Xf32.here hx rfl (hb hby d1_14) rfl rfl ?_
                  show Sp p e below Tf32 (mkF m 15 #[.val (.int p1), .val (.ref aT), .val (.int (7 : Int32)), .val (.int (6 : Int32)), .val (.ref w_BOOLEAN)] [(.ref aT)]) _
                  refine XS.iloadN Xf32.here hx rfl (hb hby d1_15) rfl ?_
                  show Sp p e below Tf32 (mkF m 16 #[.val (.int p1), .val (.ref aT), .val (.int (7 : Int32)), .val (.int (6 : Int32)), .val (.ref w_BOOLEAN)] [(.int (6 : Int32)), (.ref aT)]) _
                  refine Xf32.aaload hx (j := (6 : Int32)) (v := (.ref w_NULL)) (own_eq ef32 Arv2.1) (State.isArrayOf_alike hZ.alike Arv2.2.1) rfl Arv2.2.2 in35 atin35 (g := (mkF m 16 #[.val (.int p1), .val (.ref aT), .val (.int (7 : Int32)), .val (.int (6 : Int32)), .val (.ref w_BOOLEAN)] [(.int (6 : Int32)), (.ref aT)])) rfl rfl (hb hby d1_16) _ ?_
                  show Sp p e below Tf32 (mkF m 17 #[.val (.int p1), .val (.ref aT), .val (.int (7 : Int32)), .val (.int (6 : Int32)), .val (.ref w_BOOLEAN)] [(.ref w_NULL)]) _
                  refine XS.astore Xf32.here hx rfl (hb hby d1_17) rfl rfl (l' := #[.val (.int p1), .val (.ref aT), .val (.int (7 : Int32)), .val (.int (6 : Int32)), .val (.ref w_NULL)]) rfl ?_
                  show Sp p e below Tf32 (mkF m 19 #[.val (.int p1), .val (.ref aT), .val (.int (7 : Int32)), .val (.int (6 : Int32)), .val (.ref w_NULL)] []) _
                  refine XS.iloadN Xf32.here hx rfl (hb hby d1_19) rfl ?_
                  show Sp p e below Tf32 (mkF m 20 #[.val (.int p1), .val (.ref aT), .val (.int (7 : Int32)), .val (.int (6 : Int32)), .val (.ref w_NULL)] [(.int p1)]) _
                  refine XS.ifNo Xf32.here hx rfl (hb hby d1_20) rfl ((if0 _ _).trans (flt c5).1) ?_
                  show Sp p e below Tf32 (mkF m 23 #[.val (.int p1), .val (.ref aT), .val (.int (7 : Int32)), .val (.int (6 : Int32)), .val (.ref w_NULL)] []) _
                  refine XS.aload Xf32.here hx rfl (hb hby d1_23) rfl rfl ?_
                  show Sp p e below Tf32 (mkF m 25 #[.val (.int p1), .val (.ref aT), .val (.int (7 : Int32)), .val (.int (6 : Int32)), .val (.ref w_NULL)] [(.ref w_NULL)]) _
                  refine stf36 _ ?_
                  show Sp p e below Tf36 (mkF m 28 #[.val (.int p1), .val (.ref aT), .val (.int (7 : Int32)), .val (.int (6 : Int32)), .val (.ref w_NULL)] [(.int (0 : Int32))]) _
                  refine XS.iloadN Xf36.here hx rfl (hb hby d1_28) rfl ?_
                  show Sp p e below Tf36 (mkF m 29 #[.val (.int p1), .val (.ref aT), .val (.int (7 : Int32)), .val (.int (6 : Int32)), .val (.ref w_NULL)] [(.int p1), (.int (0 : Int32))]) _
                  exact k_
                by_cases c38 : (0 : Int32) = p1
                · obtain ⟨fs, hlv, hrun, hended, hW, hsame⟩ := Xf36.leave (v := some (.ref w_NULL)) (fun h => by rw [hret] at h; cases h)
                  refine ⟨_, _, r37 _ ?_, hrun, hended, _, _, rfl, ?_, ⟨_, rfl⟩, hW, hsame.mono (by decide) (by decide)⟩
                  · refine XS.icmpNo Xf36.here hx rfl (hb hby d1_29) rfl (teq c38).2 ?_
                    show Sp p e below Tf36 (mkF m 32 #[.val (.int p1), .val (.ref aT), .val (.int (7 : Int32)), .val (.int (6 : Int32)), .val (.ref w_NULL)] []) _
                    refine XS.aload Xf36.here hx rfl (hb hby d1_32) rfl rfl ?_
                    show Sp p e below Tf36 (mkF m 34 #[.val (.int p1), .val (.ref aT), .val (.int (7 : Int32)), .val (.int (6 : Int32)), .val (.ref w_NULL)] [(.ref w_NULL)]) _
                    jvm_step Xf36.here [Xf36.here.top, hx, (hb hby d1_34), Xf36.method', hret, Value.isRef, FieldType.isReference]
                    first | (intro acts; rw [hlv _ acts rfl rfl rfl]) | rw [hlv _ _ rfl rfl rfl]
                    exact Steps.refl _
                  · show Q_tagged Z p1 aT kT w_INTEGER w_DECIMAL w_VARCHAR w_DATE w_TIMESTAMP w_BOOLEAN w_NULL r h0 n0 _ Tf36.heap _
                    rw [ef36]
                    exact ⟨by rw [hres]; simp [c5, c14, c18, c22, c26, c30, c34, c38], N0, rfl⟩
                · obtain ⟨fs, hlv, hrun, hended, hW, hsame⟩ := Xf36.leave (v := some .null) (fun h => by rw [hret] at h; cases h)
                  refine ⟨_, _, r37 _ ?_, hrun, hended, _, _, rfl, ?_, ⟨_, rfl⟩, hW, hsame.mono (by decide) (by decide)⟩
                  · refine XS.icmpYes Xf36.here hx rfl (pc0 := 29) (pc' := 35) rfl (hb hby d1_29) rfl (feq c38).2 (by decide) (by decide) ?_
                    show Sp p e below Tf36 (mkF m 35 #[.val (.int p1), .val (.ref aT), .val (.int (7 : Int32)), .val (.int (6 : Int32)), .val (.ref w_NULL)] []) _
                    refine XS.iinc Xf36.here hx rfl (hb hby d1_35) rfl (l' := #[.val (.int p1), .val (.ref aT), .val (.int (7 : Int32)), .val (.int (7 : Int32)), .val (.ref w_NULL)]) rfl ?_
                    show Sp p e below Tf36 (mkF m 38 #[.val (.int p1), .val (.ref aT), .val (.int (7 : Int32)), .val (.int (7 : Int32)), .val (.ref w_NULL)] []) _
                    refine XS.goto Xf36.here hx rfl (pc0 := 38) (pc' := 9) rfl (hb hby d1_38) (by decide) (by decide) ?_
                    show Sp p e below Tf36 (mkF m 9 #[.val (.int p1), .val (.ref aT), .val (.int (7 : Int32)), .val (.int (7 : Int32)), .val (.ref w_NULL)] []) _
                    refine XS.iloadN Xf36.here hx rfl (hb hby d1_9) rfl ?_
                    show Sp p e below Tf36 (mkF m 10 #[.val (.int p1), .val (.ref aT), .val (.int (7 : Int32)), .val (.int (7 : Int32)), .val (.ref w_NULL)] [(.int (7 : Int32))]) _
                    refine XS.iloadN Xf36.here hx rfl (hb hby d1_10) rfl ?_
                    show Sp p e below Tf36 (mkF m 11 #[.val (.int p1), .val (.ref aT), .val (.int (7 : Int32)), .val (.int (7 : Int32)), .val (.ref w_NULL)] [(.int (7 : Int32)), (.int (7 : Int32))]) _
                    refine XS.icmpYes Xf36.here hx rfl (pc0 := 11) (pc' := 41) rfl (hb hby d1_11) rfl (flt (by decide : ¬ ((7 : Int32) < (7 : Int32)))).2.1 (by decide) (by decide) ?_
                    show Sp p e below Tf36 (mkF m 41 #[.val (.int p1), .val (.ref aT), .val (.int (7 : Int32)), .val (.int (7 : Int32)), .val (.ref w_NULL)] []) _
                    refine XS.aconstNull Xf36.here hx rfl (hb hby d1_41) ?_
                    show Sp p e below Tf36 (mkF m 42 #[.val (.int p1), .val (.ref aT), .val (.int (7 : Int32)), .val (.int (7 : Int32)), .val (.ref w_NULL)] [.null]) _
                    jvm_step Xf36.here [Xf36.here.top, hx, (hb hby d1_42), Xf36.method', hret, Value.isRef, FieldType.isReference]
                    first | (intro acts; rw [hlv _ acts rfl rfl rfl]) | rw [hlv _ _ rfl rfl rfl]
                    exact Steps.refl _
                  · show Q_tagged Z p1 aT kT w_INTEGER w_DECIMAL w_VARCHAR w_DATE w_TIMESTAMP w_BOOLEAN w_NULL r h0 n0 _ Tf36.heap _
                    rw [ef36]
                    exact ⟨by rw [hres]; simp [c5, c14, c18, c22, c26, c30, c34, c38], N0, rfl⟩
theorem d2_0 : decode method_2_code 0 = .ok (.iload_n 0, 1) := by decide +kernel
theorem d2_1 : decode method_2_code 1 = .ok (.ifCond .ne 7, 3) := by decide +kernel
theorem d2_4 : decode method_2_code 4 = .ok (.getstatic 7, 3) := by decide +kernel
theorem d2_7 : decode method_2_code 7 = .ok (.areturn, 1) := by decide +kernel
theorem d2_8 : decode method_2_code 8 = .ok (.iload_n 0, 1) := by decide +kernel
theorem d2_9 : decode method_2_code 9 = .ok (.iconst 1, 1) := by decide +kernel
theorem d2_10 : decode method_2_code 10 = .ok (.if_icmp .ne 7, 3) := by decide +kernel
theorem d2_13 : decode method_2_code 13 = .ok (.getstatic 13, 3) := by decide +kernel
theorem d2_16 : decode method_2_code 16 = .ok (.areturn, 1) := by decide +kernel
theorem d2_17 : decode method_2_code 17 = .ok (.iload_n 0, 1) := by decide +kernel
theorem d2_18 : decode method_2_code 18 = .ok (.iconst 2, 1) := by decide +kernel
theorem d2_19 : decode method_2_code 19 = .ok (.if_icmp .ne 7, 3) := by decide +kernel
theorem d2_22 : decode method_2_code 22 = .ok (.getstatic 16, 3) := by decide +kernel
theorem d2_25 : decode method_2_code 25 = .ok (.areturn, 1) := by decide +kernel
theorem d2_26 : decode method_2_code 26 = .ok (.iload_n 0, 1) := by decide +kernel
theorem d2_27 : decode method_2_code 27 = .ok (.iconst 3, 1) := by decide +kernel
theorem d2_28 : decode method_2_code 28 = .ok (.if_icmp .ne 7, 3) := by decide +kernel
theorem d2_31 : decode method_2_code 31 = .ok (.getstatic 19, 3) := by decide +kernel
theorem d2_34 : decode method_2_code 34 = .ok (.areturn, 1) := by decide +kernel
theorem d2_35 : decode method_2_code 35 = .ok (.iload_n 0, 1) := by decide +kernel
theorem d2_36 : decode method_2_code 36 = .ok (.iconst 4, 1) := by decide +kernel
theorem d2_37 : decode method_2_code 37 = .ok (.if_icmp .ne 7, 3) := by decide +kernel
theorem d2_40 : decode method_2_code 40 = .ok (.getstatic 22, 3) := by decide +kernel
theorem d2_43 : decode method_2_code 43 = .ok (.areturn, 1) := by decide +kernel
theorem d2_44 : decode method_2_code 44 = .ok (.iload_n 0, 1) := by decide +kernel
theorem d2_45 : decode method_2_code 45 = .ok (.iconst 5, 1) := by decide +kernel
theorem d2_46 : decode method_2_code 46 = .ok (.if_icmp .ne 7, 3) := by decide +kernel
theorem d2_49 : decode method_2_code 49 = .ok (.getstatic 25, 3) := by decide +kernel
theorem d2_52 : decode method_2_code 52 = .ok (.areturn, 1) := by decide +kernel
theorem d2_53 : decode method_2_code 53 = .ok (.aconst_null, 1) := by decide +kernel
theorem d2_54 : decode method_2_code 54 = .ok (.areturn, 1) := by decide +kernel
theorem pn_1 : plainName "com/example/kilit/kilit/ValueTypeTaggedPinLaw" = true := by first | (simp [plainName, overriddenIn]; done) | decide +kernel
theorem ef_2_I (m : MethodId) (x0 : Int32) : entryFrame m #[(.int x0)] 1 = mkF m 0 #[.val (.int x0)] [] := by first | (simp [entryFrame, mkF, argsToLocals, Value.category]; done) | rfl
def Q_expected (Z : State) (p1 : Int32) (w_NULL : Addr) (w_INTEGER : Addr) (w_VARCHAR : Addr) (w_DECIMAL : Addr) (w_DATE : Addr) (w_TIMESTAMP : Addr) (r : Value) (h0 : Heap) (n0 : Nat) (v : Option Value) (h : Heap) (L : List Loc) : Prop := v = some r ∧ Fr n0 L ∧ h = h0
set_option maxRecDepth 65536 in
set_option maxHeartbeats 40000000 in
theorem rm_expected (l : Launch) (Z : State) (a0 : Array Value) (hw : ∀ d ∈ tables_1, d.before a0 Z = true) (ws : List Jvm.Cond) (p1 : Int32) (w_NULL : Addr) (w_INTEGER : Addr) (w_VARCHAR : Addr) (w_DECIMAL : Addr) (w_DATE : Addr) (w_TIMESTAMP : Addr) (r : Value) (h0 : Heap) (n0 : Nat) (Z0 : n0 ≤ h0.size) (S_NULL : Sta Z h0 "com/example/kilit/kilit/ValueType" "NULL" "Lcom/example/kilit/kilit/ValueType;" (.ref w_NULL)) (S_INTEGER : Sta Z h0 "com/example/kilit/kilit/ValueType" "INTEGER" "Lcom/example/kilit/kilit/ValueType;" (.ref w_INTEGER)) (S_VARCHAR : Sta Z h0 "com/example/kilit/kilit/ValueType" "VARCHAR" "Lcom/example/kilit/kilit/ValueType;" (.ref w_VARCHAR)) (S_DECIMAL : Sta Z h0 "com/example/kilit/kilit/ValueType" "DECIMAL" "Lcom/example/kilit/kilit/ValueType;" (.ref w_DECIMAL)) (S_DATE : Sta Z h0 "com/example/kilit/kilit/ValueType" "DATE" "Lcom/example/kilit/kilit/ValueType;" (.ref w_DATE)) (S_TIMESTAMP : Sta Z h0 "com/example/kilit/kilit/ValueType" "TIMESTAMP" "Lcom/example/kilit/kilit/ValueType;" (.ref w_TIMESTAMP)) (hres : r = if p1 = (0 : Int32) then Value.ref w_NULL else if p1 = (1 : Int32) then Value.ref w_INTEGER else if p1 = (2 : Int32) then Value.ref w_VARCHAR else if p1 = (3 : Int32) then Value.ref w_DECIMAL else if p1 = (4 : Int32) then Value.ref w_DATE else if p1 = (5 : Int32) then Value.ref w_TIMESTAMP else Value.null) :
    MetFree l (⟨"com/example/kilit/kilit/ValueTypeTaggedPinLaw", "expected", "(I)Lcom/example/kilit/kilit/ValueType;"⟩ : MethodName) (head1 (Jvm.Cond.code (⟨"com/example/kilit/kilit/ValueTypeTaggedPinLaw", "expected", "(I)Lcom/example/kilit/kilit/ValueType;"⟩ : MethodName) method_2_code 1 (some (.object "com/example/kilit/kilit/ValueType")) :: ws) ({ frames := 0, cells := 0, slots := 0, locals := 0 } : Room)) (fun A_ U => A_ = #[(.int p1)] ∧ Z.Warmed39 U.vm ∧ U.heap = h0) (fun _ _ _ _ _ => True) (fun _ U o_ U' => ∃ v_ L_, o_ = .returned v_ ∧ Q_expected Z p1 w_NULL w_INTEGER w_VARCHAR w_DECIMAL w_DATE w_TIMESTAMP r h0 n0 v_ U'.heap L_ ∧ FrameEnd U o_ U' L_ ({ frames := 0, cells := 0, slots := 0, locals := 0 } : Room).cells ({ frames := 0, cells := 0, slots := 0, locals := 0 } : Room).slots) := by
  refine MetFree.of_bodySF (plainFor_of_name pn_1) hisR ?_
  intro p e s m args below meth c s₁ Bd hml0 hP hK
  obtain ⟨rfl, hZ, hh⟩ := hP
  have hx := Bd.exec
  have hby := Bd.bytes
  have hml : c.maxLocals = 1 := hml0
  have hown : s.vm.findClass "com/example/kilit/kilit/ValueTypeTaggedPinLaw" = some m.cls := findClass_of_methodNamed Bd.named
  have hnm := (name_of_methodNamed Bd.named Bd.method).1
  have hret := Bd.returns
  have X0 : Stand p l e ({ frames := 0, cells := 0, slots := 0, locals := 0 } : Room) s m #[(.int p1)] below meth c s₁ [] 0 0 := Stand.of_body Bd
  have e0 : s₁.heap = h0 := by rw [← hh, Bd.state]; rfl
  have N0 := Fr.nil n0
  have pre0 : ∀ t_, Sp p e below s₁ (mkF m 0 #[.val (.int p1)] []) t_ → Sp p e below s₁ (entryFrame m #[(.int p1)] 1) t_ := fun t_ k_ => castTop (ef_2_I m p1) k_
  have r1 : ∀ t_, Sp p e below s₁ (mkF m 1 #[.val (.int p1)] [(.int p1)]) t_ → Sp p e below s₁ (entryFrame m #[(.int p1)] 1) t_ := by
    intro t_ k_
    refine pre0 _ ?_
    refine XS.iloadN X0.here hx rfl (hb hby d2_0) rfl ?_
    show Sp p e below s₁ (mkF m 1 #[.val (.int p1)] [(.int p1)]) _
    exact k_
  by_cases c2 : p1 = (0 : Int32)
  · obtain ⟨Tg3, Xg3, eg3, stg3⟩ := getS2 X0 hx hZ hown (host := "") (Or.inl (hw _ (List.mem_of_getElem? (i := 18) rfl))) Via.refl e0 S_NULL (g := (mkF m 4 #[.val (.int p1)] [])) rfl (hb hby d2_4)
    obtain ⟨fs, hlv, hrun, hended, hW, hsame⟩ := Xg3.leave (v := some (.ref w_NULL)) (fun h => by rw [hret] at h; cases h)
    refine ⟨_, _, r1 _ ?_, hrun, hended, _, _, rfl, ?_, ⟨_, rfl⟩, hW, hsame.mono (by decide) (by decide)⟩
    · refine XS.ifNo X0.here hx rfl (hb hby d2_1) rfl ((if0 _ _).trans (teq c2).2) ?_
      show Sp p e below s₁ (mkF m 4 #[.val (.int p1)] []) _
      refine stg3 _ ?_
      show Sp p e below Tg3 (mkF m 7 #[.val (.int p1)] [(.ref w_NULL)]) _
      jvm_step Xg3.here [Xg3.here.top, hx, (hb hby d2_7), Xg3.method', hret, Value.isRef, FieldType.isReference]
      first | (intro acts; rw [hlv _ acts rfl rfl rfl]) | rw [hlv _ _ rfl rfl rfl]
      exact Steps.refl _
    · show Q_expected Z p1 w_NULL w_INTEGER w_VARCHAR w_DECIMAL w_DATE w_TIMESTAMP r h0 n0 _ Tg3.heap _
      rw [eg3]
      exact ⟨by rw [hres]; simp [c2], N0, rfl⟩
  · have r4 : ∀ t_, Sp p e below s₁ (mkF m 10 #[.val (.int p1)] [(.int (1 : Int32)), (.int p1)]) t_ → Sp p e below s₁ (entryFrame m #[(.int p1)] 1) t_ := by
      intro t_ k_
      refine r1 _ ?_
      refine XS.ifYes X0.here hx rfl (pc0 := 1) (pc' := 8) rfl (hb hby d2_1) rfl ((if0 _ _).trans (feq c2).2) (by decide) (by decide) ?_
      show Sp p e below s₁ (mkF m 8 #[.val (.int p1)] []) _
      refine XS.iloadN X0.here hx rfl (hb hby d2_8) rfl ?_
      show Sp p e below s₁ (mkF m 9 #[.val (.int p1)] [(.int p1)]) _
      refine XS.iconst X0.here hx rfl (hb hby d2_9) ?_
      show Sp p e below s₁ (mkF m 10 #[.val (.int p1)] [(.int (1 : Int32)), (.int p1)]) _
      exact k_
    by_cases c5 : p1 = (1 : Int32)
    · obtain ⟨Tg6, Xg6, eg6, stg6⟩ := getS2 X0 hx hZ hown (host := "") (Or.inl (hw _ (List.mem_of_getElem? (i := 27) rfl))) Via.refl e0 S_INTEGER (g := (mkF m 13 #[.val (.int p1)] [])) rfl (hb hby d2_13)
      obtain ⟨fs, hlv, hrun, hended, hW, hsame⟩ := Xg6.leave (v := some (.ref w_INTEGER)) (fun h => by rw [hret] at h; cases h)
      refine ⟨_, _, r4 _ ?_, hrun, hended, _, _, rfl, ?_, ⟨_, rfl⟩, hW, hsame.mono (by decide) (by decide)⟩
      · refine XS.icmpNo X0.here hx rfl (hb hby d2_10) rfl (teq c5).2 ?_
        show Sp p e below s₁ (mkF m 13 #[.val (.int p1)] []) _
        refine stg6 _ ?_
        show Sp p e below Tg6 (mkF m 16 #[.val (.int p1)] [(.ref w_INTEGER)]) _
        jvm_step Xg6.here [Xg6.here.top, hx, (hb hby d2_16), Xg6.method', hret, Value.isRef, FieldType.isReference]
        first | (intro acts; rw [hlv _ acts rfl rfl rfl]) | rw [hlv _ _ rfl rfl rfl]
        exact Steps.refl _
      · show Q_expected Z p1 w_NULL w_INTEGER w_VARCHAR w_DECIMAL w_DATE w_TIMESTAMP r h0 n0 _ Tg6.heap _
        rw [eg6]
        exact ⟨by rw [hres]; simp [c2, c5], N0, rfl⟩
    · have r7 : ∀ t_, Sp p e below s₁ (mkF m 19 #[.val (.int p1)] [(.int (2 : Int32)), (.int p1)]) t_ → Sp p e below s₁ (entryFrame m #[(.int p1)] 1) t_ := by
        intro t_ k_
        refine r4 _ ?_
        refine XS.icmpYes X0.here hx rfl (pc0 := 10) (pc' := 17) rfl (hb hby d2_10) rfl (feq c5).2 (by decide) (by decide) ?_
        show Sp p e below s₁ (mkF m 17 #[.val (.int p1)] []) _
        refine XS.iloadN X0.here hx rfl (hb hby d2_17) rfl ?_
        show Sp p e below s₁ (mkF m 18 #[.val (.int p1)] [(.int p1)]) _
        refine XS.iconst X0.here hx rfl (hb hby d2_18) ?_
        show Sp p e below s₁ (mkF m 19 #[.val (.int p1)] [(.int (2 : Int32)), (.int p1)]) _
        exact k_
      by_cases c8 : p1 = (2 : Int32)
      · obtain ⟨Tg9, Xg9, eg9, stg9⟩ := getS2 X0 hx hZ hown (host := "") (Or.inl (hw _ (List.mem_of_getElem? (i := 23) rfl))) Via.refl e0 S_VARCHAR (g := (mkF m 22 #[.val (.int p1)] [])) rfl (hb hby d2_22)
        obtain ⟨fs, hlv, hrun, hended, hW, hsame⟩ := Xg9.leave (v := some (.ref w_VARCHAR)) (fun h => by rw [hret] at h; cases h)
        refine ⟨_, _, r7 _ ?_, hrun, hended, _, _, rfl, ?_, ⟨_, rfl⟩, hW, hsame.mono (by decide) (by decide)⟩
        · refine XS.icmpNo X0.here hx rfl (hb hby d2_19) rfl (teq c8).2 ?_
          show Sp p e below s₁ (mkF m 22 #[.val (.int p1)] []) _
          refine stg9 _ ?_
          show Sp p e below Tg9 (mkF m 25 #[.val (.int p1)] [(.ref w_VARCHAR)]) _
          jvm_step Xg9.here [Xg9.here.top, hx, (hb hby d2_25), Xg9.method', hret, Value.isRef, FieldType.isReference]
          first | (intro acts; rw [hlv _ acts rfl rfl rfl]) | rw [hlv _ _ rfl rfl rfl]
          exact Steps.refl _
        · show Q_expected Z p1 w_NULL w_INTEGER w_VARCHAR w_DECIMAL w_DATE w_TIMESTAMP r h0 n0 _ Tg9.heap _
          rw [eg9]
          exact ⟨by rw [hres]; simp [c2, c5, c8], N0, rfl⟩
      · have r10 : ∀ t_, Sp p e below s₁ (mkF m 28 #[.val (.int p1)] [(.int (3 : Int32)), (.int p1)]) t_ → Sp p e below s₁ (entryFrame m #[(.int p1)] 1) t_ := by
          intro t_ k_
          refine r7 _ ?_
          refine XS.icmpYes X0.here hx rfl (pc0 := 19) (pc' := 26) rfl (hb hby d2_19) rfl (feq c8).2 (by decide) (by decide) ?_
          show Sp p e below s₁ (mkF m 26 #[.val (.int p1)] []) _
          refine XS.iloadN X0.here hx rfl (hb hby d2_26) rfl ?_
          show Sp p e below s₁ (mkF m 27 #[.val (.int p1)] [(.int p1)]) _
          refine XS.iconst X0.here hx rfl (hb hby d2_27) ?_
          show Sp p e below s₁ (mkF m 28 #[.val (.int p1)] [(.int (3 : Int32)), (.int p1)]) _
          exact k_
        by_cases c11 : p1 = (3 : Int32)
        · obtain ⟨Tg12, Xg12, eg12, stg12⟩ := getS2 X0 hx hZ hown (host := "") (Or.inl (hw _ (List.mem_of_getElem? (i := 21) rfl))) Via.refl e0 S_DECIMAL (g := (mkF m 31 #[.val (.int p1)] [])) rfl (hb hby d2_31)
          obtain ⟨fs, hlv, hrun, hended, hW, hsame⟩ := Xg12.leave (v := some (.ref w_DECIMAL)) (fun h => by rw [hret] at h; cases h)
          refine ⟨_, _, r10 _ ?_, hrun, hended, _, _, rfl, ?_, ⟨_, rfl⟩, hW, hsame.mono (by decide) (by decide)⟩
          · refine XS.icmpNo X0.here hx rfl (hb hby d2_28) rfl (teq c11).2 ?_
            show Sp p e below s₁ (mkF m 31 #[.val (.int p1)] []) _
            refine stg12 _ ?_
            show Sp p e below Tg12 (mkF m 34 #[.val (.int p1)] [(.ref w_DECIMAL)]) _
            jvm_step Xg12.here [Xg12.here.top, hx, (hb hby d2_34), Xg12.method', hret, Value.isRef, FieldType.isReference]
            first | (intro acts; rw [hlv _ acts rfl rfl rfl]) | rw [hlv _ _ rfl rfl rfl]
            exact Steps.refl _
          · show Q_expected Z p1 w_NULL w_INTEGER w_VARCHAR w_DECIMAL w_DATE w_TIMESTAMP r h0 n0 _ Tg12.heap _
            rw [eg12]
            exact ⟨by rw [hres]; simp [c2, c5, c8, c11], N0, rfl⟩
        · have r13 : ∀ t_, Sp p e below s₁ (mkF m 37 #[.val (.int p1)] [(.int (4 : Int32)), (.int p1)]) t_ → Sp p e below s₁ (entryFrame m #[(.int p1)] 1) t_ := by
            intro t_ k_
            refine r10 _ ?_
            refine XS.icmpYes X0.here hx rfl (pc0 := 28) (pc' := 35) rfl (hb hby d2_28) rfl (feq c11).2 (by decide) (by decide) ?_
            show Sp p e below s₁ (mkF m 35 #[.val (.int p1)] []) _
            refine XS.iloadN X0.here hx rfl (hb hby d2_35) rfl ?_
            show Sp p e below s₁ (mkF m 36 #[.val (.int p1)] [(.int p1)]) _
            refine XS.iconst X0.here hx rfl (hb hby d2_36) ?_
            show Sp p e below s₁ (mkF m 37 #[.val (.int p1)] [(.int (4 : Int32)), (.int p1)]) _
            exact k_
          by_cases c14 : p1 = (4 : Int32)
          · obtain ⟨Tg15, Xg15, eg15, stg15⟩ := getS2 X0 hx hZ hown (host := "") (Or.inl (hw _ (List.mem_of_getElem? (i := 25) rfl))) Via.refl e0 S_DATE (g := (mkF m 40 #[.val (.int p1)] [])) rfl (hb hby d2_40)
            obtain ⟨fs, hlv, hrun, hended, hW, hsame⟩ := Xg15.leave (v := some (.ref w_DATE)) (fun h => by rw [hret] at h; cases h)
            refine ⟨_, _, r13 _ ?_, hrun, hended, _, _, rfl, ?_, ⟨_, rfl⟩, hW, hsame.mono (by decide) (by decide)⟩
            · refine XS.icmpNo X0.here hx rfl (hb hby d2_37) rfl (teq c14).2 ?_
              show Sp p e below s₁ (mkF m 40 #[.val (.int p1)] []) _
              refine stg15 _ ?_
              show Sp p e below Tg15 (mkF m 43 #[.val (.int p1)] [(.ref w_DATE)]) _
              jvm_step Xg15.here [Xg15.here.top, hx, (hb hby d2_43), Xg15.method', hret, Value.isRef, FieldType.isReference]
              first | (intro acts; rw [hlv _ acts rfl rfl rfl]) | rw [hlv _ _ rfl rfl rfl]
              exact Steps.refl _
            · show Q_expected Z p1 w_NULL w_INTEGER w_VARCHAR w_DECIMAL w_DATE w_TIMESTAMP r h0 n0 _ Tg15.heap _
              rw [eg15]
              exact ⟨by rw [hres]; simp [c2, c5, c8, c11, c14], N0, rfl⟩
          · have r16 : ∀ t_, Sp p e below s₁ (mkF m 46 #[.val (.int p1)] [(.int (5 : Int32)), (.int p1)]) t_ → Sp p e below s₁ (entryFrame m #[(.int p1)] 1) t_ := by
              intro t_ k_
              refine r13 _ ?_
              refine XS.icmpYes X0.here hx rfl (pc0 := 37) (pc' := 44) rfl (hb hby d2_37) rfl (feq c14).2 (by decide) (by decide) ?_
              show Sp p e below s₁ (mkF m 44 #[.val (.int p1)] []) _
              refine XS.iloadN X0.here hx rfl (hb hby d2_44) rfl ?_
              show Sp p e below s₁ (mkF m 45 #[.val (.int p1)] [(.int p1)]) _
              refine XS.iconst X0.here hx rfl (hb hby d2_45) ?_
              show Sp p e below s₁ (mkF m 46 #[.val (.int p1)] [(.int (5 : Int32)), (.int p1)]) _
              exact k_
            by_cases c17 : p1 = (5 : Int32)
            · obtain ⟨Tg18, Xg18, eg18, stg18⟩ := getS2 X0 hx hZ hown (host := "") (Or.inl (hw _ (List.mem_of_getElem? (i := 29) rfl))) Via.refl e0 S_TIMESTAMP (g := (mkF m 49 #[.val (.int p1)] [])) rfl (hb hby d2_49)
              obtain ⟨fs, hlv, hrun, hended, hW, hsame⟩ := Xg18.leave (v := some (.ref w_TIMESTAMP)) (fun h => by rw [hret] at h; cases h)
              refine ⟨_, _, r16 _ ?_, hrun, hended, _, _, rfl, ?_, ⟨_, rfl⟩, hW, hsame.mono (by decide) (by decide)⟩
              · refine XS.icmpNo X0.here hx rfl (hb hby d2_46) rfl (teq c17).2 ?_
                show Sp p e below s₁ (mkF m 49 #[.val (.int p1)] []) _
                refine stg18 _ ?_
                show Sp p e below Tg18 (mkF m 52 #[.val (.int p1)] [(.ref w_TIMESTAMP)]) _
                jvm_step Xg18.here [Xg18.here.top, hx, (hb hby d2_52), Xg18.method', hret, Value.isRef, FieldType.isReference]
                first | (intro acts; rw [hlv _ acts rfl rfl rfl]) | rw [hlv _ _ rfl rfl rfl]
                exact Steps.refl _
              · show Q_expected Z p1 w_NULL w_INTEGER w_VARCHAR w_DECIMAL w_DATE w_TIMESTAMP r h0 n0 _ Tg18.heap _
                rw [eg18]
                exact ⟨by rw [hres]; simp [c2, c5, c8, c11, c14, c17], N0, rfl⟩
            · obtain ⟨fs, hlv, hrun, hended, hW, hsame⟩ := X0.leave (v := some .null) (fun h => by rw [hret] at h; cases h)
              refine ⟨_, _, r16 _ ?_, hrun, hended, _, _, rfl, ?_, ⟨_, rfl⟩, hW, hsame.mono (by decide) (by decide)⟩
              · refine XS.icmpYes X0.here hx rfl (pc0 := 46) (pc' := 53) rfl (hb hby d2_46) rfl (feq c17).2 (by decide) (by decide) ?_
                show Sp p e below s₁ (mkF m 53 #[.val (.int p1)] []) _
                refine XS.aconstNull X0.here hx rfl (hb hby d2_53) ?_
                show Sp p e below s₁ (mkF m 54 #[.val (.int p1)] [.null]) _
                jvm_step X0.here [X0.here.top, hx, (hb hby d2_54), X0.method', hret, Value.isRef, FieldType.isReference]
                first | (intro acts; rw [hlv _ acts rfl rfl rfl]) | rw [hlv _ _ rfl rfl rfl]
                exact Steps.refl _
              · show Q_expected Z p1 w_NULL w_INTEGER w_VARCHAR w_DECIMAL w_DATE w_TIMESTAMP r h0 n0 _ s₁.heap _
                rw [e0]
                exact ⟨by rw [hres]; simp [c2, c5, c8, c11, c14, c17], N0, rfl⟩
theorem ef_0_II (m : MethodId) (x0 : Int32) (x1 : Int32) : entryFrame m #[(.int x0), (.int x1)] maxLocals = mkF m 0 #[.val (.int x0), .val (.int x1), .unset, .unset] [] := by first | (simp [entryFrame, mkF, argsToLocals, Value.category, maxLocals]; done) | rfl
theorem pd__I_Lcom_example_kilit_kilit_ValueType_ : parseMethodDescriptor "(I)Lcom/example/kilit/kilit/ValueType;" = some ⟨[.int], some (.object "com/example/kilit/kilit/ValueType")⟩ := by decide +kernel
def Q_law (Z : State) (p1 : Int32) (p2 : Int32) (aT : Addr) (kT : ClassId) (w_INTEGER : Addr) (w_DECIMAL : Addr) (w_VARCHAR : Addr) (w_DATE : Addr) (w_TIMESTAMP : Addr) (w_BOOLEAN : Addr) (w_NULL : Addr) (h0 : Heap) (n0 : Nat) (v : Option Value) (h : Heap) (L : List Loc) : Prop := v = some (.int 1) ∧ Fr n0 L
set_option maxRecDepth 65536 in
set_option maxHeartbeats 40000000 in
theorem rm_law (l : Launch) (Z : State) (a0 : Array Value) (hw : ∀ d ∈ tables_1, d.before a0 Z = true) (ws : List Jvm.Cond) (p1 : Int32) (p2 : Int32) (aT : Addr) (kT : ClassId) (w_INTEGER : Addr) (w_DECIMAL : Addr) (w_VARCHAR : Addr) (w_DATE : Addr) (w_TIMESTAMP : Addr) (w_BOOLEAN : Addr) (w_NULL : Addr) (h0 : Heap) (n0 : Nat) (Z0 : n0 ≤ h0.size) (S_TYPES : Sta Z h0 "com/example/kilit/kilit/ValueType" "TYPES" "[Lcom/example/kilit/kilit/ValueType;" (.ref aT)) (VT : Arv Z h0 aT kT (.object "com/example/kilit/kilit/ValueType") (7 : Int32) [(.ref w_INTEGER), (.ref w_DECIMAL), (.ref w_VARCHAR), (.ref w_DATE), (.ref w_TIMESTAMP), (.ref w_BOOLEAN), (.ref w_NULL)] .null) (F_INTEGER : Fld Z h0 w_INTEGER "com/example/kilit/kilit/ValueType" "tag" "I" (.int (1 : Int32))) (F_DECIMAL : Fld Z h0 w_DECIMAL "com/example/kilit/kilit/ValueType" "tag" "I" (.int (3 : Int32))) (F_VARCHAR : Fld Z h0 w_VARCHAR "com/example/kilit/kilit/ValueType" "tag" "I" (.int (2 : Int32))) (F_DATE : Fld Z h0 w_DATE "com/example/kilit/kilit/ValueType" "tag" "I" (.int (4 : Int32))) (F_TIMESTAMP : Fld Z h0 w_TIMESTAMP "com/example/kilit/kilit/ValueType" "tag" "I" (.int (5 : Int32))) (F_BOOLEAN : Fld Z h0 w_BOOLEAN "com/example/kilit/kilit/ValueType" "tag" "I" (.int (-1 : Int32))) (F_NULL : Fld Z h0 w_NULL "com/example/kilit/kilit/ValueType" "tag" "I" (.int (0 : Int32))) (S_NULL : Sta Z h0 "com/example/kilit/kilit/ValueType" "NULL" "Lcom/example/kilit/kilit/ValueType;" (.ref w_NULL)) (S_INTEGER : Sta Z h0 "com/example/kilit/kilit/ValueType" "INTEGER" "Lcom/example/kilit/kilit/ValueType;" (.ref w_INTEGER)) (S_VARCHAR : Sta Z h0 "com/example/kilit/kilit/ValueType" "VARCHAR" "Lcom/example/kilit/kilit/ValueType;" (.ref w_VARCHAR)) (S_DECIMAL : Sta Z h0 "com/example/kilit/kilit/ValueType" "DECIMAL" "Lcom/example/kilit/kilit/ValueType;" (.ref w_DECIMAL)) (S_DATE : Sta Z h0 "com/example/kilit/kilit/ValueType" "DATE" "Lcom/example/kilit/kilit/ValueType;" (.ref w_DATE)) (S_TIMESTAMP : Sta Z h0 "com/example/kilit/kilit/ValueType" "TIMESTAMP" "Lcom/example/kilit/kilit/ValueType;" (.ref w_TIMESTAMP)) :
    MetFree l x (head1 (Jvm.Cond.code x code maxLocals ret :: ws) room_1) (fun A_ U => A_ = #[(.int p1), (.int p2)] ∧ Z.Warmed39 U.vm ∧ U.heap = h0) (fun _ _ _ _ _ => True) (fun _ U o_ U' => ∃ v_ L_, o_ = .returned v_ ∧ Q_law Z p1 p2 aT kT w_INTEGER w_DECIMAL w_VARCHAR w_DATE w_TIMESTAMP w_BOOLEAN w_NULL h0 n0 v_ U'.heap L_ ∧ FrameEnd U o_ U' L_ room_1.cells room_1.slots) := by
  refine MetFree.of_bodySF (plainFor_of_name pn_1) hisR ?_
  intro p e s m args below meth c s₁ Bd hml0 hP hK
  obtain ⟨rfl, hZ, hh⟩ := hP
  have hx := Bd.exec
  have hby := Bd.bytes
  have hml : c.maxLocals = 4 := hml0
  have hown : s.vm.findClass "com/example/kilit/kilit/ValueTypeTaggedPinLaw" = some m.cls := findClass_of_methodNamed Bd.named
  have hnm := (name_of_methodNamed Bd.named Bd.method).1
  have hret := Bd.returns
  have X0 : Stand p l e room_1 s m #[(.int p1), (.int p2)] below meth c s₁ [] 0 0 := Stand.of_body Bd
  have e0 : s₁.heap = h0 := by rw [← hh, Bd.state]; rfl
  have N0 := Fr.nil n0
  have pre0 : ∀ t_, Sp p e below s₁ (mkF m 0 #[.val (.int p1), .val (.int p2), .unset, .unset] []) t_ → Sp p e below s₁ (entryFrame m #[(.int p1), (.int p2)] maxLocals) t_ := fun t_ k_ => castTop (ef_0_II m p1 p2) k_
  have r1 : ∀ t_, Sp p e below s₁ (mkF m 3 #[.val (.int p1), .val (.int p2), .unset, .unset] [(.int (p2 &&& (1 : Int32)))]) t_ → Sp p e below s₁ (entryFrame m #[(.int p1), (.int p2)] maxLocals) t_ := by
    intro t_ k_
    refine pre0 _ ?_
    refine XS.iloadN X0.here hx rfl (hb hby at_0) rfl ?_
    show Sp p e below s₁ (mkF m 1 #[.val (.int p1), .val (.int p2), .unset, .unset] [(.int p2)]) _
    refine XS.iconst X0.here hx rfl (hb hby at_1) ?_
    show Sp p e below s₁ (mkF m 2 #[.val (.int p1), .val (.int p2), .unset, .unset] [(.int (1 : Int32)), (.int p2)]) _
    refine XS.iand X0.here hx rfl (hb hby at_2) rfl ?_
    show Sp p e below s₁ (mkF m 3 #[.val (.int p1), .val (.int p2), .unset, .unset] [(.int (p2 &&& (1 : Int32)))]) _
    exact k_
  by_cases c2 : (p2 &&& (1 : Int32)) = (0 : Int32)
  · have r3 : ∀ t_, Sp p e below s₁ (mkF m 30 #[.val (.int p1), .val (.int p2), .val (.int (0 : Int32)), .val (.int (((p1 &&& (2147483647 : Int32)) % (9 : Int32)) - (2 : Int32)))] []) t_ → Sp p e below s₁ (entryFrame m #[(.int p1), (.int p2)] maxLocals) t_ := by
      intro t_ k_
      refine r1 _ ?_
      refine XS.ifYes X0.here hx rfl (pc0 := 3) (pc' := 10) rfl (hb hby at_3) rfl ((if0 _ _).trans (teq c2).1) (by decide) (by decide) ?_
      show Sp p e below s₁ (mkF m 10 #[.val (.int p1), .val (.int p2), .unset, .unset] []) _
      refine XS.iconst X0.here hx rfl (hb hby at_10) ?_
      show Sp p e below s₁ (mkF m 11 #[.val (.int p1), .val (.int p2), .unset, .unset] [(.int (0 : Int32))]) _
      refine XS.istoreN X0.here hx rfl (hb hby at_11) rfl (l' := #[.val (.int p1), .val (.int p2), .val (.int (0 : Int32)), .unset]) rfl ?_
      show Sp p e below s₁ (mkF m 12 #[.val (.int p1), .val (.int p2), .val (.int (0 : Int32)), .unset] []) _
      refine XS.iloadN X0.here hx rfl (hb hby at_12) rfl ?_
      show Sp p e below s₁ (mkF m 13 #[.val (.int p1), .val (.int p2), .val (.int (0 : Int32)), .unset] [(.int (0 : Int32))]) _
      refine XS.ifYes X0.here hx rfl (pc0 := 13) (pc' := 20) rfl (hb hby at_13) rfl ((if0 _ _).trans (teq (by decide : (0 : Int32) = (0 : Int32))).1) (by decide) (by decide) ?_
      show Sp p e below s₁ (mkF m 20 #[.val (.int p1), .val (.int p2), .val (.int (0 : Int32)), .unset] []) _
      refine XS.iloadN X0.here hx rfl (hb hby at_20) rfl ?_
      show Sp p e below s₁ (mkF m 21 #[.val (.int p1), .val (.int p2), .val (.int (0 : Int32)), .unset] [(.int p1)]) _
      refine Jvm.Stand.ldcI X0 hx hown (mvT hZ (hw _ (List.mem_of_getElem? (i := 20) rfl))) rfl (hb hby at_21) ?_
      show Sp p e below s₁ (mkF m 23 #[.val (.int p1), .val (.int p2), .val (.int (0 : Int32)), .unset] [(.int (2147483647 : Int32)), (.int p1)]) _
      refine XS.iand X0.here hx rfl (hb hby at_23) rfl ?_
      show Sp p e below s₁ (mkF m 24 #[.val (.int p1), .val (.int p2), .val (.int (0 : Int32)), .unset] [(.int (p1 &&& (2147483647 : Int32)))]) _
      refine XS.bipush X0.here hx rfl (hb hby at_24) ?_
      show Sp p e below s₁ (mkF m 26 #[.val (.int p1), .val (.int p2), .val (.int (0 : Int32)), .unset] [(.int (9 : Int32)), (.int (p1 &&& (2147483647 : Int32)))]) _
      refine iremM X0 hx rfl (hb hby at_26) rfl (by decide) ?_
      show Sp p e below s₁ (mkF m 27 #[.val (.int p1), .val (.int p2), .val (.int (0 : Int32)), .unset] [(.int ((p1 &&& (2147483647 : Int32)) % (9 : Int32)))]) _
      refine XS.iconst X0.here hx rfl (hb hby at_27) ?_
      show Sp p e below s₁ (mkF m 28 #[.val (.int p1), .val (.int p2), .val (.int (0 : Int32)), .unset] [(.int (2 : Int32)), (.int ((p1 &&& (2147483647 : Int32)) % (9 : Int32)))]) _
      refine XS.isub X0.here hx rfl (hb hby at_28) rfl ?_
      show Sp p e below s₁ (mkF m 29 #[.val (.int p1), .val (.int p2), .val (.int (0 : Int32)), .unset] [(.int (((p1 &&& (2147483647 : Int32)) % (9 : Int32)) - (2 : Int32)))]) _
      refine XS.istoreN X0.here hx rfl (hb hby at_29) rfl (l' := #[.val (.int p1), .val (.int p2), .val (.int (0 : Int32)), .val (.int (((p1 &&& (2147483647 : Int32)) % (9 : Int32)) - (2 : Int32)))]) rfl ?_
      show Sp p e below s₁ (mkF m 30 #[.val (.int p1), .val (.int p2), .val (.int (0 : Int32)), .val (.int (((p1 &&& (2147483647 : Int32)) % (9 : Int32)) - (2 : Int32)))] []) _
      exact k_
    obtain ⟨zt, hzt⟩ : ∃ z : Int32, z = (((p1 &&& (2147483647 : Int32)) % (9 : Int32)) - (2 : Int32)) := ⟨_, rfl⟩
    have r4 : ∀ t_, Sp p e below s₁ (mkF m 30 #[.val (.int p1), .val (.int p2), .val (.int (0 : Int32)), .val (.int zt)] []) t_ → Sp p e below s₁ (entryFrame m #[(.int p1), (.int p2)] maxLocals) t_ := by rw [hzt]; exact r3
    by_cases c0 : zt = (0 : Int32)
    · rw [c0] at r4
      have hT : (Value.ref w_NULL) = if (0 : Int32) < (0 : Int32) then Value.null else if (1 : Int32) = (0 : Int32) then Value.ref w_INTEGER else if (3 : Int32) = (0 : Int32) then Value.ref w_DECIMAL else if (2 : Int32) = (0 : Int32) then Value.ref w_VARCHAR else if (4 : Int32) = (0 : Int32) then Value.ref w_DATE else if (5 : Int32) = (0 : Int32) then Value.ref w_TIMESTAMP else if (-1 : Int32) = (0 : Int32) then Value.ref w_BOOLEAN else if (0 : Int32) = (0 : Int32) then Value.ref w_NULL else Value.null := by rw [if_neg (by decide), if_neg (by decide), if_neg (by decide), if_neg (by decide), if_neg (by decide), if_neg (by decide), if_neg (by decide), if_pos (by decide)]
      obtain ⟨_, _, ⟨Tk5, Lk5, kk5, nk5⟩, -, Xk5, ⟨Lck5, hQk5, lk5, yk5, zk5⟩, stk5⟩ := Jvm.LawKit.callS X0 hx (y := (⟨"com/example/kilit/kilit/ValueType", "tagged", "(I)Lcom/example/kilit/kilit/ValueType;"⟩ : MethodName)) hown (mvT hZ (hw _ (List.mem_of_getElem? (i := 0) rfl))) (mvT hZ (hw _ (List.mem_of_getElem? (i := 1) rfl))) (mvT hZ (hw _ (List.mem_of_getElem? (i := 2) rfl))) (mvT hZ (hw _ (List.mem_of_getElem? (i := 3) rfl))) (by decide) (backOf (W := 0) (rm_tagged l Z a0 hw [] (0 : Int32) aT kT w_INTEGER w_DECIMAL w_VARCHAR w_DATE w_TIMESTAMP w_BOOLEAN w_NULL (Value.ref w_NULL) h0 n0 Z0 S_TYPES VT F_INTEGER F_DECIMAL F_VARCHAR F_DATE F_TIMESTAMP F_BOOLEAN F_NULL hT) hZ (hw _ (List.mem_of_getElem? (i := 3) rfl)) (hw _ (List.mem_of_getElem? (i := 2) rfl)) (by decide) (by decide)) (g := (mkF m 31 #[.val (.int p1), .val (.int p2), .val (.int (0 : Int32)), .val (.int (0 : Int32))] [(.int (0 : Int32))])) rfl (by rw [hml]; rfl) (argsL := [(.int (0 : Int32))]) (rest := []) (lenOf pd__I_Lcom_example_kilit_kilit_ValueType_ rfl) rfl (by show 2 * 0 + _ ≤ _; exact Nat.le_of_eq rfl) (hb hby at_31) (fun _ _ => ⟨rfl, e0, (by decide : 0 + 0 ≤ _), (by decide : 0 + 0 ≤ _)⟩)
      dsimp only [Pt.U, Pt.locs, Pt.cells, Pt.slots] at Xk5 lk5 yk5 zk5 stk5 hQk5
      subst lk5 yk5 zk5
      obtain ⟨rfl, Nk5q, ek5⟩ := hQk5
      have Nk5 := Fr.app N0 Nk5q
      have hE : (Value.ref w_NULL) = if (0 : Int32) = (0 : Int32) then Value.ref w_NULL else if (0 : Int32) = (1 : Int32) then Value.ref w_INTEGER else if (0 : Int32) = (2 : Int32) then Value.ref w_VARCHAR else if (0 : Int32) = (3 : Int32) then Value.ref w_DECIMAL else if (0 : Int32) = (4 : Int32) then Value.ref w_DATE else if (0 : Int32) = (5 : Int32) then Value.ref w_TIMESTAMP else Value.null := by rw [if_pos (by decide)]
      obtain ⟨_, _, ⟨Tk6, Lk6, kk6, nk6⟩, -, Xk6, ⟨Lck6, hQk6, lk6, yk6, zk6⟩, stk6⟩ := Jvm.LawKit.callS Xk5 hx (y := (⟨"com/example/kilit/kilit/ValueTypeTaggedPinLaw", "expected", "(I)Lcom/example/kilit/kilit/ValueType;"⟩ : MethodName)) hown (mvT hZ (hw _ (List.mem_of_getElem? (i := 14) rfl))) (mvT hZ (hw _ (List.mem_of_getElem? (i := 15) rfl))) (mvT hZ (hw _ (List.mem_of_getElem? (i := 16) rfl))) (mvT hZ (hw _ (List.mem_of_getElem? (i := 17) rfl))) (by decide) (backOf (W := 1) (rm_expected l Z a0 hw [] (0 : Int32) w_NULL w_INTEGER w_VARCHAR w_DECIMAL w_DATE w_TIMESTAMP (Value.ref w_NULL) h0 n0 Z0 S_NULL S_INTEGER S_VARCHAR S_DECIMAL S_DATE S_TIMESTAMP hE) hZ (hw _ (List.mem_of_getElem? (i := 17) rfl)) (hw _ (List.mem_of_getElem? (i := 16) rfl)) (by decide) (by decide)) (g := (mkF m 35 #[.val (.int p1), .val (.int p2), .val (.int (0 : Int32)), .val (.int (0 : Int32))] [(.int (0 : Int32)), (.ref w_NULL)])) rfl (by rw [hml]; rfl) (argsL := [(.int (0 : Int32))]) (rest := [(.ref w_NULL)]) (lenOf pd__I_Lcom_example_kilit_kilit_ValueType_ rfl) rfl (by show 2 * 0 + _ ≤ _; exact Nat.le_of_eq rfl) (hb hby at_35) (fun _ _ => ⟨rfl, ek5, (by decide : 0 + 0 ≤ _), (by decide : 0 + 0 ≤ _)⟩)
      dsimp only [Pt.U, Pt.locs, Pt.cells, Pt.slots] at Xk6 lk6 yk6 zk6 stk6 hQk6
      subst lk6 yk6 zk6
      obtain ⟨rfl, Nk6q, ek6⟩ := hQk6
      have Nk6 := Fr.app Nk5 Nk6q
      obtain ⟨fs, hlv, hrun, hended, hW, hsame⟩ := Xk6.leave (v := some (.int (1 : Int32))) (fun h => by rw [hret] at h; cases h)
      refine ⟨_, _, r4 _ ?_, hrun, hended, _, _, rfl, ?_, ⟨_, rfl⟩, hW, hsame.mono (by decide) (by decide)⟩
      · refine XS.iloadN X0.here hx rfl (hb hby at_30) rfl ?_
        show Sp p e below s₁ (mkF m 31 #[.val (.int p1), .val (.int p2), .val (.int (0 : Int32)), .val (.int (0 : Int32))] [(.int (0 : Int32))]) _
        refine stk5 _ ?_
        show Sp p e below Tk5 (mkF m 34 #[.val (.int p1), .val (.int p2), .val (.int (0 : Int32)), .val (.int (0 : Int32))] [(.ref w_NULL)]) _
        refine XS.iloadN Xk5.here hx rfl (hb hby at_34) rfl ?_
        show Sp p e below Tk5 (mkF m 35 #[.val (.int p1), .val (.int p2), .val (.int (0 : Int32)), .val (.int (0 : Int32))] [(.int (0 : Int32)), (.ref w_NULL)]) _
        refine stk6 _ ?_
        show Sp p e below Tk6 (mkF m 38 #[.val (.int p1), .val (.int p2), .val (.int (0 : Int32)), .val (.int (0 : Int32))] [(.ref w_NULL), (.ref w_NULL)]) _
        refine Jvm.RoadKit.acmp (g := (mkF m 38 #[.val (.int p1), .val (.int p2), .val (.int (0 : Int32)), .val (.int (0 : Int32))] [(.ref w_NULL), (.ref w_NULL)])) Xk6 hx rfl rfl rfl (pc0 := 38) (pc' := 41) (same := true) rfl (hb hby at_38) rfl (decide_eq_true rfl) (by decide) (by decide) ?_
        show Sp p e below Tk6 (mkF m 41 #[.val (.int p1), .val (.int p2), .val (.int (0 : Int32)), .val (.int (0 : Int32))] []) _
        refine XS.iconst Xk6.here hx rfl (hb hby at_41) ?_
        show Sp p e below Tk6 (mkF m 42 #[.val (.int p1), .val (.int p2), .val (.int (0 : Int32)), .val (.int (0 : Int32))] [(.int (1 : Int32))]) _
        refine XS.goto Xk6.here hx rfl (pc0 := 42) (pc' := 46) rfl (hb hby at_42) (by decide) (by decide) ?_
        show Sp p e below Tk6 (mkF m 46 #[.val (.int p1), .val (.int p2), .val (.int (0 : Int32)), .val (.int (0 : Int32))] [(.int (1 : Int32))]) _
        exact retN Xk6 hx (t := .boolean) hret (by simp) (hb hby at_46) hlv
      · show Q_law Z p1 p2 aT kT w_INTEGER w_DECIMAL w_VARCHAR w_DATE w_TIMESTAMP w_BOOLEAN w_NULL h0 n0 _ Tk6.heap _
        rw [ek6]
        exact ⟨rfl, Nk6⟩
    by_cases c1 : zt = (1 : Int32)
    · rw [c1] at r4
      have hT : (Value.ref w_INTEGER) = if (1 : Int32) < (0 : Int32) then Value.null else if (1 : Int32) = (1 : Int32) then Value.ref w_INTEGER else if (3 : Int32) = (1 : Int32) then Value.ref w_DECIMAL else if (2 : Int32) = (1 : Int32) then Value.ref w_VARCHAR else if (4 : Int32) = (1 : Int32) then Value.ref w_DATE else if (5 : Int32) = (1 : Int32) then Value.ref w_TIMESTAMP else if (-1 : Int32) = (1 : Int32) then Value.ref w_BOOLEAN else if (0 : Int32) = (1 : Int32) then Value.ref w_NULL else Value.null := by rw [if_neg (by decide), if_pos (by decide)]
      obtain ⟨_, _, ⟨Tk7, Lk7, kk7, nk7⟩, -, Xk7, ⟨Lck7, hQk7, lk7, yk7, zk7⟩, stk7⟩ := Jvm.LawKit.callS X0 hx (y := (⟨"com/example/kilit/kilit/ValueType", "tagged", "(I)Lcom/example/kilit/kilit/ValueType;"⟩ : MethodName)) hown (mvT hZ (hw _ (List.mem_of_getElem? (i := 0) rfl))) (mvT hZ (hw _ (List.mem_of_getElem? (i := 1) rfl))) (mvT hZ (hw _ (List.mem_of_getElem? (i := 2) rfl))) (mvT hZ (hw _ (List.mem_of_getElem? (i := 3) rfl))) (by decide) (backOf (W := 0) (rm_tagged l Z a0 hw [] (1 : Int32) aT kT w_INTEGER w_DECIMAL w_VARCHAR w_DATE w_TIMESTAMP w_BOOLEAN w_NULL (Value.ref w_INTEGER) h0 n0 Z0 S_TYPES VT F_INTEGER F_DECIMAL F_VARCHAR F_DATE F_TIMESTAMP F_BOOLEAN F_NULL hT) hZ (hw _ (List.mem_of_getElem? (i := 3) rfl)) (hw _ (List.mem_of_getElem? (i := 2) rfl)) (by decide) (by decide)) (g := (mkF m 31 #[.val (.int p1), .val (.int p2), .val (.int (0 : Int32)), .val (.int (1 : Int32))] [(.int (1 : Int32))])) rfl (by rw [hml]; rfl) (argsL := [(.int (1 : Int32))]) (rest := []) (lenOf pd__I_Lcom_example_kilit_kilit_ValueType_ rfl) rfl (by show 2 * 0 + _ ≤ _; exact Nat.le_of_eq rfl) (hb hby at_31) (fun _ _ => ⟨rfl, e0, (by decide : 0 + 0 ≤ _), (by decide : 0 + 0 ≤ _)⟩)
      dsimp only [Pt.U, Pt.locs, Pt.cells, Pt.slots] at Xk7 lk7 yk7 zk7 stk7 hQk7
      subst lk7 yk7 zk7
      obtain ⟨rfl, Nk7q, ek7⟩ := hQk7
      have Nk7 := Fr.app N0 Nk7q
      have hE : (Value.ref w_INTEGER) = if (1 : Int32) = (0 : Int32) then Value.ref w_NULL else if (1 : Int32) = (1 : Int32) then Value.ref w_INTEGER else if (1 : Int32) = (2 : Int32) then Value.ref w_VARCHAR else if (1 : Int32) = (3 : Int32) then Value.ref w_DECIMAL else if (1 : Int32) = (4 : Int32) then Value.ref w_DATE else if (1 : Int32) = (5 : Int32) then Value.ref w_TIMESTAMP else Value.null := by rw [if_neg (by decide), if_pos (by decide)]
      obtain ⟨_, _, ⟨Tk8, Lk8, kk8, nk8⟩, -, Xk8, ⟨Lck8, hQk8, lk8, yk8, zk8⟩, stk8⟩ := Jvm.LawKit.callS Xk7 hx (y := (⟨"com/example/kilit/kilit/ValueTypeTaggedPinLaw", "expected", "(I)Lcom/example/kilit/kilit/ValueType;"⟩ : MethodName)) hown (mvT hZ (hw _ (List.mem_of_getElem? (i := 14) rfl))) (mvT hZ (hw _ (List.mem_of_getElem? (i := 15) rfl))) (mvT hZ (hw _ (List.mem_of_getElem? (i := 16) rfl))) (mvT hZ (hw _ (List.mem_of_getElem? (i := 17) rfl))) (by decide) (backOf (W := 1) (rm_expected l Z a0 hw [] (1 : Int32) w_NULL w_INTEGER w_VARCHAR w_DECIMAL w_DATE w_TIMESTAMP (Value.ref w_INTEGER) h0 n0 Z0 S_NULL S_INTEGER S_VARCHAR S_DECIMAL S_DATE S_TIMESTAMP hE) hZ (hw _ (List.mem_of_getElem? (i := 17) rfl)) (hw _ (List.mem_of_getElem? (i := 16) rfl)) (by decide) (by decide)) (g := (mkF m 35 #[.val (.int p1), .val (.int p2), .val (.int (0 : Int32)), .val (.int (1 : Int32))] [(.int (1 : Int32)), (.ref w_INTEGER)])) rfl (by rw [hml]; rfl) (argsL := [(.int (1 : Int32))]) (rest := [(.ref w_INTEGER)]) (lenOf pd__I_Lcom_example_kilit_kilit_ValueType_ rfl) rfl (by show 2 * 0 + _ ≤ _; exact Nat.le_of_eq rfl) (hb hby at_35) (fun _ _ => ⟨rfl, ek7, (by decide : 0 + 0 ≤ _), (by decide : 0 + 0 ≤ _)⟩)
      dsimp only [Pt.U, Pt.locs, Pt.cells, Pt.slots] at Xk8 lk8 yk8 zk8 stk8 hQk8
      subst lk8 yk8 zk8
      obtain ⟨rfl, Nk8q, ek8⟩ := hQk8
      have Nk8 := Fr.app Nk7 Nk8q
      obtain ⟨fs, hlv, hrun, hended, hW, hsame⟩ := Xk8.leave (v := some (.int (1 : Int32))) (fun h => by rw [hret] at h; cases h)
      refine ⟨_, _, r4 _ ?_, hrun, hended, _, _, rfl, ?_, ⟨_, rfl⟩, hW, hsame.mono (by decide) (by decide)⟩
      · refine XS.iloadN X0.here hx rfl (hb hby at_30) rfl ?_
        show Sp p e below s₁ (mkF m 31 #[.val (.int p1), .val (.int p2), .val (.int (0 : Int32)), .val (.int (1 : Int32))] [(.int (1 : Int32))]) _
        refine stk7 _ ?_
        show Sp p e below Tk7 (mkF m 34 #[.val (.int p1), .val (.int p2), .val (.int (0 : Int32)), .val (.int (1 : Int32))] [(.ref w_INTEGER)]) _
        refine XS.iloadN Xk7.here hx rfl (hb hby at_34) rfl ?_
        show Sp p e below Tk7 (mkF m 35 #[.val (.int p1), .val (.int p2), .val (.int (0 : Int32)), .val (.int (1 : Int32))] [(.int (1 : Int32)), (.ref w_INTEGER)]) _
        refine stk8 _ ?_
        show Sp p e below Tk8 (mkF m 38 #[.val (.int p1), .val (.int p2), .val (.int (0 : Int32)), .val (.int (1 : Int32))] [(.ref w_INTEGER), (.ref w_INTEGER)]) _
        refine Jvm.RoadKit.acmp (g := (mkF m 38 #[.val (.int p1), .val (.int p2), .val (.int (0 : Int32)), .val (.int (1 : Int32))] [(.ref w_INTEGER), (.ref w_INTEGER)])) Xk8 hx rfl rfl rfl (pc0 := 38) (pc' := 41) (same := true) rfl (hb hby at_38) rfl (decide_eq_true rfl) (by decide) (by decide) ?_
        show Sp p e below Tk8 (mkF m 41 #[.val (.int p1), .val (.int p2), .val (.int (0 : Int32)), .val (.int (1 : Int32))] []) _
        refine XS.iconst Xk8.here hx rfl (hb hby at_41) ?_
        show Sp p e below Tk8 (mkF m 42 #[.val (.int p1), .val (.int p2), .val (.int (0 : Int32)), .val (.int (1 : Int32))] [(.int (1 : Int32))]) _
        refine XS.goto Xk8.here hx rfl (pc0 := 42) (pc' := 46) rfl (hb hby at_42) (by decide) (by decide) ?_
        show Sp p e below Tk8 (mkF m 46 #[.val (.int p1), .val (.int p2), .val (.int (0 : Int32)), .val (.int (1 : Int32))] [(.int (1 : Int32))]) _
        exact retN Xk8 hx (t := .boolean) hret (by simp) (hb hby at_46) hlv
      · show Q_law Z p1 p2 aT kT w_INTEGER w_DECIMAL w_VARCHAR w_DATE w_TIMESTAMP w_BOOLEAN w_NULL h0 n0 _ Tk8.heap _
        rw [ek8]
        exact ⟨rfl, Nk8⟩
    by_cases c2 : zt = (2 : Int32)
    · rw [c2] at r4
      have hT : (Value.ref w_VARCHAR) = if (2 : Int32) < (0 : Int32) then Value.null else if (1 : Int32) = (2 : Int32) then Value.ref w_INTEGER else if (3 : Int32) = (2 : Int32) then Value.ref w_DECIMAL else if (2 : Int32) = (2 : Int32) then Value.ref w_VARCHAR else if (4 : Int32) = (2 : Int32) then Value.ref w_DATE else if (5 : Int32) = (2 : Int32) then Value.ref w_TIMESTAMP else if (-1 : Int32) = (2 : Int32) then Value.ref w_BOOLEAN else if (0 : Int32) = (2 : Int32) then Value.ref w_NULL else Value.null := by rw [if_neg (by decide), if_neg (by decide), if_neg (by decide), if_pos (by decide)]
      obtain ⟨_, _, ⟨Tk9, Lk9, kk9, nk9⟩, -, Xk9, ⟨Lck9, hQk9, lk9, yk9, zk9⟩, stk9⟩ := Jvm.LawKit.callS X0 hx (y := (⟨"com/example/kilit/kilit/ValueType", "tagged", "(I)Lcom/example/kilit/kilit/ValueType;"⟩ : MethodName)) hown (mvT hZ (hw _ (List.mem_of_getElem? (i := 0) rfl))) (mvT hZ (hw _ (List.mem_of_getElem? (i := 1) rfl))) (mvT hZ (hw _ (List.mem_of_getElem? (i := 2) rfl))) (mvT hZ (hw _ (List.mem_of_getElem? (i := 3) rfl))) (by decide) (backOf (W := 0) (rm_tagged l Z a0 hw [] (2 : Int32) aT kT w_INTEGER w_DECIMAL w_VARCHAR w_DATE w_TIMESTAMP w_BOOLEAN w_NULL (Value.ref w_VARCHAR) h0 n0 Z0 S_TYPES VT F_INTEGER F_DECIMAL F_VARCHAR F_DATE F_TIMESTAMP F_BOOLEAN F_NULL hT) hZ (hw _ (List.mem_of_getElem? (i := 3) rfl)) (hw _ (List.mem_of_getElem? (i := 2) rfl)) (by decide) (by decide)) (g := (mkF m 31 #[.val (.int p1), .val (.int p2), .val (.int (0 : Int32)), .val (.int (2 : Int32))] [(.int (2 : Int32))])) rfl (by rw [hml]; rfl) (argsL := [(.int (2 : Int32))]) (rest := []) (lenOf pd__I_Lcom_example_kilit_kilit_ValueType_ rfl) rfl (by show 2 * 0 + _ ≤ _; exact Nat.le_of_eq rfl) (hb hby at_31) (fun _ _ => ⟨rfl, e0, (by decide : 0 + 0 ≤ _), (by decide : 0 + 0 ≤ _)⟩)
      dsimp only [Pt.U, Pt.locs, Pt.cells, Pt.slots] at Xk9 lk9 yk9 zk9 stk9 hQk9
      subst lk9 yk9 zk9
      obtain ⟨rfl, Nk9q, ek9⟩ := hQk9
      have Nk9 := Fr.app N0 Nk9q
      have hE : (Value.ref w_VARCHAR) = if (2 : Int32) = (0 : Int32) then Value.ref w_NULL else if (2 : Int32) = (1 : Int32) then Value.ref w_INTEGER else if (2 : Int32) = (2 : Int32) then Value.ref w_VARCHAR else if (2 : Int32) = (3 : Int32) then Value.ref w_DECIMAL else if (2 : Int32) = (4 : Int32) then Value.ref w_DATE else if (2 : Int32) = (5 : Int32) then Value.ref w_TIMESTAMP else Value.null := by rw [if_neg (by decide), if_neg (by decide), if_pos (by decide)]
      obtain ⟨_, _, ⟨Tk10, Lk10, kk10, nk10⟩, -, Xk10, ⟨Lck10, hQk10, lk10, yk10, zk10⟩, stk10⟩ := Jvm.LawKit.callS Xk9 hx (y := (⟨"com/example/kilit/kilit/ValueTypeTaggedPinLaw", "expected", "(I)Lcom/example/kilit/kilit/ValueType;"⟩ : MethodName)) hown (mvT hZ (hw _ (List.mem_of_getElem? (i := 14) rfl))) (mvT hZ (hw _ (List.mem_of_getElem? (i := 15) rfl))) (mvT hZ (hw _ (List.mem_of_getElem? (i := 16) rfl))) (mvT hZ (hw _ (List.mem_of_getElem? (i := 17) rfl))) (by decide) (backOf (W := 1) (rm_expected l Z a0 hw [] (2 : Int32) w_NULL w_INTEGER w_VARCHAR w_DECIMAL w_DATE w_TIMESTAMP (Value.ref w_VARCHAR) h0 n0 Z0 S_NULL S_INTEGER S_VARCHAR S_DECIMAL S_DATE S_TIMESTAMP hE) hZ (hw _ (List.mem_of_getElem? (i := 17) rfl)) (hw _ (List.mem_of_getElem? (i := 16) rfl)) (by decide) (by decide)) (g := (mkF m 35 #[.val (.int p1), .val (.int p2), .val (.int (0 : Int32)), .val (.int (2 : Int32))] [(.int (2 : Int32)), (.ref w_VARCHAR)])) rfl (by rw [hml]; rfl) (argsL := [(.int (2 : Int32))]) (rest := [(.ref w_VARCHAR)]) (lenOf pd__I_Lcom_example_kilit_kilit_ValueType_ rfl) rfl (by show 2 * 0 + _ ≤ _; exact Nat.le_of_eq rfl) (hb hby at_35) (fun _ _ => ⟨rfl, ek9, (by decide : 0 + 0 ≤ _), (by decide : 0 + 0 ≤ _)⟩)
      dsimp only [Pt.U, Pt.locs, Pt.cells, Pt.slots] at Xk10 lk10 yk10 zk10 stk10 hQk10
      subst lk10 yk10 zk10
      obtain ⟨rfl, Nk10q, ek10⟩ := hQk10
      have Nk10 := Fr.app Nk9 Nk10q
      obtain ⟨fs, hlv, hrun, hended, hW, hsame⟩ := Xk10.leave (v := some (.int (1 : Int32))) (fun h => by rw [hret] at h; cases h)
      refine ⟨_, _, r4 _ ?_, hrun, hended, _, _, rfl, ?_, ⟨_, rfl⟩, hW, hsame.mono (by decide) (by decide)⟩
      · refine XS.iloadN X0.here hx rfl (hb hby at_30) rfl ?_
        show Sp p e below s₁ (mkF m 31 #[.val (.int p1), .val (.int p2), .val (.int (0 : Int32)), .val (.int (2 : Int32))] [(.int (2 : Int32))]) _
        refine stk9 _ ?_
        show Sp p e below Tk9 (mkF m 34 #[.val (.int p1), .val (.int p2), .val (.int (0 : Int32)), .val (.int (2 : Int32))] [(.ref w_VARCHAR)]) _
        refine XS.iloadN Xk9.here hx rfl (hb hby at_34) rfl ?_
        show Sp p e below Tk9 (mkF m 35 #[.val (.int p1), .val (.int p2), .val (.int (0 : Int32)), .val (.int (2 : Int32))] [(.int (2 : Int32)), (.ref w_VARCHAR)]) _
        refine stk10 _ ?_
        show Sp p e below Tk10 (mkF m 38 #[.val (.int p1), .val (.int p2), .val (.int (0 : Int32)), .val (.int (2 : Int32))] [(.ref w_VARCHAR), (.ref w_VARCHAR)]) _
        refine Jvm.RoadKit.acmp (g := (mkF m 38 #[.val (.int p1), .val (.int p2), .val (.int (0 : Int32)), .val (.int (2 : Int32))] [(.ref w_VARCHAR), (.ref w_VARCHAR)])) Xk10 hx rfl rfl rfl (pc0 := 38) (pc' := 41) (same := true) rfl (hb hby at_38) rfl (decide_eq_true rfl) (by decide) (by decide) ?_
        show Sp p e below Tk10 (mkF m 41 #[.val (.int p1), .val (.int p2), .val (.int (0 : Int32)), .val (.int (2 : Int32))] []) _
        refine XS.iconst Xk10.here hx rfl (hb hby at_41) ?_
        show Sp p e below Tk10 (mkF m 42 #[.val (.int p1), .val (.int p2), .val (.int (0 : Int32)), .val (.int (2 : Int32))] [(.int (1 : Int32))]) _
        refine XS.goto Xk10.here hx rfl (pc0 := 42) (pc' := 46) rfl (hb hby at_42) (by decide) (by decide) ?_
        show Sp p e below Tk10 (mkF m 46 #[.val (.int p1), .val (.int p2), .val (.int (0 : Int32)), .val (.int (2 : Int32))] [(.int (1 : Int32))]) _
        exact retN Xk10 hx (t := .boolean) hret (by simp) (hb hby at_46) hlv
      · show Q_law Z p1 p2 aT kT w_INTEGER w_DECIMAL w_VARCHAR w_DATE w_TIMESTAMP w_BOOLEAN w_NULL h0 n0 _ Tk10.heap _
        rw [ek10]
        exact ⟨rfl, Nk10⟩
    by_cases c3 : zt = (3 : Int32)
    · rw [c3] at r4
      have hT : (Value.ref w_DECIMAL) = if (3 : Int32) < (0 : Int32) then Value.null else if (1 : Int32) = (3 : Int32) then Value.ref w_INTEGER else if (3 : Int32) = (3 : Int32) then Value.ref w_DECIMAL else if (2 : Int32) = (3 : Int32) then Value.ref w_VARCHAR else if (4 : Int32) = (3 : Int32) then Value.ref w_DATE else if (5 : Int32) = (3 : Int32) then Value.ref w_TIMESTAMP else if (-1 : Int32) = (3 : Int32) then Value.ref w_BOOLEAN else if (0 : Int32) = (3 : Int32) then Value.ref w_NULL else Value.null := by rw [if_neg (by decide), if_neg (by decide), if_pos (by decide)]
      obtain ⟨_, _, ⟨Tk11, Lk11, kk11, nk11⟩, -, Xk11, ⟨Lck11, hQk11, lk11, yk11, zk11⟩, stk11⟩ := Jvm.LawKit.callS X0 hx (y := (⟨"com/example/kilit/kilit/ValueType", "tagged", "(I)Lcom/example/kilit/kilit/ValueType;"⟩ : MethodName)) hown (mvT hZ (hw _ (List.mem_of_getElem? (i := 0) rfl))) (mvT hZ (hw _ (List.mem_of_getElem? (i := 1) rfl))) (mvT hZ (hw _ (List.mem_of_getElem? (i := 2) rfl))) (mvT hZ (hw _ (List.mem_of_getElem? (i := 3) rfl))) (by decide) (backOf (W := 0) (rm_tagged l Z a0 hw [] (3 : Int32) aT kT w_INTEGER w_DECIMAL w_VARCHAR w_DATE w_TIMESTAMP w_BOOLEAN w_NULL (Value.ref w_DECIMAL) h0 n0 Z0 S_TYPES VT F_INTEGER F_DECIMAL F_VARCHAR F_DATE F_TIMESTAMP F_BOOLEAN F_NULL hT) hZ (hw _ (List.mem_of_getElem? (i := 3) rfl)) (hw _ (List.mem_of_getElem? (i := 2) rfl)) (by decide) (by decide)) (g := (mkF m 31 #[.val (.int p1), .val (.int p2), .val (.int (0 : Int32)), .val (.int (3 : Int32))] [(.int (3 : Int32))])) rfl (by rw [hml]; rfl) (argsL := [(.int (3 : Int32))]) (rest := []) (lenOf pd__I_Lcom_example_kilit_kilit_ValueType_ rfl) rfl (by show 2 * 0 + _ ≤ _; exact Nat.le_of_eq rfl) (hb hby at_31) (fun _ _ => ⟨rfl, e0, (by decide : 0 + 0 ≤ _), (by decide : 0 + 0 ≤ _)⟩)
      dsimp only [Pt.U, Pt.locs, Pt.cells, Pt.slots] at Xk11 lk11 yk11 zk11 stk11 hQk11
      subst lk11 yk11 zk11
      obtain ⟨rfl, Nk11q, ek11⟩ := hQk11
      have Nk11 := Fr.app N0 Nk11q
      have hE : (Value.ref w_DECIMAL) = if (3 : Int32) = (0 : Int32) then Value.ref w_NULL else if (3 : Int32) = (1 : Int32) then Value.ref w_INTEGER else if (3 : Int32) = (2 : Int32) then Value.ref w_VARCHAR else if (3 : Int32) = (3 : Int32) then Value.ref w_DECIMAL else if (3 : Int32) = (4 : Int32) then Value.ref w_DATE else if (3 : Int32) = (5 : Int32) then Value.ref w_TIMESTAMP else Value.null := by rw [if_neg (by decide), if_neg (by decide), if_neg (by decide), if_pos (by decide)]
      obtain ⟨_, _, ⟨Tk12, Lk12, kk12, nk12⟩, -, Xk12, ⟨Lck12, hQk12, lk12, yk12, zk12⟩, stk12⟩ := Jvm.LawKit.callS Xk11 hx (y := (⟨"com/example/kilit/kilit/ValueTypeTaggedPinLaw", "expected", "(I)Lcom/example/kilit/kilit/ValueType;"⟩ : MethodName)) hown (mvT hZ (hw _ (List.mem_of_getElem? (i := 14) rfl))) (mvT hZ (hw _ (List.mem_of_getElem? (i := 15) rfl))) (mvT hZ (hw _ (List.mem_of_getElem? (i := 16) rfl))) (mvT hZ (hw _ (List.mem_of_getElem? (i := 17) rfl))) (by decide) (backOf (W := 1) (rm_expected l Z a0 hw [] (3 : Int32) w_NULL w_INTEGER w_VARCHAR w_DECIMAL w_DATE w_TIMESTAMP (Value.ref w_DECIMAL) h0 n0 Z0 S_NULL S_INTEGER S_VARCHAR S_DECIMAL S_DATE S_TIMESTAMP hE) hZ (hw _ (List.mem_of_getElem? (i := 17) rfl)) (hw _ (List.mem_of_getElem? (i := 16) rfl)) (by decide) (by decide)) (g := (mkF m 35 #[.val (.int p1), .val (.int p2), .val (.int (0 : Int32)), .val (.int (3 : Int32))] [(.int (3 : Int32)), (.ref w_DECIMAL)])) rfl (by rw [hml]; rfl) (argsL := [(.int (3 : Int32))]) (rest := [(.ref w_DECIMAL)]) (lenOf pd__I_Lcom_example_kilit_kilit_ValueType_ rfl) rfl (by show 2 * 0 + _ ≤ _; exact Nat.le_of_eq rfl) (hb hby at_35) (fun _ _ => ⟨rfl, ek11, (by decide : 0 + 0 ≤ _), (by decide : 0 + 0 ≤ _)⟩)
      dsimp only [Pt.U, Pt.locs, Pt.cells, Pt.slots] at Xk12 lk12 yk12 zk12 stk12 hQk12
      subst lk12 yk12 zk12
      obtain ⟨rfl, Nk12q, ek12⟩ := hQk12
      have Nk12 := Fr.app Nk11 Nk12q
      obtain ⟨fs, hlv, hrun, hended, hW, hsame⟩ := Xk12.leave (v := some (.int (1 : Int32))) (fun h => by rw [hret] at h; cases h)
      refine ⟨_, _, r4 _ ?_, hrun, hended, _, _, rfl, ?_, ⟨_, rfl⟩, hW, hsame.mono (by decide) (by decide)⟩
      · refine XS.iloadN X0.here hx rfl (hb hby at_30) rfl ?_
        show Sp p e below s₁ (mkF m 31 #[.val (.int p1), .val (.int p2), .val (.int (0 : Int32)), .val (.int (3 : Int32))] [(.int (3 : Int32))]) _
        refine stk11 _ ?_
        show Sp p e below Tk11 (mkF m 34 #[.val (.int p1), .val (.int p2), .val (.int (0 : Int32)), .val (.int (3 : Int32))] [(.ref w_DECIMAL)]) _
        refine XS.iloadN Xk11.here hx rfl (hb hby at_34) rfl ?_
        show Sp p e below Tk11 (mkF m 35 #[.val (.int p1), .val (.int p2), .val (.int (0 : Int32)), .val (.int (3 : Int32))] [(.int (3 : Int32)), (.ref w_DECIMAL)]) _
        refine stk12 _ ?_
        show Sp p e below Tk12 (mkF m 38 #[.val (.int p1), .val (.int p2), .val (.int (0 : Int32)), .val (.int (3 : Int32))] [(.ref w_DECIMAL), (.ref w_DECIMAL)]) _
        refine Jvm.RoadKit.acmp (g := (mkF m 38 #[.val (.int p1), .val (.int p2), .val (.int (0 : Int32)), .val (.int (3 : Int32))] [(.ref w_DECIMAL), (.ref w_DECIMAL)])) Xk12 hx rfl rfl rfl (pc0 := 38) (pc' := 41) (same := true) rfl (hb hby at_38) rfl (decide_eq_true rfl) (by decide) (by decide) ?_
        show Sp p e below Tk12 (mkF m 41 #[.val (.int p1), .val (.int p2), .val (.int (0 : Int32)), .val (.int (3 : Int32))] []) _
        refine XS.iconst Xk12.here hx rfl (hb hby at_41) ?_
        show Sp p e below Tk12 (mkF m 42 #[.val (.int p1), .val (.int p2), .val (.int (0 : Int32)), .val (.int (3 : Int32))] [(.int (1 : Int32))]) _
        refine XS.goto Xk12.here hx rfl (pc0 := 42) (pc' := 46) rfl (hb hby at_42) (by decide) (by decide) ?_
        show Sp p e below Tk12 (mkF m 46 #[.val (.int p1), .val (.int p2), .val (.int (0 : Int32)), .val (.int (3 : Int32))] [(.int (1 : Int32))]) _
        exact retN Xk12 hx (t := .boolean) hret (by simp) (hb hby at_46) hlv
      · show Q_law Z p1 p2 aT kT w_INTEGER w_DECIMAL w_VARCHAR w_DATE w_TIMESTAMP w_BOOLEAN w_NULL h0 n0 _ Tk12.heap _
        rw [ek12]
        exact ⟨rfl, Nk12⟩
    by_cases c4 : zt = (4 : Int32)
    · rw [c4] at r4
      have hT : (Value.ref w_DATE) = if (4 : Int32) < (0 : Int32) then Value.null else if (1 : Int32) = (4 : Int32) then Value.ref w_INTEGER else if (3 : Int32) = (4 : Int32) then Value.ref w_DECIMAL else if (2 : Int32) = (4 : Int32) then Value.ref w_VARCHAR else if (4 : Int32) = (4 : Int32) then Value.ref w_DATE else if (5 : Int32) = (4 : Int32) then Value.ref w_TIMESTAMP else if (-1 : Int32) = (4 : Int32) then Value.ref w_BOOLEAN else if (0 : Int32) = (4 : Int32) then Value.ref w_NULL else Value.null := by rw [if_neg (by decide), if_neg (by decide), if_neg (by decide), if_neg (by decide), if_pos (by decide)]
      obtain ⟨_, _, ⟨Tk13, Lk13, kk13, nk13⟩, -, Xk13, ⟨Lck13, hQk13, lk13, yk13, zk13⟩, stk13⟩ := Jvm.LawKit.callS X0 hx (y := (⟨"com/example/kilit/kilit/ValueType", "tagged", "(I)Lcom/example/kilit/kilit/ValueType;"⟩ : MethodName)) hown (mvT hZ (hw _ (List.mem_of_getElem? (i := 0) rfl))) (mvT hZ (hw _ (List.mem_of_getElem? (i := 1) rfl))) (mvT hZ (hw _ (List.mem_of_getElem? (i := 2) rfl))) (mvT hZ (hw _ (List.mem_of_getElem? (i := 3) rfl))) (by decide) (backOf (W := 0) (rm_tagged l Z a0 hw [] (4 : Int32) aT kT w_INTEGER w_DECIMAL w_VARCHAR w_DATE w_TIMESTAMP w_BOOLEAN w_NULL (Value.ref w_DATE) h0 n0 Z0 S_TYPES VT F_INTEGER F_DECIMAL F_VARCHAR F_DATE F_TIMESTAMP F_BOOLEAN F_NULL hT) hZ (hw _ (List.mem_of_getElem? (i := 3) rfl)) (hw _ (List.mem_of_getElem? (i := 2) rfl)) (by decide) (by decide)) (g := (mkF m 31 #[.val (.int p1), .val (.int p2), .val (.int (0 : Int32)), .val (.int (4 : Int32))] [(.int (4 : Int32))])) rfl (by rw [hml]; rfl) (argsL := [(.int (4 : Int32))]) (rest := []) (lenOf pd__I_Lcom_example_kilit_kilit_ValueType_ rfl) rfl (by show 2 * 0 + _ ≤ _; exact Nat.le_of_eq rfl) (hb hby at_31) (fun _ _ => ⟨rfl, e0, (by decide : 0 + 0 ≤ _), (by decide : 0 + 0 ≤ _)⟩)
      dsimp only [Pt.U, Pt.locs, Pt.cells, Pt.slots] at Xk13 lk13 yk13 zk13 stk13 hQk13
      subst lk13 yk13 zk13
      obtain ⟨rfl, Nk13q, ek13⟩ := hQk13
      have Nk13 := Fr.app N0 Nk13q
      have hE : (Value.ref w_DATE) = if (4 : Int32) = (0 : Int32) then Value.ref w_NULL else if (4 : Int32) = (1 : Int32) then Value.ref w_INTEGER else if (4 : Int32) = (2 : Int32) then Value.ref w_VARCHAR else if (4 : Int32) = (3 : Int32) then Value.ref w_DECIMAL else if (4 : Int32) = (4 : Int32) then Value.ref w_DATE else if (4 : Int32) = (5 : Int32) then Value.ref w_TIMESTAMP else Value.null := by rw [if_neg (by decide), if_neg (by decide), if_neg (by decide), if_neg (by decide), if_pos (by decide)]
      obtain ⟨_, _, ⟨Tk14, Lk14, kk14, nk14⟩, -, Xk14, ⟨Lck14, hQk14, lk14, yk14, zk14⟩, stk14⟩ := Jvm.LawKit.callS Xk13 hx (y := (⟨"com/example/kilit/kilit/ValueTypeTaggedPinLaw", "expected", "(I)Lcom/example/kilit/kilit/ValueType;"⟩ : MethodName)) hown (mvT hZ (hw _ (List.mem_of_getElem? (i := 14) rfl))) (mvT hZ (hw _ (List.mem_of_getElem? (i := 15) rfl))) (mvT hZ (hw _ (List.mem_of_getElem? (i := 16) rfl))) (mvT hZ (hw _ (List.mem_of_getElem? (i := 17) rfl))) (by decide) (backOf (W := 1) (rm_expected l Z a0 hw [] (4 : Int32) w_NULL w_INTEGER w_VARCHAR w_DECIMAL w_DATE w_TIMESTAMP (Value.ref w_DATE) h0 n0 Z0 S_NULL S_INTEGER S_VARCHAR S_DECIMAL S_DATE S_TIMESTAMP hE) hZ (hw _ (List.mem_of_getElem? (i := 17) rfl)) (hw _ (List.mem_of_getElem? (i := 16) rfl)) (by decide) (by decide)) (g := (mkF m 35 #[.val (.int p1), .val (.int p2), .val (.int (0 : Int32)), .val (.int (4 : Int32))] [(.int (4 : Int32)), (.ref w_DATE)])) rfl (by rw [hml]; rfl) (argsL := [(.int (4 : Int32))]) (rest := [(.ref w_DATE)]) (lenOf pd__I_Lcom_example_kilit_kilit_ValueType_ rfl) rfl (by show 2 * 0 + _ ≤ _; exact Nat.le_of_eq rfl) (hb hby at_35) (fun _ _ => ⟨rfl, ek13, (by decide : 0 + 0 ≤ _), (by decide : 0 + 0 ≤ _)⟩)
      dsimp only [Pt.U, Pt.locs, Pt.cells, Pt.slots] at Xk14 lk14 yk14 zk14 stk14 hQk14
      subst lk14 yk14 zk14
      obtain ⟨rfl, Nk14q, ek14⟩ := hQk14
      have Nk14 := Fr.app Nk13 Nk14q
      obtain ⟨fs, hlv, hrun, hended, hW, hsame⟩ := Xk14.leave (v := some (.int (1 : Int32))) (fun h => by rw [hret] at h; cases h)
      refine ⟨_, _, r4 _ ?_, hrun, hended, _, _, rfl, ?_, ⟨_, rfl⟩, hW, hsame.mono (by decide) (by decide)⟩
      · refine XS.iloadN X0.here hx rfl (hb hby at_30) rfl ?_
        show Sp p e below s₁ (mkF m 31 #[.val (.int p1), .val (.int p2), .val (.int (0 : Int32)), .val (.int (4 : Int32))] [(.int (4 : Int32))]) _
        refine stk13 _ ?_
        show Sp p e below Tk13 (mkF m 34 #[.val (.int p1), .val (.int p2), .val (.int (0 : Int32)), .val (.int (4 : Int32))] [(.ref w_DATE)]) _
        refine XS.iloadN Xk13.here hx rfl (hb hby at_34) rfl ?_
        show Sp p e below Tk13 (mkF m 35 #[.val (.int p1), .val (.int p2), .val (.int (0 : Int32)), .val (.int (4 : Int32))] [(.int (4 : Int32)), (.ref w_DATE)]) _
        refine stk14 _ ?_
        show Sp p e below Tk14 (mkF m 38 #[.val (.int p1), .val (.int p2), .val (.int (0 : Int32)), .val (.int (4 : Int32))] [(.ref w_DATE), (.ref w_DATE)]) _
        refine Jvm.RoadKit.acmp (g := (mkF m 38 #[.val (.int p1), .val (.int p2), .val (.int (0 : Int32)), .val (.int (4 : Int32))] [(.ref w_DATE), (.ref w_DATE)])) Xk14 hx rfl rfl rfl (pc0 := 38) (pc' := 41) (same := true) rfl (hb hby at_38) rfl (decide_eq_true rfl) (by decide) (by decide) ?_
        show Sp p e below Tk14 (mkF m 41 #[.val (.int p1), .val (.int p2), .val (.int (0 : Int32)), .val (.int (4 : Int32))] []) _
        refine XS.iconst Xk14.here hx rfl (hb hby at_41) ?_
        show Sp p e below Tk14 (mkF m 42 #[.val (.int p1), .val (.int p2), .val (.int (0 : Int32)), .val (.int (4 : Int32))] [(.int (1 : Int32))]) _
        refine XS.goto Xk14.here hx rfl (pc0 := 42) (pc' := 46) rfl (hb hby at_42) (by decide) (by decide) ?_
        show Sp p e below Tk14 (mkF m 46 #[.val (.int p1), .val (.int p2), .val (.int (0 : Int32)), .val (.int (4 : Int32))] [(.int (1 : Int32))]) _
        exact retN Xk14 hx (t := .boolean) hret (by simp) (hb hby at_46) hlv
      · show Q_law Z p1 p2 aT kT w_INTEGER w_DECIMAL w_VARCHAR w_DATE w_TIMESTAMP w_BOOLEAN w_NULL h0 n0 _ Tk14.heap _
        rw [ek14]
        exact ⟨rfl, Nk14⟩
    by_cases c5 : zt = (5 : Int32)
    · rw [c5] at r4
      have hT : (Value.ref w_TIMESTAMP) = if (5 : Int32) < (0 : Int32) then Value.null else if (1 : Int32) = (5 : Int32) then Value.ref w_INTEGER else if (3 : Int32) = (5 : Int32) then Value.ref w_DECIMAL else if (2 : Int32) = (5 : Int32) then Value.ref w_VARCHAR else if (4 : Int32) = (5 : Int32) then Value.ref w_DATE else if (5 : Int32) = (5 : Int32) then Value.ref w_TIMESTAMP else if (-1 : Int32) = (5 : Int32) then Value.ref w_BOOLEAN else if (0 : Int32) = (5 : Int32) then Value.ref w_NULL else Value.null := by rw [if_neg (by decide), if_neg (by decide), if_neg (by decide), if_neg (by decide), if_neg (by decide), if_pos (by decide)]
      obtain ⟨_, _, ⟨Tk15, Lk15, kk15, nk15⟩, -, Xk15, ⟨Lck15, hQk15, lk15, yk15, zk15⟩, stk15⟩ := Jvm.LawKit.callS X0 hx (y := (⟨"com/example/kilit/kilit/ValueType", "tagged", "(I)Lcom/example/kilit/kilit/ValueType;"⟩ : MethodName)) hown (mvT hZ (hw _ (List.mem_of_getElem? (i := 0) rfl))) (mvT hZ (hw _ (List.mem_of_getElem? (i := 1) rfl))) (mvT hZ (hw _ (List.mem_of_getElem? (i := 2) rfl))) (mvT hZ (hw _ (List.mem_of_getElem? (i := 3) rfl))) (by decide) (backOf (W := 0) (rm_tagged l Z a0 hw [] (5 : Int32) aT kT w_INTEGER w_DECIMAL w_VARCHAR w_DATE w_TIMESTAMP w_BOOLEAN w_NULL (Value.ref w_TIMESTAMP) h0 n0 Z0 S_TYPES VT F_INTEGER F_DECIMAL F_VARCHAR F_DATE F_TIMESTAMP F_BOOLEAN F_NULL hT) hZ (hw _ (List.mem_of_getElem? (i := 3) rfl)) (hw _ (List.mem_of_getElem? (i := 2) rfl)) (by decide) (by decide)) (g := (mkF m 31 #[.val (.int p1), .val (.int p2), .val (.int (0 : Int32)), .val (.int (5 : Int32))] [(.int (5 : Int32))])) rfl (by rw [hml]; rfl) (argsL := [(.int (5 : Int32))]) (rest := []) (lenOf pd__I_Lcom_example_kilit_kilit_ValueType_ rfl) rfl (by show 2 * 0 + _ ≤ _; exact Nat.le_of_eq rfl) (hb hby at_31) (fun _ _ => ⟨rfl, e0, (by decide : 0 + 0 ≤ _), (by decide : 0 + 0 ≤ _)⟩)
      dsimp only [Pt.U, Pt.locs, Pt.cells, Pt.slots] at Xk15 lk15 yk15 zk15 stk15 hQk15
      subst lk15 yk15 zk15
      obtain ⟨rfl, Nk15q, ek15⟩ := hQk15
      have Nk15 := Fr.app N0 Nk15q
      have hE : (Value.ref w_TIMESTAMP) = if (5 : Int32) = (0 : Int32) then Value.ref w_NULL else if (5 : Int32) = (1 : Int32) then Value.ref w_INTEGER else if (5 : Int32) = (2 : Int32) then Value.ref w_VARCHAR else if (5 : Int32) = (3 : Int32) then Value.ref w_DECIMAL else if (5 : Int32) = (4 : Int32) then Value.ref w_DATE else if (5 : Int32) = (5 : Int32) then Value.ref w_TIMESTAMP else Value.null := by rw [if_neg (by decide), if_neg (by decide), if_neg (by decide), if_neg (by decide), if_neg (by decide), if_pos (by decide)]
      obtain ⟨_, _, ⟨Tk16, Lk16, kk16, nk16⟩, -, Xk16, ⟨Lck16, hQk16, lk16, yk16, zk16⟩, stk16⟩ := Jvm.LawKit.callS Xk15 hx (y := (⟨"com/example/kilit/kilit/ValueTypeTaggedPinLaw", "expected", "(I)Lcom/example/kilit/kilit/ValueType;"⟩ : MethodName)) hown (mvT hZ (hw _ (List.mem_of_getElem? (i := 14) rfl))) (mvT hZ (hw _ (List.mem_of_getElem? (i := 15) rfl))) (mvT hZ (hw _ (List.mem_of_getElem? (i := 16) rfl))) (mvT hZ (hw _ (List.mem_of_getElem? (i := 17) rfl))) (by decide) (backOf (W := 1) (rm_expected l Z a0 hw [] (5 : Int32) w_NULL w_INTEGER w_VARCHAR w_DECIMAL w_DATE w_TIMESTAMP (Value.ref w_TIMESTAMP) h0 n0 Z0 S_NULL S_INTEGER S_VARCHAR S_DECIMAL S_DATE S_TIMESTAMP hE) hZ (hw _ (List.mem_of_getElem? (i := 17) rfl)) (hw _ (List.mem_of_getElem? (i := 16) rfl)) (by decide) (by decide)) (g := (mkF m 35 #[.val (.int p1), .val (.int p2), .val (.int (0 : Int32)), .val (.int (5 : Int32))] [(.int (5 : Int32)), (.ref w_TIMESTAMP)])) rfl (by rw [hml]; rfl) (argsL := [(.int (5 : Int32))]) (rest := [(.ref w_TIMESTAMP)]) (lenOf pd__I_Lcom_example_kilit_kilit_ValueType_ rfl) rfl (by show 2 * 0 + _ ≤ _; exact Nat.le_of_eq rfl) (hb hby at_35) (fun _ _ => ⟨rfl, ek15, (by decide : 0 + 0 ≤ _), (by decide : 0 + 0 ≤ _)⟩)
      dsimp only [Pt.U, Pt.locs, Pt.cells, Pt.slots] at Xk16 lk16 yk16 zk16 stk16 hQk16
      subst lk16 yk16 zk16
      obtain ⟨rfl, Nk16q, ek16⟩ := hQk16
      have Nk16 := Fr.app Nk15 Nk16q
      obtain ⟨fs, hlv, hrun, hended, hW, hsame⟩ := Xk16.leave (v := some (.int (1 : Int32))) (fun h => by rw [hret] at h; cases h)
      refine ⟨_, _, r4 _ ?_, hrun, hended, _, _, rfl, ?_, ⟨_, rfl⟩, hW, hsame.mono (by decide) (by decide)⟩
      · refine XS.iloadN X0.here hx rfl (hb hby at_30) rfl ?_
        show Sp p e below s₁ (mkF m 31 #[.val (.int p1), .val (.int p2), .val (.int (0 : Int32)), .val (.int (5 : Int32))] [(.int (5 : Int32))]) _
        refine stk15 _ ?_
        show Sp p e below Tk15 (mkF m 34 #[.val (.int p1), .val (.int p2), .val (.int (0 : Int32)), .val (.int (5 : Int32))] [(.ref w_TIMESTAMP)]) _
        refine XS.iloadN Xk15.here hx rfl (hb hby at_34) rfl ?_
        show Sp p e below Tk15 (mkF m 35 #[.val (.int p1), .val (.int p2), .val (.int (0 : Int32)), .val (.int (5 : Int32))] [(.int (5 : Int32)), (.ref w_TIMESTAMP)]) _
        refine stk16 _ ?_
        show Sp p e below Tk16 (mkF m 38 #[.val (.int p1), .val (.int p2), .val (.int (0 : Int32)), .val (.int (5 : Int32))] [(.ref w_TIMESTAMP), (.ref w_TIMESTAMP)]) _
        refine Jvm.RoadKit.acmp (g := (mkF m 38 #[.val (.int p1), .val (.int p2), .val (.int (0 : Int32)), .val (.int (5 : Int32))] [(.ref w_TIMESTAMP), (.ref w_TIMESTAMP)])) Xk16 hx rfl rfl rfl (pc0 := 38) (pc' := 41) (same := true) rfl (hb hby at_38) rfl (decide_eq_true rfl) (by decide) (by decide) ?_
        show Sp p e below Tk16 (mkF m 41 #[.val (.int p1), .val (.int p2), .val (.int (0 : Int32)), .val (.int (5 : Int32))] []) _
        refine XS.iconst Xk16.here hx rfl (hb hby at_41) ?_
        show Sp p e below Tk16 (mkF m 42 #[.val (.int p1), .val (.int p2), .val (.int (0 : Int32)), .val (.int (5 : Int32))] [(.int (1 : Int32))]) _
        refine XS.goto Xk16.here hx rfl (pc0 := 42) (pc' := 46) rfl (hb hby at_42) (by decide) (by decide) ?_
        show Sp p e below Tk16 (mkF m 46 #[.val (.int p1), .val (.int p2), .val (.int (0 : Int32)), .val (.int (5 : Int32))] [(.int (1 : Int32))]) _
        exact retN Xk16 hx (t := .boolean) hret (by simp) (hb hby at_46) hlv
      · show Q_law Z p1 p2 aT kT w_INTEGER w_DECIMAL w_VARCHAR w_DATE w_TIMESTAMP w_BOOLEAN w_NULL h0 n0 _ Tk16.heap _
        rw [ek16]
        exact ⟨rfl, Nk16⟩
    have hT : Value.null = if zt < (0 : Int32) then Value.null else if (1 : Int32) = zt then Value.ref w_INTEGER else if (3 : Int32) = zt then Value.ref w_DECIMAL else if (2 : Int32) = zt then Value.ref w_VARCHAR else if (4 : Int32) = zt then Value.ref w_DATE else if (5 : Int32) = zt then Value.ref w_TIMESTAMP else if (-1 : Int32) = zt then Value.ref w_BOOLEAN else if (0 : Int32) = zt then Value.ref w_NULL else Value.null := by
      by_cases hneg : zt < (0 : Int32)
      · rw [if_pos hneg]
      · have hm1 : ¬ ((-1 : Int32) = zt) := fun q => hneg (by rw [← q]; decide)
        rw [if_neg hneg, if_neg (Ne.symm c1), if_neg (Ne.symm c3), if_neg (Ne.symm c2), if_neg (Ne.symm c4), if_neg (Ne.symm c5), if_neg hm1, if_neg (Ne.symm c0)]
    obtain ⟨_, _, ⟨Tk17, Lk17, kk17, nk17⟩, -, Xk17, ⟨Lck17, hQk17, lk17, yk17, zk17⟩, stk17⟩ := Jvm.LawKit.callS X0 hx (y := (⟨"com/example/kilit/kilit/ValueType", "tagged", "(I)Lcom/example/kilit/kilit/ValueType;"⟩ : MethodName)) hown (mvT hZ (hw _ (List.mem_of_getElem? (i := 0) rfl))) (mvT hZ (hw _ (List.mem_of_getElem? (i := 1) rfl))) (mvT hZ (hw _ (List.mem_of_getElem? (i := 2) rfl))) (mvT hZ (hw _ (List.mem_of_getElem? (i := 3) rfl))) (by decide) (backOf (W := 0) (rm_tagged l Z a0 hw [] zt aT kT w_INTEGER w_DECIMAL w_VARCHAR w_DATE w_TIMESTAMP w_BOOLEAN w_NULL Value.null h0 n0 Z0 S_TYPES VT F_INTEGER F_DECIMAL F_VARCHAR F_DATE F_TIMESTAMP F_BOOLEAN F_NULL hT) hZ (hw _ (List.mem_of_getElem? (i := 3) rfl)) (hw _ (List.mem_of_getElem? (i := 2) rfl)) (by decide) (by decide)) (g := (mkF m 31 #[.val (.int p1), .val (.int p2), .val (.int (0 : Int32)), .val (.int zt)] [(.int zt)])) rfl (by rw [hml]; rfl) (argsL := [(.int zt)]) (rest := []) (lenOf pd__I_Lcom_example_kilit_kilit_ValueType_ rfl) rfl (by show 2 * 0 + _ ≤ _; exact Nat.le_of_eq rfl) (hb hby at_31) (fun _ _ => ⟨rfl, e0, (by decide : 0 + 0 ≤ _), (by decide : 0 + 0 ≤ _)⟩)
    dsimp only [Pt.U, Pt.locs, Pt.cells, Pt.slots] at Xk17 lk17 yk17 zk17 stk17 hQk17
    subst lk17 yk17 zk17
    obtain ⟨rfl, Nk17q, ek17⟩ := hQk17
    have Nk17 := Fr.app N0 Nk17q
    have hE : Value.null = if zt = (0 : Int32) then Value.ref w_NULL else if zt = (1 : Int32) then Value.ref w_INTEGER else if zt = (2 : Int32) then Value.ref w_VARCHAR else if zt = (3 : Int32) then Value.ref w_DECIMAL else if zt = (4 : Int32) then Value.ref w_DATE else if zt = (5 : Int32) then Value.ref w_TIMESTAMP else Value.null := by rw [if_neg c0, if_neg c1, if_neg c2, if_neg c3, if_neg c4, if_neg c5]
    obtain ⟨_, _, ⟨Tk18, Lk18, kk18, nk18⟩, -, Xk18, ⟨Lck18, hQk18, lk18, yk18, zk18⟩, stk18⟩ := Jvm.LawKit.callS Xk17 hx (y := (⟨"com/example/kilit/kilit/ValueTypeTaggedPinLaw", "expected", "(I)Lcom/example/kilit/kilit/ValueType;"⟩ : MethodName)) hown (mvT hZ (hw _ (List.mem_of_getElem? (i := 14) rfl))) (mvT hZ (hw _ (List.mem_of_getElem? (i := 15) rfl))) (mvT hZ (hw _ (List.mem_of_getElem? (i := 16) rfl))) (mvT hZ (hw _ (List.mem_of_getElem? (i := 17) rfl))) (by decide) (backOf (W := 1) (rm_expected l Z a0 hw [] zt w_NULL w_INTEGER w_VARCHAR w_DECIMAL w_DATE w_TIMESTAMP Value.null h0 n0 Z0 S_NULL S_INTEGER S_VARCHAR S_DECIMAL S_DATE S_TIMESTAMP hE) hZ (hw _ (List.mem_of_getElem? (i := 17) rfl)) (hw _ (List.mem_of_getElem? (i := 16) rfl)) (by decide) (by decide)) (g := (mkF m 35 #[.val (.int p1), .val (.int p2), .val (.int (0 : Int32)), .val (.int zt)] [(.int zt), .null])) rfl (by rw [hml]; rfl) (argsL := [(.int zt)]) (rest := [.null]) (lenOf pd__I_Lcom_example_kilit_kilit_ValueType_ rfl) rfl (by show 2 * 0 + _ ≤ _; exact Nat.le_of_eq rfl) (hb hby at_35) (fun _ _ => ⟨rfl, ek17, (by decide : 0 + 0 ≤ _), (by decide : 0 + 0 ≤ _)⟩)
    dsimp only [Pt.U, Pt.locs, Pt.cells, Pt.slots] at Xk18 lk18 yk18 zk18 stk18 hQk18
    subst lk18 yk18 zk18
    obtain ⟨rfl, Nk18q, ek18⟩ := hQk18
    have Nk18 := Fr.app Nk17 Nk18q
    obtain ⟨fs, hlv, hrun, hended, hW, hsame⟩ := Xk18.leave (v := some (.int (1 : Int32))) (fun h => by rw [hret] at h; cases h)
    refine ⟨_, _, r4 _ ?_, hrun, hended, _, _, rfl, ?_, ⟨_, rfl⟩, hW, hsame.mono (by decide) (by decide)⟩
    · refine XS.iloadN X0.here hx rfl (hb hby at_30) rfl ?_
      show Sp p e below s₁ (mkF m 31 #[.val (.int p1), .val (.int p2), .val (.int (0 : Int32)), .val (.int zt)] [(.int zt)]) _
      refine stk17 _ ?_
      show Sp p e below Tk17 (mkF m 34 #[.val (.int p1), .val (.int p2), .val (.int (0 : Int32)), .val (.int zt)] [.null]) _
      refine XS.iloadN Xk17.here hx rfl (hb hby at_34) rfl ?_
      show Sp p e below Tk17 (mkF m 35 #[.val (.int p1), .val (.int p2), .val (.int (0 : Int32)), .val (.int zt)] [(.int zt), .null]) _
      refine stk18 _ ?_
      show Sp p e below Tk18 (mkF m 38 #[.val (.int p1), .val (.int p2), .val (.int (0 : Int32)), .val (.int zt)] [.null, .null]) _
      refine Jvm.RoadKit.acmp (g := (mkF m 38 #[.val (.int p1), .val (.int p2), .val (.int (0 : Int32)), .val (.int zt)] [.null, .null])) Xk18 hx rfl rfl rfl (pc0 := 38) (pc' := 41) (same := true) rfl (hb hby at_38) rfl (decide_eq_true rfl) (by decide) (by decide) ?_
      show Sp p e below Tk18 (mkF m 41 #[.val (.int p1), .val (.int p2), .val (.int (0 : Int32)), .val (.int zt)] []) _
      refine XS.iconst Xk18.here hx rfl (hb hby at_41) ?_
      show Sp p e below Tk18 (mkF m 42 #[.val (.int p1), .val (.int p2), .val (.int (0 : Int32)), .val (.int zt)] [(.int (1 : Int32))]) _
      refine XS.goto Xk18.here hx rfl (pc0 := 42) (pc' := 46) rfl (hb hby at_42) (by decide) (by decide) ?_
      show Sp p e below Tk18 (mkF m 46 #[.val (.int p1), .val (.int p2), .val (.int (0 : Int32)), .val (.int zt)] [(.int (1 : Int32))]) _
      exact retN Xk18 hx (t := .boolean) hret (by simp) (hb hby at_46) hlv
    · show Q_law Z p1 p2 aT kT w_INTEGER w_DECIMAL w_VARCHAR w_DATE w_TIMESTAMP w_BOOLEAN w_NULL h0 n0 _ Tk18.heap _
      rw [ek18]
      exact ⟨rfl, Nk18⟩
  · have r19 : ∀ t_, Sp p e below s₁ (mkF m 30 #[.val (.int p1), .val (.int p2), .val (.int (1 : Int32)), .val (.int p1)] []) t_ → Sp p e below s₁ (entryFrame m #[(.int p1), (.int p2)] maxLocals) t_ := by
      intro t_ k_
      refine r1 _ ?_
      refine XS.ifNo X0.here hx rfl (hb hby at_3) rfl ((if0 _ _).trans (feq c2).1) ?_
      show Sp p e below s₁ (mkF m 6 #[.val (.int p1), .val (.int p2), .unset, .unset] []) _
      refine XS.iconst X0.here hx rfl (hb hby at_6) ?_
      show Sp p e below s₁ (mkF m 7 #[.val (.int p1), .val (.int p2), .unset, .unset] [(.int (1 : Int32))]) _
      refine XS.goto X0.here hx rfl (pc0 := 7) (pc' := 11) rfl (hb hby at_7) (by decide) (by decide) ?_
      show Sp p e below s₁ (mkF m 11 #[.val (.int p1), .val (.int p2), .unset, .unset] [(.int (1 : Int32))]) _
      refine XS.istoreN X0.here hx rfl (hb hby at_11) rfl (l' := #[.val (.int p1), .val (.int p2), .val (.int (1 : Int32)), .unset]) rfl ?_
      show Sp p e below s₁ (mkF m 12 #[.val (.int p1), .val (.int p2), .val (.int (1 : Int32)), .unset] []) _
      refine XS.iloadN X0.here hx rfl (hb hby at_12) rfl ?_
      show Sp p e below s₁ (mkF m 13 #[.val (.int p1), .val (.int p2), .val (.int (1 : Int32)), .unset] [(.int (1 : Int32))]) _
      refine XS.ifNo X0.here hx rfl (hb hby at_13) rfl ((if0 _ _).trans (feq (by decide : ¬ ((1 : Int32) = (0 : Int32)))).1) ?_
      show Sp p e below s₁ (mkF m 16 #[.val (.int p1), .val (.int p2), .val (.int (1 : Int32)), .unset] []) _
      refine XS.iloadN X0.here hx rfl (hb hby at_16) rfl ?_
      show Sp p e below s₁ (mkF m 17 #[.val (.int p1), .val (.int p2), .val (.int (1 : Int32)), .unset] [(.int p1)]) _
      refine XS.goto X0.here hx rfl (pc0 := 17) (pc' := 29) rfl (hb hby at_17) (by decide) (by decide) ?_
      show Sp p e below s₁ (mkF m 29 #[.val (.int p1), .val (.int p2), .val (.int (1 : Int32)), .unset] [(.int p1)]) _
      refine XS.istoreN X0.here hx rfl (hb hby at_29) rfl (l' := #[.val (.int p1), .val (.int p2), .val (.int (1 : Int32)), .val (.int p1)]) rfl ?_
      show Sp p e below s₁ (mkF m 30 #[.val (.int p1), .val (.int p2), .val (.int (1 : Int32)), .val (.int p1)] []) _
      exact k_
    obtain ⟨zt, hzt⟩ : ∃ z : Int32, z = p1 := ⟨_, rfl⟩
    have r20 : ∀ t_, Sp p e below s₁ (mkF m 30 #[.val (.int p1), .val (.int p2), .val (.int (1 : Int32)), .val (.int zt)] []) t_ → Sp p e below s₁ (entryFrame m #[(.int p1), (.int p2)] maxLocals) t_ := by rw [hzt]; exact r19
    by_cases c0 : zt = (0 : Int32)
    · rw [c0] at r20
      have hT : (Value.ref w_NULL) = if (0 : Int32) < (0 : Int32) then Value.null else if (1 : Int32) = (0 : Int32) then Value.ref w_INTEGER else if (3 : Int32) = (0 : Int32) then Value.ref w_DECIMAL else if (2 : Int32) = (0 : Int32) then Value.ref w_VARCHAR else if (4 : Int32) = (0 : Int32) then Value.ref w_DATE else if (5 : Int32) = (0 : Int32) then Value.ref w_TIMESTAMP else if (-1 : Int32) = (0 : Int32) then Value.ref w_BOOLEAN else if (0 : Int32) = (0 : Int32) then Value.ref w_NULL else Value.null := by rw [if_neg (by decide), if_neg (by decide), if_neg (by decide), if_neg (by decide), if_neg (by decide), if_neg (by decide), if_neg (by decide), if_pos (by decide)]
      obtain ⟨_, _, ⟨Tk21, Lk21, kk21, nk21⟩, -, Xk21, ⟨Lck21, hQk21, lk21, yk21, zk21⟩, stk21⟩ := Jvm.LawKit.callS X0 hx (y := (⟨"com/example/kilit/kilit/ValueType", "tagged", "(I)Lcom/example/kilit/kilit/ValueType;"⟩ : MethodName)) hown (mvT hZ (hw _ (List.mem_of_getElem? (i := 0) rfl))) (mvT hZ (hw _ (List.mem_of_getElem? (i := 1) rfl))) (mvT hZ (hw _ (List.mem_of_getElem? (i := 2) rfl))) (mvT hZ (hw _ (List.mem_of_getElem? (i := 3) rfl))) (by decide) (backOf (W := 0) (rm_tagged l Z a0 hw [] (0 : Int32) aT kT w_INTEGER w_DECIMAL w_VARCHAR w_DATE w_TIMESTAMP w_BOOLEAN w_NULL (Value.ref w_NULL) h0 n0 Z0 S_TYPES VT F_INTEGER F_DECIMAL F_VARCHAR F_DATE F_TIMESTAMP F_BOOLEAN F_NULL hT) hZ (hw _ (List.mem_of_getElem? (i := 3) rfl)) (hw _ (List.mem_of_getElem? (i := 2) rfl)) (by decide) (by decide)) (g := (mkF m 31 #[.val (.int p1), .val (.int p2), .val (.int (1 : Int32)), .val (.int (0 : Int32))] [(.int (0 : Int32))])) rfl (by rw [hml]; rfl) (argsL := [(.int (0 : Int32))]) (rest := []) (lenOf pd__I_Lcom_example_kilit_kilit_ValueType_ rfl) rfl (by show 2 * 0 + _ ≤ _; exact Nat.le_of_eq rfl) (hb hby at_31) (fun _ _ => ⟨rfl, e0, (by decide : 0 + 0 ≤ _), (by decide : 0 + 0 ≤ _)⟩)
      dsimp only [Pt.U, Pt.locs, Pt.cells, Pt.slots] at Xk21 lk21 yk21 zk21 stk21 hQk21
      subst lk21 yk21 zk21
      obtain ⟨rfl, Nk21q, ek21⟩ := hQk21
      have Nk21 := Fr.app N0 Nk21q
      have hE : (Value.ref w_NULL) = if (0 : Int32) = (0 : Int32) then Value.ref w_NULL else if (0 : Int32) = (1 : Int32) then Value.ref w_INTEGER else if (0 : Int32) = (2 : Int32) then Value.ref w_VARCHAR else if (0 : Int32) = (3 : Int32) then Value.ref w_DECIMAL else if (0 : Int32) = (4 : Int32) then Value.ref w_DATE else if (0 : Int32) = (5 : Int32) then Value.ref w_TIMESTAMP else Value.null := by rw [if_pos (by decide)]
      obtain ⟨_, _, ⟨Tk22, Lk22, kk22, nk22⟩, -, Xk22, ⟨Lck22, hQk22, lk22, yk22, zk22⟩, stk22⟩ := Jvm.LawKit.callS Xk21 hx (y := (⟨"com/example/kilit/kilit/ValueTypeTaggedPinLaw", "expected", "(I)Lcom/example/kilit/kilit/ValueType;"⟩ : MethodName)) hown (mvT hZ (hw _ (List.mem_of_getElem? (i := 14) rfl))) (mvT hZ (hw _ (List.mem_of_getElem? (i := 15) rfl))) (mvT hZ (hw _ (List.mem_of_getElem? (i := 16) rfl))) (mvT hZ (hw _ (List.mem_of_getElem? (i := 17) rfl))) (by decide) (backOf (W := 1) (rm_expected l Z a0 hw [] (0 : Int32) w_NULL w_INTEGER w_VARCHAR w_DECIMAL w_DATE w_TIMESTAMP (Value.ref w_NULL) h0 n0 Z0 S_NULL S_INTEGER S_VARCHAR S_DECIMAL S_DATE S_TIMESTAMP hE) hZ (hw _ (List.mem_of_getElem? (i := 17) rfl)) (hw _ (List.mem_of_getElem? (i := 16) rfl)) (by decide) (by decide)) (g := (mkF m 35 #[.val (.int p1), .val (.int p2), .val (.int (1 : Int32)), .val (.int (0 : Int32))] [(.int (0 : Int32)), (.ref w_NULL)])) rfl (by rw [hml]; rfl) (argsL := [(.int (0 : Int32))]) (rest := [(.ref w_NULL)]) (lenOf pd__I_Lcom_example_kilit_kilit_ValueType_ rfl) rfl (by show 2 * 0 + _ ≤ _; exact Nat.le_of_eq rfl) (hb hby at_35) (fun _ _ => ⟨rfl, ek21, (by decide : 0 + 0 ≤ _), (by decide : 0 + 0 ≤ _)⟩)
      dsimp only [Pt.U, Pt.locs, Pt.cells, Pt.slots] at Xk22 lk22 yk22 zk22 stk22 hQk22
      subst lk22 yk22 zk22
      obtain ⟨rfl, Nk22q, ek22⟩ := hQk22
      have Nk22 := Fr.app Nk21 Nk22q
      obtain ⟨fs, hlv, hrun, hended, hW, hsame⟩ := Xk22.leave (v := some (.int (1 : Int32))) (fun h => by rw [hret] at h; cases h)
      refine ⟨_, _, r20 _ ?_, hrun, hended, _, _, rfl, ?_, ⟨_, rfl⟩, hW, hsame.mono (by decide) (by decide)⟩
      · refine XS.iloadN X0.here hx rfl (hb hby at_30) rfl ?_
        show Sp p e below s₁ (mkF m 31 #[.val (.int p1), .val (.int p2), .val (.int (1 : Int32)), .val (.int (0 : Int32))] [(.int (0 : Int32))]) _
        refine stk21 _ ?_
        show Sp p e below Tk21 (mkF m 34 #[.val (.int p1), .val (.int p2), .val (.int (1 : Int32)), .val (.int (0 : Int32))] [(.ref w_NULL)]) _
        refine XS.iloadN Xk21.here hx rfl (hb hby at_34) rfl ?_
        show Sp p e below Tk21 (mkF m 35 #[.val (.int p1), .val (.int p2), .val (.int (1 : Int32)), .val (.int (0 : Int32))] [(.int (0 : Int32)), (.ref w_NULL)]) _
        refine stk22 _ ?_
        show Sp p e below Tk22 (mkF m 38 #[.val (.int p1), .val (.int p2), .val (.int (1 : Int32)), .val (.int (0 : Int32))] [(.ref w_NULL), (.ref w_NULL)]) _
        refine Jvm.RoadKit.acmp (g := (mkF m 38 #[.val (.int p1), .val (.int p2), .val (.int (1 : Int32)), .val (.int (0 : Int32))] [(.ref w_NULL), (.ref w_NULL)])) Xk22 hx rfl rfl rfl (pc0 := 38) (pc' := 41) (same := true) rfl (hb hby at_38) rfl (decide_eq_true rfl) (by decide) (by decide) ?_
        show Sp p e below Tk22 (mkF m 41 #[.val (.int p1), .val (.int p2), .val (.int (1 : Int32)), .val (.int (0 : Int32))] []) _
        refine XS.iconst Xk22.here hx rfl (hb hby at_41) ?_
        show Sp p e below Tk22 (mkF m 42 #[.val (.int p1), .val (.int p2), .val (.int (1 : Int32)), .val (.int (0 : Int32))] [(.int (1 : Int32))]) _
        refine XS.goto Xk22.here hx rfl (pc0 := 42) (pc' := 46) rfl (hb hby at_42) (by decide) (by decide) ?_
        show Sp p e below Tk22 (mkF m 46 #[.val (.int p1), .val (.int p2), .val (.int (1 : Int32)), .val (.int (0 : Int32))] [(.int (1 : Int32))]) _
        exact retN Xk22 hx (t := .boolean) hret (by simp) (hb hby at_46) hlv
      · show Q_law Z p1 p2 aT kT w_INTEGER w_DECIMAL w_VARCHAR w_DATE w_TIMESTAMP w_BOOLEAN w_NULL h0 n0 _ Tk22.heap _
        rw [ek22]
        exact ⟨rfl, Nk22⟩
    by_cases c1 : zt = (1 : Int32)
    · rw [c1] at r20
      have hT : (Value.ref w_INTEGER) = if (1 : Int32) < (0 : Int32) then Value.null else if (1 : Int32) = (1 : Int32) then Value.ref w_INTEGER else if (3 : Int32) = (1 : Int32) then Value.ref w_DECIMAL else if (2 : Int32) = (1 : Int32) then Value.ref w_VARCHAR else if (4 : Int32) = (1 : Int32) then Value.ref w_DATE else if (5 : Int32) = (1 : Int32) then Value.ref w_TIMESTAMP else if (-1 : Int32) = (1 : Int32) then Value.ref w_BOOLEAN else if (0 : Int32) = (1 : Int32) then Value.ref w_NULL else Value.null := by rw [if_neg (by decide), if_pos (by decide)]
      obtain ⟨_, _, ⟨Tk23, Lk23, kk23, nk23⟩, -, Xk23, ⟨Lck23, hQk23, lk23, yk23, zk23⟩, stk23⟩ := Jvm.LawKit.callS X0 hx (y := (⟨"com/example/kilit/kilit/ValueType", "tagged", "(I)Lcom/example/kilit/kilit/ValueType;"⟩ : MethodName)) hown (mvT hZ (hw _ (List.mem_of_getElem? (i := 0) rfl))) (mvT hZ (hw _ (List.mem_of_getElem? (i := 1) rfl))) (mvT hZ (hw _ (List.mem_of_getElem? (i := 2) rfl))) (mvT hZ (hw _ (List.mem_of_getElem? (i := 3) rfl))) (by decide) (backOf (W := 0) (rm_tagged l Z a0 hw [] (1 : Int32) aT kT w_INTEGER w_DECIMAL w_VARCHAR w_DATE w_TIMESTAMP w_BOOLEAN w_NULL (Value.ref w_INTEGER) h0 n0 Z0 S_TYPES VT F_INTEGER F_DECIMAL F_VARCHAR F_DATE F_TIMESTAMP F_BOOLEAN F_NULL hT) hZ (hw _ (List.mem_of_getElem? (i := 3) rfl)) (hw _ (List.mem_of_getElem? (i := 2) rfl)) (by decide) (by decide)) (g := (mkF m 31 #[.val (.int p1), .val (.int p2), .val (.int (1 : Int32)), .val (.int (1 : Int32))] [(.int (1 : Int32))])) rfl (by rw [hml]; rfl) (argsL := [(.int (1 : Int32))]) (rest := []) (lenOf pd__I_Lcom_example_kilit_kilit_ValueType_ rfl) rfl (by show 2 * 0 + _ ≤ _; exact Nat.le_of_eq rfl) (hb hby at_31) (fun _ _ => ⟨rfl, e0, (by decide : 0 + 0 ≤ _), (by decide : 0 + 0 ≤ _)⟩)
      dsimp only [Pt.U, Pt.locs, Pt.cells, Pt.slots] at Xk23 lk23 yk23 zk23 stk23 hQk23
      subst lk23 yk23 zk23
      obtain ⟨rfl, Nk23q, ek23⟩ := hQk23
      have Nk23 := Fr.app N0 Nk23q
      have hE : (Value.ref w_INTEGER) = if (1 : Int32) = (0 : Int32) then Value.ref w_NULL else if (1 : Int32) = (1 : Int32) then Value.ref w_INTEGER else if (1 : Int32) = (2 : Int32) then Value.ref w_VARCHAR else if (1 : Int32) = (3 : Int32) then Value.ref w_DECIMAL else if (1 : Int32) = (4 : Int32) then Value.ref w_DATE else if (1 : Int32) = (5 : Int32) then Value.ref w_TIMESTAMP else Value.null := by rw [if_neg (by decide), if_pos (by decide)]
      obtain ⟨_, _, ⟨Tk24, Lk24, kk24, nk24⟩, -, Xk24, ⟨Lck24, hQk24, lk24, yk24, zk24⟩, stk24⟩ := Jvm.LawKit.callS Xk23 hx (y := (⟨"com/example/kilit/kilit/ValueTypeTaggedPinLaw", "expected", "(I)Lcom/example/kilit/kilit/ValueType;"⟩ : MethodName)) hown (mvT hZ (hw _ (List.mem_of_getElem? (i := 14) rfl))) (mvT hZ (hw _ (List.mem_of_getElem? (i := 15) rfl))) (mvT hZ (hw _ (List.mem_of_getElem? (i := 16) rfl))) (mvT hZ (hw _ (List.mem_of_getElem? (i := 17) rfl))) (by decide) (backOf (W := 1) (rm_expected l Z a0 hw [] (1 : Int32) w_NULL w_INTEGER w_VARCHAR w_DECIMAL w_DATE w_TIMESTAMP (Value.ref w_INTEGER) h0 n0 Z0 S_NULL S_INTEGER S_VARCHAR S_DECIMAL S_DATE S_TIMESTAMP hE) hZ (hw _ (List.mem_of_getElem? (i := 17) rfl)) (hw _ (List.mem_of_getElem? (i := 16) rfl)) (by decide) (by decide)) (g := (mkF m 35 #[.val (.int p1), .val (.int p2), .val (.int (1 : Int32)), .val (.int (1 : Int32))] [(.int (1 : Int32)), (.ref w_INTEGER)])) rfl (by rw [hml]; rfl) (argsL := [(.int (1 : Int32))]) (rest := [(.ref w_INTEGER)]) (lenOf pd__I_Lcom_example_kilit_kilit_ValueType_ rfl) rfl (by show 2 * 0 + _ ≤ _; exact Nat.le_of_eq rfl) (hb hby at_35) (fun _ _ => ⟨rfl, ek23, (by decide : 0 + 0 ≤ _), (by decide : 0 + 0 ≤ _)⟩)
      dsimp only [Pt.U, Pt.locs, Pt.cells, Pt.slots] at Xk24 lk24 yk24 zk24 stk24 hQk24
      subst lk24 yk24 zk24
      obtain ⟨rfl, Nk24q, ek24⟩ := hQk24
      have Nk24 := Fr.app Nk23 Nk24q
      obtain ⟨fs, hlv, hrun, hended, hW, hsame⟩ := Xk24.leave (v := some (.int (1 : Int32))) (fun h => by rw [hret] at h; cases h)
      refine ⟨_, _, r20 _ ?_, hrun, hended, _, _, rfl, ?_, ⟨_, rfl⟩, hW, hsame.mono (by decide) (by decide)⟩
      · refine XS.iloadN X0.here hx rfl (hb hby at_30) rfl ?_
        show Sp p e below s₁ (mkF m 31 #[.val (.int p1), .val (.int p2), .val (.int (1 : Int32)), .val (.int (1 : Int32))] [(.int (1 : Int32))]) _
        refine stk23 _ ?_
        show Sp p e below Tk23 (mkF m 34 #[.val (.int p1), .val (.int p2), .val (.int (1 : Int32)), .val (.int (1 : Int32))] [(.ref w_INTEGER)]) _
        refine XS.iloadN Xk23.here hx rfl (hb hby at_34) rfl ?_
        show Sp p e below Tk23 (mkF m 35 #[.val (.int p1), .val (.int p2), .val (.int (1 : Int32)), .val (.int (1 : Int32))] [(.int (1 : Int32)), (.ref w_INTEGER)]) _
        refine stk24 _ ?_
        show Sp p e below Tk24 (mkF m 38 #[.val (.int p1), .val (.int p2), .val (.int (1 : Int32)), .val (.int (1 : Int32))] [(.ref w_INTEGER), (.ref w_INTEGER)]) _
        refine Jvm.RoadKit.acmp (g := (mkF m 38 #[.val (.int p1), .val (.int p2), .val (.int (1 : Int32)), .val (.int (1 : Int32))] [(.ref w_INTEGER), (.ref w_INTEGER)])) Xk24 hx rfl rfl rfl (pc0 := 38) (pc' := 41) (same := true) rfl (hb hby at_38) rfl (decide_eq_true rfl) (by decide) (by decide) ?_
        show Sp p e below Tk24 (mkF m 41 #[.val (.int p1), .val (.int p2), .val (.int (1 : Int32)), .val (.int (1 : Int32))] []) _
        refine XS.iconst Xk24.here hx rfl (hb hby at_41) ?_
        show Sp p e below Tk24 (mkF m 42 #[.val (.int p1), .val (.int p2), .val (.int (1 : Int32)), .val (.int (1 : Int32))] [(.int (1 : Int32))]) _
        refine XS.goto Xk24.here hx rfl (pc0 := 42) (pc' := 46) rfl (hb hby at_42) (by decide) (by decide) ?_
        show Sp p e below Tk24 (mkF m 46 #[.val (.int p1), .val (.int p2), .val (.int (1 : Int32)), .val (.int (1 : Int32))] [(.int (1 : Int32))]) _
        exact retN Xk24 hx (t := .boolean) hret (by simp) (hb hby at_46) hlv
      · show Q_law Z p1 p2 aT kT w_INTEGER w_DECIMAL w_VARCHAR w_DATE w_TIMESTAMP w_BOOLEAN w_NULL h0 n0 _ Tk24.heap _
        rw [ek24]
        exact ⟨rfl, Nk24⟩
    by_cases c2 : zt = (2 : Int32)
    · rw [c2] at r20
      have hT : (Value.ref w_VARCHAR) = if (2 : Int32) < (0 : Int32) then Value.null else if (1 : Int32) = (2 : Int32) then Value.ref w_INTEGER else if (3 : Int32) = (2 : Int32) then Value.ref w_DECIMAL else if (2 : Int32) = (2 : Int32) then Value.ref w_VARCHAR else if (4 : Int32) = (2 : Int32) then Value.ref w_DATE else if (5 : Int32) = (2 : Int32) then Value.ref w_TIMESTAMP else if (-1 : Int32) = (2 : Int32) then Value.ref w_BOOLEAN else if (0 : Int32) = (2 : Int32) then Value.ref w_NULL else Value.null := by rw [if_neg (by decide), if_neg (by decide), if_neg (by decide), if_pos (by decide)]
      obtain ⟨_, _, ⟨Tk25, Lk25, kk25, nk25⟩, -, Xk25, ⟨Lck25, hQk25, lk25, yk25, zk25⟩, stk25⟩ := Jvm.LawKit.callS X0 hx (y := (⟨"com/example/kilit/kilit/ValueType", "tagged", "(I)Lcom/example/kilit/kilit/ValueType;"⟩ : MethodName)) hown (mvT hZ (hw _ (List.mem_of_getElem? (i := 0) rfl))) (mvT hZ (hw _ (List.mem_of_getElem? (i := 1) rfl))) (mvT hZ (hw _ (List.mem_of_getElem? (i := 2) rfl))) (mvT hZ (hw _ (List.mem_of_getElem? (i := 3) rfl))) (by decide) (backOf (W := 0) (rm_tagged l Z a0 hw [] (2 : Int32) aT kT w_INTEGER w_DECIMAL w_VARCHAR w_DATE w_TIMESTAMP w_BOOLEAN w_NULL (Value.ref w_VARCHAR) h0 n0 Z0 S_TYPES VT F_INTEGER F_DECIMAL F_VARCHAR F_DATE F_TIMESTAMP F_BOOLEAN F_NULL hT) hZ (hw _ (List.mem_of_getElem? (i := 3) rfl)) (hw _ (List.mem_of_getElem? (i := 2) rfl)) (by decide) (by decide)) (g := (mkF m 31 #[.val (.int p1), .val (.int p2), .val (.int (1 : Int32)), .val (.int (2 : Int32))] [(.int (2 : Int32))])) rfl (by rw [hml]; rfl) (argsL := [(.int (2 : Int32))]) (rest := []) (lenOf pd__I_Lcom_example_kilit_kilit_ValueType_ rfl) rfl (by show 2 * 0 + _ ≤ _; exact Nat.le_of_eq rfl) (hb hby at_31) (fun _ _ => ⟨rfl, e0, (by decide : 0 + 0 ≤ _), (by decide : 0 + 0 ≤ _)⟩)
      dsimp only [Pt.U, Pt.locs, Pt.cells, Pt.slots] at Xk25 lk25 yk25 zk25 stk25 hQk25
      subst lk25 yk25 zk25
      obtain ⟨rfl, Nk25q, ek25⟩ := hQk25
      have Nk25 := Fr.app N0 Nk25q
      have hE : (Value.ref w_VARCHAR) = if (2 : Int32) = (0 : Int32) then Value.ref w_NULL else if (2 : Int32) = (1 : Int32) then Value.ref w_INTEGER else if (2 : Int32) = (2 : Int32) then Value.ref w_VARCHAR else if (2 : Int32) = (3 : Int32) then Value.ref w_DECIMAL else if (2 : Int32) = (4 : Int32) then Value.ref w_DATE else if (2 : Int32) = (5 : Int32) then Value.ref w_TIMESTAMP else Value.null := by rw [if_neg (by decide), if_neg (by decide), if_pos (by decide)]
      obtain ⟨_, _, ⟨Tk26, Lk26, kk26, nk26⟩, -, Xk26, ⟨Lck26, hQk26, lk26, yk26, zk26⟩, stk26⟩ := Jvm.LawKit.callS Xk25 hx (y := (⟨"com/example/kilit/kilit/ValueTypeTaggedPinLaw", "expected", "(I)Lcom/example/kilit/kilit/ValueType;"⟩ : MethodName)) hown (mvT hZ (hw _ (List.mem_of_getElem? (i := 14) rfl))) (mvT hZ (hw _ (List.mem_of_getElem? (i := 15) rfl))) (mvT hZ (hw _ (List.mem_of_getElem? (i := 16) rfl))) (mvT hZ (hw _ (List.mem_of_getElem? (i := 17) rfl))) (by decide) (backOf (W := 1) (rm_expected l Z a0 hw [] (2 : Int32) w_NULL w_INTEGER w_VARCHAR w_DECIMAL w_DATE w_TIMESTAMP (Value.ref w_VARCHAR) h0 n0 Z0 S_NULL S_INTEGER S_VARCHAR S_DECIMAL S_DATE S_TIMESTAMP hE) hZ (hw _ (List.mem_of_getElem? (i := 17) rfl)) (hw _ (List.mem_of_getElem? (i := 16) rfl)) (by decide) (by decide)) (g := (mkF m 35 #[.val (.int p1), .val (.int p2), .val (.int (1 : Int32)), .val (.int (2 : Int32))] [(.int (2 : Int32)), (.ref w_VARCHAR)])) rfl (by rw [hml]; rfl) (argsL := [(.int (2 : Int32))]) (rest := [(.ref w_VARCHAR)]) (lenOf pd__I_Lcom_example_kilit_kilit_ValueType_ rfl) rfl (by show 2 * 0 + _ ≤ _; exact Nat.le_of_eq rfl) (hb hby at_35) (fun _ _ => ⟨rfl, ek25, (by decide : 0 + 0 ≤ _), (by decide : 0 + 0 ≤ _)⟩)
      dsimp only [Pt.U, Pt.locs, Pt.cells, Pt.slots] at Xk26 lk26 yk26 zk26 stk26 hQk26
      subst lk26 yk26 zk26
      obtain ⟨rfl, Nk26q, ek26⟩ := hQk26
      have Nk26 := Fr.app Nk25 Nk26q
      obtain ⟨fs, hlv, hrun, hended, hW, hsame⟩ := Xk26.leave (v := some (.int (1 : Int32))) (fun h => by rw [hret] at h; cases h)
      refine ⟨_, _, r20 _ ?_, hrun, hended, _, _, rfl, ?_, ⟨_, rfl⟩, hW, hsame.mono (by decide) (by decide)⟩
      · refine XS.iloadN X0.here hx rfl (hb hby at_30) rfl ?_
        show Sp p e below s₁ (mkF m 31 #[.val (.int p1), .val (.int p2), .val (.int (1 : Int32)), .val (.int (2 : Int32))] [(.int (2 : Int32))]) _
        refine stk25 _ ?_
        show Sp p e below Tk25 (mkF m 34 #[.val (.int p1), .val (.int p2), .val (.int (1 : Int32)), .val (.int (2 : Int32))] [(.ref w_VARCHAR)]) _
        refine XS.iloadN Xk25.here hx rfl (hb hby at_34) rfl ?_
        show Sp p e below Tk25 (mkF m 35 #[.val (.int p1), .val (.int p2), .val (.int (1 : Int32)), .val (.int (2 : Int32))] [(.int (2 : Int32)), (.ref w_VARCHAR)]) _
        refine stk26 _ ?_
        show Sp p e below Tk26 (mkF m 38 #[.val (.int p1), .val (.int p2), .val (.int (1 : Int32)), .val (.int (2 : Int32))] [(.ref w_VARCHAR), (.ref w_VARCHAR)]) _
        refine Jvm.RoadKit.acmp (g := (mkF m 38 #[.val (.int p1), .val (.int p2), .val (.int (1 : Int32)), .val (.int (2 : Int32))] [(.ref w_VARCHAR), (.ref w_VARCHAR)])) Xk26 hx rfl rfl rfl (pc0 := 38) (pc' := 41) (same := true) rfl (hb hby at_38) rfl (decide_eq_true rfl) (by decide) (by decide) ?_
        show Sp p e below Tk26 (mkF m 41 #[.val (.int p1), .val (.int p2), .val (.int (1 : Int32)), .val (.int (2 : Int32))] []) _
        refine XS.iconst Xk26.here hx rfl (hb hby at_41) ?_
        show Sp p e below Tk26 (mkF m 42 #[.val (.int p1), .val (.int p2), .val (.int (1 : Int32)), .val (.int (2 : Int32))] [(.int (1 : Int32))]) _
        refine XS.goto Xk26.here hx rfl (pc0 := 42) (pc' := 46) rfl (hb hby at_42) (by decide) (by decide) ?_
        show Sp p e below Tk26 (mkF m 46 #[.val (.int p1), .val (.int p2), .val (.int (1 : Int32)), .val (.int (2 : Int32))] [(.int (1 : Int32))]) _
        exact retN Xk26 hx (t := .boolean) hret (by simp) (hb hby at_46) hlv
      · show Q_law Z p1 p2 aT kT w_INTEGER w_DECIMAL w_VARCHAR w_DATE w_TIMESTAMP w_BOOLEAN w_NULL h0 n0 _ Tk26.heap _
        rw [ek26]
        exact ⟨rfl, Nk26⟩
    by_cases c3 : zt = (3 : Int32)
    · rw [c3] at r20
      have hT : (Value.ref w_DECIMAL) = if (3 : Int32) < (0 : Int32) then Value.null else if (1 : Int32) = (3 : Int32) then Value.ref w_INTEGER else if (3 : Int32) = (3 : Int32) then Value.ref w_DECIMAL else if (2 : Int32) = (3 : Int32) then Value.ref w_VARCHAR else if (4 : Int32) = (3 : Int32) then Value.ref w_DATE else if (5 : Int32) = (3 : Int32) then Value.ref w_TIMESTAMP else if (-1 : Int32) = (3 : Int32) then Value.ref w_BOOLEAN else if (0 : Int32) = (3 : Int32) then Value.ref w_NULL else Value.null := by rw [if_neg (by decide), if_neg (by decide), if_pos (by decide)]
      obtain ⟨_, _, ⟨Tk27, Lk27, kk27, nk27⟩, -, Xk27, ⟨Lck27, hQk27, lk27, yk27, zk27⟩, stk27⟩ := Jvm.LawKit.callS X0 hx (y := (⟨"com/example/kilit/kilit/ValueType", "tagged", "(I)Lcom/example/kilit/kilit/ValueType;"⟩ : MethodName)) hown (mvT hZ (hw _ (List.mem_of_getElem? (i := 0) rfl))) (mvT hZ (hw _ (List.mem_of_getElem? (i := 1) rfl))) (mvT hZ (hw _ (List.mem_of_getElem? (i := 2) rfl))) (mvT hZ (hw _ (List.mem_of_getElem? (i := 3) rfl))) (by decide) (backOf (W := 0) (rm_tagged l Z a0 hw [] (3 : Int32) aT kT w_INTEGER w_DECIMAL w_VARCHAR w_DATE w_TIMESTAMP w_BOOLEAN w_NULL (Value.ref w_DECIMAL) h0 n0 Z0 S_TYPES VT F_INTEGER F_DECIMAL F_VARCHAR F_DATE F_TIMESTAMP F_BOOLEAN F_NULL hT) hZ (hw _ (List.mem_of_getElem? (i := 3) rfl)) (hw _ (List.mem_of_getElem? (i := 2) rfl)) (by decide) (by decide)) (g := (mkF m 31 #[.val (.int p1), .val (.int p2), .val (.int (1 : Int32)), .val (.int (3 : Int32))] [(.int (3 : Int32))])) rfl (by rw [hml]; rfl) (argsL := [(.int (3 : Int32))]) (rest := []) (lenOf pd__I_Lcom_example_kilit_kilit_ValueType_ rfl) rfl (by show 2 * 0 + _ ≤ _; exact Nat.le_of_eq rfl) (hb hby at_31) (fun _ _ => ⟨rfl, e0, (by decide : 0 + 0 ≤ _), (by decide : 0 + 0 ≤ _)⟩)
      dsimp only [Pt.U, Pt.locs, Pt.cells, Pt.slots] at Xk27 lk27 yk27 zk27 stk27 hQk27
      subst lk27 yk27 zk27
      obtain ⟨rfl, Nk27q, ek27⟩ := hQk27
      have Nk27 := Fr.app N0 Nk27q
      have hE : (Value.ref w_DECIMAL) = if (3 : Int32) = (0 : Int32) then Value.ref w_NULL else if (3 : Int32) = (1 : Int32) then Value.ref w_INTEGER else if (3 : Int32) = (2 : Int32) then Value.ref w_VARCHAR else if (3 : Int32) = (3 : Int32) then Value.ref w_DECIMAL else if (3 : Int32) = (4 : Int32) then Value.ref w_DATE else if (3 : Int32) = (5 : Int32) then Value.ref w_TIMESTAMP else Value.null := by rw [if_neg (by decide), if_neg (by decide), if_neg (by decide), if_pos (by decide)]
      obtain ⟨_, _, ⟨Tk28, Lk28, kk28, nk28⟩, -, Xk28, ⟨Lck28, hQk28, lk28, yk28, zk28⟩, stk28⟩ := Jvm.LawKit.callS Xk27 hx (y := (⟨"com/example/kilit/kilit/ValueTypeTaggedPinLaw", "expected", "(I)Lcom/example/kilit/kilit/ValueType;"⟩ : MethodName)) hown (mvT hZ (hw _ (List.mem_of_getElem? (i := 14) rfl))) (mvT hZ (hw _ (List.mem_of_getElem? (i := 15) rfl))) (mvT hZ (hw _ (List.mem_of_getElem? (i := 16) rfl))) (mvT hZ (hw _ (List.mem_of_getElem? (i := 17) rfl))) (by decide) (backOf (W := 1) (rm_expected l Z a0 hw [] (3 : Int32) w_NULL w_INTEGER w_VARCHAR w_DECIMAL w_DATE w_TIMESTAMP (Value.ref w_DECIMAL) h0 n0 Z0 S_NULL S_INTEGER S_VARCHAR S_DECIMAL S_DATE S_TIMESTAMP hE) hZ (hw _ (List.mem_of_getElem? (i := 17) rfl)) (hw _ (List.mem_of_getElem? (i := 16) rfl)) (by decide) (by decide)) (g := (mkF m 35 #[.val (.int p1), .val (.int p2), .val (.int (1 : Int32)), .val (.int (3 : Int32))] [(.int (3 : Int32)), (.ref w_DECIMAL)])) rfl (by rw [hml]; rfl) (argsL := [(.int (3 : Int32))]) (rest := [(.ref w_DECIMAL)]) (lenOf pd__I_Lcom_example_kilit_kilit_ValueType_ rfl) rfl (by show 2 * 0 + _ ≤ _; exact Nat.le_of_eq rfl) (hb hby at_35) (fun _ _ => ⟨rfl, ek27, (by decide : 0 + 0 ≤ _), (by decide : 0 + 0 ≤ _)⟩)
      dsimp only [Pt.U, Pt.locs, Pt.cells, Pt.slots] at Xk28 lk28 yk28 zk28 stk28 hQk28
      subst lk28 yk28 zk28
      obtain ⟨rfl, Nk28q, ek28⟩ := hQk28
      have Nk28 := Fr.app Nk27 Nk28q
      obtain ⟨fs, hlv, hrun, hended, hW, hsame⟩ := Xk28.leave (v := some (.int (1 : Int32))) (fun h => by rw [hret] at h; cases h)
      refine ⟨_, _, r20 _ ?_, hrun, hended, _, _, rfl, ?_, ⟨_, rfl⟩, hW, hsame.mono (by decide) (by decide)⟩
      · refine XS.iloadN X0.here hx rfl (hb hby at_30) rfl ?_
        show Sp p e below s₁ (mkF m 31 #[.val (.int p1), .val (.int p2), .val (.int (1 : Int32)), .val (.int (3 : Int32))] [(.int (3 : Int32))]) _
        refine stk27 _ ?_
        show Sp p e below Tk27 (mkF m 34 #[.val (.int p1), .val (.int p2), .val (.int (1 : Int32)), .val (.int (3 : Int32))] [(.ref w_DECIMAL)]) _
        refine XS.iloadN Xk27.here hx rfl (hb hby at_34) rfl ?_
        show Sp p e below Tk27 (mkF m 35 #[.val (.int p1), .val (.int p2), .val (.int (1 : Int32)), .val (.int (3 : Int32))] [(.int (3 : Int32)), (.ref w_DECIMAL)]) _
        refine stk28 _ ?_
        show Sp p e below Tk28 (mkF m 38 #[.val (.int p1), .val (.int p2), .val (.int (1 : Int32)), .val (.int (3 : Int32))] [(.ref w_DECIMAL), (.ref w_DECIMAL)]) _
        refine Jvm.RoadKit.acmp (g := (mkF m 38 #[.val (.int p1), .val (.int p2), .val (.int (1 : Int32)), .val (.int (3 : Int32))] [(.ref w_DECIMAL), (.ref w_DECIMAL)])) Xk28 hx rfl rfl rfl (pc0 := 38) (pc' := 41) (same := true) rfl (hb hby at_38) rfl (decide_eq_true rfl) (by decide) (by decide) ?_
        show Sp p e below Tk28 (mkF m 41 #[.val (.int p1), .val (.int p2), .val (.int (1 : Int32)), .val (.int (3 : Int32))] []) _
        refine XS.iconst Xk28.here hx rfl (hb hby at_41) ?_
        show Sp p e below Tk28 (mkF m 42 #[.val (.int p1), .val (.int p2), .val (.int (1 : Int32)), .val (.int (3 : Int32))] [(.int (1 : Int32))]) _
        refine XS.goto Xk28.here hx rfl (pc0 := 42) (pc' := 46) rfl (hb hby at_42) (by decide) (by decide) ?_
        show Sp p e below Tk28 (mkF m 46 #[.val (.int p1), .val (.int p2), .val (.int (1 : Int32)), .val (.int (3 : Int32))] [(.int (1 : Int32))]) _
        exact retN Xk28 hx (t := .boolean) hret (by simp) (hb hby at_46) hlv
      · show Q_law Z p1 p2 aT kT w_INTEGER w_DECIMAL w_VARCHAR w_DATE w_TIMESTAMP w_BOOLEAN w_NULL h0 n0 _ Tk28.heap _
        rw [ek28]
        exact ⟨rfl, Nk28⟩
    by_cases c4 : zt = (4 : Int32)
    · rw [c4] at r20
      have hT : (Value.ref w_DATE) = if (4 : Int32) < (0 : Int32) then Value.null else if (1 : Int32) = (4 : Int32) then Value.ref w_INTEGER else if (3 : Int32) = (4 : Int32) then Value.ref w_DECIMAL else if (2 : Int32) = (4 : Int32) then Value.ref w_VARCHAR else if (4 : Int32) = (4 : Int32) then Value.ref w_DATE else if (5 : Int32) = (4 : Int32) then Value.ref w_TIMESTAMP else if (-1 : Int32) = (4 : Int32) then Value.ref w_BOOLEAN else if (0 : Int32) = (4 : Int32) then Value.ref w_NULL else Value.null := by rw [if_neg (by decide), if_neg (by decide), if_neg (by decide), if_neg (by decide), if_pos (by decide)]
      obtain ⟨_, _, ⟨Tk29, Lk29, kk29, nk29⟩, -, Xk29, ⟨Lck29, hQk29, lk29, yk29, zk29⟩, stk29⟩ := Jvm.LawKit.callS X0 hx (y := (⟨"com/example/kilit/kilit/ValueType", "tagged", "(I)Lcom/example/kilit/kilit/ValueType;"⟩ : MethodName)) hown (mvT hZ (hw _ (List.mem_of_getElem? (i := 0) rfl))) (mvT hZ (hw _ (List.mem_of_getElem? (i := 1) rfl))) (mvT hZ (hw _ (List.mem_of_getElem? (i := 2) rfl))) (mvT hZ (hw _ (List.mem_of_getElem? (i := 3) rfl))) (by decide) (backOf (W := 0) (rm_tagged l Z a0 hw [] (4 : Int32) aT kT w_INTEGER w_DECIMAL w_VARCHAR w_DATE w_TIMESTAMP w_BOOLEAN w_NULL (Value.ref w_DATE) h0 n0 Z0 S_TYPES VT F_INTEGER F_DECIMAL F_VARCHAR F_DATE F_TIMESTAMP F_BOOLEAN F_NULL hT) hZ (hw _ (List.mem_of_getElem? (i := 3) rfl)) (hw _ (List.mem_of_getElem? (i := 2) rfl)) (by decide) (by decide)) (g := (mkF m 31 #[.val (.int p1), .val (.int p2), .val (.int (1 : Int32)), .val (.int (4 : Int32))] [(.int (4 : Int32))])) rfl (by rw [hml]; rfl) (argsL := [(.int (4 : Int32))]) (rest := []) (lenOf pd__I_Lcom_example_kilit_kilit_ValueType_ rfl) rfl (by show 2 * 0 + _ ≤ _; exact Nat.le_of_eq rfl) (hb hby at_31) (fun _ _ => ⟨rfl, e0, (by decide : 0 + 0 ≤ _), (by decide : 0 + 0 ≤ _)⟩)
      dsimp only [Pt.U, Pt.locs, Pt.cells, Pt.slots] at Xk29 lk29 yk29 zk29 stk29 hQk29
      subst lk29 yk29 zk29
      obtain ⟨rfl, Nk29q, ek29⟩ := hQk29
      have Nk29 := Fr.app N0 Nk29q
      have hE : (Value.ref w_DATE) = if (4 : Int32) = (0 : Int32) then Value.ref w_NULL else if (4 : Int32) = (1 : Int32) then Value.ref w_INTEGER else if (4 : Int32) = (2 : Int32) then Value.ref w_VARCHAR else if (4 : Int32) = (3 : Int32) then Value.ref w_DECIMAL else if (4 : Int32) = (4 : Int32) then Value.ref w_DATE else if (4 : Int32) = (5 : Int32) then Value.ref w_TIMESTAMP else Value.null := by rw [if_neg (by decide), if_neg (by decide), if_neg (by decide), if_neg (by decide), if_pos (by decide)]
      obtain ⟨_, _, ⟨Tk30, Lk30, kk30, nk30⟩, -, Xk30, ⟨Lck30, hQk30, lk30, yk30, zk30⟩, stk30⟩ := Jvm.LawKit.callS Xk29 hx (y := (⟨"com/example/kilit/kilit/ValueTypeTaggedPinLaw", "expected", "(I)Lcom/example/kilit/kilit/ValueType;"⟩ : MethodName)) hown (mvT hZ (hw _ (List.mem_of_getElem? (i := 14) rfl))) (mvT hZ (hw _ (List.mem_of_getElem? (i := 15) rfl))) (mvT hZ (hw _ (List.mem_of_getElem? (i := 16) rfl))) (mvT hZ (hw _ (List.mem_of_getElem? (i := 17) rfl))) (by decide) (backOf (W := 1) (rm_expected l Z a0 hw [] (4 : Int32) w_NULL w_INTEGER w_VARCHAR w_DECIMAL w_DATE w_TIMESTAMP (Value.ref w_DATE) h0 n0 Z0 S_NULL S_INTEGER S_VARCHAR S_DECIMAL S_DATE S_TIMESTAMP hE) hZ (hw _ (List.mem_of_getElem? (i := 17) rfl)) (hw _ (List.mem_of_getElem? (i := 16) rfl)) (by decide) (by decide)) (g := (mkF m 35 #[.val (.int p1), .val (.int p2), .val (.int (1 : Int32)), .val (.int (4 : Int32))] [(.int (4 : Int32)), (.ref w_DATE)])) rfl (by rw [hml]; rfl) (argsL := [(.int (4 : Int32))]) (rest := [(.ref w_DATE)]) (lenOf pd__I_Lcom_example_kilit_kilit_ValueType_ rfl) rfl (by show 2 * 0 + _ ≤ _; exact Nat.le_of_eq rfl) (hb hby at_35) (fun _ _ => ⟨rfl, ek29, (by decide : 0 + 0 ≤ _), (by decide : 0 + 0 ≤ _)⟩)
      dsimp only [Pt.U, Pt.locs, Pt.cells, Pt.slots] at Xk30 lk30 yk30 zk30 stk30 hQk30
      subst lk30 yk30 zk30
      obtain ⟨rfl, Nk30q, ek30⟩ := hQk30
      have Nk30 := Fr.app Nk29 Nk30q
      obtain ⟨fs, hlv, hrun, hended, hW, hsame⟩ := Xk30.leave (v := some (.int (1 : Int32))) (fun h => by rw [hret] at h; cases h)
      refine ⟨_, _, r20 _ ?_, hrun, hended, _, _, rfl, ?_, ⟨_, rfl⟩, hW, hsame.mono (by decide) (by decide)⟩
      · refine XS.iloadN X0.here hx rfl (hb hby at_30) rfl ?_
        show Sp p e below s₁ (mkF m 31 #[.val (.int p1), .val (.int p2), .val (.int (1 : Int32)), .val (.int (4 : Int32))] [(.int (4 : Int32))]) _
        refine stk29 _ ?_
        show Sp p e below Tk29 (mkF m 34 #[.val (.int p1), .val (.int p2), .val (.int (1 : Int32)), .val (.int (4 : Int32))] [(.ref w_DATE)]) _
        refine XS.iloadN Xk29.here hx rfl (hb hby at_34) rfl ?_
        show Sp p e below Tk29 (mkF m 35 #[.val (.int p1), .val (.int p2), .val (.int (1 : Int32)), .val (.int (4 : Int32))] [(.int (4 : Int32)), (.ref w_DATE)]) _
        refine stk30 _ ?_
        show Sp p e below Tk30 (mkF m 38 #[.val (.int p1), .val (.int p2), .val (.int (1 : Int32)), .val (.int (4 : Int32))] [(.ref w_DATE), (.ref w_DATE)]) _
        refine Jvm.RoadKit.acmp (g := (mkF m 38 #[.val (.int p1), .val (.int p2), .val (.int (1 : Int32)), .val (.int (4 : Int32))] [(.ref w_DATE), (.ref w_DATE)])) Xk30 hx rfl rfl rfl (pc0 := 38) (pc' := 41) (same := true) rfl (hb hby at_38) rfl (decide_eq_true rfl) (by decide) (by decide) ?_
        show Sp p e below Tk30 (mkF m 41 #[.val (.int p1), .val (.int p2), .val (.int (1 : Int32)), .val (.int (4 : Int32))] []) _
        refine XS.iconst Xk30.here hx rfl (hb hby at_41) ?_
        show Sp p e below Tk30 (mkF m 42 #[.val (.int p1), .val (.int p2), .val (.int (1 : Int32)), .val (.int (4 : Int32))] [(.int (1 : Int32))]) _
        refine XS.goto Xk30.here hx rfl (pc0 := 42) (pc' := 46) rfl (hb hby at_42) (by decide) (by decide) ?_
        show Sp p e below Tk30 (mkF m 46 #[.val (.int p1), .val (.int p2), .val (.int (1 : Int32)), .val (.int (4 : Int32))] [(.int (1 : Int32))]) _
        exact retN Xk30 hx (t := .boolean) hret (by simp) (hb hby at_46) hlv
      · show Q_law Z p1 p2 aT kT w_INTEGER w_DECIMAL w_VARCHAR w_DATE w_TIMESTAMP w_BOOLEAN w_NULL h0 n0 _ Tk30.heap _
        rw [ek30]
        exact ⟨rfl, Nk30⟩
    by_cases c5 : zt = (5 : Int32)
    · rw [c5] at r20
      have hT : (Value.ref w_TIMESTAMP) = if (5 : Int32) < (0 : Int32) then Value.null else if (1 : Int32) = (5 : Int32) then Value.ref w_INTEGER else if (3 : Int32) = (5 : Int32) then Value.ref w_DECIMAL else if (2 : Int32) = (5 : Int32) then Value.ref w_VARCHAR else if (4 : Int32) = (5 : Int32) then Value.ref w_DATE else if (5 : Int32) = (5 : Int32) then Value.ref w_TIMESTAMP else if (-1 : Int32) = (5 : Int32) then Value.ref w_BOOLEAN else if (0 : Int32) = (5 : Int32) then Value.ref w_NULL else Value.null := by rw [if_neg (by decide), if_neg (by decide), if_neg (by decide), if_neg (by decide), if_neg (by decide), if_pos (by decide)]
      obtain ⟨_, _, ⟨Tk31, Lk31, kk31, nk31⟩, -, Xk31, ⟨Lck31, hQk31, lk31, yk31, zk31⟩, stk31⟩ := Jvm.LawKit.callS X0 hx (y := (⟨"com/example/kilit/kilit/ValueType", "tagged", "(I)Lcom/example/kilit/kilit/ValueType;"⟩ : MethodName)) hown (mvT hZ (hw _ (List.mem_of_getElem? (i := 0) rfl))) (mvT hZ (hw _ (List.mem_of_getElem? (i := 1) rfl))) (mvT hZ (hw _ (List.mem_of_getElem? (i := 2) rfl))) (mvT hZ (hw _ (List.mem_of_getElem? (i := 3) rfl))) (by decide) (backOf (W := 0) (rm_tagged l Z a0 hw [] (5 : Int32) aT kT w_INTEGER w_DECIMAL w_VARCHAR w_DATE w_TIMESTAMP w_BOOLEAN w_NULL (Value.ref w_TIMESTAMP) h0 n0 Z0 S_TYPES VT F_INTEGER F_DECIMAL F_VARCHAR F_DATE F_TIMESTAMP F_BOOLEAN F_NULL hT) hZ (hw _ (List.mem_of_getElem? (i := 3) rfl)) (hw _ (List.mem_of_getElem? (i := 2) rfl)) (by decide) (by decide)) (g := (mkF m 31 #[.val (.int p1), .val (.int p2), .val (.int (1 : Int32)), .val (.int (5 : Int32))] [(.int (5 : Int32))])) rfl (by rw [hml]; rfl) (argsL := [(.int (5 : Int32))]) (rest := []) (lenOf pd__I_Lcom_example_kilit_kilit_ValueType_ rfl) rfl (by show 2 * 0 + _ ≤ _; exact Nat.le_of_eq rfl) (hb hby at_31) (fun _ _ => ⟨rfl, e0, (by decide : 0 + 0 ≤ _), (by decide : 0 + 0 ≤ _)⟩)
      dsimp only [Pt.U, Pt.locs, Pt.cells, Pt.slots] at Xk31 lk31 yk31 zk31 stk31 hQk31
      subst lk31 yk31 zk31
      obtain ⟨rfl, Nk31q, ek31⟩ := hQk31
      have Nk31 := Fr.app N0 Nk31q
      have hE : (Value.ref w_TIMESTAMP) = if (5 : Int32) = (0 : Int32) then Value.ref w_NULL else if (5 : Int32) = (1 : Int32) then Value.ref w_INTEGER else if (5 : Int32) = (2 : Int32) then Value.ref w_VARCHAR else if (5 : Int32) = (3 : Int32) then Value.ref w_DECIMAL else if (5 : Int32) = (4 : Int32) then Value.ref w_DATE else if (5 : Int32) = (5 : Int32) then Value.ref w_TIMESTAMP else Value.null := by rw [if_neg (by decide), if_neg (by decide), if_neg (by decide), if_neg (by decide), if_neg (by decide), if_pos (by decide)]
      obtain ⟨_, _, ⟨Tk32, Lk32, kk32, nk32⟩, -, Xk32, ⟨Lck32, hQk32, lk32, yk32, zk32⟩, stk32⟩ := Jvm.LawKit.callS Xk31 hx (y := (⟨"com/example/kilit/kilit/ValueTypeTaggedPinLaw", "expected", "(I)Lcom/example/kilit/kilit/ValueType;"⟩ : MethodName)) hown (mvT hZ (hw _ (List.mem_of_getElem? (i := 14) rfl))) (mvT hZ (hw _ (List.mem_of_getElem? (i := 15) rfl))) (mvT hZ (hw _ (List.mem_of_getElem? (i := 16) rfl))) (mvT hZ (hw _ (List.mem_of_getElem? (i := 17) rfl))) (by decide) (backOf (W := 1) (rm_expected l Z a0 hw [] (5 : Int32) w_NULL w_INTEGER w_VARCHAR w_DECIMAL w_DATE w_TIMESTAMP (Value.ref w_TIMESTAMP) h0 n0 Z0 S_NULL S_INTEGER S_VARCHAR S_DECIMAL S_DATE S_TIMESTAMP hE) hZ (hw _ (List.mem_of_getElem? (i := 17) rfl)) (hw _ (List.mem_of_getElem? (i := 16) rfl)) (by decide) (by decide)) (g := (mkF m 35 #[.val (.int p1), .val (.int p2), .val (.int (1 : Int32)), .val (.int (5 : Int32))] [(.int (5 : Int32)), (.ref w_TIMESTAMP)])) rfl (by rw [hml]; rfl) (argsL := [(.int (5 : Int32))]) (rest := [(.ref w_TIMESTAMP)]) (lenOf pd__I_Lcom_example_kilit_kilit_ValueType_ rfl) rfl (by show 2 * 0 + _ ≤ _; exact Nat.le_of_eq rfl) (hb hby at_35) (fun _ _ => ⟨rfl, ek31, (by decide : 0 + 0 ≤ _), (by decide : 0 + 0 ≤ _)⟩)
      dsimp only [Pt.U, Pt.locs, Pt.cells, Pt.slots] at Xk32 lk32 yk32 zk32 stk32 hQk32
      subst lk32 yk32 zk32
      obtain ⟨rfl, Nk32q, ek32⟩ := hQk32
      have Nk32 := Fr.app Nk31 Nk32q
      obtain ⟨fs, hlv, hrun, hended, hW, hsame⟩ := Xk32.leave (v := some (.int (1 : Int32))) (fun h => by rw [hret] at h; cases h)
      refine ⟨_, _, r20 _ ?_, hrun, hended, _, _, rfl, ?_, ⟨_, rfl⟩, hW, hsame.mono (by decide) (by decide)⟩
      · refine XS.iloadN X0.here hx rfl (hb hby at_30) rfl ?_
        show Sp p e below s₁ (mkF m 31 #[.val (.int p1), .val (.int p2), .val (.int (1 : Int32)), .val (.int (5 : Int32))] [(.int (5 : Int32))]) _
        refine stk31 _ ?_
        show Sp p e below Tk31 (mkF m 34 #[.val (.int p1), .val (.int p2), .val (.int (1 : Int32)), .val (.int (5 : Int32))] [(.ref w_TIMESTAMP)]) _
        refine XS.iloadN Xk31.here hx rfl (hb hby at_34) rfl ?_
        show Sp p e below Tk31 (mkF m 35 #[.val (.int p1), .val (.int p2), .val (.int (1 : Int32)), .val (.int (5 : Int32))] [(.int (5 : Int32)), (.ref w_TIMESTAMP)]) _
        refine stk32 _ ?_
        show Sp p e below Tk32 (mkF m 38 #[.val (.int p1), .val (.int p2), .val (.int (1 : Int32)), .val (.int (5 : Int32))] [(.ref w_TIMESTAMP), (.ref w_TIMESTAMP)]) _
        refine Jvm.RoadKit.acmp (g := (mkF m 38 #[.val (.int p1), .val (.int p2), .val (.int (1 : Int32)), .val (.int (5 : Int32))] [(.ref w_TIMESTAMP), (.ref w_TIMESTAMP)])) Xk32 hx rfl rfl rfl (pc0 := 38) (pc' := 41) (same := true) rfl (hb hby at_38) rfl (decide_eq_true rfl) (by decide) (by decide) ?_
        show Sp p e below Tk32 (mkF m 41 #[.val (.int p1), .val (.int p2), .val (.int (1 : Int32)), .val (.int (5 : Int32))] []) _
        refine XS.iconst Xk32.here hx rfl (hb hby at_41) ?_
        show Sp p e below Tk32 (mkF m 42 #[.val (.int p1), .val (.int p2), .val (.int (1 : Int32)), .val (.int (5 : Int32))] [(.int (1 : Int32))]) _
        refine XS.goto Xk32.here hx rfl (pc0 := 42) (pc' := 46) rfl (hb hby at_42) (by decide) (by decide) ?_
        show Sp p e below Tk32 (mkF m 46 #[.val (.int p1), .val (.int p2), .val (.int (1 : Int32)), .val (.int (5 : Int32))] [(.int (1 : Int32))]) _
        exact retN Xk32 hx (t := .boolean) hret (by simp) (hb hby at_46) hlv
      · show Q_law Z p1 p2 aT kT w_INTEGER w_DECIMAL w_VARCHAR w_DATE w_TIMESTAMP w_BOOLEAN w_NULL h0 n0 _ Tk32.heap _
        rw [ek32]
        exact ⟨rfl, Nk32⟩
    have hT : Value.null = if zt < (0 : Int32) then Value.null else if (1 : Int32) = zt then Value.ref w_INTEGER else if (3 : Int32) = zt then Value.ref w_DECIMAL else if (2 : Int32) = zt then Value.ref w_VARCHAR else if (4 : Int32) = zt then Value.ref w_DATE else if (5 : Int32) = zt then Value.ref w_TIMESTAMP else if (-1 : Int32) = zt then Value.ref w_BOOLEAN else if (0 : Int32) = zt then Value.ref w_NULL else Value.null := by
      by_cases hneg : zt < (0 : Int32)
      · rw [if_pos hneg]
      · have hm1 : ¬ ((-1 : Int32) = zt) := fun q => hneg (by rw [← q]; decide)
        rw [if_neg hneg, if_neg (Ne.symm c1), if_neg (Ne.symm c3), if_neg (Ne.symm c2), if_neg (Ne.symm c4), if_neg (Ne.symm c5), if_neg hm1, if_neg (Ne.symm c0)]
    obtain ⟨_, _, ⟨Tk33, Lk33, kk33, nk33⟩, -, Xk33, ⟨Lck33, hQk33, lk33, yk33, zk33⟩, stk33⟩ := Jvm.LawKit.callS X0 hx (y := (⟨"com/example/kilit/kilit/ValueType", "tagged", "(I)Lcom/example/kilit/kilit/ValueType;"⟩ : MethodName)) hown (mvT hZ (hw _ (List.mem_of_getElem? (i := 0) rfl))) (mvT hZ (hw _ (List.mem_of_getElem? (i := 1) rfl))) (mvT hZ (hw _ (List.mem_of_getElem? (i := 2) rfl))) (mvT hZ (hw _ (List.mem_of_getElem? (i := 3) rfl))) (by decide) (backOf (W := 0) (rm_tagged l Z a0 hw [] zt aT kT w_INTEGER w_DECIMAL w_VARCHAR w_DATE w_TIMESTAMP w_BOOLEAN w_NULL Value.null h0 n0 Z0 S_TYPES VT F_INTEGER F_DECIMAL F_VARCHAR F_DATE F_TIMESTAMP F_BOOLEAN F_NULL hT) hZ (hw _ (List.mem_of_getElem? (i := 3) rfl)) (hw _ (List.mem_of_getElem? (i := 2) rfl)) (by decide) (by decide)) (g := (mkF m 31 #[.val (.int p1), .val (.int p2), .val (.int (1 : Int32)), .val (.int zt)] [(.int zt)])) rfl (by rw [hml]; rfl) (argsL := [(.int zt)]) (rest := []) (lenOf pd__I_Lcom_example_kilit_kilit_ValueType_ rfl) rfl (by show 2 * 0 + _ ≤ _; exact Nat.le_of_eq rfl) (hb hby at_31) (fun _ _ => ⟨rfl, e0, (by decide : 0 + 0 ≤ _), (by decide : 0 + 0 ≤ _)⟩)
    dsimp only [Pt.U, Pt.locs, Pt.cells, Pt.slots] at Xk33 lk33 yk33 zk33 stk33 hQk33
    subst lk33 yk33 zk33
    obtain ⟨rfl, Nk33q, ek33⟩ := hQk33
    have Nk33 := Fr.app N0 Nk33q
    have hE : Value.null = if zt = (0 : Int32) then Value.ref w_NULL else if zt = (1 : Int32) then Value.ref w_INTEGER else if zt = (2 : Int32) then Value.ref w_VARCHAR else if zt = (3 : Int32) then Value.ref w_DECIMAL else if zt = (4 : Int32) then Value.ref w_DATE else if zt = (5 : Int32) then Value.ref w_TIMESTAMP else Value.null := by rw [if_neg c0, if_neg c1, if_neg c2, if_neg c3, if_neg c4, if_neg c5]
    obtain ⟨_, _, ⟨Tk34, Lk34, kk34, nk34⟩, -, Xk34, ⟨Lck34, hQk34, lk34, yk34, zk34⟩, stk34⟩ := Jvm.LawKit.callS Xk33 hx (y := (⟨"com/example/kilit/kilit/ValueTypeTaggedPinLaw", "expected", "(I)Lcom/example/kilit/kilit/ValueType;"⟩ : MethodName)) hown (mvT hZ (hw _ (List.mem_of_getElem? (i := 14) rfl))) (mvT hZ (hw _ (List.mem_of_getElem? (i := 15) rfl))) (mvT hZ (hw _ (List.mem_of_getElem? (i := 16) rfl))) (mvT hZ (hw _ (List.mem_of_getElem? (i := 17) rfl))) (by decide) (backOf (W := 1) (rm_expected l Z a0 hw [] zt w_NULL w_INTEGER w_VARCHAR w_DECIMAL w_DATE w_TIMESTAMP Value.null h0 n0 Z0 S_NULL S_INTEGER S_VARCHAR S_DECIMAL S_DATE S_TIMESTAMP hE) hZ (hw _ (List.mem_of_getElem? (i := 17) rfl)) (hw _ (List.mem_of_getElem? (i := 16) rfl)) (by decide) (by decide)) (g := (mkF m 35 #[.val (.int p1), .val (.int p2), .val (.int (1 : Int32)), .val (.int zt)] [(.int zt), .null])) rfl (by rw [hml]; rfl) (argsL := [(.int zt)]) (rest := [.null]) (lenOf pd__I_Lcom_example_kilit_kilit_ValueType_ rfl) rfl (by show 2 * 0 + _ ≤ _; exact Nat.le_of_eq rfl) (hb hby at_35) (fun _ _ => ⟨rfl, ek33, (by decide : 0 + 0 ≤ _), (by decide : 0 + 0 ≤ _)⟩)
    dsimp only [Pt.U, Pt.locs, Pt.cells, Pt.slots] at Xk34 lk34 yk34 zk34 stk34 hQk34
    subst lk34 yk34 zk34
    obtain ⟨rfl, Nk34q, ek34⟩ := hQk34
    have Nk34 := Fr.app Nk33 Nk34q
    obtain ⟨fs, hlv, hrun, hended, hW, hsame⟩ := Xk34.leave (v := some (.int (1 : Int32))) (fun h => by rw [hret] at h; cases h)
    refine ⟨_, _, r20 _ ?_, hrun, hended, _, _, rfl, ?_, ⟨_, rfl⟩, hW, hsame.mono (by decide) (by decide)⟩
    · refine XS.iloadN X0.here hx rfl (hb hby at_30) rfl ?_
      show Sp p e below s₁ (mkF m 31 #[.val (.int p1), .val (.int p2), .val (.int (1 : Int32)), .val (.int zt)] [(.int zt)]) _
      refine stk33 _ ?_
      show Sp p e below Tk33 (mkF m 34 #[.val (.int p1), .val (.int p2), .val (.int (1 : Int32)), .val (.int zt)] [.null]) _
      refine XS.iloadN Xk33.here hx rfl (hb hby at_34) rfl ?_
      show Sp p e below Tk33 (mkF m 35 #[.val (.int p1), .val (.int p2), .val (.int (1 : Int32)), .val (.int zt)] [(.int zt), .null]) _
      refine stk34 _ ?_
      show Sp p e below Tk34 (mkF m 38 #[.val (.int p1), .val (.int p2), .val (.int (1 : Int32)), .val (.int zt)] [.null, .null]) _
      refine Jvm.RoadKit.acmp (g := (mkF m 38 #[.val (.int p1), .val (.int p2), .val (.int (1 : Int32)), .val (.int zt)] [.null, .null])) Xk34 hx rfl rfl rfl (pc0 := 38) (pc' := 41) (same := true) rfl (hb hby at_38) rfl (decide_eq_true rfl) (by decide) (by decide) ?_
      show Sp p e below Tk34 (mkF m 41 #[.val (.int p1), .val (.int p2), .val (.int (1 : Int32)), .val (.int zt)] []) _
      refine XS.iconst Xk34.here hx rfl (hb hby at_41) ?_
      show Sp p e below Tk34 (mkF m 42 #[.val (.int p1), .val (.int p2), .val (.int (1 : Int32)), .val (.int zt)] [(.int (1 : Int32))]) _
      refine XS.goto Xk34.here hx rfl (pc0 := 42) (pc' := 46) rfl (hb hby at_42) (by decide) (by decide) ?_
      show Sp p e below Tk34 (mkF m 46 #[.val (.int p1), .val (.int p2), .val (.int (1 : Int32)), .val (.int zt)] [(.int (1 : Int32))]) _
      exact retN Xk34 hx (t := .boolean) hret (by simp) (hb hby at_46) hlv
    · show Q_law Z p1 p2 aT kT w_INTEGER w_DECIMAL w_VARCHAR w_DATE w_TIMESTAMP w_BOOLEAN w_NULL h0 n0 _ Tk34.heap _
      rw [ek34]
      exact ⟨rfl, Nk34⟩
set_option maxRecDepth 65536 in
set_option maxHeartbeats 40000000 in
theorem comes_1 {Post : Tables → Env → Array Value → State → Outcome → State → Prop} (hpost : ∀ tb e args s v u, (limb_1_1.after args s (.returned v) u = true ∧ limb_1_2.after args s (.returned v) u = true ∧ True) → FrameEnd s (.returned v) u (Jvm.fieldLocs frame_1_writes args s ++ Jvm.arrayLocs frame_1_arrays args s ++ Jvm.staticLocs frame_1_statics s) 0 0 → Post tb e args s (.returned v) u) :
    ArmFor flags0 classFile x code maxLocals ret World_1 tables_1 room_1 Calls_1 rest_1 Pre_1 Post := by
  intro l hfl _ _ p e ha hc hk s m args below hf hA hF happ hP
  obtain ⟨hcalls, hrest, hpre⟩ := hP
  obtain ⟨-, -, -, hnamed, -, -, -, hat⟩ := (Spec.applies_iff hf).mp happ
  obtain ⟨hg, hn⟩ := and_e (Cond.before_iff.mp (show (Jvm.Cond.and given_1 narrow_1).before args s = true from hpre))
  obtain ⟨hcount, hg0⟩ := and_e hg
  obtain ⟨w0, w1, rfl⟩ : ∃ w0 w1 : Value, args = #[w0, w1] := by
    have hs : args.size = 2 := by simpa [Cond.value, given_1] using hcount
    obtain ⟨L⟩ := args
    match L, hs with
    | [w0, w1], _ => exact ⟨w0, w1, rfl⟩
  obtain ⟨ha0, hg1⟩ := and_e hg0
  obtain ⟨i0, ei0⟩ := is_v ha0
  obtain rfl : w0 = (.int i0) := Option.some.inj ei0
  obtain ⟨i1, ei1⟩ := is_v hg1
  obtain rfl : w1 = (.int i1) := Option.some.inj ei1
  have hw := fun d (hd : d ∈ tables_1) => atoms_spec (ws := Jvm.Cond.code x code maxLocals ret :: tables_1) hat d (List.mem_cons_of_mem _ hd)
  have hfit : Fit s := fun {y c} hc i hi => by
    obtain ⟨ha, rfl⟩ := Array.getElem?_eq_some_iff.mp hc
    have q := List.all_eq_true.mp ((Array.all_eq_true_iff_forall_mem.mp hF) _ (Array.getElem_mem ha)) i (List.mem_range.mpr hi)
    simpa [Array.getElem?_eq_getElem hi] using q
  obtain ⟨nw0, hn0⟩ := and_e hn
  obtain ⟨nw1, hn1⟩ := and_e hn0
  obtain ⟨nw2, hn2⟩ := and_e hn1
  obtain ⟨nw3, hn3⟩ := and_e hn2
  obtain ⟨nw4, hn4⟩ := and_e hn3
  obtain ⟨nw5, hn5⟩ := and_e hn4
  obtain ⟨nw6, hn6⟩ := and_e hn5
  obtain ⟨nw7, hn7⟩ := and_e hn6
  obtain ⟨nw8, hn8⟩ := and_e hn7
  obtain ⟨nw9, hn9⟩ := and_e hn8
  obtain ⟨nw10, hn10⟩ := and_e hn9
  obtain ⟨nw11, hn11⟩ := and_e hn10
  obtain ⟨nw12, hn12⟩ := and_e hn11
  obtain ⟨nw13, hn13⟩ := and_e hn12
  obtain ⟨nw14, hn14⟩ := and_e hn13
  obtain ⟨nw15, hn15⟩ := and_e hn14
  obtain ⟨nw16, hn16⟩ := and_e hn15
  obtain ⟨nw17, hn17⟩ := and_e hn16
  obtain ⟨nw18, hn18⟩ := and_e hn17
  obtain ⟨nw19, hn19⟩ := and_e hn18
  obtain ⟨nw20, hn20⟩ := and_e hn19
  have nw21 := hn20
  obtain ⟨aT, evT⟩ := arr_v nw0
  have S_TYPES := Sta.start evT (Or.inr ⟨(hw _ (List.mem_of_getElem? (i := 2) rfl)), (hw _ (List.mem_of_getElem? (i := 5) rfl))⟩)
  obtain ⟨clT, ArT⟩ := Arr.start evT nw0
  obtain ⟨szT, lnT⟩ := own_len evT ArT nw1
  obtain ⟨w_INTEGER, ev_INTEGER⟩ := exa_v nw2
  have el_INTEGER := (elem_in ev_INTEGER evT (Term.int_eval _) ArT.1).2
  have F_INTEGER := own_fld ev_INTEGER nw3
  obtain ⟨w_DECIMAL, ev_DECIMAL⟩ := exa_v nw4
  have el_DECIMAL := (elem_in ev_DECIMAL evT (Term.int_eval _) ArT.1).2
  have F_DECIMAL := own_fld ev_DECIMAL nw5
  obtain ⟨w_VARCHAR, ev_VARCHAR⟩ := exa_v nw6
  have el_VARCHAR := (elem_in ev_VARCHAR evT (Term.int_eval _) ArT.1).2
  have F_VARCHAR := own_fld ev_VARCHAR nw7
  obtain ⟨w_DATE, ev_DATE⟩ := exa_v nw8
  have el_DATE := (elem_in ev_DATE evT (Term.int_eval _) ArT.1).2
  have F_DATE := own_fld ev_DATE nw9
  obtain ⟨w_TIMESTAMP, ev_TIMESTAMP⟩ := exa_v nw10
  have el_TIMESTAMP := (elem_in ev_TIMESTAMP evT (Term.int_eval _) ArT.1).2
  have F_TIMESTAMP := own_fld ev_TIMESTAMP nw11
  obtain ⟨w_BOOLEAN, ev_BOOLEAN⟩ := exa_v nw12
  have el_BOOLEAN := (elem_in ev_BOOLEAN evT (Term.int_eval _) ArT.1).2
  have F_BOOLEAN := own_fld ev_BOOLEAN nw13
  obtain ⟨w_NULL, ev_NULL⟩ := exa_v nw14
  have el_NULL := (elem_in ev_NULL evT (Term.int_eval _) ArT.1).2
  have F_NULL := own_fld ev_NULL nw15
  have S_NULL := Sta.start (own_eqref ev_NULL nw16) (Or.inr ⟨(hw _ (List.mem_of_getElem? (i := 2) rfl)), (hw _ (List.mem_of_getElem? (i := 19) rfl))⟩)
  have S_DECIMAL := Sta.start (own_eqref ev_DECIMAL nw17) (Or.inr ⟨(hw _ (List.mem_of_getElem? (i := 2) rfl)), (hw _ (List.mem_of_getElem? (i := 22) rfl))⟩)
  have S_VARCHAR := Sta.start (own_eqref ev_VARCHAR nw18) (Or.inr ⟨(hw _ (List.mem_of_getElem? (i := 2) rfl)), (hw _ (List.mem_of_getElem? (i := 24) rfl))⟩)
  have S_DATE := Sta.start (own_eqref ev_DATE nw19) (Or.inr ⟨(hw _ (List.mem_of_getElem? (i := 2) rfl)), (hw _ (List.mem_of_getElem? (i := 26) rfl))⟩)
  have S_INTEGER := Sta.start (own_eqref ev_INTEGER nw20) (Or.inr ⟨(hw _ (List.mem_of_getElem? (i := 2) rfl)), (hw _ (List.mem_of_getElem? (i := 28) rfl))⟩)
  have S_TIMESTAMP := Sta.start (own_eqref ev_TIMESTAMP nw21) (Or.inr ⟨(hw _ (List.mem_of_getElem? (i := 2) rfl)), (hw _ (List.mem_of_getElem? (i := 30) rfl))⟩)
  have VT : Arv s s.heap aT clT.cls (.object "com/example/kilit/kilit/ValueType") (7 : Int32) [(.ref w_INTEGER), (.ref w_DECIMAL), (.ref w_VARCHAR), (.ref w_DATE), (.ref w_TIMESTAMP), (.ref w_BOOLEAN), (.ref w_NULL)] .null := Arv.start hfit ArT szT lnT (by decide) rfl ⟨el_INTEGER, el_DECIMAL, el_VARCHAR, el_DATE, el_TIMESTAMP, el_BOOLEAN, el_NULL, trivial⟩
  obtain ⟨n, o, h1, h2, h3, _, L, rfl, ⟨rfl, N⟩, hq⟩ := rm_law l s _ hw tables_1 i0 i1 aT clT.cls w_INTEGER w_DECIMAL w_VARCHAR w_DATE w_TIMESTAMP w_BOOLEAN w_NULL s.heap s.heap.size (Nat.le_refl _) S_TYPES VT F_INTEGER F_DECIMAL F_VARCHAR F_DATE F_TIMESTAMP F_BOOLEAN F_NULL S_NULL S_INTEGER S_VARCHAR S_DECIMAL S_DATE S_TIMESTAMP p e ha hc hk s m _ below hf ((Spec.applies_iff_loose hf).mp happ).1 ⟨rfl, State.Warmed39.refl s, rfl⟩ trivial
  refine ⟨n, _, h1, h2, h3, hpost _ _ _ _ _ _ ⟨Cond.after_iff.mpr rfl, Cond.after_iff.mpr (eq_i res_at (Term.int_eval (1)) rfl), trivial⟩ ⟨hq.1, hq.2.1, (hq.2.2.sift fun y hy => Or.inr (N y hy)).mono (by decide) (by decide)⟩⟩
theorem main_1_1 : Claimed_1_1 := comes_1 fun _ _ _ _ _ _ h hF => ⟨h.1, hF⟩
theorem main_1_2 : Claimed_1_2 := comes_1 fun _ _ _ _ _ _ h hF => ⟨h.2.1, hF⟩
end Jvm.Pilot.@@N@@
namespace Jvm.Pilot.@@N@@
open Jvm Jvm.ClassFile Sem Op Lib Jvm.Free Jvm.Stand Jvm.Pilot.@@N@@.Jvm.D
/-! MADE BY PROGRAM (witnessworld.py) out of the Statement's table words and the real class files: 20 classes; the members and pool entries that the words name. The judged class is class 1, her method 2. -/
namespace start1
open Jvm.ClassFile
def u (s : String) : CpInfo := .utf8 (stringToUtf16 s)
/-- a pool by its gaps: so many unusable entries, then the entry; so many at the end -/
def gap : Nat → List CpInfo → List CpInfo
  | 0, r => r
  | n + 1, r => .unusable :: gap n r
def poolList (es : List (Nat × CpInfo)) (last : Nat) : List CpInfo := es.foldr (fun e r => gap e.1 (e.2 :: r)) (gap last [])
def pool (es : List (Nat × CpInfo)) (last : Nat) : Array CpInfo := ⟨poolList es last⟩
def fileOf (pool : Array CpInfo) (this : Nat) (attrs : Array Attribute := #[]) (ms : Array MethodInfo := #[]) (fl : Nat := 33) (sup : Nat := 0) (ifs : Array Nat := #[]) (fds : Array FieldInfo := #[]) : ClassFile where
  minorVersion := 0
  majorVersion := 65
  constantPool := pool
  accessFlags := fl
  thisClass := this
  superClass := sup
  interfaces := ifs
  fields := fds
  methods := ms
  attributes := attrs
def plain (name : String) (sup : Option ClassId) : Class where
  name := name
  kind := .ordinary
  loader := none
  accessFlags := 33
  super := sup
  interfaces := #[]
  cf := none
  fields := #[]
  methods := #[]
  instanceTypes := #[]
  staticTypes := #[]
  resolved := #[]
  callSites := []
  init := .initialized
  statics := none
  mirror := none

def pool0 : Array CpInfo := pool [(5, u "<init>"), (0, u "()V"), (1, .class_ 10), (1, u "java/lang/Object")] 113

def k0m0 : Method := { name := "<init>", desc := "()V", sig := { parameters := [], returnType := none }, accessFlags := 1, code := none }
/-- java/lang/Object -/
def k0 : Class := { plain "java/lang/Object" none with
  accessFlags := 33
  interfaces := #[]
  cf := some (fileOf pool0 8 #[] #[{ accessFlags := 1, nameIndex := 5, descriptorIndex := 6, attributes := #[] }] 33 0 #[] #[])
  fields := #[]
  methods := #[k0m0]
  instanceTypes := #[]
  staticTypes := #[]
  resolved := Array.replicate 124 none
  statics := none }

def pool1 : Array CpInfo := pool [(2, .class_ 4), (1, u "java/lang/Object"), (0, u "<init>"), (0, u "()V"), (0, .fieldref 8 9), (0, .class_ 10), (0, .nameAndType 11 12), (0, u "com/example/kilit/kilit/ValueType"), (0, u "NULL"), (0, u "Lcom/example/kilit/kilit/ValueType;"), (0, .fieldref 8 14), (0, .nameAndType 15 12), (0, u "INTEGER"), (0, .fieldref 8 17), (0, .nameAndType 18 12), (0, u "VARCHAR"), (0, .fieldref 8 20), (0, .nameAndType 21 12), (0, u "DECIMAL"), (0, .fieldref 8 23), (0, .nameAndType 24 12), (0, u "DATE"), (0, .fieldref 8 26), (0, .nameAndType 27 12), (0, u "TIMESTAMP"), (0, .integer 2147483647), (0, .methodref 8 30), (0, .nameAndType 31 32), (0, u "tagged"), (0, u "(I)Lcom/example/kilit/kilit/ValueType;"), (0, .methodref 34 35), (0, .class_ 36), (0, .nameAndType 37 32), (0, u "com/example/kilit/kilit/ValueTypeTaggedPinLaw"), (0, u "expected"), (3, u "law"), (0, u "(II)Z")] 2

def k1m0 : Method := { name := "<init>", desc := "()V", sig := { parameters := [], returnType := none }, accessFlags := 2, code := none }
def k1c1 : Code := { maxStack := 2, maxLocals := 1, code := method_2_code, exceptionTable := #[], attributes := #[] }
def k1m1 : Method := { name := "expected", desc := "(I)Lcom/example/kilit/kilit/ValueType;", sig := { parameters := [.int], returnType := some (.object "com/example/kilit/kilit/ValueType") }, accessFlags := 10, code := some k1c1 }
def k1c2 : Code := { maxStack := 2, maxLocals := 4, code := code, exceptionTable := #[], attributes := #[] }
def k1m2 : Method := { name := "law", desc := "(II)Z", sig := { parameters := [.int, .int], returnType := some .boolean }, accessFlags := 9, code := some k1c2 }
/-- com/example/kilit/kilit/ValueTypeTaggedPinLaw -/
def k1 : Class := { plain "com/example/kilit/kilit/ValueTypeTaggedPinLaw" (some 0) with
  accessFlags := 49
  interfaces := #[]
  cf := some (fileOf pool1 34 #[] #[{ accessFlags := 2, nameIndex := 5, descriptorIndex := 6, attributes := #[] }, { accessFlags := 10, nameIndex := 37, descriptorIndex := 32, attributes := #[] }, { accessFlags := 9, nameIndex := 41, descriptorIndex := 42, attributes := #[] }] 49 2 #[] #[])
  fields := #[]
  methods := #[k1m0, k1m1, k1m2]
  instanceTypes := #[]
  staticTypes := #[]
  resolved := Array.replicate 45 none
  statics := none }

def pool2 : Array CpInfo := pool [(1, .class_ 2), (0, u "java/lang/constant/Constable"), (0, .class_ 4), (0, u "java/lang/Object")] 6

/-- java/lang/constant/Constable -/
def k2 : Class := { plain "java/lang/constant/Constable" (some 0) with
  accessFlags := 1537
  interfaces := #[]
  cf := some (fileOf pool2 1 #[] #[] 1537 3 #[] #[])
  fields := #[]
  methods := #[]
  instanceTypes := #[]
  staticTypes := #[]
  resolved := Array.replicate 11 none
  statics := none }

def pool3 : Array CpInfo := pool [(1, .class_ 2), (0, u "java/lang/Comparable"), (0, .class_ 4), (0, u "java/lang/Object")] 7

/-- java/lang/Comparable -/
def k3 : Class := { plain "java/lang/Comparable" (some 0) with
  accessFlags := 1537
  interfaces := #[]
  cf := some (fileOf pool3 1 #[] #[] 1537 3 #[] #[])
  fields := #[]
  methods := #[]
  instanceTypes := #[]
  staticTypes := #[]
  resolved := Array.replicate 12 none
  statics := none }

def pool4 : Array CpInfo := pool [(1, .class_ 2), (0, u "java/io/Serializable"), (0, .class_ 4), (0, u "java/lang/Object")] 2

/-- java/io/Serializable -/
def k4 : Class := { plain "java/io/Serializable" (some 0) with
  accessFlags := 1537
  interfaces := #[]
  cf := some (fileOf pool4 1 #[] #[] 1537 3 #[] #[])
  fields := #[]
  methods := #[]
  instanceTypes := #[]
  staticTypes := #[]
  resolved := Array.replicate 7 none
  statics := none }

def pool5 : Array CpInfo := pool [(2, .class_ 4), (1, u "java/lang/Enum"), (0, u "name"), (0, u "Ljava/lang/String;"), (2, u "ordinal"), (0, u "I"), (1, .class_ 14), (1, u "java/lang/Object"), (4, u "hash"), (86, .class_ 108), (1, u "java/lang/Enum$EnumDesc"), (2, .class_ 112), (0, u "java/lang/constant/Constable"), (0, .class_ 114), (0, u "java/lang/Comparable"), (0, .class_ 116), (0, u "java/io/Serializable")] 87

/-- java/lang/Enum -/
def k5 : Class := { plain "java/lang/Enum" (some 0) with
  accessFlags := 1057
  interfaces := #[2, 3, 4]
  cf := some (fileOf pool5 2 #[.nestMembers #[106]] #[] 1057 12 #[111, 113, 115] #[{ accessFlags := 18, nameIndex := 5, descriptorIndex := 6, attributes := #[] }, { accessFlags := 18, nameIndex := 9, descriptorIndex := 10, attributes := #[] }, { accessFlags := 2, nameIndex := 19, descriptorIndex := 10, attributes := #[] }])
  fields := #[{ name := "name", type := (.object "java/lang/String"), accessFlags := 18, slot := 0, constantValue := 0 }, { name := "ordinal", type := .int, accessFlags := 18, slot := 1, constantValue := 0 }, { name := "hash", type := .int, accessFlags := 2, slot := 2, constantValue := 0 }]
  methods := #[]
  instanceTypes := #[(.object "java/lang/String"), .int, .int]
  staticTypes := #[]
  resolved := Array.replicate 204 none
  statics := none }

def pool6 : Array CpInfo := pool [(5, .class_ 6), (0, u "com/example/kilit/kilit/ValueType"), (2, u "INTEGER"), (0, u "Lcom/example/kilit/kilit/ValueType;"), (2, u "DECIMAL"), (2, u "VARCHAR"), (2, u "DATE"), (2, u "TIMESTAMP"), (2, u "BOOLEAN"), (2, u "NULL"), (2, u "$VALUES"), (0, u "[Lcom/example/kilit/kilit/ValueType;"), (6, .class_ 41), (1, u "java/lang/Enum"), (8, u "javaClass"), (0, u "Ljava/lang/Class;"), (0, .fieldref 5 53), (0, .nameAndType 54 55), (0, u "tag"), (0, u "I"), (2, u "jdbcType"), (2, u "precision"), (8, u "names"), (0, u "Ljava/util/List;"), (6, .fieldref 5 79), (0, .nameAndType 80 32), (0, u "TYPES"), (224, .class_ 306), (0, u "com/example/kilit/kilit/ValueType$1"), (8, .class_ 316), (0, u "com/example/kilit/kilit/ValueType$2"), (8, .class_ 326), (0, u "com/example/kilit/kilit/ValueType$3"), (4, .class_ 332), (0, u "com/example/kilit/kilit/ValueType$4"), (8, .class_ 342), (0, u "com/example/kilit/kilit/ValueType$5"), (2, .class_ 346), (0, u "com/example/kilit/kilit/ValueType$6"), (4, .class_ 352), (0, u "com/example/kilit/kilit/ValueType$7"), (19, u "WHOLE_NUMBER"), (0, u "Ljava/util/regex/Pattern;"), (4, u "DECIMAL_NUMBER"), (0, u "UNSCALED_BYTES"), (2, u "PREFIX_UNITS"), (12, u "tagged"), (0, u "(I)Lcom/example/kilit/kilit/ValueType;")] 104

def k6c0 : Code := { maxStack := 2, maxLocals := 5, code := prog_255_method_6_code, exceptionTable := #[], attributes := #[] }
def k6m0 : Method := { name := "tagged", desc := "(I)Lcom/example/kilit/kilit/ValueType;", sig := { parameters := [.int], returnType := some (.object "com/example/kilit/kilit/ValueType") }, accessFlags := 8, code := some k6c0 }
/-- com/example/kilit/kilit/ValueType -/
def k6 : Class := { plain "com/example/kilit/kilit/ValueType" (some 5) with
  accessFlags := 16416
  interfaces := #[]
  cf := some (fileOf pool6 5 #[.nestMembers #[351, 345, 341, 331, 325, 315, 305]] #[{ accessFlags := 8, nameIndex := 395, descriptorIndex := 396, attributes := #[] }] 16416 39 #[] #[{ accessFlags := 16409, nameIndex := 9, descriptorIndex := 10, attributes := #[] }, { accessFlags := 16409, nameIndex := 13, descriptorIndex := 10, attributes := #[] }, { accessFlags := 16409, nameIndex := 16, descriptorIndex := 10, attributes := #[] }, { accessFlags := 16409, nameIndex := 19, descriptorIndex := 10, attributes := #[] }, { accessFlags := 16409, nameIndex := 22, descriptorIndex := 10, attributes := #[] }, { accessFlags := 16409, nameIndex := 25, descriptorIndex := 10, attributes := #[] }, { accessFlags := 16409, nameIndex := 28, descriptorIndex := 10, attributes := #[] }, { accessFlags := 26, nameIndex := 80, descriptorIndex := 32, attributes := #[] }, { accessFlags := 26, nameIndex := 372, descriptorIndex := 373, attributes := #[] }, { accessFlags := 26, nameIndex := 378, descriptorIndex := 373, attributes := #[] }, { accessFlags := 26, nameIndex := 379, descriptorIndex := 55, attributes := #[] }, { accessFlags := 26, nameIndex := 382, descriptorIndex := 55, attributes := #[] }, { accessFlags := 18, nameIndex := 50, descriptorIndex := 51, attributes := #[] }, { accessFlags := 18, nameIndex := 54, descriptorIndex := 55, attributes := #[] }, { accessFlags := 18, nameIndex := 58, descriptorIndex := 55, attributes := #[] }, { accessFlags := 18, nameIndex := 61, descriptorIndex := 55, attributes := #[] }, { accessFlags := 18, nameIndex := 70, descriptorIndex := 71, attributes := #[] }, { accessFlags := 4122, nameIndex := 31, descriptorIndex := 32, attributes := #[] }])
  fields := #[{ name := "INTEGER", type := (.object "com/example/kilit/kilit/ValueType"), accessFlags := 16409, slot := 0, constantValue := 0 }, { name := "DECIMAL", type := (.object "com/example/kilit/kilit/ValueType"), accessFlags := 16409, slot := 1, constantValue := 0 }, { name := "VARCHAR", type := (.object "com/example/kilit/kilit/ValueType"), accessFlags := 16409, slot := 2, constantValue := 0 }, { name := "DATE", type := (.object "com/example/kilit/kilit/ValueType"), accessFlags := 16409, slot := 3, constantValue := 0 }, { name := "TIMESTAMP", type := (.object "com/example/kilit/kilit/ValueType"), accessFlags := 16409, slot := 4, constantValue := 0 }, { name := "BOOLEAN", type := (.object "com/example/kilit/kilit/ValueType"), accessFlags := 16409, slot := 5, constantValue := 0 }, { name := "NULL", type := (.object "com/example/kilit/kilit/ValueType"), accessFlags := 16409, slot := 6, constantValue := 0 }, { name := "TYPES", type := (.array (.object "com/example/kilit/kilit/ValueType")), accessFlags := 26, slot := 7, constantValue := 0 }, { name := "WHOLE_NUMBER", type := (.object "java/util/regex/Pattern"), accessFlags := 26, slot := 8, constantValue := 0 }, { name := "DECIMAL_NUMBER", type := (.object "java/util/regex/Pattern"), accessFlags := 26, slot := 9, constantValue := 0 }, { name := "UNSCALED_BYTES", type := .int, accessFlags := 26, slot := 10, constantValue := 0 }, { name := "PREFIX_UNITS", type := .int, accessFlags := 26, slot := 11, constantValue := 0 }, { name := "javaClass", type := (.object "java/lang/Class"), accessFlags := 18, slot := 3, constantValue := 0 }, { name := "tag", type := .int, accessFlags := 18, slot := 4, constantValue := 0 }, { name := "jdbcType", type := .int, accessFlags := 18, slot := 5, constantValue := 0 }, { name := "precision", type := .int, accessFlags := 18, slot := 6, constantValue := 0 }, { name := "names", type := (.object "java/util/List"), accessFlags := 18, slot := 7, constantValue := 0 }, { name := "$VALUES", type := (.array (.object "com/example/kilit/kilit/ValueType")), accessFlags := 4122, slot := 12, constantValue := 0 }]
  methods := #[k6m0]
  instanceTypes := #[(.object "java/lang/String"), .int, .int, (.object "java/lang/Class"), .int, .int, .int, (.object "java/util/List")]
  staticTypes := #[(.object "com/example/kilit/kilit/ValueType"), (.object "com/example/kilit/kilit/ValueType"), (.object "com/example/kilit/kilit/ValueType"), (.object "com/example/kilit/kilit/ValueType"), (.object "com/example/kilit/kilit/ValueType"), (.object "com/example/kilit/kilit/ValueType"), (.object "com/example/kilit/kilit/ValueType"), (.array (.object "com/example/kilit/kilit/ValueType")), (.object "java/util/regex/Pattern"), (.object "java/util/regex/Pattern"), .int, .int, (.array (.object "com/example/kilit/kilit/ValueType"))]
  resolved := Array.replicate 501 none
  statics := some 0 }

def pool7 : Array CpInfo := pool [(2, .class_ 4), (1, u "com/example/kilit/kilit/ValueType"), (5, .class_ 12), (1, u "com/example/kilit/kilit/ValueType$1")] 183

/-- com/example/kilit/kilit/ValueType$1 -/
def k7 : Class := { plain "com/example/kilit/kilit/ValueType$1" (some 6) with
  accessFlags := 16432
  interfaces := #[]
  cf := some (fileOf pool7 10 #[.nestHost 2] #[] 16432 2 #[] #[])
  fields := #[]
  methods := #[]
  instanceTypes := #[(.object "java/lang/String"), .int, .int, (.object "java/lang/Class"), .int, .int, .int, (.object "java/util/List")]
  staticTypes := #[]
  resolved := Array.replicate 196 none
  statics := none }

def pool8 : Array CpInfo := pool [(1, .class_ 2), (0, u "com/example/kilit/kilit/ValueType"), (5, .class_ 10), (1, u "com/example/kilit/kilit/ValueType$2")] 258

/-- com/example/kilit/kilit/ValueType$2 -/
def k8 : Class := { plain "com/example/kilit/kilit/ValueType$2" (some 6) with
  accessFlags := 16432
  interfaces := #[]
  cf := some (fileOf pool8 8 #[.nestHost 1] #[] 16432 1 #[] #[])
  fields := #[]
  methods := #[]
  instanceTypes := #[(.object "java/lang/String"), .int, .int, (.object "java/lang/Class"), .int, .int, .int, (.object "java/util/List")]
  staticTypes := #[]
  resolved := Array.replicate 269 none
  statics := none }

def pool9 : Array CpInfo := pool [(1, .class_ 2), (0, u "com/example/kilit/kilit/ValueType"), (6, .class_ 11), (1, u "com/example/kilit/kilit/ValueType$3")] 97

/-- com/example/kilit/kilit/ValueType$3 -/
def k9 : Class := { plain "com/example/kilit/kilit/ValueType$3" (some 6) with
  accessFlags := 16432
  interfaces := #[]
  cf := some (fileOf pool9 9 #[.nestHost 1] #[] 16432 1 #[] #[])
  fields := #[]
  methods := #[]
  instanceTypes := #[(.object "java/lang/String"), .int, .int, (.object "java/lang/Class"), .int, .int, .int, (.object "java/util/List")]
  staticTypes := #[]
  resolved := Array.replicate 109 none
  statics := none }

def pool10 : Array CpInfo := pool [(2, .class_ 4), (1, u "com/example/kilit/kilit/ValueType"), (90, .class_ 96), (0, u "com/example/kilit/kilit/ValueType$4")] 42

/-- com/example/kilit/kilit/ValueType$4 -/
def k10 : Class := { plain "com/example/kilit/kilit/ValueType$4" (some 6) with
  accessFlags := 16432
  interfaces := #[]
  cf := some (fileOf pool10 95 #[.nestHost 2] #[] 16432 2 #[] #[])
  fields := #[]
  methods := #[]
  instanceTypes := #[(.object "java/lang/String"), .int, .int, (.object "java/lang/Class"), .int, .int, .int, (.object "java/util/List")]
  staticTypes := #[]
  resolved := Array.replicate 139 none
  statics := none }

def pool11 : Array CpInfo := pool [(2, .class_ 4), (1, u "com/example/kilit/kilit/ValueType"), (3, .class_ 10), (1, u "com/example/kilit/kilit/ValueType$5")] 157

/-- com/example/kilit/kilit/ValueType$5 -/
def k11 : Class := { plain "com/example/kilit/kilit/ValueType$5" (some 6) with
  accessFlags := 16432
  interfaces := #[]
  cf := some (fileOf pool11 8 #[.nestHost 2] #[] 16432 2 #[] #[])
  fields := #[]
  methods := #[]
  instanceTypes := #[(.object "java/lang/String"), .int, .int, (.object "java/lang/Class"), .int, .int, .int, (.object "java/util/List")]
  staticTypes := #[]
  resolved := Array.replicate 168 none
  statics := none }

def pool12 : Array CpInfo := pool [(2, .class_ 4), (1, u "com/example/kilit/kilit/ValueType"), (8, .class_ 14), (0, u "com/example/kilit/kilit/ValueType$6")] 10

/-- com/example/kilit/kilit/ValueType$6 -/
def k12 : Class := { plain "com/example/kilit/kilit/ValueType$6" (some 6) with
  accessFlags := 16432
  interfaces := #[]
  cf := some (fileOf pool12 13 #[.nestHost 2] #[] 16432 2 #[] #[])
  fields := #[]
  methods := #[]
  instanceTypes := #[(.object "java/lang/String"), .int, .int, (.object "java/lang/Class"), .int, .int, .int, (.object "java/util/List")]
  staticTypes := #[]
  resolved := Array.replicate 25 none
  statics := none }

def pool13 : Array CpInfo := pool [(2, .class_ 4), (1, u "com/example/kilit/kilit/ValueType"), (2, .class_ 8), (0, u "com/example/kilit/kilit/ValueType$7")] 17

/-- com/example/kilit/kilit/ValueType$7 -/
def k13 : Class := { plain "com/example/kilit/kilit/ValueType$7" (some 6) with
  accessFlags := 16432
  interfaces := #[]
  cf := some (fileOf pool13 7 #[.nestHost 2] #[] 16432 2 #[] #[])
  fields := #[]
  methods := #[]
  instanceTypes := #[(.object "java/lang/String"), .int, .int, (.object "java/lang/Class"), .int, .int, .int, (.object "java/util/List")]
  staticTypes := #[]
  resolved := Array.replicate 26 none
  statics := none }

def pool14 : Array CpInfo := pool [(1, u "java/lang/Cloneable"), (0, .class_ 1), (0, u "java/lang/Object"), (0, .class_ 3)] 3

/-- java/lang/Cloneable -/
def k14 : Class := { plain "java/lang/Cloneable" (some 0) with
  accessFlags := 1537
  interfaces := #[]
  cf := some (fileOf pool14 2 #[] #[] 1537 4 #[] #[])
  fields := #[]
  methods := #[]
  instanceTypes := #[]
  staticTypes := #[]
  resolved := Array.replicate 8 none
  statics := none }

/-- the primitive byte -/
def k15 : Class := { plain "byte" none with kind := .primitive 'B', accessFlags := 0x411 }
/-- [B -/
def k16 : Class := { plain "[B" (some 0) with kind := .array 15 .byte, interfaces := #[14, 4], accessFlags := 1041 }

/-- the primitive int -/
def k17 : Class := { plain "int" none with kind := .primitive 'I', accessFlags := 0x411 }
/-- [I -/
def k18 : Class := { plain "[I" (some 0) with kind := .array 17 .int, interfaces := #[14, 4], accessFlags := 1041 }

/-- [Lcom/example/kilit/kilit/ValueType; -/
def k19 : Class := { plain "[Lcom/example/kilit/kilit/ValueType;" (some 0) with kind := .array 6 (.object "com/example/kilit/kilit/ValueType"), interfaces := #[14, 4], accessFlags := 1041 }

def heap : Heap := #[{ cls := 6, slots := #[.ref 2, .ref 3, .ref 4, .ref 5, .ref 6, .ref 7, .ref 8, .ref 1, .null, .null, .int 0, .int 0, .null], vm := .statics 6 },
  { cls := 19, slots := #[.ref 2, .ref 3, .ref 4, .ref 5, .ref 6, .ref 7, .ref 8], vm := .none },
  { cls := 7, slots := #[.null, .int 0, .int 0, .null, .int 1, .int 0, .int 0, .null], vm := .none },
  { cls := 8, slots := #[.null, .int 0, .int 0, .null, .int 3, .int 0, .int 0, .null], vm := .none },
  { cls := 9, slots := #[.null, .int 0, .int 0, .null, .int 2, .int 0, .int 0, .null], vm := .none },
  { cls := 10, slots := #[.null, .int 0, .int 0, .null, .int 4, .int 0, .int 0, .null], vm := .none },
  { cls := 11, slots := #[.null, .int 0, .int 0, .null, .int 5, .int 0, .int 0, .null], vm := .none },
  { cls := 12, slots := #[.null, .int 0, .int 0, .null, .int (-1), .int 0, .int 0, .null], vm := .none },
  { cls := 13, slots := #[.null, .int 0, .int 0, .null, .int 0, .int 0, .int 0, .null], vm := .none }]
def classes : Array Class := #[k0, k1, k2, k3, k4, k5, k6, k7, k8, k9, k10, k11, k12, k13, k14, k15, k16, k17, k18, k19]
def interned : List (Array UInt16 × Addr) := []
def slotsUsed : Nat := 76
def theMethod : MethodId := ⟨1, 2⟩
def args0 : Array Value := #[.int 3, .int 1]
def aboutOver (below : List Frame) : State where
  vm := { classes := classes, interned := interned.toArray }
  heap := heap
  slotsUsed := slotsUsed
  threads := #[{ frames := .invoking theMethod args0 :: below }]
def below0 : List Frame := [.native { method := ⟨0, 0⟩, args := #[] }]
def about1 : State := aboutOver below0
def p0 : Program := .bare "" "" ""
def e0 : Env := launch0.env 0 0 0
theorem w_frames : about1.frames = Frame.invoking theMethod args0 :: below0 := rfl
set_option maxRecDepth 65536 in
theorem w_args : argsFit about1.vm theMethod args0 = true := by decide +kernel
set_option maxRecDepth 65536 in
theorem w_heap : heapFits about1 = true := by decide +kernel
set_option maxRecDepth 65536 in
theorem w_runnable : about1.curStatus? = some .runnable := by decide +kernel
set_option maxRecDepth 65536 in
theorem w_alone : about1.alone = true := by decide +kernel
set_option maxRecDepth 65536 in
theorem w_named : about1.methodNamed? x = some theMethod := by decide +kernel
set_option maxRecDepth 65536 in
theorem w_hears : about1.hears theMethod below0 = true := by decide +kernel
set_option maxRecDepth 65536 in
theorem w_ripe : about1.ripe theMethod args0 below0 = true := by decide +kernel
theorem w_running : about1.status = .running := rfl
set_option maxRecDepth 65536 in
theorem w_room : about1.hasRoom e0.platform room_1 = true :=
  launch0.hasRoom_least _ room_1 (by decide +kernel) (by decide +kernel) (by decide +kernel) (by decide +kernel) (by decide +kernel) (by decide +kernel)
theorem allAtoms_all (ts : List Jvm.Cond) (a : Array Jvm.Value) (st : Jvm.State) : (allAtoms ts).before a st = ts.all (fun c => c.before a st) := by
  induction ts with
  | nil => rfl
  | cons c t ih =>
    show (Jvm.Cond.and c (allAtoms t)).before a st = _
    rw [Jvm.Cond.before_and, ih, List.all_cons]
def words1 : List Jvm.Cond := Jvm.Cond.code x code maxLocals ret :: tables_1
/-- a 'code' word, met by the world's own term for the bytes: nothing is compared byte by byte -/
theorem code_word {y : MethodName} {bytes : ByteArray} {mx : Nat} {rt : Option FieldType} {a : Array Value} {s : State} {m : MethodId} {meth : Method} {c : Code} (h1 : s.methodNamed? y = some m) (h2 : s.vm.method? m = some meth) (h3 : meth.code = some c) (h4 : c.code = bytes)
    (h5 : (c.maxLocals == mx && c.exceptionTable.isEmpty && decide (c.maxStack ≤ mostOperands) && decide (meth.sig.returnType = rt) && !meth.locks && decide (parseMethodDescriptor y.desc = some meth.sig)) = true) : (Jvm.Cond.code y bytes mx rt).before a s = true := by
  simp only [Bool.and_eq_true, beq_iff_eq, Bool.not_eq_true', decide_eq_true_eq] at h5
  obtain ⟨⟨⟨⟨⟨g1, g2⟩, g3⟩, g4⟩, g5⟩, g6⟩ := h5
  simp [Cond.before, Cond.holds, Cond.value, h1, h2, h3, h4, g1, g2, g3, g4, g5, g6]
def isCode : Jvm.Cond → Bool
  | .code _ _ _ _ => true
  | _ => false
theorem all_split {L : List Jvm.Cond} {P : Jvm.Cond → Bool} (h1 : L.all (fun c => isCode c || P c) = true) (h2 : ∀ c ∈ L.filter isCode, P c = true) : L.all P = true := by
  refine List.all_eq_true.mpr fun c hc => ?_
  have h := List.all_eq_true.mp h1 c hc
  rcases Bool.eq_false_or_eq_true (isCode c) with hi | hi
  · exact h2 c (List.mem_filter.mpr ⟨hc, hi⟩)
  · simpa [hi] using h
set_option maxRecDepth 65536 in
theorem w_c0 : (Jvm.Cond.code x code maxLocals ret).before args0 about1 = true := code_word (m := ⟨1, 2⟩) (meth := k1m2) (c := k1c2) (by decide +kernel) rfl rfl rfl (by decide +kernel)
set_option maxRecDepth 65536 in
theorem w_c1 : (Jvm.Cond.code ({ cls := "com/example/kilit/kilit/ValueType", name := "tagged", desc := "(I)Lcom/example/kilit/kilit/ValueType;" } : Jvm.MethodName) prog_255_method_6_code (5 : Nat) (Option.some (Jvm.ClassFile.FieldType.object "com/example/kilit/kilit/ValueType"))).before args0 about1 = true := code_word (m := ⟨6, 0⟩) (meth := k6m0) (c := k6c0) (by decide +kernel) rfl rfl rfl (by decide +kernel)
set_option maxRecDepth 65536 in
theorem w_c2 : (Jvm.Cond.code ({ cls := "com/example/kilit/kilit/ValueTypeTaggedPinLaw", name := "expected", desc := "(I)Lcom/example/kilit/kilit/ValueType;" } : Jvm.MethodName) method_2_code (1 : Nat) (Option.some (Jvm.ClassFile.FieldType.object "com/example/kilit/kilit/ValueType"))).before args0 about1 = true := code_word (m := ⟨1, 1⟩) (meth := k1m1) (c := k1c1) (by decide +kernel) rfl rfl rfl (by decide +kernel)
def codes1 : List Jvm.Cond := [Jvm.Cond.code x code maxLocals ret, Jvm.Cond.code ({ cls := "com/example/kilit/kilit/ValueType", name := "tagged", desc := "(I)Lcom/example/kilit/kilit/ValueType;" } : Jvm.MethodName) prog_255_method_6_code (5 : Nat) (Option.some (Jvm.ClassFile.FieldType.object "com/example/kilit/kilit/ValueType")), Jvm.Cond.code ({ cls := "com/example/kilit/kilit/ValueTypeTaggedPinLaw", name := "expected", desc := "(I)Lcom/example/kilit/kilit/ValueType;" } : Jvm.MethodName) method_2_code (1 : Nat) (Option.some (Jvm.ClassFile.FieldType.object "com/example/kilit/kilit/ValueType"))]
set_option maxRecDepth 65536 in
theorem codes_eq : words1.filter isCode = codes1 := rfl
theorem w_codes : ∀ c ∈ words1.filter isCode, c.before args0 about1 = true := by
  rw [codes_eq]
  intro c hc
  simp only [codes1, List.mem_cons, List.not_mem_nil, or_false] at hc
  rcases hc with rfl | rfl | rfl
  · exact w_c0
  · exact w_c1
  · exact w_c2
set_option maxRecDepth 65536 in
theorem w_t1 : (words1.take 24).all (fun c => isCode c || c.before args0 about1) = true := by decide +kernel
set_option maxRecDepth 65536 in
theorem w_t2 : (words1.drop 24).all (fun c => isCode c || c.before args0 about1) = true := by decide +kernel
theorem w_tables : (allAtoms (Jvm.Cond.code x code maxLocals ret :: tables_1)).before args0 about1 = true := by
  rw [allAtoms_all]
  show words1.all (fun c => c.before args0 about1) = true
  refine all_split ?_ w_codes
  rw [← List.take_append_drop 24 words1, List.all_append, w_t1, w_t2]
  rfl
set_option maxRecDepth 65536 in
theorem w_case : (Jvm.Cond.and given_1 narrow_1).before args0 about1 = true := by decide +kernel
theorem w_applies : (headSpec (Jvm.Cond.code x code maxLocals ret :: tables_1) room_1).applies x e0.platform about1 = true :=
  (Spec.applies_iff w_frames).mpr ⟨w_running, w_runnable, w_alone, w_named, w_hears, w_ripe, w_room, w_tables⟩
theorem atStart : AtStart classFile x code maxLocals ret World_1 tables_1 room_1 Calls_1 rest_1 Pre_1 launch0 p0 e0 about1 theMethod args0 below0 :=
  ⟨lists_1, trivial, launch0.admits_env _ _ _, launch0.least_env, fairChoices_fair.cas, fairChoices_fair.clock, w_frames, w_args, w_heap, w_applies, trivial, trivial, w_case⟩
end start1
theorem witness_1 : WitnessClaimed_1 := ⟨start1.p0, start1.e0, start1.about1, start1.theMethod, start1.args0, start1.below0, start1.atStart⟩
end Jvm.Pilot.@@N@@
