import JvmDerived
import JvmDerived.Pilot.@@N@@Statement
import JvmDerived.Pilot.@@N@@Code
set_option linter.unusedVariables false
set_option linter.unusedSimpArgs false
namespace Jvm.RoadKit
open Sem ClassFile Op Lib Jvm.Stand Jvm.Free Jvm.LawKit
section New
variable {p : Program} {l : Launch} {e : Env} {R : Room} {s : State} {m : MethodId} {args : Array Value} {below : List Frame} {meth : Method} {c : Code} {T : State} {locs : List Loc} {cells slots : Nat}
theorem retI (X : Stand p l e R s m args below meth c T locs cells slots) (hx : p.tables.exec = Jvm.exec) {pc : Nat} {Ls : Array Slot} {z : Int32} {rest : List Value} (hret : meth.sig.returnType = some .int) (hd : decode c.code pc = .ok (.ireturn, 1)) {fs : List Frame}
    (hl : ∀ (f : JFrame) (acts : List Action), f.method = m → f.locked = none → f.entered = [] → (doReturn e (T.setTop f) acts (some (.int z))).1 = T.setFrames fs) : Steps p.tables e below (T.setTop (mkF m pc Ls (.int z :: rest))) (T.setFrames fs) := by
  have hm' : T.vm.method? m = some meth := X.method'
  have hn : narrow .int (.int z) = .int z := rfl
  show Steps p.tables e below (T.setTop { method := m, pc := pc, locals := Ls, stack := _ :: rest, locked := none }) _
  jvm_step X.here [X.here.top, hx, hd, hm', hret, hn]
  first | (intro acts; rw [hl _ acts rfl rfl rfl]) | rw [hl _ _ rfl rfl rfl]
  exact Steps.refl _
end New
end Jvm.RoadKit
namespace Jvm.Pilot.@@N@@
open Jvm Jvm.ClassFile Sem Op Lib Jvm.Free Jvm.Stand Jvm.LawKit Jvm.RoadKit Bundle Jvm.Pilot.@@N@@.Jvm.D
theorem own_eqi {args : Array Value} {s : State} {t : Term} {k : Int32} (h : (Cond.eq t (Term.int k)).value args s none s [] = some true) : t.eval args s none [] s = some (.int k) := by
  have e2 : (Term.int k).eval args s none [] s = some (.int k) := rfl
  cases hv : t.eval args s none [] s with
  | none => simp [Cond.value, hv] at h
  | some v =>
    simp only [Cond.value, hv, e2] at h
    cases v <;> simp at h
    rw [h]
theorem own_eqr {args : Array Value} {s : State} {t u : Term} {y : Addr} (h : (Cond.eq t u).value args s none s [] = some true) (hu : u.eval args s none [] s = some (.ref y)) : t.eval args s none [] s = some (.ref y) := by
  cases hv : t.eval args s none [] s with
  | none => simp [Cond.value, hv] at h
  | some v =>
    simp only [Cond.value, hv, hu] at h
    cases v <;> simp at h
    rw [h]
theorem own_fi {args : Array Value} {s : State} {t : Term} {C n d : String} {k : Int32} {x : Addr} (h : (Cond.eq (Term.field t C n d) (Term.int k)).value args s none s [] = some true) (ht : t.eval args s none [] s = some (.ref x)) : s.fieldOf? x C n d = some (.int k) := (fld_at ht).symm.trans (own_eqi h)
theorem own_fr {args : Array Value} {s : State} {t u : Term} {C n d : String} {x y : Addr} (h : (Cond.eq (Term.field t C n d) u).value args s none s [] = some true) (ht : t.eval args s none [] s = some (.ref x)) (hu : u.eval args s none [] s = some (.ref y)) : s.fieldOf? x C n d = some (.ref y) := (fld_at ht).symm.trans (own_eqr h hu)
theorem own_ne {s : State} {C n d : String} {x y : Addr} {j k : Int32} (hx : s.fieldOf? x C n d = some (.int j)) (hy : s.fieldOf? y C n d = some (.int k)) (hk : j ≠ k) : ¬ (x = y) := fun q => by
  subst q
  rw [hx] at hy
  exact hk (Value.int.inj (Option.some.inj hy))
theorem own_sk {Z : State} {h h' : Heap} {C n d : String} {v : Value} (S : Sta Z h C n d v) (K : Keep h h' []) : Sta Z h' C n d v := by
  obtain ⟨cf, i, k, f, st, cell, h1, h2, h3, h4, h5, r⟩ := S
  exact ⟨cf, i, k, f, st, cell, h1, h2, h3, h4, K.2.1 _ _ h5 (by simp), r⟩
theorem d2_0 : decode prog_134_method_1_code 0 = .ok (.getstatic 13, 3) := by decide +kernel
theorem d2_3 : decode prog_134_method_1_code 3 = .ok (.invokevirtual 17, 3) := by decide +kernel
theorem d2_6 : decode prog_134_method_1_code 6 = .ok (.checkcast 18, 3) := by decide +kernel
theorem d2_9 : decode prog_134_method_1_code 9 = .ok (.areturn, 1) := by decide +kernel
theorem pn_2 : plainName "com/example/graphsieve/graphsieve/query/SetOperator" = true := by first | (simp [plainName, overriddenIn]; done) | decide +kernel
theorem pd_2_2 : parseMethodDescriptor "()Ljava/lang/Object;" = some ⟨[], some (.object "java/lang/Object")⟩ := by decide +kernel
theorem ef_2 (m : MethodId)  : entryFrame m #[] 0 = mkF m 0 #[] [] := by first | (simp [entryFrame, mkF, argsToLocals, Value.category]; done) | rfl
def Q2 (Z : State) (w1 : Addr) (cl : Cell) (h0 : Heap) (n0 : Nat) (v : Option Value) (h : Heap) (L : List Loc) : Prop := v = some (.ref h0.size) ∧ Fr n0 L ∧ Ext h0 h ∧ Arr Z h h0.size (cloneOf cl) (.object "com/example/graphsieve/graphsieve/query/SetOperator")
set_option maxRecDepth 65536 in
set_option maxHeartbeats 40000000 in
theorem rm2 (l : Launch) (Z : State) (a0 : Array Value) (hw : ∀ d ∈ tables_1, d.before a0 Z = true) (ws : List Jvm.Cond) (w1 : Addr) (cl : Cell) (h0 : Heap) (n0 : Nat) (Z0 : n0 ≤ h0.size) (S__VALUES : Sta Z h0 "com/example/graphsieve/graphsieve/query/SetOperator" "$VALUES" "[Lcom/example/graphsieve/graphsieve/query/SetOperator;" (.ref w1)) (Ar : Arr Z h0 w1 cl (.object "com/example/graphsieve/graphsieve/query/SetOperator")) (Ex : Exa Z h0 w1 "[Lcom/example/graphsieve/graphsieve/query/SetOperator;") (Fc : FitC Z cl) (hcap : cl.slots.size ≤ 3) :
    MetFree l (⟨"com/example/graphsieve/graphsieve/query/SetOperator", "values", "()[Lcom/example/graphsieve/graphsieve/query/SetOperator;"⟩ : MethodName) (head1 (Jvm.Cond.code (⟨"com/example/graphsieve/graphsieve/query/SetOperator", "values", "()[Lcom/example/graphsieve/graphsieve/query/SetOperator;"⟩ : MethodName) prog_134_method_1_code 0 (some (.array (.object "com/example/graphsieve/graphsieve/query/SetOperator"))) :: ws) ({ frames := 1, cells := 1, slots := 3, locals := 14 } : Room)) (fun a U => a = #[] ∧ Z.Warmed39 U.vm ∧ U.heap = h0) (fun _ _ _ _ _ => True) (fun _ U o U' => ∃ v L, o = .returned v ∧ Q2 Z w1 cl h0 n0 v U'.heap L ∧ FrameEnd U o U' L ({ frames := 1, cells := 1, slots := 3, locals := 14 } : Room).cells ({ frames := 1, cells := 1, slots := 3, locals := 14 } : Room).slots) := by
  refine MetFree.of_bodySF (plainFor_of_name pn_2) hisR ?_
  intro p e s m args below meth c s₁ Bd hml0 hP hK
  obtain ⟨rfl, hZ, hh⟩ := hP
  have hx := Bd.exec
  have hby := Bd.bytes
  have hml : c.maxLocals = 0 := hml0
  have hown : s.vm.findClass "com/example/graphsieve/graphsieve/query/SetOperator" = some m.cls := findClass_of_methodNamed Bd.named
  have hnm := (name_of_methodNamed Bd.named Bd.method).1
  have X0 : Stand p l e ({ frames := 1, cells := 1, slots := 3, locals := 14 } : Room) s m #[] below meth c s₁ [] 0 0 := Stand.of_body Bd
  have e0 : s₁.heap = h0 := by rw [← hh, Bd.state]; rfl
  have N0 := Fr.nil n0
  have pre0 : ∀ t, Steps p.tables e below (s₁.setTop (mkF m 0 #[] [])) t → Steps p.tables e below (s₁.setTop (entryFrame m #[] 0)) t := fun t k => castTop (ef_2 m ) k
  obtain ⟨T2, X2, e2, st2⟩ := getS2 X0 hx hZ hown (host := "") (Or.inl (hw _ (List.mem_of_getElem? (i := 9) rfl))) Via.refl e0 S__VALUES (g := (mkF m 0 #[] [])) rfl (hb hby d2_0)
  obtain ⟨T3, h3, X3, e3, E3, A3, B3, st3⟩ := cloneA X2 hx hZ hown (hw _ (List.mem_of_getElem? (i := 11) rfl)) (hw _ (List.mem_of_getElem? (i := 12) rfl)) (hw _ (List.mem_of_getElem? (i := 16) rfl)) (hw _ (List.mem_of_getElem? (i := 14) rfl)) (hw _ (List.mem_of_getElem? (i := 15) rfl)) (hw _ (List.mem_of_getElem? (i := 17) rfl)) e2 Ar Ex Fc (g := (mkF m 3 #[] [(.ref w1)])) rfl (by rw [hml]; rfl) rfl (hb hby d2_3) (by decide) (W := 0) (cap := 3) (by show 2 * 0 + _ ≤ _; exact Nat.le_of_eq rfl) (by decide) hcap (by decide) (by decide)
  obtain ⟨T4, X4, e4, st4⟩ := castY X3 hx hZ hown (hw _ (List.mem_of_getElem? (i := 19) rfl)) e3 (Ins.of_exa B3 (hw _ (List.mem_of_getElem? (i := 20) rfl))) (g := (mkF m 6 #[] [(.ref h0.size)])) rfl rfl (hb hby d2_6)
  obtain ⟨fs, hr, hrun, hended, hW, hsame⟩ := X4.leave (v := some (.ref h0.size)) (fun h => by rw [Bd.returns] at h; cases h)
  refine ⟨_, _, pre0 _ ?_, hrun, hended, _, _, rfl, ?_, ⟨_, rfl⟩, hW, hsame.mono (by decide) (by decide)⟩
  · show Steps p.tables e below (s₁.setTop (mkF m 0 #[] [])) _
    refine st2 _ ?_
    show Steps p.tables e below (T2.setTop (mkF m 3 #[] [(.ref w1)])) _
    refine st3 _ ?_
    show Steps p.tables e below (T3.setTop (mkF m 6 #[] [(.ref h0.size)])) _
    refine st4 _ ?_
    show Steps p.tables e below (T4.setTop (mkF m 9 #[] [(.ref h0.size)])) _
    jvm_step X4.here [X4.here.top, hx, (hb hby d2_9), X4.method', Bd.returns, Value.isRef, FieldType.isReference]
    first | (intro acts; rw [hr _ acts rfl rfl rfl]) | rw [hr _ _ rfl rfl rfl]
    exact Steps.refl _
  · show Q2 Z w1 cl h0 n0 _ T4.heap _
    rw [e4]
    exact ⟨rfl, N0, E3, A3⟩
theorem d1_0 : decode prog_134_method_5_code 0 = .ok (.invokestatic 40, 3) := by decide +kernel
theorem d1_3 : decode prog_134_method_5_code 3 = .ok (.astore_n 1, 1) := by decide +kernel
theorem d1_4 : decode prog_134_method_5_code 4 = .ok (.aload_n 1, 1) := by decide +kernel
theorem d1_5 : decode prog_134_method_5_code 5 = .ok (.arraylength, 1) := by decide +kernel
theorem d1_6 : decode prog_134_method_5_code 6 = .ok (.istore_n 2, 1) := by decide +kernel
theorem d1_7 : decode prog_134_method_5_code 7 = .ok (.iconst 0, 1) := by decide +kernel
theorem d1_8 : decode prog_134_method_5_code 8 = .ok (.istore_n 3, 1) := by decide +kernel
theorem pd_1_1 : parseMethodDescriptor "()[Lcom/example/graphsieve/graphsieve/query/SetOperator;" = some ⟨[], some (.array (.object "com/example/graphsieve/graphsieve/query/SetOperator"))⟩ := by decide +kernel
theorem d1_9 : decode prog_134_method_5_code 9 = .ok (.iload_n 3, 1) := by decide +kernel
theorem d1_10 : decode prog_134_method_5_code 10 = .ok (.iload_n 2, 1) := by decide +kernel
theorem d1_11 : decode prog_134_method_5_code 11 = .ok (.if_icmp .ge 26, 3) := by decide +kernel
theorem d1_14 : decode prog_134_method_5_code 14 = .ok (.aload_n 1, 1) := by decide +kernel
theorem d1_15 : decode prog_134_method_5_code 15 = .ok (.iload_n 3, 1) := by decide +kernel
theorem d1_16 : decode prog_134_method_5_code 16 = .ok (.aaload, 1) := by decide +kernel
theorem d1_17 : decode prog_134_method_5_code 17 = .ok (.astore 4, 2) := by decide +kernel
theorem d1_19 : decode prog_134_method_5_code 19 = .ok (.aload 4, 2) := by decide +kernel
theorem d1_21 : decode prog_134_method_5_code 21 = .ok (.getfield 36, 3) := by decide +kernel
theorem d1_24 : decode prog_134_method_5_code 24 = .ok (.iload_n 0, 1) := by decide +kernel
theorem d1_25 : decode prog_134_method_5_code 25 = .ok (.if_icmp .ne 6, 3) := by decide +kernel
theorem d1_31 : decode prog_134_method_5_code 31 = .ok (.iinc 3 1, 3) := by decide +kernel
theorem d1_34 : decode prog_134_method_5_code 34 = .ok (.goto (-25), 3) := by decide +kernel
theorem d1_28 : decode prog_134_method_5_code 28 = .ok (.aload 4, 2) := by decide +kernel
theorem d1_30 : decode prog_134_method_5_code 30 = .ok (.areturn, 1) := by decide +kernel
theorem pn_1 : plainName "com/example/graphsieve/graphsieve/query/SetOperator" = true := by first | (simp [plainName, overriddenIn]; done) | decide +kernel
theorem ef_1 (m : MethodId) (x0 : Int32) : entryFrame m #[(.int x0)] 5 = mkF m 0 #[.val (.int x0), .unset, .unset, .unset, .unset] [] := by first | (simp [entryFrame, mkF, argsToLocals, Value.category]; done) | rfl
theorem d1_37 : decode prog_134_method_5_code 37 = .ok (.aconst_null, 1) := by decide +kernel
theorem d1_38 : decode prog_134_method_5_code 38 = .ok (.areturn, 1) := by decide +kernel
theorem os1_3_tV {s0 : Slot} {s1 : Slot} {s2 : Slot} {s3 : Slot} {s4 : Slot} {v : Addr} (h : One s1) : storeLocals #[s0, s1, s2, s3, s4] 1 (.ref v) = some #[s0, .val (.ref v), s2, s3, s4] := by
  rcases h with rfl | ⟨w, rfl, hw⟩
  · rfl
  · cases w <;> first | rfl | (simp [Value.category] at hw)
theorem os1_6_tV {s0 : Slot} {z1 : Value} {s2 : Slot} {s3 : Slot} {s4 : Slot} {v : Int32} (h : One s2) : storeLocals #[s0, .val z1, s2, s3, s4] 2 (.int v) = some #[s0, .val z1, .val (.int v), s3, s4] := by
  rcases h with rfl | ⟨w, rfl, hw⟩
  · rfl
  · cases w <;> first | rfl | (simp [Value.category] at hw)
theorem os1_8_tV {s0 : Slot} {z1 : Value} {z2 : Value} {s3 : Slot} {s4 : Slot} {v : Int32} (h : One s3) : storeLocals #[s0, .val z1, .val z2, s3, s4] 3 (.int v) = some #[s0, .val z1, .val z2, .val (.int v), s4] := by
  rcases h with rfl | ⟨w, rfl, hw⟩
  · rfl
  · cases w <;> first | rfl | (simp [Value.category] at hw)
set_option maxRecDepth 65536 in
set_option maxHeartbeats 40000000 in
theorem tV {p : Program} {l : Launch} {e : Env} {s : State} {m : MethodId} {args : Array Value} {below : List Frame} {meth : Method} {c : Code} {T0 : State} {locs : List Loc} {Z : State} {a0 : Array Value} {h0 : Heap} {n0 : Nat} (s0 : Slot) (s1 : Slot) (s2 : Slot) (s3 : Slot) (s4 : Slot) (w1 : Addr) (cl : Cell)
    (X0 : Stand p l e ({ frames := 2, cells := 1, slots := 3, locals := 25 } : Room) s m args below meth c T0 locs 0 0) (hx : p.tables.exec = Jvm.exec) (hZ : Z.Warmed39 s.vm) (hw : ∀ d ∈ tables_1, d.before a0 Z = true) (hby : c.code = prog_134_method_5_code) (hml : c.maxLocals = 5) (hown : s.vm.findClass "com/example/graphsieve/graphsieve/query/SetOperator" = some m.cls) (e0 : T0.heap = h0) (Z0 : n0 ≤ h0.size) (S__VALUES : Sta Z h0 "com/example/graphsieve/graphsieve/query/SetOperator" "$VALUES" "[Lcom/example/graphsieve/graphsieve/query/SetOperator;" (.ref w1)) (Ar : Arr Z h0 w1 cl (.object "com/example/graphsieve/graphsieve/query/SetOperator")) (Ex : Exa Z h0 w1 "[Lcom/example/graphsieve/graphsieve/query/SetOperator;") (Fc : FitC Z cl) (hsz : cl.slots.size = 3) (hs1 : One s1) (hs2 : One s2) (hs3 : One s3) :
    ∃ (T' : State) (L' : List Loc), Stand p l e ({ frames := 2, cells := 1, slots := 3, locals := 25 } : Room) s m args below meth c T' (locs ++ L') 1 3 ∧ Fr n0 L' ∧ Ext h0 T'.heap ∧ Arr Z T'.heap h0.size (cloneOf cl) (.object "com/example/graphsieve/graphsieve/query/SetOperator") ∧
      ∀ target, Steps p.tables e below (T'.setTop (mkF m 9 #[s0, .val (.ref h0.size), .val (.int (3 : Int32)), .val (.int (0 : Int32)), s4] [])) target → Steps p.tables e below (T0.setTop (mkF m 0 #[s0, s1, s2, s3, s4] [])) target := by
  obtain ⟨_, _, ⟨T2, L2, k2, n2⟩, -, X2, ⟨Lc2, hQ2, l2, y2, z2⟩, st2⟩ := Jvm.LawKit.callS X0 hx (y := (⟨"com/example/graphsieve/graphsieve/query/SetOperator", "values", "()[Lcom/example/graphsieve/graphsieve/query/SetOperator;"⟩ : MethodName)) hown (mvT hZ (hw _ (List.mem_of_getElem? (i := 6) rfl))) (mvT hZ (hw _ (List.mem_of_getElem? (i := 7) rfl))) (mvT hZ (hw _ (List.mem_of_getElem? (i := 1) rfl))) (mvT hZ (hw _ (List.mem_of_getElem? (i := 8) rfl))) (by decide) (backOf (W := 0) (rm2 l Z a0 hw [] w1 cl h0 n0 Z0 S__VALUES Ar Ex Fc (Nat.le_of_eq hsz)) hZ (hw _ (List.mem_of_getElem? (i := 8) rfl)) (hw _ (List.mem_of_getElem? (i := 1) rfl)) (by decide) (by decide)) (g := (mkF m 0 #[s0, s1, s2, s3, s4] [])) rfl (by rw [hml]; rfl) (argsL := []) (rest := []) (lenOf pd_1_1 rfl) rfl (by show 2 * 0 + _ ≤ _; exact Nat.le_of_eq rfl) (hb hby d1_0) (fun _ _ => ⟨rfl, e0, (by decide : 0 + 1 ≤ _), (by decide : 0 + 3 ≤ _)⟩)
  dsimp only [Pt.U, Pt.locs, Pt.cells, Pt.slots] at X2 l2 y2 z2 st2 hQ2
  subst l2 y2 z2
  obtain ⟨rfl, N2q, E2q, A2q⟩ := hQ2
  refine ⟨T2, _, X2, N2q, E2q, A2q, fun target kt => ?_⟩
  show Steps p.tables e below (T0.setTop (mkF m 0 #[s0, s1, s2, s3, s4] [])) _
  refine st2 _ ?_
  show Steps p.tables e below (T2.setTop (mkF m 3 #[s0, s1, s2, s3, s4] [(.ref h0.size)])) _
  refine XS.astoreN X2.here hx rfl (hb hby d1_3) rfl rfl (l' := #[s0, .val (.ref h0.size), s2, s3, s4]) (os1_3_tV hs1) ?_
  show Steps p.tables e below (T2.setTop (mkF m 4 #[s0, .val (.ref h0.size), s2, s3, s4] [])) _
  refine XS.aloadN X2.here hx rfl (hb hby d1_4) rfl rfl ?_
  show Steps p.tables e below (T2.setTop (mkF m 5 #[s0, .val (.ref h0.size), s2, s3, s4] [(.ref h0.size)])) _
  refine X2.arraylength hx A2q.1 (State.isArrayOf_alike hZ.alike A2q.2.1) (g := (mkF m 5 #[s0, .val (.ref h0.size), s2, s3, s4] [(.ref h0.size)])) rfl rfl (hb hby d1_5) _ ?_
  rw [len_of (z := 3) (hsz.trans (by decide)) (by decide)]
  show Steps p.tables e below (T2.setTop (mkF m 6 #[s0, .val (.ref h0.size), s2, s3, s4] [(.int (3 : Int32))])) _
  refine XS.istoreN X2.here hx rfl (hb hby d1_6) rfl (l' := #[s0, .val (.ref h0.size), .val (.int (3 : Int32)), s3, s4]) (os1_6_tV hs2) ?_
  show Steps p.tables e below (T2.setTop (mkF m 7 #[s0, .val (.ref h0.size), .val (.int (3 : Int32)), s3, s4] [])) _
  refine XS.iconst X2.here hx rfl (hb hby d1_7) ?_
  show Steps p.tables e below (T2.setTop (mkF m 8 #[s0, .val (.ref h0.size), .val (.int (3 : Int32)), s3, s4] [(.int (0 : Int32))])) _
  refine XS.istoreN X2.here hx rfl (hb hby d1_8) rfl (l' := #[s0, .val (.ref h0.size), .val (.int (3 : Int32)), .val (.int (0 : Int32)), s4]) (os1_8_tV hs3) ?_
  exact kt
theorem os1_17_tT {z0 : Value} {z1 : Value} {z2 : Value} {z3 : Value} {s4 : Slot} {v : Addr} (h : One s4) : storeLocals #[.val z0, .val z1, .val z2, .val z3, s4] 4 (.ref v) = some #[.val z0, .val z1, .val z2, .val z3, .val (.ref v)] := by
  rcases h with rfl | ⟨w, rfl, hw⟩
  · rfl
  · cases w <;> first | rfl | (simp [Value.category] at hw)
set_option maxRecDepth 65536 in
set_option maxHeartbeats 40000000 in
theorem tT {p : Program} {l : Launch} {e : Env} {R : Room} {s : State} {m : MethodId} {args : Array Value} {below : List Frame} {meth : Method} {c : Code} {T0 : State} {locs : List Loc} {cells slots : Nat} {Z : State} {a0 : Array Value} {h0 : Heap} (i0 : Int32) (o1 : Addr) (i2 : Int32) (i3 : Int32) (s4 : Slot) (w2 : Addr) (cl_o1 : Cell) (w3 : Int32)
    (X0 : Stand p l e R s m args below meth c T0 locs cells slots) (hx : p.tables.exec = Jvm.exec) (hZ : Z.Warmed39 s.vm) (hw : ∀ d ∈ tables_1, d.before a0 Z = true) (hby : c.code = prog_134_method_5_code) (hml : c.maxLocals = 5) (hown : s.vm.findClass "com/example/graphsieve/graphsieve/query/SetOperator" = some m.cls) (e0 : T0.heap = h0) (Ar_o1 : Arr Z h0 o1 cl_o1 (.object "com/example/graphsieve/graphsieve/query/SetOperator")) (hin16 : ¬ (i3 < 0 ∨ cl_o1.slots.size ≤ (i3).toNatClampNeg)) (hat16 : cl_o1.slots[(i3).toNatClampNeg]? = some (.ref w2)) (hs4 : One s4) (F_symbol_w2 : Fld Z h0 w2 "com/example/graphsieve/graphsieve/query/SetOperator" "symbol" "C" (.int w3)) (hc11 : i3 < i2) (hc25 : ¬ (w3 = i0)) :
    ∃ (T' : State), Stand p l e R s m args below meth c T' locs cells slots ∧ T'.heap = h0 ∧
      ∀ target, Steps p.tables e below (T'.setTop (mkF m 9 #[.val (.int i0), .val (.ref o1), .val (.int i2), .val (.int (i3 + (1 : Int32))), .val (.ref w2)] [])) target → Steps p.tables e below (T0.setTop (mkF m 9 #[.val (.int i0), .val (.ref o1), .val (.int i2), .val (.int i3), s4] [])) target := by
  obtain ⟨T4, X4, e4, st4⟩ := getF X0 hx hZ hown (host := "") (Or.inl (hw _ (List.mem_of_getElem? (i := 21) rfl))) Via.refl e0 F_symbol_w2 (g := (mkF m 21 #[.val (.int i0), .val (.ref o1), .val (.int i2), .val (.int i3), .val (.ref w2)] [(.ref w2)])) rfl rfl (hb hby d1_21)
  refine ⟨T4, X4, e4, fun target kt => ?_⟩
  show Steps p.tables e below (T0.setTop (mkF m 9 #[.val (.int i0), .val (.ref o1), .val (.int i2), .val (.int i3), s4] [])) _
  refine XS.iloadN X0.here hx rfl (hb hby d1_9) rfl ?_
  show Steps p.tables e below (T0.setTop (mkF m 10 #[.val (.int i0), .val (.ref o1), .val (.int i2), .val (.int i3), s4] [(.int i3)])) _
  refine XS.iloadN X0.here hx rfl (hb hby d1_10) rfl ?_
  show Steps p.tables e below (T0.setTop (mkF m 11 #[.val (.int i0), .val (.ref o1), .val (.int i2), .val (.int i3), s4] [(.int i2), (.int i3)])) _
  refine XS.icmpNo X0.here hx rfl (hb hby d1_11) rfl (tlt hc11).2.1 ?_
  show Steps p.tables e below (T0.setTop (mkF m 14 #[.val (.int i0), .val (.ref o1), .val (.int i2), .val (.int i3), s4] [])) _
  refine XS.aloadN X0.here hx rfl (hb hby d1_14) rfl rfl ?_
  show Steps p.tables e below (T0.setTop (mkF m 15 #[.val (.int i0), .val (.ref o1), .val (.int i2), .val (.int i3), s4] [(.ref o1)])) _
  refine XS.iloadN X0.here hx rfl (hb hby d1_15) rfl ?_
  show Steps p.tables e below (T0.setTop (mkF m 16 #[.val (.int i0), .val (.ref o1), .val (.int i2), .val (.int i3), s4] [(.int i3), (.ref o1)])) _
  refine X0.aaload hx (j := i3) (v := (.ref w2)) (by rw [e0]; exact Ar_o1.1) (State.isArrayOf_alike hZ.alike Ar_o1.2.1) rfl Ar_o1.2.2 hin16 hat16 (g := (mkF m 16 #[.val (.int i0), .val (.ref o1), .val (.int i2), .val (.int i3), s4] [(.int i3), (.ref o1)])) rfl rfl (hb hby d1_16) _ ?_
  show Steps p.tables e below (T0.setTop (mkF m 17 #[.val (.int i0), .val (.ref o1), .val (.int i2), .val (.int i3), s4] [(.ref w2)])) _
  refine XS.astore X0.here hx rfl (hb hby d1_17) rfl rfl (l' := #[.val (.int i0), .val (.ref o1), .val (.int i2), .val (.int i3), .val (.ref w2)]) (os1_17_tT hs4) ?_
  show Steps p.tables e below (T0.setTop (mkF m 19 #[.val (.int i0), .val (.ref o1), .val (.int i2), .val (.int i3), .val (.ref w2)] [])) _
  refine XS.aload X0.here hx rfl (hb hby d1_19) rfl rfl ?_
  show Steps p.tables e below (T0.setTop (mkF m 21 #[.val (.int i0), .val (.ref o1), .val (.int i2), .val (.int i3), .val (.ref w2)] [(.ref w2)])) _
  refine st4 _ ?_
  show Steps p.tables e below (T4.setTop (mkF m 24 #[.val (.int i0), .val (.ref o1), .val (.int i2), .val (.int i3), .val (.ref w2)] [(.int w3)])) _
  refine XS.iloadN X4.here hx rfl (hb hby d1_24) rfl ?_
  show Steps p.tables e below (T4.setTop (mkF m 25 #[.val (.int i0), .val (.ref o1), .val (.int i2), .val (.int i3), .val (.ref w2)] [(.int i0), (.int w3)])) _
  refine XS.icmpYes X4.here hx rfl (pc0 := 25) (pc' := 31) rfl (hb hby d1_25) rfl (feq hc25).2 (by decide) (by decide) ?_
  show Steps p.tables e below (T4.setTop (mkF m 31 #[.val (.int i0), .val (.ref o1), .val (.int i2), .val (.int i3), .val (.ref w2)] [])) _
  refine XS.iinc X4.here hx rfl (hb hby d1_31) rfl (l' := #[.val (.int i0), .val (.ref o1), .val (.int i2), .val (.int (i3 + (1 : Int32))), .val (.ref w2)]) rfl ?_
  show Steps p.tables e below (T4.setTop (mkF m 34 #[.val (.int i0), .val (.ref o1), .val (.int i2), .val (.int (i3 + (1 : Int32))), .val (.ref w2)] [])) _
  refine XS.goto X4.here hx rfl (pc0 := 34) (pc' := 9) rfl (hb hby d1_34) (by decide) (by decide) ?_
  exact kt
theorem os1_17_tF {z0 : Value} {z1 : Value} {z2 : Value} {z3 : Value} {s4 : Slot} {v : Addr} (h : One s4) : storeLocals #[.val z0, .val z1, .val z2, .val z3, s4] 4 (.ref v) = some #[.val z0, .val z1, .val z2, .val z3, .val (.ref v)] := by
  rcases h with rfl | ⟨w, rfl, hw⟩
  · rfl
  · cases w <;> first | rfl | (simp [Value.category] at hw)
set_option maxRecDepth 65536 in
set_option maxHeartbeats 40000000 in
theorem tF {p : Program} {l : Launch} {e : Env} {R : Room} {s : State} {m : MethodId} {args : Array Value} {below : List Frame} {meth : Method} {c : Code} {T0 : State} {locs : List Loc} {cells slots : Nat} {Z : State} {a0 : Array Value} {h0 : Heap} (i0 : Int32) (o1 : Addr) (i2 : Int32) (i3 : Int32) (s4 : Slot) (w2 : Addr) (cl_o1 : Cell) (w3 : Int32)
    (X0 : Stand p l e R s m args below meth c T0 locs cells slots) (hx : p.tables.exec = Jvm.exec) (hZ : Z.Warmed39 s.vm) (hw : ∀ d ∈ tables_1, d.before a0 Z = true) (hby : c.code = prog_134_method_5_code) (hml : c.maxLocals = 5) (hown : s.vm.findClass "com/example/graphsieve/graphsieve/query/SetOperator" = some m.cls) (e0 : T0.heap = h0) (Ar_o1 : Arr Z h0 o1 cl_o1 (.object "com/example/graphsieve/graphsieve/query/SetOperator")) (hin16 : ¬ (i3 < 0 ∨ cl_o1.slots.size ≤ (i3).toNatClampNeg)) (hat16 : cl_o1.slots[(i3).toNatClampNeg]? = some (.ref w2)) (hs4 : One s4) (F_symbol_w2 : Fld Z h0 w2 "com/example/graphsieve/graphsieve/query/SetOperator" "symbol" "C" (.int w3)) (hc11 : i3 < i2) (hc25 : w3 = i0) :
    ∃ (T' : State), Stand p l e R s m args below meth c T' locs cells slots ∧ T'.heap = h0 ∧
      ∀ target, Steps p.tables e below (T'.setTop (mkF m 30 #[.val (.int i0), .val (.ref o1), .val (.int i2), .val (.int i3), .val (.ref w2)] [(.ref w2)])) target → Steps p.tables e below (T0.setTop (mkF m 9 #[.val (.int i0), .val (.ref o1), .val (.int i2), .val (.int i3), s4] [])) target := by
  obtain ⟨T4, X4, e4, st4⟩ := getF X0 hx hZ hown (host := "") (Or.inl (hw _ (List.mem_of_getElem? (i := 21) rfl))) Via.refl e0 F_symbol_w2 (g := (mkF m 21 #[.val (.int i0), .val (.ref o1), .val (.int i2), .val (.int i3), .val (.ref w2)] [(.ref w2)])) rfl rfl (hb hby d1_21)
  refine ⟨T4, X4, e4, fun target kt => ?_⟩
  show Steps p.tables e below (T0.setTop (mkF m 9 #[.val (.int i0), .val (.ref o1), .val (.int i2), .val (.int i3), s4] [])) _
  refine XS.iloadN X0.here hx rfl (hb hby d1_9) rfl ?_
  show Steps p.tables e below (T0.setTop (mkF m 10 #[.val (.int i0), .val (.ref o1), .val (.int i2), .val (.int i3), s4] [(.int i3)])) _
  refine XS.iloadN X0.here hx rfl (hb hby d1_10) rfl ?_
  show Steps p.tables e below (T0.setTop (mkF m 11 #[.val (.int i0), .val (.ref o1), .val (.int i2), .val (.int i3), s4] [(.int i2), (.int i3)])) _
  refine XS.icmpNo X0.here hx rfl (hb hby d1_11) rfl (tlt hc11).2.1 ?_
  show Steps p.tables e below (T0.setTop (mkF m 14 #[.val (.int i0), .val (.ref o1), .val (.int i2), .val (.int i3), s4] [])) _
  refine XS.aloadN X0.here hx rfl (hb hby d1_14) rfl rfl ?_
  show Steps p.tables e below (T0.setTop (mkF m 15 #[.val (.int i0), .val (.ref o1), .val (.int i2), .val (.int i3), s4] [(.ref o1)])) _
  refine XS.iloadN X0.here hx rfl (hb hby d1_15) rfl ?_
  show Steps p.tables e below (T0.setTop (mkF m 16 #[.val (.int i0), .val (.ref o1), .val (.int i2), .val (.int i3), s4] [(.int i3), (.ref o1)])) _
  refine X0.aaload hx (j := i3) (v := (.ref w2)) (by rw [e0]; exact Ar_o1.1) (State.isArrayOf_alike hZ.alike Ar_o1.2.1) rfl Ar_o1.2.2 hin16 hat16 (g := (mkF m 16 #[.val (.int i0), .val (.ref o1), .val (.int i2), .val (.int i3), s4] [(.int i3), (.ref o1)])) rfl rfl (hb hby d1_16) _ ?_
  show Steps p.tables e below (T0.setTop (mkF m 17 #[.val (.int i0), .val (.ref o1), .val (.int i2), .val (.int i3), s4] [(.ref w2)])) _
  refine XS.astore X0.here hx rfl (hb hby d1_17) rfl rfl (l' := #[.val (.int i0), .val (.ref o1), .val (.int i2), .val (.int i3), .val (.ref w2)]) (os1_17_tF hs4) ?_
  show Steps p.tables e below (T0.setTop (mkF m 19 #[.val (.int i0), .val (.ref o1), .val (.int i2), .val (.int i3), .val (.ref w2)] [])) _
  refine XS.aload X0.here hx rfl (hb hby d1_19) rfl rfl ?_
  show Steps p.tables e below (T0.setTop (mkF m 21 #[.val (.int i0), .val (.ref o1), .val (.int i2), .val (.int i3), .val (.ref w2)] [(.ref w2)])) _
  refine st4 _ ?_
  show Steps p.tables e below (T4.setTop (mkF m 24 #[.val (.int i0), .val (.ref o1), .val (.int i2), .val (.int i3), .val (.ref w2)] [(.int w3)])) _
  refine XS.iloadN X4.here hx rfl (hb hby d1_24) rfl ?_
  show Steps p.tables e below (T4.setTop (mkF m 25 #[.val (.int i0), .val (.ref o1), .val (.int i2), .val (.int i3), .val (.ref w2)] [(.int i0), (.int w3)])) _
  refine XS.icmpNo X4.here hx rfl (hb hby d1_25) rfl (teq hc25).2 ?_
  show Steps p.tables e below (T4.setTop (mkF m 28 #[.val (.int i0), .val (.ref o1), .val (.int i2), .val (.int i3), .val (.ref w2)] [])) _
  refine XS.aload X4.here hx rfl (hb hby d1_28) rfl rfl ?_
  exact kt
set_option maxRecDepth 65536 in
set_option maxHeartbeats 40000000 in
theorem tX {p : Program} {l : Launch} {e : Env} {R : Room} {s : State} {m : MethodId} {args : Array Value} {below : List Frame} {meth : Method} {c : Code} {T0 : State} {locs : List Loc} {cells slots : Nat} {Z : State} {a0 : Array Value} {h0 : Heap} (s0 : Slot) (s1 : Slot) (i2 : Int32) (i3 : Int32) (s4 : Slot)
    (X0 : Stand p l e R s m args below meth c T0 locs cells slots) (hx : p.tables.exec = Jvm.exec) (hZ : Z.Warmed39 s.vm) (hw : ∀ d ∈ tables_1, d.before a0 Z = true) (hby : c.code = prog_134_method_5_code) (hml : c.maxLocals = 5) (hown : s.vm.findClass "com/example/graphsieve/graphsieve/query/SetOperator" = some m.cls) (e0 : T0.heap = h0) (hc11 : ¬ (i3 < i2)) :
    ∃ (T' : State), Stand p l e R s m args below meth c T' locs cells slots ∧ T'.heap = h0 ∧
      ∀ target, Steps p.tables e below (T'.setTop (mkF m 37 #[s0, s1, .val (.int i2), .val (.int i3), s4] [])) target → Steps p.tables e below (T0.setTop (mkF m 9 #[s0, s1, .val (.int i2), .val (.int i3), s4] [])) target := by

  refine ⟨T0, X0, e0, fun target kt => ?_⟩
  show Steps p.tables e below (T0.setTop (mkF m 9 #[s0, s1, .val (.int i2), .val (.int i3), s4] [])) _
  refine XS.iloadN X0.here hx rfl (hb hby d1_9) rfl ?_
  show Steps p.tables e below (T0.setTop (mkF m 10 #[s0, s1, .val (.int i2), .val (.int i3), s4] [(.int i3)])) _
  refine XS.iloadN X0.here hx rfl (hb hby d1_10) rfl ?_
  show Steps p.tables e below (T0.setTop (mkF m 11 #[s0, s1, .val (.int i2), .val (.int i3), s4] [(.int i2), (.int i3)])) _
  refine XS.icmpYes X0.here hx rfl (pc0 := 11) (pc' := 37) rfl (hb hby d1_11) rfl (flt hc11).2.1 (by decide) (by decide) ?_
  exact kt
def exV (c : Int32) (aI aU aE : Addr) : Value := if c = (94 : Int32) then .ref aI else if c = (43 : Int32) then .ref aU else if c = (45 : Int32) then .ref aE else .null
theorem exV_ref (c : Int32) (aI aU aE : Addr) : (exV c aI aU aE).isRef = true := by
  unfold exV
  split
  · rfl
  · split
    · rfl
    · split <;> rfl
def QV (w : Value) (n0 : Nat) (v : Option Value) (h : Heap) (L : List Loc) : Prop := v = some w ∧ Fr n0 L
set_option maxRecDepth 65536 in
set_option maxHeartbeats 40000000 in
theorem rm1 (l : Launch) (Z : State) (a0 : Array Value) (hw : ∀ d ∈ tables_1, d.before a0 Z = true) (ws : List Jvm.Cond) (p1 : Int32) (w1 : Addr) (cl : Cell) (aI aU aE : Addr) (h0 : Heap) (n0 : Nat) (Z0 : n0 ≤ h0.size) (S__VALUES : Sta Z h0 "com/example/graphsieve/graphsieve/query/SetOperator" "$VALUES" "[Lcom/example/graphsieve/graphsieve/query/SetOperator;" (.ref w1)) (Ar : Arr Z h0 w1 cl (.object "com/example/graphsieve/graphsieve/query/SetOperator")) (Ex : Exa Z h0 w1 "[Lcom/example/graphsieve/graphsieve/query/SetOperator;") (Fc : FitC Z cl) (hsz : cl.slots.size = 3) (hI : cl.slots[0]? = some (.ref aI)) (hU : cl.slots[1]? = some (.ref aU)) (hE : cl.slots[2]? = some (.ref aE)) (FI : Fld Z h0 aI "com/example/graphsieve/graphsieve/query/SetOperator" "symbol" "C" (.int 94)) (FU : Fld Z h0 aU "com/example/graphsieve/graphsieve/query/SetOperator" "symbol" "C" (.int 43)) (FE : Fld Z h0 aE "com/example/graphsieve/graphsieve/query/SetOperator" "symbol" "C" (.int 45)) :
    MetFree l (⟨"com/example/graphsieve/graphsieve/query/SetOperator", "withSymbol", "(C)Lcom/example/graphsieve/graphsieve/query/SetOperator;"⟩ : MethodName) (head1 (Jvm.Cond.code (⟨"com/example/graphsieve/graphsieve/query/SetOperator", "withSymbol", "(C)Lcom/example/graphsieve/graphsieve/query/SetOperator;"⟩ : MethodName) prog_134_method_5_code 5 (some (.object "com/example/graphsieve/graphsieve/query/SetOperator")) :: ws) ({ frames := 2, cells := 1, slots := 3, locals := 25 } : Room)) (fun a U => a = #[(.int p1)] ∧ Z.Warmed39 U.vm ∧ U.heap = h0) (fun _ _ _ _ _ => True) (fun _ U o U' => ∃ v L, o = .returned v ∧ QV (exV p1 aI aU aE) n0 v U'.heap L ∧ FrameEnd U o U' L ({ frames := 2, cells := 1, slots := 3, locals := 25 } : Room).cells ({ frames := 2, cells := 1, slots := 3, locals := 25 } : Room).slots) := by
  refine MetFree.of_bodySF (plainFor_of_name pn_1) hisR ?_
  intro p e s m args below meth c s₁ Bd hml0 hP hK
  obtain ⟨rfl, hZ, hh⟩ := hP
  have hx := Bd.exec
  have hby := Bd.bytes
  have hml : c.maxLocals = 5 := hml0
  have hown : s.vm.findClass "com/example/graphsieve/graphsieve/query/SetOperator" = some m.cls := findClass_of_methodNamed Bd.named
  have hnm := (name_of_methodNamed Bd.named Bd.method).1
  have X0 : Stand p l e ({ frames := 2, cells := 1, slots := 3, locals := 25 } : Room) s m #[(.int p1)] below meth c s₁ [] 0 0 := Stand.of_body Bd
  have e0 : s₁.heap = h0 := by rw [← hh, Bd.state]; rfl
  have N0 := Fr.nil n0
  have pre0 : ∀ t, Steps p.tables e below (s₁.setTop (mkF m 0 #[.val (.int p1), .unset, .unset, .unset, .unset] [])) t → Steps p.tables e below (s₁.setTop (entryFrame m #[(.int p1)] 5)) t := fun t k => castTop (ef_1 m p1) k
  obtain ⟨T1, L1, X1, N1, E1, A1, st1⟩ := tV _ _ _ _ _ w1 cl X0 hx hZ hw hby hml hown e0 Z0 S__VALUES Ar Ex Fc hsz One.u One.u One.u
  have GI := FI.ext E1
  have GU := FU.ext E1
  have GE := FE.ext E1
  have in0 : ¬ ((0 : Int32) < 0 ∨ (cloneOf cl).slots.size ≤ (0 : Int32).toNatClampNeg) := by show ¬ (_ ∨ cl.slots.size ≤ _); rw [hsz]; decide
  have in1 : ¬ ((0 : Int32) + (1 : Int32) < 0 ∨ (cloneOf cl).slots.size ≤ ((0 : Int32) + (1 : Int32)).toNatClampNeg) := by show ¬ (_ ∨ cl.slots.size ≤ _); rw [hsz]; decide
  have in2 : ¬ ((0 : Int32) + (1 : Int32) + (1 : Int32) < 0 ∨ (cloneOf cl).slots.size ≤ ((0 : Int32) + (1 : Int32) + (1 : Int32)).toNatClampNeg) := by show ¬ (_ ∨ cl.slots.size ≤ _); rw [hsz]; decide
  by_cases c0 : p1 = (94 : Int32)
  · obtain ⟨T2, X2, e2, st2⟩ := tF p1 h0.size 3 0 _ aI _ 94 X1 hx hZ hw hby hml hown rfl A1 in0 hI One.u GI (by decide) c0.symm
    obtain ⟨fs, hr, hrun, hended, hW, hsame⟩ := X2.leave (v := some (.ref aI)) (fun h => by rw [Bd.returns] at h; cases h)
    refine ⟨_, _, pre0 _ ?_, hrun, hended, _, _, rfl, ?_, ⟨_, rfl⟩, hW, hsame.mono (by decide) (by decide)⟩
    · refine st1 _ (st2 _ ?_)
      jvm_step X2.here [X2.here.top, hx, (hb hby d1_30), X2.method', Bd.returns, Value.isRef, FieldType.isReference]
      first | (intro acts; rw [hr _ acts rfl rfl rfl]) | rw [hr _ _ rfl rfl rfl]
      exact Steps.refl _
    · exact ⟨by unfold exV; rw [if_pos c0], Fr.app N0 N1⟩
  · obtain ⟨T2, X2, e2, st2⟩ := tT p1 h0.size 3 0 _ aI _ 94 X1 hx hZ hw hby hml hown rfl A1 in0 hI One.u GI (by decide) (fun q => c0 q.symm)
    by_cases c1 : p1 = (43 : Int32)
    · obtain ⟨T3, X3, e3, st3⟩ := tF p1 h0.size 3 (0 + 1) _ aU _ 43 X2 hx hZ hw hby hml hown e2 A1 in1 hU (One.val (w := .ref aI) rfl) GU (by decide) c1.symm
      obtain ⟨fs, hr, hrun, hended, hW, hsame⟩ := X3.leave (v := some (.ref aU)) (fun h => by rw [Bd.returns] at h; cases h)
      refine ⟨_, _, pre0 _ ?_, hrun, hended, _, _, rfl, ?_, ⟨_, rfl⟩, hW, hsame.mono (by decide) (by decide)⟩
      · refine st1 _ (st2 _ (st3 _ ?_))
        jvm_step X3.here [X3.here.top, hx, (hb hby d1_30), X3.method', Bd.returns, Value.isRef, FieldType.isReference]
        first | (intro acts; rw [hr _ acts rfl rfl rfl]) | rw [hr _ _ rfl rfl rfl]
        exact Steps.refl _
      · exact ⟨by unfold exV; rw [if_neg c0, if_pos c1], Fr.app N0 N1⟩
    · obtain ⟨T3, X3, e3, st3⟩ := tT p1 h0.size 3 (0 + 1) _ aU _ 43 X2 hx hZ hw hby hml hown e2 A1 in1 hU (One.val (w := .ref aI) rfl) GU (by decide) (fun q => c1 q.symm)
      by_cases c2 : p1 = (45 : Int32)
      · obtain ⟨T4, X4, e4, st4⟩ := tF p1 h0.size 3 (0 + 1 + 1) _ aE _ 45 X3 hx hZ hw hby hml hown e3 A1 in2 hE (One.val (w := .ref aU) rfl) GE (by decide) c2.symm
        obtain ⟨fs, hr, hrun, hended, hW, hsame⟩ := X4.leave (v := some (.ref aE)) (fun h => by rw [Bd.returns] at h; cases h)
        refine ⟨_, _, pre0 _ ?_, hrun, hended, _, _, rfl, ?_, ⟨_, rfl⟩, hW, hsame.mono (by decide) (by decide)⟩
        · refine st1 _ (st2 _ (st3 _ (st4 _ ?_)))
          jvm_step X4.here [X4.here.top, hx, (hb hby d1_30), X4.method', Bd.returns, Value.isRef, FieldType.isReference]
          first | (intro acts; rw [hr _ acts rfl rfl rfl]) | rw [hr _ _ rfl rfl rfl]
          exact Steps.refl _
        · exact ⟨by unfold exV; rw [if_neg c0, if_neg c1, if_pos c2], Fr.app N0 N1⟩
      · obtain ⟨T4, X4, e4, st4⟩ := tT p1 h0.size 3 (0 + 1 + 1) _ aE _ 45 X3 hx hZ hw hby hml hown e3 A1 in2 hE (One.val (w := .ref aU) rfl) GE (by decide) (fun q => c2 q.symm)
        obtain ⟨T5, X5, e5, st5⟩ := tX _ _ 3 (0 + 1 + 1 + 1) _ X4 hx hZ hw hby hml hown e4 (by decide)
        obtain ⟨fs, hr, hrun, hended, hW, hsame⟩ := X5.leave (v := some .null) (fun h => by rw [Bd.returns] at h; cases h)
        refine ⟨_, _, pre0 _ ?_, hrun, hended, _, _, rfl, ?_, ⟨_, rfl⟩, hW, hsame.mono (by decide) (by decide)⟩
        · refine st1 _ (st2 _ (st3 _ (st4 _ (st5 _ ?_))))
          refine XS.aconstNull X5.here hx rfl (hb hby d1_37) ?_
          jvm_step X5.here [X5.here.top, hx, (hb hby d1_38), X5.method', Bd.returns, Value.isRef, FieldType.isReference]
          first | (intro acts; rw [hr _ acts rfl rfl rfl]) | rw [hr _ _ rfl rfl rfl]
          exact Steps.refl _
        · exact ⟨by unfold exV; rw [if_neg c0, if_neg c1, if_neg c2], Fr.app N0 N1⟩
theorem pd_0_0 : parseMethodDescriptor "(C)Lcom/example/graphsieve/graphsieve/query/SetOperator;" = some ⟨[.char], some (.object "com/example/graphsieve/graphsieve/query/SetOperator")⟩ := by decide +kernel
theorem os0_3_tAf {z0 : Value} {s1 : Slot} {s2 : Slot} {s3 : Slot} {s4 : Slot} {v : Int32} (h : One s2) : storeLocals #[.val z0, s1, s2, s3, s4] 2 (.int v) = some #[.val z0, s1, .val (.int v), s3, s4] := by
  rcases h with rfl | ⟨w, rfl, hw⟩
  · rfl
  · cases w <;> first | rfl | (simp [Value.category] at hw)
theorem os0_10_tAf {z0 : Value} {s1 : Slot} {z2 : Value} {s3 : Slot} {s4 : Slot} {v : Int32} (h : One s3) : storeLocals #[.val z0, s1, .val z2, s3, s4] 3 (.int v) = some #[.val z0, s1, .val z2, .val (.int v), s4] := by
  rcases h with rfl | ⟨w, rfl, hw⟩
  · rfl
  · cases w <;> first | rfl | (simp [Value.category] at hw)
set_option maxRecDepth 65536 in
set_option maxHeartbeats 40000000 in
theorem tAf {p : Program} {l : Launch} {e : Env} {R : Room} {s : State} {m : MethodId} {args : Array Value} {below : List Frame} {meth : Method} {c : Code} {T0 : State} {locs : List Loc} {cells slots : Nat} {Z : State} {a0 : Array Value} {h0 : Heap} (i0 : Int32) (s1 : Slot) (s2 : Slot) (s3 : Slot) (s4 : Slot)
    (X0 : Stand p l e R s m args below meth c T0 locs cells slots) (hx : p.tables.exec = Jvm.exec) (hZ : Z.Warmed39 s.vm) (hw : ∀ d ∈ tables_1, d.before a0 Z = true) (hby : c.code = code) (hml : c.maxLocals = 5) (hown : s.vm.findClass "com/example/graphsieve/graphsieve/query/SetOperatorWithSymbolPinLaw" = some m.cls) (e0 : T0.heap = h0) (hs2 : One s2) (hs3 : One s3) (hc5 : (i0 &&& (3 : Int32)) = (0 : Int32)) :
    ∃ (T' : State), Stand p l e R s m args below meth c T' locs cells slots ∧ T'.heap = h0 ∧
      ∀ target, Steps p.tables e below (T'.setTop (mkF m 39 #[.val (.int i0), s1, .val (.int (i0 &&& (3 : Int32))), .val (.int (94 : Int32)), s4] [])) target → Steps p.tables e below (T0.setTop (mkF m 0 #[.val (.int i0), s1, s2, s3, s4] [])) target := by

  refine ⟨T0, X0, e0, fun target kt => ?_⟩
  show Steps p.tables e below (T0.setTop (mkF m 0 #[.val (.int i0), s1, s2, s3, s4] [])) _
  refine XS.iloadN X0.here hx rfl (hb hby at_0) rfl ?_
  show Steps p.tables e below (T0.setTop (mkF m 1 #[.val (.int i0), s1, s2, s3, s4] [(.int i0)])) _
  refine XS.iconst X0.here hx rfl (hb hby at_1) ?_
  show Steps p.tables e below (T0.setTop (mkF m 2 #[.val (.int i0), s1, s2, s3, s4] [(.int (3 : Int32)), (.int i0)])) _
  refine XS.iand X0.here hx rfl (hb hby at_2) rfl ?_
  show Steps p.tables e below (T0.setTop (mkF m 3 #[.val (.int i0), s1, s2, s3, s4] [(.int (i0 &&& (3 : Int32)))])) _
  refine XS.istoreN X0.here hx rfl (hb hby at_3) rfl (l' := #[.val (.int i0), s1, .val (.int (i0 &&& (3 : Int32))), s3, s4]) (os0_3_tAf hs2) ?_
  show Steps p.tables e below (T0.setTop (mkF m 4 #[.val (.int i0), s1, .val (.int (i0 &&& (3 : Int32))), s3, s4] [])) _
  refine XS.iloadN X0.here hx rfl (hb hby at_4) rfl ?_
  show Steps p.tables e below (T0.setTop (mkF m 5 #[.val (.int i0), s1, .val (.int (i0 &&& (3 : Int32))), s3, s4] [(.int (i0 &&& (3 : Int32)))])) _
  refine XS.ifNo X0.here hx rfl (hb hby at_5) rfl ((if0 _ _).trans (teq hc5).2) ?_
  show Steps p.tables e below (T0.setTop (mkF m 8 #[.val (.int i0), s1, .val (.int (i0 &&& (3 : Int32))), s3, s4] [])) _
  refine XS.bipush X0.here hx rfl (hb hby at_8) ?_
  show Steps p.tables e below (T0.setTop (mkF m 10 #[.val (.int i0), s1, .val (.int (i0 &&& (3 : Int32))), s3, s4] [(.int (94 : Int32))])) _
  refine XS.istoreN X0.here hx rfl (hb hby at_10) rfl (l' := #[.val (.int i0), s1, .val (.int (i0 &&& (3 : Int32))), .val (.int (94 : Int32)), s4]) (os0_10_tAf hs3) ?_
  show Steps p.tables e below (T0.setTop (mkF m 11 #[.val (.int i0), s1, .val (.int (i0 &&& (3 : Int32))), .val (.int (94 : Int32)), s4] [])) _
  refine XS.goto X0.here hx rfl (pc0 := 11) (pc' := 39) rfl (hb hby at_11) (by decide) (by decide) ?_
  exact kt
theorem os0_3_tAtf {z0 : Value} {s1 : Slot} {s2 : Slot} {s3 : Slot} {s4 : Slot} {v : Int32} (h : One s2) : storeLocals #[.val z0, s1, s2, s3, s4] 2 (.int v) = some #[.val z0, s1, .val (.int v), s3, s4] := by
  rcases h with rfl | ⟨w, rfl, hw⟩
  · rfl
  · cases w <;> first | rfl | (simp [Value.category] at hw)
theorem os0_21_tAtf {z0 : Value} {s1 : Slot} {z2 : Value} {s3 : Slot} {s4 : Slot} {v : Int32} (h : One s3) : storeLocals #[.val z0, s1, .val z2, s3, s4] 3 (.int v) = some #[.val z0, s1, .val z2, .val (.int v), s4] := by
  rcases h with rfl | ⟨w, rfl, hw⟩
  · rfl
  · cases w <;> first | rfl | (simp [Value.category] at hw)
set_option maxRecDepth 65536 in
set_option maxHeartbeats 40000000 in
theorem tAtf {p : Program} {l : Launch} {e : Env} {R : Room} {s : State} {m : MethodId} {args : Array Value} {below : List Frame} {meth : Method} {c : Code} {T0 : State} {locs : List Loc} {cells slots : Nat} {Z : State} {a0 : Array Value} {h0 : Heap} (i0 : Int32) (s1 : Slot) (s2 : Slot) (s3 : Slot) (s4 : Slot)
    (X0 : Stand p l e R s m args below meth c T0 locs cells slots) (hx : p.tables.exec = Jvm.exec) (hZ : Z.Warmed39 s.vm) (hw : ∀ d ∈ tables_1, d.before a0 Z = true) (hby : c.code = code) (hml : c.maxLocals = 5) (hown : s.vm.findClass "com/example/graphsieve/graphsieve/query/SetOperatorWithSymbolPinLaw" = some m.cls) (e0 : T0.heap = h0) (hs2 : One s2) (hs3 : One s3) (hc5 : ¬ ((i0 &&& (3 : Int32)) = (0 : Int32))) (hc16 : (i0 &&& (3 : Int32)) = (1 : Int32)) :
    ∃ (T' : State), Stand p l e R s m args below meth c T' locs cells slots ∧ T'.heap = h0 ∧
      ∀ target, Steps p.tables e below (T'.setTop (mkF m 39 #[.val (.int i0), s1, .val (.int (i0 &&& (3 : Int32))), .val (.int (43 : Int32)), s4] [])) target → Steps p.tables e below (T0.setTop (mkF m 0 #[.val (.int i0), s1, s2, s3, s4] [])) target := by

  refine ⟨T0, X0, e0, fun target kt => ?_⟩
  show Steps p.tables e below (T0.setTop (mkF m 0 #[.val (.int i0), s1, s2, s3, s4] [])) _
  refine XS.iloadN X0.here hx rfl (hb hby at_0) rfl ?_
  show Steps p.tables e below (T0.setTop (mkF m 1 #[.val (.int i0), s1, s2, s3, s4] [(.int i0)])) _
  refine XS.iconst X0.here hx rfl (hb hby at_1) ?_
  show Steps p.tables e below (T0.setTop (mkF m 2 #[.val (.int i0), s1, s2, s3, s4] [(.int (3 : Int32)), (.int i0)])) _
  refine XS.iand X0.here hx rfl (hb hby at_2) rfl ?_
  show Steps p.tables e below (T0.setTop (mkF m 3 #[.val (.int i0), s1, s2, s3, s4] [(.int (i0 &&& (3 : Int32)))])) _
  refine XS.istoreN X0.here hx rfl (hb hby at_3) rfl (l' := #[.val (.int i0), s1, .val (.int (i0 &&& (3 : Int32))), s3, s4]) (os0_3_tAtf hs2) ?_
  show Steps p.tables e below (T0.setTop (mkF m 4 #[.val (.int i0), s1, .val (.int (i0 &&& (3 : Int32))), s3, s4] [])) _
  refine XS.iloadN X0.here hx rfl (hb hby at_4) rfl ?_
  show Steps p.tables e below (T0.setTop (mkF m 5 #[.val (.int i0), s1, .val (.int (i0 &&& (3 : Int32))), s3, s4] [(.int (i0 &&& (3 : Int32)))])) _
  refine XS.ifYes X0.here hx rfl (pc0 := 5) (pc' := 14) rfl (hb hby at_5) rfl ((if0 _ _).trans (feq hc5).2) (by decide) (by decide) ?_
  show Steps p.tables e below (T0.setTop (mkF m 14 #[.val (.int i0), s1, .val (.int (i0 &&& (3 : Int32))), s3, s4] [])) _
  refine XS.iloadN X0.here hx rfl (hb hby at_14) rfl ?_
  show Steps p.tables e below (T0.setTop (mkF m 15 #[.val (.int i0), s1, .val (.int (i0 &&& (3 : Int32))), s3, s4] [(.int (i0 &&& (3 : Int32)))])) _
  refine XS.iconst X0.here hx rfl (hb hby at_15) ?_
  show Steps p.tables e below (T0.setTop (mkF m 16 #[.val (.int i0), s1, .val (.int (i0 &&& (3 : Int32))), s3, s4] [(.int (1 : Int32)), (.int (i0 &&& (3 : Int32)))])) _
  refine XS.icmpNo X0.here hx rfl (hb hby at_16) rfl (teq hc16).2 ?_
  show Steps p.tables e below (T0.setTop (mkF m 19 #[.val (.int i0), s1, .val (.int (i0 &&& (3 : Int32))), s3, s4] [])) _
  refine XS.bipush X0.here hx rfl (hb hby at_19) ?_
  show Steps p.tables e below (T0.setTop (mkF m 21 #[.val (.int i0), s1, .val (.int (i0 &&& (3 : Int32))), s3, s4] [(.int (43 : Int32))])) _
  refine XS.istoreN X0.here hx rfl (hb hby at_21) rfl (l' := #[.val (.int i0), s1, .val (.int (i0 &&& (3 : Int32))), .val (.int (43 : Int32)), s4]) (os0_21_tAtf hs3) ?_
  show Steps p.tables e below (T0.setTop (mkF m 22 #[.val (.int i0), s1, .val (.int (i0 &&& (3 : Int32))), .val (.int (43 : Int32)), s4] [])) _
  refine XS.goto X0.here hx rfl (pc0 := 22) (pc' := 39) rfl (hb hby at_22) (by decide) (by decide) ?_
  exact kt
theorem os0_3_tAttf {z0 : Value} {s1 : Slot} {s2 : Slot} {s3 : Slot} {s4 : Slot} {v : Int32} (h : One s2) : storeLocals #[.val z0, s1, s2, s3, s4] 2 (.int v) = some #[.val z0, s1, .val (.int v), s3, s4] := by
  rcases h with rfl | ⟨w, rfl, hw⟩
  · rfl
  · cases w <;> first | rfl | (simp [Value.category] at hw)
theorem os0_32_tAttf {z0 : Value} {s1 : Slot} {z2 : Value} {s3 : Slot} {s4 : Slot} {v : Int32} (h : One s3) : storeLocals #[.val z0, s1, .val z2, s3, s4] 3 (.int v) = some #[.val z0, s1, .val z2, .val (.int v), s4] := by
  rcases h with rfl | ⟨w, rfl, hw⟩
  · rfl
  · cases w <;> first | rfl | (simp [Value.category] at hw)
set_option maxRecDepth 65536 in
set_option maxHeartbeats 40000000 in
theorem tAttf {p : Program} {l : Launch} {e : Env} {R : Room} {s : State} {m : MethodId} {args : Array Value} {below : List Frame} {meth : Method} {c : Code} {T0 : State} {locs : List Loc} {cells slots : Nat} {Z : State} {a0 : Array Value} {h0 : Heap} (i0 : Int32) (s1 : Slot) (s2 : Slot) (s3 : Slot) (s4 : Slot)
    (X0 : Stand p l e R s m args below meth c T0 locs cells slots) (hx : p.tables.exec = Jvm.exec) (hZ : Z.Warmed39 s.vm) (hw : ∀ d ∈ tables_1, d.before a0 Z = true) (hby : c.code = code) (hml : c.maxLocals = 5) (hown : s.vm.findClass "com/example/graphsieve/graphsieve/query/SetOperatorWithSymbolPinLaw" = some m.cls) (e0 : T0.heap = h0) (hs2 : One s2) (hs3 : One s3) (hc5 : ¬ ((i0 &&& (3 : Int32)) = (0 : Int32))) (hc16 : ¬ ((i0 &&& (3 : Int32)) = (1 : Int32))) (hc27 : (i0 &&& (3 : Int32)) = (2 : Int32)) :
    ∃ (T' : State), Stand p l e R s m args below meth c T' locs cells slots ∧ T'.heap = h0 ∧
      ∀ target, Steps p.tables e below (T'.setTop (mkF m 39 #[.val (.int i0), s1, .val (.int (i0 &&& (3 : Int32))), .val (.int (45 : Int32)), s4] [])) target → Steps p.tables e below (T0.setTop (mkF m 0 #[.val (.int i0), s1, s2, s3, s4] [])) target := by

  refine ⟨T0, X0, e0, fun target kt => ?_⟩
  show Steps p.tables e below (T0.setTop (mkF m 0 #[.val (.int i0), s1, s2, s3, s4] [])) _
  refine XS.iloadN X0.here hx rfl (hb hby at_0) rfl ?_
  show Steps p.tables e below (T0.setTop (mkF m 1 #[.val (.int i0), s1, s2, s3, s4] [(.int i0)])) _
  refine XS.iconst X0.here hx rfl (hb hby at_1) ?_
  show Steps p.tables e below (T0.setTop (mkF m 2 #[.val (.int i0), s1, s2, s3, s4] [(.int (3 : Int32)), (.int i0)])) _
  refine XS.iand X0.here hx rfl (hb hby at_2) rfl ?_
  show Steps p.tables e below (T0.setTop (mkF m 3 #[.val (.int i0), s1, s2, s3, s4] [(.int (i0 &&& (3 : Int32)))])) _
  refine XS.istoreN X0.here hx rfl (hb hby at_3) rfl (l' := #[.val (.int i0), s1, .val (.int (i0 &&& (3 : Int32))), s3, s4]) (os0_3_tAttf hs2) ?_
  show Steps p.tables e below (T0.setTop (mkF m 4 #[.val (.int i0), s1, .val (.int (i0 &&& (3 : Int32))), s3, s4] [])) _
  refine XS.iloadN X0.here hx rfl (hb hby at_4) rfl ?_
  show Steps p.tables e below (T0.setTop (mkF m 5 #[.val (.int i0), s1, .val (.int (i0 &&& (3 : Int32))), s3, s4] [(.int (i0 &&& (3 : Int32)))])) _
  refine XS.ifYes X0.here hx rfl (pc0 := 5) (pc' := 14) rfl (hb hby at_5) rfl ((if0 _ _).trans (feq hc5).2) (by decide) (by decide) ?_
  show Steps p.tables e below (T0.setTop (mkF m 14 #[.val (.int i0), s1, .val (.int (i0 &&& (3 : Int32))), s3, s4] [])) _
  refine XS.iloadN X0.here hx rfl (hb hby at_14) rfl ?_
  show Steps p.tables e below (T0.setTop (mkF m 15 #[.val (.int i0), s1, .val (.int (i0 &&& (3 : Int32))), s3, s4] [(.int (i0 &&& (3 : Int32)))])) _
  refine XS.iconst X0.here hx rfl (hb hby at_15) ?_
  show Steps p.tables e below (T0.setTop (mkF m 16 #[.val (.int i0), s1, .val (.int (i0 &&& (3 : Int32))), s3, s4] [(.int (1 : Int32)), (.int (i0 &&& (3 : Int32)))])) _
  refine XS.icmpYes X0.here hx rfl (pc0 := 16) (pc' := 25) rfl (hb hby at_16) rfl (feq hc16).2 (by decide) (by decide) ?_
  show Steps p.tables e below (T0.setTop (mkF m 25 #[.val (.int i0), s1, .val (.int (i0 &&& (3 : Int32))), s3, s4] [])) _
  refine XS.iloadN X0.here hx rfl (hb hby at_25) rfl ?_
  show Steps p.tables e below (T0.setTop (mkF m 26 #[.val (.int i0), s1, .val (.int (i0 &&& (3 : Int32))), s3, s4] [(.int (i0 &&& (3 : Int32)))])) _
  refine XS.iconst X0.here hx rfl (hb hby at_26) ?_
  show Steps p.tables e below (T0.setTop (mkF m 27 #[.val (.int i0), s1, .val (.int (i0 &&& (3 : Int32))), s3, s4] [(.int (2 : Int32)), (.int (i0 &&& (3 : Int32)))])) _
  refine XS.icmpNo X0.here hx rfl (hb hby at_27) rfl (teq hc27).2 ?_
  show Steps p.tables e below (T0.setTop (mkF m 30 #[.val (.int i0), s1, .val (.int (i0 &&& (3 : Int32))), s3, s4] [])) _
  refine XS.bipush X0.here hx rfl (hb hby at_30) ?_
  show Steps p.tables e below (T0.setTop (mkF m 32 #[.val (.int i0), s1, .val (.int (i0 &&& (3 : Int32))), s3, s4] [(.int (45 : Int32))])) _
  refine XS.istoreN X0.here hx rfl (hb hby at_32) rfl (l' := #[.val (.int i0), s1, .val (.int (i0 &&& (3 : Int32))), .val (.int (45 : Int32)), s4]) (os0_32_tAttf hs3) ?_
  show Steps p.tables e below (T0.setTop (mkF m 33 #[.val (.int i0), s1, .val (.int (i0 &&& (3 : Int32))), .val (.int (45 : Int32)), s4] [])) _
  refine XS.goto X0.here hx rfl (pc0 := 33) (pc' := 39) rfl (hb hby at_33) (by decide) (by decide) ?_
  exact kt
theorem os0_3_tAttt {z0 : Value} {z1 : Value} {s2 : Slot} {s3 : Slot} {s4 : Slot} {v : Int32} (h : One s2) : storeLocals #[.val z0, .val z1, s2, s3, s4] 2 (.int v) = some #[.val z0, .val z1, .val (.int v), s3, s4] := by
  rcases h with rfl | ⟨w, rfl, hw⟩
  · rfl
  · cases w <;> first | rfl | (simp [Value.category] at hw)
theorem os0_38_tAttt {z0 : Value} {z1 : Value} {z2 : Value} {s3 : Slot} {s4 : Slot} {v : Int32} (h : One s3) : storeLocals #[.val z0, .val z1, .val z2, s3, s4] 3 (.int v) = some #[.val z0, .val z1, .val z2, .val (.int v), s4] := by
  rcases h with rfl | ⟨w, rfl, hw⟩
  · rfl
  · cases w <;> first | rfl | (simp [Value.category] at hw)
set_option maxRecDepth 65536 in
set_option maxHeartbeats 40000000 in
theorem tAttt {p : Program} {l : Launch} {e : Env} {R : Room} {s : State} {m : MethodId} {args : Array Value} {below : List Frame} {meth : Method} {c : Code} {T0 : State} {locs : List Loc} {cells slots : Nat} {Z : State} {a0 : Array Value} {h0 : Heap} (i0 : Int32) (i1 : Int32) (s2 : Slot) (s3 : Slot) (s4 : Slot)
    (X0 : Stand p l e R s m args below meth c T0 locs cells slots) (hx : p.tables.exec = Jvm.exec) (hZ : Z.Warmed39 s.vm) (hw : ∀ d ∈ tables_1, d.before a0 Z = true) (hby : c.code = code) (hml : c.maxLocals = 5) (hown : s.vm.findClass "com/example/graphsieve/graphsieve/query/SetOperatorWithSymbolPinLaw" = some m.cls) (e0 : T0.heap = h0) (hs2 : One s2) (hs3 : One s3) (hc5 : ¬ ((i0 &&& (3 : Int32)) = (0 : Int32))) (hc16 : ¬ ((i0 &&& (3 : Int32)) = (1 : Int32))) (hc27 : ¬ ((i0 &&& (3 : Int32)) = (2 : Int32))) :
    ∃ (T' : State), Stand p l e R s m args below meth c T' locs cells slots ∧ T'.heap = h0 ∧
      ∀ target, Steps p.tables e below (T'.setTop (mkF m 39 #[.val (.int i0), .val (.int i1), .val (.int (i0 &&& (3 : Int32))), .val (.int (i1.toUInt32.toUInt16.toUInt32.toInt32)), s4] [])) target → Steps p.tables e below (T0.setTop (mkF m 0 #[.val (.int i0), .val (.int i1), s2, s3, s4] [])) target := by

  refine ⟨T0, X0, e0, fun target kt => ?_⟩
  show Steps p.tables e below (T0.setTop (mkF m 0 #[.val (.int i0), .val (.int i1), s2, s3, s4] [])) _
  refine XS.iloadN X0.here hx rfl (hb hby at_0) rfl ?_
  show Steps p.tables e below (T0.setTop (mkF m 1 #[.val (.int i0), .val (.int i1), s2, s3, s4] [(.int i0)])) _
  refine XS.iconst X0.here hx rfl (hb hby at_1) ?_
  show Steps p.tables e below (T0.setTop (mkF m 2 #[.val (.int i0), .val (.int i1), s2, s3, s4] [(.int (3 : Int32)), (.int i0)])) _
  refine XS.iand X0.here hx rfl (hb hby at_2) rfl ?_
  show Steps p.tables e below (T0.setTop (mkF m 3 #[.val (.int i0), .val (.int i1), s2, s3, s4] [(.int (i0 &&& (3 : Int32)))])) _
  refine XS.istoreN X0.here hx rfl (hb hby at_3) rfl (l' := #[.val (.int i0), .val (.int i1), .val (.int (i0 &&& (3 : Int32))), s3, s4]) (os0_3_tAttt hs2) ?_
  show Steps p.tables e below (T0.setTop (mkF m 4 #[.val (.int i0), .val (.int i1), .val (.int (i0 &&& (3 : Int32))), s3, s4] [])) _
  refine XS.iloadN X0.here hx rfl (hb hby at_4) rfl ?_
  show Steps p.tables e below (T0.setTop (mkF m 5 #[.val (.int i0), .val (.int i1), .val (.int (i0 &&& (3 : Int32))), s3, s4] [(.int (i0 &&& (3 : Int32)))])) _
  refine XS.ifYes X0.here hx rfl (pc0 := 5) (pc' := 14) rfl (hb hby at_5) rfl ((if0 _ _).trans (feq hc5).2) (by decide) (by decide) ?_
  show Steps p.tables e below (T0.setTop (mkF m 14 #[.val (.int i0), .val (.int i1), .val (.int (i0 &&& (3 : Int32))), s3, s4] [])) _
  refine XS.iloadN X0.here hx rfl (hb hby at_14) rfl ?_
  show Steps p.tables e below (T0.setTop (mkF m 15 #[.val (.int i0), .val (.int i1), .val (.int (i0 &&& (3 : Int32))), s3, s4] [(.int (i0 &&& (3 : Int32)))])) _
  refine XS.iconst X0.here hx rfl (hb hby at_15) ?_
  show Steps p.tables e below (T0.setTop (mkF m 16 #[.val (.int i0), .val (.int i1), .val (.int (i0 &&& (3 : Int32))), s3, s4] [(.int (1 : Int32)), (.int (i0 &&& (3 : Int32)))])) _
  refine XS.icmpYes X0.here hx rfl (pc0 := 16) (pc' := 25) rfl (hb hby at_16) rfl (feq hc16).2 (by decide) (by decide) ?_
  show Steps p.tables e below (T0.setTop (mkF m 25 #[.val (.int i0), .val (.int i1), .val (.int (i0 &&& (3 : Int32))), s3, s4] [])) _
  refine XS.iloadN X0.here hx rfl (hb hby at_25) rfl ?_
  show Steps p.tables e below (T0.setTop (mkF m 26 #[.val (.int i0), .val (.int i1), .val (.int (i0 &&& (3 : Int32))), s3, s4] [(.int (i0 &&& (3 : Int32)))])) _
  refine XS.iconst X0.here hx rfl (hb hby at_26) ?_
  show Steps p.tables e below (T0.setTop (mkF m 27 #[.val (.int i0), .val (.int i1), .val (.int (i0 &&& (3 : Int32))), s3, s4] [(.int (2 : Int32)), (.int (i0 &&& (3 : Int32)))])) _
  refine XS.icmpYes X0.here hx rfl (pc0 := 27) (pc' := 36) rfl (hb hby at_27) rfl (feq hc27).2 (by decide) (by decide) ?_
  show Steps p.tables e below (T0.setTop (mkF m 36 #[.val (.int i0), .val (.int i1), .val (.int (i0 &&& (3 : Int32))), s3, s4] [])) _
  refine XS.iloadN X0.here hx rfl (hb hby at_36) rfl ?_
  show Steps p.tables e below (T0.setTop (mkF m 37 #[.val (.int i0), .val (.int i1), .val (.int (i0 &&& (3 : Int32))), s3, s4] [(.int i1)])) _
  refine XS.i2c X0.here hx rfl (hb hby at_37) rfl ?_
  show Steps p.tables e below (T0.setTop (mkF m 38 #[.val (.int i0), .val (.int i1), .val (.int (i0 &&& (3 : Int32))), s3, s4] [(.int (i1.toUInt32.toUInt16.toUInt32.toInt32))])) _
  refine XS.istoreN X0.here hx rfl (hb hby at_38) rfl (l' := #[.val (.int i0), .val (.int i1), .val (.int (i0 &&& (3 : Int32))), .val (.int (i1.toUInt32.toUInt16.toUInt32.toInt32)), s4]) (os0_38_tAttt hs3) ?_
  exact kt
theorem os0_48_tBf {s0 : Slot} {s1 : Slot} {s2 : Slot} {z3 : Value} {s4 : Slot} {v : Addr} (h : One s4) : storeLocals #[s0, s1, s2, .val z3, s4] 4 (.ref v) = some #[s0, s1, s2, .val z3, .val (.ref v)] := by
  rcases h with rfl | ⟨w, rfl, hw⟩
  · rfl
  · cases w <;> first | rfl | (simp [Value.category] at hw)
set_option maxRecDepth 65536 in
set_option maxHeartbeats 40000000 in
theorem tBf {p : Program} {l : Launch} {e : Env} {R : Room} {s : State} {m : MethodId} {args : Array Value} {below : List Frame} {meth : Method} {c : Code} {T0 : State} {locs : List Loc} {cells slots : Nat} {Z : State} {a0 : Array Value} {h0 : Heap} (s0 : Slot) (s1 : Slot) (s2 : Slot) (i3 : Int32) (s4 : Slot) (w3 : Addr)
    (X0 : Stand p l e R s m args below meth c T0 locs cells slots) (hx : p.tables.exec = Jvm.exec) (hZ : Z.Warmed39 s.vm) (hw : ∀ d ∈ tables_1, d.before a0 Z = true) (hby : c.code = code) (hml : c.maxLocals = 5) (hown : s.vm.findClass "com/example/graphsieve/graphsieve/query/SetOperatorWithSymbolPinLaw" = some m.cls) (e0 : T0.heap = h0) (S_INTERSECT : Sta Z h0 "com/example/graphsieve/graphsieve/query/SetOperator" "INTERSECT" "Lcom/example/graphsieve/graphsieve/query/SetOperator;" (.ref w3)) (hs4 : One s4) (hc42 : i3 = (94 : Int32)) :
    ∃ (T' : State), Stand p l e R s m args below meth c T' locs cells slots ∧ T'.heap = h0 ∧
      ∀ target, Steps p.tables e below (T'.setTop (mkF m 84 #[s0, s1, s2, .val (.int i3), .val (.ref w3)] [])) target → Steps p.tables e below (T0.setTop (mkF m 39 #[s0, s1, s2, .val (.int i3), s4] [])) target := by
  obtain ⟨T4, X4, e4, st4⟩ := getS2 X0 hx hZ hown (host := "") (Or.inl (hw _ (List.mem_of_getElem? (i := 0) rfl))) Via.refl e0 S_INTERSECT (g := (mkF m 45 #[s0, s1, s2, .val (.int i3), s4] [])) rfl (hb hby at_45)
  refine ⟨T4, X4, e4, fun target kt => ?_⟩
  show Steps p.tables e below (T0.setTop (mkF m 39 #[s0, s1, s2, .val (.int i3), s4] [])) _
  refine XS.iloadN X0.here hx rfl (hb hby at_39) rfl ?_
  show Steps p.tables e below (T0.setTop (mkF m 40 #[s0, s1, s2, .val (.int i3), s4] [(.int i3)])) _
  refine XS.bipush X0.here hx rfl (hb hby at_40) ?_
  show Steps p.tables e below (T0.setTop (mkF m 42 #[s0, s1, s2, .val (.int i3), s4] [(.int (94 : Int32)), (.int i3)])) _
  refine XS.icmpNo X0.here hx rfl (hb hby at_42) rfl (teq hc42).2 ?_
  show Steps p.tables e below (T0.setTop (mkF m 45 #[s0, s1, s2, .val (.int i3), s4] [])) _
  refine st4 _ ?_
  show Steps p.tables e below (T4.setTop (mkF m 48 #[s0, s1, s2, .val (.int i3), s4] [(.ref w3)])) _
  refine XS.astore X4.here hx rfl (hb hby at_48) rfl rfl (l' := #[s0, s1, s2, .val (.int i3), .val (.ref w3)]) (os0_48_tBf hs4) ?_
  show Steps p.tables e below (T4.setTop (mkF m 50 #[s0, s1, s2, .val (.int i3), .val (.ref w3)] [])) _
  refine XS.goto X4.here hx rfl (pc0 := 50) (pc' := 84) rfl (hb hby at_50) (by decide) (by decide) ?_
  exact kt
theorem os0_62_tBtf {s0 : Slot} {s1 : Slot} {s2 : Slot} {z3 : Value} {s4 : Slot} {v : Addr} (h : One s4) : storeLocals #[s0, s1, s2, .val z3, s4] 4 (.ref v) = some #[s0, s1, s2, .val z3, .val (.ref v)] := by
  rcases h with rfl | ⟨w, rfl, hw⟩
  · rfl
  · cases w <;> first | rfl | (simp [Value.category] at hw)
set_option maxRecDepth 65536 in
set_option maxHeartbeats 40000000 in
theorem tBtf {p : Program} {l : Launch} {e : Env} {R : Room} {s : State} {m : MethodId} {args : Array Value} {below : List Frame} {meth : Method} {c : Code} {T0 : State} {locs : List Loc} {cells slots : Nat} {Z : State} {a0 : Array Value} {h0 : Heap} (s0 : Slot) (s1 : Slot) (s2 : Slot) (i3 : Int32) (s4 : Slot) (w3 : Addr)
    (X0 : Stand p l e R s m args below meth c T0 locs cells slots) (hx : p.tables.exec = Jvm.exec) (hZ : Z.Warmed39 s.vm) (hw : ∀ d ∈ tables_1, d.before a0 Z = true) (hby : c.code = code) (hml : c.maxLocals = 5) (hown : s.vm.findClass "com/example/graphsieve/graphsieve/query/SetOperatorWithSymbolPinLaw" = some m.cls) (e0 : T0.heap = h0) (S_UNION : Sta Z h0 "com/example/graphsieve/graphsieve/query/SetOperator" "UNION" "Lcom/example/graphsieve/graphsieve/query/SetOperator;" (.ref w3)) (hs4 : One s4) (hc42 : ¬ (i3 = (94 : Int32))) (hc56 : i3 = (43 : Int32)) :
    ∃ (T' : State), Stand p l e R s m args below meth c T' locs cells slots ∧ T'.heap = h0 ∧
      ∀ target, Steps p.tables e below (T'.setTop (mkF m 84 #[s0, s1, s2, .val (.int i3), .val (.ref w3)] [])) target → Steps p.tables e below (T0.setTop (mkF m 39 #[s0, s1, s2, .val (.int i3), s4] [])) target := by
  obtain ⟨T4, X4, e4, st4⟩ := getS2 X0 hx hZ hown (host := "") (Or.inl (hw _ (List.mem_of_getElem? (i := 27) rfl))) Via.refl e0 S_UNION (g := (mkF m 59 #[s0, s1, s2, .val (.int i3), s4] [])) rfl (hb hby at_59)
  refine ⟨T4, X4, e4, fun target kt => ?_⟩
  show Steps p.tables e below (T0.setTop (mkF m 39 #[s0, s1, s2, .val (.int i3), s4] [])) _
  refine XS.iloadN X0.here hx rfl (hb hby at_39) rfl ?_
  show Steps p.tables e below (T0.setTop (mkF m 40 #[s0, s1, s2, .val (.int i3), s4] [(.int i3)])) _
  refine XS.bipush X0.here hx rfl (hb hby at_40) ?_
  show Steps p.tables e below (T0.setTop (mkF m 42 #[s0, s1, s2, .val (.int i3), s4] [(.int (94 : Int32)), (.int i3)])) _
  refine XS.icmpYes X0.here hx rfl (pc0 := 42) (pc' := 53) rfl (hb hby at_42) rfl (feq hc42).2 (by decide) (by decide) ?_
  show Steps p.tables e below (T0.setTop (mkF m 53 #[s0, s1, s2, .val (.int i3), s4] [])) _
  refine XS.iloadN X0.here hx rfl (hb hby at_53) rfl ?_
  show Steps p.tables e below (T0.setTop (mkF m 54 #[s0, s1, s2, .val (.int i3), s4] [(.int i3)])) _
  refine XS.bipush X0.here hx rfl (hb hby at_54) ?_
  show Steps p.tables e below (T0.setTop (mkF m 56 #[s0, s1, s2, .val (.int i3), s4] [(.int (43 : Int32)), (.int i3)])) _
  refine XS.icmpNo X0.here hx rfl (hb hby at_56) rfl (teq hc56).2 ?_
  show Steps p.tables e below (T0.setTop (mkF m 59 #[s0, s1, s2, .val (.int i3), s4] [])) _
  refine st4 _ ?_
  show Steps p.tables e below (T4.setTop (mkF m 62 #[s0, s1, s2, .val (.int i3), s4] [(.ref w3)])) _
  refine XS.astore X4.here hx rfl (hb hby at_62) rfl rfl (l' := #[s0, s1, s2, .val (.int i3), .val (.ref w3)]) (os0_62_tBtf hs4) ?_
  show Steps p.tables e below (T4.setTop (mkF m 64 #[s0, s1, s2, .val (.int i3), .val (.ref w3)] [])) _
  refine XS.goto X4.here hx rfl (pc0 := 64) (pc' := 84) rfl (hb hby at_64) (by decide) (by decide) ?_
  exact kt
theorem os0_76_tBttf {s0 : Slot} {s1 : Slot} {s2 : Slot} {z3 : Value} {s4 : Slot} {v : Addr} (h : One s4) : storeLocals #[s0, s1, s2, .val z3, s4] 4 (.ref v) = some #[s0, s1, s2, .val z3, .val (.ref v)] := by
  rcases h with rfl | ⟨w, rfl, hw⟩
  · rfl
  · cases w <;> first | rfl | (simp [Value.category] at hw)
set_option maxRecDepth 65536 in
set_option maxHeartbeats 40000000 in
theorem tBttf {p : Program} {l : Launch} {e : Env} {R : Room} {s : State} {m : MethodId} {args : Array Value} {below : List Frame} {meth : Method} {c : Code} {T0 : State} {locs : List Loc} {cells slots : Nat} {Z : State} {a0 : Array Value} {h0 : Heap} (s0 : Slot) (s1 : Slot) (s2 : Slot) (i3 : Int32) (s4 : Slot) (w3 : Addr)
    (X0 : Stand p l e R s m args below meth c T0 locs cells slots) (hx : p.tables.exec = Jvm.exec) (hZ : Z.Warmed39 s.vm) (hw : ∀ d ∈ tables_1, d.before a0 Z = true) (hby : c.code = code) (hml : c.maxLocals = 5) (hown : s.vm.findClass "com/example/graphsieve/graphsieve/query/SetOperatorWithSymbolPinLaw" = some m.cls) (e0 : T0.heap = h0) (S_EXCEPT : Sta Z h0 "com/example/graphsieve/graphsieve/query/SetOperator" "EXCEPT" "Lcom/example/graphsieve/graphsieve/query/SetOperator;" (.ref w3)) (hs4 : One s4) (hc42 : ¬ (i3 = (94 : Int32))) (hc56 : ¬ (i3 = (43 : Int32))) (hc70 : i3 = (45 : Int32)) :
    ∃ (T' : State), Stand p l e R s m args below meth c T' locs cells slots ∧ T'.heap = h0 ∧
      ∀ target, Steps p.tables e below (T'.setTop (mkF m 84 #[s0, s1, s2, .val (.int i3), .val (.ref w3)] [])) target → Steps p.tables e below (T0.setTop (mkF m 39 #[s0, s1, s2, .val (.int i3), s4] [])) target := by
  obtain ⟨T4, X4, e4, st4⟩ := getS2 X0 hx hZ hown (host := "") (Or.inl (hw _ (List.mem_of_getElem? (i := 23) rfl))) Via.refl e0 S_EXCEPT (g := (mkF m 73 #[s0, s1, s2, .val (.int i3), s4] [])) rfl (hb hby at_73)
  refine ⟨T4, X4, e4, fun target kt => ?_⟩
  show Steps p.tables e below (T0.setTop (mkF m 39 #[s0, s1, s2, .val (.int i3), s4] [])) _
  refine XS.iloadN X0.here hx rfl (hb hby at_39) rfl ?_
  show Steps p.tables e below (T0.setTop (mkF m 40 #[s0, s1, s2, .val (.int i3), s4] [(.int i3)])) _
  refine XS.bipush X0.here hx rfl (hb hby at_40) ?_
  show Steps p.tables e below (T0.setTop (mkF m 42 #[s0, s1, s2, .val (.int i3), s4] [(.int (94 : Int32)), (.int i3)])) _
  refine XS.icmpYes X0.here hx rfl (pc0 := 42) (pc' := 53) rfl (hb hby at_42) rfl (feq hc42).2 (by decide) (by decide) ?_
  show Steps p.tables e below (T0.setTop (mkF m 53 #[s0, s1, s2, .val (.int i3), s4] [])) _
  refine XS.iloadN X0.here hx rfl (hb hby at_53) rfl ?_
  show Steps p.tables e below (T0.setTop (mkF m 54 #[s0, s1, s2, .val (.int i3), s4] [(.int i3)])) _
  refine XS.bipush X0.here hx rfl (hb hby at_54) ?_
  show Steps p.tables e below (T0.setTop (mkF m 56 #[s0, s1, s2, .val (.int i3), s4] [(.int (43 : Int32)), (.int i3)])) _
  refine XS.icmpYes X0.here hx rfl (pc0 := 56) (pc' := 67) rfl (hb hby at_56) rfl (feq hc56).2 (by decide) (by decide) ?_
  show Steps p.tables e below (T0.setTop (mkF m 67 #[s0, s1, s2, .val (.int i3), s4] [])) _
  refine XS.iloadN X0.here hx rfl (hb hby at_67) rfl ?_
  show Steps p.tables e below (T0.setTop (mkF m 68 #[s0, s1, s2, .val (.int i3), s4] [(.int i3)])) _
  refine XS.bipush X0.here hx rfl (hb hby at_68) ?_
  show Steps p.tables e below (T0.setTop (mkF m 70 #[s0, s1, s2, .val (.int i3), s4] [(.int (45 : Int32)), (.int i3)])) _
  refine XS.icmpNo X0.here hx rfl (hb hby at_70) rfl (teq hc70).2 ?_
  show Steps p.tables e below (T0.setTop (mkF m 73 #[s0, s1, s2, .val (.int i3), s4] [])) _
  refine st4 _ ?_
  show Steps p.tables e below (T4.setTop (mkF m 76 #[s0, s1, s2, .val (.int i3), s4] [(.ref w3)])) _
  refine XS.astore X4.here hx rfl (hb hby at_76) rfl rfl (l' := #[s0, s1, s2, .val (.int i3), .val (.ref w3)]) (os0_76_tBttf hs4) ?_
  show Steps p.tables e below (T4.setTop (mkF m 78 #[s0, s1, s2, .val (.int i3), .val (.ref w3)] [])) _
  refine XS.goto X4.here hx rfl (pc0 := 78) (pc' := 84) rfl (hb hby at_78) (by decide) (by decide) ?_
  exact kt
theorem os0_82_tBttt {s0 : Slot} {s1 : Slot} {s2 : Slot} {z3 : Value} {s4 : Slot} (h : One s4) : storeLocals #[s0, s1, s2, .val z3, s4] 4 .null = some #[s0, s1, s2, .val z3, .val .null] := by
  rcases h with rfl | ⟨w, rfl, hw⟩
  · rfl
  · cases w <;> first | rfl | (simp [Value.category] at hw)
set_option maxRecDepth 65536 in
set_option maxHeartbeats 40000000 in
theorem tBttt {p : Program} {l : Launch} {e : Env} {R : Room} {s : State} {m : MethodId} {args : Array Value} {below : List Frame} {meth : Method} {c : Code} {T0 : State} {locs : List Loc} {cells slots : Nat} {Z : State} {a0 : Array Value} {h0 : Heap} (s0 : Slot) (s1 : Slot) (s2 : Slot) (i3 : Int32) (s4 : Slot)
    (X0 : Stand p l e R s m args below meth c T0 locs cells slots) (hx : p.tables.exec = Jvm.exec) (hZ : Z.Warmed39 s.vm) (hw : ∀ d ∈ tables_1, d.before a0 Z = true) (hby : c.code = code) (hml : c.maxLocals = 5) (hown : s.vm.findClass "com/example/graphsieve/graphsieve/query/SetOperatorWithSymbolPinLaw" = some m.cls) (e0 : T0.heap = h0) (hs4 : One s4) (hc42 : ¬ (i3 = (94 : Int32))) (hc56 : ¬ (i3 = (43 : Int32))) (hc70 : ¬ (i3 = (45 : Int32))) :
    ∃ (T' : State), Stand p l e R s m args below meth c T' locs cells slots ∧ T'.heap = h0 ∧
      ∀ target, Steps p.tables e below (T'.setTop (mkF m 84 #[s0, s1, s2, .val (.int i3), .val .null] [])) target → Steps p.tables e below (T0.setTop (mkF m 39 #[s0, s1, s2, .val (.int i3), s4] [])) target := by

  refine ⟨T0, X0, e0, fun target kt => ?_⟩
  show Steps p.tables e below (T0.setTop (mkF m 39 #[s0, s1, s2, .val (.int i3), s4] [])) _
  refine XS.iloadN X0.here hx rfl (hb hby at_39) rfl ?_
  show Steps p.tables e below (T0.setTop (mkF m 40 #[s0, s1, s2, .val (.int i3), s4] [(.int i3)])) _
  refine XS.bipush X0.here hx rfl (hb hby at_40) ?_
  show Steps p.tables e below (T0.setTop (mkF m 42 #[s0, s1, s2, .val (.int i3), s4] [(.int (94 : Int32)), (.int i3)])) _
  refine XS.icmpYes X0.here hx rfl (pc0 := 42) (pc' := 53) rfl (hb hby at_42) rfl (feq hc42).2 (by decide) (by decide) ?_
  show Steps p.tables e below (T0.setTop (mkF m 53 #[s0, s1, s2, .val (.int i3), s4] [])) _
  refine XS.iloadN X0.here hx rfl (hb hby at_53) rfl ?_
  show Steps p.tables e below (T0.setTop (mkF m 54 #[s0, s1, s2, .val (.int i3), s4] [(.int i3)])) _
  refine XS.bipush X0.here hx rfl (hb hby at_54) ?_
  show Steps p.tables e below (T0.setTop (mkF m 56 #[s0, s1, s2, .val (.int i3), s4] [(.int (43 : Int32)), (.int i3)])) _
  refine XS.icmpYes X0.here hx rfl (pc0 := 56) (pc' := 67) rfl (hb hby at_56) rfl (feq hc56).2 (by decide) (by decide) ?_
  show Steps p.tables e below (T0.setTop (mkF m 67 #[s0, s1, s2, .val (.int i3), s4] [])) _
  refine XS.iloadN X0.here hx rfl (hb hby at_67) rfl ?_
  show Steps p.tables e below (T0.setTop (mkF m 68 #[s0, s1, s2, .val (.int i3), s4] [(.int i3)])) _
  refine XS.bipush X0.here hx rfl (hb hby at_68) ?_
  show Steps p.tables e below (T0.setTop (mkF m 70 #[s0, s1, s2, .val (.int i3), s4] [(.int (45 : Int32)), (.int i3)])) _
  refine XS.icmpYes X0.here hx rfl (pc0 := 70) (pc' := 81) rfl (hb hby at_70) rfl (feq hc70).2 (by decide) (by decide) ?_
  show Steps p.tables e below (T0.setTop (mkF m 81 #[s0, s1, s2, .val (.int i3), s4] [])) _
  refine XS.aconstNull X0.here hx rfl (hb hby at_81) ?_
  show Steps p.tables e below (T0.setTop (mkF m 82 #[s0, s1, s2, .val (.int i3), s4] [.null])) _
  refine XS.astore X0.here hx rfl (hb hby at_82) rfl rfl (l' := #[s0, s1, s2, .val (.int i3), .val .null]) (os0_82_tBttt hs4) ?_
  exact kt
set_option maxRecDepth 65536 in
set_option maxHeartbeats 40000000 in
theorem tC {p : Program} {l : Launch} {e : Env} {s : State} {m : MethodId} {args : Array Value} {below : List Frame} {meth : Method} {c : Code} {T0 : State} {locs : List Loc} {Z : State} {a0 : Array Value} {h0 : Heap} {n0 : Nat} (s0 : Slot) (s1 : Slot) (s2 : Slot) (i3 : Int32) (w1 : Addr) (cl : Cell) (aI aU aE : Addr)
    (X0 : Stand p l e room_1 s m args below meth c T0 locs 0 0) (hx : p.tables.exec = Jvm.exec) (hZ : Z.Warmed39 s.vm) (hw : ∀ d ∈ tables_1, d.before a0 Z = true) (hby : c.code = code) (hml : c.maxLocals = 5) (hown : s.vm.findClass "com/example/graphsieve/graphsieve/query/SetOperatorWithSymbolPinLaw" = some m.cls) (e0 : T0.heap = h0) (Z0 : n0 ≤ h0.size) (S__VALUES : Sta Z h0 "com/example/graphsieve/graphsieve/query/SetOperator" "$VALUES" "[Lcom/example/graphsieve/graphsieve/query/SetOperator;" (.ref w1)) (Ar : Arr Z h0 w1 cl (.object "com/example/graphsieve/graphsieve/query/SetOperator")) (Ex : Exa Z h0 w1 "[Lcom/example/graphsieve/graphsieve/query/SetOperator;") (Fc : FitC Z cl) (hsz : cl.slots.size = 3) (hI : cl.slots[0]? = some (.ref aI)) (hU : cl.slots[1]? = some (.ref aU)) (hE : cl.slots[2]? = some (.ref aE)) (FI : Fld Z h0 aI "com/example/graphsieve/graphsieve/query/SetOperator" "symbol" "C" (.int 94)) (FU : Fld Z h0 aU "com/example/graphsieve/graphsieve/query/SetOperator" "symbol" "C" (.int 43)) (FE : Fld Z h0 aE "com/example/graphsieve/graphsieve/query/SetOperator" "symbol" "C" (.int 45)) :
    ∃ (T' : State) (L' : List Loc), Stand p l e room_1 s m args below meth c T' (locs ++ L') 1 3 ∧ Fr n0 L' ∧
      ∀ target, Steps p.tables e below (T'.setTop (mkF m 98 #[s0, s1, s2, .val (.int i3), .val (exV i3 aI aU aE)] [(.int (1 : Int32))])) target → Steps p.tables e below (T0.setTop (mkF m 84 #[s0, s1, s2, .val (.int i3), .val (exV i3 aI aU aE)] [])) target := by
  obtain ⟨_, _, ⟨T3, L3, k3, n3⟩, -, X3, ⟨Lc3, hQ3, l3, y3, z3⟩, st3⟩ := Jvm.LawKit.callS X0 hx (y := (⟨"com/example/graphsieve/graphsieve/query/SetOperator", "withSymbol", "(C)Lcom/example/graphsieve/graphsieve/query/SetOperator;"⟩ : MethodName)) hown (mvT hZ (hw _ (List.mem_of_getElem? (i := 3) rfl))) (mvT hZ (hw _ (List.mem_of_getElem? (i := 4) rfl))) (mvT hZ (hw _ (List.mem_of_getElem? (i := 1) rfl))) (mvT hZ (hw _ (List.mem_of_getElem? (i := 5) rfl))) (by decide) (backOf (W := 0) (rm1 l Z a0 hw [] i3 w1 cl aI aU aE h0 n0 Z0 S__VALUES Ar Ex Fc hsz hI hU hE FI FU FE) hZ (hw _ (List.mem_of_getElem? (i := 5) rfl)) (hw _ (List.mem_of_getElem? (i := 1) rfl)) (by decide) (by decide)) (g := (mkF m 85 #[s0, s1, s2, .val (.int i3), .val (exV i3 aI aU aE)] [(.int i3)])) rfl (by rw [hml]; rfl) (argsL := [(.int i3)]) (rest := []) (lenOf pd_0_0 rfl) rfl (by show 2 * 0 + _ ≤ _; exact Nat.le_of_eq rfl) (hb hby at_85) (fun _ _ => ⟨rfl, e0, (by decide : 0 + 1 ≤ _), (by decide : 0 + 3 ≤ _)⟩)
  dsimp only [Pt.U, Pt.locs, Pt.cells, Pt.slots] at X3 l3 y3 z3 st3 hQ3
  subst l3 y3 z3
  obtain ⟨rfl, N3q⟩ := hQ3
  refine ⟨T3, _, X3, N3q, fun target kt => ?_⟩
  show Steps p.tables e below (T0.setTop (mkF m 84 #[s0, s1, s2, .val (.int i3), .val (exV i3 aI aU aE)] [])) _
  refine XS.iloadN X0.here hx rfl (hb hby at_84) rfl ?_
  show Steps p.tables e below (T0.setTop (mkF m 85 #[s0, s1, s2, .val (.int i3), .val (exV i3 aI aU aE)] [(.int i3)])) _
  refine st3 _ ?_
  show Steps p.tables e below (T3.setTop (mkF m 88 #[s0, s1, s2, .val (.int i3), .val (exV i3 aI aU aE)] [(exV i3 aI aU aE)])) _
  refine XS.aload X3.here hx rfl (hb hby at_88) rfl (exV_ref i3 aI aU aE) ?_
  show Steps p.tables e below (T3.setTop (mkF m 90 #[s0, s1, s2, .val (.int i3), .val (exV i3 aI aU aE)] [(exV i3 aI aU aE), (exV i3 aI aU aE)])) _
  refine Jvm.RoadKit.acmp (g := (mkF m 90 #[s0, s1, s2, .val (.int i3), .val (exV i3 aI aU aE)] [(exV i3 aI aU aE), (exV i3 aI aU aE)])) X3 hx rfl (exV_ref i3 aI aU aE) (exV_ref i3 aI aU aE) (pc0 := 90) (pc' := 93) (same := true) rfl (hb hby at_90) rfl (decide_eq_true rfl) (by decide) (by decide) ?_
  show Steps p.tables e below (T3.setTop (mkF m 93 #[s0, s1, s2, .val (.int i3), .val (exV i3 aI aU aE)] [])) _
  refine XS.iconst X3.here hx rfl (hb hby at_93) ?_
  show Steps p.tables e below (T3.setTop (mkF m 94 #[s0, s1, s2, .val (.int i3), .val (exV i3 aI aU aE)] [(.int (1 : Int32))])) _
  refine XS.goto X3.here hx rfl (pc0 := 94) (pc' := 98) rfl (hb hby at_94) (by decide) (by decide) ?_
  exact kt
def chV (a b : Int32) : Int32 := if (a &&& (3 : Int32)) = (0 : Int32) then (94 : Int32) else if (a &&& (3 : Int32)) = (1 : Int32) then (43 : Int32) else if (a &&& (3 : Int32)) = (2 : Int32) then (45 : Int32) else (b.toUInt32.toUInt16.toUInt32.toInt32)
theorem hA {p : Program} {l : Launch} {e : Env} {R : Room} {s : State} {m : MethodId} {args : Array Value} {below : List Frame} {meth : Method} {c : Code} {T0 : State} {locs : List Loc} {cells slots : Nat} {Z : State} {a0 : Array Value} {h0 : Heap} (a b : Int32)
    (X0 : Stand p l e R s m args below meth c T0 locs cells slots) (hx : p.tables.exec = Jvm.exec) (hZ : Z.Warmed39 s.vm) (hw : ∀ d ∈ tables_1, d.before a0 Z = true) (hby : c.code = code) (hml : c.maxLocals = 5) (hown : s.vm.findClass "com/example/graphsieve/graphsieve/query/SetOperatorWithSymbolPinLaw" = some m.cls) (e0 : T0.heap = h0) :
    ∃ (T' : State), Stand p l e R s m args below meth c T' locs cells slots ∧ T'.heap = h0 ∧ 
      ∀ target, Steps p.tables e below (T'.setTop (mkF m 39 #[.val (.int a), .val (.int b), .val (.int (a &&& (3 : Int32))), .val (.int (chV a b)), .unset] [])) target → Steps p.tables e below (T0.setTop (mkF m 0 #[.val (.int a), .val (.int b), .unset, .unset, .unset] [])) target := by
  unfold chV
  split
  · exact tAf _ _ _ _ _ X0 hx hZ hw hby hml hown e0 One.u One.u (by assumption)
  · split
    · exact tAtf _ _ _ _ _ X0 hx hZ hw hby hml hown e0 One.u One.u (by assumption) (by assumption)
    · split
      · exact tAttf _ _ _ _ _ X0 hx hZ hw hby hml hown e0 One.u One.u (by assumption) (by assumption) (by assumption)
      · exact tAttt _ _ _ _ _ X0 hx hZ hw hby hml hown e0 One.u One.u (by assumption) (by assumption) (by assumption)
theorem hB {p : Program} {l : Launch} {e : Env} {R : Room} {s : State} {m : MethodId} {args : Array Value} {below : List Frame} {meth : Method} {c : Code} {T0 : State} {locs : List Loc} {cells slots : Nat} {Z : State} {a0 : Array Value} {h0 : Heap} (a b c0 : Int32) (aI aU aE : Addr)
    (X0 : Stand p l e R s m args below meth c T0 locs cells slots) (hx : p.tables.exec = Jvm.exec) (hZ : Z.Warmed39 s.vm) (hw : ∀ d ∈ tables_1, d.before a0 Z = true) (hby : c.code = code) (hml : c.maxLocals = 5) (hown : s.vm.findClass "com/example/graphsieve/graphsieve/query/SetOperatorWithSymbolPinLaw" = some m.cls) (e0 : T0.heap = h0) (S_INTERSECT : Sta Z h0 "com/example/graphsieve/graphsieve/query/SetOperator" "INTERSECT" "Lcom/example/graphsieve/graphsieve/query/SetOperator;" (.ref aI)) (S_UNION : Sta Z h0 "com/example/graphsieve/graphsieve/query/SetOperator" "UNION" "Lcom/example/graphsieve/graphsieve/query/SetOperator;" (.ref aU)) (S_EXCEPT : Sta Z h0 "com/example/graphsieve/graphsieve/query/SetOperator" "EXCEPT" "Lcom/example/graphsieve/graphsieve/query/SetOperator;" (.ref aE)) :
    ∃ (T' : State), Stand p l e R s m args below meth c T' locs cells slots ∧ T'.heap = h0 ∧ 
      ∀ target, Steps p.tables e below (T'.setTop (mkF m 84 #[.val (.int a), .val (.int b), .val (.int (a &&& (3 : Int32))), .val (.int c0), .val (exV c0 aI aU aE)] [])) target → Steps p.tables e below (T0.setTop (mkF m 39 #[.val (.int a), .val (.int b), .val (.int (a &&& (3 : Int32))), .val (.int c0), .unset] [])) target := by
  unfold exV
  split
  · exact tBf _ _ _ _ _ _ X0 hx hZ hw hby hml hown e0 S_INTERSECT One.u (by assumption)
  · split
    · exact tBtf _ _ _ _ _ _ X0 hx hZ hw hby hml hown e0 S_UNION One.u (by assumption) (by assumption)
    · split
      · exact tBttf _ _ _ _ _ _ X0 hx hZ hw hby hml hown e0 S_EXCEPT One.u (by assumption) (by assumption) (by assumption)
      · exact tBttt _ _ _ _ _ X0 hx hZ hw hby hml hown e0 One.u (by assumption) (by assumption) (by assumption)
theorem pn_0 : plainName "com/example/graphsieve/graphsieve/query/SetOperatorWithSymbolPinLaw" = true := by first | (simp [plainName, overriddenIn]; done) | decide +kernel
theorem ef_0 (m : MethodId) (x0 : Int32) (x1 : Int32) : entryFrame m #[(.int x0), (.int x1)] maxLocals = mkF m 0 #[.val (.int x0), .val (.int x1), .unset, .unset, .unset] [] := by first | (simp [entryFrame, mkF, argsToLocals, Value.category, maxLocals]; done) | rfl
set_option maxRecDepth 65536 in
set_option maxHeartbeats 40000000 in
theorem rm0 (l : Launch) (Z : State) (a0 : Array Value) (hw : ∀ d ∈ tables_1, d.before a0 Z = true) (ws : List Jvm.Cond) (p1 : Int32) (p2 : Int32) (w1 : Addr) (cl : Cell) (aI aU aE : Addr) (h0 : Heap) (n0 : Nat) (Z0 : n0 ≤ h0.size) (S__VALUES : Sta Z h0 "com/example/graphsieve/graphsieve/query/SetOperator" "$VALUES" "[Lcom/example/graphsieve/graphsieve/query/SetOperator;" (.ref w1)) (Ar : Arr Z h0 w1 cl (.object "com/example/graphsieve/graphsieve/query/SetOperator")) (Ex : Exa Z h0 w1 "[Lcom/example/graphsieve/graphsieve/query/SetOperator;") (Fc : FitC Z cl) (hsz : cl.slots.size = 3) (hI : cl.slots[0]? = some (.ref aI)) (hU : cl.slots[1]? = some (.ref aU)) (hE : cl.slots[2]? = some (.ref aE)) (FI : Fld Z h0 aI "com/example/graphsieve/graphsieve/query/SetOperator" "symbol" "C" (.int 94)) (FU : Fld Z h0 aU "com/example/graphsieve/graphsieve/query/SetOperator" "symbol" "C" (.int 43)) (FE : Fld Z h0 aE "com/example/graphsieve/graphsieve/query/SetOperator" "symbol" "C" (.int 45)) (S_INTERSECT : Sta Z h0 "com/example/graphsieve/graphsieve/query/SetOperator" "INTERSECT" "Lcom/example/graphsieve/graphsieve/query/SetOperator;" (.ref aI)) (S_UNION : Sta Z h0 "com/example/graphsieve/graphsieve/query/SetOperator" "UNION" "Lcom/example/graphsieve/graphsieve/query/SetOperator;" (.ref aU)) (S_EXCEPT : Sta Z h0 "com/example/graphsieve/graphsieve/query/SetOperator" "EXCEPT" "Lcom/example/graphsieve/graphsieve/query/SetOperator;" (.ref aE)) :
    MetFree l x (head1 (Jvm.Cond.code x code maxLocals ret :: ws) room_1) (fun a U => a = #[(.int p1), (.int p2)] ∧ Z.Warmed39 U.vm ∧ U.heap = h0) (fun _ _ _ _ _ => True) (fun _ U o U' => ∃ v L, o = .returned v ∧ QV (.int 1) n0 v U'.heap L ∧ FrameEnd U o U' L room_1.cells room_1.slots) := by
  refine MetFree.of_bodySF (plainFor_of_name pn_0) hisR ?_
  intro p e s m args below meth c s₁ Bd hml0 hP hK
  obtain ⟨rfl, hZ, hh⟩ := hP
  have hx := Bd.exec
  have hby := Bd.bytes
  have hml : c.maxLocals = 5 := hml0
  have hown : s.vm.findClass "com/example/graphsieve/graphsieve/query/SetOperatorWithSymbolPinLaw" = some m.cls := findClass_of_methodNamed Bd.named
  have hnm := (name_of_methodNamed Bd.named Bd.method).1
  have X0 : Stand p l e room_1 s m #[(.int p1), (.int p2)] below meth c s₁ [] 0 0 := Stand.of_body Bd
  have e0 : s₁.heap = h0 := by rw [← hh, Bd.state]; rfl
  have N0 := Fr.nil n0
  have pre0 : ∀ t, Steps p.tables e below (s₁.setTop (mkF m 0 #[.val (.int p1), .val (.int p2), .unset, .unset, .unset] [])) t → Steps p.tables e below (s₁.setTop (entryFrame m #[(.int p1), (.int p2)] maxLocals)) t := fun t k => castTop (ef_0 m p1 p2) k
  obtain ⟨T1, X1, e1, st1⟩ := hA p1 p2 X0 hx hZ hw hby hml hown e0
  obtain ⟨T2, X2, e2, st2⟩ := hB p1 p2 (chV p1 p2) aI aU aE X1 hx hZ hw hby hml hown e1 S_INTERSECT S_UNION S_EXCEPT
  obtain ⟨T3, L3, X3, N3, st3⟩ := tC _ _ _ (chV p1 p2) w1 cl aI aU aE X2 hx hZ hw hby hml hown e2 Z0 S__VALUES Ar Ex Fc hsz hI hU hE FI FU FE
  obtain ⟨fs, hr, hrun, hended, hW, hsame⟩ := X3.leave (v := some (.int (1 : Int32))) (fun h => by rw [Bd.returns] at h; cases h)
  refine ⟨_, _, pre0 _ ?_, hrun, hended, _, _, rfl, ?_, ⟨_, rfl⟩, hW, hsame.mono (by decide) (by decide)⟩
  · refine st1 _ (st2 _ (st3 _ ?_))
    exact retN X3 hx (t := .boolean) Bd.returns (by simp) (hb hby at_98) hr
  · exact ⟨rfl, Fr.app N0 N3⟩
theorem own_len {args : Array Value} {s : State} {t : Term} {x : Addr} {cl : Cell} (h : (Cond.eq (Term.length t) (Term.int 3)).value args s none s [] = some true) (ht : t.eval args s none [] s = some (.ref x)) (ha : s.arrayAt? x = some cl) : cl.slots.size = 3 := by
  by_cases hl : cl.slots.size < 2 ^ 31
  · have e := len_f (args := args) (first := s) (o := none) (idx := []) ht ha hl
    have q : cl.slots.size.toInt32 = 3 := by
      have z : (Term.int 3).eval args s none [] s = some (.int 3) := rfl
      simpa [Cond.value, e, z] using h
    have q2 := congrArg Int32.toInt q
    rw [len_toInt hl] at q2
    have q3 : (3 : Int32).toInt = 3 := by decide
    omega
  · simp [Cond.value, Term.eval, ht, ha, hl] at h
set_option maxRecDepth 65536 in
set_option maxHeartbeats 40000000 in
theorem comes_1 {Post : Tables → Env → Array Value → State → Outcome → State → Prop} (hpost : ∀ tb e args s v u, (limb_1_1.after args s (.returned v) u = true ∧ limb_1_2.after args s (.returned v) u = true ∧ True) → FrameEnd s (.returned v) u (Jvm.fieldLocs frame_1_writes args s ++ Jvm.arrayLocs frame_1_arrays args s ++ Jvm.staticLocs frame_1_statics s) 16 128 → Post tb e args s (.returned v) u) :
    ArmFor flags0 classFile x code maxLocals ret World_1 tables_1 room_1 Calls_1 rest_1 Pre_1 Post := by
  intro l hfl _ _ p e ha hc hk s m args below hf hA hF happ hP
  obtain ⟨hcalls, hrest, hpre⟩ := hP
  obtain ⟨-, -, -, hnamed, -, -, -, hat⟩ := (Spec.applies_iff hf).mp happ
  obtain ⟨hg, hn⟩ := and_e (Cond.before_iff.mp (show (Jvm.Cond.and given_1 narrow_1).before args s = true from hpre))
  obtain ⟨g6, g7⟩ := and_e hg
  obtain ⟨g8, g9⟩ := and_e g7
  obtain ⟨w0, w1, rfl⟩ : ∃ w0 w1 : Value, args = #[w0, w1] := by
    have hs : args.size = 2 := by simpa [Cond.value, given_1] using g6
    obtain ⟨L⟩ := args
    match L, hs with
    | [w0, w1], _ => exact ⟨w0, w1, rfl⟩
  have hw := fun d (hd : d ∈ tables_1) => atoms_spec (ws := Jvm.Cond.code x code maxLocals ret :: tables_1) hat d (List.mem_cons_of_mem _ hd)
  have hfit : Fit s := fun {y c} hc i hi => by
    obtain ⟨ha, rfl⟩ := Array.getElem?_eq_some_iff.mp hc
    have q := List.all_eq_true.mp ((Array.all_eq_true_iff_forall_mem.mp hF) _ (Array.getElem_mem ha)) i (List.mem_range.mpr hi)
    simpa [Array.getElem?_eq_getElem hi] using q
  obtain ⟨i0, ei0⟩ := is_v g8
  obtain rfl : w0 = (.int i0) := Option.some.inj ei0
  obtain ⟨i1, ei1⟩ := is_v g9
  obtain rfl : w1 = (.int i1) := Option.some.inj ei1
  obtain ⟨c0, cc0⟩ := and_e hn
  obtain ⟨c1, cc1⟩ := and_e cc0
  obtain ⟨c2, cc2⟩ := and_e cc1
  obtain ⟨c3, cc3⟩ := and_e cc2
  obtain ⟨c4, cc4⟩ := and_e cc3
  obtain ⟨c5, cc5⟩ := and_e cc4
  obtain ⟨c6, cc6⟩ := and_e cc5
  obtain ⟨c7, cc7⟩ := and_e cc6
  obtain ⟨c8, cc8⟩ := and_e cc7
  obtain ⟨c9, cc9⟩ := and_e cc8
  obtain ⟨c10, cc10⟩ := and_e cc9
  obtain ⟨a_INTERSECT, v_INTERSECT⟩ := exa_v c0
  have E_INTERSECT := Exa.start v_INTERSECT c0
  have S_INTERSECT := Sta.start v_INTERSECT (Or.inr ⟨hw _ (List.mem_of_getElem? (i := 1) rfl), hw _ (List.mem_of_getElem? (i := 2) rfl)⟩)
  obtain ⟨a__VALUES, v__VALUES⟩ := exa_v c2
  have E__VALUES := Exa.start v__VALUES c2
  have S__VALUES := Sta.start v__VALUES (Or.inr ⟨hw _ (List.mem_of_getElem? (i := 1) rfl), hw _ (List.mem_of_getElem? (i := 10) rfl)⟩)
  have symbol_INTERSECT := own_fi c7 v_INTERSECT
  obtain ⟨cl, Ar⟩ := Arr.start v__VALUES c1
  have hat := Ar.fin (Vm.Alike.refl s.vm)
  have hsz := own_len c3 v__VALUES hat
  have ev0 := own_eqr c4 v_INTERSECT
  obtain ⟨aU, ev1⟩ := exa_v c5
  obtain ⟨aE, ev2⟩ := exa_v c6
  have hI := (elem_in ev0 v__VALUES rfl Ar.1).2
  have hU := (elem_in ev1 v__VALUES rfl Ar.1).2
  have hE := (elem_in ev2 v__VALUES rfl Ar.1).2
  have FI := Fld.start symbol_INTERSECT
  have FU := Fld.start (own_fi c9 ev1)
  have FE := Fld.start (own_fi c10 ev2)
  have v_UNION := own_eqr cc10 ev1
  have v_EXCEPT := own_eqr c8 ev2
  have S_UNION := Sta.start v_UNION (Or.inr ⟨(hw _ (List.mem_of_getElem? (i := 1) rfl)), (hw _ (List.mem_of_getElem? (i := 28) rfl))⟩)
  have S_EXCEPT := Sta.start v_EXCEPT (Or.inr ⟨(hw _ (List.mem_of_getElem? (i := 1) rfl)), (hw _ (List.mem_of_getElem? (i := 24) rfl))⟩)
  obtain ⟨n, o, h1, h2, h3, _, L, rfl, ⟨rfl, N⟩, hq⟩ := rm0 l s _ hw tables_1 i0 i1 a__VALUES cl a_INTERSECT aU aE s.heap s.heap.size (Nat.le_refl _) S__VALUES Ar E__VALUES (FitC.start hfit Ar) hsz hI hU hE FI FU FE S_INTERSECT S_UNION S_EXCEPT p e ha hc hk s m _ below hf ((Spec.applies_iff_loose hf).mp happ).1 ⟨rfl, State.Warmed39.refl s, rfl⟩ trivial
  refine ⟨n, _, h1, h2, h3, hpost _ _ _ _ _ _ ⟨Cond.after_iff.mpr rfl, Cond.after_iff.mpr (eq_i res_at (Term.int_eval (1)) rfl), trivial⟩ ⟨hq.1, hq.2.1, (hq.2.2.sift fun y hy => Or.inr (N y hy)).mono (by decide) (by decide)⟩⟩
theorem main_1_1 : Claimed_1_1 := comes_1 fun _ _ _ _ _ _ h hF => ⟨h.1, hF⟩
theorem main_1_2 : Claimed_1_2 := comes_1 fun _ _ _ _ _ _ h hF => ⟨h.2.1, hF⟩
end Jvm.Pilot.@@N@@
namespace Jvm.Pilot.@@N@@
open Jvm Jvm.ClassFile Sem Op Lib Jvm.Free Jvm.Stand Jvm.Pilot.@@N@@.Jvm.D
/-! MADE BY PROGRAM (witnessworld.py) out of the Statement's table words and the real class files: 16 classes; the members and pool entries that the words name. The judged class is class 1, her method 1. -/
namespace start1
open Jvm.ClassFile
def u (s : String) : CpInfo := .utf8 (stringToUtf16 s)
/-- a pool by its gaps: so many unusable entries, then the entry; so many at the end -/
def gap : Nat → List CpInfo → List CpInfo
  | 0, r => r
  | n + 1, r => .unusable :: gap n r
def poolList (es : List (Nat × CpInfo)) (last : Nat) : List CpInfo := es.foldr (fun e r => gap e.1 (e.2 :: r)) (gap last [])
def pool (es : List (Nat × CpInfo)) (last : Nat) : Array CpInfo := ⟨poolList es last⟩
def fileOf (pool : Array CpInfo) (this : Nat) (attrs : Array Attribute := #[]) (ms : Array MethodInfo := #[]) (fl : Nat := 33) (sup : Nat := 0) (ifs : Array Nat := #[]) (fds : Array FieldInfo := #[]) : ClassFile where
  minorVersion := 0
  majorVersion := 65
  constantPool := pool
  accessFlags := fl
  thisClass := this
  superClass := sup
  interfaces := ifs
  fields := fds
  methods := ms
  attributes := attrs
def plain (name : String) (sup : Option ClassId) : Class where
  name := name
  kind := .ordinary
  loader := none
  accessFlags := 33
  super := sup
  interfaces := #[]
  cf := none
  fields := #[]
  methods := #[]
  instanceTypes := #[]
  staticTypes := #[]
  resolved := #[]
  callSites := []
  init := .initialized
  statics := none
  mirror := none

def pool0 : Array CpInfo := pool [(5, u "<init>"), (0, u "()V"), (1, .class_ 10), (1, u "java/lang/Object"), (85, u "clone"), (0, u "()Ljava/lang/Object;")] 26

def k0m0 : Method := { name := "<init>", desc := "()V", sig := { parameters := [], returnType := none }, accessFlags := 1, code := none }
def k0m1 : Method := { name := "clone", desc := "()Ljava/lang/Object;", sig := { parameters := [], returnType := some (.object "java/lang/Object") }, accessFlags := 260, code := none }
/-- java/lang/Object -/
def k0 : Class := { plain "java/lang/Object" none with
  accessFlags := 33
  interfaces := #[]
  cf := some (fileOf pool0 8 #[] #[{ accessFlags := 1, nameIndex := 5, descriptorIndex := 6, attributes := #[] }, { accessFlags := 260, nameIndex := 96, descriptorIndex := 97, attributes := #[] }] 33 0 #[] #[])
  fields := #[]
  methods := #[k0m0, k0m1]
  instanceTypes := #[]
  staticTypes := #[]
  resolved := Array.replicate 124 none
  statics := none }

def pool1 : Array CpInfo := pool [(2, .class_ 4), (1, u "java/lang/Object"), (0, u "<init>"), (0, u "()V"), (0, .fieldref 8 9), (0, .class_ 10), (0, .nameAndType 11 12), (0, u "com/example/graphsieve/graphsieve/query/SetOperator"), (0, u "INTERSECT"), (0, u "Lcom/example/graphsieve/graphsieve/query/SetOperator;"), (0, .fieldref 8 14), (0, .nameAndType 15 12), (0, u "UNION"), (0, .fieldref 8 17), (0, .nameAndType 18 12), (0, u "EXCEPT"), (0, .methodref 8 20), (0, .nameAndType 21 22), (0, u "withSymbol"), (0, u "(C)Lcom/example/graphsieve/graphsieve/query/SetOperator;"), (0, .class_ 24), (0, u "com/example/graphsieve/graphsieve/query/SetOperatorWithSymbolPinLaw"), (2, u "law"), (0, u "(II)Z")] 3

def k1m0 : Method := { name := "<init>", desc := "()V", sig := { parameters := [], returnType := none }, accessFlags := 1, code := none }
def k1c1 : Code := { maxStack := 2, maxLocals := 5, code := code, exceptionTable := #[], attributes := #[] }
def k1m1 : Method := { name := "law", desc := "(II)Z", sig := { parameters := [.int, .int], returnType := some .boolean }, accessFlags := 9, code := some k1c1 }
/-- com/example/graphsieve/graphsieve/query/SetOperatorWithSymbolPinLaw -/
def k1 : Class := { plain "com/example/graphsieve/graphsieve/query/SetOperatorWithSymbolPinLaw" (some 0) with
  accessFlags := 49
  interfaces := #[]
  cf := some (fileOf pool1 23 #[] #[{ accessFlags := 1, nameIndex := 5, descriptorIndex := 6, attributes := #[] }, { accessFlags := 9, nameIndex := 27, descriptorIndex := 28, attributes := #[] }] 49 2 #[] #[])
  fields := #[]
  methods := #[k1m0, k1m1]
  instanceTypes := #[]
  staticTypes := #[]
  resolved := Array.replicate 32 none
  statics := none }

def pool2 : Array CpInfo := pool [(1, .class_ 2), (0, u "java/lang/constant/Constable"), (0, .class_ 4), (0, u "java/lang/Object")] 6

/-- java/lang/constant/Constable -/
def k2 : Class := { plain "java/lang/constant/Constable" (some 0) with
  accessFlags := 1537
  interfaces := #[]
  cf := some (fileOf pool2 1 #[] #[] 1537 3 #[] #[])
  fields := #[]
  methods := #[]
  instanceTypes := #[]
  staticTypes := #[]
  resolved := Array.replicate 11 none
  statics := none }

def pool3 : Array CpInfo := pool [(1, .class_ 2), (0, u "java/lang/Comparable"), (0, .class_ 4), (0, u "java/lang/Object")] 7

/-- java/lang/Comparable -/
def k3 : Class := { plain "java/lang/Comparable" (some 0) with
  accessFlags := 1537
  interfaces := #[]
  cf := some (fileOf pool3 1 #[] #[] 1537 3 #[] #[])
  fields := #[]
  methods := #[]
  instanceTypes := #[]
  staticTypes := #[]
  resolved := Array.replicate 12 none
  statics := none }

def pool4 : Array CpInfo := pool [(1, .class_ 2), (0, u "java/io/Serializable"), (0, .class_ 4), (0, u "java/lang/Object")] 2

/-- java/io/Serializable -/
def k4 : Class := { plain "java/io/Serializable" (some 0) with
  accessFlags := 1537
  interfaces := #[]
  cf := some (fileOf pool4 1 #[] #[] 1537 3 #[] #[])
  fields := #[]
  methods := #[]
  instanceTypes := #[]
  staticTypes := #[]
  resolved := Array.replicate 7 none
  statics := none }

def pool5 : Array CpInfo := pool [(2, .class_ 4), (1, u "java/lang/Enum"), (0, u "name"), (0, u "Ljava/lang/String;"), (2, u "ordinal"), (0, u "I"), (1, .class_ 14), (1, u "java/lang/Object"), (4, u "hash"), (86, .class_ 108), (1, u "java/lang/Enum$EnumDesc"), (2, .class_ 112), (0, u "java/lang/constant/Constable"), (0, .class_ 114), (0, u "java/lang/Comparable"), (0, .class_ 116), (0, u "java/io/Serializable")] 87

/-- java/lang/Enum -/
def k5 : Class := { plain "java/lang/Enum" (some 0) with
  accessFlags := 1057
  interfaces := #[2, 3, 4]
  cf := some (fileOf pool5 2 #[.nestMembers #[106]] #[] 1057 12 #[111, 113, 115] #[{ accessFlags := 18, nameIndex := 5, descriptorIndex := 6, attributes := #[] }, { accessFlags := 18, nameIndex := 9, descriptorIndex := 10, attributes := #[] }, { accessFlags := 2, nameIndex := 19, descriptorIndex := 10, attributes := #[] }])
  fields := #[{ name := "name", type := (.object "java/lang/String"), accessFlags := 18, slot := 0, constantValue := 0 }, { name := "ordinal", type := .int, accessFlags := 18, slot := 1, constantValue := 0 }, { name := "hash", type := .int, accessFlags := 2, slot := 2, constantValue := 0 }]
  methods := #[]
  instanceTypes := #[(.object "java/lang/String"), .int, .int]
  staticTypes := #[]
  resolved := Array.replicate 204 none
  statics := none }

def pool6 : Array CpInfo := pool [(1, .class_ 2), (0, u "com/example/graphsieve/graphsieve/query/SetOperator"), (2, u "INTERSECT"), (0, u "Lcom/example/graphsieve/graphsieve/query/SetOperator;"), (2, u "UNION"), (2, u "EXCEPT"), (0, .fieldref 1 14), (0, .nameAndType 15 16), (0, u "$VALUES"), (0, u "[Lcom/example/graphsieve/graphsieve/query/SetOperator;"), (0, .methodref 18 19), (0, .class_ 16), (0, .nameAndType 20 21), (0, u "clone"), (0, u "()Ljava/lang/Object;"), (1, .class_ 25), (1, u "java/lang/Enum"), (8, u "keyword"), (0, u "Ljava/lang/String;"), (0, .fieldref 1 37), (0, .nameAndType 38 39), (0, u "symbol"), (0, u "C"), (0, .methodref 1 41), (0, .nameAndType 42 43), (0, u "values"), (0, u "()[Lcom/example/graphsieve/graphsieve/query/SetOperator;"), (6, .class_ 51), (0, u "com/example/graphsieve/graphsieve/query/SetOperator$1"), (6, .class_ 59), (0, u "com/example/graphsieve/graphsieve/query/SetOperator$2"), (4, .class_ 65), (0, u "com/example/graphsieve/graphsieve/query/SetOperator$3"), (15, u "withSymbol"), (0, u "(C)Lcom/example/graphsieve/graphsieve/query/SetOperator;")] 12

def k6c0 : Code := { maxStack := 1, maxLocals := 0, code := prog_134_method_1_code, exceptionTable := #[], attributes := #[] }
def k6m0 : Method := { name := "values", desc := "()[Lcom/example/graphsieve/graphsieve/query/SetOperator;", sig := { parameters := [], returnType := some (.array (.object "com/example/graphsieve/graphsieve/query/SetOperator")) }, accessFlags := 9, code := some k6c0 }
def k6c1 : Code := { maxStack := 2, maxLocals := 5, code := prog_134_method_5_code, exceptionTable := #[], attributes := #[] }
def k6m1 : Method := { name := "withSymbol", desc := "(C)Lcom/example/graphsieve/graphsieve/query/SetOperator;", sig := { parameters := [.char], returnType := some (.object "com/example/graphsieve/graphsieve/query/SetOperator") }, accessFlags := 8, code := some k6c1 }
/-- com/example/graphsieve/graphsieve/query/SetOperator -/
def k6 : Class := { plain "com/example/graphsieve/graphsieve/query/SetOperator" (some 5) with
  accessFlags := 17440
  interfaces := #[]
  cf := some (fileOf pool6 1 #[.nestMembers #[64, 58, 50]] #[{ accessFlags := 9, nameIndex := 42, descriptorIndex := 43, attributes := #[] }, { accessFlags := 8, nameIndex := 81, descriptorIndex := 82, attributes := #[] }] 17440 23 #[] #[{ accessFlags := 16409, nameIndex := 5, descriptorIndex := 6, attributes := #[] }, { accessFlags := 16409, nameIndex := 9, descriptorIndex := 6, attributes := #[] }, { accessFlags := 16409, nameIndex := 12, descriptorIndex := 6, attributes := #[] }, { accessFlags := 18, nameIndex := 34, descriptorIndex := 35, attributes := #[] }, { accessFlags := 18, nameIndex := 38, descriptorIndex := 39, attributes := #[] }, { accessFlags := 4122, nameIndex := 15, descriptorIndex := 16, attributes := #[] }])
  fields := #[{ name := "INTERSECT", type := (.object "com/example/graphsieve/graphsieve/query/SetOperator"), accessFlags := 16409, slot := 0, constantValue := 0 }, { name := "UNION", type := (.object "com/example/graphsieve/graphsieve/query/SetOperator"), accessFlags := 16409, slot := 1, constantValue := 0 }, { name := "EXCEPT", type := (.object "com/example/graphsieve/graphsieve/query/SetOperator"), accessFlags := 16409, slot := 2, constantValue := 0 }, { name := "keyword", type := (.object "java/lang/String"), accessFlags := 18, slot := 3, constantValue := 0 }, { name := "symbol", type := .char, accessFlags := 18, slot := 4, constantValue := 0 }, { name := "$VALUES", type := (.array (.object "com/example/graphsieve/graphsieve/query/SetOperator")), accessFlags := 4122, slot := 3, constantValue := 0 }]
  methods := #[k6m0, k6m1]
  instanceTypes := #[(.object "java/lang/String"), .int, .int, (.object "java/lang/String"), .char]
  staticTypes := #[(.object "com/example/graphsieve/graphsieve/query/SetOperator"), (.object "com/example/graphsieve/graphsieve/query/SetOperator"), (.object "com/example/graphsieve/graphsieve/query/SetOperator"), (.array (.object "com/example/graphsieve/graphsieve/query/SetOperator"))]
  resolved := Array.replicate 95 none
  statics := some 0 }

def pool7 : Array CpInfo := pool [(1, .class_ 2), (0, u "java/lang/Cloneable"), (0, .class_ 4), (0, u "java/lang/Object")] 2

/-- java/lang/Cloneable -/
def k7 : Class := { plain "java/lang/Cloneable" (some 0) with
  accessFlags := 1537
  interfaces := #[]
  cf := some (fileOf pool7 1 #[] #[] 1537 3 #[] #[])
  fields := #[]
  methods := #[]
  instanceTypes := #[]
  staticTypes := #[]
  resolved := Array.replicate 7 none
  statics := none }

def pool8 : Array CpInfo := pool [(2, .class_ 4), (1, u "com/example/graphsieve/graphsieve/query/SetOperator"), (8, .class_ 14), (0, u "com/example/graphsieve/graphsieve/query/SetOperator$1")] 12

/-- com/example/graphsieve/graphsieve/query/SetOperator$1 -/
def k8 : Class := { plain "com/example/graphsieve/graphsieve/query/SetOperator$1" (some 6) with
  accessFlags := 16432
  interfaces := #[]
  cf := some (fileOf pool8 13 #[.nestHost 2] #[] 16432 2 #[] #[])
  fields := #[]
  methods := #[]
  instanceTypes := #[(.object "java/lang/String"), .int, .int, (.object "java/lang/String"), .char]
  staticTypes := #[]
  resolved := Array.replicate 27 none
  statics := none }

def pool9 : Array CpInfo := pool [(2, .class_ 4), (1, u "com/example/graphsieve/graphsieve/query/SetOperator"), (8, .class_ 14), (0, u "com/example/graphsieve/graphsieve/query/SetOperator$2")] 12

/-- com/example/graphsieve/graphsieve/query/SetOperator$2 -/
def k9 : Class := { plain "com/example/graphsieve/graphsieve/query/SetOperator$2" (some 6) with
  accessFlags := 16432
  interfaces := #[]
  cf := some (fileOf pool9 13 #[.nestHost 2] #[] 16432 2 #[] #[])
  fields := #[]
  methods := #[]
  instanceTypes := #[(.object "java/lang/String"), .int, .int, (.object "java/lang/String"), .char]
  staticTypes := #[]
  resolved := Array.replicate 27 none
  statics := none }

def pool10 : Array CpInfo := pool [(2, .class_ 4), (1, u "com/example/graphsieve/graphsieve/query/SetOperator"), (8, .class_ 14), (0, u "com/example/graphsieve/graphsieve/query/SetOperator$3")] 12

/-- com/example/graphsieve/graphsieve/query/SetOperator$3 -/
def k10 : Class := { plain "com/example/graphsieve/graphsieve/query/SetOperator$3" (some 6) with
  accessFlags := 16432
  interfaces := #[]
  cf := some (fileOf pool10 13 #[.nestHost 2] #[] 16432 2 #[] #[])
  fields := #[]
  methods := #[]
  instanceTypes := #[(.object "java/lang/String"), .int, .int, (.object "java/lang/String"), .char]
  staticTypes := #[]
  resolved := Array.replicate 27 none
  statics := none }

/-- the primitive byte -/
def k11 : Class := { plain "byte" none with kind := .primitive 'B', accessFlags := 0x411 }
/-- [B -/
def k12 : Class := { plain "[B" (some 0) with kind := .array 11 .byte, interfaces := #[7, 4], accessFlags := 1041 }

/-- the primitive int -/
def k13 : Class := { plain "int" none with kind := .primitive 'I', accessFlags := 0x411 }
/-- [I -/
def k14 : Class := { plain "[I" (some 0) with kind := .array 13 .int, interfaces := #[7, 4], accessFlags := 1041 }

/-- [Lcom/example/graphsieve/graphsieve/query/SetOperator; -/
def k15 : Class := { plain "[Lcom/example/graphsieve/graphsieve/query/SetOperator;" (some 0) with kind := .array 6 (.object "com/example/graphsieve/graphsieve/query/SetOperator"), interfaces := #[7, 4], accessFlags := 1041 }

def heap : Heap := #[{ cls := 6, slots := #[.ref 2, .ref 3, .ref 4, .ref 1], vm := .statics 6 },
  { cls := 15, slots := #[.ref 2, .ref 3, .ref 4], vm := .none },
  { cls := 8, slots := #[.null, .int 0, .int 0, .null, .int 94], vm := .none },
  { cls := 9, slots := #[.null, .int 1, .int 0, .null, .int 43], vm := .none },
  { cls := 10, slots := #[.null, .int 2, .int 0, .null, .int 45], vm := .none }]
def classes : Array Class := #[k0, k1, k2, k3, k4, k5, k6, k7, k8, k9, k10, k11, k12, k13, k14, k15]
def interned : List (Array UInt16 × Addr) := []
def slotsUsed : Nat := 22
def theMethod : MethodId := ⟨1, 1⟩
def args0 : Array Value := #[.int 5, .int 7]
def aboutOver (below : List Frame) : State where
  vm := { classes := classes, interned := interned.toArray }
  heap := heap
  slotsUsed := slotsUsed
  threads := #[{ frames := .invoking theMethod args0 :: below }]
def below0 : List Frame := [.native { method := ⟨0, 0⟩, args := #[] }]
def about1 : State := aboutOver below0
def p0 : Program := .bare "" "" ""
def e0 : Env := launch0.env 0 0 0
theorem w_frames : about1.frames = Frame.invoking theMethod args0 :: below0 := rfl
set_option maxRecDepth 65536 in
theorem w_args : argsFit about1.vm theMethod args0 = true := by decide +kernel
set_option maxRecDepth 65536 in
theorem w_heap : heapFits about1 = true := by decide +kernel
set_option maxRecDepth 65536 in
theorem w_runnable : about1.curStatus? = some .runnable := by decide +kernel
set_option maxRecDepth 65536 in
theorem w_alone : about1.alone = true := by decide +kernel
set_option maxRecDepth 65536 in
theorem w_named : about1.methodNamed? x = some theMethod := by decide +kernel
set_option maxRecDepth 65536 in
theorem w_hears : about1.hears theMethod below0 = true := by decide +kernel
set_option maxRecDepth 65536 in
theorem w_ripe : about1.ripe theMethod args0 below0 = true := by decide +kernel
theorem w_running : about1.status = .running := rfl
set_option maxRecDepth 65536 in
theorem w_room : about1.hasRoom e0.platform room_1 = true :=
  launch0.hasRoom_least _ room_1 (by decide +kernel) (by decide +kernel) (by decide +kernel) (by decide +kernel) (by decide +kernel) (by decide +kernel)
theorem allAtoms_all (ts : List Jvm.Cond) (a : Array Jvm.Value) (st : Jvm.State) : (allAtoms ts).before a st = ts.all (fun c => c.before a st) := by
  induction ts with
  | nil => rfl
  | cons c t ih =>
    show (Jvm.Cond.and c (allAtoms t)).before a st = _
    rw [Jvm.Cond.before_and, ih, List.all_cons]
def words1 : List Jvm.Cond := Jvm.Cond.code x code maxLocals ret :: tables_1
/-- a 'code' word, met by the world's own term for the bytes: nothing is compared byte by byte -/
theorem code_word {y : MethodName} {bytes : ByteArray} {mx : Nat} {rt : Option FieldType} {a : Array Value} {s : State} {m : MethodId} {meth : Method} {c : Code} (h1 : s.methodNamed? y = some m) (h2 : s.vm.method? m = some meth) (h3 : meth.code = some c) (h4 : c.code = bytes)
    (h5 : (c.maxLocals == mx && c.exceptionTable.isEmpty && decide (c.maxStack ≤ mostOperands) && decide (meth.sig.returnType = rt) && !meth.locks && decide (parseMethodDescriptor y.desc = some meth.sig)) = true) : (Jvm.Cond.code y bytes mx rt).before a s = true := by
  simp only [Bool.and_eq_true, beq_iff_eq, Bool.not_eq_true', decide_eq_true_eq] at h5
  obtain ⟨⟨⟨⟨⟨g1, g2⟩, g3⟩, g4⟩, g5⟩, g6⟩ := h5
  simp [Cond.before, Cond.holds, Cond.value, h1, h2, h3, h4, g1, g2, g3, g4, g5, g6]
def isCode : Jvm.Cond → Bool
  | .code _ _ _ _ => true
  | _ => false
theorem all_split {L : List Jvm.Cond} {P : Jvm.Cond → Bool} (h1 : L.all (fun c => isCode c || P c) = true) (h2 : ∀ c ∈ L.filter isCode, P c = true) : L.all P = true := by
  refine List.all_eq_true.mpr fun c hc => ?_
  have h := List.all_eq_true.mp h1 c hc
  rcases Bool.eq_false_or_eq_true (isCode c) with hi | hi
  · exact h2 c (List.mem_filter.mpr ⟨hc, hi⟩)
  · simpa [hi] using h
set_option maxRecDepth 65536 in
theorem w_c0 : (Jvm.Cond.code x code maxLocals ret).before args0 about1 = true := code_word (m := ⟨1, 1⟩) (meth := k1m1) (c := k1c1) (by decide +kernel) rfl rfl rfl (by decide +kernel)
set_option maxRecDepth 65536 in
theorem w_c1 : (Jvm.Cond.code ({ cls := "com/example/graphsieve/graphsieve/query/SetOperator", name := "withSymbol", desc := "(C)Lcom/example/graphsieve/graphsieve/query/SetOperator;" } : Jvm.MethodName) prog_134_method_5_code (5 : Nat) (Option.some (Jvm.ClassFile.FieldType.object "com/example/graphsieve/graphsieve/query/SetOperator"))).before args0 about1 = true := code_word (m := ⟨6, 1⟩) (meth := k6m1) (c := k6c1) (by decide +kernel) rfl rfl rfl (by decide +kernel)
set_option maxRecDepth 65536 in
theorem w_c2 : (Jvm.Cond.code ({ cls := "com/example/graphsieve/graphsieve/query/SetOperator", name := "values", desc := "()[Lcom/example/graphsieve/graphsieve/query/SetOperator;" } : Jvm.MethodName) prog_134_method_1_code (0 : Nat) (Option.some (Jvm.ClassFile.FieldType.array (Jvm.ClassFile.FieldType.object "com/example/graphsieve/graphsieve/query/SetOperator")))).before args0 about1 = true := code_word (m := ⟨6, 0⟩) (meth := k6m0) (c := k6c0) (by decide +kernel) rfl rfl rfl (by decide +kernel)
def codes1 : List Jvm.Cond := [Jvm.Cond.code x code maxLocals ret, Jvm.Cond.code ({ cls := "com/example/graphsieve/graphsieve/query/SetOperator", name := "withSymbol", desc := "(C)Lcom/example/graphsieve/graphsieve/query/SetOperator;" } : Jvm.MethodName) prog_134_method_5_code (5 : Nat) (Option.some (Jvm.ClassFile.FieldType.object "com/example/graphsieve/graphsieve/query/SetOperator")), Jvm.Cond.code ({ cls := "com/example/graphsieve/graphsieve/query/SetOperator", name := "values", desc := "()[Lcom/example/graphsieve/graphsieve/query/SetOperator;" } : Jvm.MethodName) prog_134_method_1_code (0 : Nat) (Option.some (Jvm.ClassFile.FieldType.array (Jvm.ClassFile.FieldType.object "com/example/graphsieve/graphsieve/query/SetOperator")))]
set_option maxRecDepth 65536 in
theorem codes_eq : words1.filter isCode = codes1 := rfl
theorem w_codes : ∀ c ∈ words1.filter isCode, c.before args0 about1 = true := by
  rw [codes_eq]
  intro c hc
  simp only [codes1, List.mem_cons, List.not_mem_nil, or_false] at hc
  rcases hc with rfl | rfl | rfl
  · exact w_c0
  · exact w_c1
  · exact w_c2
set_option maxRecDepth 65536 in
theorem w_t1 : (words1.take 24).all (fun c => isCode c || c.before args0 about1) = true := by decide +kernel
set_option maxRecDepth 65536 in
theorem w_t2 : (words1.drop 24).all (fun c => isCode c || c.before args0 about1) = true := by decide +kernel
theorem w_tables : (allAtoms (Jvm.Cond.code x code maxLocals ret :: tables_1)).before args0 about1 = true := by
  rw [allAtoms_all]
  show words1.all (fun c => c.before args0 about1) = true
  refine all_split ?_ w_codes
  rw [← List.take_append_drop 24 words1, List.all_append, w_t1, w_t2]
  rfl
set_option maxRecDepth 65536 in
theorem w_case : (Jvm.Cond.and given_1 narrow_1).before args0 about1 = true := by decide +kernel
theorem w_applies : (headSpec (Jvm.Cond.code x code maxLocals ret :: tables_1) room_1).applies x e0.platform about1 = true :=
  (Spec.applies_iff w_frames).mpr ⟨w_running, w_runnable, w_alone, w_named, w_hears, w_ripe, w_room, w_tables⟩
theorem atStart : AtStart classFile x code maxLocals ret World_1 tables_1 room_1 Calls_1 rest_1 Pre_1 launch0 p0 e0 about1 theMethod args0 below0 :=
  ⟨lists_1, trivial, launch0.admits_env _ _ _, launch0.least_env, fairChoices_fair.cas, fairChoices_fair.clock, w_frames, w_args, w_heap, w_applies, trivial, trivial, w_case⟩
end start1
theorem witness_1 : WitnessClaimed_1 := ⟨start1.p0, start1.e0, start1.about1, start1.theMethod, start1.args0, start1.below0, start1.atStart⟩
end Jvm.Pilot.@@N@@
