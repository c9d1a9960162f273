import JvmDerived
import JvmDerived.Pilot.@@N@@Statement
import JvmDerived.Pilot.@@N@@Code
set_option linter.unusedVariables false
set_option linter.unusedSimpArgs false
@@BLOCK:NumsL.lean.txt@@
namespace Jvm.RoadKit
open Sem ClassFile Op Lib Jvm.Stand Jvm.Free Jvm.LawKit
section New
variable {p : Program} {l : Launch} {e : Env} {R : Room} {s : State} {m : MethodId} {args : Array Value} {below : List Frame} {meth : Method} {c : Code} {T : State} {locs : List Loc} {cells slots : Nat}
theorem retI (X : Stand p l e R s m args below meth c T locs cells slots) (hx : p.tables.exec = Jvm.exec) {pc : Nat} {Ls : Array Slot} {z : Int32} {rest : List Value} (hret : meth.sig.returnType = some .int) (hd : decode c.code pc = .ok (.ireturn, 1)) {fs : List Frame}
    (hl : ∀ (f : JFrame) (acts : List Action), f.method = m → f.locked = none → f.entered = [] → (doReturn e (T.setTop f) acts (some (.int z))).1 = T.setFrames fs) : Steps p.tables e below (T.setTop (mkF m pc Ls (.int z :: rest))) (T.setFrames fs) := by
  have hm' : T.vm.method? m = some meth := X.method'
  have hn : narrow .int (.int z) = .int z := rfl
  show Steps p.tables e below (T.setTop { method := m, pc := pc, locals := Ls, stack := _ :: rest, locked := none }) _
  jvm_step X.here [X.here.top, hx, hd, hm', hret, hn]
  first | (intro acts; rw [hl _ acts rfl rfl rfl]) | rw [hl _ _ rfl rfl rfl]
  exact Steps.refl _
end New
end Jvm.RoadKit
namespace Jvm.Pilot.@@N@@
open Jvm Jvm.ClassFile Sem Op Lib Jvm.Free Jvm.Stand Jvm.LawKit Jvm.RoadKit Bundle Jvm.Pilot.@@N@@.Jvm.D
theorem own_eqi {args : Array Value} {s : State} {t : Term} {k : Int32} (h : (Cond.eq t (Term.int k)).value args s none s [] = some true) : t.eval args s none [] s = some (.int k) := by
  have e2 : (Term.int k).eval args s none [] s = some (.int k) := rfl
  cases hv : t.eval args s none [] s with
  | none => simp [Cond.value, hv] at h
  | some v =>
    simp only [Cond.value, hv, e2] at h
    cases v <;> simp at h
    rw [h]
theorem own_eqr {args : Array Value} {s : State} {t u : Term} {y : Addr} (h : (Cond.eq t u).value args s none s [] = some true) (hu : u.eval args s none [] s = some (.ref y)) : t.eval args s none [] s = some (.ref y) := by
  cases hv : t.eval args s none [] s with
  | none => simp [Cond.value, hv] at h
  | some v =>
    simp only [Cond.value, hv, hu] at h
    cases v <;> simp at h
    rw [h]
theorem own_fi {args : Array Value} {s : State} {t : Term} {C n d : String} {k : Int32} {x : Addr} (h : (Cond.eq (Term.field t C n d) (Term.int k)).value args s none s [] = some true) (ht : t.eval args s none [] s = some (.ref x)) : s.fieldOf? x C n d = some (.int k) := (fld_at ht).symm.trans (own_eqi h)
theorem own_fr {args : Array Value} {s : State} {t u : Term} {C n d : String} {x y : Addr} (h : (Cond.eq (Term.field t C n d) u).value args s none s [] = some true) (ht : t.eval args s none [] s = some (.ref x)) (hu : u.eval args s none [] s = some (.ref y)) : s.fieldOf? x C n d = some (.ref y) := (fld_at ht).symm.trans (own_eqr h hu)
theorem own_ne {s : State} {C n d : String} {x y : Addr} {j k : Int32} (hx : s.fieldOf? x C n d = some (.int j)) (hy : s.fieldOf? y C n d = some (.int k)) (hk : j ≠ k) : ¬ (x = y) := fun q => by
  subst q
  rw [hx] at hy
  exact hk (Value.int.inj (Option.some.inj hy))
theorem own_sk {Z : State} {h h' : Heap} {C n d : String} {v : Value} (S : Sta Z h C n d v) (K : Keep h h' []) : Sta Z h' C n d v := by
  obtain ⟨cf, i, k, f, st, cell, h1, h2, h3, h4, h5, r⟩ := S
  exact ⟨cf, i, k, f, st, cell, h1, h2, h3, h4, K.2.1 _ _ h5 (by simp), r⟩
theorem own_catR (a : Addr) : (Value.ref a).category = 1 := rfl
theorem own_cat {v : Value} (h : v.isRef = true) : v.category = 1 := by rcases ref_cases h with rfl | ⟨a, rfl⟩ <;> rfl
theorem own_nar {v : Value} {C : String} (h : v.isRef = true) : narrow (.object C) v = v := by rcases ref_cases h with rfl | ⟨a, rfl⟩ <;> rfl
theorem own_fits {v : Value} {C : String} (h : v.isRef = true) : fits (.object C) v = true := by rcases ref_cases h with rfl | ⟨a, rfl⟩ <;> rfl
def QR (b : Addr) (h0 : Heap) (n0 : Nat) (v : Option Value) (h : Heap) (L : List Loc) : Prop := v = some (.ref b) ∧ Fr n0 L ∧ h = h0
def QI (z : Int32) (h0 : Heap) (n0 : Nat) (v : Option Value) (h : Heap) (L : List Loc) : Prop := v = some (.int z) ∧ Fr n0 L ∧ h = h0
def QNew (h0 : Heap) (n0 : Nat) (v : Option Value) (h : Heap) (L : List Loc) : Prop := v = some (.ref h0.size) ∧ Fr n0 L ∧ Keep h0 h []
def QAny (h0 : Heap) (n0 : Nat) (v : Option Value) (h : Heap) (L : List Loc) : Prop := ∃ r, v = some r ∧ r.isRef = true ∧ Fr n0 L ∧ Keep h0 h []
def QInit (a1 : Addr) (h0 : Heap) (n0 : Nat) (v : Option Value) (h : Heap) (L : List Loc) : Prop := v = none ∧ Fr n0 L ∧ Keep h0 h [a1]
def QVoid (h0 : Heap) (n0 : Nat) (v : Option Value) (h : Heap) (L : List Loc) : Prop := v = none ∧ Fr n0 L ∧ h = h0
theorem d1_0 : decode method_2_code 0 = .ok (.iload_n 0, 1) := by decide +kernel
theorem d1_1 : decode method_2_code 1 = .ok (.ifCond .ne 7, 3) := by decide +kernel
theorem d1_4 : decode method_2_code 4 = .ok (.getstatic 7, 3) := by decide +kernel
theorem d1_7 : decode method_2_code 7 = .ok (.areturn, 1) := by decide +kernel
theorem pn_1 : plainName "com/example/flowmason/flowmason/engine/TaskOpenPinLaw" = true := by first | (simp [plainName, overriddenIn]; done) | decide +kernel
theorem ef_1 (m : MethodId) (x0 : Int32) : entryFrame m #[(.int x0)] 1 = mkF m 0 #[.val (.int x0)] [] := by first | (simp [entryFrame, mkF, argsToLocals, Value.category]; done) | rfl
theorem d1_8 : decode method_2_code 8 = .ok (.iload_n 0, 1) := by decide +kernel
theorem d1_9 : decode method_2_code 9 = .ok (.iconst 1, 1) := by decide +kernel
theorem d1_10 : decode method_2_code 10 = .ok (.if_icmp .ne 7, 3) := by decide +kernel
theorem d1_13 : decode method_2_code 13 = .ok (.getstatic 13, 3) := by decide +kernel
theorem d1_16 : decode method_2_code 16 = .ok (.areturn, 1) := by decide +kernel
theorem d1_17 : decode method_2_code 17 = .ok (.iload_n 0, 1) := by decide +kernel
theorem d1_18 : decode method_2_code 18 = .ok (.iconst 2, 1) := by decide +kernel
theorem d1_19 : decode method_2_code 19 = .ok (.if_icmp .ne 7, 3) := by decide +kernel
theorem d1_22 : decode method_2_code 22 = .ok (.getstatic 16, 3) := by decide +kernel
theorem d1_25 : decode method_2_code 25 = .ok (.areturn, 1) := by decide +kernel
theorem d1_26 : decode method_2_code 26 = .ok (.getstatic 19, 3) := by decide +kernel
theorem d1_29 : decode method_2_code 29 = .ok (.areturn, 1) := by decide +kernel
set_option maxRecDepth 65536 in
set_option maxHeartbeats 40000000 in
theorem rm1f (l : Launch) (Z : State) (a0 : Array Value) (hw : ∀ d ∈ tables_1, d.before a0 Z = true) (ws : List Jvm.Cond) (p1 : Int32) (w2 : Addr) (h0 : Heap) (n0 : Nat) (Z0 : n0 ≤ h0.size) (S_READY : Sta Z h0 "com/example/flowmason/flowmason/engine/Task$State" "READY" "Lcom/example/flowmason/flowmason/engine/Task$State;" (.ref w2)) (hc1 : p1 = (0 : Int32)) :
    MetFree l (⟨"com/example/flowmason/flowmason/engine/TaskOpenPinLaw", "stateOf", "(I)Lcom/example/flowmason/flowmason/engine/Task$State;"⟩ : MethodName) (head1 (Jvm.Cond.code (⟨"com/example/flowmason/flowmason/engine/TaskOpenPinLaw", "stateOf", "(I)Lcom/example/flowmason/flowmason/engine/Task$State;"⟩ : MethodName) method_2_code 1 (some (.object "com/example/flowmason/flowmason/engine/Task$State")) :: ws) ({ frames := 0, cells := 0, slots := 0, locals := 0 } : Room)) (fun a U => a = #[(.int p1)] ∧ Z.Warmed39 U.vm ∧ U.heap = h0) (fun _ _ _ _ _ => True) (fun _ U o U' => ∃ v L, o = .returned v ∧ QR w2 h0 n0 v U'.heap L ∧ FrameEnd U o U' L ({ frames := 0, cells := 0, slots := 0, locals := 0 } : Room).cells ({ frames := 0, cells := 0, slots := 0, locals := 0 } : Room).slots) := by
  refine MetFree.of_bodySF (plainFor_of_name pn_1) hisR ?_
  intro p e s m args below meth c s₁ Bd hml0 hP hK
  obtain ⟨rfl, hZ, hh⟩ := hP
  have hx := Bd.exec
  have hby := Bd.bytes
  have hml : c.maxLocals = 1 := hml0
  have hown : s.vm.findClass "com/example/flowmason/flowmason/engine/TaskOpenPinLaw" = some m.cls := findClass_of_methodNamed Bd.named
  have hnm := (name_of_methodNamed Bd.named Bd.method).1
  have X0 : Stand p l e ({ frames := 0, cells := 0, slots := 0, locals := 0 } : Room) s m #[(.int p1)] below meth c s₁ [] 0 0 := Stand.of_body Bd
  have e0 : s₁.heap = h0 := by rw [← hh, Bd.state]; rfl
  have N0 := Fr.nil n0
  have pre0 : ∀ t, Steps p.tables e below (s₁.setTop (mkF m 0 #[.val (.int p1)] [])) t → Steps p.tables e below (s₁.setTop (entryFrame m #[(.int p1)] 1)) t := fun t k => castTop (ef_1 m p1) k
  obtain ⟨T3, X3, e3, st3⟩ := getS2 X0 hx hZ hown (host := "") (Or.inl (hw _ (List.mem_of_getElem? (i := 4) rfl))) Via.refl e0 S_READY (g := (mkF m 4 #[.val (.int p1)] [])) rfl (hb hby d1_4)
  obtain ⟨fs, hr, hrun, hended, hW, hsame⟩ := X3.leave (v := some (.ref w2)) (fun h => by rw [Bd.returns] at h; cases h)
  refine ⟨_, _, pre0 _ ?_, hrun, hended, _, _, rfl, ?_, ⟨_, rfl⟩, hW, hsame.mono (by decide) (by decide)⟩
  · show Steps p.tables e below (s₁.setTop (mkF m 0 #[.val (.int p1)] [])) _
    refine XS.iloadN X0.here hx rfl (hb hby d1_0) rfl ?_
    show Steps p.tables e below (s₁.setTop (mkF m 1 #[.val (.int p1)] [(.int p1)])) _
    refine XS.ifNo X0.here hx rfl (hb hby d1_1) rfl ((if0 _ _).trans (teq hc1).2) ?_
    show Steps p.tables e below (s₁.setTop (mkF m 4 #[.val (.int p1)] [])) _
    refine st3 _ ?_
    show Steps p.tables e below (T3.setTop (mkF m 7 #[.val (.int p1)] [(.ref w2)])) _
    jvm_step X3.here [X3.here.top, hx, (hb hby d1_7), X3.method', Bd.returns, Value.isRef, FieldType.isReference]
    first | (intro acts; rw [hr _ acts rfl rfl rfl]) | rw [hr _ _ rfl rfl rfl]
    exact Steps.refl _
  · show QR w2 h0 n0 _ T3.heap _
    rw [e3]
    exact ⟨rfl, N0, rfl⟩
set_option maxRecDepth 65536 in
set_option maxHeartbeats 40000000 in
theorem rm1tf (l : Launch) (Z : State) (a0 : Array Value) (hw : ∀ d ∈ tables_1, d.before a0 Z = true) (ws : List Jvm.Cond) (p1 : Int32) (w2 : Addr) (h0 : Heap) (n0 : Nat) (Z0 : n0 ≤ h0.size) (S_RESERVED : Sta Z h0 "com/example/flowmason/flowmason/engine/Task$State" "RESERVED" "Lcom/example/flowmason/flowmason/engine/Task$State;" (.ref w2)) (hc1 : ¬ (p1 = (0 : Int32))) (hc10 : p1 = (1 : Int32)) :
    MetFree l (⟨"com/example/flowmason/flowmason/engine/TaskOpenPinLaw", "stateOf", "(I)Lcom/example/flowmason/flowmason/engine/Task$State;"⟩ : MethodName) (head1 (Jvm.Cond.code (⟨"com/example/flowmason/flowmason/engine/TaskOpenPinLaw", "stateOf", "(I)Lcom/example/flowmason/flowmason/engine/Task$State;"⟩ : MethodName) method_2_code 1 (some (.object "com/example/flowmason/flowmason/engine/Task$State")) :: ws) ({ frames := 0, cells := 0, slots := 0, locals := 0 } : Room)) (fun a U => a = #[(.int p1)] ∧ Z.Warmed39 U.vm ∧ U.heap = h0) (fun _ _ _ _ _ => True) (fun _ U o U' => ∃ v L, o = .returned v ∧ QR w2 h0 n0 v U'.heap L ∧ FrameEnd U o U' L ({ frames := 0, cells := 0, slots := 0, locals := 0 } : Room).cells ({ frames := 0, cells := 0, slots := 0, locals := 0 } : Room).slots) := by
  refine MetFree.of_bodySF (plainFor_of_name pn_1) hisR ?_
  intro p e s m args below meth c s₁ Bd hml0 hP hK
  obtain ⟨rfl, hZ, hh⟩ := hP
  have hx := Bd.exec
  have hby := Bd.bytes
  have hml : c.maxLocals = 1 := hml0
  have hown : s.vm.findClass "com/example/flowmason/flowmason/engine/TaskOpenPinLaw" = some m.cls := findClass_of_methodNamed Bd.named
  have hnm := (name_of_methodNamed Bd.named Bd.method).1
  have X0 : Stand p l e ({ frames := 0, cells := 0, slots := 0, locals := 0 } : Room) s m #[(.int p1)] below meth c s₁ [] 0 0 := Stand.of_body Bd
  have e0 : s₁.heap = h0 := by rw [← hh, Bd.state]; rfl
  have N0 := Fr.nil n0
  have pre0 : ∀ t, Steps p.tables e below (s₁.setTop (mkF m 0 #[.val (.int p1)] [])) t → Steps p.tables e below (s₁.setTop (entryFrame m #[(.int p1)] 1)) t := fun t k => castTop (ef_1 m p1) k
  obtain ⟨T3, X3, e3, st3⟩ := getS2 X0 hx hZ hown (host := "") (Or.inl (hw _ (List.mem_of_getElem? (i := 105) rfl))) Via.refl e0 S_RESERVED (g := (mkF m 13 #[.val (.int p1)] [])) rfl (hb hby d1_13)
  obtain ⟨fs, hr, hrun, hended, hW, hsame⟩ := X3.leave (v := some (.ref w2)) (fun h => by rw [Bd.returns] at h; cases h)
  refine ⟨_, _, pre0 _ ?_, hrun, hended, _, _, rfl, ?_, ⟨_, rfl⟩, hW, hsame.mono (by decide) (by decide)⟩
  · show Steps p.tables e below (s₁.setTop (mkF m 0 #[.val (.int p1)] [])) _
    refine XS.iloadN X0.here hx rfl (hb hby d1_0) rfl ?_
    show Steps p.tables e below (s₁.setTop (mkF m 1 #[.val (.int p1)] [(.int p1)])) _
    refine XS.ifYes X0.here hx rfl (pc0 := 1) (pc' := 8) rfl (hb hby d1_1) rfl ((if0 _ _).trans (feq hc1).2) (by decide) (by decide) ?_
    show Steps p.tables e below (s₁.setTop (mkF m 8 #[.val (.int p1)] [])) _
    refine XS.iloadN X0.here hx rfl (hb hby d1_8) rfl ?_
    show Steps p.tables e below (s₁.setTop (mkF m 9 #[.val (.int p1)] [(.int p1)])) _
    refine XS.iconst X0.here hx rfl (hb hby d1_9) ?_
    show Steps p.tables e below (s₁.setTop (mkF m 10 #[.val (.int p1)] [(.int (1 : Int32)), (.int p1)])) _
    refine XS.icmpNo X0.here hx rfl (hb hby d1_10) rfl (teq hc10).2 ?_
    show Steps p.tables e below (s₁.setTop (mkF m 13 #[.val (.int p1)] [])) _
    refine st3 _ ?_
    show Steps p.tables e below (T3.setTop (mkF m 16 #[.val (.int p1)] [(.ref w2)])) _
    jvm_step X3.here [X3.here.top, hx, (hb hby d1_16), X3.method', Bd.returns, Value.isRef, FieldType.isReference]
    first | (intro acts; rw [hr _ acts rfl rfl rfl]) | rw [hr _ _ rfl rfl rfl]
    exact Steps.refl _
  · show QR w2 h0 n0 _ T3.heap _
    rw [e3]
    exact ⟨rfl, N0, rfl⟩
set_option maxRecDepth 65536 in
set_option maxHeartbeats 40000000 in
theorem rm1ttf (l : Launch) (Z : State) (a0 : Array Value) (hw : ∀ d ∈ tables_1, d.before a0 Z = true) (ws : List Jvm.Cond) (p1 : Int32) (w2 : Addr) (h0 : Heap) (n0 : Nat) (Z0 : n0 ≤ h0.size) (S_COMPLETED : Sta Z h0 "com/example/flowmason/flowmason/engine/Task$State" "COMPLETED" "Lcom/example/flowmason/flowmason/engine/Task$State;" (.ref w2)) (hc1 : ¬ (p1 = (0 : Int32))) (hc10 : ¬ (p1 = (1 : Int32))) (hc19 : p1 = (2 : Int32)) :
    MetFree l (⟨"com/example/flowmason/flowmason/engine/TaskOpenPinLaw", "stateOf", "(I)Lcom/example/flowmason/flowmason/engine/Task$State;"⟩ : MethodName) (head1 (Jvm.Cond.code (⟨"com/example/flowmason/flowmason/engine/TaskOpenPinLaw", "stateOf", "(I)Lcom/example/flowmason/flowmason/engine/Task$State;"⟩ : MethodName) method_2_code 1 (some (.object "com/example/flowmason/flowmason/engine/Task$State")) :: ws) ({ frames := 0, cells := 0, slots := 0, locals := 0 } : Room)) (fun a U => a = #[(.int p1)] ∧ Z.Warmed39 U.vm ∧ U.heap = h0) (fun _ _ _ _ _ => True) (fun _ U o U' => ∃ v L, o = .returned v ∧ QR w2 h0 n0 v U'.heap L ∧ FrameEnd U o U' L ({ frames := 0, cells := 0, slots := 0, locals := 0 } : Room).cells ({ frames := 0, cells := 0, slots := 0, locals := 0 } : Room).slots) := by
  refine MetFree.of_bodySF (plainFor_of_name pn_1) hisR ?_
  intro p e s m args below meth c s₁ Bd hml0 hP hK
  obtain ⟨rfl, hZ, hh⟩ := hP
  have hx := Bd.exec
  have hby := Bd.bytes
  have hml : c.maxLocals = 1 := hml0
  have hown : s.vm.findClass "com/example/flowmason/flowmason/engine/TaskOpenPinLaw" = some m.cls := findClass_of_methodNamed Bd.named
  have hnm := (name_of_methodNamed Bd.named Bd.method).1
  have X0 : Stand p l e ({ frames := 0, cells := 0, slots := 0, locals := 0 } : Room) s m #[(.int p1)] below meth c s₁ [] 0 0 := Stand.of_body Bd
  have e0 : s₁.heap = h0 := by rw [← hh, Bd.state]; rfl
  have N0 := Fr.nil n0
  have pre0 : ∀ t, Steps p.tables e below (s₁.setTop (mkF m 0 #[.val (.int p1)] [])) t → Steps p.tables e below (s₁.setTop (entryFrame m #[(.int p1)] 1)) t := fun t k => castTop (ef_1 m p1) k
  obtain ⟨T3, X3, e3, st3⟩ := getS2 X0 hx hZ hown (host := "") (Or.inl (hw _ (List.mem_of_getElem? (i := 85) rfl))) Via.refl e0 S_COMPLETED (g := (mkF m 22 #[.val (.int p1)] [])) rfl (hb hby d1_22)
  obtain ⟨fs, hr, hrun, hended, hW, hsame⟩ := X3.leave (v := some (.ref w2)) (fun h => by rw [Bd.returns] at h; cases h)
  refine ⟨_, _, pre0 _ ?_, hrun, hended, _, _, rfl, ?_, ⟨_, rfl⟩, hW, hsame.mono (by decide) (by decide)⟩
  · show Steps p.tables e below (s₁.setTop (mkF m 0 #[.val (.int p1)] [])) _
    refine XS.iloadN X0.here hx rfl (hb hby d1_0) rfl ?_
    show Steps p.tables e below (s₁.setTop (mkF m 1 #[.val (.int p1)] [(.int p1)])) _
    refine XS.ifYes X0.here hx rfl (pc0 := 1) (pc' := 8) rfl (hb hby d1_1) rfl ((if0 _ _).trans (feq hc1).2) (by decide) (by decide) ?_
    show Steps p.tables e below (s₁.setTop (mkF m 8 #[.val (.int p1)] [])) _
    refine XS.iloadN X0.here hx rfl (hb hby d1_8) rfl ?_
    show Steps p.tables e below (s₁.setTop (mkF m 9 #[.val (.int p1)] [(.int p1)])) _
    refine XS.iconst X0.here hx rfl (hb hby d1_9) ?_
    show Steps p.tables e below (s₁.setTop (mkF m 10 #[.val (.int p1)] [(.int (1 : Int32)), (.int p1)])) _
    refine XS.icmpYes X0.here hx rfl (pc0 := 10) (pc' := 17) rfl (hb hby d1_10) rfl (feq hc10).2 (by decide) (by decide) ?_
    show Steps p.tables e below (s₁.setTop (mkF m 17 #[.val (.int p1)] [])) _
    refine XS.iloadN X0.here hx rfl (hb hby d1_17) rfl ?_
    show Steps p.tables e below (s₁.setTop (mkF m 18 #[.val (.int p1)] [(.int p1)])) _
    refine XS.iconst X0.here hx rfl (hb hby d1_18) ?_
    show Steps p.tables e below (s₁.setTop (mkF m 19 #[.val (.int p1)] [(.int (2 : Int32)), (.int p1)])) _
    refine XS.icmpNo X0.here hx rfl (hb hby d1_19) rfl (teq hc19).2 ?_
    show Steps p.tables e below (s₁.setTop (mkF m 22 #[.val (.int p1)] [])) _
    refine st3 _ ?_
    show Steps p.tables e below (T3.setTop (mkF m 25 #[.val (.int p1)] [(.ref w2)])) _
    jvm_step X3.here [X3.here.top, hx, (hb hby d1_25), X3.method', Bd.returns, Value.isRef, FieldType.isReference]
    first | (intro acts; rw [hr _ acts rfl rfl rfl]) | rw [hr _ _ rfl rfl rfl]
    exact Steps.refl _
  · show QR w2 h0 n0 _ T3.heap _
    rw [e3]
    exact ⟨rfl, N0, rfl⟩
set_option maxRecDepth 65536 in
set_option maxHeartbeats 40000000 in
theorem rm1ttt (l : Launch) (Z : State) (a0 : Array Value) (hw : ∀ d ∈ tables_1, d.before a0 Z = true) (ws : List Jvm.Cond) (p1 : Int32) (w2 : Addr) (h0 : Heap) (n0 : Nat) (Z0 : n0 ≤ h0.size) (S_WITHDRAWN : Sta Z h0 "com/example/flowmason/flowmason/engine/Task$State" "WITHDRAWN" "Lcom/example/flowmason/flowmason/engine/Task$State;" (.ref w2)) (hc1 : ¬ (p1 = (0 : Int32))) (hc10 : ¬ (p1 = (1 : Int32))) (hc19 : ¬ (p1 = (2 : Int32))) :
    MetFree l (⟨"com/example/flowmason/flowmason/engine/TaskOpenPinLaw", "stateOf", "(I)Lcom/example/flowmason/flowmason/engine/Task$State;"⟩ : MethodName) (head1 (Jvm.Cond.code (⟨"com/example/flowmason/flowmason/engine/TaskOpenPinLaw", "stateOf", "(I)Lcom/example/flowmason/flowmason/engine/Task$State;"⟩ : MethodName) method_2_code 1 (some (.object "com/example/flowmason/flowmason/engine/Task$State")) :: ws) ({ frames := 0, cells := 0, slots := 0, locals := 0 } : Room)) (fun a U => a = #[(.int p1)] ∧ Z.Warmed39 U.vm ∧ U.heap = h0) (fun _ _ _ _ _ => True) (fun _ U o U' => ∃ v L, o = .returned v ∧ QR w2 h0 n0 v U'.heap L ∧ FrameEnd U o U' L ({ frames := 0, cells := 0, slots := 0, locals := 0 } : Room).cells ({ frames := 0, cells := 0, slots := 0, locals := 0 } : Room).slots) := by
  refine MetFree.of_bodySF (plainFor_of_name pn_1) hisR ?_
  intro p e s m args below meth c s₁ Bd hml0 hP hK
  obtain ⟨rfl, hZ, hh⟩ := hP
  have hx := Bd.exec
  have hby := Bd.bytes
  have hml : c.maxLocals = 1 := hml0
  have hown : s.vm.findClass "com/example/flowmason/flowmason/engine/TaskOpenPinLaw" = some m.cls := findClass_of_methodNamed Bd.named
  have hnm := (name_of_methodNamed Bd.named Bd.method).1
  have X0 : Stand p l e ({ frames := 0, cells := 0, slots := 0, locals := 0 } : Room) s m #[(.int p1)] below meth c s₁ [] 0 0 := Stand.of_body Bd
  have e0 : s₁.heap = h0 := by rw [← hh, Bd.state]; rfl
  have N0 := Fr.nil n0
  have pre0 : ∀ t, Steps p.tables e below (s₁.setTop (mkF m 0 #[.val (.int p1)] [])) t → Steps p.tables e below (s₁.setTop (entryFrame m #[(.int p1)] 1)) t := fun t k => castTop (ef_1 m p1) k
  obtain ⟨T3, X3, e3, st3⟩ := getS2 X0 hx hZ hown (host := "") (Or.inl (hw _ (List.mem_of_getElem? (i := 84) rfl))) Via.refl e0 S_WITHDRAWN (g := (mkF m 26 #[.val (.int p1)] [])) rfl (hb hby d1_26)
  obtain ⟨fs, hr, hrun, hended, hW, hsame⟩ := X3.leave (v := some (.ref w2)) (fun h => by rw [Bd.returns] at h; cases h)
  refine ⟨_, _, pre0 _ ?_, hrun, hended, _, _, rfl, ?_, ⟨_, rfl⟩, hW, hsame.mono (by decide) (by decide)⟩
  · show Steps p.tables e below (s₁.setTop (mkF m 0 #[.val (.int p1)] [])) _
    refine XS.iloadN X0.here hx rfl (hb hby d1_0) rfl ?_
    show Steps p.tables e below (s₁.setTop (mkF m 1 #[.val (.int p1)] [(.int p1)])) _
    refine XS.ifYes X0.here hx rfl (pc0 := 1) (pc' := 8) rfl (hb hby d1_1) rfl ((if0 _ _).trans (feq hc1).2) (by decide) (by decide) ?_
    show Steps p.tables e below (s₁.setTop (mkF m 8 #[.val (.int p1)] [])) _
    refine XS.iloadN X0.here hx rfl (hb hby d1_8) rfl ?_
    show Steps p.tables e below (s₁.setTop (mkF m 9 #[.val (.int p1)] [(.int p1)])) _
    refine XS.iconst X0.here hx rfl (hb hby d1_9) ?_
    show Steps p.tables e below (s₁.setTop (mkF m 10 #[.val (.int p1)] [(.int (1 : Int32)), (.int p1)])) _
    refine XS.icmpYes X0.here hx rfl (pc0 := 10) (pc' := 17) rfl (hb hby d1_10) rfl (feq hc10).2 (by decide) (by decide) ?_
    show Steps p.tables e below (s₁.setTop (mkF m 17 #[.val (.int p1)] [])) _
    refine XS.iloadN X0.here hx rfl (hb hby d1_17) rfl ?_
    show Steps p.tables e below (s₁.setTop (mkF m 18 #[.val (.int p1)] [(.int p1)])) _
    refine XS.iconst X0.here hx rfl (hb hby d1_18) ?_
    show Steps p.tables e below (s₁.setTop (mkF m 19 #[.val (.int p1)] [(.int (2 : Int32)), (.int p1)])) _
    refine XS.icmpYes X0.here hx rfl (pc0 := 19) (pc' := 26) rfl (hb hby d1_19) rfl (feq hc19).2 (by decide) (by decide) ?_
    show Steps p.tables e below (s₁.setTop (mkF m 26 #[.val (.int p1)] [])) _
    refine st3 _ ?_
    show Steps p.tables e below (T3.setTop (mkF m 29 #[.val (.int p1)] [(.ref w2)])) _
    jvm_step X3.here [X3.here.top, hx, (hb hby d1_29), X3.method', Bd.returns, Value.isRef, FieldType.isReference]
    first | (intro acts; rw [hr _ acts rfl rfl rfl]) | rw [hr _ _ rfl rfl rfl]
    exact Steps.refl _
  · show QR w2 h0 n0 _ T3.heap _
    rw [e3]
    exact ⟨rfl, N0, rfl⟩
def Pick (Z : State) (h0 : Heap) (i : Int32) (b : Addr) : Prop := (i = 0 ∧ Sta Z h0 "com/example/flowmason/flowmason/engine/Task$State" "READY" "Lcom/example/flowmason/flowmason/engine/Task$State;" (.ref b)) ∨ (i = 1 ∧ Sta Z h0 "com/example/flowmason/flowmason/engine/Task$State" "RESERVED" "Lcom/example/flowmason/flowmason/engine/Task$State;" (.ref b)) ∨ (i = 2 ∧ Sta Z h0 "com/example/flowmason/flowmason/engine/Task$State" "COMPLETED" "Lcom/example/flowmason/flowmason/engine/Task$State;" (.ref b)) ∨ (i = 3 ∧ Sta Z h0 "com/example/flowmason/flowmason/engine/Task$State" "WITHDRAWN" "Lcom/example/flowmason/flowmason/engine/Task$State;" (.ref b))
theorem rm1 (l : Launch) (Z : State) (a0 : Array Value) (hw : ∀ d ∈ tables_1, d.before a0 Z = true) (ws : List Jvm.Cond) (p1 : Int32) (w2 : Addr) (h0 : Heap) (n0 : Nat) (Z0 : n0 ≤ h0.size) (hp : Pick Z h0 p1 w2) :
    MetFree l (⟨"com/example/flowmason/flowmason/engine/TaskOpenPinLaw", "stateOf", "(I)Lcom/example/flowmason/flowmason/engine/Task$State;"⟩ : MethodName) (head1 (Jvm.Cond.code (⟨"com/example/flowmason/flowmason/engine/TaskOpenPinLaw", "stateOf", "(I)Lcom/example/flowmason/flowmason/engine/Task$State;"⟩ : MethodName) method_2_code 1 (some (.object "com/example/flowmason/flowmason/engine/Task$State")) :: ws) ({ frames := 0, cells := 0, slots := 0, locals := 0 } : Room)) (fun a U => a = #[(.int p1)] ∧ Z.Warmed39 U.vm ∧ U.heap = h0) (fun _ _ _ _ _ => True) (fun _ U o U' => ∃ v L, o = .returned v ∧ QR w2 h0 n0 v U'.heap L ∧ FrameEnd U o U' L ({ frames := 0, cells := 0, slots := 0, locals := 0 } : Room).cells ({ frames := 0, cells := 0, slots := 0, locals := 0 } : Room).slots) := by
  rcases hp with ⟨rfl, hs⟩ | ⟨rfl, hs⟩ | ⟨rfl, hs⟩ | ⟨rfl, hs⟩
  · exact rm1f l Z a0 hw ws _ w2 h0 n0 Z0 hs rfl
  · exact rm1tf l Z a0 hw ws _ w2 h0 n0 Z0 hs (by decide) rfl
  · exact rm1ttf l Z a0 hw ws _ w2 h0 n0 Z0 hs (by decide) (by decide) rfl
  · exact rm1ttt l Z a0 hw ws _ w2 h0 n0 Z0 hs (by decide) (by decide) (by decide)
theorem d12_0 : decode jdk_43_method_3_code 0 = .ok (.iload_n 0, 1) := by decide +kernel
theorem d12_1 : decode jdk_43_method_3_code 1 = .ok (.sipush 255, 3) := by decide +kernel
theorem d12_4 : decode jdk_43_method_3_code 4 = .ok (.if_icmp .gt 7, 3) := by decide +kernel
theorem d12_7 : decode jdk_43_method_3_code 7 = .ok (.iconst 1, 1) := by decide +kernel
theorem d12_8 : decode jdk_43_method_3_code 8 = .ok (.goto 4, 3) := by decide +kernel
theorem d12_12 : decode jdk_43_method_3_code 12 = .ok (.ireturn, 1) := by decide +kernel
theorem pn_12 : plainName "java/lang/StringLatin1" = true := by first | (simp [plainName, overriddenIn]; done) | decide +kernel
theorem ef_12 (m : MethodId) (x0 : Int32) : entryFrame m #[(.int x0)] 1 = mkF m 0 #[.val (.int x0)] [] := by first | (simp [entryFrame, mkF, argsToLocals, Value.category]; done) | rfl
set_option maxRecDepth 65536 in
set_option maxHeartbeats 40000000 in
theorem rm12 (l : Launch) (Z : State) (a0 : Array Value) (hw : ∀ d ∈ tables_1, d.before a0 Z = true) (ws : List Jvm.Cond) (p1 : Int32) (h0 : Heap) (n0 : Nat) (Z0 : n0 ≤ h0.size) (hc4 : ¬ ((255 : Int32) < p1)) :
    MetFree l (⟨"java/lang/StringLatin1", "canEncode", "(C)Z"⟩ : MethodName) (head1 (Jvm.Cond.code (⟨"java/lang/StringLatin1", "canEncode", "(C)Z"⟩ : MethodName) jdk_43_method_3_code 1 (some .boolean) :: ws) ({ frames := 0, cells := 0, slots := 0, locals := 0 } : Room)) (fun a U => a = #[(.int p1)] ∧ Z.Warmed39 U.vm ∧ U.heap = h0) (fun _ _ _ _ _ => True) (fun _ U o U' => ∃ v L, o = .returned v ∧ QI 1 h0 n0 v U'.heap L ∧ FrameEnd U o U' L ({ frames := 0, cells := 0, slots := 0, locals := 0 } : Room).cells ({ frames := 0, cells := 0, slots := 0, locals := 0 } : Room).slots) := by
  refine MetFree.of_bodySF (plainFor_of_name pn_12) hisR ?_
  intro p e s m args below meth c s₁ Bd hml0 hP hK
  obtain ⟨rfl, hZ, hh⟩ := hP
  have hx := Bd.exec
  have hby := Bd.bytes
  have hml : c.maxLocals = 1 := hml0
  have hown : s.vm.findClass "java/lang/StringLatin1" = some m.cls := findClass_of_methodNamed Bd.named
  have hnm := (name_of_methodNamed Bd.named Bd.method).1
  have X0 : Stand p l e ({ frames := 0, cells := 0, slots := 0, locals := 0 } : Room) s m #[(.int p1)] below meth c s₁ [] 0 0 := Stand.of_body Bd
  have e0 : s₁.heap = h0 := by rw [← hh, Bd.state]; rfl
  have N0 := Fr.nil n0
  have pre0 : ∀ t, Steps p.tables e below (s₁.setTop (mkF m 0 #[.val (.int p1)] [])) t → Steps p.tables e below (s₁.setTop (entryFrame m #[(.int p1)] 1)) t := fun t k => castTop (ef_12 m p1) k

  obtain ⟨fs, hr, hrun, hended, hW, hsame⟩ := X0.leave (v := some (.int (1 : Int32))) (fun h => by rw [Bd.returns] at h; cases h)
  refine ⟨_, _, pre0 _ ?_, hrun, hended, _, _, rfl, ?_, ⟨_, rfl⟩, hW, hsame.mono (by decide) (by decide)⟩
  · show Steps p.tables e below (s₁.setTop (mkF m 0 #[.val (.int p1)] [])) _
    refine XS.iloadN X0.here hx rfl (hb hby d12_0) rfl ?_
    show Steps p.tables e below (s₁.setTop (mkF m 1 #[.val (.int p1)] [(.int p1)])) _
    refine XS.sipush X0.here hx rfl (hb hby d12_1) ?_
    show Steps p.tables e below (s₁.setTop (mkF m 4 #[.val (.int p1)] [(.int (255 : Int32)), (.int p1)])) _
    refine XS.icmpNo X0.here hx rfl (hb hby d12_4) rfl (flt hc4).2.2.1 ?_
    show Steps p.tables e below (s₁.setTop (mkF m 7 #[.val (.int p1)] [])) _
    refine XS.iconst X0.here hx rfl (hb hby d12_7) ?_
    show Steps p.tables e below (s₁.setTop (mkF m 8 #[.val (.int p1)] [(.int (1 : Int32))])) _
    refine XS.goto X0.here hx rfl (pc0 := 8) (pc' := 12) rfl (hb hby d12_8) (by decide) (by decide) ?_
    show Steps p.tables e below (s₁.setTop (mkF m 12 #[.val (.int p1)] [(.int (1 : Int32))])) _
    exact retN X0 hx (t := .boolean) Bd.returns (by simp) (hb hby d12_12) hr
  · show QI 1 h0 n0 _ s₁.heap _
    rw [e0]
    exact ⟨rfl, N0, rfl⟩
theorem d13_0 : decode jdk_43_method_46_code 0 = .ok (.iconst 1, 1) := by decide +kernel
theorem d13_1 : decode jdk_43_method_46_code 1 = .ok (.newarray .byte, 2) := by decide +kernel
theorem d13_3 : decode jdk_43_method_46_code 3 = .ok (.dup, 1) := by decide +kernel
theorem d13_4 : decode jdk_43_method_46_code 4 = .ok (.iconst 0, 1) := by decide +kernel
theorem d13_5 : decode jdk_43_method_46_code 5 = .ok (.iload_n 0, 1) := by decide +kernel
theorem d13_6 : decode jdk_43_method_46_code 6 = .ok (.i2b, 1) := by decide +kernel
theorem d13_7 : decode jdk_43_method_46_code 7 = .ok (.bastore, 1) := by decide +kernel
theorem d13_8 : decode jdk_43_method_46_code 8 = .ok (.areturn, 1) := by decide +kernel
theorem pn_13 : plainName "java/lang/StringLatin1" = true := by first | (simp [plainName, overriddenIn]; done) | decide +kernel
theorem ef_13 (m : MethodId) (x0 : Int32) : entryFrame m #[(.int x0)] 1 = mkF m 0 #[.val (.int x0)] [] := by first | (simp [entryFrame, mkF, argsToLocals, Value.category]; done) | rfl
set_option maxRecDepth 65536 in
set_option maxHeartbeats 40000000 in
theorem rm13 (l : Launch) (Z : State) (a0 : Array Value) (hw : ∀ d ∈ tables_1, d.before a0 Z = true) (ws : List Jvm.Cond) (p1 : Int32) (h0 : Heap) (n0 : Nat) (Z0 : n0 ≤ h0.size) :
    MetFree l (⟨"java/lang/StringLatin1", "toBytes", "(C)[B"⟩ : MethodName) (head1 (Jvm.Cond.code (⟨"java/lang/StringLatin1", "toBytes", "(C)[B"⟩ : MethodName) jdk_43_method_46_code 1 (some (.array .byte)) :: ws) ({ frames := 0, cells := 1, slots := 1, locals := 0 } : Room)) (fun a U => a = #[(.int p1)] ∧ Z.Warmed39 U.vm ∧ U.heap = h0) (fun _ _ _ _ _ => True) (fun _ U o U' => ∃ v L, o = .returned v ∧ QNew h0 n0 v U'.heap L ∧ FrameEnd U o U' L ({ frames := 0, cells := 1, slots := 1, locals := 0 } : Room).cells ({ frames := 0, cells := 1, slots := 1, locals := 0 } : Room).slots) := by
  refine MetFree.of_bodySF (plainFor_of_name pn_13) hisR ?_
  intro p e s m args below meth c s₁ Bd hml0 hP hK
  obtain ⟨rfl, hZ, hh⟩ := hP
  have hx := Bd.exec
  have hby := Bd.bytes
  have hml : c.maxLocals = 1 := hml0
  have hown : s.vm.findClass "java/lang/StringLatin1" = some m.cls := findClass_of_methodNamed Bd.named
  have hnm := (name_of_methodNamed Bd.named Bd.method).1
  have X0 : Stand p l e ({ frames := 0, cells := 1, slots := 1, locals := 0 } : Room) s m #[(.int p1)] below meth c s₁ [] 0 0 := Stand.of_body Bd
  have e0 : s₁.heap = h0 := by rw [← hh, Bd.state]; rfl
  have N0 := Fr.nil n0
  have pre0 : ∀ t, Steps p.tables e below (s₁.setTop (mkF m 0 #[.val (.int p1)] [])) t → Steps p.tables e below (s₁.setTop (entryFrame m #[(.int p1)] 1)) t := fun t k => castTop (ef_13 m p1) k
  obtain ⟨T2, h2, k2, X2, e2, E2, A2, st2⟩ := newP X0 hx hZ (hw _ (List.mem_of_getElem? (i := 13) rfl)) e0 (g := (mkF m 1 #[.val (.int p1)] [(.int (1 : Int32))])) rfl (hb hby d13_1) rfl (by decide) (cap := 1) (by decide) (by decide) (by decide) (by decide)
  obtain ⟨b2, g2⟩ : ∃ z, z = h0.size := ⟨_, rfl⟩
  rw [← g2] at A2 st2
  have V_b2 : Arv Z h2 b2 k2 .byte (1 : Int32) [(.int (0 : Int32))] (.int (0 : Int32)) := (Arv.new A2 (by decide)).pad (pad_rep [] (.int (0 : Int32)) 1)
  have g_b2 : n0 ≤ b2 := Nat.le_trans Z0 (Nat.le_of_eq g2.symm)
  have sz_b2 : h0.size ≤ b2 := (Nat.le_trans (Keep.refl h0 []).1 (Nat.le_of_eq g2.symm))
  have K2 : Keep h0 h2 [] := (Keep.refl h0 []).ext E2
  obtain ⟨cl_b2_7, Ar_b2, q_b2, S_b2, N_b2, H_b2, G_b2⟩ := V_b2
  have hin7 : ¬ ((0 : Int32) < 0 ∨ cl_b2_7.slots.size ≤ ((0 : Int32)).toNatClampNeg) := inb_of S_b2 ⟨by decide, by decide⟩
  obtain ⟨T3, h3, X3, e3, W3, st3⟩ := stB X2 hx hZ e2 Ar_b2 (j := (0 : Int32)) (by rw [S_b2]; decide) (g := (mkF m 7 #[.val (.int p1)] [(.int (p1.toInt8.toInt32)), (.int (0 : Int32)), (.ref b2), (.ref b2)])) rfl rfl (hb hby d13_7)
  have V_b2_3 := Arv.set Ar_b2 q_b2 S_b2 N_b2 H_b2 G_b2 (fits_nar_byte _) W3 0 rfl (Nat.le_of_ble_eq_true rfl)
  have K3 : Keep h0 h3 [] := K2.wr W3 (Or.inr sz_b2)
  have N3 := Fr.snoc X3 N0 g_b2
  obtain ⟨fs, hr, hrun, hended, hW, hsame⟩ := X3.leave (v := some (.ref b2)) (fun h => by rw [Bd.returns] at h; cases h)
  refine ⟨_, _, pre0 _ ?_, hrun, hended, _, _, rfl, ?_, ⟨_, rfl⟩, hW, hsame.mono (by decide) (by decide)⟩
  · show Steps p.tables e below (s₁.setTop (mkF m 0 #[.val (.int p1)] [])) _
    refine XS.iconst X0.here hx rfl (hb hby d13_0) ?_
    show Steps p.tables e below (s₁.setTop (mkF m 1 #[.val (.int p1)] [(.int (1 : Int32))])) _
    refine st2 _ ?_
    show Steps p.tables e below (T2.setTop (mkF m 3 #[.val (.int p1)] [(.ref b2)])) _
    refine XS.dup X2.here hx rfl (hb hby d13_3) rfl rfl ?_
    show Steps p.tables e below (T2.setTop (mkF m 4 #[.val (.int p1)] [(.ref b2), (.ref b2)])) _
    refine XS.iconst X2.here hx rfl (hb hby d13_4) ?_
    show Steps p.tables e below (T2.setTop (mkF m 5 #[.val (.int p1)] [(.int (0 : Int32)), (.ref b2), (.ref b2)])) _
    refine XS.iloadN X2.here hx rfl (hb hby d13_5) rfl ?_
    show Steps p.tables e below (T2.setTop (mkF m 6 #[.val (.int p1)] [(.int p1), (.int (0 : Int32)), (.ref b2), (.ref b2)])) _
    refine XS.i2b X2.here hx rfl (hb hby d13_6) rfl ?_
    show Steps p.tables e below (T2.setTop (mkF m 7 #[.val (.int p1)] [(.int (p1.toInt8.toInt32)), (.int (0 : Int32)), (.ref b2), (.ref b2)])) _
    refine st3 _ ?_
    show Steps p.tables e below (T3.setTop (mkF m 8 #[.val (.int p1)] [(.ref b2)])) _
    jvm_step X3.here [X3.here.top, hx, (hb hby d13_8), X3.method', Bd.returns, Value.isRef, FieldType.isReference]
    first | (intro acts; rw [hr _ acts rfl rfl rfl]) | rw [hr _ _ rfl rfl rfl]
    exact Steps.refl _
  · show QNew h0 n0 _ T3.heap _
    rw [e3]
    subst g2
    exact ⟨rfl, N3, K3⟩
theorem d14_0 : decode jdk_42_method_151_code 0 = .ok (.aload_n 0, 1) := by decide +kernel
theorem d14_1 : decode jdk_42_method_151_code 1 = .ok (.invokespecial 1, 3) := by decide +kernel
theorem d14_4 : decode jdk_42_method_151_code 4 = .ok (.aload_n 0, 1) := by decide +kernel
theorem d14_5 : decode jdk_42_method_151_code 5 = .ok (.aload_n 1, 1) := by decide +kernel
theorem d14_6 : decode jdk_42_method_151_code 6 = .ok (.putfield 9, 3) := by decide +kernel
theorem d14_9 : decode jdk_42_method_151_code 9 = .ok (.aload_n 0, 1) := by decide +kernel
theorem d14_10 : decode jdk_42_method_151_code 10 = .ok (.iload_n 2, 1) := by decide +kernel
theorem d14_11 : decode jdk_42_method_151_code 11 = .ok (.putfield 15, 3) := by decide +kernel
theorem d14_14 : decode jdk_42_method_151_code 14 = .ok (.return_, 1) := by decide +kernel
theorem pn_14 : plainName "java/lang/String" = true := by first | (simp [plainName, overriddenIn]; done) | decide +kernel
theorem ef_14 (m : MethodId) (x0 : Addr) (x1 : Addr) (x2 : Int32) : entryFrame m #[(.ref x0), (.ref x1), (.int x2)] 3 = mkF m 0 #[.val (.ref x0), .val (.ref x1), .val (.int x2)] [] := by first | (simp [entryFrame, mkF, argsToLocals, Value.category]; done) | rfl
set_option maxRecDepth 65536 in
set_option maxHeartbeats 40000000 in
theorem rm14 (l : Launch) (Z : State) (a0 : Array Value) (hw : ∀ d ∈ tables_1, d.before a0 Z = true) (ws : List Jvm.Cond) (a1 : Addr) (a2 : Addr) (p3 : Int32) (u_value_a1 : Value) (u_coder_a1 : Value) (h0 : Heap) (n0 : Nat) (Z0 : n0 ≤ h0.size) (E_a1 : Exa Z h0 a1 "java/lang/String") (F_value_a1 : Fld Z h0 a1 "java/lang/String" "value" "[B" u_value_a1) (g_a1 : n0 ≤ a1) (F_coder_a1 : Fld Z h0 a1 "java/lang/String" "coder" "B" u_coder_a1) :
    MetFree l (⟨"java/lang/String", "<init>", "([BB)V"⟩ : MethodName) (head1 (Jvm.Cond.code (⟨"java/lang/String", "<init>", "([BB)V"⟩ : MethodName) jdk_42_method_151_code 3 none :: ws) ({ frames := 1, cells := 0, slots := 0, locals := 12 } : Room)) (fun a U => a = #[(.ref a1), (.ref a2), (.int p3)] ∧ Z.Warmed39 U.vm ∧ U.heap = h0) (fun _ _ _ _ _ => True) (fun _ U o U' => ∃ v L, o = .returned v ∧ QInit a1 h0 n0 v U'.heap L ∧ FrameEnd U o U' L ({ frames := 1, cells := 0, slots := 0, locals := 12 } : Room).cells ({ frames := 1, cells := 0, slots := 0, locals := 12 } : Room).slots) := by
  refine MetFree.of_bodySF (plainFor_of_name pn_14) hisR ?_
  intro p e s m args below meth c s₁ Bd hml0 hP hK
  obtain ⟨rfl, hZ, hh⟩ := hP
  have hx := Bd.exec
  have hby := Bd.bytes
  have hml : c.maxLocals = 3 := hml0
  have hown : s.vm.findClass "java/lang/String" = some m.cls := findClass_of_methodNamed Bd.named
  have hnm := (name_of_methodNamed Bd.named Bd.method).1
  have X0 : Stand p l e ({ frames := 1, cells := 0, slots := 0, locals := 12 } : Room) s m #[(.ref a1), (.ref a2), (.int p3)] below meth c s₁ [] 0 0 := Stand.of_body Bd
  have e0 : s₁.heap = h0 := by rw [← hh, Bd.state]; rfl
  have N0 := Fr.nil n0
  have pre0 : ∀ t, Steps p.tables e below (s₁.setTop (mkF m 0 #[.val (.ref a1), .val (.ref a2), .val (.int p3)] [])) t → Steps p.tables e below (s₁.setTop (entryFrame m #[(.ref a1), (.ref a2), (.int p3)] 3)) t := fun t k => castTop (ef_14 m a1 a2 p3) k
  obtain ⟨T4, X4, e4, st4⟩ := initO X0 hx hZ hown (hw _ (List.mem_of_getElem? (i := 102) rfl)) (hw _ (List.mem_of_getElem? (i := 34) rfl)) (hw _ (List.mem_of_getElem? (i := 35) rfl)) e0 (g := (mkF m 1 #[.val (.ref a1), .val (.ref a2), .val (.int p3)] [(.ref a1)])) rfl (by rw [hml]; rfl) rfl (hb hby d14_1) (by decide) (W := 0) (by show 2 * 0 + _ ≤ _; exact Nat.le_of_eq rfl) (by decide)
  obtain ⟨T5, h5, X5, e5, W5, st5⟩ := putF X4 hx hZ hown (host := "") (Or.inl (hw _ (List.mem_of_getElem? (i := 103) rfl))) Via.refl e4 F_value_a1 E_a1 (Or.inr ⟨(hw _ (List.mem_of_getElem? (i := 14) rfl)), rfl, hnm⟩) (hw _ (List.mem_of_getElem? (i := 12) rfl)) (ty := (.array .byte)) (by decide) rfl rfl (g := (mkF m 6 #[.val (.ref a1), .val (.ref a2), .val (.int p3)] [(.ref a2), (.ref a1)])) rfl rfl (hb hby d14_6)
  have Fw5 := F_value_a1.same W5
  have K5 : Keep h0 h5 [a1] := (Keep.refl h0 [a1]).wr W5 (Or.inl (List.mem_of_getElem? (i := 0) rfl))
  have N5 := Fr.snoc X5 N0 g_a1
  obtain ⟨T6, h6, X6, e6, W6, st6⟩ := putFN X5 hx hZ hown (hw _ (List.mem_of_getElem? (i := 104) rfl)) Via.refl e5 (F_coder_a1.other W5 (Or.inr (slot_ne (Or.inr (hw _ (List.mem_of_getElem? (i := 15) rfl))) (Or.inr (hw _ (List.mem_of_getElem? (i := 14) rfl))) (by decide) (t := .byte) (t' := (.array .byte)) (by decide) (by decide)))) (E_a1.wr W5) (Or.inr ⟨(hw _ (List.mem_of_getElem? (i := 15) rfl)), rfl, hnm⟩) (hw _ (List.mem_of_getElem? (i := 12) rfl)) (ty := .byte) (v' := .int p3.toInt8.toInt32) (by decide) rfl (fits_nar_byte _) (g := (mkF m 11 #[.val (.ref a1), .val (.ref a2), .val (.int p3)] [(.int p3), (.ref a1)])) rfl rfl (hb hby d14_11)
  have Fw6 := (F_coder_a1.other W5 (Or.inr (slot_ne (Or.inr (hw _ (List.mem_of_getElem? (i := 15) rfl))) (Or.inr (hw _ (List.mem_of_getElem? (i := 14) rfl))) (by decide) (t := .byte) (t' := (.array .byte)) (by decide) (by decide)))).same W6
  have K6 : Keep h0 h6 [a1] := K5.wr W6 (Or.inl (List.mem_of_getElem? (i := 0) rfl))
  have N6 := Fr.snoc X6 N5 g_a1
  obtain ⟨fs, hr, hrun, hended, hW, hsame⟩ := X6.leave (v := none) (fun _ => rfl)
  refine ⟨_, _, pre0 _ ?_, hrun, hended, _, _, rfl, ?_, ⟨_, rfl⟩, hW, hsame.mono (by decide) (by decide)⟩
  · show Steps p.tables e below (s₁.setTop (mkF m 0 #[.val (.ref a1), .val (.ref a2), .val (.int p3)] [])) _
    refine XS.aloadN X0.here hx rfl (hb hby d14_0) rfl rfl ?_
    show Steps p.tables e below (s₁.setTop (mkF m 1 #[.val (.ref a1), .val (.ref a2), .val (.int p3)] [(.ref a1)])) _
    refine st4 _ ?_
    show Steps p.tables e below (T4.setTop (mkF m 4 #[.val (.ref a1), .val (.ref a2), .val (.int p3)] [])) _
    refine XS.aloadN X4.here hx rfl (hb hby d14_4) rfl rfl ?_
    show Steps p.tables e below (T4.setTop (mkF m 5 #[.val (.ref a1), .val (.ref a2), .val (.int p3)] [(.ref a1)])) _
    refine XS.aloadN X4.here hx rfl (hb hby d14_5) rfl rfl ?_
    show Steps p.tables e below (T4.setTop (mkF m 6 #[.val (.ref a1), .val (.ref a2), .val (.int p3)] [(.ref a2), (.ref a1)])) _
    refine st5 _ ?_
    show Steps p.tables e below (T5.setTop (mkF m 9 #[.val (.ref a1), .val (.ref a2), .val (.int p3)] [])) _
    refine XS.aloadN X5.here hx rfl (hb hby d14_9) rfl rfl ?_
    show Steps p.tables e below (T5.setTop (mkF m 10 #[.val (.ref a1), .val (.ref a2), .val (.int p3)] [(.ref a1)])) _
    refine XS.iloadN X5.here hx rfl (hb hby d14_10) rfl ?_
    show Steps p.tables e below (T5.setTop (mkF m 11 #[.val (.ref a1), .val (.ref a2), .val (.int p3)] [(.int p3), (.ref a1)])) _
    refine st6 _ ?_
    show Steps p.tables e below (T6.setTop (mkF m 14 #[.val (.ref a1), .val (.ref a2), .val (.int p3)] [])) _
    exact X6.returnOut hx Bd.returns (hb hby d14_14) hr
  · show QInit a1 h0 n0 _ T6.heap _
    rw [e6]
    exact ⟨rfl, N6, K6⟩
theorem d11_0 : decode jdk_42_method_139_code 0 = .ok (.getstatic 38, 3) := by decide +kernel
theorem d11_3 : decode jdk_42_method_139_code 3 = .ok (.ifCond .eq 23, 3) := by decide +kernel
theorem d11_6 : decode jdk_42_method_139_code 6 = .ok (.iload_n 0, 1) := by decide +kernel
theorem d11_7 : decode jdk_42_method_139_code 7 = .ok (.invokestatic 1015, 3) := by decide +kernel
theorem d11_10 : decode jdk_42_method_139_code 10 = .ok (.ifCond .eq 16, 3) := by decide +kernel
theorem d11_13 : decode jdk_42_method_139_code 13 = .ok (.new 10, 3) := by decide +kernel
theorem d11_16 : decode jdk_42_method_139_code 16 = .ok (.dup, 1) := by decide +kernel
theorem d11_17 : decode jdk_42_method_139_code 17 = .ok (.iload_n 0, 1) := by decide +kernel
theorem d11_18 : decode jdk_42_method_139_code 18 = .ok (.invokestatic 1018, 3) := by decide +kernel
theorem d11_21 : decode jdk_42_method_139_code 21 = .ok (.iconst 0, 1) := by decide +kernel
theorem d11_22 : decode jdk_42_method_139_code 22 = .ok (.invokespecial 209, 3) := by decide +kernel
theorem d11_25 : decode jdk_42_method_139_code 25 = .ok (.areturn, 1) := by decide +kernel
theorem pn_11 : plainName "java/lang/String" = true := by first | (simp [plainName, overriddenIn]; done) | decide +kernel
theorem pd_11_8 : parseMethodDescriptor "(C)Z" = some ⟨[.char], some .boolean⟩ := by decide +kernel
theorem pd_11_9 : parseMethodDescriptor "(C)[B" = some ⟨[.char], some (.array .byte)⟩ := by decide +kernel
theorem pd_11_10 : parseMethodDescriptor "([BB)V" = some ⟨[(.array .byte), .byte], none⟩ := by decide +kernel
theorem ef_11 (m : MethodId) (x0 : Int32) : entryFrame m #[(.int x0)] 1 = mkF m 0 #[.val (.int x0)] [] := by first | (simp [entryFrame, mkF, argsToLocals, Value.category]; done) | rfl
set_option maxRecDepth 65536 in
set_option maxHeartbeats 40000000 in
theorem rm11 (l : Launch) (Z : State) (a0 : Array Value) (hw : ∀ d ∈ tables_1, d.before a0 Z = true) (ws : List Jvm.Cond) (p1 : Int32) (w2 : Int32) (h0 : Heap) (n0 : Nat) (Z0 : n0 ≤ h0.size) (S_COMPACT_STRINGS : Sta Z h0 "java/lang/String" "COMPACT_STRINGS" "Z" (.int w2)) (hc3 : ¬ (w2 = (0 : Int32))) (hp1 : ¬ ((255 : Int32) < p1)) :
    MetFree l (⟨"java/lang/String", "valueOf", "(C)Ljava/lang/String;"⟩ : MethodName) (head1 (Jvm.Cond.code (⟨"java/lang/String", "valueOf", "(C)Ljava/lang/String;"⟩ : MethodName) jdk_42_method_139_code 1 (some (.object "java/lang/String")) :: ws) ({ frames := 2, cells := 2, slots := 5, locals := 27 } : Room)) (fun a U => a = #[(.int p1)] ∧ Z.Warmed39 U.vm ∧ U.heap = h0) (fun _ _ _ _ _ => True) (fun _ U o U' => ∃ v L, o = .returned v ∧ QNew h0 n0 v U'.heap L ∧ FrameEnd U o U' L ({ frames := 2, cells := 2, slots := 5, locals := 27 } : Room).cells ({ frames := 2, cells := 2, slots := 5, locals := 27 } : Room).slots) := by
  refine MetFree.of_bodySF (plainFor_of_name pn_11) hisR ?_
  intro p e s m args below meth c s₁ Bd hml0 hP hK
  obtain ⟨rfl, hZ, hh⟩ := hP
  have hx := Bd.exec
  have hby := Bd.bytes
  have hml : c.maxLocals = 1 := hml0
  have hown : s.vm.findClass "java/lang/String" = some m.cls := findClass_of_methodNamed Bd.named
  have hnm := (name_of_methodNamed Bd.named Bd.method).1
  have X0 : Stand p l e ({ frames := 2, cells := 2, slots := 5, locals := 27 } : Room) s m #[(.int p1)] below meth c s₁ [] 0 0 := Stand.of_body Bd
  have e0 : s₁.heap = h0 := by rw [← hh, Bd.state]; rfl
  have N0 := Fr.nil n0
  have pre0 : ∀ t, Steps p.tables e below (s₁.setTop (mkF m 0 #[.val (.int p1)] [])) t → Steps p.tables e below (s₁.setTop (entryFrame m #[(.int p1)] 1)) t := fun t k => castTop (ef_11 m p1) k
  obtain ⟨T3, X3, e3, st3⟩ := getS2 X0 hx hZ hown (host := "") (Or.inl (hw _ (List.mem_of_getElem? (i := 89) rfl))) Via.refl e0 S_COMPACT_STRINGS (g := (mkF m 0 #[.val (.int p1)] [])) rfl (hb hby d11_0)
  obtain ⟨_, _, ⟨T4, L4, k4, n4⟩, -, X4, ⟨Lc4, hQ4, l4, y4, z4⟩, st4⟩ := Jvm.LawKit.callS X3 hx (y := (⟨"java/lang/StringLatin1", "canEncode", "(C)Z"⟩ : MethodName)) hown (mvT hZ (hw _ (List.mem_of_getElem? (i := 90) rfl))) (mvT hZ (hw _ (List.mem_of_getElem? (i := 91) rfl))) (mvT hZ (hw _ (List.mem_of_getElem? (i := 92) rfl))) (mvT hZ (hw _ (List.mem_of_getElem? (i := 93) rfl))) (by decide) (backOf (W := 0) (rm12 l Z a0 hw [] p1 h0 n0 Z0 hp1) hZ (hw _ (List.mem_of_getElem? (i := 93) rfl)) (hw _ (List.mem_of_getElem? (i := 92) rfl)) (by decide) (by decide)) (g := (mkF m 7 #[.val (.int p1)] [(.int p1)])) rfl (by rw [hml]; rfl) (argsL := [(.int p1)]) (rest := []) (lenOf pd_11_8 rfl) rfl (by show 2 * 0 + _ ≤ _; exact Nat.le_of_eq rfl) (hb hby d11_7) (fun _ _ => ⟨rfl, e3, (by decide : 0 + 0 ≤ _), (by decide : 0 + 0 ≤ _)⟩)
  dsimp only [Pt.U, Pt.locs, Pt.cells, Pt.slots] at X4 l4 y4 z4 st4 hQ4
  subst l4 y4 z4
  obtain ⟨rfl, N4q, e4⟩ := hQ4
  have N4 := Fr.app N0 N4q
  obtain ⟨T5, h5, X5, e5, E5, A5, D5, -, st5⟩ := newO X4 hx hZ hown (hw _ (List.mem_of_getElem? (i := 94) rfl)) (hw _ (List.mem_of_getElem? (i := 12) rfl)) (hw _ (List.mem_of_getElem? (i := 11) rfl)) e4 (g := (mkF m 13 #[.val (.int p1)] [])) rfl (hb hby d11_13) (by decide) (by decide)
  obtain ⟨b5, g5⟩ : ∃ z, z = h0.size := ⟨_, rfl⟩
  rw [← g5] at A5 D5 st5
  have F_value_b5 : Fld Z h5 b5 "java/lang/String" "value" "[B" .null := D5 (Or.inr (hw _ (List.mem_of_getElem? (i := 14) rfl))) (ty := (.array .byte)) (by decide)
  have F_coder_b5 : Fld Z h5 b5 "java/lang/String" "coder" "B" (.int (0 : Int32)) := D5 (Or.inr (hw _ (List.mem_of_getElem? (i := 15) rfl))) (ty := .byte) (by decide)
  have E_b5 := A5
  have g_b5 : n0 ≤ b5 := Nat.le_trans (Nat.le_trans Z0 (Keep.refl h0 []).1) (Nat.le_of_eq g5.symm)
  have sz_b5 : h0.size ≤ b5 := (Nat.le_trans (Keep.refl h0 []).1 (Nat.le_of_eq g5.symm))
  have K5 : Keep h0 h5 [] := (Keep.refl h0 []).ext E5
  obtain ⟨_, _, ⟨T6, L6, k6, n6⟩, -, X6, ⟨Lc6, hQ6, l6, y6, z6⟩, st6⟩ := Jvm.LawKit.callS X5 hx (y := (⟨"java/lang/StringLatin1", "toBytes", "(C)[B"⟩ : MethodName)) hown (mvT hZ (hw _ (List.mem_of_getElem? (i := 95) rfl))) (mvT hZ (hw _ (List.mem_of_getElem? (i := 96) rfl))) (mvT hZ (hw _ (List.mem_of_getElem? (i := 92) rfl))) (mvT hZ (hw _ (List.mem_of_getElem? (i := 97) rfl))) (by decide) (backOf (W := 2) (rm13 l Z a0 hw [] p1 h5 n0 (Nat.le_trans Z0 E5.1)) hZ (hw _ (List.mem_of_getElem? (i := 97) rfl)) (hw _ (List.mem_of_getElem? (i := 92) rfl)) (by decide) (by decide)) (g := (mkF m 18 #[.val (.int p1)] [(.int p1), (.ref b5), (.ref b5)])) rfl (by rw [hml]; rfl) (argsL := [(.int p1)]) (rest := [(.ref b5), (.ref b5)]) (lenOf pd_11_9 rfl) rfl (by show 2 * 0 + _ ≤ _; exact Nat.le_of_eq rfl) (hb hby d11_18) (fun _ _ => ⟨rfl, e5, (by decide : 1 + 1 ≤ _), (by decide : 4 + 1 ≤ _)⟩)
  dsimp only [Pt.U, Pt.locs, Pt.cells, Pt.slots] at X6 l6 y6 z6 st6 hQ6
  subst l6 y6 z6
  obtain ⟨rfl, N6q, K6q⟩ := hQ6
  have N6 := Fr.app N4 N6q
  obtain ⟨_, _, ⟨T7, L7, k7, n7⟩, -, X7, ⟨Lc7, hQ7, l7, y7, z7⟩, st7⟩ := X6.specialBack hx (y := (⟨"java/lang/String", "<init>", "([BB)V"⟩ : MethodName)) rfl hown (mvT hZ (hw _ (List.mem_of_getElem? (i := 98) rfl))) (mvT hZ (hw _ (List.mem_of_getElem? (i := 99) rfl))) (mvT hZ (hw _ (List.mem_of_getElem? (i := 101) rfl))) (by decide) (backOf (W := 1) (rm14 l Z a0 hw [] b5 h5.size (0 : Int32) _ _ T6.heap n0 (Nat.le_trans (Nat.le_trans Z0 E5.1) K6q.1) (E_b5.keep K6q) (F_value_b5.keep K6q (by simp)) g_b5 (F_coder_b5.keep K6q (by simp))) hZ (hw _ (List.mem_of_getElem? (i := 101) rfl)) (hw _ (List.mem_of_getElem? (i := 11) rfl)) (by decide) (by decide)) (g := (mkF m 22 #[.val (.int p1)] [(.int (0 : Int32)), (.ref h5.size), (.ref b5), (.ref b5)])) rfl (by rw [hml]; rfl) (Steps.refl _) (a := b5) (argsL := [(.ref h5.size), (.int (0 : Int32))]) (rest := [(.ref b5)]) (lenOf pd_11_10 rfl) rfl (by show 2 * 0 + _ ≤ _; exact Nat.le_of_eq rfl) (hb hby d11_22) (fun _ _ => ⟨rfl, rfl, (by decide : 2 + 0 ≤ _), (by decide : 5 + 0 ≤ _)⟩)
  dsimp only [Pt.U, Pt.locs, Pt.cells, Pt.slots] at X7 l7 y7 z7 st7 hQ7
  subst l7 y7 z7
  obtain ⟨rfl, N7q, K7q⟩ := hQ7
  have N7 := Fr.app N6 N7q
  obtain ⟨fs, hr, hrun, hended, hW, hsame⟩ := X7.leave (v := some (.ref b5)) (fun h => by rw [Bd.returns] at h; cases h)
  refine ⟨_, _, pre0 _ ?_, hrun, hended, _, _, rfl, ?_, ⟨_, rfl⟩, hW, hsame.mono (by decide) (by decide)⟩
  · show Steps p.tables e below (s₁.setTop (mkF m 0 #[.val (.int p1)] [])) _
    refine st3 _ ?_
    show Steps p.tables e below (T3.setTop (mkF m 3 #[.val (.int p1)] [(.int w2)])) _
    refine XS.ifNo X3.here hx rfl (hb hby d11_3) rfl ((if0 _ _).trans (feq hc3).1) ?_
    show Steps p.tables e below (T3.setTop (mkF m 6 #[.val (.int p1)] [])) _
    refine XS.iloadN X3.here hx rfl (hb hby d11_6) rfl ?_
    show Steps p.tables e below (T3.setTop (mkF m 7 #[.val (.int p1)] [(.int p1)])) _
    refine st4 _ ?_
    show Steps p.tables e below (T4.setTop (mkF m 10 #[.val (.int p1)] [(.int (1 : Int32))])) _
    refine XS.ifNo X4.here hx rfl (hb hby d11_10) rfl ((if0 _ _).trans (feq (by decide)).1) ?_
    show Steps p.tables e below (T4.setTop (mkF m 13 #[.val (.int p1)] [])) _
    refine st5 _ ?_
    show Steps p.tables e below (T5.setTop (mkF m 16 #[.val (.int p1)] [(.ref b5)])) _
    refine XS.dup X5.here hx rfl (hb hby d11_16) rfl rfl ?_
    show Steps p.tables e below (T5.setTop (mkF m 17 #[.val (.int p1)] [(.ref b5), (.ref b5)])) _
    refine XS.iloadN X5.here hx rfl (hb hby d11_17) rfl ?_
    show Steps p.tables e below (T5.setTop (mkF m 18 #[.val (.int p1)] [(.int p1), (.ref b5), (.ref b5)])) _
    refine st6 _ ?_
    show Steps p.tables e below (T6.setTop (mkF m 21 #[.val (.int p1)] [(.ref h5.size), (.ref b5), (.ref b5)])) _
    refine XS.iconst X6.here hx rfl (hb hby d11_21) ?_
    show Steps p.tables e below (T6.setTop (mkF m 22 #[.val (.int p1)] [(.int (0 : Int32)), (.ref h5.size), (.ref b5), (.ref b5)])) _
    refine st7.trans ?_
    show Steps p.tables e below (T7.setTop (mkF m 25 #[.val (.int p1)] [(.ref b5)])) _
    jvm_step X7.here [X7.here.top, hx, (hb hby d11_25), X7.method', Bd.returns, Value.isRef, FieldType.isReference]
    first | (intro acts; rw [hr _ acts rfl rfl rfl]) | rw [hr _ _ rfl rfl rfl]
    exact Steps.refl _
  · show QNew h0 n0 _ T7.heap _
    subst g5
    exact ⟨rfl, N7, (K5.trans K6q (fun y hy => by cases hy)).trans K7q (fun y hy => by cases List.mem_singleton.mp hy; exact Or.inr sz_b5)⟩
theorem own_byte (x : Int32) : ¬ ((255 : Int32) < (((x &&& (255 : Int32)).toUInt32.toUInt16.toUInt32.toInt32))) := by
  rw [i2c_mask, Int32.lt_iff_toInt_lt]
  have e := Jvm.Kit.i32_mask x 255 (k := 8) (by decide) (by decide)
  have e2 : (255 : Int32).toInt = 255 := by decide
  omega
theorem d2_0 : decode method_3_code 0 = .ok (.iload_n 0, 1) := by decide +kernel
theorem d2_1 : decode method_3_code 1 = .ok (.iconst 1, 1) := by decide +kernel
theorem d2_2 : decode method_3_code 2 = .ok (.iand, 1) := by decide +kernel
theorem d2_3 : decode method_3_code 3 = .ok (.ifCond .eq 5, 3) := by decide +kernel
theorem d2_6 : decode method_3_code 6 = .ok (.aconst_null, 1) := by decide +kernel
theorem d2_7 : decode method_3_code 7 = .ok (.areturn, 1) := by decide +kernel
theorem pn_2 : plainName "com/example/flowmason/flowmason/engine/TaskOpenPinLaw" = true := by first | (simp [plainName, overriddenIn]; done) | decide +kernel
theorem ef_2 (m : MethodId) (x0 : Int32) (x1 : Int32) : entryFrame m #[(.int x0), (.int x1)] 2 = mkF m 0 #[.val (.int x0), .val (.int x1)] [] := by first | (simp [entryFrame, mkF, argsToLocals, Value.category]; done) | rfl
theorem d2_8 : decode method_3_code 8 = .ok (.iload_n 1, 1) := by decide +kernel
theorem d2_9 : decode method_3_code 9 = .ok (.sipush 255, 3) := by decide +kernel
theorem d2_12 : decode method_3_code 12 = .ok (.iand, 1) := by decide +kernel
theorem d2_13 : decode method_3_code 13 = .ok (.i2c, 1) := by decide +kernel
theorem d2_14 : decode method_3_code 14 = .ok (.invokestatic 22, 3) := by decide +kernel
theorem d2_17 : decode method_3_code 17 = .ok (.areturn, 1) := by decide +kernel
theorem pd_2_7 : parseMethodDescriptor "(C)Ljava/lang/String;" = some ⟨[.char], some (.object "java/lang/String")⟩ := by decide +kernel
set_option maxRecDepth 65536 in
set_option maxHeartbeats 40000000 in
theorem rm2f (l : Launch) (Z : State) (a0 : Array Value) (hw : ∀ d ∈ tables_1, d.before a0 Z = true) (ws : List Jvm.Cond) (p1 : Int32) (p2 : Int32) (h0 : Heap) (n0 : Nat) (Z0 : n0 ≤ h0.size) (hc3 : ¬ ((p1 &&& (1 : Int32)) = (0 : Int32))) :
    MetFree l (⟨"com/example/flowmason/flowmason/engine/TaskOpenPinLaw", "drawn", "(II)Ljava/lang/String;"⟩ : MethodName) (head1 (Jvm.Cond.code (⟨"com/example/flowmason/flowmason/engine/TaskOpenPinLaw", "drawn", "(II)Ljava/lang/String;"⟩ : MethodName) method_3_code 2 (some (.object "java/lang/String")) :: ws) ({ frames := 3, cells := 2, slots := 5, locals := 39 } : Room)) (fun a U => a = #[(.int p1), (.int p2)] ∧ Z.Warmed39 U.vm ∧ U.heap = h0) (fun _ _ _ _ _ => True) (fun _ U o U' => ∃ v L, o = .returned v ∧ QAny h0 n0 v U'.heap L ∧ FrameEnd U o U' L ({ frames := 3, cells := 2, slots := 5, locals := 39 } : Room).cells ({ frames := 3, cells := 2, slots := 5, locals := 39 } : Room).slots) := by
  refine MetFree.of_bodySF (plainFor_of_name pn_2) hisR ?_
  intro p e s m args below meth c s₁ Bd hml0 hP hK
  obtain ⟨rfl, hZ, hh⟩ := hP
  have hx := Bd.exec
  have hby := Bd.bytes
  have hml : c.maxLocals = 2 := hml0
  have hown : s.vm.findClass "com/example/flowmason/flowmason/engine/TaskOpenPinLaw" = some m.cls := findClass_of_methodNamed Bd.named
  have hnm := (name_of_methodNamed Bd.named Bd.method).1
  have X0 : Stand p l e ({ frames := 3, cells := 2, slots := 5, locals := 39 } : Room) s m #[(.int p1), (.int p2)] below meth c s₁ [] 0 0 := Stand.of_body Bd
  have e0 : s₁.heap = h0 := by rw [← hh, Bd.state]; rfl
  have N0 := Fr.nil n0
  have pre0 : ∀ t, Steps p.tables e below (s₁.setTop (mkF m 0 #[.val (.int p1), .val (.int p2)] [])) t → Steps p.tables e below (s₁.setTop (entryFrame m #[(.int p1), (.int p2)] 2)) t := fun t k => castTop (ef_2 m p1 p2) k

  obtain ⟨fs, hr, hrun, hended, hW, hsame⟩ := X0.leave (v := some .null) (fun h => by rw [Bd.returns] at h; cases h)
  refine ⟨_, _, pre0 _ ?_, hrun, hended, _, _, rfl, ?_, ⟨_, rfl⟩, hW, hsame.mono (by decide) (by decide)⟩
  · show Steps p.tables e below (s₁.setTop (mkF m 0 #[.val (.int p1), .val (.int p2)] [])) _
    refine XS.iloadN X0.here hx rfl (hb hby d2_0) rfl ?_
    show Steps p.tables e below (s₁.setTop (mkF m 1 #[.val (.int p1), .val (.int p2)] [(.int p1)])) _
    refine XS.iconst X0.here hx rfl (hb hby d2_1) ?_
    show Steps p.tables e below (s₁.setTop (mkF m 2 #[.val (.int p1), .val (.int p2)] [(.int (1 : Int32)), (.int p1)])) _
    refine XS.iand X0.here hx rfl (hb hby d2_2) rfl ?_
    show Steps p.tables e below (s₁.setTop (mkF m 3 #[.val (.int p1), .val (.int p2)] [(.int (p1 &&& (1 : Int32)))])) _
    refine XS.ifNo X0.here hx rfl (hb hby d2_3) rfl ((if0 _ _).trans (feq hc3).1) ?_
    show Steps p.tables e below (s₁.setTop (mkF m 6 #[.val (.int p1), .val (.int p2)] [])) _
    refine XS.aconstNull X0.here hx rfl (hb hby d2_6) ?_
    show Steps p.tables e below (s₁.setTop (mkF m 7 #[.val (.int p1), .val (.int p2)] [.null])) _
    jvm_step X0.here [X0.here.top, hx, (hb hby d2_7), X0.method', Bd.returns, Value.isRef, FieldType.isReference]
    first | (intro acts; rw [hr _ acts rfl rfl rfl]) | rw [hr _ _ rfl rfl rfl]
    exact Steps.refl _
  · show QAny h0 n0 _ s₁.heap _
    rw [e0]
    exact ⟨_, rfl, rfl, N0, Keep.refl _ _⟩
set_option maxRecDepth 65536 in
set_option maxHeartbeats 40000000 in
theorem rm2t (l : Launch) (Z : State) (a0 : Array Value) (hw : ∀ d ∈ tables_1, d.before a0 Z = true) (ws : List Jvm.Cond) (p1 : Int32) (p2 : Int32) (w2 : Int32) (h0 : Heap) (n0 : Nat) (Z0 : n0 ≤ h0.size) (S_COMPACT_STRINGS : Sta Z h0 "java/lang/String" "COMPACT_STRINGS" "Z" (.int w2)) (hcs : ¬ (w2 = (0 : Int32))) (hc3 : (p1 &&& (1 : Int32)) = (0 : Int32)) :
    MetFree l (⟨"com/example/flowmason/flowmason/engine/TaskOpenPinLaw", "drawn", "(II)Ljava/lang/String;"⟩ : MethodName) (head1 (Jvm.Cond.code (⟨"com/example/flowmason/flowmason/engine/TaskOpenPinLaw", "drawn", "(II)Ljava/lang/String;"⟩ : MethodName) method_3_code 2 (some (.object "java/lang/String")) :: ws) ({ frames := 3, cells := 2, slots := 5, locals := 39 } : Room)) (fun a U => a = #[(.int p1), (.int p2)] ∧ Z.Warmed39 U.vm ∧ U.heap = h0) (fun _ _ _ _ _ => True) (fun _ U o U' => ∃ v L, o = .returned v ∧ QAny h0 n0 v U'.heap L ∧ FrameEnd U o U' L ({ frames := 3, cells := 2, slots := 5, locals := 39 } : Room).cells ({ frames := 3, cells := 2, slots := 5, locals := 39 } : Room).slots) := by
  refine MetFree.of_bodySF (plainFor_of_name pn_2) hisR ?_
  intro p e s m args below meth c s₁ Bd hml0 hP hK
  obtain ⟨rfl, hZ, hh⟩ := hP
  have hx := Bd.exec
  have hby := Bd.bytes
  have hml : c.maxLocals = 2 := hml0
  have hown : s.vm.findClass "com/example/flowmason/flowmason/engine/TaskOpenPinLaw" = some m.cls := findClass_of_methodNamed Bd.named
  have hnm := (name_of_methodNamed Bd.named Bd.method).1
  have X0 : Stand p l e ({ frames := 3, cells := 2, slots := 5, locals := 39 } : Room) s m #[(.int p1), (.int p2)] below meth c s₁ [] 0 0 := Stand.of_body Bd
  have e0 : s₁.heap = h0 := by rw [← hh, Bd.state]; rfl
  have N0 := Fr.nil n0
  have pre0 : ∀ t, Steps p.tables e below (s₁.setTop (mkF m 0 #[.val (.int p1), .val (.int p2)] [])) t → Steps p.tables e below (s₁.setTop (entryFrame m #[(.int p1), (.int p2)] 2)) t := fun t k => castTop (ef_2 m p1 p2) k
  obtain ⟨_, _, ⟨T3, L3, k3, n3⟩, -, X3, ⟨Lc3, hQ3, l3, y3, z3⟩, st3⟩ := Jvm.LawKit.callS X0 hx (y := (⟨"java/lang/String", "valueOf", "(C)Ljava/lang/String;"⟩ : MethodName)) hown (mvT hZ (hw _ (List.mem_of_getElem? (i := 86) rfl))) (mvT hZ (hw _ (List.mem_of_getElem? (i := 87) rfl))) (mvT hZ (hw _ (List.mem_of_getElem? (i := 11) rfl))) (mvT hZ (hw _ (List.mem_of_getElem? (i := 88) rfl))) (by decide) (backOf (W := 0) (rm11 l Z a0 hw [] ((p2 &&& (255 : Int32)).toUInt32.toUInt16.toUInt32.toInt32) w2 h0 n0 Z0 S_COMPACT_STRINGS hcs (own_byte p2)) hZ (hw _ (List.mem_of_getElem? (i := 88) rfl)) (hw _ (List.mem_of_getElem? (i := 11) rfl)) (by decide) (by decide)) (g := (mkF m 14 #[.val (.int p1), .val (.int p2)] [(.int ((p2 &&& (255 : Int32)).toUInt32.toUInt16.toUInt32.toInt32))])) rfl (by rw [hml]; rfl) (argsL := [(.int ((p2 &&& (255 : Int32)).toUInt32.toUInt16.toUInt32.toInt32))]) (rest := []) (lenOf pd_2_7 rfl) rfl (by show 2 * 0 + _ ≤ _; exact Nat.le_of_eq rfl) (hb hby d2_14) (fun _ _ => ⟨rfl, e0, (by decide : 0 + 2 ≤ _), (by decide : 0 + 5 ≤ _)⟩)
  dsimp only [Pt.U, Pt.locs, Pt.cells, Pt.slots] at X3 l3 y3 z3 st3 hQ3
  subst l3 y3 z3
  obtain ⟨rfl, N3q, K3q⟩ := hQ3
  have N3 := Fr.app N0 N3q
  obtain ⟨fs, hr, hrun, hended, hW, hsame⟩ := X3.leave (v := some (.ref h0.size)) (fun h => by rw [Bd.returns] at h; cases h)
  refine ⟨_, _, pre0 _ ?_, hrun, hended, _, _, rfl, ?_, ⟨_, rfl⟩, hW, hsame.mono (by decide) (by decide)⟩
  · show Steps p.tables e below (s₁.setTop (mkF m 0 #[.val (.int p1), .val (.int p2)] [])) _
    refine XS.iloadN X0.here hx rfl (hb hby d2_0) rfl ?_
    show Steps p.tables e below (s₁.setTop (mkF m 1 #[.val (.int p1), .val (.int p2)] [(.int p1)])) _
    refine XS.iconst X0.here hx rfl (hb hby d2_1) ?_
    show Steps p.tables e below (s₁.setTop (mkF m 2 #[.val (.int p1), .val (.int p2)] [(.int (1 : Int32)), (.int p1)])) _
    refine XS.iand X0.here hx rfl (hb hby d2_2) rfl ?_
    show Steps p.tables e below (s₁.setTop (mkF m 3 #[.val (.int p1), .val (.int p2)] [(.int (p1 &&& (1 : Int32)))])) _
    refine XS.ifYes X0.here hx rfl (pc0 := 3) (pc' := 8) rfl (hb hby d2_3) rfl ((if0 _ _).trans (teq hc3).1) (by decide) (by decide) ?_
    show Steps p.tables e below (s₁.setTop (mkF m 8 #[.val (.int p1), .val (.int p2)] [])) _
    refine XS.iloadN X0.here hx rfl (hb hby d2_8) rfl ?_
    show Steps p.tables e below (s₁.setTop (mkF m 9 #[.val (.int p1), .val (.int p2)] [(.int p2)])) _
    refine XS.sipush X0.here hx rfl (hb hby d2_9) ?_
    show Steps p.tables e below (s₁.setTop (mkF m 12 #[.val (.int p1), .val (.int p2)] [(.int (255 : Int32)), (.int p2)])) _
    refine XS.iand X0.here hx rfl (hb hby d2_12) rfl ?_
    show Steps p.tables e below (s₁.setTop (mkF m 13 #[.val (.int p1), .val (.int p2)] [(.int (p2 &&& (255 : Int32)))])) _
    refine XS.i2c X0.here hx rfl (hb hby d2_13) rfl ?_
    show Steps p.tables e below (s₁.setTop (mkF m 14 #[.val (.int p1), .val (.int p2)] [(.int ((p2 &&& (255 : Int32)).toUInt32.toUInt16.toUInt32.toInt32))])) _
    refine st3 _ ?_
    show Steps p.tables e below (T3.setTop (mkF m 17 #[.val (.int p1), .val (.int p2)] [(.ref h0.size)])) _
    jvm_step X3.here [X3.here.top, hx, (hb hby d2_17), X3.method', Bd.returns, Value.isRef, FieldType.isReference]
    first | (intro acts; rw [hr _ acts rfl rfl rfl]) | rw [hr _ _ rfl rfl rfl]
    exact Steps.refl _
  · show QAny h0 n0 _ T3.heap _
    exact ⟨_, rfl, rfl, N3, K3q⟩
theorem rm2 (l : Launch) (Z : State) (a0 : Array Value) (hw : ∀ d ∈ tables_1, d.before a0 Z = true) (ws : List Jvm.Cond) (p1 : Int32) (p2 : Int32) (w2 : Int32) (h0 : Heap) (n0 : Nat) (Z0 : n0 ≤ h0.size) (S_COMPACT_STRINGS : Sta Z h0 "java/lang/String" "COMPACT_STRINGS" "Z" (.int w2)) (hcs : ¬ (w2 = (0 : Int32))) :
    MetFree l (⟨"com/example/flowmason/flowmason/engine/TaskOpenPinLaw", "drawn", "(II)Ljava/lang/String;"⟩ : MethodName) (head1 (Jvm.Cond.code (⟨"com/example/flowmason/flowmason/engine/TaskOpenPinLaw", "drawn", "(II)Ljava/lang/String;"⟩ : MethodName) method_3_code 2 (some (.object "java/lang/String")) :: ws) ({ frames := 3, cells := 2, slots := 5, locals := 39 } : Room)) (fun a U => a = #[(.int p1), (.int p2)] ∧ Z.Warmed39 U.vm ∧ U.heap = h0) (fun _ _ _ _ _ => True) (fun _ U o U' => ∃ v L, o = .returned v ∧ QAny h0 n0 v U'.heap L ∧ FrameEnd U o U' L ({ frames := 3, cells := 2, slots := 5, locals := 39 } : Room).cells ({ frames := 3, cells := 2, slots := 5, locals := 39 } : Room).slots) := by
  by_cases q : (p1 &&& (1 : Int32)) = (0 : Int32)
  · exact rm2t l Z a0 hw ws p1 p2 w2 h0 n0 Z0 S_COMPACT_STRINGS hcs q
  · exact rm2f l Z a0 hw ws p1 p2 h0 n0 Z0 q
theorem d4_0 : decode jdk_30_method_1_code 0 = .ok (.aload_n 0, 1) := by decide +kernel
theorem d4_1 : decode jdk_30_method_1_code 1 = .ok (.invokespecial 1, 3) := by decide +kernel
theorem d4_4 : decode jdk_30_method_1_code 4 = .ok (.return_, 1) := by decide +kernel
theorem pn_4 : plainName "java/lang/Record" = true := by first | (simp [plainName, overriddenIn]; done) | decide +kernel
theorem ef_4 (m : MethodId) (x0 : Addr) : entryFrame m #[(.ref x0)] 1 = mkF m 0 #[.val (.ref x0)] [] := by first | (simp [entryFrame, mkF, argsToLocals, Value.category]; done) | rfl
set_option maxRecDepth 65536 in
set_option maxHeartbeats 40000000 in
theorem rm4 (l : Launch) (Z : State) (a0 : Array Value) (hw : ∀ d ∈ tables_1, d.before a0 Z = true) (ws : List Jvm.Cond) (a1 : Addr) (h0 : Heap) (n0 : Nat) (Z0 : n0 ≤ h0.size) :
    MetFree l (⟨"java/lang/Record", "<init>", "()V"⟩ : MethodName) (head1 (Jvm.Cond.code (⟨"java/lang/Record", "<init>", "()V"⟩ : MethodName) jdk_30_method_1_code 1 none :: ws) ({ frames := 1, cells := 0, slots := 0, locals := 12 } : Room)) (fun a U => a = #[(.ref a1)] ∧ Z.Warmed39 U.vm ∧ U.heap = h0) (fun _ _ _ _ _ => True) (fun _ U o U' => ∃ v L, o = .returned v ∧ QVoid h0 n0 v U'.heap L ∧ FrameEnd U o U' L ({ frames := 1, cells := 0, slots := 0, locals := 12 } : Room).cells ({ frames := 1, cells := 0, slots := 0, locals := 12 } : Room).slots) := by
  refine MetFree.of_bodySF (plainFor_of_name pn_4) hisR ?_
  intro p e s m args below meth c s₁ Bd hml0 hP hK
  obtain ⟨rfl, hZ, hh⟩ := hP
  have hx := Bd.exec
  have hby := Bd.bytes
  have hml : c.maxLocals = 1 := hml0
  have hown : s.vm.findClass "java/lang/Record" = some m.cls := findClass_of_methodNamed Bd.named
  have hnm := (name_of_methodNamed Bd.named Bd.method).1
  have X0 : Stand p l e ({ frames := 1, cells := 0, slots := 0, locals := 12 } : Room) s m #[(.ref a1)] below meth c s₁ [] 0 0 := Stand.of_body Bd
  have e0 : s₁.heap = h0 := by rw [← hh, Bd.state]; rfl
  have N0 := Fr.nil n0
  have pre0 : ∀ t, Steps p.tables e below (s₁.setTop (mkF m 0 #[.val (.ref a1)] [])) t → Steps p.tables e below (s₁.setTop (entryFrame m #[(.ref a1)] 1)) t := fun t k => castTop (ef_4 m a1) k
  obtain ⟨T2, X2, e2, st2⟩ := initO X0 hx hZ hown (hw _ (List.mem_of_getElem? (i := 33) rfl)) (hw _ (List.mem_of_getElem? (i := 34) rfl)) (hw _ (List.mem_of_getElem? (i := 35) rfl)) e0 (g := (mkF m 1 #[.val (.ref a1)] [(.ref a1)])) rfl (by rw [hml]; rfl) rfl (hb hby d4_1) (by decide) (W := 0) (by show 2 * 0 + _ ≤ _; exact Nat.le_of_eq rfl) (by decide)
  obtain ⟨fs, hr, hrun, hended, hW, hsame⟩ := X2.leave (v := none) (fun _ => rfl)
  refine ⟨_, _, pre0 _ ?_, hrun, hended, _, _, rfl, ?_, ⟨_, rfl⟩, hW, hsame.mono (by decide) (by decide)⟩
  · show Steps p.tables e below (s₁.setTop (mkF m 0 #[.val (.ref a1)] [])) _
    refine XS.aloadN X0.here hx rfl (hb hby d4_0) rfl rfl ?_
    show Steps p.tables e below (s₁.setTop (mkF m 1 #[.val (.ref a1)] [(.ref a1)])) _
    refine st2 _ ?_
    show Steps p.tables e below (T2.setTop (mkF m 4 #[.val (.ref a1)] [])) _
    exact X2.returnOut hx Bd.returns (hb hby d4_4) hr
  · show QVoid h0 n0 _ T2.heap _
    rw [e2]
    exact ⟨rfl, N0, rfl⟩
def QTask (Z : State) (a1 : Addr) (a2 a3 a4 a5 a6 : Value) (a7 : Addr) (a8 : Value) (h0 : Heap) (n0 : Nat) (v : Option Value) (h : Heap) (L : List Loc) : Prop := v = none ∧ Fr n0 L ∧ Keep h0 h [a1] ∧ Exa Z h a1 "com/example/flowmason/flowmason/engine/Task" ∧ Fld Z h a1 "com/example/flowmason/flowmason/engine/Task" "id" "Ljava/lang/String;" a2 ∧ Fld Z h a1 "com/example/flowmason/flowmason/engine/Task" "name" "Ljava/lang/String;" a3 ∧ Fld Z h a1 "com/example/flowmason/flowmason/engine/Task" "elementId" "Ljava/lang/String;" a4 ∧ Fld Z h a1 "com/example/flowmason/flowmason/engine/Task" "instanceId" "Ljava/lang/String;" a5 ∧ Fld Z h a1 "com/example/flowmason/flowmason/engine/Task" "role" "Ljava/lang/String;" a6 ∧ Fld Z h a1 "com/example/flowmason/flowmason/engine/Task" "state" "Lcom/example/flowmason/flowmason/engine/Task$State;" (.ref a7) ∧ Fld Z h a1 "com/example/flowmason/flowmason/engine/Task" "assignee" "Ljava/lang/String;" a8
theorem d3_0 : decode prog_17_method_1_code 0 = .ok (.aload_n 0, 1) := by decide +kernel
theorem d3_1 : decode prog_17_method_1_code 1 = .ok (.invokespecial 1, 3) := by decide +kernel
theorem d3_4 : decode prog_17_method_1_code 4 = .ok (.aload_n 0, 1) := by decide +kernel
theorem d3_5 : decode prog_17_method_1_code 5 = .ok (.aload_n 1, 1) := by decide +kernel
theorem d3_6 : decode prog_17_method_1_code 6 = .ok (.putfield 7, 3) := by decide +kernel
theorem d3_9 : decode prog_17_method_1_code 9 = .ok (.aload_n 0, 1) := by decide +kernel
theorem d3_10 : decode prog_17_method_1_code 10 = .ok (.aload_n 2, 1) := by decide +kernel
theorem d3_11 : decode prog_17_method_1_code 11 = .ok (.putfield 13, 3) := by decide +kernel
theorem d3_14 : decode prog_17_method_1_code 14 = .ok (.aload_n 0, 1) := by decide +kernel
theorem d3_15 : decode prog_17_method_1_code 15 = .ok (.aload_n 3, 1) := by decide +kernel
theorem d3_16 : decode prog_17_method_1_code 16 = .ok (.putfield 16, 3) := by decide +kernel
theorem d3_19 : decode prog_17_method_1_code 19 = .ok (.aload_n 0, 1) := by decide +kernel
theorem d3_20 : decode prog_17_method_1_code 20 = .ok (.aload 4, 2) := by decide +kernel
theorem d3_22 : decode prog_17_method_1_code 22 = .ok (.putfield 19, 3) := by decide +kernel
theorem d3_25 : decode prog_17_method_1_code 25 = .ok (.aload_n 0, 1) := by decide +kernel
theorem d3_26 : decode prog_17_method_1_code 26 = .ok (.aload 5, 2) := by decide +kernel
theorem d3_28 : decode prog_17_method_1_code 28 = .ok (.putfield 22, 3) := by decide +kernel
theorem d3_31 : decode prog_17_method_1_code 31 = .ok (.aload_n 0, 1) := by decide +kernel
theorem d3_32 : decode prog_17_method_1_code 32 = .ok (.aload 6, 2) := by decide +kernel
theorem d3_34 : decode prog_17_method_1_code 34 = .ok (.putfield 25, 3) := by decide +kernel
theorem d3_37 : decode prog_17_method_1_code 37 = .ok (.aload_n 0, 1) := by decide +kernel
theorem d3_38 : decode prog_17_method_1_code 38 = .ok (.aload 7, 2) := by decide +kernel
theorem d3_40 : decode prog_17_method_1_code 40 = .ok (.putfield 29, 3) := by decide +kernel
theorem d3_43 : decode prog_17_method_1_code 43 = .ok (.return_, 1) := by decide +kernel
theorem pn_3 : plainName "com/example/flowmason/flowmason/engine/Task" = true := by first | (simp [plainName, overriddenIn]; done) | decide +kernel
theorem pd_3_3 : parseMethodDescriptor "()V" = some ⟨[], none⟩ := by decide +kernel
theorem ef_3 (m : MethodId) (x0 : Addr) (x1 : Value) (k1 : x1.isRef = true) (x2 : Value) (k2 : x2.isRef = true) (x3 : Value) (k3 : x3.isRef = true) (x4 : Value) (k4 : x4.isRef = true) (x5 : Value) (k5 : x5.isRef = true) (x6 : Addr) (x7 : Value) (k7 : x7.isRef = true) : entryFrame m #[(.ref x0), x1, x2, x3, x4, x5, (.ref x6), x7] 8 = mkF m 0 #[.val (.ref x0), .val x1, .val x2, .val x3, .val x4, .val x5, .val (.ref x6), .val x7] [] := by simp [entryFrame, mkF, argsToLocals, own_catR, own_cat k1, own_cat k2, own_cat k3, own_cat k4, own_cat k5, own_cat k7]
set_option maxRecDepth 65536 in
set_option maxHeartbeats 40000000 in
theorem rm3 (l : Launch) (Z : State) (a0 : Array Value) (hw : ∀ d ∈ tables_1, d.before a0 Z = true) (ws : List Jvm.Cond) (a1 : Addr) (a2 : Value) (hr_a2 : a2.isRef = true) (a3 : Value) (hr_a3 : a3.isRef = true) (a4 : Value) (hr_a4 : a4.isRef = true) (a5 : Value) (hr_a5 : a5.isRef = true) (a6 : Value) (hr_a6 : a6.isRef = true) (a7 : Addr) (a8 : Value) (hr_a8 : a8.isRef = true) (u_id_a1 : Value) (u_name_a1 : Value) (u_elementId_a1 : Value) (u_instanceId_a1 : Value) (u_role_a1 : Value) (u_state_a1 : Value) (u_assignee_a1 : Value) (h0 : Heap) (n0 : Nat) (Z0 : n0 ≤ h0.size) (E_a1 : Exa Z h0 a1 "com/example/flowmason/flowmason/engine/Task") (F_id_a1 : Fld Z h0 a1 "com/example/flowmason/flowmason/engine/Task" "id" "Ljava/lang/String;" u_id_a1) (g_a1 : n0 ≤ a1) (F_name_a1 : Fld Z h0 a1 "com/example/flowmason/flowmason/engine/Task" "name" "Ljava/lang/String;" u_name_a1) (F_elementId_a1 : Fld Z h0 a1 "com/example/flowmason/flowmason/engine/Task" "elementId" "Ljava/lang/String;" u_elementId_a1) (F_instanceId_a1 : Fld Z h0 a1 "com/example/flowmason/flowmason/engine/Task" "instanceId" "Ljava/lang/String;" u_instanceId_a1) (F_role_a1 : Fld Z h0 a1 "com/example/flowmason/flowmason/engine/Task" "role" "Ljava/lang/String;" u_role_a1) (F_state_a1 : Fld Z h0 a1 "com/example/flowmason/flowmason/engine/Task" "state" "Lcom/example/flowmason/flowmason/engine/Task$State;" u_state_a1) (F_assignee_a1 : Fld Z h0 a1 "com/example/flowmason/flowmason/engine/Task" "assignee" "Ljava/lang/String;" u_assignee_a1) :
    MetFree l (⟨"com/example/flowmason/flowmason/engine/Task", "<init>", "(Ljava/lang/String;Ljava/lang/String;Ljava/lang/String;Ljava/lang/String;Ljava/lang/String;Lcom/example/flowmason/flowmason/engine/Task$State;Ljava/lang/String;)V"⟩ : MethodName) (head1 (Jvm.Cond.code (⟨"com/example/flowmason/flowmason/engine/Task", "<init>", "(Ljava/lang/String;Ljava/lang/String;Ljava/lang/String;Ljava/lang/String;Ljava/lang/String;Lcom/example/flowmason/flowmason/engine/Task$State;Ljava/lang/String;)V"⟩ : MethodName) prog_17_method_1_code 8 none :: ws) ({ frames := 2, cells := 0, slots := 0, locals := 24 } : Room)) (fun a U => a = #[(.ref a1), a2, a3, a4, a5, a6, (.ref a7), a8] ∧ Z.Warmed39 U.vm ∧ U.heap = h0) (fun _ _ _ _ _ => True) (fun _ U o U' => ∃ v L, o = .returned v ∧ QTask Z a1 a2 a3 a4 a5 a6 a7 a8 h0 n0 v U'.heap L ∧ FrameEnd U o U' L ({ frames := 2, cells := 0, slots := 0, locals := 24 } : Room).cells ({ frames := 2, cells := 0, slots := 0, locals := 24 } : Room).slots) := by
  refine MetFree.of_bodySF (plainFor_of_name pn_3) hisR ?_
  intro p e s m args below meth c s₁ Bd hml0 hP hK
  obtain ⟨rfl, hZ, hh⟩ := hP
  have hx := Bd.exec
  have hby := Bd.bytes
  have hml : c.maxLocals = 8 := hml0
  have hown : s.vm.findClass "com/example/flowmason/flowmason/engine/Task" = some m.cls := findClass_of_methodNamed Bd.named
  have hnm := (name_of_methodNamed Bd.named Bd.method).1
  have X0 : Stand p l e ({ frames := 2, cells := 0, slots := 0, locals := 24 } : Room) s m #[(.ref a1), a2, a3, a4, a5, a6, (.ref a7), a8] below meth c s₁ [] 0 0 := Stand.of_body Bd
  have e0 : s₁.heap = h0 := by rw [← hh, Bd.state]; rfl
  have N0 := Fr.nil n0
  have pre0 : ∀ t, Steps p.tables e below (s₁.setTop (mkF m 0 #[.val (.ref a1), .val a2, .val a3, .val a4, .val a5, .val a6, .val (.ref a7), .val a8] [])) t → Steps p.tables e below (s₁.setTop (entryFrame m #[(.ref a1), a2, a3, a4, a5, a6, (.ref a7), a8] 8)) t := fun t k => castTop (ef_3 m a1 a2 hr_a2 a3 hr_a3 a4 hr_a4 a5 hr_a5 a6 hr_a6 a7 a8 hr_a8) k
  obtain ⟨_, _, ⟨T9, L9, k9, n9⟩, -, X9, ⟨Lc9, hQ9, l9, y9, z9⟩, st9⟩ := X0.specialBack hx (y := (⟨"java/lang/Record", "<init>", "()V"⟩ : MethodName)) rfl hown (mvT hZ (hw _ (List.mem_of_getElem? (i := 28) rfl))) (mvT hZ (hw _ (List.mem_of_getElem? (i := 29) rfl))) (mvT hZ (hw _ (List.mem_of_getElem? (i := 32) rfl))) (by decide) (backOf (W := 0) (rm4 l Z a0 hw [] a1 h0 n0 Z0) hZ (hw _ (List.mem_of_getElem? (i := 32) rfl)) (hw _ (List.mem_of_getElem? (i := 31) rfl)) (by decide) (by decide)) (g := (mkF m 1 #[.val (.ref a1), .val a2, .val a3, .val a4, .val a5, .val a6, .val (.ref a7), .val a8] [(.ref a1)])) rfl (by rw [hml]; rfl) (Steps.refl _) (a := a1) (argsL := []) (rest := []) (lenOf pd_3_3 rfl) rfl (by show 2 * 0 + _ ≤ _; exact Nat.le_of_eq rfl) (hb hby d3_1) (fun _ _ => ⟨rfl, e0, (by decide : 0 + 0 ≤ _), (by decide : 0 + 0 ≤ _)⟩)
  dsimp only [Pt.U, Pt.locs, Pt.cells, Pt.slots] at X9 l9 y9 z9 st9 hQ9
  subst l9 y9 z9
  obtain ⟨rfl, N9q, e9⟩ := hQ9
  have N9 := Fr.app N0 N9q
  obtain ⟨T10, h10, X10, e10, W10, st10⟩ := putF X9 hx hZ hown (host := "") (Or.inl (hw _ (List.mem_of_getElem? (i := 36) rfl))) Via.refl e9 F_id_a1 E_a1 (Or.inr ⟨(hw _ (List.mem_of_getElem? (i := 37) rfl)), rfl, hnm⟩) (hw _ (List.mem_of_getElem? (i := 20) rfl)) (ty := (.object "java/lang/String")) (by decide) (own_nar hr_a2) (own_fits hr_a2) (g := (mkF m 6 #[.val (.ref a1), .val a2, .val a3, .val a4, .val a5, .val a6, .val (.ref a7), .val a8] [a2, (.ref a1)])) rfl rfl (hb hby d3_6)
  have Fw10 := F_id_a1.same W10
  have K10 : Keep h0 h10 [a1] := (Keep.refl h0 [a1]).wr W10 (Or.inl (List.mem_of_getElem? (i := 0) rfl))
  have N10 := Fr.snoc X10 N9 g_a1
  obtain ⟨T11, h11, X11, e11, W11, st11⟩ := putF X10 hx hZ hown (host := "") (Or.inl (hw _ (List.mem_of_getElem? (i := 38) rfl))) Via.refl e10 (F_name_a1.other W10 (Or.inr (slot_ne (Or.inr (hw _ (List.mem_of_getElem? (i := 39) rfl))) (Or.inr (hw _ (List.mem_of_getElem? (i := 37) rfl))) (by decide) (t := (.object "java/lang/String")) (t' := (.object "java/lang/String")) (by decide) (by decide)))) (E_a1.wr W10) (Or.inr ⟨(hw _ (List.mem_of_getElem? (i := 39) rfl)), rfl, hnm⟩) (hw _ (List.mem_of_getElem? (i := 20) rfl)) (ty := (.object "java/lang/String")) (by decide) (own_nar hr_a3) (own_fits hr_a3) (g := (mkF m 11 #[.val (.ref a1), .val a2, .val a3, .val a4, .val a5, .val a6, .val (.ref a7), .val a8] [a3, (.ref a1)])) rfl rfl (hb hby d3_11)
  have Fw11 := (F_name_a1.other W10 (Or.inr (slot_ne (Or.inr (hw _ (List.mem_of_getElem? (i := 39) rfl))) (Or.inr (hw _ (List.mem_of_getElem? (i := 37) rfl))) (by decide) (t := (.object "java/lang/String")) (t' := (.object "java/lang/String")) (by decide) (by decide)))).same W11
  have K11 : Keep h0 h11 [a1] := K10.wr W11 (Or.inl (List.mem_of_getElem? (i := 0) rfl))
  have N11 := Fr.snoc X11 N10 g_a1
  obtain ⟨T12, h12, X12, e12, W12, st12⟩ := putF X11 hx hZ hown (host := "") (Or.inl (hw _ (List.mem_of_getElem? (i := 40) rfl))) Via.refl e11 ((F_elementId_a1.other W10 (Or.inr (slot_ne (Or.inr (hw _ (List.mem_of_getElem? (i := 41) rfl))) (Or.inr (hw _ (List.mem_of_getElem? (i := 37) rfl))) (by decide) (t := (.object "java/lang/String")) (t' := (.object "java/lang/String")) (by decide) (by decide)))).other W11 (Or.inr (slot_ne (Or.inr (hw _ (List.mem_of_getElem? (i := 41) rfl))) (Or.inr (hw _ (List.mem_of_getElem? (i := 39) rfl))) (by decide) (t := (.object "java/lang/String")) (t' := (.object "java/lang/String")) (by decide) (by decide)))) ((E_a1.wr W10).wr W11) (Or.inr ⟨(hw _ (List.mem_of_getElem? (i := 41) rfl)), rfl, hnm⟩) (hw _ (List.mem_of_getElem? (i := 20) rfl)) (ty := (.object "java/lang/String")) (by decide) (own_nar hr_a4) (own_fits hr_a4) (g := (mkF m 16 #[.val (.ref a1), .val a2, .val a3, .val a4, .val a5, .val a6, .val (.ref a7), .val a8] [a4, (.ref a1)])) rfl rfl (hb hby d3_16)
  have Fw12 := ((F_elementId_a1.other W10 (Or.inr (slot_ne (Or.inr (hw _ (List.mem_of_getElem? (i := 41) rfl))) (Or.inr (hw _ (List.mem_of_getElem? (i := 37) rfl))) (by decide) (t := (.object "java/lang/String")) (t' := (.object "java/lang/String")) (by decide) (by decide)))).other W11 (Or.inr (slot_ne (Or.inr (hw _ (List.mem_of_getElem? (i := 41) rfl))) (Or.inr (hw _ (List.mem_of_getElem? (i := 39) rfl))) (by decide) (t := (.object "java/lang/String")) (t' := (.object "java/lang/String")) (by decide) (by decide)))).same W12
  have K12 : Keep h0 h12 [a1] := K11.wr W12 (Or.inl (List.mem_of_getElem? (i := 0) rfl))
  have N12 := Fr.snoc X12 N11 g_a1
  obtain ⟨T13, h13, X13, e13, W13, st13⟩ := putF X12 hx hZ hown (host := "") (Or.inl (hw _ (List.mem_of_getElem? (i := 42) rfl))) Via.refl e12 (((F_instanceId_a1.other W10 (Or.inr (slot_ne (Or.inr (hw _ (List.mem_of_getElem? (i := 43) rfl))) (Or.inr (hw _ (List.mem_of_getElem? (i := 37) rfl))) (by decide) (t := (.object "java/lang/String")) (t' := (.object "java/lang/String")) (by decide) (by decide)))).other W11 (Or.inr (slot_ne (Or.inr (hw _ (List.mem_of_getElem? (i := 43) rfl))) (Or.inr (hw _ (List.mem_of_getElem? (i := 39) rfl))) (by decide) (t := (.object "java/lang/String")) (t' := (.object "java/lang/String")) (by decide) (by decide)))).other W12 (Or.inr (slot_ne (Or.inr (hw _ (List.mem_of_getElem? (i := 43) rfl))) (Or.inr (hw _ (List.mem_of_getElem? (i := 41) rfl))) (by decide) (t := (.object "java/lang/String")) (t' := (.object "java/lang/String")) (by decide) (by decide)))) (((E_a1.wr W10).wr W11).wr W12) (Or.inr ⟨(hw _ (List.mem_of_getElem? (i := 43) rfl)), rfl, hnm⟩) (hw _ (List.mem_of_getElem? (i := 20) rfl)) (ty := (.object "java/lang/String")) (by decide) (own_nar hr_a5) (own_fits hr_a5) (g := (mkF m 22 #[.val (.ref a1), .val a2, .val a3, .val a4, .val a5, .val a6, .val (.ref a7), .val a8] [a5, (.ref a1)])) rfl rfl (hb hby d3_22)
  have Fw13 := (((F_instanceId_a1.other W10 (Or.inr (slot_ne (Or.inr (hw _ (List.mem_of_getElem? (i := 43) rfl))) (Or.inr (hw _ (List.mem_of_getElem? (i := 37) rfl))) (by decide) (t := (.object "java/lang/String")) (t' := (.object "java/lang/String")) (by decide) (by decide)))).other W11 (Or.inr (slot_ne (Or.inr (hw _ (List.mem_of_getElem? (i := 43) rfl))) (Or.inr (hw _ (List.mem_of_getElem? (i := 39) rfl))) (by decide) (t := (.object "java/lang/String")) (t' := (.object "java/lang/String")) (by decide) (by decide)))).other W12 (Or.inr (slot_ne (Or.inr (hw _ (List.mem_of_getElem? (i := 43) rfl))) (Or.inr (hw _ (List.mem_of_getElem? (i := 41) rfl))) (by decide) (t := (.object "java/lang/String")) (t' := (.object "java/lang/String")) (by decide) (by decide)))).same W13
  have K13 : Keep h0 h13 [a1] := K12.wr W13 (Or.inl (List.mem_of_getElem? (i := 0) rfl))
  have N13 := Fr.snoc X13 N12 g_a1
  obtain ⟨T14, h14, X14, e14, W14, st14⟩ := putF X13 hx hZ hown (host := "") (Or.inl (hw _ (List.mem_of_getElem? (i := 44) rfl))) Via.refl e13 ((((F_role_a1.other W10 (Or.inr (slot_ne (Or.inr (hw _ (List.mem_of_getElem? (i := 45) rfl))) (Or.inr (hw _ (List.mem_of_getElem? (i := 37) rfl))) (by decide) (t := (.object "java/lang/String")) (t' := (.object "java/lang/String")) (by decide) (by decide)))).other W11 (Or.inr (slot_ne (Or.inr (hw _ (List.mem_of_getElem? (i := 45) rfl))) (Or.inr (hw _ (List.mem_of_getElem? (i := 39) rfl))) (by decide) (t := (.object "java/lang/String")) (t' := (.object "java/lang/String")) (by decide) (by decide)))).other W12 (Or.inr (slot_ne (Or.inr (hw _ (List.mem_of_getElem? (i := 45) rfl))) (Or.inr (hw _ (List.mem_of_getElem? (i := 41) rfl))) (by decide) (t := (.object "java/lang/String")) (t' := (.object "java/lang/String")) (by decide) (by decide)))).other W13 (Or.inr (slot_ne (Or.inr (hw _ (List.mem_of_getElem? (i := 45) rfl))) (Or.inr (hw _ (List.mem_of_getElem? (i := 43) rfl))) (by decide) (t := (.object "java/lang/String")) (t' := (.object "java/lang/String")) (by decide) (by decide)))) ((((E_a1.wr W10).wr W11).wr W12).wr W13) (Or.inr ⟨(hw _ (List.mem_of_getElem? (i := 45) rfl)), rfl, hnm⟩) (hw _ (List.mem_of_getElem? (i := 20) rfl)) (ty := (.object "java/lang/String")) (by decide) (own_nar hr_a6) (own_fits hr_a6) (g := (mkF m 28 #[.val (.ref a1), .val a2, .val a3, .val a4, .val a5, .val a6, .val (.ref a7), .val a8] [a6, (.ref a1)])) rfl rfl (hb hby d3_28)
  have Fw14 := ((((F_role_a1.other W10 (Or.inr (slot_ne (Or.inr (hw _ (List.mem_of_getElem? (i := 45) rfl))) (Or.inr (hw _ (List.mem_of_getElem? (i := 37) rfl))) (by decide) (t := (.object "java/lang/String")) (t' := (.object "java/lang/String")) (by decide) (by decide)))).other W11 (Or.inr (slot_ne (Or.inr (hw _ (List.mem_of_getElem? (i := 45) rfl))) (Or.inr (hw _ (List.mem_of_getElem? (i := 39) rfl))) (by decide) (t := (.object "java/lang/String")) (t' := (.object "java/lang/String")) (by decide) (by decide)))).other W12 (Or.inr (slot_ne (Or.inr (hw _ (List.mem_of_getElem? (i := 45) rfl))) (Or.inr (hw _ (List.mem_of_getElem? (i := 41) rfl))) (by decide) (t := (.object "java/lang/String")) (t' := (.object "java/lang/String")) (by decide) (by decide)))).other W13 (Or.inr (slot_ne (Or.inr (hw _ (List.mem_of_getElem? (i := 45) rfl))) (Or.inr (hw _ (List.mem_of_getElem? (i := 43) rfl))) (by decide) (t := (.object "java/lang/String")) (t' := (.object "java/lang/String")) (by decide) (by decide)))).same W14
  have K14 : Keep h0 h14 [a1] := K13.wr W14 (Or.inl (List.mem_of_getElem? (i := 0) rfl))
  have N14 := Fr.snoc X14 N13 g_a1
  obtain ⟨T15, h15, X15, e15, W15, st15⟩ := putF X14 hx hZ hown (host := "") (Or.inl (hw _ (List.mem_of_getElem? (i := 46) rfl))) Via.refl e14 (((((F_state_a1.other W10 (Or.inr (slot_ne (Or.inr (hw _ (List.mem_of_getElem? (i := 47) rfl))) (Or.inr (hw _ (List.mem_of_getElem? (i := 37) rfl))) (by decide) (t := (.object "com/example/flowmason/flowmason/engine/Task$State")) (t' := (.object "java/lang/String")) (by decide) (by decide)))).other W11 (Or.inr (slot_ne (Or.inr (hw _ (List.mem_of_getElem? (i := 47) rfl))) (Or.inr (hw _ (List.mem_of_getElem? (i := 39) rfl))) (by decide) (t := (.object "com/example/flowmason/flowmason/engine/Task$State")) (t' := (.object "java/lang/String")) (by decide) (by decide)))).other W12 (Or.inr (slot_ne (Or.inr (hw _ (List.mem_of_getElem? (i := 47) rfl))) (Or.inr (hw _ (List.mem_of_getElem? (i := 41) rfl))) (by decide) (t := (.object "com/example/flowmason/flowmason/engine/Task$State")) (t' := (.object "java/lang/String")) (by decide) (by decide)))).other W13 (Or.inr (slot_ne (Or.inr (hw _ (List.mem_of_getElem? (i := 47) rfl))) (Or.inr (hw _ (List.mem_of_getElem? (i := 43) rfl))) (by decide) (t := (.object "com/example/flowmason/flowmason/engine/Task$State")) (t' := (.object "java/lang/String")) (by decide) (by decide)))).other W14 (Or.inr (slot_ne (Or.inr (hw _ (List.mem_of_getElem? (i := 47) rfl))) (Or.inr (hw _ (List.mem_of_getElem? (i := 45) rfl))) (by decide) (t := (.object "com/example/flowmason/flowmason/engine/Task$State")) (t' := (.object "java/lang/String")) (by decide) (by decide)))) (((((E_a1.wr W10).wr W11).wr W12).wr W13).wr W14) (Or.inr ⟨(hw _ (List.mem_of_getElem? (i := 47) rfl)), rfl, hnm⟩) (hw _ (List.mem_of_getElem? (i := 20) rfl)) (ty := (.object "com/example/flowmason/flowmason/engine/Task$State")) (by decide) rfl rfl (g := (mkF m 34 #[.val (.ref a1), .val a2, .val a3, .val a4, .val a5, .val a6, .val (.ref a7), .val a8] [(.ref a7), (.ref a1)])) rfl rfl (hb hby d3_34)
  have Fw15 := (((((F_state_a1.other W10 (Or.inr (slot_ne (Or.inr (hw _ (List.mem_of_getElem? (i := 47) rfl))) (Or.inr (hw _ (List.mem_of_getElem? (i := 37) rfl))) (by decide) (t := (.object "com/example/flowmason/flowmason/engine/Task$State")) (t' := (.object "java/lang/String")) (by decide) (by decide)))).other W11 (Or.inr (slot_ne (Or.inr (hw _ (List.mem_of_getElem? (i := 47) rfl))) (Or.inr (hw _ (List.mem_of_getElem? (i := 39) rfl))) (by decide) (t := (.object "com/example/flowmason/flowmason/engine/Task$State")) (t' := (.object "java/lang/String")) (by decide) (by decide)))).other W12 (Or.inr (slot_ne (Or.inr (hw _ (List.mem_of_getElem? (i := 47) rfl))) (Or.inr (hw _ (List.mem_of_getElem? (i := 41) rfl))) (by decide) (t := (.object "com/example/flowmason/flowmason/engine/Task$State")) (t' := (.object "java/lang/String")) (by decide) (by decide)))).other W13 (Or.inr (slot_ne (Or.inr (hw _ (List.mem_of_getElem? (i := 47) rfl))) (Or.inr (hw _ (List.mem_of_getElem? (i := 43) rfl))) (by decide) (t := (.object "com/example/flowmason/flowmason/engine/Task$State")) (t' := (.object "java/lang/String")) (by decide) (by decide)))).other W14 (Or.inr (slot_ne (Or.inr (hw _ (List.mem_of_getElem? (i := 47) rfl))) (Or.inr (hw _ (List.mem_of_getElem? (i := 45) rfl))) (by decide) (t := (.object "com/example/flowmason/flowmason/engine/Task$State")) (t' := (.object "java/lang/String")) (by decide) (by decide)))).same W15
  have K15 : Keep h0 h15 [a1] := K14.wr W15 (Or.inl (List.mem_of_getElem? (i := 0) rfl))
  have N15 := Fr.snoc X15 N14 g_a1
  obtain ⟨T16, h16, X16, e16, W16, st16⟩ := putF X15 hx hZ hown (host := "") (Or.inl (hw _ (List.mem_of_getElem? (i := 48) rfl))) Via.refl e15 ((((((F_assignee_a1.other W10 (Or.inr (slot_ne (Or.inr (hw _ (List.mem_of_getElem? (i := 49) rfl))) (Or.inr (hw _ (List.mem_of_getElem? (i := 37) rfl))) (by decide) (t := (.object "java/lang/String")) (t' := (.object "java/lang/String")) (by decide) (by decide)))).other W11 (Or.inr (slot_ne (Or.inr (hw _ (List.mem_of_getElem? (i := 49) rfl))) (Or.inr (hw _ (List.mem_of_getElem? (i := 39) rfl))) (by decide) (t := (.object "java/lang/String")) (t' := (.object "java/lang/String")) (by decide) (by decide)))).other W12 (Or.inr (slot_ne (Or.inr (hw _ (List.mem_of_getElem? (i := 49) rfl))) (Or.inr (hw _ (List.mem_of_getElem? (i := 41) rfl))) (by decide) (t := (.object "java/lang/String")) (t' := (.object "java/lang/String")) (by decide) (by decide)))).other W13 (Or.inr (slot_ne (Or.inr (hw _ (List.mem_of_getElem? (i := 49) rfl))) (Or.inr (hw _ (List.mem_of_getElem? (i := 43) rfl))) (by decide) (t := (.object "java/lang/String")) (t' := (.object "java/lang/String")) (by decide) (by decide)))).other W14 (Or.inr (slot_ne (Or.inr (hw _ (List.mem_of_getElem? (i := 49) rfl))) (Or.inr (hw _ (List.mem_of_getElem? (i := 45) rfl))) (by decide) (t := (.object "java/lang/String")) (t' := (.object "java/lang/String")) (by decide) (by decide)))).other W15 (Or.inr (slot_ne (Or.inr (hw _ (List.mem_of_getElem? (i := 49) rfl))) (Or.inr (hw _ (List.mem_of_getElem? (i := 47) rfl))) (by decide) (t := (.object "java/lang/String")) (t' := (.object "com/example/flowmason/flowmason/engine/Task$State")) (by decide) (by decide)))) ((((((E_a1.wr W10).wr W11).wr W12).wr W13).wr W14).wr W15) (Or.inr ⟨(hw _ (List.mem_of_getElem? (i := 49) rfl)), rfl, hnm⟩) (hw _ (List.mem_of_getElem? (i := 20) rfl)) (ty := (.object "java/lang/String")) (by decide) (own_nar hr_a8) (own_fits hr_a8) (g := (mkF m 40 #[.val (.ref a1), .val a2, .val a3, .val a4, .val a5, .val a6, .val (.ref a7), .val a8] [a8, (.ref a1)])) rfl rfl (hb hby d3_40)
  have Fw16 := ((((((F_assignee_a1.other W10 (Or.inr (slot_ne (Or.inr (hw _ (List.mem_of_getElem? (i := 49) rfl))) (Or.inr (hw _ (List.mem_of_getElem? (i := 37) rfl))) (by decide) (t := (.object "java/lang/String")) (t' := (.object "java/lang/String")) (by decide) (by decide)))).other W11 (Or.inr (slot_ne (Or.inr (hw _ (List.mem_of_getElem? (i := 49) rfl))) (Or.inr (hw _ (List.mem_of_getElem? (i := 39) rfl))) (by decide) (t := (.object "java/lang/String")) (t' := (.object "java/lang/String")) (by decide) (by decide)))).other W12 (Or.inr (slot_ne (Or.inr (hw _ (List.mem_of_getElem? (i := 49) rfl))) (Or.inr (hw _ (List.mem_of_getElem? (i := 41) rfl))) (by decide) (t := (.object "java/lang/String")) (t' := (.object "java/lang/String")) (by decide) (by decide)))).other W13 (Or.inr (slot_ne (Or.inr (hw _ (List.mem_of_getElem? (i := 49) rfl))) (Or.inr (hw _ (List.mem_of_getElem? (i := 43) rfl))) (by decide) (t := (.object "java/lang/String")) (t' := (.object "java/lang/String")) (by decide) (by decide)))).other W14 (Or.inr (slot_ne (Or.inr (hw _ (List.mem_of_getElem? (i := 49) rfl))) (Or.inr (hw _ (List.mem_of_getElem? (i := 45) rfl))) (by decide) (t := (.object "java/lang/String")) (t' := (.object "java/lang/String")) (by decide) (by decide)))).other W15 (Or.inr (slot_ne (Or.inr (hw _ (List.mem_of_getElem? (i := 49) rfl))) (Or.inr (hw _ (List.mem_of_getElem? (i := 47) rfl))) (by decide) (t := (.object "java/lang/String")) (t' := (.object "com/example/flowmason/flowmason/engine/Task$State")) (by decide) (by decide)))).same W16
  have K16 : Keep h0 h16 [a1] := K15.wr W16 (Or.inl (List.mem_of_getElem? (i := 0) rfl))
  have N16 := Fr.snoc X16 N15 g_a1
  obtain ⟨fs, hr, hrun, hended, hW, hsame⟩ := X16.leave (v := none) (fun _ => rfl)
  refine ⟨_, _, pre0 _ ?_, hrun, hended, _, _, rfl, ?_, ⟨_, rfl⟩, hW, hsame.mono (by decide) (by decide)⟩
  · show Steps p.tables e below (s₁.setTop (mkF m 0 #[.val (.ref a1), .val a2, .val a3, .val a4, .val a5, .val a6, .val (.ref a7), .val a8] [])) _
    refine XS.aloadN X0.here hx rfl (hb hby d3_0) rfl rfl ?_
    show Steps p.tables e below (s₁.setTop (mkF m 1 #[.val (.ref a1), .val a2, .val a3, .val a4, .val a5, .val a6, .val (.ref a7), .val a8] [(.ref a1)])) _
    refine st9.trans ?_
    show Steps p.tables e below (T9.setTop (mkF m 4 #[.val (.ref a1), .val a2, .val a3, .val a4, .val a5, .val a6, .val (.ref a7), .val a8] [])) _
    refine XS.aloadN X9.here hx rfl (hb hby d3_4) rfl rfl ?_
    show Steps p.tables e below (T9.setTop (mkF m 5 #[.val (.ref a1), .val a2, .val a3, .val a4, .val a5, .val a6, .val (.ref a7), .val a8] [(.ref a1)])) _
    refine XS.aloadN X9.here hx rfl (hb hby d3_5) rfl hr_a2 ?_
    show Steps p.tables e below (T9.setTop (mkF m 6 #[.val (.ref a1), .val a2, .val a3, .val a4, .val a5, .val a6, .val (.ref a7), .val a8] [a2, (.ref a1)])) _
    refine st10 _ ?_
    show Steps p.tables e below (T10.setTop (mkF m 9 #[.val (.ref a1), .val a2, .val a3, .val a4, .val a5, .val a6, .val (.ref a7), .val a8] [])) _
    refine XS.aloadN X10.here hx rfl (hb hby d3_9) rfl rfl ?_
    show Steps p.tables e below (T10.setTop (mkF m 10 #[.val (.ref a1), .val a2, .val a3, .val a4, .val a5, .val a6, .val (.ref a7), .val a8] [(.ref a1)])) _
    refine XS.aloadN X10.here hx rfl (hb hby d3_10) rfl hr_a3 ?_
    show Steps p.tables e below (T10.setTop (mkF m 11 #[.val (.ref a1), .val a2, .val a3, .val a4, .val a5, .val a6, .val (.ref a7), .val a8] [a3, (.ref a1)])) _
    refine st11 _ ?_
    show Steps p.tables e below (T11.setTop (mkF m 14 #[.val (.ref a1), .val a2, .val a3, .val a4, .val a5, .val a6, .val (.ref a7), .val a8] [])) _
    refine XS.aloadN X11.here hx rfl (hb hby d3_14) rfl rfl ?_
    show Steps p.tables e below (T11.setTop (mkF m 15 #[.val (.ref a1), .val a2, .val a3, .val a4, .val a5, .val a6, .val (.ref a7), .val a8] [(.ref a1)])) _
    refine XS.aloadN X11.here hx rfl (hb hby d3_15) rfl hr_a4 ?_
    show Steps p.tables e below (T11.setTop (mkF m 16 #[.val (.ref a1), .val a2, .val a3, .val a4, .val a5, .val a6, .val (.ref a7), .val a8] [a4, (.ref a1)])) _
    refine st12 _ ?_
    show Steps p.tables e below (T12.setTop (mkF m 19 #[.val (.ref a1), .val a2, .val a3, .val a4, .val a5, .val a6, .val (.ref a7), .val a8] [])) _
    refine XS.aloadN X12.here hx rfl (hb hby d3_19) rfl rfl ?_
    show Steps p.tables e below (T12.setTop (mkF m 20 #[.val (.ref a1), .val a2, .val a3, .val a4, .val a5, .val a6, .val (.ref a7), .val a8] [(.ref a1)])) _
    refine XS.aload X12.here hx rfl (hb hby d3_20) rfl hr_a5 ?_
    show Steps p.tables e below (T12.setTop (mkF m 22 #[.val (.ref a1), .val a2, .val a3, .val a4, .val a5, .val a6, .val (.ref a7), .val a8] [a5, (.ref a1)])) _
    refine st13 _ ?_
    show Steps p.tables e below (T13.setTop (mkF m 25 #[.val (.ref a1), .val a2, .val a3, .val a4, .val a5, .val a6, .val (.ref a7), .val a8] [])) _
    refine XS.aloadN X13.here hx rfl (hb hby d3_25) rfl rfl ?_
    show Steps p.tables e below (T13.setTop (mkF m 26 #[.val (.ref a1), .val a2, .val a3, .val a4, .val a5, .val a6, .val (.ref a7), .val a8] [(.ref a1)])) _
    refine XS.aload X13.here hx rfl (hb hby d3_26) rfl hr_a6 ?_
    show Steps p.tables e below (T13.setTop (mkF m 28 #[.val (.ref a1), .val a2, .val a3, .val a4, .val a5, .val a6, .val (.ref a7), .val a8] [a6, (.ref a1)])) _
    refine st14 _ ?_
    show Steps p.tables e below (T14.setTop (mkF m 31 #[.val (.ref a1), .val a2, .val a3, .val a4, .val a5, .val a6, .val (.ref a7), .val a8] [])) _
    refine XS.aloadN X14.here hx rfl (hb hby d3_31) rfl rfl ?_
    show Steps p.tables e below (T14.setTop (mkF m 32 #[.val (.ref a1), .val a2, .val a3, .val a4, .val a5, .val a6, .val (.ref a7), .val a8] [(.ref a1)])) _
    refine XS.aload X14.here hx rfl (hb hby d3_32) rfl rfl ?_
    show Steps p.tables e below (T14.setTop (mkF m 34 #[.val (.ref a1), .val a2, .val a3, .val a4, .val a5, .val a6, .val (.ref a7), .val a8] [(.ref a7), (.ref a1)])) _
    refine st15 _ ?_
    show Steps p.tables e below (T15.setTop (mkF m 37 #[.val (.ref a1), .val a2, .val a3, .val a4, .val a5, .val a6, .val (.ref a7), .val a8] [])) _
    refine XS.aloadN X15.here hx rfl (hb hby d3_37) rfl rfl ?_
    show Steps p.tables e below (T15.setTop (mkF m 38 #[.val (.ref a1), .val a2, .val a3, .val a4, .val a5, .val a6, .val (.ref a7), .val a8] [(.ref a1)])) _
    refine XS.aload X15.here hx rfl (hb hby d3_38) rfl hr_a8 ?_
    show Steps p.tables e below (T15.setTop (mkF m 40 #[.val (.ref a1), .val a2, .val a3, .val a4, .val a5, .val a6, .val (.ref a7), .val a8] [a8, (.ref a1)])) _
    refine st16 _ ?_
    show Steps p.tables e below (T16.setTop (mkF m 43 #[.val (.ref a1), .val a2, .val a3, .val a4, .val a5, .val a6, .val (.ref a7), .val a8] [])) _
    exact X16.returnOut hx Bd.returns (hb hby d3_43) hr
  · show QTask Z a1 a2 a3 a4 a5 a6 a7 a8 h0 n0 _ T16.heap _
    rw [e16]
    exact ⟨rfl, N16, K16, (((((((E_a1.wr W10).wr W11).wr W12).wr W13).wr W14).wr W15).wr W16), ((((((Fw10.other W11 (Or.inr (slot_ne (Or.inr (hw _ (List.mem_of_getElem? (i := 37) rfl))) (Or.inr (hw _ (List.mem_of_getElem? (i := 39) rfl))) (by decide) (t := (.object "java/lang/String")) (t' := (.object "java/lang/String")) (by decide) (by decide)))).other W12 (Or.inr (slot_ne (Or.inr (hw _ (List.mem_of_getElem? (i := 37) rfl))) (Or.inr (hw _ (List.mem_of_getElem? (i := 41) rfl))) (by decide) (t := (.object "java/lang/String")) (t' := (.object "java/lang/String")) (by decide) (by decide)))).other W13 (Or.inr (slot_ne (Or.inr (hw _ (List.mem_of_getElem? (i := 37) rfl))) (Or.inr (hw _ (List.mem_of_getElem? (i := 43) rfl))) (by decide) (t := (.object "java/lang/String")) (t' := (.object "java/lang/String")) (by decide) (by decide)))).other W14 (Or.inr (slot_ne (Or.inr (hw _ (List.mem_of_getElem? (i := 37) rfl))) (Or.inr (hw _ (List.mem_of_getElem? (i := 45) rfl))) (by decide) (t := (.object "java/lang/String")) (t' := (.object "java/lang/String")) (by decide) (by decide)))).other W15 (Or.inr (slot_ne (Or.inr (hw _ (List.mem_of_getElem? (i := 37) rfl))) (Or.inr (hw _ (List.mem_of_getElem? (i := 47) rfl))) (by decide) (t := (.object "java/lang/String")) (t' := (.object "com/example/flowmason/flowmason/engine/Task$State")) (by decide) (by decide)))).other W16 (Or.inr (slot_ne (Or.inr (hw _ (List.mem_of_getElem? (i := 37) rfl))) (Or.inr (hw _ (List.mem_of_getElem? (i := 49) rfl))) (by decide) (t := (.object "java/lang/String")) (t' := (.object "java/lang/String")) (by decide) (by decide)))), (((((Fw11.other W12 (Or.inr (slot_ne (Or.inr (hw _ (List.mem_of_getElem? (i := 39) rfl))) (Or.inr (hw _ (List.mem_of_getElem? (i := 41) rfl))) (by decide) (t := (.object "java/lang/String")) (t' := (.object "java/lang/String")) (by decide) (by decide)))).other W13 (Or.inr (slot_ne (Or.inr (hw _ (List.mem_of_getElem? (i := 39) rfl))) (Or.inr (hw _ (List.mem_of_getElem? (i := 43) rfl))) (by decide) (t := (.object "java/lang/String")) (t' := (.object "java/lang/String")) (by decide) (by decide)))).other W14 (Or.inr (slot_ne (Or.inr (hw _ (List.mem_of_getElem? (i := 39) rfl))) (Or.inr (hw _ (List.mem_of_getElem? (i := 45) rfl))) (by decide) (t := (.object "java/lang/String")) (t' := (.object "java/lang/String")) (by decide) (by decide)))).other W15 (Or.inr (slot_ne (Or.inr (hw _ (List.mem_of_getElem? (i := 39) rfl))) (Or.inr (hw _ (List.mem_of_getElem? (i := 47) rfl))) (by decide) (t := (.object "java/lang/String")) (t' := (.object "com/example/flowmason/flowmason/engine/Task$State")) (by decide) (by decide)))).other W16 (Or.inr (slot_ne (Or.inr (hw _ (List.mem_of_getElem? (i := 39) rfl))) (Or.inr (hw _ (List.mem_of_getElem? (i := 49) rfl))) (by decide) (t := (.object "java/lang/String")) (t' := (.object "java/lang/String")) (by decide) (by decide)))), ((((Fw12.other W13 (Or.inr (slot_ne (Or.inr (hw _ (List.mem_of_getElem? (i := 41) rfl))) (Or.inr (hw _ (List.mem_of_getElem? (i := 43) rfl))) (by decide) (t := (.object "java/lang/String")) (t' := (.object "java/lang/String")) (by decide) (by decide)))).other W14 (Or.inr (slot_ne (Or.inr (hw _ (List.mem_of_getElem? (i := 41) rfl))) (Or.inr (hw _ (List.mem_of_getElem? (i := 45) rfl))) (by decide) (t := (.object "java/lang/String")) (t' := (.object "java/lang/String")) (by decide) (by decide)))).other W15 (Or.inr (slot_ne (Or.inr (hw _ (List.mem_of_getElem? (i := 41) rfl))) (Or.inr (hw _ (List.mem_of_getElem? (i := 47) rfl))) (by decide) (t := (.object "java/lang/String")) (t' := (.object "com/example/flowmason/flowmason/engine/Task$State")) (by decide) (by decide)))).other W16 (Or.inr (slot_ne (Or.inr (hw _ (List.mem_of_getElem? (i := 41) rfl))) (Or.inr (hw _ (List.mem_of_getElem? (i := 49) rfl))) (by decide) (t := (.object "java/lang/String")) (t' := (.object "java/lang/String")) (by decide) (by decide)))), (((Fw13.other W14 (Or.inr (slot_ne (Or.inr (hw _ (List.mem_of_getElem? (i := 43) rfl))) (Or.inr (hw _ (List.mem_of_getElem? (i := 45) rfl))) (by decide) (t := (.object "java/lang/String")) (t' := (.object "java/lang/String")) (by decide) (by decide)))).other W15 (Or.inr (slot_ne (Or.inr (hw _ (List.mem_of_getElem? (i := 43) rfl))) (Or.inr (hw _ (List.mem_of_getElem? (i := 47) rfl))) (by decide) (t := (.object "java/lang/String")) (t' := (.object "com/example/flowmason/flowmason/engine/Task$State")) (by decide) (by decide)))).other W16 (Or.inr (slot_ne (Or.inr (hw _ (List.mem_of_getElem? (i := 43) rfl))) (Or.inr (hw _ (List.mem_of_getElem? (i := 49) rfl))) (by decide) (t := (.object "java/lang/String")) (t' := (.object "java/lang/String")) (by decide) (by decide)))), ((Fw14.other W15 (Or.inr (slot_ne (Or.inr (hw _ (List.mem_of_getElem? (i := 45) rfl))) (Or.inr (hw _ (List.mem_of_getElem? (i := 47) rfl))) (by decide) (t := (.object "java/lang/String")) (t' := (.object "com/example/flowmason/flowmason/engine/Task$State")) (by decide) (by decide)))).other W16 (Or.inr (slot_ne (Or.inr (hw _ (List.mem_of_getElem? (i := 45) rfl))) (Or.inr (hw _ (List.mem_of_getElem? (i := 49) rfl))) (by decide) (t := (.object "java/lang/String")) (t' := (.object "java/lang/String")) (by decide) (by decide)))), (Fw15.other W16 (Or.inr (slot_ne (Or.inr (hw _ (List.mem_of_getElem? (i := 47) rfl))) (Or.inr (hw _ (List.mem_of_getElem? (i := 49) rfl))) (by decide) (t := (.object "com/example/flowmason/flowmason/engine/Task$State")) (t' := (.object "java/lang/String")) (by decide) (by decide)))), Fw16⟩
theorem d6_0 : decode prog_17_method_2_code 0 = .ok (.aload_n 0, 1) := by decide +kernel
theorem d6_1 : decode prog_17_method_2_code 1 = .ok (.getfield 25, 3) := by decide +kernel
theorem d6_4 : decode prog_17_method_2_code 4 = .ok (.getstatic 32, 3) := by decide +kernel
theorem d6_7 : decode prog_17_method_2_code 7 = .ok (.if_acmp .eq 13, 3) := by decide +kernel
theorem d6_20 : decode prog_17_method_2_code 20 = .ok (.iconst 1, 1) := by decide +kernel
theorem d6_21 : decode prog_17_method_2_code 21 = .ok (.goto 4, 3) := by decide +kernel
theorem d6_25 : decode prog_17_method_2_code 25 = .ok (.ireturn, 1) := by decide +kernel
theorem pn_6 : plainName "com/example/flowmason/flowmason/engine/Task" = true := by first | (simp [plainName, overriddenIn]; done) | decide +kernel
theorem ef_6 (m : MethodId) (x0 : Addr) : entryFrame m #[(.ref x0)] 1 = mkF m 0 #[.val (.ref x0)] [] := by first | (simp [entryFrame, mkF, argsToLocals, Value.category]; done) | rfl
theorem d6_10 : decode prog_17_method_2_code 10 = .ok (.aload_n 0, 1) := by decide +kernel
theorem d6_11 : decode prog_17_method_2_code 11 = .ok (.getfield 25, 3) := by decide +kernel
theorem d6_14 : decode prog_17_method_2_code 14 = .ok (.getstatic 37, 3) := by decide +kernel
theorem d6_17 : decode prog_17_method_2_code 17 = .ok (.if_acmp .ne 7, 3) := by decide +kernel
theorem d6_24 : decode prog_17_method_2_code 24 = .ok (.iconst 0, 1) := by decide +kernel
set_option maxRecDepth 65536 in
set_option maxHeartbeats 40000000 in
theorem rm6t (l : Launch) (Z : State) (a0 : Array Value) (hw : ∀ d ∈ tables_1, d.before a0 Z = true) (ws : List Jvm.Cond) (a1 : Addr) (w2 : Addr) (w4 : Addr) (h0 : Heap) (n0 : Nat) (Z0 : n0 ≤ h0.size) (F_state_a1 : Fld Z h0 a1 "com/example/flowmason/flowmason/engine/Task" "state" "Lcom/example/flowmason/flowmason/engine/Task$State;" (.ref w2)) (S_READY : Sta Z h0 "com/example/flowmason/flowmason/engine/Task$State" "READY" "Lcom/example/flowmason/flowmason/engine/Task$State;" (.ref w4)) (ha7 : w2 = w4) :
    MetFree l (⟨"com/example/flowmason/flowmason/engine/Task", "open", "()Z"⟩ : MethodName) (head1 (Jvm.Cond.code (⟨"com/example/flowmason/flowmason/engine/Task", "open", "()Z"⟩ : MethodName) prog_17_method_2_code 1 (some .boolean) :: ws) ({ frames := 0, cells := 0, slots := 0, locals := 0 } : Room)) (fun a U => a = #[(.ref a1)] ∧ Z.Warmed39 U.vm ∧ U.heap = h0) (fun _ _ _ _ _ => True) (fun _ U o U' => ∃ v L, o = .returned v ∧ QI 1 h0 n0 v U'.heap L ∧ FrameEnd U o U' L ({ frames := 0, cells := 0, slots := 0, locals := 0 } : Room).cells ({ frames := 0, cells := 0, slots := 0, locals := 0 } : Room).slots) := by
  refine MetFree.of_bodySF (plainFor_of_name pn_6) hisR ?_
  intro p e s m args below meth c s₁ Bd hml0 hP hK
  obtain ⟨rfl, hZ, hh⟩ := hP
  have hx := Bd.exec
  have hby := Bd.bytes
  have hml : c.maxLocals = 1 := hml0
  have hown : s.vm.findClass "com/example/flowmason/flowmason/engine/Task" = some m.cls := findClass_of_methodNamed Bd.named
  have hnm := (name_of_methodNamed Bd.named Bd.method).1
  have X0 : Stand p l e ({ frames := 0, cells := 0, slots := 0, locals := 0 } : Room) s m #[(.ref a1)] below meth c s₁ [] 0 0 := Stand.of_body Bd
  have e0 : s₁.heap = h0 := by rw [← hh, Bd.state]; rfl
  have N0 := Fr.nil n0
  have pre0 : ∀ t, Steps p.tables e below (s₁.setTop (mkF m 0 #[.val (.ref a1)] [])) t → Steps p.tables e below (s₁.setTop (entryFrame m #[(.ref a1)] 1)) t := fun t k => castTop (ef_6 m a1) k
  obtain ⟨T3, X3, e3, st3⟩ := getF X0 hx hZ hown (host := "") (Or.inl (hw _ (List.mem_of_getElem? (i := 46) rfl))) Via.refl e0 F_state_a1 (g := (mkF m 1 #[.val (.ref a1)] [(.ref a1)])) rfl rfl (hb hby d6_1)
  obtain ⟨T5, X5, e5, st5⟩ := getS2 X3 hx hZ hown (host := "") (Or.inl (hw _ (List.mem_of_getElem? (i := 55) rfl))) Via.refl e3 S_READY (g := (mkF m 4 #[.val (.ref a1)] [(.ref w2)])) rfl (hb hby d6_4)
  obtain ⟨fs, hr, hrun, hended, hW, hsame⟩ := X5.leave (v := some (.int (1 : Int32))) (fun h => by rw [Bd.returns] at h; cases h)
  refine ⟨_, _, pre0 _ ?_, hrun, hended, _, _, rfl, ?_, ⟨_, rfl⟩, hW, hsame.mono (by decide) (by decide)⟩
  · show Steps p.tables e below (s₁.setTop (mkF m 0 #[.val (.ref a1)] [])) _
    refine XS.aloadN X0.here hx rfl (hb hby d6_0) rfl rfl ?_
    show Steps p.tables e below (s₁.setTop (mkF m 1 #[.val (.ref a1)] [(.ref a1)])) _
    refine st3 _ ?_
    show Steps p.tables e below (T3.setTop (mkF m 4 #[.val (.ref a1)] [(.ref w2)])) _
    refine st5 _ ?_
    show Steps p.tables e below (T5.setTop (mkF m 7 #[.val (.ref a1)] [(.ref w4), (.ref w2)])) _
    refine Jvm.RoadKit.acmp (g := (mkF m 7 #[.val (.ref a1)] [(.ref w4), (.ref w2)])) X5 hx rfl rfl rfl (pc0 := 7) (pc' := 20) (same := true) rfl (hb hby d6_7) rfl (decide_eq_true (congrArg Value.ref ha7)) (by decide) (by decide) ?_
    show Steps p.tables e below (T5.setTop (mkF m 20 #[.val (.ref a1)] [])) _
    refine XS.iconst X5.here hx rfl (hb hby d6_20) ?_
    show Steps p.tables e below (T5.setTop (mkF m 21 #[.val (.ref a1)] [(.int (1 : Int32))])) _
    refine XS.goto X5.here hx rfl (pc0 := 21) (pc' := 25) rfl (hb hby d6_21) (by decide) (by decide) ?_
    show Steps p.tables e below (T5.setTop (mkF m 25 #[.val (.ref a1)] [(.int (1 : Int32))])) _
    exact retN X5 hx (t := .boolean) Bd.returns (by simp) (hb hby d6_25) hr
  · show QI 1 h0 n0 _ T5.heap _
    rw [e5]
    exact ⟨rfl, N0, rfl⟩
set_option maxRecDepth 65536 in
set_option maxHeartbeats 40000000 in
theorem rm6ff (l : Launch) (Z : State) (a0 : Array Value) (hw : ∀ d ∈ tables_1, d.before a0 Z = true) (ws : List Jvm.Cond) (a1 : Addr) (w2 : Addr) (w4 : Addr) (w7 : Addr) (h0 : Heap) (n0 : Nat) (Z0 : n0 ≤ h0.size) (F_state_a1 : Fld Z h0 a1 "com/example/flowmason/flowmason/engine/Task" "state" "Lcom/example/flowmason/flowmason/engine/Task$State;" (.ref w2)) (S_READY : Sta Z h0 "com/example/flowmason/flowmason/engine/Task$State" "READY" "Lcom/example/flowmason/flowmason/engine/Task$State;" (.ref w4)) (S_RESERVED : Sta Z h0 "com/example/flowmason/flowmason/engine/Task$State" "RESERVED" "Lcom/example/flowmason/flowmason/engine/Task$State;" (.ref w7)) (ha7 : ¬ (w2 = w4)) (ha17 : w2 = w7) :
    MetFree l (⟨"com/example/flowmason/flowmason/engine/Task", "open", "()Z"⟩ : MethodName) (head1 (Jvm.Cond.code (⟨"com/example/flowmason/flowmason/engine/Task", "open", "()Z"⟩ : MethodName) prog_17_method_2_code 1 (some .boolean) :: ws) ({ frames := 0, cells := 0, slots := 0, locals := 0 } : Room)) (fun a U => a = #[(.ref a1)] ∧ Z.Warmed39 U.vm ∧ U.heap = h0) (fun _ _ _ _ _ => True) (fun _ U o U' => ∃ v L, o = .returned v ∧ QI 1 h0 n0 v U'.heap L ∧ FrameEnd U o U' L ({ frames := 0, cells := 0, slots := 0, locals := 0 } : Room).cells ({ frames := 0, cells := 0, slots := 0, locals := 0 } : Room).slots) := by
  refine MetFree.of_bodySF (plainFor_of_name pn_6) hisR ?_
  intro p e s m args below meth c s₁ Bd hml0 hP hK
  obtain ⟨rfl, hZ, hh⟩ := hP
  have hx := Bd.exec
  have hby := Bd.bytes
  have hml : c.maxLocals = 1 := hml0
  have hown : s.vm.findClass "com/example/flowmason/flowmason/engine/Task" = some m.cls := findClass_of_methodNamed Bd.named
  have hnm := (name_of_methodNamed Bd.named Bd.method).1
  have X0 : Stand p l e ({ frames := 0, cells := 0, slots := 0, locals := 0 } : Room) s m #[(.ref a1)] below meth c s₁ [] 0 0 := Stand.of_body Bd
  have e0 : s₁.heap = h0 := by rw [← hh, Bd.state]; rfl
  have N0 := Fr.nil n0
  have pre0 : ∀ t, Steps p.tables e below (s₁.setTop (mkF m 0 #[.val (.ref a1)] [])) t → Steps p.tables e below (s₁.setTop (entryFrame m #[(.ref a1)] 1)) t := fun t k => castTop (ef_6 m a1) k
  obtain ⟨T3, X3, e3, st3⟩ := getF X0 hx hZ hown (host := "") (Or.inl (hw _ (List.mem_of_getElem? (i := 46) rfl))) Via.refl e0 F_state_a1 (g := (mkF m 1 #[.val (.ref a1)] [(.ref a1)])) rfl rfl (hb hby d6_1)
  obtain ⟨T5, X5, e5, st5⟩ := getS2 X3 hx hZ hown (host := "") (Or.inl (hw _ (List.mem_of_getElem? (i := 55) rfl))) Via.refl e3 S_READY (g := (mkF m 4 #[.val (.ref a1)] [(.ref w2)])) rfl (hb hby d6_4)
  obtain ⟨T6, X6, e6, st6⟩ := getF X5 hx hZ hown (host := "") (Or.inl (hw _ (List.mem_of_getElem? (i := 46) rfl))) Via.refl e5 F_state_a1 (g := (mkF m 11 #[.val (.ref a1)] [(.ref a1)])) rfl rfl (hb hby d6_11)
  obtain ⟨T8, X8, e8, st8⟩ := getS2 X6 hx hZ hown (host := "") (Or.inl (hw _ (List.mem_of_getElem? (i := 62) rfl))) Via.refl e6 S_RESERVED (g := (mkF m 14 #[.val (.ref a1)] [(.ref w2)])) rfl (hb hby d6_14)
  obtain ⟨fs, hr, hrun, hended, hW, hsame⟩ := X8.leave (v := some (.int (1 : Int32))) (fun h => by rw [Bd.returns] at h; cases h)
  refine ⟨_, _, pre0 _ ?_, hrun, hended, _, _, rfl, ?_, ⟨_, rfl⟩, hW, hsame.mono (by decide) (by decide)⟩
  · show Steps p.tables e below (s₁.setTop (mkF m 0 #[.val (.ref a1)] [])) _
    refine XS.aloadN X0.here hx rfl (hb hby d6_0) rfl rfl ?_
    show Steps p.tables e below (s₁.setTop (mkF m 1 #[.val (.ref a1)] [(.ref a1)])) _
    refine st3 _ ?_
    show Steps p.tables e below (T3.setTop (mkF m 4 #[.val (.ref a1)] [(.ref w2)])) _
    refine st5 _ ?_
    show Steps p.tables e below (T5.setTop (mkF m 7 #[.val (.ref a1)] [(.ref w4), (.ref w2)])) _
    refine Jvm.RoadKit.acmp (g := (mkF m 7 #[.val (.ref a1)] [(.ref w4), (.ref w2)])) X5 hx rfl rfl rfl (pc0 := 7) (pc' := 10) (same := false) rfl (hb hby d6_7) rfl (decide_eq_false fun q => ha7 (Value.ref.inj q)) (by decide) (by decide) ?_
    show Steps p.tables e below (T5.setTop (mkF m 10 #[.val (.ref a1)] [])) _
    refine XS.aloadN X5.here hx rfl (hb hby d6_10) rfl rfl ?_
    show Steps p.tables e below (T5.setTop (mkF m 11 #[.val (.ref a1)] [(.ref a1)])) _
    refine st6 _ ?_
    show Steps p.tables e below (T6.setTop (mkF m 14 #[.val (.ref a1)] [(.ref w2)])) _
    refine st8 _ ?_
    show Steps p.tables e below (T8.setTop (mkF m 17 #[.val (.ref a1)] [(.ref w7), (.ref w2)])) _
    refine Jvm.RoadKit.acmp (g := (mkF m 17 #[.val (.ref a1)] [(.ref w7), (.ref w2)])) X8 hx rfl rfl rfl (pc0 := 17) (pc' := 20) (same := true) rfl (hb hby d6_17) rfl (decide_eq_true (congrArg Value.ref ha17)) (by decide) (by decide) ?_
    show Steps p.tables e below (T8.setTop (mkF m 20 #[.val (.ref a1)] [])) _
    refine XS.iconst X8.here hx rfl (hb hby d6_20) ?_
    show Steps p.tables e below (T8.setTop (mkF m 21 #[.val (.ref a1)] [(.int (1 : Int32))])) _
    refine XS.goto X8.here hx rfl (pc0 := 21) (pc' := 25) rfl (hb hby d6_21) (by decide) (by decide) ?_
    show Steps p.tables e below (T8.setTop (mkF m 25 #[.val (.ref a1)] [(.int (1 : Int32))])) _
    exact retN X8 hx (t := .boolean) Bd.returns (by simp) (hb hby d6_25) hr
  · show QI 1 h0 n0 _ T8.heap _
    rw [e8]
    exact ⟨rfl, N0, rfl⟩
set_option maxRecDepth 65536 in
set_option maxHeartbeats 40000000 in
theorem rm6ft (l : Launch) (Z : State) (a0 : Array Value) (hw : ∀ d ∈ tables_1, d.before a0 Z = true) (ws : List Jvm.Cond) (a1 : Addr) (w2 : Addr) (w4 : Addr) (w7 : Addr) (h0 : Heap) (n0 : Nat) (Z0 : n0 ≤ h0.size) (F_state_a1 : Fld Z h0 a1 "com/example/flowmason/flowmason/engine/Task" "state" "Lcom/example/flowmason/flowmason/engine/Task$State;" (.ref w2)) (S_READY : Sta Z h0 "com/example/flowmason/flowmason/engine/Task$State" "READY" "Lcom/example/flowmason/flowmason/engine/Task$State;" (.ref w4)) (S_RESERVED : Sta Z h0 "com/example/flowmason/flowmason/engine/Task$State" "RESERVED" "Lcom/example/flowmason/flowmason/engine/Task$State;" (.ref w7)) (ha7 : ¬ (w2 = w4)) (ha17 : ¬ (w2 = w7)) :
    MetFree l (⟨"com/example/flowmason/flowmason/engine/Task", "open", "()Z"⟩ : MethodName) (head1 (Jvm.Cond.code (⟨"com/example/flowmason/flowmason/engine/Task", "open", "()Z"⟩ : MethodName) prog_17_method_2_code 1 (some .boolean) :: ws) ({ frames := 0, cells := 0, slots := 0, locals := 0 } : Room)) (fun a U => a = #[(.ref a1)] ∧ Z.Warmed39 U.vm ∧ U.heap = h0) (fun _ _ _ _ _ => True) (fun _ U o U' => ∃ v L, o = .returned v ∧ QI 0 h0 n0 v U'.heap L ∧ FrameEnd U o U' L ({ frames := 0, cells := 0, slots := 0, locals := 0 } : Room).cells ({ frames := 0, cells := 0, slots := 0, locals := 0 } : Room).slots) := by
  refine MetFree.of_bodySF (plainFor_of_name pn_6) hisR ?_
  intro p e s m args below meth c s₁ Bd hml0 hP hK
  obtain ⟨rfl, hZ, hh⟩ := hP
  have hx := Bd.exec
  have hby := Bd.bytes
  have hml : c.maxLocals = 1 := hml0
  have hown : s.vm.findClass "com/example/flowmason/flowmason/engine/Task" = some m.cls := findClass_of_methodNamed Bd.named
  have hnm := (name_of_methodNamed Bd.named Bd.method).1
  have X0 : Stand p l e ({ frames := 0, cells := 0, slots := 0, locals := 0 } : Room) s m #[(.ref a1)] below meth c s₁ [] 0 0 := Stand.of_body Bd
  have e0 : s₁.heap = h0 := by rw [← hh, Bd.state]; rfl
  have N0 := Fr.nil n0
  have pre0 : ∀ t, Steps p.tables e below (s₁.setTop (mkF m 0 #[.val (.ref a1)] [])) t → Steps p.tables e below (s₁.setTop (entryFrame m #[(.ref a1)] 1)) t := fun t k => castTop (ef_6 m a1) k
  obtain ⟨T3, X3, e3, st3⟩ := getF X0 hx hZ hown (host := "") (Or.inl (hw _ (List.mem_of_getElem? (i := 46) rfl))) Via.refl e0 F_state_a1 (g := (mkF m 1 #[.val (.ref a1)] [(.ref a1)])) rfl rfl (hb hby d6_1)
  obtain ⟨T5, X5, e5, st5⟩ := getS2 X3 hx hZ hown (host := "") (Or.inl (hw _ (List.mem_of_getElem? (i := 55) rfl))) Via.refl e3 S_READY (g := (mkF m 4 #[.val (.ref a1)] [(.ref w2)])) rfl (hb hby d6_4)
  obtain ⟨T6, X6, e6, st6⟩ := getF X5 hx hZ hown (host := "") (Or.inl (hw _ (List.mem_of_getElem? (i := 46) rfl))) Via.refl e5 F_state_a1 (g := (mkF m 11 #[.val (.ref a1)] [(.ref a1)])) rfl rfl (hb hby d6_11)
  obtain ⟨T8, X8, e8, st8⟩ := getS2 X6 hx hZ hown (host := "") (Or.inl (hw _ (List.mem_of_getElem? (i := 62) rfl))) Via.refl e6 S_RESERVED (g := (mkF m 14 #[.val (.ref a1)] [(.ref w2)])) rfl (hb hby d6_14)
  obtain ⟨fs, hr, hrun, hended, hW, hsame⟩ := X8.leave (v := some (.int (0 : Int32))) (fun h => by rw [Bd.returns] at h; cases h)
  refine ⟨_, _, pre0 _ ?_, hrun, hended, _, _, rfl, ?_, ⟨_, rfl⟩, hW, hsame.mono (by decide) (by decide)⟩
  · show Steps p.tables e below (s₁.setTop (mkF m 0 #[.val (.ref a1)] [])) _
    refine XS.aloadN X0.here hx rfl (hb hby d6_0) rfl rfl ?_
    show Steps p.tables e below (s₁.setTop (mkF m 1 #[.val (.ref a1)] [(.ref a1)])) _
    refine st3 _ ?_
    show Steps p.tables e below (T3.setTop (mkF m 4 #[.val (.ref a1)] [(.ref w2)])) _
    refine st5 _ ?_
    show Steps p.tables e below (T5.setTop (mkF m 7 #[.val (.ref a1)] [(.ref w4), (.ref w2)])) _
    refine Jvm.RoadKit.acmp (g := (mkF m 7 #[.val (.ref a1)] [(.ref w4), (.ref w2)])) X5 hx rfl rfl rfl (pc0 := 7) (pc' := 10) (same := false) rfl (hb hby d6_7) rfl (decide_eq_false fun q => ha7 (Value.ref.inj q)) (by decide) (by decide) ?_
    show Steps p.tables e below (T5.setTop (mkF m 10 #[.val (.ref a1)] [])) _
    refine XS.aloadN X5.here hx rfl (hb hby d6_10) rfl rfl ?_
    show Steps p.tables e below (T5.setTop (mkF m 11 #[.val (.ref a1)] [(.ref a1)])) _
    refine st6 _ ?_
    show Steps p.tables e below (T6.setTop (mkF m 14 #[.val (.ref a1)] [(.ref w2)])) _
    refine st8 _ ?_
    show Steps p.tables e below (T8.setTop (mkF m 17 #[.val (.ref a1)] [(.ref w7), (.ref w2)])) _
    refine Jvm.RoadKit.acmp (g := (mkF m 17 #[.val (.ref a1)] [(.ref w7), (.ref w2)])) X8 hx rfl rfl rfl (pc0 := 17) (pc' := 24) (same := false) rfl (hb hby d6_17) rfl (decide_eq_false fun q => ha17 (Value.ref.inj q)) (by decide) (by decide) ?_
    show Steps p.tables e below (T8.setTop (mkF m 24 #[.val (.ref a1)] [])) _
    refine XS.iconst X8.here hx rfl (hb hby d6_24) ?_
    show Steps p.tables e below (T8.setTop (mkF m 25 #[.val (.ref a1)] [(.int (0 : Int32))])) _
    exact retN X8 hx (t := .boolean) Bd.returns (by simp) (hb hby d6_25) hr
  · show QI 0 h0 n0 _ T8.heap _
    rw [e8]
    exact ⟨rfl, N0, rfl⟩
def opV (w wR wV : Addr) : Int32 := if w = wR then 1 else if w = wV then 1 else 0
theorem rm6 (l : Launch) (Z : State) (a0 : Array Value) (hw : ∀ d ∈ tables_1, d.before a0 Z = true) (ws : List Jvm.Cond) (a1 : Addr) (w wR wV : Addr) (h0 : Heap) (n0 : Nat) (Z0 : n0 ≤ h0.size) (F_state_a1 : Fld Z h0 a1 "com/example/flowmason/flowmason/engine/Task" "state" "Lcom/example/flowmason/flowmason/engine/Task$State;" (.ref w)) (S_READY : Sta Z h0 "com/example/flowmason/flowmason/engine/Task$State" "READY" "Lcom/example/flowmason/flowmason/engine/Task$State;" (.ref wR)) (S_RESERVED : Sta Z h0 "com/example/flowmason/flowmason/engine/Task$State" "RESERVED" "Lcom/example/flowmason/flowmason/engine/Task$State;" (.ref wV)) :
    MetFree l (⟨"com/example/flowmason/flowmason/engine/Task", "open", "()Z"⟩ : MethodName) (head1 (Jvm.Cond.code (⟨"com/example/flowmason/flowmason/engine/Task", "open", "()Z"⟩ : MethodName) prog_17_method_2_code 1 (some .boolean) :: ws) ({ frames := 0, cells := 0, slots := 0, locals := 0 } : Room)) (fun a U => a = #[(.ref a1)] ∧ Z.Warmed39 U.vm ∧ U.heap = h0) (fun _ _ _ _ _ => True) (fun _ U o U' => ∃ v L, o = .returned v ∧ QI (opV w wR wV) h0 n0 v U'.heap L ∧ FrameEnd U o U' L ({ frames := 0, cells := 0, slots := 0, locals := 0 } : Room).cells ({ frames := 0, cells := 0, slots := 0, locals := 0 } : Room).slots) := by
  unfold opV
  by_cases q : w = wR
  · rw [if_pos q]
    exact rm6t l Z a0 hw ws a1 w wR h0 n0 Z0 F_state_a1 S_READY q
  · rw [if_neg q]
    by_cases q' : w = wV
    · rw [if_pos q']
      exact rm6ff l Z a0 hw ws a1 w wR wV h0 n0 Z0 F_state_a1 S_READY S_RESERVED q q'
    · rw [if_neg q']
      exact rm6ft l Z a0 hw ws a1 w wR wV h0 n0 Z0 F_state_a1 S_READY S_RESERVED q q'
def QMade (Z : State) (w : Addr) (h0 : Heap) (n0 : Nat) (v : Option Value) (h : Heap) (L : List Loc) : Prop := v = some (.ref h0.size) ∧ Fr n0 L ∧ Keep h0 h [] ∧ Exa Z h h0.size "com/example/flowmason/flowmason/engine/Task" ∧ Fld Z h h0.size "com/example/flowmason/flowmason/engine/Task" "state" "Lcom/example/flowmason/flowmason/engine/Task$State;" (.ref w)
theorem d7_0 : decode prog_17_method_5_code 0 = .ok (.new 8, 3) := by decide +kernel
theorem d7_3 : decode prog_17_method_5_code 3 = .ok (.dup, 1) := by decide +kernel
theorem d7_4 : decode prog_17_method_5_code 4 = .ok (.aload_n 0, 1) := by decide +kernel
theorem d7_5 : decode prog_17_method_5_code 5 = .ok (.getfield 7, 3) := by decide +kernel
theorem d7_8 : decode prog_17_method_5_code 8 = .ok (.aload_n 0, 1) := by decide +kernel
theorem d7_9 : decode prog_17_method_5_code 9 = .ok (.getfield 13, 3) := by decide +kernel
theorem d7_12 : decode prog_17_method_5_code 12 = .ok (.aload_n 0, 1) := by decide +kernel
theorem d7_13 : decode prog_17_method_5_code 13 = .ok (.getfield 16, 3) := by decide +kernel
theorem d7_16 : decode prog_17_method_5_code 16 = .ok (.aload_n 0, 1) := by decide +kernel
theorem d7_17 : decode prog_17_method_5_code 17 = .ok (.getfield 19, 3) := by decide +kernel
theorem d7_20 : decode prog_17_method_5_code 20 = .ok (.aload_n 0, 1) := by decide +kernel
theorem d7_21 : decode prog_17_method_5_code 21 = .ok (.getfield 22, 3) := by decide +kernel
theorem d7_24 : decode prog_17_method_5_code 24 = .ok (.getstatic 37, 3) := by decide +kernel
theorem d7_27 : decode prog_17_method_5_code 27 = .ok (.aload_n 1, 1) := by decide +kernel
theorem d7_28 : decode prog_17_method_5_code 28 = .ok (.invokespecial 50, 3) := by decide +kernel
theorem d7_31 : decode prog_17_method_5_code 31 = .ok (.areturn, 1) := by decide +kernel
theorem pn_7 : plainName "com/example/flowmason/flowmason/engine/Task" = true := by first | (simp [plainName, overriddenIn]; done) | decide +kernel
theorem pd_7_2 : parseMethodDescriptor "(Ljava/lang/String;Ljava/lang/String;Ljava/lang/String;Ljava/lang/String;Ljava/lang/String;Lcom/example/flowmason/flowmason/engine/Task$State;Ljava/lang/String;)V" = some ⟨[(.object "java/lang/String"), (.object "java/lang/String"), (.object "java/lang/String"), (.object "java/lang/String"), (.object "java/lang/String"), (.object "com/example/flowmason/flowmason/engine/Task$State"), (.object "java/lang/String")], none⟩ := by decide +kernel
theorem ef_7 (m : MethodId) (x0 : Addr) (x1 : Value) (k1 : x1.isRef = true) : entryFrame m #[(.ref x0), x1] 2 = mkF m 0 #[.val (.ref x0), .val x1] [] := by simp [entryFrame, mkF, argsToLocals, own_catR, own_cat k1]
set_option maxRecDepth 65536 in
set_option maxHeartbeats 40000000 in
theorem rm7 (l : Launch) (Z : State) (a0 : Array Value) (hw : ∀ d ∈ tables_1, d.before a0 Z = true) (ws : List Jvm.Cond) (a1 : Addr) (a2 : Value) (hr_a2 : a2.isRef = true) (w4 : Value) (hr_w4 : w4.isRef = true) (w6 : Value) (hr_w6 : w6.isRef = true) (w8 : Value) (hr_w8 : w8.isRef = true) (w10 : Value) (hr_w10 : w10.isRef = true) (w12 : Value) (hr_w12 : w12.isRef = true) (w14 : Addr) (h0 : Heap) (n0 : Nat) (Z0 : n0 ≤ h0.size) (F_id_a1 : Fld Z h0 a1 "com/example/flowmason/flowmason/engine/Task" "id" "Ljava/lang/String;" w4) (F_name_a1 : Fld Z h0 a1 "com/example/flowmason/flowmason/engine/Task" "name" "Ljava/lang/String;" w6) (F_elementId_a1 : Fld Z h0 a1 "com/example/flowmason/flowmason/engine/Task" "elementId" "Ljava/lang/String;" w8) (F_instanceId_a1 : Fld Z h0 a1 "com/example/flowmason/flowmason/engine/Task" "instanceId" "Ljava/lang/String;" w10) (F_role_a1 : Fld Z h0 a1 "com/example/flowmason/flowmason/engine/Task" "role" "Ljava/lang/String;" w12) (S_RESERVED : Sta Z h0 "com/example/flowmason/flowmason/engine/Task$State" "RESERVED" "Lcom/example/flowmason/flowmason/engine/Task$State;" (.ref w14)) :
    MetFree l (⟨"com/example/flowmason/flowmason/engine/Task", "claimedBy", "(Ljava/lang/String;)Lcom/example/flowmason/flowmason/engine/Task;"⟩ : MethodName) (head1 (Jvm.Cond.code (⟨"com/example/flowmason/flowmason/engine/Task", "claimedBy", "(Ljava/lang/String;)Lcom/example/flowmason/flowmason/engine/Task;"⟩ : MethodName) prog_17_method_5_code 2 (some (.object "com/example/flowmason/flowmason/engine/Task")) :: ws) ({ frames := 3, cells := 1, slots := 7, locals := 44 } : Room)) (fun a U => a = #[(.ref a1), a2] ∧ Z.Warmed39 U.vm ∧ U.heap = h0) (fun _ _ _ _ _ => True) (fun _ U o U' => ∃ v L, o = .returned v ∧ QMade Z w14 h0 n0 v U'.heap L ∧ FrameEnd U o U' L ({ frames := 3, cells := 1, slots := 7, locals := 44 } : Room).cells ({ frames := 3, cells := 1, slots := 7, locals := 44 } : Room).slots) := by
  refine MetFree.of_bodySF (plainFor_of_name pn_7) hisR ?_
  intro p e s m args below meth c s₁ Bd hml0 hP hK
  obtain ⟨rfl, hZ, hh⟩ := hP
  have hx := Bd.exec
  have hby := Bd.bytes
  have hml : c.maxLocals = 2 := hml0
  have hown : s.vm.findClass "com/example/flowmason/flowmason/engine/Task" = some m.cls := findClass_of_methodNamed Bd.named
  have hnm := (name_of_methodNamed Bd.named Bd.method).1
  have X0 : Stand p l e ({ frames := 3, cells := 1, slots := 7, locals := 44 } : Room) s m #[(.ref a1), a2] below meth c s₁ [] 0 0 := Stand.of_body Bd
  have e0 : s₁.heap = h0 := by rw [← hh, Bd.state]; rfl
  have N0 := Fr.nil n0
  have pre0 : ∀ t, Steps p.tables e below (s₁.setTop (mkF m 0 #[.val (.ref a1), .val a2] [])) t → Steps p.tables e below (s₁.setTop (entryFrame m #[(.ref a1), a2] 2)) t := fun t k => castTop (ef_7 m a1 a2 hr_a2) k
  obtain ⟨T3, h3, X3, e3, E3, A3, D3, -, st3⟩ := newO X0 hx hZ hown (hw _ (List.mem_of_getElem? (i := 61) rfl)) (hw _ (List.mem_of_getElem? (i := 20) rfl)) (hw _ (List.mem_of_getElem? (i := 21) rfl)) e0 (g := (mkF m 0 #[.val (.ref a1), .val a2] [])) rfl (hb hby d7_0) (by decide) (by decide)
  obtain ⟨b3, g3⟩ : ∃ z, z = h0.size := ⟨_, rfl⟩
  rw [← g3] at A3 D3 st3
  have F_id_b3 : Fld Z h3 b3 "com/example/flowmason/flowmason/engine/Task" "id" "Ljava/lang/String;" .null := D3 (Or.inr (hw _ (List.mem_of_getElem? (i := 37) rfl))) (ty := (.object "java/lang/String")) (by decide)
  have F_name_b3 : Fld Z h3 b3 "com/example/flowmason/flowmason/engine/Task" "name" "Ljava/lang/String;" .null := D3 (Or.inr (hw _ (List.mem_of_getElem? (i := 39) rfl))) (ty := (.object "java/lang/String")) (by decide)
  have F_elementId_b3 : Fld Z h3 b3 "com/example/flowmason/flowmason/engine/Task" "elementId" "Ljava/lang/String;" .null := D3 (Or.inr (hw _ (List.mem_of_getElem? (i := 41) rfl))) (ty := (.object "java/lang/String")) (by decide)
  have F_instanceId_b3 : Fld Z h3 b3 "com/example/flowmason/flowmason/engine/Task" "instanceId" "Ljava/lang/String;" .null := D3 (Or.inr (hw _ (List.mem_of_getElem? (i := 43) rfl))) (ty := (.object "java/lang/String")) (by decide)
  have F_role_b3 : Fld Z h3 b3 "com/example/flowmason/flowmason/engine/Task" "role" "Ljava/lang/String;" .null := D3 (Or.inr (hw _ (List.mem_of_getElem? (i := 45) rfl))) (ty := (.object "java/lang/String")) (by decide)
  have F_state_b3 : Fld Z h3 b3 "com/example/flowmason/flowmason/engine/Task" "state" "Lcom/example/flowmason/flowmason/engine/Task$State;" .null := D3 (Or.inr (hw _ (List.mem_of_getElem? (i := 47) rfl))) (ty := (.object "com/example/flowmason/flowmason/engine/Task$State")) (by decide)
  have F_assignee_b3 : Fld Z h3 b3 "com/example/flowmason/flowmason/engine/Task" "assignee" "Ljava/lang/String;" .null := D3 (Or.inr (hw _ (List.mem_of_getElem? (i := 49) rfl))) (ty := (.object "java/lang/String")) (by decide)
  have E_b3 := A3
  have g_b3 : n0 ≤ b3 := Nat.le_trans Z0 (Nat.le_of_eq g3.symm)
  have sz_b3 : h0.size ≤ b3 := (Nat.le_trans (Keep.refl h0 []).1 (Nat.le_of_eq g3.symm))
  have K3 : Keep h0 h3 [] := (Keep.refl h0 []).ext E3
  obtain ⟨T5, X5, e5, st5⟩ := getF X3 hx hZ hown (host := "") (Or.inl (hw _ (List.mem_of_getElem? (i := 36) rfl))) Via.refl e3 (F_id_a1.ext E3) (g := (mkF m 5 #[.val (.ref a1), .val a2] [(.ref a1), (.ref b3), (.ref b3)])) rfl rfl (hb hby d7_5)
  obtain ⟨T7, X7, e7, st7⟩ := getF X5 hx hZ hown (host := "") (Or.inl (hw _ (List.mem_of_getElem? (i := 38) rfl))) Via.refl e5 (F_name_a1.ext E3) (g := (mkF m 9 #[.val (.ref a1), .val a2] [(.ref a1), w4, (.ref b3), (.ref b3)])) rfl rfl (hb hby d7_9)
  obtain ⟨T9, X9, e9, st9⟩ := getF X7 hx hZ hown (host := "") (Or.inl (hw _ (List.mem_of_getElem? (i := 40) rfl))) Via.refl e7 (F_elementId_a1.ext E3) (g := (mkF m 13 #[.val (.ref a1), .val a2] [(.ref a1), w6, w4, (.ref b3), (.ref b3)])) rfl rfl (hb hby d7_13)
  obtain ⟨T11, X11, e11, st11⟩ := getF X9 hx hZ hown (host := "") (Or.inl (hw _ (List.mem_of_getElem? (i := 42) rfl))) Via.refl e9 (F_instanceId_a1.ext E3) (g := (mkF m 17 #[.val (.ref a1), .val a2] [(.ref a1), w8, w6, w4, (.ref b3), (.ref b3)])) rfl rfl (hb hby d7_17)
  obtain ⟨T13, X13, e13, st13⟩ := getF X11 hx hZ hown (host := "") (Or.inl (hw _ (List.mem_of_getElem? (i := 44) rfl))) Via.refl e11 (F_role_a1.ext E3) (g := (mkF m 21 #[.val (.ref a1), .val a2] [(.ref a1), w10, w8, w6, w4, (.ref b3), (.ref b3)])) rfl rfl (hb hby d7_21)
  obtain ⟨T15, X15, e15, st15⟩ := getS2 X13 hx hZ hown (host := "") (Or.inl (hw _ (List.mem_of_getElem? (i := 62) rfl))) Via.refl e13 (S_RESERVED.ext E3) (g := (mkF m 24 #[.val (.ref a1), .val a2] [w12, w10, w8, w6, w4, (.ref b3), (.ref b3)])) rfl (hb hby d7_24)
  obtain ⟨_, _, ⟨T16, L16, k16, n16⟩, -, X16, ⟨Lc16, hQ16, l16, y16, z16⟩, st16⟩ := X15.specialBack hx (y := (⟨"com/example/flowmason/flowmason/engine/Task", "<init>", "(Ljava/lang/String;Ljava/lang/String;Ljava/lang/String;Ljava/lang/String;Ljava/lang/String;Lcom/example/flowmason/flowmason/engine/Task$State;Ljava/lang/String;)V"⟩ : MethodName)) rfl hown (mvT hZ (hw _ (List.mem_of_getElem? (i := 64) rfl))) (mvT hZ (hw _ (List.mem_of_getElem? (i := 26) rfl))) (mvT hZ (hw _ (List.mem_of_getElem? (i := 27) rfl))) (by decide) (backOf (W := 1) (rm3 l Z a0 hw [] b3 w4 hr_w4 w6 hr_w6 w8 hr_w8 w10 hr_w10 w12 hr_w12 w14 a2 hr_a2 _ _ _ _ _ _ _ h3 n0 (Nat.le_trans Z0 E3.1) E_b3 F_id_b3 g_b3 F_name_b3 F_elementId_b3 F_instanceId_b3 F_role_b3 F_state_b3 F_assignee_b3) hZ (hw _ (List.mem_of_getElem? (i := 27) rfl)) (hw _ (List.mem_of_getElem? (i := 21) rfl)) (by decide) (by decide)) (g := (mkF m 28 #[.val (.ref a1), .val a2] [a2, (.ref w14), w12, w10, w8, w6, w4, (.ref b3), (.ref b3)])) rfl (by rw [hml]; rfl) (Steps.refl _) (a := b3) (argsL := [w4, w6, w8, w10, w12, (.ref w14), a2]) (rest := [(.ref b3)]) (lenOf pd_7_2 rfl) rfl (by show 2 * 0 + _ ≤ _; exact Nat.le_of_eq rfl) (hb hby d7_28) (fun _ _ => ⟨rfl, e15, (by decide : 1 + 0 ≤ _), (by decide : 7 + 0 ≤ _)⟩)
  dsimp only [Pt.U, Pt.locs, Pt.cells, Pt.slots] at X16 l16 y16 z16 st16 hQ16
  subst l16 y16 z16
  obtain ⟨rfl, N16q, K16q, E16q, J1, J2, J3, J4, J5, J6, J7⟩ := hQ16
  have N16 := Fr.app N0 N16q
  obtain ⟨fs, hr, hrun, hended, hW, hsame⟩ := X16.leave (v := some (.ref b3)) (fun h => by rw [Bd.returns] at h; cases h)
  refine ⟨_, _, pre0 _ ?_, hrun, hended, _, _, rfl, ?_, ⟨_, rfl⟩, hW, hsame.mono (by decide) (by decide)⟩
  · show Steps p.tables e below (s₁.setTop (mkF m 0 #[.val (.ref a1), .val a2] [])) _
    refine st3 _ ?_
    show Steps p.tables e below (T3.setTop (mkF m 3 #[.val (.ref a1), .val a2] [(.ref b3)])) _
    refine XS.dup X3.here hx rfl (hb hby d7_3) rfl rfl ?_
    show Steps p.tables e below (T3.setTop (mkF m 4 #[.val (.ref a1), .val a2] [(.ref b3), (.ref b3)])) _
    refine XS.aloadN X3.here hx rfl (hb hby d7_4) rfl rfl ?_
    show Steps p.tables e below (T3.setTop (mkF m 5 #[.val (.ref a1), .val a2] [(.ref a1), (.ref b3), (.ref b3)])) _
    refine st5 _ ?_
    show Steps p.tables e below (T5.setTop (mkF m 8 #[.val (.ref a1), .val a2] [w4, (.ref b3), (.ref b3)])) _
    refine XS.aloadN X5.here hx rfl (hb hby d7_8) rfl rfl ?_
    show Steps p.tables e below (T5.setTop (mkF m 9 #[.val (.ref a1), .val a2] [(.ref a1), w4, (.ref b3), (.ref b3)])) _
    refine st7 _ ?_
    show Steps p.tables e below (T7.setTop (mkF m 12 #[.val (.ref a1), .val a2] [w6, w4, (.ref b3), (.ref b3)])) _
    refine XS.aloadN X7.here hx rfl (hb hby d7_12) rfl rfl ?_
    show Steps p.tables e below (T7.setTop (mkF m 13 #[.val (.ref a1), .val a2] [(.ref a1), w6, w4, (.ref b3), (.ref b3)])) _
    refine st9 _ ?_
    show Steps p.tables e below (T9.setTop (mkF m 16 #[.val (.ref a1), .val a2] [w8, w6, w4, (.ref b3), (.ref b3)])) _
    refine XS.aloadN X9.here hx rfl (hb hby d7_16) rfl rfl ?_
    show Steps p.tables e below (T9.setTop (mkF m 17 #[.val (.ref a1), .val a2] [(.ref a1), w8, w6, w4, (.ref b3), (.ref b3)])) _
    refine st11 _ ?_
    show Steps p.tables e below (T11.setTop (mkF m 20 #[.val (.ref a1), .val a2] [w10, w8, w6, w4, (.ref b3), (.ref b3)])) _
    refine XS.aloadN X11.here hx rfl (hb hby d7_20) rfl rfl ?_
    show Steps p.tables e below (T11.setTop (mkF m 21 #[.val (.ref a1), .val a2] [(.ref a1), w10, w8, w6, w4, (.ref b3), (.ref b3)])) _
    refine st13 _ ?_
    show Steps p.tables e below (T13.setTop (mkF m 24 #[.val (.ref a1), .val a2] [w12, w10, w8, w6, w4, (.ref b3), (.ref b3)])) _
    refine st15 _ ?_
    show Steps p.tables e below (T15.setTop (mkF m 27 #[.val (.ref a1), .val a2] [(.ref w14), w12, w10, w8, w6, w4, (.ref b3), (.ref b3)])) _
    refine XS.aloadN X15.here hx rfl (hb hby d7_27) rfl hr_a2 ?_
    show Steps p.tables e below (T15.setTop (mkF m 28 #[.val (.ref a1), .val a2] [a2, (.ref w14), w12, w10, w8, w6, w4, (.ref b3), (.ref b3)])) _
    refine st16.trans ?_
    show Steps p.tables e below (T16.setTop (mkF m 31 #[.val (.ref a1), .val a2] [(.ref b3)])) _
    jvm_step X16.here [X16.here.top, hx, (hb hby d7_31), X16.method', Bd.returns, Value.isRef, FieldType.isReference]
    first | (intro acts; rw [hr _ acts rfl rfl rfl]) | rw [hr _ _ rfl rfl rfl]
    exact Steps.refl _
  · show QMade Z w14 h0 n0 _ T16.heap _
    subst g3
    exact ⟨rfl, N16, K3.trans K16q (fun y hy => by cases List.mem_singleton.mp hy; exact Or.inr sz_b3), E16q, J6⟩
theorem d8_0 : decode prog_17_method_6_code 0 = .ok (.new 8, 3) := by decide +kernel
theorem d8_3 : decode prog_17_method_6_code 3 = .ok (.dup, 1) := by decide +kernel
theorem d8_4 : decode prog_17_method_6_code 4 = .ok (.aload_n 0, 1) := by decide +kernel
theorem d8_5 : decode prog_17_method_6_code 5 = .ok (.getfield 7, 3) := by decide +kernel
theorem d8_8 : decode prog_17_method_6_code 8 = .ok (.aload_n 0, 1) := by decide +kernel
theorem d8_9 : decode prog_17_method_6_code 9 = .ok (.getfield 13, 3) := by decide +kernel
theorem d8_12 : decode prog_17_method_6_code 12 = .ok (.aload_n 0, 1) := by decide +kernel
theorem d8_13 : decode prog_17_method_6_code 13 = .ok (.getfield 16, 3) := by decide +kernel
theorem d8_16 : decode prog_17_method_6_code 16 = .ok (.aload_n 0, 1) := by decide +kernel
theorem d8_17 : decode prog_17_method_6_code 17 = .ok (.getfield 19, 3) := by decide +kernel
theorem d8_20 : decode prog_17_method_6_code 20 = .ok (.aload_n 0, 1) := by decide +kernel
theorem d8_21 : decode prog_17_method_6_code 21 = .ok (.getfield 22, 3) := by decide +kernel
theorem d8_24 : decode prog_17_method_6_code 24 = .ok (.getstatic 32, 3) := by decide +kernel
theorem d8_27 : decode prog_17_method_6_code 27 = .ok (.aconst_null, 1) := by decide +kernel
theorem d8_28 : decode prog_17_method_6_code 28 = .ok (.invokespecial 50, 3) := by decide +kernel
theorem d8_31 : decode prog_17_method_6_code 31 = .ok (.areturn, 1) := by decide +kernel
theorem pn_8 : plainName "com/example/flowmason/flowmason/engine/Task" = true := by first | (simp [plainName, overriddenIn]; done) | decide +kernel
theorem pd_8_2 : parseMethodDescriptor "(Ljava/lang/String;Ljava/lang/String;Ljava/lang/String;Ljava/lang/String;Ljava/lang/String;Lcom/example/flowmason/flowmason/engine/Task$State;Ljava/lang/String;)V" = some ⟨[(.object "java/lang/String"), (.object "java/lang/String"), (.object "java/lang/String"), (.object "java/lang/String"), (.object "java/lang/String"), (.object "com/example/flowmason/flowmason/engine/Task$State"), (.object "java/lang/String")], none⟩ := by decide +kernel
theorem ef_8 (m : MethodId) (x0 : Addr) : entryFrame m #[(.ref x0)] 1 = mkF m 0 #[.val (.ref x0)] [] := by first | (simp [entryFrame, mkF, argsToLocals, Value.category]; done) | rfl
set_option maxRecDepth 65536 in
set_option maxHeartbeats 40000000 in
theorem rm8 (l : Launch) (Z : State) (a0 : Array Value) (hw : ∀ d ∈ tables_1, d.before a0 Z = true) (ws : List Jvm.Cond) (a1 : Addr) (w3 : Value) (hr_w3 : w3.isRef = true) (w5 : Value) (hr_w5 : w5.isRef = true) (w7 : Value) (hr_w7 : w7.isRef = true) (w9 : Value) (hr_w9 : w9.isRef = true) (w11 : Value) (hr_w11 : w11.isRef = true) (w13 : Addr) (h0 : Heap) (n0 : Nat) (Z0 : n0 ≤ h0.size) (F_id_a1 : Fld Z h0 a1 "com/example/flowmason/flowmason/engine/Task" "id" "Ljava/lang/String;" w3) (F_name_a1 : Fld Z h0 a1 "com/example/flowmason/flowmason/engine/Task" "name" "Ljava/lang/String;" w5) (F_elementId_a1 : Fld Z h0 a1 "com/example/flowmason/flowmason/engine/Task" "elementId" "Ljava/lang/String;" w7) (F_instanceId_a1 : Fld Z h0 a1 "com/example/flowmason/flowmason/engine/Task" "instanceId" "Ljava/lang/String;" w9) (F_role_a1 : Fld Z h0 a1 "com/example/flowmason/flowmason/engine/Task" "role" "Ljava/lang/String;" w11) (S_READY : Sta Z h0 "com/example/flowmason/flowmason/engine/Task$State" "READY" "Lcom/example/flowmason/flowmason/engine/Task$State;" (.ref w13)) :
    MetFree l (⟨"com/example/flowmason/flowmason/engine/Task", "released", "()Lcom/example/flowmason/flowmason/engine/Task;"⟩ : MethodName) (head1 (Jvm.Cond.code (⟨"com/example/flowmason/flowmason/engine/Task", "released", "()Lcom/example/flowmason/flowmason/engine/Task;"⟩ : MethodName) prog_17_method_6_code 1 (some (.object "com/example/flowmason/flowmason/engine/Task")) :: ws) ({ frames := 3, cells := 1, slots := 7, locals := 44 } : Room)) (fun a U => a = #[(.ref a1)] ∧ Z.Warmed39 U.vm ∧ U.heap = h0) (fun _ _ _ _ _ => True) (fun _ U o U' => ∃ v L, o = .returned v ∧ QMade Z w13 h0 n0 v U'.heap L ∧ FrameEnd U o U' L ({ frames := 3, cells := 1, slots := 7, locals := 44 } : Room).cells ({ frames := 3, cells := 1, slots := 7, locals := 44 } : Room).slots) := by
  refine MetFree.of_bodySF (plainFor_of_name pn_8) hisR ?_
  intro p e s m args below meth c s₁ Bd hml0 hP hK
  obtain ⟨rfl, hZ, hh⟩ := hP
  have hx := Bd.exec
  have hby := Bd.bytes
  have hml : c.maxLocals = 1 := hml0
  have hown : s.vm.findClass "com/example/flowmason/flowmason/engine/Task" = some m.cls := findClass_of_methodNamed Bd.named
  have hnm := (name_of_methodNamed Bd.named Bd.method).1
  have X0 : Stand p l e ({ frames := 3, cells := 1, slots := 7, locals := 44 } : Room) s m #[(.ref a1)] below meth c s₁ [] 0 0 := Stand.of_body Bd
  have e0 : s₁.heap = h0 := by rw [← hh, Bd.state]; rfl
  have N0 := Fr.nil n0
  have pre0 : ∀ t, Steps p.tables e below (s₁.setTop (mkF m 0 #[.val (.ref a1)] [])) t → Steps p.tables e below (s₁.setTop (entryFrame m #[(.ref a1)] 1)) t := fun t k => castTop (ef_8 m a1) k
  obtain ⟨T2, h2, X2, e2, E2, A2, D2, -, st2⟩ := newO X0 hx hZ hown (hw _ (List.mem_of_getElem? (i := 61) rfl)) (hw _ (List.mem_of_getElem? (i := 20) rfl)) (hw _ (List.mem_of_getElem? (i := 21) rfl)) e0 (g := (mkF m 0 #[.val (.ref a1)] [])) rfl (hb hby d8_0) (by decide) (by decide)
  obtain ⟨b2, g2⟩ : ∃ z, z = h0.size := ⟨_, rfl⟩
  rw [← g2] at A2 D2 st2
  have F_id_b2 : Fld Z h2 b2 "com/example/flowmason/flowmason/engine/Task" "id" "Ljava/lang/String;" .null := D2 (Or.inr (hw _ (List.mem_of_getElem? (i := 37) rfl))) (ty := (.object "java/lang/String")) (by decide)
  have F_name_b2 : Fld Z h2 b2 "com/example/flowmason/flowmason/engine/Task" "name" "Ljava/lang/String;" .null := D2 (Or.inr (hw _ (List.mem_of_getElem? (i := 39) rfl))) (ty := (.object "java/lang/String")) (by decide)
  have F_elementId_b2 : Fld Z h2 b2 "com/example/flowmason/flowmason/engine/Task" "elementId" "Ljava/lang/String;" .null := D2 (Or.inr (hw _ (List.mem_of_getElem? (i := 41) rfl))) (ty := (.object "java/lang/String")) (by decide)
  have F_instanceId_b2 : Fld Z h2 b2 "com/example/flowmason/flowmason/engine/Task" "instanceId" "Ljava/lang/String;" .null := D2 (Or.inr (hw _ (List.mem_of_getElem? (i := 43) rfl))) (ty := (.object "java/lang/String")) (by decide)
  have F_role_b2 : Fld Z h2 b2 "com/example/flowmason/flowmason/engine/Task" "role" "Ljava/lang/String;" .null := D2 (Or.inr (hw _ (List.mem_of_getElem? (i := 45) rfl))) (ty := (.object "java/lang/String")) (by decide)
  have F_state_b2 : Fld Z h2 b2 "com/example/flowmason/flowmason/engine/Task" "state" "Lcom/example/flowmason/flowmason/engine/Task$State;" .null := D2 (Or.inr (hw _ (List.mem_of_getElem? (i := 47) rfl))) (ty := (.object "com/example/flowmason/flowmason/engine/Task$State")) (by decide)
  have F_assignee_b2 : Fld Z h2 b2 "com/example/flowmason/flowmason/engine/Task" "assignee" "Ljava/lang/String;" .null := D2 (Or.inr (hw _ (List.mem_of_getElem? (i := 49) rfl))) (ty := (.object "java/lang/String")) (by decide)
  have E_b2 := A2
  have g_b2 : n0 ≤ b2 := Nat.le_trans Z0 (Nat.le_of_eq g2.symm)
  have sz_b2 : h0.size ≤ b2 := (Nat.le_trans (Keep.refl h0 []).1 (Nat.le_of_eq g2.symm))
  have K2 : Keep h0 h2 [] := (Keep.refl h0 []).ext E2
  obtain ⟨T4, X4, e4, st4⟩ := getF X2 hx hZ hown (host := "") (Or.inl (hw _ (List.mem_of_getElem? (i := 36) rfl))) Via.refl e2 (F_id_a1.ext E2) (g := (mkF m 5 #[.val (.ref a1)] [(.ref a1), (.ref b2), (.ref b2)])) rfl rfl (hb hby d8_5)
  obtain ⟨T6, X6, e6, st6⟩ := getF X4 hx hZ hown (host := "") (Or.inl (hw _ (List.mem_of_getElem? (i := 38) rfl))) Via.refl e4 (F_name_a1.ext E2) (g := (mkF m 9 #[.val (.ref a1)] [(.ref a1), w3, (.ref b2), (.ref b2)])) rfl rfl (hb hby d8_9)
  obtain ⟨T8, X8, e8, st8⟩ := getF X6 hx hZ hown (host := "") (Or.inl (hw _ (List.mem_of_getElem? (i := 40) rfl))) Via.refl e6 (F_elementId_a1.ext E2) (g := (mkF m 13 #[.val (.ref a1)] [(.ref a1), w5, w3, (.ref b2), (.ref b2)])) rfl rfl (hb hby d8_13)
  obtain ⟨T10, X10, e10, st10⟩ := getF X8 hx hZ hown (host := "") (Or.inl (hw _ (List.mem_of_getElem? (i := 42) rfl))) Via.refl e8 (F_instanceId_a1.ext E2) (g := (mkF m 17 #[.val (.ref a1)] [(.ref a1), w7, w5, w3, (.ref b2), (.ref b2)])) rfl rfl (hb hby d8_17)
  obtain ⟨T12, X12, e12, st12⟩ := getF X10 hx hZ hown (host := "") (Or.inl (hw _ (List.mem_of_getElem? (i := 44) rfl))) Via.refl e10 (F_role_a1.ext E2) (g := (mkF m 21 #[.val (.ref a1)] [(.ref a1), w9, w7, w5, w3, (.ref b2), (.ref b2)])) rfl rfl (hb hby d8_21)
  obtain ⟨T14, X14, e14, st14⟩ := getS2 X12 hx hZ hown (host := "") (Or.inl (hw _ (List.mem_of_getElem? (i := 55) rfl))) Via.refl e12 (S_READY.ext E2) (g := (mkF m 24 #[.val (.ref a1)] [w11, w9, w7, w5, w3, (.ref b2), (.ref b2)])) rfl (hb hby d8_24)
  obtain ⟨_, _, ⟨T15, L15, k15, n15⟩, -, X15, ⟨Lc15, hQ15, l15, y15, z15⟩, st15⟩ := X14.specialBack hx (y := (⟨"com/example/flowmason/flowmason/engine/Task", "<init>", "(Ljava/lang/String;Ljava/lang/String;Ljava/lang/String;Ljava/lang/String;Ljava/lang/String;Lcom/example/flowmason/flowmason/engine/Task$State;Ljava/lang/String;)V"⟩ : MethodName)) rfl hown (mvT hZ (hw _ (List.mem_of_getElem? (i := 64) rfl))) (mvT hZ (hw _ (List.mem_of_getElem? (i := 26) rfl))) (mvT hZ (hw _ (List.mem_of_getElem? (i := 27) rfl))) (by decide) (backOf (W := 1) (rm3 l Z a0 hw [] b2 w3 hr_w3 w5 hr_w5 w7 hr_w7 w9 hr_w9 w11 hr_w11 w13 .null rfl _ _ _ _ _ _ _ h2 n0 (Nat.le_trans Z0 E2.1) E_b2 F_id_b2 g_b2 F_name_b2 F_elementId_b2 F_instanceId_b2 F_role_b2 F_state_b2 F_assignee_b2) hZ (hw _ (List.mem_of_getElem? (i := 27) rfl)) (hw _ (List.mem_of_getElem? (i := 21) rfl)) (by decide) (by decide)) (g := (mkF m 28 #[.val (.ref a1)] [.null, (.ref w13), w11, w9, w7, w5, w3, (.ref b2), (.ref b2)])) rfl (by rw [hml]; rfl) (Steps.refl _) (a := b2) (argsL := [w3, w5, w7, w9, w11, (.ref w13), .null]) (rest := [(.ref b2)]) (lenOf pd_8_2 rfl) rfl (by show 2 * 0 + _ ≤ _; exact Nat.le_of_eq rfl) (hb hby d8_28) (fun _ _ => ⟨rfl, e14, (by decide : 1 + 0 ≤ _), (by decide : 7 + 0 ≤ _)⟩)
  dsimp only [Pt.U, Pt.locs, Pt.cells, Pt.slots] at X15 l15 y15 z15 st15 hQ15
  subst l15 y15 z15
  obtain ⟨rfl, N15q, K15q, E15q, J1, J2, J3, J4, J5, J6, J7⟩ := hQ15
  have N15 := Fr.app N0 N15q
  obtain ⟨fs, hr, hrun, hended, hW, hsame⟩ := X15.leave (v := some (.ref b2)) (fun h => by rw [Bd.returns] at h; cases h)
  refine ⟨_, _, pre0 _ ?_, hrun, hended, _, _, rfl, ?_, ⟨_, rfl⟩, hW, hsame.mono (by decide) (by decide)⟩
  · show Steps p.tables e below (s₁.setTop (mkF m 0 #[.val (.ref a1)] [])) _
    refine st2 _ ?_
    show Steps p.tables e below (T2.setTop (mkF m 3 #[.val (.ref a1)] [(.ref b2)])) _
    refine XS.dup X2.here hx rfl (hb hby d8_3) rfl rfl ?_
    show Steps p.tables e below (T2.setTop (mkF m 4 #[.val (.ref a1)] [(.ref b2), (.ref b2)])) _
    refine XS.aloadN X2.here hx rfl (hb hby d8_4) rfl rfl ?_
    show Steps p.tables e below (T2.setTop (mkF m 5 #[.val (.ref a1)] [(.ref a1), (.ref b2), (.ref b2)])) _
    refine st4 _ ?_
    show Steps p.tables e below (T4.setTop (mkF m 8 #[.val (.ref a1)] [w3, (.ref b2), (.ref b2)])) _
    refine XS.aloadN X4.here hx rfl (hb hby d8_8) rfl rfl ?_
    show Steps p.tables e below (T4.setTop (mkF m 9 #[.val (.ref a1)] [(.ref a1), w3, (.ref b2), (.ref b2)])) _
    refine st6 _ ?_
    show Steps p.tables e below (T6.setTop (mkF m 12 #[.val (.ref a1)] [w5, w3, (.ref b2), (.ref b2)])) _
    refine XS.aloadN X6.here hx rfl (hb hby d8_12) rfl rfl ?_
    show Steps p.tables e below (T6.setTop (mkF m 13 #[.val (.ref a1)] [(.ref a1), w5, w3, (.ref b2), (.ref b2)])) _
    refine st8 _ ?_
    show Steps p.tables e below (T8.setTop (mkF m 16 #[.val (.ref a1)] [w7, w5, w3, (.ref b2), (.ref b2)])) _
    refine XS.aloadN X8.here hx rfl (hb hby d8_16) rfl rfl ?_
    show Steps p.tables e below (T8.setTop (mkF m 17 #[.val (.ref a1)] [(.ref a1), w7, w5, w3, (.ref b2), (.ref b2)])) _
    refine st10 _ ?_
    show Steps p.tables e below (T10.setTop (mkF m 20 #[.val (.ref a1)] [w9, w7, w5, w3, (.ref b2), (.ref b2)])) _
    refine XS.aloadN X10.here hx rfl (hb hby d8_20) rfl rfl ?_
    show Steps p.tables e below (T10.setTop (mkF m 21 #[.val (.ref a1)] [(.ref a1), w9, w7, w5, w3, (.ref b2), (.ref b2)])) _
    refine st12 _ ?_
    show Steps p.tables e below (T12.setTop (mkF m 24 #[.val (.ref a1)] [w11, w9, w7, w5, w3, (.ref b2), (.ref b2)])) _
    refine st14 _ ?_
    show Steps p.tables e below (T14.setTop (mkF m 27 #[.val (.ref a1)] [(.ref w13), w11, w9, w7, w5, w3, (.ref b2), (.ref b2)])) _
    refine XS.aconstNull X14.here hx rfl (hb hby d8_27) ?_
    show Steps p.tables e below (T14.setTop (mkF m 28 #[.val (.ref a1)] [.null, (.ref w13), w11, w9, w7, w5, w3, (.ref b2), (.ref b2)])) _
    refine st15.trans ?_
    show Steps p.tables e below (T15.setTop (mkF m 31 #[.val (.ref a1)] [(.ref b2)])) _
    jvm_step X15.here [X15.here.top, hx, (hb hby d8_31), X15.method', Bd.returns, Value.isRef, FieldType.isReference]
    first | (intro acts; rw [hr _ acts rfl rfl rfl]) | rw [hr _ _ rfl rfl rfl]
    exact Steps.refl _
  · show QMade Z w13 h0 n0 _ T15.heap _
    subst g2
    exact ⟨rfl, N15, K2.trans K15q (fun y hy => by cases List.mem_singleton.mp hy; exact Or.inr sz_b2), E15q, J6⟩
theorem d9_0 : decode prog_17_method_7_code 0 = .ok (.new 8, 3) := by decide +kernel
theorem d9_3 : decode prog_17_method_7_code 3 = .ok (.dup, 1) := by decide +kernel
theorem d9_4 : decode prog_17_method_7_code 4 = .ok (.aload_n 0, 1) := by decide +kernel
theorem d9_5 : decode prog_17_method_7_code 5 = .ok (.getfield 7, 3) := by decide +kernel
theorem d9_8 : decode prog_17_method_7_code 8 = .ok (.aload_n 0, 1) := by decide +kernel
theorem d9_9 : decode prog_17_method_7_code 9 = .ok (.getfield 13, 3) := by decide +kernel
theorem d9_12 : decode prog_17_method_7_code 12 = .ok (.aload_n 0, 1) := by decide +kernel
theorem d9_13 : decode prog_17_method_7_code 13 = .ok (.getfield 16, 3) := by decide +kernel
theorem d9_16 : decode prog_17_method_7_code 16 = .ok (.aload_n 0, 1) := by decide +kernel
theorem d9_17 : decode prog_17_method_7_code 17 = .ok (.getfield 19, 3) := by decide +kernel
theorem d9_20 : decode prog_17_method_7_code 20 = .ok (.aload_n 0, 1) := by decide +kernel
theorem d9_21 : decode prog_17_method_7_code 21 = .ok (.getfield 22, 3) := by decide +kernel
theorem d9_24 : decode prog_17_method_7_code 24 = .ok (.getstatic 53, 3) := by decide +kernel
theorem d9_27 : decode prog_17_method_7_code 27 = .ok (.aload_n 1, 1) := by decide +kernel
theorem d9_28 : decode prog_17_method_7_code 28 = .ok (.invokespecial 50, 3) := by decide +kernel
theorem d9_31 : decode prog_17_method_7_code 31 = .ok (.areturn, 1) := by decide +kernel
theorem pn_9 : plainName "com/example/flowmason/flowmason/engine/Task" = true := by first | (simp [plainName, overriddenIn]; done) | decide +kernel
theorem pd_9_2 : parseMethodDescriptor "(Ljava/lang/String;Ljava/lang/String;Ljava/lang/String;Ljava/lang/String;Ljava/lang/String;Lcom/example/flowmason/flowmason/engine/Task$State;Ljava/lang/String;)V" = some ⟨[(.object "java/lang/String"), (.object "java/lang/String"), (.object "java/lang/String"), (.object "java/lang/String"), (.object "java/lang/String"), (.object "com/example/flowmason/flowmason/engine/Task$State"), (.object "java/lang/String")], none⟩ := by decide +kernel
theorem ef_9 (m : MethodId) (x0 : Addr) (x1 : Value) (k1 : x1.isRef = true) : entryFrame m #[(.ref x0), x1] 2 = mkF m 0 #[.val (.ref x0), .val x1] [] := by simp [entryFrame, mkF, argsToLocals, own_catR, own_cat k1]
set_option maxRecDepth 65536 in
set_option maxHeartbeats 40000000 in
theorem rm9 (l : Launch) (Z : State) (a0 : Array Value) (hw : ∀ d ∈ tables_1, d.before a0 Z = true) (ws : List Jvm.Cond) (a1 : Addr) (a2 : Value) (hr_a2 : a2.isRef = true) (w4 : Value) (hr_w4 : w4.isRef = true) (w6 : Value) (hr_w6 : w6.isRef = true) (w8 : Value) (hr_w8 : w8.isRef = true) (w10 : Value) (hr_w10 : w10.isRef = true) (w12 : Value) (hr_w12 : w12.isRef = true) (w14 : Addr) (h0 : Heap) (n0 : Nat) (Z0 : n0 ≤ h0.size) (F_id_a1 : Fld Z h0 a1 "com/example/flowmason/flowmason/engine/Task" "id" "Ljava/lang/String;" w4) (F_name_a1 : Fld Z h0 a1 "com/example/flowmason/flowmason/engine/Task" "name" "Ljava/lang/String;" w6) (F_elementId_a1 : Fld Z h0 a1 "com/example/flowmason/flowmason/engine/Task" "elementId" "Ljava/lang/String;" w8) (F_instanceId_a1 : Fld Z h0 a1 "com/example/flowmason/flowmason/engine/Task" "instanceId" "Ljava/lang/String;" w10) (F_role_a1 : Fld Z h0 a1 "com/example/flowmason/flowmason/engine/Task" "role" "Ljava/lang/String;" w12) (S_COMPLETED : Sta Z h0 "com/example/flowmason/flowmason/engine/Task$State" "COMPLETED" "Lcom/example/flowmason/flowmason/engine/Task$State;" (.ref w14)) :
    MetFree l (⟨"com/example/flowmason/flowmason/engine/Task", "completedBy", "(Ljava/lang/String;)Lcom/example/flowmason/flowmason/engine/Task;"⟩ : MethodName) (head1 (Jvm.Cond.code (⟨"com/example/flowmason/flowmason/engine/Task", "completedBy", "(Ljava/lang/String;)Lcom/example/flowmason/flowmason/engine/Task;"⟩ : MethodName) prog_17_method_7_code 2 (some (.object "com/example/flowmason/flowmason/engine/Task")) :: ws) ({ frames := 3, cells := 1, slots := 7, locals := 44 } : Room)) (fun a U => a = #[(.ref a1), a2] ∧ Z.Warmed39 U.vm ∧ U.heap = h0) (fun _ _ _ _ _ => True) (fun _ U o U' => ∃ v L, o = .returned v ∧ QMade Z w14 h0 n0 v U'.heap L ∧ FrameEnd U o U' L ({ frames := 3, cells := 1, slots := 7, locals := 44 } : Room).cells ({ frames := 3, cells := 1, slots := 7, locals := 44 } : Room).slots) := by
  refine MetFree.of_bodySF (plainFor_of_name pn_9) hisR ?_
  intro p e s m args below meth c s₁ Bd hml0 hP hK
  obtain ⟨rfl, hZ, hh⟩ := hP
  have hx := Bd.exec
  have hby := Bd.bytes
  have hml : c.maxLocals = 2 := hml0
  have hown : s.vm.findClass "com/example/flowmason/flowmason/engine/Task" = some m.cls := findClass_of_methodNamed Bd.named
  have hnm := (name_of_methodNamed Bd.named Bd.method).1
  have X0 : Stand p l e ({ frames := 3, cells := 1, slots := 7, locals := 44 } : Room) s m #[(.ref a1), a2] below meth c s₁ [] 0 0 := Stand.of_body Bd
  have e0 : s₁.heap = h0 := by rw [← hh, Bd.state]; rfl
  have N0 := Fr.nil n0
  have pre0 : ∀ t, Steps p.tables e below (s₁.setTop (mkF m 0 #[.val (.ref a1), .val a2] [])) t → Steps p.tables e below (s₁.setTop (entryFrame m #[(.ref a1), a2] 2)) t := fun t k => castTop (ef_9 m a1 a2 hr_a2) k
  obtain ⟨T3, h3, X3, e3, E3, A3, D3, -, st3⟩ := newO X0 hx hZ hown (hw _ (List.mem_of_getElem? (i := 61) rfl)) (hw _ (List.mem_of_getElem? (i := 20) rfl)) (hw _ (List.mem_of_getElem? (i := 21) rfl)) e0 (g := (mkF m 0 #[.val (.ref a1), .val a2] [])) rfl (hb hby d9_0) (by decide) (by decide)
  obtain ⟨b3, g3⟩ : ∃ z, z = h0.size := ⟨_, rfl⟩
  rw [← g3] at A3 D3 st3
  have F_id_b3 : Fld Z h3 b3 "com/example/flowmason/flowmason/engine/Task" "id" "Ljava/lang/String;" .null := D3 (Or.inr (hw _ (List.mem_of_getElem? (i := 37) rfl))) (ty := (.object "java/lang/String")) (by decide)
  have F_name_b3 : Fld Z h3 b3 "com/example/flowmason/flowmason/engine/Task" "name" "Ljava/lang/String;" .null := D3 (Or.inr (hw _ (List.mem_of_getElem? (i := 39) rfl))) (ty := (.object "java/lang/String")) (by decide)
  have F_elementId_b3 : Fld Z h3 b3 "com/example/flowmason/flowmason/engine/Task" "elementId" "Ljava/lang/String;" .null := D3 (Or.inr (hw _ (List.mem_of_getElem? (i := 41) rfl))) (ty := (.object "java/lang/String")) (by decide)
  have F_instanceId_b3 : Fld Z h3 b3 "com/example/flowmason/flowmason/engine/Task" "instanceId" "Ljava/lang/String;" .null := D3 (Or.inr (hw _ (List.mem_of_getElem? (i := 43) rfl))) (ty := (.object "java/lang/String")) (by decide)
  have F_role_b3 : Fld Z h3 b3 "com/example/flowmason/flowmason/engine/Task" "role" "Ljava/lang/String;" .null := D3 (Or.inr (hw _ (List.mem_of_getElem? (i := 45) rfl))) (ty := (.object "java/lang/String")) (by decide)
  have F_state_b3 : Fld Z h3 b3 "com/example/flowmason/flowmason/engine/Task" "state" "Lcom/example/flowmason/flowmason/engine/Task$State;" .null := D3 (Or.inr (hw _ (List.mem_of_getElem? (i := 47) rfl))) (ty := (.object "com/example/flowmason/flowmason/engine/Task$State")) (by decide)
  have F_assignee_b3 : Fld Z h3 b3 "com/example/flowmason/flowmason/engine/Task" "assignee" "Ljava/lang/String;" .null := D3 (Or.inr (hw _ (List.mem_of_getElem? (i := 49) rfl))) (ty := (.object "java/lang/String")) (by decide)
  have E_b3 := A3
  have g_b3 : n0 ≤ b3 := Nat.le_trans Z0 (Nat.le_of_eq g3.symm)
  have sz_b3 : h0.size ≤ b3 := (Nat.le_trans (Keep.refl h0 []).1 (Nat.le_of_eq g3.symm))
  have K3 : Keep h0 h3 [] := (Keep.refl h0 []).ext E3
  obtain ⟨T5, X5, e5, st5⟩ := getF X3 hx hZ hown (host := "") (Or.inl (hw _ (List.mem_of_getElem? (i := 36) rfl))) Via.refl e3 (F_id_a1.ext E3) (g := (mkF m 5 #[.val (.ref a1), .val a2] [(.ref a1), (.ref b3), (.ref b3)])) rfl rfl (hb hby d9_5)
  obtain ⟨T7, X7, e7, st7⟩ := getF X5 hx hZ hown (host := "") (Or.inl (hw _ (List.mem_of_getElem? (i := 38) rfl))) Via.refl e5 (F_name_a1.ext E3) (g := (mkF m 9 #[.val (.ref a1), .val a2] [(.ref a1), w4, (.ref b3), (.ref b3)])) rfl rfl (hb hby d9_9)
  obtain ⟨T9, X9, e9, st9⟩ := getF X7 hx hZ hown (host := "") (Or.inl (hw _ (List.mem_of_getElem? (i := 40) rfl))) Via.refl e7 (F_elementId_a1.ext E3) (g := (mkF m 13 #[.val (.ref a1), .val a2] [(.ref a1), w6, w4, (.ref b3), (.ref b3)])) rfl rfl (hb hby d9_13)
  obtain ⟨T11, X11, e11, st11⟩ := getF X9 hx hZ hown (host := "") (Or.inl (hw _ (List.mem_of_getElem? (i := 42) rfl))) Via.refl e9 (F_instanceId_a1.ext E3) (g := (mkF m 17 #[.val (.ref a1), .val a2] [(.ref a1), w8, w6, w4, (.ref b3), (.ref b3)])) rfl rfl (hb hby d9_17)
  obtain ⟨T13, X13, e13, st13⟩ := getF X11 hx hZ hown (host := "") (Or.inl (hw _ (List.mem_of_getElem? (i := 44) rfl))) Via.refl e11 (F_role_a1.ext E3) (g := (mkF m 21 #[.val (.ref a1), .val a2] [(.ref a1), w10, w8, w6, w4, (.ref b3), (.ref b3)])) rfl rfl (hb hby d9_21)
  obtain ⟨T15, X15, e15, st15⟩ := getS2 X13 hx hZ hown (host := "") (Or.inl (hw _ (List.mem_of_getElem? (i := 75) rfl))) Via.refl e13 (S_COMPLETED.ext E3) (g := (mkF m 24 #[.val (.ref a1), .val a2] [w12, w10, w8, w6, w4, (.ref b3), (.ref b3)])) rfl (hb hby d9_24)
  obtain ⟨_, _, ⟨T16, L16, k16, n16⟩, -, X16, ⟨Lc16, hQ16, l16, y16, z16⟩, st16⟩ := X15.specialBack hx (y := (⟨"com/example/flowmason/flowmason/engine/Task", "<init>", "(Ljava/lang/String;Ljava/lang/String;Ljava/lang/String;Ljava/lang/String;Ljava/lang/String;Lcom/example/flowmason/flowmason/engine/Task$State;Ljava/lang/String;)V"⟩ : MethodName)) rfl hown (mvT hZ (hw _ (List.mem_of_getElem? (i := 64) rfl))) (mvT hZ (hw _ (List.mem_of_getElem? (i := 26) rfl))) (mvT hZ (hw _ (List.mem_of_getElem? (i := 27) rfl))) (by decide) (backOf (W := 1) (rm3 l Z a0 hw [] b3 w4 hr_w4 w6 hr_w6 w8 hr_w8 w10 hr_w10 w12 hr_w12 w14 a2 hr_a2 _ _ _ _ _ _ _ h3 n0 (Nat.le_trans Z0 E3.1) E_b3 F_id_b3 g_b3 F_name_b3 F_elementId_b3 F_instanceId_b3 F_role_b3 F_state_b3 F_assignee_b3) hZ (hw _ (List.mem_of_getElem? (i := 27) rfl)) (hw _ (List.mem_of_getElem? (i := 21) rfl)) (by decide) (by decide)) (g := (mkF m 28 #[.val (.ref a1), .val a2] [a2, (.ref w14), w12, w10, w8, w6, w4, (.ref b3), (.ref b3)])) rfl (by rw [hml]; rfl) (Steps.refl _) (a := b3) (argsL := [w4, w6, w8, w10, w12, (.ref w14), a2]) (rest := [(.ref b3)]) (lenOf pd_9_2 rfl) rfl (by show 2 * 0 + _ ≤ _; exact Nat.le_of_eq rfl) (hb hby d9_28) (fun _ _ => ⟨rfl, e15, (by decide : 1 + 0 ≤ _), (by decide : 7 + 0 ≤ _)⟩)
  dsimp only [Pt.U, Pt.locs, Pt.cells, Pt.slots] at X16 l16 y16 z16 st16 hQ16
  subst l16 y16 z16
  obtain ⟨rfl, N16q, K16q, E16q, J1, J2, J3, J4, J5, J6, J7⟩ := hQ16
  have N16 := Fr.app N0 N16q
  obtain ⟨fs, hr, hrun, hended, hW, hsame⟩ := X16.leave (v := some (.ref b3)) (fun h => by rw [Bd.returns] at h; cases h)
  refine ⟨_, _, pre0 _ ?_, hrun, hended, _, _, rfl, ?_, ⟨_, rfl⟩, hW, hsame.mono (by decide) (by decide)⟩
  · show Steps p.tables e below (s₁.setTop (mkF m 0 #[.val (.ref a1), .val a2] [])) _
    refine st3 _ ?_
    show Steps p.tables e below (T3.setTop (mkF m 3 #[.val (.ref a1), .val a2] [(.ref b3)])) _
    refine XS.dup X3.here hx rfl (hb hby d9_3) rfl rfl ?_
    show Steps p.tables e below (T3.setTop (mkF m 4 #[.val (.ref a1), .val a2] [(.ref b3), (.ref b3)])) _
    refine XS.aloadN X3.here hx rfl (hb hby d9_4) rfl rfl ?_
    show Steps p.tables e below (T3.setTop (mkF m 5 #[.val (.ref a1), .val a2] [(.ref a1), (.ref b3), (.ref b3)])) _
    refine st5 _ ?_
    show Steps p.tables e below (T5.setTop (mkF m 8 #[.val (.ref a1), .val a2] [w4, (.ref b3), (.ref b3)])) _
    refine XS.aloadN X5.here hx rfl (hb hby d9_8) rfl rfl ?_
    show Steps p.tables e below (T5.setTop (mkF m 9 #[.val (.ref a1), .val a2] [(.ref a1), w4, (.ref b3), (.ref b3)])) _
    refine st7 _ ?_
    show Steps p.tables e below (T7.setTop (mkF m 12 #[.val (.ref a1), .val a2] [w6, w4, (.ref b3), (.ref b3)])) _
    refine XS.aloadN X7.here hx rfl (hb hby d9_12) rfl rfl ?_
    show Steps p.tables e below (T7.setTop (mkF m 13 #[.val (.ref a1), .val a2] [(.ref a1), w6, w4, (.ref b3), (.ref b3)])) _
    refine st9 _ ?_
    show Steps p.tables e below (T9.setTop (mkF m 16 #[.val (.ref a1), .val a2] [w8, w6, w4, (.ref b3), (.ref b3)])) _
    refine XS.aloadN X9.here hx rfl (hb hby d9_16) rfl rfl ?_
    show Steps p.tables e below (T9.setTop (mkF m 17 #[.val (.ref a1), .val a2] [(.ref a1), w8, w6, w4, (.ref b3), (.ref b3)])) _
    refine st11 _ ?_
    show Steps p.tables e below (T11.setTop (mkF m 20 #[.val (.ref a1), .val a2] [w10, w8, w6, w4, (.ref b3), (.ref b3)])) _
    refine XS.aloadN X11.here hx rfl (hb hby d9_20) rfl rfl ?_
    show Steps p.tables e below (T11.setTop (mkF m 21 #[.val (.ref a1), .val a2] [(.ref a1), w10, w8, w6, w4, (.ref b3), (.ref b3)])) _
    refine st13 _ ?_
    show Steps p.tables e below (T13.setTop (mkF m 24 #[.val (.ref a1), .val a2] [w12, w10, w8, w6, w4, (.ref b3), (.ref b3)])) _
    refine st15 _ ?_
    show Steps p.tables e below (T15.setTop (mkF m 27 #[.val (.ref a1), .val a2] [(.ref w14), w12, w10, w8, w6, w4, (.ref b3), (.ref b3)])) _
    refine XS.aloadN X15.here hx rfl (hb hby d9_27) rfl hr_a2 ?_
    show Steps p.tables e below (T15.setTop (mkF m 28 #[.val (.ref a1), .val a2] [a2, (.ref w14), w12, w10, w8, w6, w4, (.ref b3), (.ref b3)])) _
    refine st16.trans ?_
    show Steps p.tables e below (T16.setTop (mkF m 31 #[.val (.ref a1), .val a2] [(.ref b3)])) _
    jvm_step X16.here [X16.here.top, hx, (hb hby d9_31), X16.method', Bd.returns, Value.isRef, FieldType.isReference]
    first | (intro acts; rw [hr _ acts rfl rfl rfl]) | rw [hr _ _ rfl rfl rfl]
    exact Steps.refl _
  · show QMade Z w14 h0 n0 _ T16.heap _
    subst g3
    exact ⟨rfl, N16, K3.trans K16q (fun y hy => by cases List.mem_singleton.mp hy; exact Or.inr sz_b3), E16q, J6⟩
theorem d10_0 : decode prog_17_method_8_code 0 = .ok (.new 8, 3) := by decide +kernel
theorem d10_3 : decode prog_17_method_8_code 3 = .ok (.dup, 1) := by decide +kernel
theorem d10_4 : decode prog_17_method_8_code 4 = .ok (.aload_n 0, 1) := by decide +kernel
theorem d10_5 : decode prog_17_method_8_code 5 = .ok (.getfield 7, 3) := by decide +kernel
theorem d10_8 : decode prog_17_method_8_code 8 = .ok (.aload_n 0, 1) := by decide +kernel
theorem d10_9 : decode prog_17_method_8_code 9 = .ok (.getfield 13, 3) := by decide +kernel
theorem d10_12 : decode prog_17_method_8_code 12 = .ok (.aload_n 0, 1) := by decide +kernel
theorem d10_13 : decode prog_17_method_8_code 13 = .ok (.getfield 16, 3) := by decide +kernel
theorem d10_16 : decode prog_17_method_8_code 16 = .ok (.aload_n 0, 1) := by decide +kernel
theorem d10_17 : decode prog_17_method_8_code 17 = .ok (.getfield 19, 3) := by decide +kernel
theorem d10_20 : decode prog_17_method_8_code 20 = .ok (.aload_n 0, 1) := by decide +kernel
theorem d10_21 : decode prog_17_method_8_code 21 = .ok (.getfield 22, 3) := by decide +kernel
theorem d10_24 : decode prog_17_method_8_code 24 = .ok (.getstatic 56, 3) := by decide +kernel
theorem d10_27 : decode prog_17_method_8_code 27 = .ok (.aload_n 0, 1) := by decide +kernel
theorem d10_28 : decode prog_17_method_8_code 28 = .ok (.getfield 29, 3) := by decide +kernel
theorem d10_31 : decode prog_17_method_8_code 31 = .ok (.invokespecial 50, 3) := by decide +kernel
theorem d10_34 : decode prog_17_method_8_code 34 = .ok (.areturn, 1) := by decide +kernel
theorem pn_10 : plainName "com/example/flowmason/flowmason/engine/Task" = true := by first | (simp [plainName, overriddenIn]; done) | decide +kernel
theorem pd_10_2 : parseMethodDescriptor "(Ljava/lang/String;Ljava/lang/String;Ljava/lang/String;Ljava/lang/String;Ljava/lang/String;Lcom/example/flowmason/flowmason/engine/Task$State;Ljava/lang/String;)V" = some ⟨[(.object "java/lang/String"), (.object "java/lang/String"), (.object "java/lang/String"), (.object "java/lang/String"), (.object "java/lang/String"), (.object "com/example/flowmason/flowmason/engine/Task$State"), (.object "java/lang/String")], none⟩ := by decide +kernel
theorem ef_10 (m : MethodId) (x0 : Addr) : entryFrame m #[(.ref x0)] 1 = mkF m 0 #[.val (.ref x0)] [] := by first | (simp [entryFrame, mkF, argsToLocals, Value.category]; done) | rfl
set_option maxRecDepth 65536 in
set_option maxHeartbeats 40000000 in
theorem rm10 (l : Launch) (Z : State) (a0 : Array Value) (hw : ∀ d ∈ tables_1, d.before a0 Z = true) (ws : List Jvm.Cond) (a1 : Addr) (w3 : Value) (hr_w3 : w3.isRef = true) (w5 : Value) (hr_w5 : w5.isRef = true) (w7 : Value) (hr_w7 : w7.isRef = true) (w9 : Value) (hr_w9 : w9.isRef = true) (w11 : Value) (hr_w11 : w11.isRef = true) (w13 : Addr) (w15 : Value) (hr_w15 : w15.isRef = true) (h0 : Heap) (n0 : Nat) (Z0 : n0 ≤ h0.size) (F_id_a1 : Fld Z h0 a1 "com/example/flowmason/flowmason/engine/Task" "id" "Ljava/lang/String;" w3) (F_name_a1 : Fld Z h0 a1 "com/example/flowmason/flowmason/engine/Task" "name" "Ljava/lang/String;" w5) (F_elementId_a1 : Fld Z h0 a1 "com/example/flowmason/flowmason/engine/Task" "elementId" "Ljava/lang/String;" w7) (F_instanceId_a1 : Fld Z h0 a1 "com/example/flowmason/flowmason/engine/Task" "instanceId" "Ljava/lang/String;" w9) (F_role_a1 : Fld Z h0 a1 "com/example/flowmason/flowmason/engine/Task" "role" "Ljava/lang/String;" w11) (S_WITHDRAWN : Sta Z h0 "com/example/flowmason/flowmason/engine/Task$State" "WITHDRAWN" "Lcom/example/flowmason/flowmason/engine/Task$State;" (.ref w13)) (F_assignee_a1 : Fld Z h0 a1 "com/example/flowmason/flowmason/engine/Task" "assignee" "Ljava/lang/String;" w15) :
    MetFree l (⟨"com/example/flowmason/flowmason/engine/Task", "withdrawn", "()Lcom/example/flowmason/flowmason/engine/Task;"⟩ : MethodName) (head1 (Jvm.Cond.code (⟨"com/example/flowmason/flowmason/engine/Task", "withdrawn", "()Lcom/example/flowmason/flowmason/engine/Task;"⟩ : MethodName) prog_17_method_8_code 1 (some (.object "com/example/flowmason/flowmason/engine/Task")) :: ws) ({ frames := 3, cells := 1, slots := 7, locals := 44 } : Room)) (fun a U => a = #[(.ref a1)] ∧ Z.Warmed39 U.vm ∧ U.heap = h0) (fun _ _ _ _ _ => True) (fun _ U o U' => ∃ v L, o = .returned v ∧ QMade Z w13 h0 n0 v U'.heap L ∧ FrameEnd U o U' L ({ frames := 3, cells := 1, slots := 7, locals := 44 } : Room).cells ({ frames := 3, cells := 1, slots := 7, locals := 44 } : Room).slots) := by
  refine MetFree.of_bodySF (plainFor_of_name pn_10) hisR ?_
  intro p e s m args below meth c s₁ Bd hml0 hP hK
  obtain ⟨rfl, hZ, hh⟩ := hP
  have hx := Bd.exec
  have hby := Bd.bytes
  have hml : c.maxLocals = 1 := hml0
  have hown : s.vm.findClass "com/example/flowmason/flowmason/engine/Task" = some m.cls := findClass_of_methodNamed Bd.named
  have hnm := (name_of_methodNamed Bd.named Bd.method).1
  have X0 : Stand p l e ({ frames := 3, cells := 1, slots := 7, locals := 44 } : Room) s m #[(.ref a1)] below meth c s₁ [] 0 0 := Stand.of_body Bd
  have e0 : s₁.heap = h0 := by rw [← hh, Bd.state]; rfl
  have N0 := Fr.nil n0
  have pre0 : ∀ t, Steps p.tables e below (s₁.setTop (mkF m 0 #[.val (.ref a1)] [])) t → Steps p.tables e below (s₁.setTop (entryFrame m #[(.ref a1)] 1)) t := fun t k => castTop (ef_10 m a1) k
  obtain ⟨T2, h2, X2, e2, E2, A2, D2, -, st2⟩ := newO X0 hx hZ hown (hw _ (List.mem_of_getElem? (i := 61) rfl)) (hw _ (List.mem_of_getElem? (i := 20) rfl)) (hw _ (List.mem_of_getElem? (i := 21) rfl)) e0 (g := (mkF m 0 #[.val (.ref a1)] [])) rfl (hb hby d10_0) (by decide) (by decide)
  obtain ⟨b2, g2⟩ : ∃ z, z = h0.size := ⟨_, rfl⟩
  rw [← g2] at A2 D2 st2
  have F_id_b2 : Fld Z h2 b2 "com/example/flowmason/flowmason/engine/Task" "id" "Ljava/lang/String;" .null := D2 (Or.inr (hw _ (List.mem_of_getElem? (i := 37) rfl))) (ty := (.object "java/lang/String")) (by decide)
  have F_name_b2 : Fld Z h2 b2 "com/example/flowmason/flowmason/engine/Task" "name" "Ljava/lang/String;" .null := D2 (Or.inr (hw _ (List.mem_of_getElem? (i := 39) rfl))) (ty := (.object "java/lang/String")) (by decide)
  have F_elementId_b2 : Fld Z h2 b2 "com/example/flowmason/flowmason/engine/Task" "elementId" "Ljava/lang/String;" .null := D2 (Or.inr (hw _ (List.mem_of_getElem? (i := 41) rfl))) (ty := (.object "java/lang/String")) (by decide)
  have F_instanceId_b2 : Fld Z h2 b2 "com/example/flowmason/flowmason/engine/Task" "instanceId" "Ljava/lang/String;" .null := D2 (Or.inr (hw _ (List.mem_of_getElem? (i := 43) rfl))) (ty := (.object "java/lang/String")) (by decide)
  have F_role_b2 : Fld Z h2 b2 "com/example/flowmason/flowmason/engine/Task" "role" "Ljava/lang/String;" .null := D2 (Or.inr (hw _ (List.mem_of_getElem? (i := 45) rfl))) (ty := (.object "java/lang/String")) (by decide)
  have F_state_b2 : Fld Z h2 b2 "com/example/flowmason/flowmason/engine/Task" "state" "Lcom/example/flowmason/flowmason/engine/Task$State;" .null := D2 (Or.inr (hw _ (List.mem_of_getElem? (i := 47) rfl))) (ty := (.object "com/example/flowmason/flowmason/engine/Task$State")) (by decide)
  have F_assignee_b2 : Fld Z h2 b2 "com/example/flowmason/flowmason/engine/Task" "assignee" "Ljava/lang/String;" .null := D2 (Or.inr (hw _ (List.mem_of_getElem? (i := 49) rfl))) (ty := (.object "java/lang/String")) (by decide)
  have E_b2 := A2
  have g_b2 : n0 ≤ b2 := Nat.le_trans Z0 (Nat.le_of_eq g2.symm)
  have sz_b2 : h0.size ≤ b2 := (Nat.le_trans (Keep.refl h0 []).1 (Nat.le_of_eq g2.symm))
  have K2 : Keep h0 h2 [] := (Keep.refl h0 []).ext E2
  obtain ⟨T4, X4, e4, st4⟩ := getF X2 hx hZ hown (host := "") (Or.inl (hw _ (List.mem_of_getElem? (i := 36) rfl))) Via.refl e2 (F_id_a1.ext E2) (g := (mkF m 5 #[.val (.ref a1)] [(.ref a1), (.ref b2), (.ref b2)])) rfl rfl (hb hby d10_5)
  obtain ⟨T6, X6, e6, st6⟩ := getF X4 hx hZ hown (host := "") (Or.inl (hw _ (List.mem_of_getElem? (i := 38) rfl))) Via.refl e4 (F_name_a1.ext E2) (g := (mkF m 9 #[.val (.ref a1)] [(.ref a1), w3, (.ref b2), (.ref b2)])) rfl rfl (hb hby d10_9)
  obtain ⟨T8, X8, e8, st8⟩ := getF X6 hx hZ hown (host := "") (Or.inl (hw _ (List.mem_of_getElem? (i := 40) rfl))) Via.refl e6 (F_elementId_a1.ext E2) (g := (mkF m 13 #[.val (.ref a1)] [(.ref a1), w5, w3, (.ref b2), (.ref b2)])) rfl rfl (hb hby d10_13)
  obtain ⟨T10, X10, e10, st10⟩ := getF X8 hx hZ hown (host := "") (Or.inl (hw _ (List.mem_of_getElem? (i := 42) rfl))) Via.refl e8 (F_instanceId_a1.ext E2) (g := (mkF m 17 #[.val (.ref a1)] [(.ref a1), w7, w5, w3, (.ref b2), (.ref b2)])) rfl rfl (hb hby d10_17)
  obtain ⟨T12, X12, e12, st12⟩ := getF X10 hx hZ hown (host := "") (Or.inl (hw _ (List.mem_of_getElem? (i := 44) rfl))) Via.refl e10 (F_role_a1.ext E2) (g := (mkF m 21 #[.val (.ref a1)] [(.ref a1), w9, w7, w5, w3, (.ref b2), (.ref b2)])) rfl rfl (hb hby d10_21)
  obtain ⟨T14, X14, e14, st14⟩ := getS2 X12 hx hZ hown (host := "") (Or.inl (hw _ (List.mem_of_getElem? (i := 82) rfl))) Via.refl e12 (S_WITHDRAWN.ext E2) (g := (mkF m 24 #[.val (.ref a1)] [w11, w9, w7, w5, w3, (.ref b2), (.ref b2)])) rfl (hb hby d10_24)
  obtain ⟨T16, X16, e16, st16⟩ := getF X14 hx hZ hown (host := "") (Or.inl (hw _ (List.mem_of_getElem? (i := 48) rfl))) Via.refl e14 (F_assignee_a1.ext E2) (g := (mkF m 28 #[.val (.ref a1)] [(.ref a1), (.ref w13), w11, w9, w7, w5, w3, (.ref b2), (.ref b2)])) rfl rfl (hb hby d10_28)
  obtain ⟨_, _, ⟨T17, L17, k17, n17⟩, -, X17, ⟨Lc17, hQ17, l17, y17, z17⟩, st17⟩ := X16.specialBack hx (y := (⟨"com/example/flowmason/flowmason/engine/Task", "<init>", "(Ljava/lang/String;Ljava/lang/String;Ljava/lang/String;Ljava/lang/String;Ljava/lang/String;Lcom/example/flowmason/flowmason/engine/Task$State;Ljava/lang/String;)V"⟩ : MethodName)) rfl hown (mvT hZ (hw _ (List.mem_of_getElem? (i := 64) rfl))) (mvT hZ (hw _ (List.mem_of_getElem? (i := 26) rfl))) (mvT hZ (hw _ (List.mem_of_getElem? (i := 27) rfl))) (by decide) (backOf (W := 1) (rm3 l Z a0 hw [] b2 w3 hr_w3 w5 hr_w5 w7 hr_w7 w9 hr_w9 w11 hr_w11 w13 w15 hr_w15 _ _ _ _ _ _ _ h2 n0 (Nat.le_trans Z0 E2.1) E_b2 F_id_b2 g_b2 F_name_b2 F_elementId_b2 F_instanceId_b2 F_role_b2 F_state_b2 F_assignee_b2) hZ (hw _ (List.mem_of_getElem? (i := 27) rfl)) (hw _ (List.mem_of_getElem? (i := 21) rfl)) (by decide) (by decide)) (g := (mkF m 31 #[.val (.ref a1)] [w15, (.ref w13), w11, w9, w7, w5, w3, (.ref b2), (.ref b2)])) rfl (by rw [hml]; rfl) (Steps.refl _) (a := b2) (argsL := [w3, w5, w7, w9, w11, (.ref w13), w15]) (rest := [(.ref b2)]) (lenOf pd_10_2 rfl) rfl (by show 2 * 0 + _ ≤ _; exact Nat.le_of_eq rfl) (hb hby d10_31) (fun _ _ => ⟨rfl, e16, (by decide : 1 + 0 ≤ _), (by decide : 7 + 0 ≤ _)⟩)
  dsimp only [Pt.U, Pt.locs, Pt.cells, Pt.slots] at X17 l17 y17 z17 st17 hQ17
  subst l17 y17 z17
  obtain ⟨rfl, N17q, K17q, E17q, J1, J2, J3, J4, J5, J6, J7⟩ := hQ17
  have N17 := Fr.app N0 N17q
  obtain ⟨fs, hr, hrun, hended, hW, hsame⟩ := X17.leave (v := some (.ref b2)) (fun h => by rw [Bd.returns] at h; cases h)
  refine ⟨_, _, pre0 _ ?_, hrun, hended, _, _, rfl, ?_, ⟨_, rfl⟩, hW, hsame.mono (by decide) (by decide)⟩
  · show Steps p.tables e below (s₁.setTop (mkF m 0 #[.val (.ref a1)] [])) _
    refine st2 _ ?_
    show Steps p.tables e below (T2.setTop (mkF m 3 #[.val (.ref a1)] [(.ref b2)])) _
    refine XS.dup X2.here hx rfl (hb hby d10_3) rfl rfl ?_
    show Steps p.tables e below (T2.setTop (mkF m 4 #[.val (.ref a1)] [(.ref b2), (.ref b2)])) _
    refine XS.aloadN X2.here hx rfl (hb hby d10_4) rfl rfl ?_
    show Steps p.tables e below (T2.setTop (mkF m 5 #[.val (.ref a1)] [(.ref a1), (.ref b2), (.ref b2)])) _
    refine st4 _ ?_
    show Steps p.tables e below (T4.setTop (mkF m 8 #[.val (.ref a1)] [w3, (.ref b2), (.ref b2)])) _
    refine XS.aloadN X4.here hx rfl (hb hby d10_8) rfl rfl ?_
    show Steps p.tables e below (T4.setTop (mkF m 9 #[.val (.ref a1)] [(.ref a1), w3, (.ref b2), (.ref b2)])) _
    refine st6 _ ?_
    show Steps p.tables e below (T6.setTop (mkF m 12 #[.val (.ref a1)] [w5, w3, (.ref b2), (.ref b2)])) _
    refine XS.aloadN X6.here hx rfl (hb hby d10_12) rfl rfl ?_
    show Steps p.tables e below (T6.setTop (mkF m 13 #[.val (.ref a1)] [(.ref a1), w5, w3, (.ref b2), (.ref b2)])) _
    refine st8 _ ?_
    show Steps p.tables e below (T8.setTop (mkF m 16 #[.val (.ref a1)] [w7, w5, w3, (.ref b2), (.ref b2)])) _
    refine XS.aloadN X8.here hx rfl (hb hby d10_16) rfl rfl ?_
    show Steps p.tables e below (T8.setTop (mkF m 17 #[.val (.ref a1)] [(.ref a1), w7, w5, w3, (.ref b2), (.ref b2)])) _
    refine st10 _ ?_
    show Steps p.tables e below (T10.setTop (mkF m 20 #[.val (.ref a1)] [w9, w7, w5, w3, (.ref b2), (.ref b2)])) _
    refine XS.aloadN X10.here hx rfl (hb hby d10_20) rfl rfl ?_
    show Steps p.tables e below (T10.setTop (mkF m 21 #[.val (.ref a1)] [(.ref a1), w9, w7, w5, w3, (.ref b2), (.ref b2)])) _
    refine st12 _ ?_
    show Steps p.tables e below (T12.setTop (mkF m 24 #[.val (.ref a1)] [w11, w9, w7, w5, w3, (.ref b2), (.ref b2)])) _
    refine st14 _ ?_
    show Steps p.tables e below (T14.setTop (mkF m 27 #[.val (.ref a1)] [(.ref w13), w11, w9, w7, w5, w3, (.ref b2), (.ref b2)])) _
    refine XS.aloadN X14.here hx rfl (hb hby d10_27) rfl rfl ?_
    show Steps p.tables e below (T14.setTop (mkF m 28 #[.val (.ref a1)] [(.ref a1), (.ref w13), w11, w9, w7, w5, w3, (.ref b2), (.ref b2)])) _
    refine st16 _ ?_
    show Steps p.tables e below (T16.setTop (mkF m 31 #[.val (.ref a1)] [w15, (.ref w13), w11, w9, w7, w5, w3, (.ref b2), (.ref b2)])) _
    refine st17.trans ?_
    show Steps p.tables e below (T17.setTop (mkF m 34 #[.val (.ref a1)] [(.ref b2)])) _
    jvm_step X17.here [X17.here.top, hx, (hb hby d10_34), X17.method', Bd.returns, Value.isRef, FieldType.isReference]
    first | (intro acts; rw [hr _ acts rfl rfl rfl]) | rw [hr _ _ rfl rfl rfl]
    exact Steps.refl _
  · show QMade Z w13 h0 n0 _ T17.heap _
    subst g2
    exact ⟨rfl, N17, K2.trans K17q (fun y hy => by cases List.mem_singleton.mp hy; exact Or.inr sz_b2), E17q, J6⟩
theorem pd_0_0 : parseMethodDescriptor "(I)Lcom/example/flowmason/flowmason/engine/Task$State;" = some ⟨[.int], some (.object "com/example/flowmason/flowmason/engine/Task$State")⟩ := by decide +kernel
theorem pd_0_1 : parseMethodDescriptor "(II)Ljava/lang/String;" = some ⟨[.int, .int], some (.object "java/lang/String")⟩ := by decide +kernel
theorem pd_0_2 : parseMethodDescriptor "(Ljava/lang/String;Ljava/lang/String;Ljava/lang/String;Ljava/lang/String;Ljava/lang/String;Lcom/example/flowmason/flowmason/engine/Task$State;Ljava/lang/String;)V" = some ⟨[(.object "java/lang/String"), (.object "java/lang/String"), (.object "java/lang/String"), (.object "java/lang/String"), (.object "java/lang/String"), (.object "com/example/flowmason/flowmason/engine/Task$State"), (.object "java/lang/String")], none⟩ := by decide +kernel
theorem pd_0_4 : parseMethodDescriptor "()Z" = some ⟨[], some .boolean⟩ := by decide +kernel
theorem pd_0_5 : parseMethodDescriptor "(Ljava/lang/String;)Lcom/example/flowmason/flowmason/engine/Task;" = some ⟨[(.object "java/lang/String")], some (.object "com/example/flowmason/flowmason/engine/Task")⟩ := by decide +kernel
theorem pd_0_6 : parseMethodDescriptor "()Lcom/example/flowmason/flowmason/engine/Task;" = some ⟨[], some (.object "com/example/flowmason/flowmason/engine/Task")⟩ := by decide +kernel
theorem os0_3_s1 {z0 : Value} {z1 : Value} {z2 : Value} {z3 : Value} {s4 : Slot} {s5 : Slot} {s6 : Slot} {s7 : Slot} {s8 : Slot} {s9 : Slot} {s10 : Slot} {s11 : Slot} {v : Int32} (h : One s4) : storeLocals #[.val z0, .val z1, .val z2, .val z3, s4, s5, s6, s7, s8, s9, s10, s11] 4 (.int v) = some #[.val z0, .val z1, .val z2, .val z3, .val (.int v), s5, s6, s7, s8, s9, s10, s11] := by
  rcases h with rfl | ⟨w, rfl, hw⟩
  · rfl
  · cases w <;> first | rfl | (simp [Value.category] at hw)
theorem os0_10_s1 {z0 : Value} {z1 : Value} {z2 : Value} {z3 : Value} {z4 : Value} {s5 : Slot} {s6 : Slot} {s7 : Slot} {s8 : Slot} {s9 : Slot} {s10 : Slot} {s11 : Slot} {v : Addr} (h : One s5) : storeLocals #[.val z0, .val z1, .val z2, .val z3, .val z4, s5, s6, s7, s8, s9, s10, s11] 5 (.ref v) = some #[.val z0, .val z1, .val z2, .val z3, .val z4, .val (.ref v), s6, s7, s8, s9, s10, s11] := by
  rcases h with rfl | ⟨w, rfl, hw⟩
  · rfl
  · cases w <;> first | rfl | (simp [Value.category] at hw)
theorem os0_17_s1 {z0 : Value} {z1 : Value} {z2 : Value} {z3 : Value} {z4 : Value} {z5 : Value} {s6 : Slot} {s7 : Slot} {s8 : Slot} {s9 : Slot} {s10 : Slot} {s11 : Slot} {v : Value} (hv : v.isRef = true) (h : One s6) : storeLocals #[.val z0, .val z1, .val z2, .val z3, .val z4, .val z5, s6, s7, s8, s9, s10, s11] 6 v = some #[.val z0, .val z1, .val z2, .val z3, .val z4, .val z5, .val v, s7, s8, s9, s10, s11] := by
  rcases ref_cases hv with rfl | ⟨_, rfl⟩ <;> (rcases h with rfl | ⟨w, rfl, hw⟩ <;> first | rfl | (cases w <;> first | rfl | (simp [Value.category] at hw)))
theorem os0_26_s1 {z0 : Value} {z1 : Value} {z2 : Value} {z3 : Value} {z4 : Value} {z5 : Value} {z6 : Value} {s7 : Slot} {s8 : Slot} {s9 : Slot} {s10 : Slot} {s11 : Slot} {v : Value} (hv : v.isRef = true) (h : One s7) : storeLocals #[.val z0, .val z1, .val z2, .val z3, .val z4, .val z5, .val z6, s7, s8, s9, s10, s11] 7 v = some #[.val z0, .val z1, .val z2, .val z3, .val z4, .val z5, .val z6, .val v, s8, s9, s10, s11] := by
  rcases ref_cases hv with rfl | ⟨_, rfl⟩ <;> (rcases h with rfl | ⟨w, rfl, hw⟩ <;> first | rfl | (cases w <;> first | rfl | (simp [Value.category] at hw)))
set_option maxRecDepth 65536 in
set_option maxHeartbeats 40000000 in
theorem s1 {p : Program} {l : Launch} {e : Env} {s : State} {m : MethodId} {args : Array Value} {below : List Frame} {meth : Method} {c : Code} {T0 : State} {locs : List Loc} {Z : State} {a0 : Array Value} {h0 : Heap} {n0 : Nat} (i0 : Int32) (i1 : Int32) (i2 : Int32) (i3 : Int32) (s4 : Slot) (s5 : Slot) (s6 : Slot) (s7 : Slot) (s8 : Slot) (s9 : Slot) (s10 : Slot) (s11 : Slot)
    (X0 : Stand p l e room_1 s m args below meth c T0 locs 0 0) (hx : p.tables.exec = Jvm.exec) (hZ : Z.Warmed39 s.vm) (hw : ∀ d ∈ tables_1, d.before a0 Z = true) (hby : c.code = code) (hml : c.maxLocals = 12) (hown : s.vm.findClass "com/example/flowmason/flowmason/engine/TaskOpenPinLaw" = some m.cls) (e0 : T0.heap = h0) (Z0 : n0 ≤ h0.size) (b : Addr) (hpick : Pick Z h0 (i0 &&& (3 : Int32)) b) (w2 : Int32) (S_COMPACT_STRINGS : Sta Z h0 "java/lang/String" "COMPACT_STRINGS" "Z" (.int w2)) (hcs : ¬ (w2 = (0 : Int32))) (hs4 : One s4) (hs5 : One s5) (hs6 : One s6) (hs7 : One s7) :
    ∃ (T' : State) (L' : List Loc) (r r' : Value), r.isRef = true ∧ r'.isRef = true ∧ Stand p l e room_1 s m args below meth c T' (locs ++ L') 4 10 ∧ Fr n0 L' ∧ Keep h0 T'.heap [] ∧
      ∀ target, Steps p.tables e below (T'.setTop (mkF m 28 #[.val (.int i0), .val (.int i1), .val (.int i2), .val (.int i3), .val (.int (i0 &&& (3 : Int32))), .val (.ref b), .val r, .val r', s8, s9, s10, s11] [])) target → Steps p.tables e below (T0.setTop (mkF m 0 #[.val (.int i0), .val (.int i1), .val (.int i2), .val (.int i3), s4, s5, s6, s7, s8, s9, s10, s11] [])) target := by
  obtain ⟨_, _, ⟨T5, L5, k5, n5⟩, -, X5, ⟨Lc5, hQ5, l5, y5, z5⟩, st5⟩ := Jvm.LawKit.callS X0 hx (y := (⟨"com/example/flowmason/flowmason/engine/TaskOpenPinLaw", "stateOf", "(I)Lcom/example/flowmason/flowmason/engine/Task$State;"⟩ : MethodName)) hown (mvT hZ (hw _ (List.mem_of_getElem? (i := 0) rfl))) (mvT hZ (hw _ (List.mem_of_getElem? (i := 1) rfl))) (mvT hZ (hw _ (List.mem_of_getElem? (i := 2) rfl))) (mvT hZ (hw _ (List.mem_of_getElem? (i := 3) rfl))) (by decide) (backOf (W := 0) (rm1 l Z a0 hw [] (i0 &&& (3 : Int32)) b h0 n0 Z0 hpick) hZ (hw _ (List.mem_of_getElem? (i := 3) rfl)) (hw _ (List.mem_of_getElem? (i := 2) rfl)) (by decide) (by decide)) (g := (mkF m 7 #[.val (.int i0), .val (.int i1), .val (.int i2), .val (.int i3), .val (.int (i0 &&& (3 : Int32))), s5, s6, s7, s8, s9, s10, s11] [(.int (i0 &&& (3 : Int32)))])) rfl (by rw [hml]; rfl) (argsL := [(.int (i0 &&& (3 : Int32)))]) (rest := []) (lenOf pd_0_0 rfl) rfl (by show 2 * 0 + _ ≤ _; exact Nat.le_of_eq rfl) (hb hby at_7) (fun _ _ => ⟨rfl, e0, (by decide : 0 + 0 ≤ _), (by decide : 0 + 0 ≤ _)⟩)
  dsimp only [Pt.U, Pt.locs, Pt.cells, Pt.slots] at X5 l5 y5 z5 st5 hQ5
  subst l5 y5 z5
  obtain ⟨rfl, N5q, e5⟩ := hQ5
  obtain ⟨_, _, ⟨T6, L6, k6, n6⟩, -, X6, ⟨Lc6, hQ6, l6, y6, z6⟩, st6⟩ := Jvm.LawKit.callS X5 hx (y := (⟨"com/example/flowmason/flowmason/engine/TaskOpenPinLaw", "drawn", "(II)Ljava/lang/String;"⟩ : MethodName)) hown (mvT hZ (hw _ (List.mem_of_getElem? (i := 7) rfl))) (mvT hZ (hw _ (List.mem_of_getElem? (i := 8) rfl))) (mvT hZ (hw _ (List.mem_of_getElem? (i := 2) rfl))) (mvT hZ (hw _ (List.mem_of_getElem? (i := 9) rfl))) (by decide) (backOf (W := 0) (rm2 l Z a0 hw [] i1 i2 w2 h0 n0 Z0 S_COMPACT_STRINGS hcs) hZ (hw _ (List.mem_of_getElem? (i := 9) rfl)) (hw _ (List.mem_of_getElem? (i := 2) rfl)) (by decide) (by decide)) (g := (mkF m 14 #[.val (.int i0), .val (.int i1), .val (.int i2), .val (.int i3), .val (.int (i0 &&& (3 : Int32))), .val (.ref b), s6, s7, s8, s9, s10, s11] [(.int i2), (.int i1)])) rfl (by rw [hml]; rfl) (argsL := [(.int i1), (.int i2)]) (rest := []) (lenOf pd_0_1 rfl) rfl (by show 2 * 0 + _ ≤ _; exact Nat.le_of_eq rfl) (hb hby at_14) (fun _ _ => ⟨rfl, e5, (by decide : 0 + 2 ≤ _), (by decide : 0 + 5 ≤ _)⟩)
  dsimp only [Pt.U, Pt.locs, Pt.cells, Pt.slots] at X6 l6 y6 z6 st6 hQ6
  subst l6 y6 z6
  obtain ⟨r, rfl, hr, N6q, K6⟩ := hQ6
  obtain ⟨_, _, ⟨T7, L7, k7, n7⟩, -, X7, ⟨Lc7, hQ7, l7, y7, z7⟩, st7⟩ := Jvm.LawKit.callS X6 hx (y := (⟨"com/example/flowmason/flowmason/engine/TaskOpenPinLaw", "drawn", "(II)Ljava/lang/String;"⟩ : MethodName)) hown (mvT hZ (hw _ (List.mem_of_getElem? (i := 7) rfl))) (mvT hZ (hw _ (List.mem_of_getElem? (i := 8) rfl))) (mvT hZ (hw _ (List.mem_of_getElem? (i := 2) rfl))) (mvT hZ (hw _ (List.mem_of_getElem? (i := 9) rfl))) (by decide) (backOf (W := 0) (rm2 l Z a0 hw [] (i1 >>> ((1 : Int32) &&& 31)) i3 w2 T6.heap n0 (Nat.le_trans Z0 K6.1) (own_sk S_COMPACT_STRINGS K6) hcs) hZ (hw _ (List.mem_of_getElem? (i := 9) rfl)) (hw _ (List.mem_of_getElem? (i := 2) rfl)) (by decide) (by decide)) (g := (mkF m 23 #[.val (.int i0), .val (.int i1), .val (.int i2), .val (.int i3), .val (.int (i0 &&& (3 : Int32))), .val (.ref b), .val r, s7, s8, s9, s10, s11] [(.int i3), (.int (i1 >>> ((1 : Int32) &&& 31)))])) rfl (by rw [hml]; rfl) (argsL := [(.int (i1 >>> ((1 : Int32) &&& 31))), (.int i3)]) (rest := []) (lenOf pd_0_1 rfl) rfl (by show 2 * 0 + _ ≤ _; exact Nat.le_of_eq rfl) (hb hby at_23) (fun _ _ => ⟨rfl, rfl, (by decide : 2 + 2 ≤ _), (by decide : 5 + 5 ≤ _)⟩)
  dsimp only [Pt.U, Pt.locs, Pt.cells, Pt.slots] at X7 l7 y7 z7 st7 hQ7
  subst l7 y7 z7
  obtain ⟨r', rfl, hr', N7q, K7⟩ := hQ7
  refine ⟨T7, Lc5 ++ Lc6 ++ Lc7, r, r', hr, hr', (by rw [← List.append_assoc, ← List.append_assoc]; exact X7), Fr.app (Fr.app N5q N6q) N7q, K6.trans K7 (fun y hy => by cases hy), fun target kt => ?_⟩
  show Steps p.tables e below (T0.setTop (mkF m 0 #[.val (.int i0), .val (.int i1), .val (.int i2), .val (.int i3), s4, s5, s6, s7, s8, s9, s10, s11] [])) _
  refine XS.iloadN X0.here hx rfl (hb hby at_0) rfl ?_
  show Steps p.tables e below (T0.setTop (mkF m 1 #[.val (.int i0), .val (.int i1), .val (.int i2), .val (.int i3), s4, s5, s6, s7, s8, s9, s10, s11] [(.int i0)])) _
  refine XS.iconst X0.here hx rfl (hb hby at_1) ?_
  show Steps p.tables e below (T0.setTop (mkF m 2 #[.val (.int i0), .val (.int i1), .val (.int i2), .val (.int i3), s4, s5, s6, s7, s8, s9, s10, s11] [(.int (3 : Int32)), (.int i0)])) _
  refine XS.iand X0.here hx rfl (hb hby at_2) rfl ?_
  show Steps p.tables e below (T0.setTop (mkF m 3 #[.val (.int i0), .val (.int i1), .val (.int i2), .val (.int i3), s4, s5, s6, s7, s8, s9, s10, s11] [(.int (i0 &&& (3 : Int32)))])) _
  refine XS.istore X0.here hx rfl (hb hby at_3) rfl (l' := #[.val (.int i0), .val (.int i1), .val (.int i2), .val (.int i3), .val (.int (i0 &&& (3 : Int32))), s5, s6, s7, s8, s9, s10, s11]) (os0_3_s1 hs4) ?_
  show Steps p.tables e below (T0.setTop (mkF m 5 #[.val (.int i0), .val (.int i1), .val (.int i2), .val (.int i3), .val (.int (i0 &&& (3 : Int32))), s5, s6, s7, s8, s9, s10, s11] [])) _
  refine XS.iload X0.here hx rfl (hb hby at_5) rfl ?_
  show Steps p.tables e below (T0.setTop (mkF m 7 #[.val (.int i0), .val (.int i1), .val (.int i2), .val (.int i3), .val (.int (i0 &&& (3 : Int32))), s5, s6, s7, s8, s9, s10, s11] [(.int (i0 &&& (3 : Int32)))])) _
  refine st5 _ ?_
  show Steps p.tables e below (T5.setTop (mkF m 10 #[.val (.int i0), .val (.int i1), .val (.int i2), .val (.int i3), .val (.int (i0 &&& (3 : Int32))), s5, s6, s7, s8, s9, s10, s11] [(.ref b)])) _
  refine XS.astore X5.here hx rfl (hb hby at_10) rfl rfl (l' := #[.val (.int i0), .val (.int i1), .val (.int i2), .val (.int i3), .val (.int (i0 &&& (3 : Int32))), .val (.ref b), s6, s7, s8, s9, s10, s11]) (os0_10_s1 hs5) ?_
  show Steps p.tables e below (T5.setTop (mkF m 12 #[.val (.int i0), .val (.int i1), .val (.int i2), .val (.int i3), .val (.int (i0 &&& (3 : Int32))), .val (.ref b), s6, s7, s8, s9, s10, s11] [])) _
  refine XS.iloadN X5.here hx rfl (hb hby at_12) rfl ?_
  show Steps p.tables e below (T5.setTop (mkF m 13 #[.val (.int i0), .val (.int i1), .val (.int i2), .val (.int i3), .val (.int (i0 &&& (3 : Int32))), .val (.ref b), s6, s7, s8, s9, s10, s11] [(.int i1)])) _
  refine XS.iloadN X5.here hx rfl (hb hby at_13) rfl ?_
  show Steps p.tables e below (T5.setTop (mkF m 14 #[.val (.int i0), .val (.int i1), .val (.int i2), .val (.int i3), .val (.int (i0 &&& (3 : Int32))), .val (.ref b), s6, s7, s8, s9, s10, s11] [(.int i2), (.int i1)])) _
  refine st6 _ ?_
  show Steps p.tables e below (T6.setTop (mkF m 17 #[.val (.int i0), .val (.int i1), .val (.int i2), .val (.int i3), .val (.int (i0 &&& (3 : Int32))), .val (.ref b), s6, s7, s8, s9, s10, s11] [r])) _
  refine XS.astore X6.here hx rfl (hb hby at_17) rfl hr (l' := #[.val (.int i0), .val (.int i1), .val (.int i2), .val (.int i3), .val (.int (i0 &&& (3 : Int32))), .val (.ref b), .val r, s7, s8, s9, s10, s11]) (os0_17_s1 hr hs6) ?_
  show Steps p.tables e below (T6.setTop (mkF m 19 #[.val (.int i0), .val (.int i1), .val (.int i2), .val (.int i3), .val (.int (i0 &&& (3 : Int32))), .val (.ref b), .val r, s7, s8, s9, s10, s11] [])) _
  refine XS.iloadN X6.here hx rfl (hb hby at_19) rfl ?_
  show Steps p.tables e below (T6.setTop (mkF m 20 #[.val (.int i0), .val (.int i1), .val (.int i2), .val (.int i3), .val (.int (i0 &&& (3 : Int32))), .val (.ref b), .val r, s7, s8, s9, s10, s11] [(.int i1)])) _
  refine XS.iconst X6.here hx rfl (hb hby at_20) ?_
  show Steps p.tables e below (T6.setTop (mkF m 21 #[.val (.int i0), .val (.int i1), .val (.int i2), .val (.int i3), .val (.int (i0 &&& (3 : Int32))), .val (.ref b), .val r, s7, s8, s9, s10, s11] [(.int (1 : Int32)), (.int i1)])) _
  refine XS.ishr X6.here hx rfl (hb hby at_21) rfl ?_
  show Steps p.tables e below (T6.setTop (mkF m 22 #[.val (.int i0), .val (.int i1), .val (.int i2), .val (.int i3), .val (.int (i0 &&& (3 : Int32))), .val (.ref b), .val r, s7, s8, s9, s10, s11] [(.int (i1 >>> ((1 : Int32) &&& 31)))])) _
  refine XS.iloadN X6.here hx rfl (hb hby at_22) rfl ?_
  show Steps p.tables e below (T6.setTop (mkF m 23 #[.val (.int i0), .val (.int i1), .val (.int i2), .val (.int i3), .val (.int (i0 &&& (3 : Int32))), .val (.ref b), .val r, s7, s8, s9, s10, s11] [(.int i3), (.int (i1 >>> ((1 : Int32) &&& 31)))])) _
  refine st7 _ ?_
  show Steps p.tables e below (T7.setTop (mkF m 26 #[.val (.int i0), .val (.int i1), .val (.int i2), .val (.int i3), .val (.int (i0 &&& (3 : Int32))), .val (.ref b), .val r, s7, s8, s9, s10, s11] [r'])) _
  refine XS.astore X7.here hx rfl (hb hby at_26) rfl hr' (l' := #[.val (.int i0), .val (.int i1), .val (.int i2), .val (.int i3), .val (.int (i0 &&& (3 : Int32))), .val (.ref b), .val r, .val r', s8, s9, s10, s11]) (os0_26_s1 hr' hs7) ?_
  exact kt
theorem os0_40_s2t {s0 : Slot} {z1 : Value} {s2 : Slot} {s3 : Slot} {s4 : Slot} {s5 : Slot} {s6 : Slot} {s7 : Slot} {s8 : Slot} {s9 : Slot} {s10 : Slot} {s11 : Slot} {v : Addr} (h : One s8) : storeLocals #[s0, .val z1, s2, s3, s4, s5, s6, s7, s8, s9, s10, s11] 8 (.ref v) = some #[s0, .val z1, s2, s3, s4, s5, s6, s7, .val (.ref v), s9, s10, s11] := by
  rcases h with rfl | ⟨w, rfl, hw⟩
  · rfl
  · cases w <;> first | rfl | (simp [Value.category] at hw)
set_option maxRecDepth 65536 in
set_option maxHeartbeats 40000000 in
theorem s2t {p : Program} {l : Launch} {e : Env} {s : State} {m : MethodId} {args : Array Value} {below : List Frame} {meth : Method} {c : Code} {T0 : State} {locs : List Loc} {Z : State} {a0 : Array Value} {h0 : Heap} {n0 : Nat} {vm0 : Vm} {k0 : Nat} (s0 : Slot) (i1 : Int32) (s2 : Slot) (s3 : Slot) (s4 : Slot) (s5 : Slot) (s6 : Slot) (s7 : Slot) (s8 : Slot) (s9 : Slot) (s10 : Slot) (s11 : Slot)
    (X0 : Stand p l e room_1 (s.setVm vm0) m args below meth c T0 locs 4 10) (hx : p.tables.exec = Jvm.exec) (hZ : Z.Warmed39 vm0) (hw : ∀ d ∈ tables_1, d.before a0 Z = true) (hby : c.code = code) (hml : c.maxLocals = 12) (hown : vm0.findClass "com/example/flowmason/flowmason/engine/TaskOpenPinLaw" = some m.cls) (e0 : T0.heap = h0) (Z0 : n0 ≤ h0.size) (wS : ∀ a ∈ Bundle.stringAtoms, a.before a0 Z = true) (hS : s.Since vm0 k0) (hk : k0 ≤ h0.size) (hs8 : One s8) (hc31 : (i1 &&& (4 : Int32)) = (0 : Int32)) :
    ∃ (vm1 : Vm) (k1 : Nat) (T' : State) (r : Value), r.isRef = true ∧ Stand p l e room_1 (s.setVm vm1) m args below meth c T' locs 6 18 ∧ s.Since vm1 k1 ∧ k1 ≤ T'.heap.size ∧ Z.Warmed39 vm1 ∧ vm1.findClass "com/example/flowmason/flowmason/engine/TaskOpenPinLaw" = some m.cls ∧ Keep h0 T'.heap [] ∧
      ∀ target, Steps p.tables e below (T'.setTop (mkF m 42 #[s0, .val (.int i1), s2, s3, s4, s5, s6, s7, .val r, s9, s10, s11] [])) target → Steps p.tables e below (T0.setTop (mkF m 28 #[s0, .val (.int i1), s2, s3, s4, s5, s6, s7, s8, s9, s10, s11] [])) target := by
  obtain ⟨b5, T5, h5, k5, X5, e5, E5, hS, hk, hZ, hown, st5⟩ := ldcS X0 hx hZ hown (hw _ (List.mem_of_getElem? (i := 10) rfl)) wS e0 hS hk (g := (mkF m 38 #[s0, .val (.int i1), s2, s3, s4, s5, s6, s7, s8, s9, s10, s11] [])) rfl (hb hby at_38) (n := 4) (by decide) (by decide) (by decide : 4 + 2 ≤ _) (by decide : 10 + (4 + 4) ≤ _)
  refine ⟨T5.vm, k5, T5, .ref b5, rfl, X5, hS, (by rw [e5]; exact hk), hZ, hown, (by rw [e5]; exact (Keep.refl h0 []).ext E5), fun target kt => ?_⟩
  show Steps p.tables e below (T0.setTop (mkF m 28 #[s0, .val (.int i1), s2, s3, s4, s5, s6, s7, s8, s9, s10, s11] [])) _
  refine XS.iloadN X0.here hx rfl (hb hby at_28) rfl ?_
  show Steps p.tables e below (T0.setTop (mkF m 29 #[s0, .val (.int i1), s2, s3, s4, s5, s6, s7, s8, s9, s10, s11] [(.int i1)])) _
  refine XS.iconst X0.here hx rfl (hb hby at_29) ?_
  show Steps p.tables e below (T0.setTop (mkF m 30 #[s0, .val (.int i1), s2, s3, s4, s5, s6, s7, s8, s9, s10, s11] [(.int (4 : Int32)), (.int i1)])) _
  refine XS.iand X0.here hx rfl (hb hby at_30) rfl ?_
  show Steps p.tables e below (T0.setTop (mkF m 31 #[s0, .val (.int i1), s2, s3, s4, s5, s6, s7, s8, s9, s10, s11] [(.int (i1 &&& (4 : Int32)))])) _
  refine XS.ifYes X0.here hx rfl (pc0 := 31) (pc' := 38) rfl (hb hby at_31) rfl ((if0 _ _).trans (teq hc31).1) (by decide) (by decide) ?_
  show Steps p.tables e below (T0.setTop (mkF m 38 #[s0, .val (.int i1), s2, s3, s4, s5, s6, s7, s8, s9, s10, s11] [])) _
  refine st5 _ ?_
  show Steps p.tables e below (T5.setTop (mkF m 40 #[s0, .val (.int i1), s2, s3, s4, s5, s6, s7, s8, s9, s10, s11] [(.ref b5)])) _
  refine XS.astore X5.here hx rfl (hb hby at_40) rfl rfl (l' := #[s0, .val (.int i1), s2, s3, s4, s5, s6, s7, .val (.ref b5), s9, s10, s11]) (os0_40_s2t hs8) ?_
  exact kt
theorem os0_40_s2f {s0 : Slot} {z1 : Value} {s2 : Slot} {s3 : Slot} {s4 : Slot} {s5 : Slot} {s6 : Slot} {s7 : Slot} {s8 : Slot} {s9 : Slot} {s10 : Slot} {s11 : Slot} (h : One s8) : storeLocals #[s0, .val z1, s2, s3, s4, s5, s6, s7, s8, s9, s10, s11] 8 .null = some #[s0, .val z1, s2, s3, s4, s5, s6, s7, .val .null, s9, s10, s11] := by
  rcases h with rfl | ⟨w, rfl, hw⟩
  · rfl
  · cases w <;> first | rfl | (simp [Value.category] at hw)
set_option maxRecDepth 65536 in
set_option maxHeartbeats 40000000 in
theorem s2f {p : Program} {l : Launch} {e : Env} {s : State} {m : MethodId} {args : Array Value} {below : List Frame} {meth : Method} {c : Code} {T0 : State} {locs : List Loc} {Z : State} {a0 : Array Value} {h0 : Heap} {n0 : Nat} {vm0 : Vm} {k0 : Nat} (s0 : Slot) (i1 : Int32) (s2 : Slot) (s3 : Slot) (s4 : Slot) (s5 : Slot) (s6 : Slot) (s7 : Slot) (s8 : Slot) (s9 : Slot) (s10 : Slot) (s11 : Slot)
    (X0 : Stand p l e room_1 (s.setVm vm0) m args below meth c T0 locs 4 10) (hx : p.tables.exec = Jvm.exec) (hZ : Z.Warmed39 vm0) (hw : ∀ d ∈ tables_1, d.before a0 Z = true) (hby : c.code = code) (hml : c.maxLocals = 12) (hown : vm0.findClass "com/example/flowmason/flowmason/engine/TaskOpenPinLaw" = some m.cls) (e0 : T0.heap = h0) (Z0 : n0 ≤ h0.size) (wS : ∀ a ∈ Bundle.stringAtoms, a.before a0 Z = true) (hS : s.Since vm0 k0) (hk : k0 ≤ h0.size) (hs8 : One s8) (hc31 : ¬ ((i1 &&& (4 : Int32)) = (0 : Int32))) :
    ∃ (vm1 : Vm) (k1 : Nat) (T' : State) (r : Value), r.isRef = true ∧ Stand p l e room_1 (s.setVm vm1) m args below meth c T' locs 6 18 ∧ s.Since vm1 k1 ∧ k1 ≤ T'.heap.size ∧ Z.Warmed39 vm1 ∧ vm1.findClass "com/example/flowmason/flowmason/engine/TaskOpenPinLaw" = some m.cls ∧ Keep h0 T'.heap [] ∧
      ∀ target, Steps p.tables e below (T'.setTop (mkF m 42 #[s0, .val (.int i1), s2, s3, s4, s5, s6, s7, .val r, s9, s10, s11] [])) target → Steps p.tables e below (T0.setTop (mkF m 28 #[s0, .val (.int i1), s2, s3, s4, s5, s6, s7, s8, s9, s10, s11] [])) target := by

  refine ⟨vm0, k0, T0, .null, rfl, X0.more (by decide) (by decide), hS, (by rw [e0]; exact hk), hZ, hown, (by rw [e0]; exact Keep.refl h0 []), fun target kt => ?_⟩
  show Steps p.tables e below (T0.setTop (mkF m 28 #[s0, .val (.int i1), s2, s3, s4, s5, s6, s7, s8, s9, s10, s11] [])) _
  refine XS.iloadN X0.here hx rfl (hb hby at_28) rfl ?_
  show Steps p.tables e below (T0.setTop (mkF m 29 #[s0, .val (.int i1), s2, s3, s4, s5, s6, s7, s8, s9, s10, s11] [(.int i1)])) _
  refine XS.iconst X0.here hx rfl (hb hby at_29) ?_
  show Steps p.tables e below (T0.setTop (mkF m 30 #[s0, .val (.int i1), s2, s3, s4, s5, s6, s7, s8, s9, s10, s11] [(.int (4 : Int32)), (.int i1)])) _
  refine XS.iand X0.here hx rfl (hb hby at_30) rfl ?_
  show Steps p.tables e below (T0.setTop (mkF m 31 #[s0, .val (.int i1), s2, s3, s4, s5, s6, s7, s8, s9, s10, s11] [(.int (i1 &&& (4 : Int32)))])) _
  refine XS.ifNo X0.here hx rfl (hb hby at_31) rfl ((if0 _ _).trans (feq hc31).1) ?_
  show Steps p.tables e below (T0.setTop (mkF m 34 #[s0, .val (.int i1), s2, s3, s4, s5, s6, s7, s8, s9, s10, s11] [])) _
  refine XS.aconstNull X0.here hx rfl (hb hby at_34) ?_
  show Steps p.tables e below (T0.setTop (mkF m 35 #[s0, .val (.int i1), s2, s3, s4, s5, s6, s7, s8, s9, s10, s11] [.null])) _
  refine XS.goto X0.here hx rfl (pc0 := 35) (pc' := 40) rfl (hb hby at_35) (by decide) (by decide) ?_
  show Steps p.tables e below (T0.setTop (mkF m 40 #[s0, .val (.int i1), s2, s3, s4, s5, s6, s7, s8, s9, s10, s11] [.null])) _
  refine XS.astore X0.here hx rfl (hb hby at_40) rfl rfl (l' := #[s0, .val (.int i1), s2, s3, s4, s5, s6, s7, .val .null, s9, s10, s11]) (os0_40_s2f hs8) ?_
  exact kt
theorem s2 {p : Program} {l : Launch} {e : Env} {s : State} {m : MethodId} {args : Array Value} {below : List Frame} {meth : Method} {c : Code} {T0 : State} {locs : List Loc} {Z : State} {a0 : Array Value} {h0 : Heap} {n0 : Nat} {vm0 : Vm} {k0 : Nat} (s0 : Slot) (i1 : Int32) (s2 : Slot) (s3 : Slot) (s4 : Slot) (s5 : Slot) (s6 : Slot) (s7 : Slot) (s8 : Slot) (s9 : Slot) (s10 : Slot) (s11 : Slot)
    (X0 : Stand p l e room_1 (s.setVm vm0) m args below meth c T0 locs 4 10) (hx : p.tables.exec = Jvm.exec) (hZ : Z.Warmed39 vm0) (hw : ∀ d ∈ tables_1, d.before a0 Z = true) (hby : c.code = code) (hml : c.maxLocals = 12) (hown : vm0.findClass "com/example/flowmason/flowmason/engine/TaskOpenPinLaw" = some m.cls) (e0 : T0.heap = h0) (Z0 : n0 ≤ h0.size) (wS : ∀ a ∈ Bundle.stringAtoms, a.before a0 Z = true) (hS : s.Since vm0 k0) (hk : k0 ≤ h0.size) (hs8 : One s8) :
    ∃ (vm1 : Vm) (k1 : Nat) (T' : State) (r : Value), r.isRef = true ∧ Stand p l e room_1 (s.setVm vm1) m args below meth c T' locs 6 18 ∧ s.Since vm1 k1 ∧ k1 ≤ T'.heap.size ∧ Z.Warmed39 vm1 ∧ vm1.findClass "com/example/flowmason/flowmason/engine/TaskOpenPinLaw" = some m.cls ∧ Keep h0 T'.heap [] ∧
      ∀ target, Steps p.tables e below (T'.setTop (mkF m 42 #[s0, .val (.int i1), s2, s3, s4, s5, s6, s7, .val r, s9, s10, s11] [])) target → Steps p.tables e below (T0.setTop (mkF m 28 #[s0, .val (.int i1), s2, s3, s4, s5, s6, s7, s8, s9, s10, s11] [])) target := by
  by_cases q : (i1 &&& (4 : Int32)) = (0 : Int32)
  · exact s2t s0 i1 s2 s3 s4 s5 s6 s7 s8 s9 s10 s11 X0 hx hZ hw hby hml hown e0 Z0 wS hS hk hs8 q
  · exact s2f s0 i1 s2 s3 s4 s5 s6 s7 s8 s9 s10 s11 X0 hx hZ hw hby hml hown e0 Z0 wS hS hk hs8 q
theorem os0_55_s3t {s0 : Slot} {z1 : Value} {s2 : Slot} {s3 : Slot} {s4 : Slot} {s5 : Slot} {s6 : Slot} {s7 : Slot} {s8 : Slot} {s9 : Slot} {s10 : Slot} {s11 : Slot} {v : Addr} (h : One s9) : storeLocals #[s0, .val z1, s2, s3, s4, s5, s6, s7, s8, s9, s10, s11] 9 (.ref v) = some #[s0, .val z1, s2, s3, s4, s5, s6, s7, s8, .val (.ref v), s10, s11] := by
  rcases h with rfl | ⟨w, rfl, hw⟩
  · rfl
  · cases w <;> first | rfl | (simp [Value.category] at hw)
set_option maxRecDepth 65536 in
set_option maxHeartbeats 40000000 in
theorem s3t {p : Program} {l : Launch} {e : Env} {s : State} {m : MethodId} {args : Array Value} {below : List Frame} {meth : Method} {c : Code} {T0 : State} {locs : List Loc} {Z : State} {a0 : Array Value} {h0 : Heap} {n0 : Nat} {vm0 : Vm} {k0 : Nat} (s0 : Slot) (i1 : Int32) (s2 : Slot) (s3 : Slot) (s4 : Slot) (s5 : Slot) (s6 : Slot) (s7 : Slot) (s8 : Slot) (s9 : Slot) (s10 : Slot) (s11 : Slot)
    (X0 : Stand p l e room_1 (s.setVm vm0) m args below meth c T0 locs 6 18) (hx : p.tables.exec = Jvm.exec) (hZ : Z.Warmed39 vm0) (hw : ∀ d ∈ tables_1, d.before a0 Z = true) (hby : c.code = code) (hml : c.maxLocals = 12) (hown : vm0.findClass "com/example/flowmason/flowmason/engine/TaskOpenPinLaw" = some m.cls) (e0 : T0.heap = h0) (Z0 : n0 ≤ h0.size) (wS : ∀ a ∈ Bundle.stringAtoms, a.before a0 Z = true) (hS : s.Since vm0 k0) (hk : k0 ≤ h0.size) (hs9 : One s9) (hc46 : (i1 &&& (8 : Int32)) = (0 : Int32)) :
    ∃ (vm1 : Vm) (k1 : Nat) (T' : State) (r : Value), r.isRef = true ∧ Stand p l e room_1 (s.setVm vm1) m args below meth c T' locs 8 26 ∧ s.Since vm1 k1 ∧ k1 ≤ T'.heap.size ∧ Z.Warmed39 vm1 ∧ vm1.findClass "com/example/flowmason/flowmason/engine/TaskOpenPinLaw" = some m.cls ∧ Keep h0 T'.heap [] ∧
      ∀ target, Steps p.tables e below (T'.setTop (mkF m 57 #[s0, .val (.int i1), s2, s3, s4, s5, s6, s7, s8, .val r, s10, s11] [])) target → Steps p.tables e below (T0.setTop (mkF m 42 #[s0, .val (.int i1), s2, s3, s4, s5, s6, s7, s8, s9, s10, s11] [])) target := by
  obtain ⟨b5, T5, h5, k5, X5, e5, E5, hS, hk, hZ, hown, st5⟩ := ldcS X0 hx hZ hown (hw _ (List.mem_of_getElem? (i := 18) rfl)) wS e0 hS hk (g := (mkF m 53 #[s0, .val (.int i1), s2, s3, s4, s5, s6, s7, s8, s9, s10, s11] [])) rfl (hb hby at_53) (n := 4) (by decide) (by decide) (by decide : 6 + 2 ≤ _) (by decide : 18 + (4 + 4) ≤ _)
  refine ⟨T5.vm, k5, T5, .ref b5, rfl, X5, hS, (by rw [e5]; exact hk), hZ, hown, (by rw [e5]; exact (Keep.refl h0 []).ext E5), fun target kt => ?_⟩
  show Steps p.tables e below (T0.setTop (mkF m 42 #[s0, .val (.int i1), s2, s3, s4, s5, s6, s7, s8, s9, s10, s11] [])) _
  refine XS.iloadN X0.here hx rfl (hb hby at_42) rfl ?_
  show Steps p.tables e below (T0.setTop (mkF m 43 #[s0, .val (.int i1), s2, s3, s4, s5, s6, s7, s8, s9, s10, s11] [(.int i1)])) _
  refine XS.bipush X0.here hx rfl (hb hby at_43) ?_
  show Steps p.tables e below (T0.setTop (mkF m 45 #[s0, .val (.int i1), s2, s3, s4, s5, s6, s7, s8, s9, s10, s11] [(.int (8 : Int32)), (.int i1)])) _
  refine XS.iand X0.here hx rfl (hb hby at_45) rfl ?_
  show Steps p.tables e below (T0.setTop (mkF m 46 #[s0, .val (.int i1), s2, s3, s4, s5, s6, s7, s8, s9, s10, s11] [(.int (i1 &&& (8 : Int32)))])) _
  refine XS.ifYes X0.here hx rfl (pc0 := 46) (pc' := 53) rfl (hb hby at_46) rfl ((if0 _ _).trans (teq hc46).1) (by decide) (by decide) ?_
  show Steps p.tables e below (T0.setTop (mkF m 53 #[s0, .val (.int i1), s2, s3, s4, s5, s6, s7, s8, s9, s10, s11] [])) _
  refine st5 _ ?_
  show Steps p.tables e below (T5.setTop (mkF m 55 #[s0, .val (.int i1), s2, s3, s4, s5, s6, s7, s8, s9, s10, s11] [(.ref b5)])) _
  refine XS.astore X5.here hx rfl (hb hby at_55) rfl rfl (l' := #[s0, .val (.int i1), s2, s3, s4, s5, s6, s7, s8, .val (.ref b5), s10, s11]) (os0_55_s3t hs9) ?_
  exact kt
theorem os0_55_s3f {s0 : Slot} {z1 : Value} {s2 : Slot} {s3 : Slot} {s4 : Slot} {s5 : Slot} {s6 : Slot} {s7 : Slot} {s8 : Slot} {s9 : Slot} {s10 : Slot} {s11 : Slot} (h : One s9) : storeLocals #[s0, .val z1, s2, s3, s4, s5, s6, s7, s8, s9, s10, s11] 9 .null = some #[s0, .val z1, s2, s3, s4, s5, s6, s7, s8, .val .null, s10, s11] := by
  rcases h with rfl | ⟨w, rfl, hw⟩
  · rfl
  · cases w <;> first | rfl | (simp [Value.category] at hw)
set_option maxRecDepth 65536 in
set_option maxHeartbeats 40000000 in
theorem s3f {p : Program} {l : Launch} {e : Env} {s : State} {m : MethodId} {args : Array Value} {below : List Frame} {meth : Method} {c : Code} {T0 : State} {locs : List Loc} {Z : State} {a0 : Array Value} {h0 : Heap} {n0 : Nat} {vm0 : Vm} {k0 : Nat} (s0 : Slot) (i1 : Int32) (s2 : Slot) (s3 : Slot) (s4 : Slot) (s5 : Slot) (s6 : Slot) (s7 : Slot) (s8 : Slot) (s9 : Slot) (s10 : Slot) (s11 : Slot)
    (X0 : Stand p l e room_1 (s.setVm vm0) m args below meth c T0 locs 6 18) (hx : p.tables.exec = Jvm.exec) (hZ : Z.Warmed39 vm0) (hw : ∀ d ∈ tables_1, d.before a0 Z = true) (hby : c.code = code) (hml : c.maxLocals = 12) (hown : vm0.findClass "com/example/flowmason/flowmason/engine/TaskOpenPinLaw" = some m.cls) (e0 : T0.heap = h0) (Z0 : n0 ≤ h0.size) (wS : ∀ a ∈ Bundle.stringAtoms, a.before a0 Z = true) (hS : s.Since vm0 k0) (hk : k0 ≤ h0.size) (hs9 : One s9) (hc46 : ¬ ((i1 &&& (8 : Int32)) = (0 : Int32))) :
    ∃ (vm1 : Vm) (k1 : Nat) (T' : State) (r : Value), r.isRef = true ∧ Stand p l e room_1 (s.setVm vm1) m args below meth c T' locs 8 26 ∧ s.Since vm1 k1 ∧ k1 ≤ T'.heap.size ∧ Z.Warmed39 vm1 ∧ vm1.findClass "com/example/flowmason/flowmason/engine/TaskOpenPinLaw" = some m.cls ∧ Keep h0 T'.heap [] ∧
      ∀ target, Steps p.tables e below (T'.setTop (mkF m 57 #[s0, .val (.int i1), s2, s3, s4, s5, s6, s7, s8, .val r, s10, s11] [])) target → Steps p.tables e below (T0.setTop (mkF m 42 #[s0, .val (.int i1), s2, s3, s4, s5, s6, s7, s8, s9, s10, s11] [])) target := by

  refine ⟨vm0, k0, T0, .null, rfl, X0.more (by decide) (by decide), hS, (by rw [e0]; exact hk), hZ, hown, (by rw [e0]; exact Keep.refl h0 []), fun target kt => ?_⟩
  show Steps p.tables e below (T0.setTop (mkF m 42 #[s0, .val (.int i1), s2, s3, s4, s5, s6, s7, s8, s9, s10, s11] [])) _
  refine XS.iloadN X0.here hx rfl (hb hby at_42) rfl ?_
  show Steps p.tables e below (T0.setTop (mkF m 43 #[s0, .val (.int i1), s2, s3, s4, s5, s6, s7, s8, s9, s10, s11] [(.int i1)])) _
  refine XS.bipush X0.here hx rfl (hb hby at_43) ?_
  show Steps p.tables e below (T0.setTop (mkF m 45 #[s0, .val (.int i1), s2, s3, s4, s5, s6, s7, s8, s9, s10, s11] [(.int (8 : Int32)), (.int i1)])) _
  refine XS.iand X0.here hx rfl (hb hby at_45) rfl ?_
  show Steps p.tables e below (T0.setTop (mkF m 46 #[s0, .val (.int i1), s2, s3, s4, s5, s6, s7, s8, s9, s10, s11] [(.int (i1 &&& (8 : Int32)))])) _
  refine XS.ifNo X0.here hx rfl (hb hby at_46) rfl ((if0 _ _).trans (feq hc46).1) ?_
  show Steps p.tables e below (T0.setTop (mkF m 49 #[s0, .val (.int i1), s2, s3, s4, s5, s6, s7, s8, s9, s10, s11] [])) _
  refine XS.aconstNull X0.here hx rfl (hb hby at_49) ?_
  show Steps p.tables e below (T0.setTop (mkF m 50 #[s0, .val (.int i1), s2, s3, s4, s5, s6, s7, s8, s9, s10, s11] [.null])) _
  refine XS.goto X0.here hx rfl (pc0 := 50) (pc' := 55) rfl (hb hby at_50) (by decide) (by decide) ?_
  show Steps p.tables e below (T0.setTop (mkF m 55 #[s0, .val (.int i1), s2, s3, s4, s5, s6, s7, s8, s9, s10, s11] [.null])) _
  refine XS.astore X0.here hx rfl (hb hby at_55) rfl rfl (l' := #[s0, .val (.int i1), s2, s3, s4, s5, s6, s7, s8, .val .null, s10, s11]) (os0_55_s3f hs9) ?_
  exact kt
theorem s3 {p : Program} {l : Launch} {e : Env} {s : State} {m : MethodId} {args : Array Value} {below : List Frame} {meth : Method} {c : Code} {T0 : State} {locs : List Loc} {Z : State} {a0 : Array Value} {h0 : Heap} {n0 : Nat} {vm0 : Vm} {k0 : Nat} (s0 : Slot) (i1 : Int32) (s2 : Slot) (s3 : Slot) (s4 : Slot) (s5 : Slot) (s6 : Slot) (s7 : Slot) (s8 : Slot) (s9 : Slot) (s10 : Slot) (s11 : Slot)
    (X0 : Stand p l e room_1 (s.setVm vm0) m args below meth c T0 locs 6 18) (hx : p.tables.exec = Jvm.exec) (hZ : Z.Warmed39 vm0) (hw : ∀ d ∈ tables_1, d.before a0 Z = true) (hby : c.code = code) (hml : c.maxLocals = 12) (hown : vm0.findClass "com/example/flowmason/flowmason/engine/TaskOpenPinLaw" = some m.cls) (e0 : T0.heap = h0) (Z0 : n0 ≤ h0.size) (wS : ∀ a ∈ Bundle.stringAtoms, a.before a0 Z = true) (hS : s.Since vm0 k0) (hk : k0 ≤ h0.size) (hs9 : One s9) :
    ∃ (vm1 : Vm) (k1 : Nat) (T' : State) (r : Value), r.isRef = true ∧ Stand p l e room_1 (s.setVm vm1) m args below meth c T' locs 8 26 ∧ s.Since vm1 k1 ∧ k1 ≤ T'.heap.size ∧ Z.Warmed39 vm1 ∧ vm1.findClass "com/example/flowmason/flowmason/engine/TaskOpenPinLaw" = some m.cls ∧ Keep h0 T'.heap [] ∧
      ∀ target, Steps p.tables e below (T'.setTop (mkF m 57 #[s0, .val (.int i1), s2, s3, s4, s5, s6, s7, s8, .val r, s10, s11] [])) target → Steps p.tables e below (T0.setTop (mkF m 42 #[s0, .val (.int i1), s2, s3, s4, s5, s6, s7, s8, s9, s10, s11] [])) target := by
  by_cases q : (i1 &&& (8 : Int32)) = (0 : Int32)
  · exact s3t s0 i1 s2 s3 s4 s5 s6 s7 s8 s9 s10 s11 X0 hx hZ hw hby hml hown e0 Z0 wS hS hk hs9 q
  · exact s3f s0 i1 s2 s3 s4 s5 s6 s7 s8 s9 s10 s11 X0 hx hZ hw hby hml hown e0 Z0 wS hS hk hs9 q
theorem os0_78_s4f {s0 : Slot} {s1 : Slot} {s2 : Slot} {s3 : Slot} {z4 : Value} {z5 : Value} {z6 : Value} {z7 : Value} {z8 : Value} {z9 : Value} {s10 : Slot} {s11 : Slot} {v : Addr} (h : One s10) : storeLocals #[s0, s1, s2, s3, .val z4, .val z5, .val z6, .val z7, .val z8, .val z9, s10, s11] 10 (.ref v) = some #[s0, s1, s2, s3, .val z4, .val z5, .val z6, .val z7, .val z8, .val z9, .val (.ref v), s11] := by
  rcases h with rfl | ⟨w, rfl, hw⟩
  · rfl
  · cases w <;> first | rfl | (simp [Value.category] at hw)
theorem os0_91_s4f {s0 : Slot} {s1 : Slot} {s2 : Slot} {s3 : Slot} {z4 : Value} {z5 : Value} {z6 : Value} {z7 : Value} {z8 : Value} {z9 : Value} {z10 : Value} {s11 : Slot} {v : Int32} (h : One s11) : storeLocals #[s0, s1, s2, s3, .val z4, .val z5, .val z6, .val z7, .val z8, .val z9, .val z10, s11] 11 (.int v) = some #[s0, s1, s2, s3, .val z4, .val z5, .val z6, .val z7, .val z8, .val z9, .val z10, .val (.int v)] := by
  rcases h with rfl | ⟨w, rfl, hw⟩
  · rfl
  · cases w <;> first | rfl | (simp [Value.category] at hw)
set_option maxRecDepth 65536 in
set_option maxHeartbeats 40000000 in
theorem s4f {p : Program} {l : Launch} {e : Env} {s : State} {m : MethodId} {args : Array Value} {below : List Frame} {meth : Method} {c : Code} {T0 : State} {locs : List Loc} {Z : State} {a0 : Array Value} {h0 : Heap} {n0 : Nat} {vm0 : Vm} {k0 : Nat} (s0 : Slot) (s1 : Slot) (s2 : Slot) (s3 : Slot) (i4 : Int32) (o5 : Addr) (o6 : Value) (hr_o6 : o6.isRef = true) (o7 : Value) (hr_o7 : o7.isRef = true) (o8 : Value) (hr_o8 : o8.isRef = true) (o9 : Value) (hr_o9 : o9.isRef = true) (s10 : Slot) (s11 : Slot) (wREADY wRESERVED wCOMPLETED wWITHDRAWN : Addr)
    (X0 : Stand p l e room_1 (s.setVm vm0) m args below meth c T0 locs 8 26) (hx : p.tables.exec = Jvm.exec) (hZ : Z.Warmed39 vm0) (hw : ∀ d ∈ tables_1, d.before a0 Z = true) (hby : c.code = code) (hml : c.maxLocals = 12) (hown : vm0.findClass "com/example/flowmason/flowmason/engine/TaskOpenPinLaw" = some m.cls) (e0 : T0.heap = h0) (Z0 : n0 ≤ h0.size) (wS : ∀ a ∈ Bundle.stringAtoms, a.before a0 Z = true) (hS : s.Since vm0 k0) (hk : k0 ≤ h0.size) (S_READY : Sta Z h0 "com/example/flowmason/flowmason/engine/Task$State" "READY" "Lcom/example/flowmason/flowmason/engine/Task$State;" (.ref wREADY)) (S_RESERVED : Sta Z h0 "com/example/flowmason/flowmason/engine/Task$State" "RESERVED" "Lcom/example/flowmason/flowmason/engine/Task$State;" (.ref wRESERVED)) (S_COMPLETED : Sta Z h0 "com/example/flowmason/flowmason/engine/Task$State" "COMPLETED" "Lcom/example/flowmason/flowmason/engine/Task$State;" (.ref wCOMPLETED)) (S_WITHDRAWN : Sta Z h0 "com/example/flowmason/flowmason/engine/Task$State" "WITHDRAWN" "Lcom/example/flowmason/flowmason/engine/Task$State;" (.ref wWITHDRAWN)) (o10 : opV o5 wREADY wRESERVED = 1) (oV : ¬ opV wRESERVED wREADY wRESERVED = 0) (oR : ¬ opV wREADY wREADY wRESERVED = 0) (oC : opV wCOMPLETED wREADY wRESERVED = 0) (oW : opV wWITHDRAWN wREADY wRESERVED = 0) (hs10 : One s10) (hs11 : One s11) (hc83 : i4 < (2 : Int32)) :
    ∃ (vm1 : Vm) (k1 : Nat) (T' : State) (L' : List Loc) (bb : Addr), Stand p l e room_1 (s.setVm vm1) m args below meth c T' (locs ++ L') 19 85 ∧ s.Since vm1 k1 ∧ k1 ≤ T'.heap.size ∧ Fr n0 L' ∧
      ∀ target, Steps p.tables e below (T'.setTop (mkF m 164 #[s0, s1, s2, s3, .val (.int i4), .val (.ref o5), .val o6, .val o7, .val o8, .val o9, .val (.ref bb), .val (.int (1 : Int32))] [(.int (1 : Int32))])) target → Steps p.tables e below (T0.setTop (mkF m 57 #[s0, s1, s2, s3, .val (.int i4), .val (.ref o5), .val o6, .val o7, .val o8, .val o9, s10, s11] [])) target := by
  obtain ⟨T5, h5, X5, e5, E5, A5, D5, -, st5⟩ := newO X0 hx hZ hown (hw _ (List.mem_of_getElem? (i := 19) rfl)) (hw _ (List.mem_of_getElem? (i := 20) rfl)) (hw _ (List.mem_of_getElem? (i := 21) rfl)) e0 (g := (mkF m 57 #[s0, s1, s2, s3, .val (.int i4), .val (.ref o5), .val o6, .val o7, .val o8, .val o9, s10, s11] [])) rfl (hb hby at_57) (by decide : 8 + 1 ≤ _) (by decide : 26 + 7 ≤ _)
  obtain ⟨b5, g5⟩ : ∃ z, z = h0.size := ⟨_, rfl⟩
  rw [← g5] at A5 D5 st5
  have F_id_b5 : Fld Z h5 b5 "com/example/flowmason/flowmason/engine/Task" "id" "Ljava/lang/String;" .null := D5 (Or.inr (hw _ (List.mem_of_getElem? (i := 37) rfl))) (ty := (.object "java/lang/String")) (by decide)
  have F_name_b5 : Fld Z h5 b5 "com/example/flowmason/flowmason/engine/Task" "name" "Ljava/lang/String;" .null := D5 (Or.inr (hw _ (List.mem_of_getElem? (i := 39) rfl))) (ty := (.object "java/lang/String")) (by decide)
  have F_elementId_b5 : Fld Z h5 b5 "com/example/flowmason/flowmason/engine/Task" "elementId" "Ljava/lang/String;" .null := D5 (Or.inr (hw _ (List.mem_of_getElem? (i := 41) rfl))) (ty := (.object "java/lang/String")) (by decide)
  have F_instanceId_b5 : Fld Z h5 b5 "com/example/flowmason/flowmason/engine/Task" "instanceId" "Ljava/lang/String;" .null := D5 (Or.inr (hw _ (List.mem_of_getElem? (i := 43) rfl))) (ty := (.object "java/lang/String")) (by decide)
  have F_role_b5 : Fld Z h5 b5 "com/example/flowmason/flowmason/engine/Task" "role" "Ljava/lang/String;" .null := D5 (Or.inr (hw _ (List.mem_of_getElem? (i := 45) rfl))) (ty := (.object "java/lang/String")) (by decide)
  have F_state_b5 : Fld Z h5 b5 "com/example/flowmason/flowmason/engine/Task" "state" "Lcom/example/flowmason/flowmason/engine/Task$State;" .null := D5 (Or.inr (hw _ (List.mem_of_getElem? (i := 47) rfl))) (ty := (.object "com/example/flowmason/flowmason/engine/Task$State")) (by decide)
  have F_assignee_b5 : Fld Z h5 b5 "com/example/flowmason/flowmason/engine/Task" "assignee" "Ljava/lang/String;" .null := D5 (Or.inr (hw _ (List.mem_of_getElem? (i := 49) rfl))) (ty := (.object "java/lang/String")) (by decide)
  have E_b5 := A5
  have g_b5 : n0 ≤ b5 := Nat.le_trans Z0 (Nat.le_of_eq g5.symm)
  have sz_b5 : h0.size ≤ b5 := (Nat.le_trans (Keep.refl h0 []).1 (Nat.le_of_eq g5.symm))
  have K5 : Keep h0 h5 [] := (Keep.refl h0 []).ext E5
  obtain ⟨b6, T6, h6, k6, X6, e6, E6, hS, hk, hZ, hown, st6⟩ := ldcS X5 hx hZ hown (hw _ (List.mem_of_getElem? (i := 22) rfl)) wS e5 hS (Nat.le_trans hk E5.1) (g := (mkF m 61 #[s0, s1, s2, s3, .val (.int i4), .val (.ref o5), .val o6, .val o7, .val o8, .val o9, s10, s11] [(.ref b5), (.ref b5)])) rfl (hb hby at_61) (n := 4) (by decide) (by decide) (by decide : 9 + 2 ≤ _) (by decide : 33 + (4 + 4) ≤ _)
  have K6 : Keep h0 h6 [] := K5.ext E6
  obtain ⟨b7, T7, h7, k7, X7, e7, E7, hS, hk, hZ, hown, st7⟩ := ldcS X6 hx hZ hown (hw _ (List.mem_of_getElem? (i := 23) rfl)) wS e6 hS hk (g := (mkF m 65 #[s0, s1, s2, s3, .val (.int i4), .val (.ref o5), .val o6, .val o7, .val o8, .val o9, s10, s11] [o8, (.ref b6), (.ref b5), (.ref b5)])) rfl (hb hby at_65) (n := 4) (by decide) (by decide) (by decide : 11 + 2 ≤ _) (by decide : 41 + (4 + 4) ≤ _)
  have K7 : Keep h0 h7 [] := K6.ext E7
  obtain ⟨b8, T8, h8, k8, X8, e8, E8, hS, hk, hZ, hown, st8⟩ := ldcS X7 hx hZ hown (hw _ (List.mem_of_getElem? (i := 24) rfl)) wS e7 hS hk (g := (mkF m 67 #[s0, s1, s2, s3, .val (.int i4), .val (.ref o5), .val o6, .val o7, .val o8, .val o9, s10, s11] [(.ref b7), o8, (.ref b6), (.ref b5), (.ref b5)])) rfl (hb hby at_67) (n := 4) (by decide) (by decide) (by decide : 13 + 2 ≤ _) (by decide : 49 + (4 + 4) ≤ _)
  have K8 : Keep h0 h8 [] := K7.ext E8
  obtain ⟨_, _, ⟨T9, L9, k9, n9⟩, -, X9, ⟨Lc9, hQ9, l9, y9, z9⟩, st9⟩ := X8.specialBack hx (y := (⟨"com/example/flowmason/flowmason/engine/Task", "<init>", "(Ljava/lang/String;Ljava/lang/String;Ljava/lang/String;Ljava/lang/String;Ljava/lang/String;Lcom/example/flowmason/flowmason/engine/Task$State;Ljava/lang/String;)V"⟩ : MethodName)) rfl hown (mvT hZ (hw _ (List.mem_of_getElem? (i := 25) rfl))) (mvT hZ (hw _ (List.mem_of_getElem? (i := 26) rfl))) (mvT hZ (hw _ (List.mem_of_getElem? (i := 27) rfl))) (by decide) (backOf (W := 1) (rm3 l Z a0 hw [] b5 (.ref b6) rfl o8 hr_o8 (.ref b7) rfl (.ref b8) rfl o9 hr_o9 o5 o6 hr_o6 _ _ _ _ _ _ _ h8 n0 (Nat.le_trans Z0 K8.1) (((E_b5.ext E6).ext E7).ext E8) (((F_id_b5.ext E6).ext E7).ext E8) g_b5 (((F_name_b5.ext E6).ext E7).ext E8) (((F_elementId_b5.ext E6).ext E7).ext E8) (((F_instanceId_b5.ext E6).ext E7).ext E8) (((F_role_b5.ext E6).ext E7).ext E8) (((F_state_b5.ext E6).ext E7).ext E8) (((F_assignee_b5.ext E6).ext E7).ext E8)) hZ (hw _ (List.mem_of_getElem? (i := 27) rfl)) (hw _ (List.mem_of_getElem? (i := 21) rfl)) (by decide) (by decide)) (g := (mkF m 75 #[s0, s1, s2, s3, .val (.int i4), .val (.ref o5), .val o6, .val o7, .val o8, .val o9, s10, s11] [o6, (.ref o5), o9, (.ref b8), (.ref b7), o8, (.ref b6), (.ref b5), (.ref b5)])) rfl (by rw [hml]; rfl) (Steps.refl _) (a := b5) (argsL := [(.ref b6), o8, (.ref b7), (.ref b8), o9, (.ref o5), o6]) (rest := [(.ref b5)]) (lenOf pd_0_2 rfl) rfl (by show 2 * 0 + _ ≤ _; exact Nat.le_of_eq rfl) (hb hby at_75) (fun _ _ => ⟨rfl, e8, (by decide : 15 + 0 ≤ _), (by decide : 57 + 0 ≤ _)⟩)
  dsimp only [Pt.U, Pt.locs, Pt.cells, Pt.slots] at X9 l9 y9 z9 st9 hQ9
  subst l9 y9 z9
  obtain ⟨rfl, N9q, K9q, EB9, Gid9, Gname9, GelementId9, GinstanceId9, Grole9, Gstate9, Gassignee9⟩ := hQ9
  have KA9 := K8.trans K9q (fun y hy => by cases List.mem_singleton.mp hy; exact Or.inr sz_b5)
  have SREADY9 := own_sk S_READY KA9
  have SRESERVED9 := own_sk S_RESERVED KA9
  have SCOMPLETED9 := own_sk S_COMPLETED KA9
  have SWITHDRAWN9 := own_sk S_WITHDRAWN KA9
  have Z9 : n0 ≤ T9.heap.size := Nat.le_trans Z0 KA9.1
  have N9 := N9q
  obtain ⟨cq10, kq10, q10a, q10b, q10c⟩ := isOf hZ rfl EB9
  obtain ⟨_, _, ⟨T10, L10, k10, n10⟩, -, X10, ⟨Lc10, hQ10, l10, y10, z10⟩, st10⟩ := X9.virtualBack hx (y := (⟨"com/example/flowmason/flowmason/engine/Task", "open", "()Z"⟩ : MethodName)) (z := (⟨"com/example/flowmason/flowmason/engine/Task", "open", "()Z"⟩ : MethodName)) hown (mvT hZ (hw _ (List.mem_of_getElem? (i := 50) rfl))) (mvT hZ (hw _ (List.mem_of_getElem? (i := 51) rfl))) (notFace_of_selects (args := #[]) (mvT hZ (hw _ (List.mem_of_getElem? (i := 53) rfl)))) (mvT hZ (hw _ (List.mem_of_getElem? (i := 53) rfl))) (mvT hZ (hw _ (List.mem_of_getElem? (i := 52) rfl))) (by decide) (backOf (W := 0) (rm6 l Z a0 hw [] b5 o5 wREADY wRESERVED T9.heap n0 Z9 Gstate9 SREADY9 SRESERVED9) hZ (hw _ (List.mem_of_getElem? (i := 54) rfl)) (hw _ (List.mem_of_getElem? (i := 21) rfl)) (by decide) (by decide)) q10a q10c (g := (mkF m 95 #[s0, s1, s2, s3, .val (.int i4), .val (.ref o5), .val o6, .val o7, .val o8, .val o9, .val (.ref b5), .val (.int (1 : Int32))] [(.ref b5)])) rfl (by rw [hml]; rfl) (Steps.refl _) (argsL := []) (rest := []) (lenOf pd_0_4 rfl) rfl (by show 2 * 0 + _ ≤ _; exact Nat.le_of_eq rfl) (hb hby at_95) (fun _ _ => ⟨rfl, rfl, (by decide : 15 + 0 ≤ _), (by decide : 57 + 0 ≤ _)⟩)
  dsimp only [Pt.U, Pt.locs, Pt.cells, Pt.slots] at X10 l10 y10 z10 st10 hQ10
  subst l10 y10 z10
  obtain ⟨rfl, N10q, e10⟩ := hQ10
  have N10 := Fr.app N9 N10q
  obtain ⟨cq11, kq11, q11a, q11b, q11c⟩ := isOf hZ e10 EB9
  obtain ⟨_, _, ⟨T11, L11, k11, n11⟩, -, X11, ⟨Lc11, hQ11, l11, y11, z11⟩, st11⟩ := X10.virtualBack hx (y := (⟨"com/example/flowmason/flowmason/engine/Task", "claimedBy", "(Ljava/lang/String;)Lcom/example/flowmason/flowmason/engine/Task;"⟩ : MethodName)) (z := (⟨"com/example/flowmason/flowmason/engine/Task", "claimedBy", "(Ljava/lang/String;)Lcom/example/flowmason/flowmason/engine/Task;"⟩ : MethodName)) hown (mvT hZ (hw _ (List.mem_of_getElem? (i := 56) rfl))) (mvT hZ (hw _ (List.mem_of_getElem? (i := 57) rfl))) (notFace_of_selects (args := #[]) (mvT hZ (hw _ (List.mem_of_getElem? (i := 59) rfl)))) (mvT hZ (hw _ (List.mem_of_getElem? (i := 59) rfl))) (mvT hZ (hw _ (List.mem_of_getElem? (i := 58) rfl))) (by decide) (backOf (W := 0) (rm7 l Z a0 hw [] b5 o7 hr_o7 (.ref b6) rfl o8 hr_o8 (.ref b7) rfl (.ref b8) rfl o9 hr_o9 wRESERVED T9.heap n0 Z9 Gid9 Gname9 GelementId9 GinstanceId9 Grole9 SRESERVED9) hZ (hw _ (List.mem_of_getElem? (i := 60) rfl)) (hw _ (List.mem_of_getElem? (i := 21) rfl)) (by decide) (by decide)) q11a q11c (g := (mkF m 109 #[s0, s1, s2, s3, .val (.int i4), .val (.ref o5), .val o6, .val o7, .val o8, .val o9, .val (.ref b5), .val (.int (1 : Int32))] [o7, (.ref b5)])) rfl (by rw [hml]; rfl) (Steps.refl _) (argsL := [o7]) (rest := []) (lenOf pd_0_5 rfl) rfl (by show 2 * 0 + _ ≤ _; exact Nat.le_of_eq rfl) (hb hby at_109) (fun _ _ => ⟨rfl, e10, (by decide : 15 + 1 ≤ _), (by decide : 57 + 7 ≤ _)⟩)
  dsimp only [Pt.U, Pt.locs, Pt.cells, Pt.slots] at X11 l11 y11 z11 st11 hQ11
  subst l11 y11 z11
  obtain ⟨rfl, N11q, K11q, E11q, G11⟩ := hQ11
  have EB11 := EB9.keep K11q
  have Gid11 := Gid9.keep K11q (by simp)
  have Gname11 := Gname9.keep K11q (by simp)
  have GelementId11 := GelementId9.keep K11q (by simp)
  have GinstanceId11 := GinstanceId9.keep K11q (by simp)
  have Grole11 := Grole9.keep K11q (by simp)
  have Gstate11 := Gstate9.keep K11q (by simp)
  have Gassignee11 := Gassignee9.keep K11q (by simp)
  have SREADY11 := own_sk SREADY9 K11q
  have SRESERVED11 := own_sk SRESERVED9 K11q
  have SCOMPLETED11 := own_sk SCOMPLETED9 K11q
  have SWITHDRAWN11 := own_sk SWITHDRAWN9 K11q
  have Z11 : n0 ≤ T11.heap.size := Nat.le_trans Z9 K11q.1
  have N11 := Fr.app N10 N11q
  obtain ⟨cq12, kq12, q12a, q12b, q12c⟩ := isOf hZ rfl E11q
  obtain ⟨_, _, ⟨T12, L12, k12, n12⟩, -, X12, ⟨Lc12, hQ12, l12, y12, z12⟩, st12⟩ := X11.virtualBack hx (y := (⟨"com/example/flowmason/flowmason/engine/Task", "open", "()Z"⟩ : MethodName)) (z := (⟨"com/example/flowmason/flowmason/engine/Task", "open", "()Z"⟩ : MethodName)) hown (mvT hZ (hw _ (List.mem_of_getElem? (i := 50) rfl))) (mvT hZ (hw _ (List.mem_of_getElem? (i := 51) rfl))) (notFace_of_selects (args := #[]) (mvT hZ (hw _ (List.mem_of_getElem? (i := 53) rfl)))) (mvT hZ (hw _ (List.mem_of_getElem? (i := 53) rfl))) (mvT hZ (hw _ (List.mem_of_getElem? (i := 52) rfl))) (by decide) (backOf (W := 0) (rm6 l Z a0 hw [] T9.heap.size wRESERVED wREADY wRESERVED T11.heap n0 Z11 G11 SREADY11 SRESERVED11) hZ (hw _ (List.mem_of_getElem? (i := 54) rfl)) (hw _ (List.mem_of_getElem? (i := 21) rfl)) (by decide) (by decide)) q12a q12c (g := (mkF m 112 #[s0, s1, s2, s3, .val (.int i4), .val (.ref o5), .val o6, .val o7, .val o8, .val o9, .val (.ref b5), .val (.int (1 : Int32))] [(.ref T9.heap.size)])) rfl (by rw [hml]; rfl) (Steps.refl _) (argsL := []) (rest := []) (lenOf pd_0_4 rfl) rfl (by show 2 * 0 + _ ≤ _; exact Nat.le_of_eq rfl) (hb hby at_112) (fun _ _ => ⟨rfl, rfl, (by decide : 16 + 0 ≤ _), (by decide : 64 + 0 ≤ _)⟩)
  dsimp only [Pt.U, Pt.locs, Pt.cells, Pt.slots] at X12 l12 y12 z12 st12 hQ12
  subst l12 y12 z12
  obtain ⟨rfl, N12q, e12⟩ := hQ12
  have N12 := Fr.app N11 N12q
  obtain ⟨cq13, kq13, q13a, q13b, q13c⟩ := isOf hZ e12 EB11
  obtain ⟨_, _, ⟨T13, L13, k13, n13⟩, -, X13, ⟨Lc13, hQ13, l13, y13, z13⟩, st13⟩ := X12.virtualBack hx (y := (⟨"com/example/flowmason/flowmason/engine/Task", "released", "()Lcom/example/flowmason/flowmason/engine/Task;"⟩ : MethodName)) (z := (⟨"com/example/flowmason/flowmason/engine/Task", "released", "()Lcom/example/flowmason/flowmason/engine/Task;"⟩ : MethodName)) hown (mvT hZ (hw _ (List.mem_of_getElem? (i := 65) rfl))) (mvT hZ (hw _ (List.mem_of_getElem? (i := 66) rfl))) (notFace_of_selects (args := #[]) (mvT hZ (hw _ (List.mem_of_getElem? (i := 68) rfl)))) (mvT hZ (hw _ (List.mem_of_getElem? (i := 68) rfl))) (mvT hZ (hw _ (List.mem_of_getElem? (i := 67) rfl))) (by decide) (backOf (W := 0) (rm8 l Z a0 hw [] b5 (.ref b6) rfl o8 hr_o8 (.ref b7) rfl (.ref b8) rfl o9 hr_o9 wREADY T11.heap n0 Z11 Gid11 Gname11 GelementId11 GinstanceId11 Grole11 SREADY11) hZ (hw _ (List.mem_of_getElem? (i := 69) rfl)) (hw _ (List.mem_of_getElem? (i := 21) rfl)) (by decide) (by decide)) q13a q13c (g := (mkF m 122 #[s0, s1, s2, s3, .val (.int i4), .val (.ref o5), .val o6, .val o7, .val o8, .val o9, .val (.ref b5), .val (.int (1 : Int32))] [(.ref b5)])) rfl (by rw [hml]; rfl) (Steps.refl _) (argsL := []) (rest := []) (lenOf pd_0_6 rfl) rfl (by show 2 * 0 + _ ≤ _; exact Nat.le_of_eq rfl) (hb hby at_122) (fun _ _ => ⟨rfl, e12, (by decide : 16 + 1 ≤ _), (by decide : 64 + 7 ≤ _)⟩)
  dsimp only [Pt.U, Pt.locs, Pt.cells, Pt.slots] at X13 l13 y13 z13 st13 hQ13
  subst l13 y13 z13
  obtain ⟨rfl, N13q, K13q, E13q, G13⟩ := hQ13
  have EB13 := EB11.keep K13q
  have Gid13 := Gid11.keep K13q (by simp)
  have Gname13 := Gname11.keep K13q (by simp)
  have GelementId13 := GelementId11.keep K13q (by simp)
  have GinstanceId13 := GinstanceId11.keep K13q (by simp)
  have Grole13 := Grole11.keep K13q (by simp)
  have Gstate13 := Gstate11.keep K13q (by simp)
  have Gassignee13 := Gassignee11.keep K13q (by simp)
  have SREADY13 := own_sk SREADY11 K13q
  have SRESERVED13 := own_sk SRESERVED11 K13q
  have SCOMPLETED13 := own_sk SCOMPLETED11 K13q
  have SWITHDRAWN13 := own_sk SWITHDRAWN11 K13q
  have Z13 : n0 ≤ T13.heap.size := Nat.le_trans Z11 K13q.1
  have N13 := Fr.app N12 N13q
  obtain ⟨cq14, kq14, q14a, q14b, q14c⟩ := isOf hZ rfl E13q
  obtain ⟨_, _, ⟨T14, L14, k14, n14⟩, -, X14, ⟨Lc14, hQ14, l14, y14, z14⟩, st14⟩ := X13.virtualBack hx (y := (⟨"com/example/flowmason/flowmason/engine/Task", "open", "()Z"⟩ : MethodName)) (z := (⟨"com/example/flowmason/flowmason/engine/Task", "open", "()Z"⟩ : MethodName)) hown (mvT hZ (hw _ (List.mem_of_getElem? (i := 50) rfl))) (mvT hZ (hw _ (List.mem_of_getElem? (i := 51) rfl))) (notFace_of_selects (args := #[]) (mvT hZ (hw _ (List.mem_of_getElem? (i := 53) rfl)))) (mvT hZ (hw _ (List.mem_of_getElem? (i := 53) rfl))) (mvT hZ (hw _ (List.mem_of_getElem? (i := 52) rfl))) (by decide) (backOf (W := 0) (rm6 l Z a0 hw [] T11.heap.size wREADY wREADY wRESERVED T13.heap n0 Z13 G13 SREADY13 SRESERVED13) hZ (hw _ (List.mem_of_getElem? (i := 54) rfl)) (hw _ (List.mem_of_getElem? (i := 21) rfl)) (by decide) (by decide)) q14a q14c (g := (mkF m 125 #[s0, s1, s2, s3, .val (.int i4), .val (.ref o5), .val o6, .val o7, .val o8, .val o9, .val (.ref b5), .val (.int (1 : Int32))] [(.ref T11.heap.size)])) rfl (by rw [hml]; rfl) (Steps.refl _) (argsL := []) (rest := []) (lenOf pd_0_4 rfl) rfl (by show 2 * 0 + _ ≤ _; exact Nat.le_of_eq rfl) (hb hby at_125) (fun _ _ => ⟨rfl, rfl, (by decide : 17 + 0 ≤ _), (by decide : 71 + 0 ≤ _)⟩)
  dsimp only [Pt.U, Pt.locs, Pt.cells, Pt.slots] at X14 l14 y14 z14 st14 hQ14
  subst l14 y14 z14
  obtain ⟨rfl, N14q, e14⟩ := hQ14
  have N14 := Fr.app N13 N14q
  obtain ⟨cq15, kq15, q15a, q15b, q15c⟩ := isOf hZ e14 EB13
  obtain ⟨_, _, ⟨T15, L15, k15, n15⟩, -, X15, ⟨Lc15, hQ15, l15, y15, z15⟩, st15⟩ := X14.virtualBack hx (y := (⟨"com/example/flowmason/flowmason/engine/Task", "completedBy", "(Ljava/lang/String;)Lcom/example/flowmason/flowmason/engine/Task;"⟩ : MethodName)) (z := (⟨"com/example/flowmason/flowmason/engine/Task", "completedBy", "(Ljava/lang/String;)Lcom/example/flowmason/flowmason/engine/Task;"⟩ : MethodName)) hown (mvT hZ (hw _ (List.mem_of_getElem? (i := 70) rfl))) (mvT hZ (hw _ (List.mem_of_getElem? (i := 71) rfl))) (notFace_of_selects (args := #[]) (mvT hZ (hw _ (List.mem_of_getElem? (i := 73) rfl)))) (mvT hZ (hw _ (List.mem_of_getElem? (i := 73) rfl))) (mvT hZ (hw _ (List.mem_of_getElem? (i := 72) rfl))) (by decide) (backOf (W := 0) (rm9 l Z a0 hw [] b5 o7 hr_o7 (.ref b6) rfl o8 hr_o8 (.ref b7) rfl (.ref b8) rfl o9 hr_o9 wCOMPLETED T13.heap n0 Z13 Gid13 Gname13 GelementId13 GinstanceId13 Grole13 SCOMPLETED13) hZ (hw _ (List.mem_of_getElem? (i := 74) rfl)) (hw _ (List.mem_of_getElem? (i := 21) rfl)) (by decide) (by decide)) q15a q15c (g := (mkF m 137 #[s0, s1, s2, s3, .val (.int i4), .val (.ref o5), .val o6, .val o7, .val o8, .val o9, .val (.ref b5), .val (.int (1 : Int32))] [o7, (.ref b5)])) rfl (by rw [hml]; rfl) (Steps.refl _) (argsL := [o7]) (rest := []) (lenOf pd_0_5 rfl) rfl (by show 2 * 0 + _ ≤ _; exact Nat.le_of_eq rfl) (hb hby at_137) (fun _ _ => ⟨rfl, e14, (by decide : 17 + 1 ≤ _), (by decide : 71 + 7 ≤ _)⟩)
  dsimp only [Pt.U, Pt.locs, Pt.cells, Pt.slots] at X15 l15 y15 z15 st15 hQ15
  subst l15 y15 z15
  obtain ⟨rfl, N15q, K15q, E15q, G15⟩ := hQ15
  have EB15 := EB13.keep K15q
  have Gid15 := Gid13.keep K15q (by simp)
  have Gname15 := Gname13.keep K15q (by simp)
  have GelementId15 := GelementId13.keep K15q (by simp)
  have GinstanceId15 := GinstanceId13.keep K15q (by simp)
  have Grole15 := Grole13.keep K15q (by simp)
  have Gstate15 := Gstate13.keep K15q (by simp)
  have Gassignee15 := Gassignee13.keep K15q (by simp)
  have SREADY15 := own_sk SREADY13 K15q
  have SRESERVED15 := own_sk SRESERVED13 K15q
  have SCOMPLETED15 := own_sk SCOMPLETED13 K15q
  have SWITHDRAWN15 := own_sk SWITHDRAWN13 K15q
  have Z15 : n0 ≤ T15.heap.size := Nat.le_trans Z13 K15q.1
  have N15 := Fr.app N14 N15q
  obtain ⟨cq16, kq16, q16a, q16b, q16c⟩ := isOf hZ rfl E15q
  obtain ⟨_, _, ⟨T16, L16, k16, n16⟩, -, X16, ⟨Lc16, hQ16, l16, y16, z16⟩, st16⟩ := X15.virtualBack hx (y := (⟨"com/example/flowmason/flowmason/engine/Task", "open", "()Z"⟩ : MethodName)) (z := (⟨"com/example/flowmason/flowmason/engine/Task", "open", "()Z"⟩ : MethodName)) hown (mvT hZ (hw _ (List.mem_of_getElem? (i := 50) rfl))) (mvT hZ (hw _ (List.mem_of_getElem? (i := 51) rfl))) (notFace_of_selects (args := #[]) (mvT hZ (hw _ (List.mem_of_getElem? (i := 53) rfl)))) (mvT hZ (hw _ (List.mem_of_getElem? (i := 53) rfl))) (mvT hZ (hw _ (List.mem_of_getElem? (i := 52) rfl))) (by decide) (backOf (W := 0) (rm6 l Z a0 hw [] T13.heap.size wCOMPLETED wREADY wRESERVED T15.heap n0 Z15 G15 SREADY15 SRESERVED15) hZ (hw _ (List.mem_of_getElem? (i := 54) rfl)) (hw _ (List.mem_of_getElem? (i := 21) rfl)) (by decide) (by decide)) q16a q16c (g := (mkF m 140 #[s0, s1, s2, s3, .val (.int i4), .val (.ref o5), .val o6, .val o7, .val o8, .val o9, .val (.ref b5), .val (.int (1 : Int32))] [(.ref T13.heap.size)])) rfl (by rw [hml]; rfl) (Steps.refl _) (argsL := []) (rest := []) (lenOf pd_0_4 rfl) rfl (by show 2 * 0 + _ ≤ _; exact Nat.le_of_eq rfl) (hb hby at_140) (fun _ _ => ⟨rfl, rfl, (by decide : 18 + 0 ≤ _), (by decide : 78 + 0 ≤ _)⟩)
  dsimp only [Pt.U, Pt.locs, Pt.cells, Pt.slots] at X16 l16 y16 z16 st16 hQ16
  subst l16 y16 z16
  obtain ⟨rfl, N16q, e16⟩ := hQ16
  have N16 := Fr.app N15 N16q
  obtain ⟨cq17, kq17, q17a, q17b, q17c⟩ := isOf hZ e16 EB15
  obtain ⟨_, _, ⟨T17, L17, k17, n17⟩, -, X17, ⟨Lc17, hQ17, l17, y17, z17⟩, st17⟩ := X16.virtualBack hx (y := (⟨"com/example/flowmason/flowmason/engine/Task", "withdrawn", "()Lcom/example/flowmason/flowmason/engine/Task;"⟩ : MethodName)) (z := (⟨"com/example/flowmason/flowmason/engine/Task", "withdrawn", "()Lcom/example/flowmason/flowmason/engine/Task;"⟩ : MethodName)) hown (mvT hZ (hw _ (List.mem_of_getElem? (i := 77) rfl))) (mvT hZ (hw _ (List.mem_of_getElem? (i := 78) rfl))) (notFace_of_selects (args := #[]) (mvT hZ (hw _ (List.mem_of_getElem? (i := 80) rfl)))) (mvT hZ (hw _ (List.mem_of_getElem? (i := 80) rfl))) (mvT hZ (hw _ (List.mem_of_getElem? (i := 79) rfl))) (by decide) (backOf (W := 0) (rm10 l Z a0 hw [] b5 (.ref b6) rfl o8 hr_o8 (.ref b7) rfl (.ref b8) rfl o9 hr_o9 wWITHDRAWN o6 hr_o6 T15.heap n0 Z15 Gid15 Gname15 GelementId15 GinstanceId15 Grole15 SWITHDRAWN15 Gassignee15) hZ (hw _ (List.mem_of_getElem? (i := 81) rfl)) (hw _ (List.mem_of_getElem? (i := 21) rfl)) (by decide) (by decide)) q17a q17c (g := (mkF m 150 #[s0, s1, s2, s3, .val (.int i4), .val (.ref o5), .val o6, .val o7, .val o8, .val o9, .val (.ref b5), .val (.int (1 : Int32))] [(.ref b5)])) rfl (by rw [hml]; rfl) (Steps.refl _) (argsL := []) (rest := []) (lenOf pd_0_6 rfl) rfl (by show 2 * 0 + _ ≤ _; exact Nat.le_of_eq rfl) (hb hby at_150) (fun _ _ => ⟨rfl, e16, (by decide : 18 + 1 ≤ _), (by decide : 78 + 7 ≤ _)⟩)
  dsimp only [Pt.U, Pt.locs, Pt.cells, Pt.slots] at X17 l17 y17 z17 st17 hQ17
  subst l17 y17 z17
  obtain ⟨rfl, N17q, K17q, E17q, G17⟩ := hQ17
  have EB17 := EB15.keep K17q
  have Gid17 := Gid15.keep K17q (by simp)
  have Gname17 := Gname15.keep K17q (by simp)
  have GelementId17 := GelementId15.keep K17q (by simp)
  have GinstanceId17 := GinstanceId15.keep K17q (by simp)
  have Grole17 := Grole15.keep K17q (by simp)
  have Gstate17 := Gstate15.keep K17q (by simp)
  have Gassignee17 := Gassignee15.keep K17q (by simp)
  have SREADY17 := own_sk SREADY15 K17q
  have SRESERVED17 := own_sk SRESERVED15 K17q
  have SCOMPLETED17 := own_sk SCOMPLETED15 K17q
  have SWITHDRAWN17 := own_sk SWITHDRAWN15 K17q
  have Z17 : n0 ≤ T17.heap.size := Nat.le_trans Z15 K17q.1
  have N17 := Fr.app N16 N17q
  obtain ⟨cq18, kq18, q18a, q18b, q18c⟩ := isOf hZ rfl E17q
  obtain ⟨_, _, ⟨T18, L18, k18, n18⟩, -, X18, ⟨Lc18, hQ18, l18, y18, z18⟩, st18⟩ := X17.virtualBack hx (y := (⟨"com/example/flowmason/flowmason/engine/Task", "open", "()Z"⟩ : MethodName)) (z := (⟨"com/example/flowmason/flowmason/engine/Task", "open", "()Z"⟩ : MethodName)) hown (mvT hZ (hw _ (List.mem_of_getElem? (i := 50) rfl))) (mvT hZ (hw _ (List.mem_of_getElem? (i := 51) rfl))) (notFace_of_selects (args := #[]) (mvT hZ (hw _ (List.mem_of_getElem? (i := 53) rfl)))) (mvT hZ (hw _ (List.mem_of_getElem? (i := 53) rfl))) (mvT hZ (hw _ (List.mem_of_getElem? (i := 52) rfl))) (by decide) (backOf (W := 0) (rm6 l Z a0 hw [] T15.heap.size wWITHDRAWN wREADY wRESERVED T17.heap n0 Z17 G17 SREADY17 SRESERVED17) hZ (hw _ (List.mem_of_getElem? (i := 54) rfl)) (hw _ (List.mem_of_getElem? (i := 21) rfl)) (by decide) (by decide)) q18a q18c (g := (mkF m 153 #[s0, s1, s2, s3, .val (.int i4), .val (.ref o5), .val o6, .val o7, .val o8, .val o9, .val (.ref b5), .val (.int (1 : Int32))] [(.ref T15.heap.size)])) rfl (by rw [hml]; rfl) (Steps.refl _) (argsL := []) (rest := []) (lenOf pd_0_4 rfl) rfl (by show 2 * 0 + _ ≤ _; exact Nat.le_of_eq rfl) (hb hby at_153) (fun _ _ => ⟨rfl, rfl, (by decide : 19 + 0 ≤ _), (by decide : 85 + 0 ≤ _)⟩)
  dsimp only [Pt.U, Pt.locs, Pt.cells, Pt.slots] at X18 l18 y18 z18 st18 hQ18
  subst l18 y18 z18
  obtain ⟨rfl, N18q, e18⟩ := hQ18
  have N18 := Fr.app N17 N18q
  refine ⟨_, k8, T18, Lc9 ++ Lc10 ++ Lc11 ++ Lc12 ++ Lc13 ++ Lc14 ++ Lc15 ++ Lc16 ++ Lc17 ++ Lc18, b5, (by simp only [← List.append_assoc]; exact X18), hS, (by rw [e18]; exact Nat.le_trans hk (Nat.le_trans K9q.1 (Nat.le_trans K11q.1 (Nat.le_trans K13q.1 (Nat.le_trans K15q.1 K17q.1))))), N18, fun target kt => ?_⟩
  show Steps p.tables e below (T0.setTop (mkF m 57 #[s0, s1, s2, s3, .val (.int i4), .val (.ref o5), .val o6, .val o7, .val o8, .val o9, s10, s11] [])) _
  refine st5 _ ?_
  show Steps p.tables e below (T5.setTop (mkF m 60 #[s0, s1, s2, s3, .val (.int i4), .val (.ref o5), .val o6, .val o7, .val o8, .val o9, s10, s11] [(.ref b5)])) _
  refine XS.dup X5.here hx rfl (hb hby at_60) rfl rfl ?_
  show Steps p.tables e below (T5.setTop (mkF m 61 #[s0, s1, s2, s3, .val (.int i4), .val (.ref o5), .val o6, .val o7, .val o8, .val o9, s10, s11] [(.ref b5), (.ref b5)])) _
  refine st6 _ ?_
  show Steps p.tables e below (T6.setTop (mkF m 63 #[s0, s1, s2, s3, .val (.int i4), .val (.ref o5), .val o6, .val o7, .val o8, .val o9, s10, s11] [(.ref b6), (.ref b5), (.ref b5)])) _
  refine XS.aload X6.here hx rfl (hb hby at_63) rfl hr_o8 ?_
  show Steps p.tables e below (T6.setTop (mkF m 65 #[s0, s1, s2, s3, .val (.int i4), .val (.ref o5), .val o6, .val o7, .val o8, .val o9, s10, s11] [o8, (.ref b6), (.ref b5), (.ref b5)])) _
  refine st7 _ ?_
  show Steps p.tables e below (T7.setTop (mkF m 67 #[s0, s1, s2, s3, .val (.int i4), .val (.ref o5), .val o6, .val o7, .val o8, .val o9, s10, s11] [(.ref b7), o8, (.ref b6), (.ref b5), (.ref b5)])) _
  refine st8 _ ?_
  show Steps p.tables e below (T8.setTop (mkF m 69 #[s0, s1, s2, s3, .val (.int i4), .val (.ref o5), .val o6, .val o7, .val o8, .val o9, s10, s11] [(.ref b8), (.ref b7), o8, (.ref b6), (.ref b5), (.ref b5)])) _
  refine XS.aload X8.here hx rfl (hb hby at_69) rfl hr_o9 ?_
  show Steps p.tables e below (T8.setTop (mkF m 71 #[s0, s1, s2, s3, .val (.int i4), .val (.ref o5), .val o6, .val o7, .val o8, .val o9, s10, s11] [o9, (.ref b8), (.ref b7), o8, (.ref b6), (.ref b5), (.ref b5)])) _
  refine XS.aload X8.here hx rfl (hb hby at_71) rfl rfl ?_
  show Steps p.tables e below (T8.setTop (mkF m 73 #[s0, s1, s2, s3, .val (.int i4), .val (.ref o5), .val o6, .val o7, .val o8, .val o9, s10, s11] [(.ref o5), o9, (.ref b8), (.ref b7), o8, (.ref b6), (.ref b5), (.ref b5)])) _
  refine XS.aload X8.here hx rfl (hb hby at_73) rfl hr_o6 ?_
  show Steps p.tables e below (T8.setTop (mkF m 75 #[s0, s1, s2, s3, .val (.int i4), .val (.ref o5), .val o6, .val o7, .val o8, .val o9, s10, s11] [o6, (.ref o5), o9, (.ref b8), (.ref b7), o8, (.ref b6), (.ref b5), (.ref b5)])) _
  refine st9.trans ?_
  show Steps p.tables e below (T9.setTop (mkF m 78 #[s0, s1, s2, s3, .val (.int i4), .val (.ref o5), .val o6, .val o7, .val o8, .val o9, s10, s11] [(.ref b5)])) _
  refine XS.astore X9.here hx rfl (hb hby at_78) rfl rfl (l' := #[s0, s1, s2, s3, .val (.int i4), .val (.ref o5), .val o6, .val o7, .val o8, .val o9, .val (.ref b5), s11]) (os0_78_s4f hs10) ?_
  show Steps p.tables e below (T9.setTop (mkF m 80 #[s0, s1, s2, s3, .val (.int i4), .val (.ref o5), .val o6, .val o7, .val o8, .val o9, .val (.ref b5), s11] [])) _
  refine XS.iload X9.here hx rfl (hb hby at_80) rfl ?_
  show Steps p.tables e below (T9.setTop (mkF m 82 #[s0, s1, s2, s3, .val (.int i4), .val (.ref o5), .val o6, .val o7, .val o8, .val o9, .val (.ref b5), s11] [(.int i4)])) _
  refine XS.iconst X9.here hx rfl (hb hby at_82) ?_
  show Steps p.tables e below (T9.setTop (mkF m 83 #[s0, s1, s2, s3, .val (.int i4), .val (.ref o5), .val o6, .val o7, .val o8, .val o9, .val (.ref b5), s11] [(.int (2 : Int32)), (.int i4)])) _
  refine XS.icmpNo X9.here hx rfl (hb hby at_83) rfl (tlt hc83).2.1 ?_
  show Steps p.tables e below (T9.setTop (mkF m 86 #[s0, s1, s2, s3, .val (.int i4), .val (.ref o5), .val o6, .val o7, .val o8, .val o9, .val (.ref b5), s11] [])) _
  refine XS.iconst X9.here hx rfl (hb hby at_86) ?_
  show Steps p.tables e below (T9.setTop (mkF m 87 #[s0, s1, s2, s3, .val (.int i4), .val (.ref o5), .val o6, .val o7, .val o8, .val o9, .val (.ref b5), s11] [(.int (1 : Int32))])) _
  refine XS.goto X9.here hx rfl (pc0 := 87) (pc' := 91) rfl (hb hby at_87) (by decide) (by decide) ?_
  show Steps p.tables e below (T9.setTop (mkF m 91 #[s0, s1, s2, s3, .val (.int i4), .val (.ref o5), .val o6, .val o7, .val o8, .val o9, .val (.ref b5), s11] [(.int (1 : Int32))])) _
  refine XS.istore X9.here hx rfl (hb hby at_91) rfl (l' := #[s0, s1, s2, s3, .val (.int i4), .val (.ref o5), .val o6, .val o7, .val o8, .val o9, .val (.ref b5), .val (.int (1 : Int32))]) (os0_91_s4f hs11) ?_
  show Steps p.tables e below (T9.setTop (mkF m 93 #[s0, s1, s2, s3, .val (.int i4), .val (.ref o5), .val o6, .val o7, .val o8, .val o9, .val (.ref b5), .val (.int (1 : Int32))] [])) _
  refine XS.aload X9.here hx rfl (hb hby at_93) rfl rfl ?_
  show Steps p.tables e below (T9.setTop (mkF m 95 #[s0, s1, s2, s3, .val (.int i4), .val (.ref o5), .val o6, .val o7, .val o8, .val o9, .val (.ref b5), .val (.int (1 : Int32))] [(.ref b5)])) _
  refine st10.trans ?_
  show Steps p.tables e below (T10.setTop (mkF m 98 #[s0, s1, s2, s3, .val (.int i4), .val (.ref o5), .val o6, .val o7, .val o8, .val o9, .val (.ref b5), .val (.int (1 : Int32))] [(.int (opV o5 wREADY wRESERVED))])) _
  refine XS.iload X10.here hx rfl (hb hby at_98) rfl ?_
  show Steps p.tables e below (T10.setTop (mkF m 100 #[s0, s1, s2, s3, .val (.int i4), .val (.ref o5), .val o6, .val o7, .val o8, .val o9, .val (.ref b5), .val (.int (1 : Int32))] [(.int (1 : Int32)), (.int (opV o5 wREADY wRESERVED))])) _
  refine XS.icmpYes X10.here hx rfl (pc0 := 100) (pc' := 105) rfl (hb hby at_100) rfl (teq o10).1 (by decide) (by decide) ?_
  show Steps p.tables e below (T10.setTop (mkF m 105 #[s0, s1, s2, s3, .val (.int i4), .val (.ref o5), .val o6, .val o7, .val o8, .val o9, .val (.ref b5), .val (.int (1 : Int32))] [])) _
  refine XS.aload X10.here hx rfl (hb hby at_105) rfl rfl ?_
  show Steps p.tables e below (T10.setTop (mkF m 107 #[s0, s1, s2, s3, .val (.int i4), .val (.ref o5), .val o6, .val o7, .val o8, .val o9, .val (.ref b5), .val (.int (1 : Int32))] [(.ref b5)])) _
  refine XS.aload X10.here hx rfl (hb hby at_107) rfl hr_o7 ?_
  show Steps p.tables e below (T10.setTop (mkF m 109 #[s0, s1, s2, s3, .val (.int i4), .val (.ref o5), .val o6, .val o7, .val o8, .val o9, .val (.ref b5), .val (.int (1 : Int32))] [o7, (.ref b5)])) _
  refine st11.trans ?_
  show Steps p.tables e below (T11.setTop (mkF m 112 #[s0, s1, s2, s3, .val (.int i4), .val (.ref o5), .val o6, .val o7, .val o8, .val o9, .val (.ref b5), .val (.int (1 : Int32))] [(.ref T9.heap.size)])) _
  refine st12.trans ?_
  show Steps p.tables e below (T12.setTop (mkF m 115 #[s0, s1, s2, s3, .val (.int i4), .val (.ref o5), .val o6, .val o7, .val o8, .val o9, .val (.ref b5), .val (.int (1 : Int32))] [(.int (opV wRESERVED wREADY wRESERVED))])) _
  refine XS.ifYes X12.here hx rfl (pc0 := 115) (pc' := 120) rfl (hb hby at_115) rfl ((if0 _ _).trans (feq oV).2) (by decide) (by decide) ?_
  show Steps p.tables e below (T12.setTop (mkF m 120 #[s0, s1, s2, s3, .val (.int i4), .val (.ref o5), .val o6, .val o7, .val o8, .val o9, .val (.ref b5), .val (.int (1 : Int32))] [])) _
  refine XS.aload X12.here hx rfl (hb hby at_120) rfl rfl ?_
  show Steps p.tables e below (T12.setTop (mkF m 122 #[s0, s1, s2, s3, .val (.int i4), .val (.ref o5), .val o6, .val o7, .val o8, .val o9, .val (.ref b5), .val (.int (1 : Int32))] [(.ref b5)])) _
  refine st13.trans ?_
  show Steps p.tables e below (T13.setTop (mkF m 125 #[s0, s1, s2, s3, .val (.int i4), .val (.ref o5), .val o6, .val o7, .val o8, .val o9, .val (.ref b5), .val (.int (1 : Int32))] [(.ref T11.heap.size)])) _
  refine st14.trans ?_
  show Steps p.tables e below (T14.setTop (mkF m 128 #[s0, s1, s2, s3, .val (.int i4), .val (.ref o5), .val o6, .val o7, .val o8, .val o9, .val (.ref b5), .val (.int (1 : Int32))] [(.int (opV wREADY wREADY wRESERVED))])) _
  refine XS.ifYes X14.here hx rfl (pc0 := 128) (pc' := 133) rfl (hb hby at_128) rfl ((if0 _ _).trans (feq oR).2) (by decide) (by decide) ?_
  show Steps p.tables e below (T14.setTop (mkF m 133 #[s0, s1, s2, s3, .val (.int i4), .val (.ref o5), .val o6, .val o7, .val o8, .val o9, .val (.ref b5), .val (.int (1 : Int32))] [])) _
  refine XS.aload X14.here hx rfl (hb hby at_133) rfl rfl ?_
  show Steps p.tables e below (T14.setTop (mkF m 135 #[s0, s1, s2, s3, .val (.int i4), .val (.ref o5), .val o6, .val o7, .val o8, .val o9, .val (.ref b5), .val (.int (1 : Int32))] [(.ref b5)])) _
  refine XS.aload X14.here hx rfl (hb hby at_135) rfl hr_o7 ?_
  show Steps p.tables e below (T14.setTop (mkF m 137 #[s0, s1, s2, s3, .val (.int i4), .val (.ref o5), .val o6, .val o7, .val o8, .val o9, .val (.ref b5), .val (.int (1 : Int32))] [o7, (.ref b5)])) _
  refine st15.trans ?_
  show Steps p.tables e below (T15.setTop (mkF m 140 #[s0, s1, s2, s3, .val (.int i4), .val (.ref o5), .val o6, .val o7, .val o8, .val o9, .val (.ref b5), .val (.int (1 : Int32))] [(.ref T13.heap.size)])) _
  refine st16.trans ?_
  show Steps p.tables e below (T16.setTop (mkF m 143 #[s0, s1, s2, s3, .val (.int i4), .val (.ref o5), .val o6, .val o7, .val o8, .val o9, .val (.ref b5), .val (.int (1 : Int32))] [(.int (opV wCOMPLETED wREADY wRESERVED))])) _
  refine XS.ifYes X16.here hx rfl (pc0 := 143) (pc' := 148) rfl (hb hby at_143) rfl ((if0 _ _).trans (teq oC).1) (by decide) (by decide) ?_
  show Steps p.tables e below (T16.setTop (mkF m 148 #[s0, s1, s2, s3, .val (.int i4), .val (.ref o5), .val o6, .val o7, .val o8, .val o9, .val (.ref b5), .val (.int (1 : Int32))] [])) _
  refine XS.aload X16.here hx rfl (hb hby at_148) rfl rfl ?_
  show Steps p.tables e below (T16.setTop (mkF m 150 #[s0, s1, s2, s3, .val (.int i4), .val (.ref o5), .val o6, .val o7, .val o8, .val o9, .val (.ref b5), .val (.int (1 : Int32))] [(.ref b5)])) _
  refine st17.trans ?_
  show Steps p.tables e below (T17.setTop (mkF m 153 #[s0, s1, s2, s3, .val (.int i4), .val (.ref o5), .val o6, .val o7, .val o8, .val o9, .val (.ref b5), .val (.int (1 : Int32))] [(.ref T15.heap.size)])) _
  refine st18.trans ?_
  show Steps p.tables e below (T18.setTop (mkF m 156 #[s0, s1, s2, s3, .val (.int i4), .val (.ref o5), .val o6, .val o7, .val o8, .val o9, .val (.ref b5), .val (.int (1 : Int32))] [(.int (opV wWITHDRAWN wREADY wRESERVED))])) _
  refine XS.ifNo X18.here hx rfl (hb hby at_156) rfl ((if0 _ _).trans (teq oW).2) ?_
  show Steps p.tables e below (T18.setTop (mkF m 159 #[s0, s1, s2, s3, .val (.int i4), .val (.ref o5), .val o6, .val o7, .val o8, .val o9, .val (.ref b5), .val (.int (1 : Int32))] [])) _
  refine XS.iconst X18.here hx rfl (hb hby at_159) ?_
  show Steps p.tables e below (T18.setTop (mkF m 160 #[s0, s1, s2, s3, .val (.int i4), .val (.ref o5), .val o6, .val o7, .val o8, .val o9, .val (.ref b5), .val (.int (1 : Int32))] [(.int (1 : Int32))])) _
  refine XS.goto X18.here hx rfl (pc0 := 160) (pc' := 164) rfl (hb hby at_160) (by decide) (by decide) ?_
  exact kt
theorem os0_78_s4t {s0 : Slot} {s1 : Slot} {s2 : Slot} {s3 : Slot} {z4 : Value} {z5 : Value} {z6 : Value} {z7 : Value} {z8 : Value} {z9 : Value} {s10 : Slot} {s11 : Slot} {v : Addr} (h : One s10) : storeLocals #[s0, s1, s2, s3, .val z4, .val z5, .val z6, .val z7, .val z8, .val z9, s10, s11] 10 (.ref v) = some #[s0, s1, s2, s3, .val z4, .val z5, .val z6, .val z7, .val z8, .val z9, .val (.ref v), s11] := by
  rcases h with rfl | ⟨w, rfl, hw⟩
  · rfl
  · cases w <;> first | rfl | (simp [Value.category] at hw)
theorem os0_91_s4t {s0 : Slot} {s1 : Slot} {s2 : Slot} {s3 : Slot} {z4 : Value} {z5 : Value} {z6 : Value} {z7 : Value} {z8 : Value} {z9 : Value} {z10 : Value} {s11 : Slot} {v : Int32} (h : One s11) : storeLocals #[s0, s1, s2, s3, .val z4, .val z5, .val z6, .val z7, .val z8, .val z9, .val z10, s11] 11 (.int v) = some #[s0, s1, s2, s3, .val z4, .val z5, .val z6, .val z7, .val z8, .val z9, .val z10, .val (.int v)] := by
  rcases h with rfl | ⟨w, rfl, hw⟩
  · rfl
  · cases w <;> first | rfl | (simp [Value.category] at hw)
set_option maxRecDepth 65536 in
set_option maxHeartbeats 40000000 in
theorem s4t {p : Program} {l : Launch} {e : Env} {s : State} {m : MethodId} {args : Array Value} {below : List Frame} {meth : Method} {c : Code} {T0 : State} {locs : List Loc} {Z : State} {a0 : Array Value} {h0 : Heap} {n0 : Nat} {vm0 : Vm} {k0 : Nat} (s0 : Slot) (s1 : Slot) (s2 : Slot) (s3 : Slot) (i4 : Int32) (o5 : Addr) (o6 : Value) (hr_o6 : o6.isRef = true) (o7 : Value) (hr_o7 : o7.isRef = true) (o8 : Value) (hr_o8 : o8.isRef = true) (o9 : Value) (hr_o9 : o9.isRef = true) (s10 : Slot) (s11 : Slot) (wREADY wRESERVED wCOMPLETED wWITHDRAWN : Addr)
    (X0 : Stand p l e room_1 (s.setVm vm0) m args below meth c T0 locs 8 26) (hx : p.tables.exec = Jvm.exec) (hZ : Z.Warmed39 vm0) (hw : ∀ d ∈ tables_1, d.before a0 Z = true) (hby : c.code = code) (hml : c.maxLocals = 12) (hown : vm0.findClass "com/example/flowmason/flowmason/engine/TaskOpenPinLaw" = some m.cls) (e0 : T0.heap = h0) (Z0 : n0 ≤ h0.size) (wS : ∀ a ∈ Bundle.stringAtoms, a.before a0 Z = true) (hS : s.Since vm0 k0) (hk : k0 ≤ h0.size) (S_READY : Sta Z h0 "com/example/flowmason/flowmason/engine/Task$State" "READY" "Lcom/example/flowmason/flowmason/engine/Task$State;" (.ref wREADY)) (S_RESERVED : Sta Z h0 "com/example/flowmason/flowmason/engine/Task$State" "RESERVED" "Lcom/example/flowmason/flowmason/engine/Task$State;" (.ref wRESERVED)) (S_COMPLETED : Sta Z h0 "com/example/flowmason/flowmason/engine/Task$State" "COMPLETED" "Lcom/example/flowmason/flowmason/engine/Task$State;" (.ref wCOMPLETED)) (S_WITHDRAWN : Sta Z h0 "com/example/flowmason/flowmason/engine/Task$State" "WITHDRAWN" "Lcom/example/flowmason/flowmason/engine/Task$State;" (.ref wWITHDRAWN)) (o10 : opV o5 wREADY wRESERVED = 0) (oV : ¬ opV wRESERVED wREADY wRESERVED = 0) (oR : ¬ opV wREADY wREADY wRESERVED = 0) (oC : opV wCOMPLETED wREADY wRESERVED = 0) (oW : opV wWITHDRAWN wREADY wRESERVED = 0) (hs10 : One s10) (hs11 : One s11) (hc83 : ¬ (i4 < (2 : Int32))) :
    ∃ (vm1 : Vm) (k1 : Nat) (T' : State) (L' : List Loc) (bb : Addr), Stand p l e room_1 (s.setVm vm1) m args below meth c T' (locs ++ L') 19 85 ∧ s.Since vm1 k1 ∧ k1 ≤ T'.heap.size ∧ Fr n0 L' ∧
      ∀ target, Steps p.tables e below (T'.setTop (mkF m 164 #[s0, s1, s2, s3, .val (.int i4), .val (.ref o5), .val o6, .val o7, .val o8, .val o9, .val (.ref bb), .val (.int (0 : Int32))] [(.int (1 : Int32))])) target → Steps p.tables e below (T0.setTop (mkF m 57 #[s0, s1, s2, s3, .val (.int i4), .val (.ref o5), .val o6, .val o7, .val o8, .val o9, s10, s11] [])) target := by
  obtain ⟨T5, h5, X5, e5, E5, A5, D5, -, st5⟩ := newO X0 hx hZ hown (hw _ (List.mem_of_getElem? (i := 19) rfl)) (hw _ (List.mem_of_getElem? (i := 20) rfl)) (hw _ (List.mem_of_getElem? (i := 21) rfl)) e0 (g := (mkF m 57 #[s0, s1, s2, s3, .val (.int i4), .val (.ref o5), .val o6, .val o7, .val o8, .val o9, s10, s11] [])) rfl (hb hby at_57) (by decide : 8 + 1 ≤ _) (by decide : 26 + 7 ≤ _)
  obtain ⟨b5, g5⟩ : ∃ z, z = h0.size := ⟨_, rfl⟩
  rw [← g5] at A5 D5 st5
  have F_id_b5 : Fld Z h5 b5 "com/example/flowmason/flowmason/engine/Task" "id" "Ljava/lang/String;" .null := D5 (Or.inr (hw _ (List.mem_of_getElem? (i := 37) rfl))) (ty := (.object "java/lang/String")) (by decide)
  have F_name_b5 : Fld Z h5 b5 "com/example/flowmason/flowmason/engine/Task" "name" "Ljava/lang/String;" .null := D5 (Or.inr (hw _ (List.mem_of_getElem? (i := 39) rfl))) (ty := (.object "java/lang/String")) (by decide)
  have F_elementId_b5 : Fld Z h5 b5 "com/example/flowmason/flowmason/engine/Task" "elementId" "Ljava/lang/String;" .null := D5 (Or.inr (hw _ (List.mem_of_getElem? (i := 41) rfl))) (ty := (.object "java/lang/String")) (by decide)
  have F_instanceId_b5 : Fld Z h5 b5 "com/example/flowmason/flowmason/engine/Task" "instanceId" "Ljava/lang/String;" .null := D5 (Or.inr (hw _ (List.mem_of_getElem? (i := 43) rfl))) (ty := (.object "java/lang/String")) (by decide)
  have F_role_b5 : Fld Z h5 b5 "com/example/flowmason/flowmason/engine/Task" "role" "Ljava/lang/String;" .null := D5 (Or.inr (hw _ (List.mem_of_getElem? (i := 45) rfl))) (ty := (.object "java/lang/String")) (by decide)
  have F_state_b5 : Fld Z h5 b5 "com/example/flowmason/flowmason/engine/Task" "state" "Lcom/example/flowmason/flowmason/engine/Task$State;" .null := D5 (Or.inr (hw _ (List.mem_of_getElem? (i := 47) rfl))) (ty := (.object "com/example/flowmason/flowmason/engine/Task$State")) (by decide)
  have F_assignee_b5 : Fld Z h5 b5 "com/example/flowmason/flowmason/engine/Task" "assignee" "Ljava/lang/String;" .null := D5 (Or.inr (hw _ (List.mem_of_getElem? (i := 49) rfl))) (ty := (.object "java/lang/String")) (by decide)
  have E_b5 := A5
  have g_b5 : n0 ≤ b5 := Nat.le_trans Z0 (Nat.le_of_eq g5.symm)
  have sz_b5 : h0.size ≤ b5 := (Nat.le_trans (Keep.refl h0 []).1 (Nat.le_of_eq g5.symm))
  have K5 : Keep h0 h5 [] := (Keep.refl h0 []).ext E5
  obtain ⟨b6, T6, h6, k6, X6, e6, E6, hS, hk, hZ, hown, st6⟩ := ldcS X5 hx hZ hown (hw _ (List.mem_of_getElem? (i := 22) rfl)) wS e5 hS (Nat.le_trans hk E5.1) (g := (mkF m 61 #[s0, s1, s2, s3, .val (.int i4), .val (.ref o5), .val o6, .val o7, .val o8, .val o9, s10, s11] [(.ref b5), (.ref b5)])) rfl (hb hby at_61) (n := 4) (by decide) (by decide) (by decide : 9 + 2 ≤ _) (by decide : 33 + (4 + 4) ≤ _)
  have K6 : Keep h0 h6 [] := K5.ext E6
  obtain ⟨b7, T7, h7, k7, X7, e7, E7, hS, hk, hZ, hown, st7⟩ := ldcS X6 hx hZ hown (hw _ (List.mem_of_getElem? (i := 23) rfl)) wS e6 hS hk (g := (mkF m 65 #[s0, s1, s2, s3, .val (.int i4), .val (.ref o5), .val o6, .val o7, .val o8, .val o9, s10, s11] [o8, (.ref b6), (.ref b5), (.ref b5)])) rfl (hb hby at_65) (n := 4) (by decide) (by decide) (by decide : 11 + 2 ≤ _) (by decide : 41 + (4 + 4) ≤ _)
  have K7 : Keep h0 h7 [] := K6.ext E7
  obtain ⟨b8, T8, h8, k8, X8, e8, E8, hS, hk, hZ, hown, st8⟩ := ldcS X7 hx hZ hown (hw _ (List.mem_of_getElem? (i := 24) rfl)) wS e7 hS hk (g := (mkF m 67 #[s0, s1, s2, s3, .val (.int i4), .val (.ref o5), .val o6, .val o7, .val o8, .val o9, s10, s11] [(.ref b7), o8, (.ref b6), (.ref b5), (.ref b5)])) rfl (hb hby at_67) (n := 4) (by decide) (by decide) (by decide : 13 + 2 ≤ _) (by decide : 49 + (4 + 4) ≤ _)
  have K8 : Keep h0 h8 [] := K7.ext E8
  obtain ⟨_, _, ⟨T9, L9, k9, n9⟩, -, X9, ⟨Lc9, hQ9, l9, y9, z9⟩, st9⟩ := X8.specialBack hx (y := (⟨"com/example/flowmason/flowmason/engine/Task", "<init>", "(Ljava/lang/String;Ljava/lang/String;Ljava/lang/String;Ljava/lang/String;Ljava/lang/String;Lcom/example/flowmason/flowmason/engine/Task$State;Ljava/lang/String;)V"⟩ : MethodName)) rfl hown (mvT hZ (hw _ (List.mem_of_getElem? (i := 25) rfl))) (mvT hZ (hw _ (List.mem_of_getElem? (i := 26) rfl))) (mvT hZ (hw _ (List.mem_of_getElem? (i := 27) rfl))) (by decide) (backOf (W := 1) (rm3 l Z a0 hw [] b5 (.ref b6) rfl o8 hr_o8 (.ref b7) rfl (.ref b8) rfl o9 hr_o9 o5 o6 hr_o6 _ _ _ _ _ _ _ h8 n0 (Nat.le_trans Z0 K8.1) (((E_b5.ext E6).ext E7).ext E8) (((F_id_b5.ext E6).ext E7).ext E8) g_b5 (((F_name_b5.ext E6).ext E7).ext E8) (((F_elementId_b5.ext E6).ext E7).ext E8) (((F_instanceId_b5.ext E6).ext E7).ext E8) (((F_role_b5.ext E6).ext E7).ext E8) (((F_state_b5.ext E6).ext E7).ext E8) (((F_assignee_b5.ext E6).ext E7).ext E8)) hZ (hw _ (List.mem_of_getElem? (i := 27) rfl)) (hw _ (List.mem_of_getElem? (i := 21) rfl)) (by decide) (by decide)) (g := (mkF m 75 #[s0, s1, s2, s3, .val (.int i4), .val (.ref o5), .val o6, .val o7, .val o8, .val o9, s10, s11] [o6, (.ref o5), o9, (.ref b8), (.ref b7), o8, (.ref b6), (.ref b5), (.ref b5)])) rfl (by rw [hml]; rfl) (Steps.refl _) (a := b5) (argsL := [(.ref b6), o8, (.ref b7), (.ref b8), o9, (.ref o5), o6]) (rest := [(.ref b5)]) (lenOf pd_0_2 rfl) rfl (by show 2 * 0 + _ ≤ _; exact Nat.le_of_eq rfl) (hb hby at_75) (fun _ _ => ⟨rfl, e8, (by decide : 15 + 0 ≤ _), (by decide : 57 + 0 ≤ _)⟩)
  dsimp only [Pt.U, Pt.locs, Pt.cells, Pt.slots] at X9 l9 y9 z9 st9 hQ9
  subst l9 y9 z9
  obtain ⟨rfl, N9q, K9q, EB9, Gid9, Gname9, GelementId9, GinstanceId9, Grole9, Gstate9, Gassignee9⟩ := hQ9
  have KA9 := K8.trans K9q (fun y hy => by cases List.mem_singleton.mp hy; exact Or.inr sz_b5)
  have SREADY9 := own_sk S_READY KA9
  have SRESERVED9 := own_sk S_RESERVED KA9
  have SCOMPLETED9 := own_sk S_COMPLETED KA9
  have SWITHDRAWN9 := own_sk S_WITHDRAWN KA9
  have Z9 : n0 ≤ T9.heap.size := Nat.le_trans Z0 KA9.1
  have N9 := N9q
  obtain ⟨cq10, kq10, q10a, q10b, q10c⟩ := isOf hZ rfl EB9
  obtain ⟨_, _, ⟨T10, L10, k10, n10⟩, -, X10, ⟨Lc10, hQ10, l10, y10, z10⟩, st10⟩ := X9.virtualBack hx (y := (⟨"com/example/flowmason/flowmason/engine/Task", "open", "()Z"⟩ : MethodName)) (z := (⟨"com/example/flowmason/flowmason/engine/Task", "open", "()Z"⟩ : MethodName)) hown (mvT hZ (hw _ (List.mem_of_getElem? (i := 50) rfl))) (mvT hZ (hw _ (List.mem_of_getElem? (i := 51) rfl))) (notFace_of_selects (args := #[]) (mvT hZ (hw _ (List.mem_of_getElem? (i := 53) rfl)))) (mvT hZ (hw _ (List.mem_of_getElem? (i := 53) rfl))) (mvT hZ (hw _ (List.mem_of_getElem? (i := 52) rfl))) (by decide) (backOf (W := 0) (rm6 l Z a0 hw [] b5 o5 wREADY wRESERVED T9.heap n0 Z9 Gstate9 SREADY9 SRESERVED9) hZ (hw _ (List.mem_of_getElem? (i := 54) rfl)) (hw _ (List.mem_of_getElem? (i := 21) rfl)) (by decide) (by decide)) q10a q10c (g := (mkF m 95 #[s0, s1, s2, s3, .val (.int i4), .val (.ref o5), .val o6, .val o7, .val o8, .val o9, .val (.ref b5), .val (.int (0 : Int32))] [(.ref b5)])) rfl (by rw [hml]; rfl) (Steps.refl _) (argsL := []) (rest := []) (lenOf pd_0_4 rfl) rfl (by show 2 * 0 + _ ≤ _; exact Nat.le_of_eq rfl) (hb hby at_95) (fun _ _ => ⟨rfl, rfl, (by decide : 15 + 0 ≤ _), (by decide : 57 + 0 ≤ _)⟩)
  dsimp only [Pt.U, Pt.locs, Pt.cells, Pt.slots] at X10 l10 y10 z10 st10 hQ10
  subst l10 y10 z10
  obtain ⟨rfl, N10q, e10⟩ := hQ10
  have N10 := Fr.app N9 N10q
  obtain ⟨cq11, kq11, q11a, q11b, q11c⟩ := isOf hZ e10 EB9
  obtain ⟨_, _, ⟨T11, L11, k11, n11⟩, -, X11, ⟨Lc11, hQ11, l11, y11, z11⟩, st11⟩ := X10.virtualBack hx (y := (⟨"com/example/flowmason/flowmason/engine/Task", "claimedBy", "(Ljava/lang/String;)Lcom/example/flowmason/flowmason/engine/Task;"⟩ : MethodName)) (z := (⟨"com/example/flowmason/flowmason/engine/Task", "claimedBy", "(Ljava/lang/String;)Lcom/example/flowmason/flowmason/engine/Task;"⟩ : MethodName)) hown (mvT hZ (hw _ (List.mem_of_getElem? (i := 56) rfl))) (mvT hZ (hw _ (List.mem_of_getElem? (i := 57) rfl))) (notFace_of_selects (args := #[]) (mvT hZ (hw _ (List.mem_of_getElem? (i := 59) rfl)))) (mvT hZ (hw _ (List.mem_of_getElem? (i := 59) rfl))) (mvT hZ (hw _ (List.mem_of_getElem? (i := 58) rfl))) (by decide) (backOf (W := 0) (rm7 l Z a0 hw [] b5 o7 hr_o7 (.ref b6) rfl o8 hr_o8 (.ref b7) rfl (.ref b8) rfl o9 hr_o9 wRESERVED T9.heap n0 Z9 Gid9 Gname9 GelementId9 GinstanceId9 Grole9 SRESERVED9) hZ (hw _ (List.mem_of_getElem? (i := 60) rfl)) (hw _ (List.mem_of_getElem? (i := 21) rfl)) (by decide) (by decide)) q11a q11c (g := (mkF m 109 #[s0, s1, s2, s3, .val (.int i4), .val (.ref o5), .val o6, .val o7, .val o8, .val o9, .val (.ref b5), .val (.int (0 : Int32))] [o7, (.ref b5)])) rfl (by rw [hml]; rfl) (Steps.refl _) (argsL := [o7]) (rest := []) (lenOf pd_0_5 rfl) rfl (by show 2 * 0 + _ ≤ _; exact Nat.le_of_eq rfl) (hb hby at_109) (fun _ _ => ⟨rfl, e10, (by decide : 15 + 1 ≤ _), (by decide : 57 + 7 ≤ _)⟩)
  dsimp only [Pt.U, Pt.locs, Pt.cells, Pt.slots] at X11 l11 y11 z11 st11 hQ11
  subst l11 y11 z11
  obtain ⟨rfl, N11q, K11q, E11q, G11⟩ := hQ11
  have EB11 := EB9.keep K11q
  have Gid11 := Gid9.keep K11q (by simp)
  have Gname11 := Gname9.keep K11q (by simp)
  have GelementId11 := GelementId9.keep K11q (by simp)
  have GinstanceId11 := GinstanceId9.keep K11q (by simp)
  have Grole11 := Grole9.keep K11q (by simp)
  have Gstate11 := Gstate9.keep K11q (by simp)
  have Gassignee11 := Gassignee9.keep K11q (by simp)
  have SREADY11 := own_sk SREADY9 K11q
  have SRESERVED11 := own_sk SRESERVED9 K11q
  have SCOMPLETED11 := own_sk SCOMPLETED9 K11q
  have SWITHDRAWN11 := own_sk SWITHDRAWN9 K11q
  have Z11 : n0 ≤ T11.heap.size := Nat.le_trans Z9 K11q.1
  have N11 := Fr.app N10 N11q
  obtain ⟨cq12, kq12, q12a, q12b, q12c⟩ := isOf hZ rfl E11q
  obtain ⟨_, _, ⟨T12, L12, k12, n12⟩, -, X12, ⟨Lc12, hQ12, l12, y12, z12⟩, st12⟩ := X11.virtualBack hx (y := (⟨"com/example/flowmason/flowmason/engine/Task", "open", "()Z"⟩ : MethodName)) (z := (⟨"com/example/flowmason/flowmason/engine/Task", "open", "()Z"⟩ : MethodName)) hown (mvT hZ (hw _ (List.mem_of_getElem? (i := 50) rfl))) (mvT hZ (hw _ (List.mem_of_getElem? (i := 51) rfl))) (notFace_of_selects (args := #[]) (mvT hZ (hw _ (List.mem_of_getElem? (i := 53) rfl)))) (mvT hZ (hw _ (List.mem_of_getElem? (i := 53) rfl))) (mvT hZ (hw _ (List.mem_of_getElem? (i := 52) rfl))) (by decide) (backOf (W := 0) (rm6 l Z a0 hw [] T9.heap.size wRESERVED wREADY wRESERVED T11.heap n0 Z11 G11 SREADY11 SRESERVED11) hZ (hw _ (List.mem_of_getElem? (i := 54) rfl)) (hw _ (List.mem_of_getElem? (i := 21) rfl)) (by decide) (by decide)) q12a q12c (g := (mkF m 112 #[s0, s1, s2, s3, .val (.int i4), .val (.ref o5), .val o6, .val o7, .val o8, .val o9, .val (.ref b5), .val (.int (0 : Int32))] [(.ref T9.heap.size)])) rfl (by rw [hml]; rfl) (Steps.refl _) (argsL := []) (rest := []) (lenOf pd_0_4 rfl) rfl (by show 2 * 0 + _ ≤ _; exact Nat.le_of_eq rfl) (hb hby at_112) (fun _ _ => ⟨rfl, rfl, (by decide : 16 + 0 ≤ _), (by decide : 64 + 0 ≤ _)⟩)
  dsimp only [Pt.U, Pt.locs, Pt.cells, Pt.slots] at X12 l12 y12 z12 st12 hQ12
  subst l12 y12 z12
  obtain ⟨rfl, N12q, e12⟩ := hQ12
  have N12 := Fr.app N11 N12q
  obtain ⟨cq13, kq13, q13a, q13b, q13c⟩ := isOf hZ e12 EB11
  obtain ⟨_, _, ⟨T13, L13, k13, n13⟩, -, X13, ⟨Lc13, hQ13, l13, y13, z13⟩, st13⟩ := X12.virtualBack hx (y := (⟨"com/example/flowmason/flowmason/engine/Task", "released", "()Lcom/example/flowmason/flowmason/engine/Task;"⟩ : MethodName)) (z := (⟨"com/example/flowmason/flowmason/engine/Task", "released", "()Lcom/example/flowmason/flowmason/engine/Task;"⟩ : MethodName)) hown (mvT hZ (hw _ (List.mem_of_getElem? (i := 65) rfl))) (mvT hZ (hw _ (List.mem_of_getElem? (i := 66) rfl))) (notFace_of_selects (args := #[]) (mvT hZ (hw _ (List.mem_of_getElem? (i := 68) rfl)))) (mvT hZ (hw _ (List.mem_of_getElem? (i := 68) rfl))) (mvT hZ (hw _ (List.mem_of_getElem? (i := 67) rfl))) (by decide) (backOf (W := 0) (rm8 l Z a0 hw [] b5 (.ref b6) rfl o8 hr_o8 (.ref b7) rfl (.ref b8) rfl o9 hr_o9 wREADY T11.heap n0 Z11 Gid11 Gname11 GelementId11 GinstanceId11 Grole11 SREADY11) hZ (hw _ (List.mem_of_getElem? (i := 69) rfl)) (hw _ (List.mem_of_getElem? (i := 21) rfl)) (by decide) (by decide)) q13a q13c (g := (mkF m 122 #[s0, s1, s2, s3, .val (.int i4), .val (.ref o5), .val o6, .val o7, .val o8, .val o9, .val (.ref b5), .val (.int (0 : Int32))] [(.ref b5)])) rfl (by rw [hml]; rfl) (Steps.refl _) (argsL := []) (rest := []) (lenOf pd_0_6 rfl) rfl (by show 2 * 0 + _ ≤ _; exact Nat.le_of_eq rfl) (hb hby at_122) (fun _ _ => ⟨rfl, e12, (by decide : 16 + 1 ≤ _), (by decide : 64 + 7 ≤ _)⟩)
  dsimp only [Pt.U, Pt.locs, Pt.cells, Pt.slots] at X13 l13 y13 z13 st13 hQ13
  subst l13 y13 z13
  obtain ⟨rfl, N13q, K13q, E13q, G13⟩ := hQ13
  have EB13 := EB11.keep K13q
  have Gid13 := Gid11.keep K13q (by simp)
  have Gname13 := Gname11.keep K13q (by simp)
  have GelementId13 := GelementId11.keep K13q (by simp)
  have GinstanceId13 := GinstanceId11.keep K13q (by simp)
  have Grole13 := Grole11.keep K13q (by simp)
  have Gstate13 := Gstate11.keep K13q (by simp)
  have Gassignee13 := Gassignee11.keep K13q (by simp)
  have SREADY13 := own_sk SREADY11 K13q
  have SRESERVED13 := own_sk SRESERVED11 K13q
  have SCOMPLETED13 := own_sk SCOMPLETED11 K13q
  have SWITHDRAWN13 := own_sk SWITHDRAWN11 K13q
  have Z13 : n0 ≤ T13.heap.size := Nat.le_trans Z11 K13q.1
  have N13 := Fr.app N12 N13q
  obtain ⟨cq14, kq14, q14a, q14b, q14c⟩ := isOf hZ rfl E13q
  obtain ⟨_, _, ⟨T14, L14, k14, n14⟩, -, X14, ⟨Lc14, hQ14, l14, y14, z14⟩, st14⟩ := X13.virtualBack hx (y := (⟨"com/example/flowmason/flowmason/engine/Task", "open", "()Z"⟩ : MethodName)) (z := (⟨"com/example/flowmason/flowmason/engine/Task", "open", "()Z"⟩ : MethodName)) hown (mvT hZ (hw _ (List.mem_of_getElem? (i := 50) rfl))) (mvT hZ (hw _ (List.mem_of_getElem? (i := 51) rfl))) (notFace_of_selects (args := #[]) (mvT hZ (hw _ (List.mem_of_getElem? (i := 53) rfl)))) (mvT hZ (hw _ (List.mem_of_getElem? (i := 53) rfl))) (mvT hZ (hw _ (List.mem_of_getElem? (i := 52) rfl))) (by decide) (backOf (W := 0) (rm6 l Z a0 hw [] T11.heap.size wREADY wREADY wRESERVED T13.heap n0 Z13 G13 SREADY13 SRESERVED13) hZ (hw _ (List.mem_of_getElem? (i := 54) rfl)) (hw _ (List.mem_of_getElem? (i := 21) rfl)) (by decide) (by decide)) q14a q14c (g := (mkF m 125 #[s0, s1, s2, s3, .val (.int i4), .val (.ref o5), .val o6, .val o7, .val o8, .val o9, .val (.ref b5), .val (.int (0 : Int32))] [(.ref T11.heap.size)])) rfl (by rw [hml]; rfl) (Steps.refl _) (argsL := []) (rest := []) (lenOf pd_0_4 rfl) rfl (by show 2 * 0 + _ ≤ _; exact Nat.le_of_eq rfl) (hb hby at_125) (fun _ _ => ⟨rfl, rfl, (by decide : 17 + 0 ≤ _), (by decide : 71 + 0 ≤ _)⟩)
  dsimp only [Pt.U, Pt.locs, Pt.cells, Pt.slots] at X14 l14 y14 z14 st14 hQ14
  subst l14 y14 z14
  obtain ⟨rfl, N14q, e14⟩ := hQ14
  have N14 := Fr.app N13 N14q
  obtain ⟨cq15, kq15, q15a, q15b, q15c⟩ := isOf hZ e14 EB13
  obtain ⟨_, _, ⟨T15, L15, k15, n15⟩, -, X15, ⟨Lc15, hQ15, l15, y15, z15⟩, st15⟩ := X14.virtualBack hx (y := (⟨"com/example/flowmason/flowmason/engine/Task", "completedBy", "(Ljava/lang/String;)Lcom/example/flowmason/flowmason/engine/Task;"⟩ : MethodName)) (z := (⟨"com/example/flowmason/flowmason/engine/Task", "completedBy", "(Ljava/lang/String;)Lcom/example/flowmason/flowmason/engine/Task;"⟩ : MethodName)) hown (mvT hZ (hw _ (List.mem_of_getElem? (i := 70) rfl))) (mvT hZ (hw _ (List.mem_of_getElem? (i := 71) rfl))) (notFace_of_selects (args := #[]) (mvT hZ (hw _ (List.mem_of_getElem? (i := 73) rfl)))) (mvT hZ (hw _ (List.mem_of_getElem? (i := 73) rfl))) (mvT hZ (hw _ (List.mem_of_getElem? (i := 72) rfl))) (by decide) (backOf (W := 0) (rm9 l Z a0 hw [] b5 o7 hr_o7 (.ref b6) rfl o8 hr_o8 (.ref b7) rfl (.ref b8) rfl o9 hr_o9 wCOMPLETED T13.heap n0 Z13 Gid13 Gname13 GelementId13 GinstanceId13 Grole13 SCOMPLETED13) hZ (hw _ (List.mem_of_getElem? (i := 74) rfl)) (hw _ (List.mem_of_getElem? (i := 21) rfl)) (by decide) (by decide)) q15a q15c (g := (mkF m 137 #[s0, s1, s2, s3, .val (.int i4), .val (.ref o5), .val o6, .val o7, .val o8, .val o9, .val (.ref b5), .val (.int (0 : Int32))] [o7, (.ref b5)])) rfl (by rw [hml]; rfl) (Steps.refl _) (argsL := [o7]) (rest := []) (lenOf pd_0_5 rfl) rfl (by show 2 * 0 + _ ≤ _; exact Nat.le_of_eq rfl) (hb hby at_137) (fun _ _ => ⟨rfl, e14, (by decide : 17 + 1 ≤ _), (by decide : 71 + 7 ≤ _)⟩)
  dsimp only [Pt.U, Pt.locs, Pt.cells, Pt.slots] at X15 l15 y15 z15 st15 hQ15
  subst l15 y15 z15
  obtain ⟨rfl, N15q, K15q, E15q, G15⟩ := hQ15
  have EB15 := EB13.keep K15q
  have Gid15 := Gid13.keep K15q (by simp)
  have Gname15 := Gname13.keep K15q (by simp)
  have GelementId15 := GelementId13.keep K15q (by simp)
  have GinstanceId15 := GinstanceId13.keep K15q (by simp)
  have Grole15 := Grole13.keep K15q (by simp)
  have Gstate15 := Gstate13.keep K15q (by simp)
  have Gassignee15 := Gassignee13.keep K15q (by simp)
  have SREADY15 := own_sk SREADY13 K15q
  have SRESERVED15 := own_sk SRESERVED13 K15q
  have SCOMPLETED15 := own_sk SCOMPLETED13 K15q
  have SWITHDRAWN15 := own_sk SWITHDRAWN13 K15q
  have Z15 : n0 ≤ T15.heap.size := Nat.le_trans Z13 K15q.1
  have N15 := Fr.app N14 N15q
  obtain ⟨cq16, kq16, q16a, q16b, q16c⟩ := isOf hZ rfl E15q
  obtain ⟨_, _, ⟨T16, L16, k16, n16⟩, -, X16, ⟨Lc16, hQ16, l16, y16, z16⟩, st16⟩ := X15.virtualBack hx (y := (⟨"com/example/flowmason/flowmason/engine/Task", "open", "()Z"⟩ : MethodName)) (z := (⟨"com/example/flowmason/flowmason/engine/Task", "open", "()Z"⟩ : MethodName)) hown (mvT hZ (hw _ (List.mem_of_getElem? (i := 50) rfl))) (mvT hZ (hw _ (List.mem_of_getElem? (i := 51) rfl))) (notFace_of_selects (args := #[]) (mvT hZ (hw _ (List.mem_of_getElem? (i := 53) rfl)))) (mvT hZ (hw _ (List.mem_of_getElem? (i := 53) rfl))) (mvT hZ (hw _ (List.mem_of_getElem? (i := 52) rfl))) (by decide) (backOf (W := 0) (rm6 l Z a0 hw [] T13.heap.size wCOMPLETED wREADY wRESERVED T15.heap n0 Z15 G15 SREADY15 SRESERVED15) hZ (hw _ (List.mem_of_getElem? (i := 54) rfl)) (hw _ (List.mem_of_getElem? (i := 21) rfl)) (by decide) (by decide)) q16a q16c (g := (mkF m 140 #[s0, s1, s2, s3, .val (.int i4), .val (.ref o5), .val o6, .val o7, .val o8, .val o9, .val (.ref b5), .val (.int (0 : Int32))] [(.ref T13.heap.size)])) rfl (by rw [hml]; rfl) (Steps.refl _) (argsL := []) (rest := []) (lenOf pd_0_4 rfl) rfl (by show 2 * 0 + _ ≤ _; exact Nat.le_of_eq rfl) (hb hby at_140) (fun _ _ => ⟨rfl, rfl, (by decide : 18 + 0 ≤ _), (by decide : 78 + 0 ≤ _)⟩)
  dsimp only [Pt.U, Pt.locs, Pt.cells, Pt.slots] at X16 l16 y16 z16 st16 hQ16
  subst l16 y16 z16
  obtain ⟨rfl, N16q, e16⟩ := hQ16
  have N16 := Fr.app N15 N16q
  obtain ⟨cq17, kq17, q17a, q17b, q17c⟩ := isOf hZ e16 EB15
  obtain ⟨_, _, ⟨T17, L17, k17, n17⟩, -, X17, ⟨Lc17, hQ17, l17, y17, z17⟩, st17⟩ := X16.virtualBack hx (y := (⟨"com/example/flowmason/flowmason/engine/Task", "withdrawn", "()Lcom/example/flowmason/flowmason/engine/Task;"⟩ : MethodName)) (z := (⟨"com/example/flowmason/flowmason/engine/Task", "withdrawn", "()Lcom/example/flowmason/flowmason/engine/Task;"⟩ : MethodName)) hown (mvT hZ (hw _ (List.mem_of_getElem? (i := 77) rfl))) (mvT hZ (hw _ (List.mem_of_getElem? (i := 78) rfl))) (notFace_of_selects (args := #[]) (mvT hZ (hw _ (List.mem_of_getElem? (i := 80) rfl)))) (mvT hZ (hw _ (List.mem_of_getElem? (i := 80) rfl))) (mvT hZ (hw _ (List.mem_of_getElem? (i := 79) rfl))) (by decide) (backOf (W := 0) (rm10 l Z a0 hw [] b5 (.ref b6) rfl o8 hr_o8 (.ref b7) rfl (.ref b8) rfl o9 hr_o9 wWITHDRAWN o6 hr_o6 T15.heap n0 Z15 Gid15 Gname15 GelementId15 GinstanceId15 Grole15 SWITHDRAWN15 Gassignee15) hZ (hw _ (List.mem_of_getElem? (i := 81) rfl)) (hw _ (List.mem_of_getElem? (i := 21) rfl)) (by decide) (by decide)) q17a q17c (g := (mkF m 150 #[s0, s1, s2, s3, .val (.int i4), .val (.ref o5), .val o6, .val o7, .val o8, .val o9, .val (.ref b5), .val (.int (0 : Int32))] [(.ref b5)])) rfl (by rw [hml]; rfl) (Steps.refl _) (argsL := []) (rest := []) (lenOf pd_0_6 rfl) rfl (by show 2 * 0 + _ ≤ _; exact Nat.le_of_eq rfl) (hb hby at_150) (fun _ _ => ⟨rfl, e16, (by decide : 18 + 1 ≤ _), (by decide : 78 + 7 ≤ _)⟩)
  dsimp only [Pt.U, Pt.locs, Pt.cells, Pt.slots] at X17 l17 y17 z17 st17 hQ17
  subst l17 y17 z17
  obtain ⟨rfl, N17q, K17q, E17q, G17⟩ := hQ17
  have EB17 := EB15.keep K17q
  have Gid17 := Gid15.keep K17q (by simp)
  have Gname17 := Gname15.keep K17q (by simp)
  have GelementId17 := GelementId15.keep K17q (by simp)
  have GinstanceId17 := GinstanceId15.keep K17q (by simp)
  have Grole17 := Grole15.keep K17q (by simp)
  have Gstate17 := Gstate15.keep K17q (by simp)
  have Gassignee17 := Gassignee15.keep K17q (by simp)
  have SREADY17 := own_sk SREADY15 K17q
  have SRESERVED17 := own_sk SRESERVED15 K17q
  have SCOMPLETED17 := own_sk SCOMPLETED15 K17q
  have SWITHDRAWN17 := own_sk SWITHDRAWN15 K17q
  have Z17 : n0 ≤ T17.heap.size := Nat.le_trans Z15 K17q.1
  have N17 := Fr.app N16 N17q
  obtain ⟨cq18, kq18, q18a, q18b, q18c⟩ := isOf hZ rfl E17q
  obtain ⟨_, _, ⟨T18, L18, k18, n18⟩, -, X18, ⟨Lc18, hQ18, l18, y18, z18⟩, st18⟩ := X17.virtualBack hx (y := (⟨"com/example/flowmason/flowmason/engine/Task", "open", "()Z"⟩ : MethodName)) (z := (⟨"com/example/flowmason/flowmason/engine/Task", "open", "()Z"⟩ : MethodName)) hown (mvT hZ (hw _ (List.mem_of_getElem? (i := 50) rfl))) (mvT hZ (hw _ (List.mem_of_getElem? (i := 51) rfl))) (notFace_of_selects (args := #[]) (mvT hZ (hw _ (List.mem_of_getElem? (i := 53) rfl)))) (mvT hZ (hw _ (List.mem_of_getElem? (i := 53) rfl))) (mvT hZ (hw _ (List.mem_of_getElem? (i := 52) rfl))) (by decide) (backOf (W := 0) (rm6 l Z a0 hw [] T15.heap.size wWITHDRAWN wREADY wRESERVED T17.heap n0 Z17 G17 SREADY17 SRESERVED17) hZ (hw _ (List.mem_of_getElem? (i := 54) rfl)) (hw _ (List.mem_of_getElem? (i := 21) rfl)) (by decide) (by decide)) q18a q18c (g := (mkF m 153 #[s0, s1, s2, s3, .val (.int i4), .val (.ref o5), .val o6, .val o7, .val o8, .val o9, .val (.ref b5), .val (.int (0 : Int32))] [(.ref T15.heap.size)])) rfl (by rw [hml]; rfl) (Steps.refl _) (argsL := []) (rest := []) (lenOf pd_0_4 rfl) rfl (by show 2 * 0 + _ ≤ _; exact Nat.le_of_eq rfl) (hb hby at_153) (fun _ _ => ⟨rfl, rfl, (by decide : 19 + 0 ≤ _), (by decide : 85 + 0 ≤ _)⟩)
  dsimp only [Pt.U, Pt.locs, Pt.cells, Pt.slots] at X18 l18 y18 z18 st18 hQ18
  subst l18 y18 z18
  obtain ⟨rfl, N18q, e18⟩ := hQ18
  have N18 := Fr.app N17 N18q
  refine ⟨_, k8, T18, Lc9 ++ Lc10 ++ Lc11 ++ Lc12 ++ Lc13 ++ Lc14 ++ Lc15 ++ Lc16 ++ Lc17 ++ Lc18, b5, (by simp only [← List.append_assoc]; exact X18), hS, (by rw [e18]; exact Nat.le_trans hk (Nat.le_trans K9q.1 (Nat.le_trans K11q.1 (Nat.le_trans K13q.1 (Nat.le_trans K15q.1 K17q.1))))), N18, fun target kt => ?_⟩
  show Steps p.tables e below (T0.setTop (mkF m 57 #[s0, s1, s2, s3, .val (.int i4), .val (.ref o5), .val o6, .val o7, .val o8, .val o9, s10, s11] [])) _
  refine st5 _ ?_
  show Steps p.tables e below (T5.setTop (mkF m 60 #[s0, s1, s2, s3, .val (.int i4), .val (.ref o5), .val o6, .val o7, .val o8, .val o9, s10, s11] [(.ref b5)])) _
  refine XS.dup X5.here hx rfl (hb hby at_60) rfl rfl ?_
  show Steps p.tables e below (T5.setTop (mkF m 61 #[s0, s1, s2, s3, .val (.int i4), .val (.ref o5), .val o6, .val o7, .val o8, .val o9, s10, s11] [(.ref b5), (.ref b5)])) _
  refine st6 _ ?_
  show Steps p.tables e below (T6.setTop (mkF m 63 #[s0, s1, s2, s3, .val (.int i4), .val (.ref o5), .val o6, .val o7, .val o8, .val o9, s10, s11] [(.ref b6), (.ref b5), (.ref b5)])) _
  refine XS.aload X6.here hx rfl (hb hby at_63) rfl hr_o8 ?_
  show Steps p.tables e below (T6.setTop (mkF m 65 #[s0, s1, s2, s3, .val (.int i4), .val (.ref o5), .val o6, .val o7, .val o8, .val o9, s10, s11] [o8, (.ref b6), (.ref b5), (.ref b5)])) _
  refine st7 _ ?_
  show Steps p.tables e below (T7.setTop (mkF m 67 #[s0, s1, s2, s3, .val (.int i4), .val (.ref o5), .val o6, .val o7, .val o8, .val o9, s10, s11] [(.ref b7), o8, (.ref b6), (.ref b5), (.ref b5)])) _
  refine st8 _ ?_
  show Steps p.tables e below (T8.setTop (mkF m 69 #[s0, s1, s2, s3, .val (.int i4), .val (.ref o5), .val o6, .val o7, .val o8, .val o9, s10, s11] [(.ref b8), (.ref b7), o8, (.ref b6), (.ref b5), (.ref b5)])) _
  refine XS.aload X8.here hx rfl (hb hby at_69) rfl hr_o9 ?_
  show Steps p.tables e below (T8.setTop (mkF m 71 #[s0, s1, s2, s3, .val (.int i4), .val (.ref o5), .val o6, .val o7, .val o8, .val o9, s10, s11] [o9, (.ref b8), (.ref b7), o8, (.ref b6), (.ref b5), (.ref b5)])) _
  refine XS.aload X8.here hx rfl (hb hby at_71) rfl rfl ?_
  show Steps p.tables e below (T8.setTop (mkF m 73 #[s0, s1, s2, s3, .val (.int i4), .val (.ref o5), .val o6, .val o7, .val o8, .val o9, s10, s11] [(.ref o5), o9, (.ref b8), (.ref b7), o8, (.ref b6), (.ref b5), (.ref b5)])) _
  refine XS.aload X8.here hx rfl (hb hby at_73) rfl hr_o6 ?_
  show Steps p.tables e below (T8.setTop (mkF m 75 #[s0, s1, s2, s3, .val (.int i4), .val (.ref o5), .val o6, .val o7, .val o8, .val o9, s10, s11] [o6, (.ref o5), o9, (.ref b8), (.ref b7), o8, (.ref b6), (.ref b5), (.ref b5)])) _
  refine st9.trans ?_
  show Steps p.tables e below (T9.setTop (mkF m 78 #[s0, s1, s2, s3, .val (.int i4), .val (.ref o5), .val o6, .val o7, .val o8, .val o9, s10, s11] [(.ref b5)])) _
  refine XS.astore X9.here hx rfl (hb hby at_78) rfl rfl (l' := #[s0, s1, s2, s3, .val (.int i4), .val (.ref o5), .val o6, .val o7, .val o8, .val o9, .val (.ref b5), s11]) (os0_78_s4t hs10) ?_
  show Steps p.tables e below (T9.setTop (mkF m 80 #[s0, s1, s2, s3, .val (.int i4), .val (.ref o5), .val o6, .val o7, .val o8, .val o9, .val (.ref b5), s11] [])) _
  refine XS.iload X9.here hx rfl (hb hby at_80) rfl ?_
  show Steps p.tables e below (T9.setTop (mkF m 82 #[s0, s1, s2, s3, .val (.int i4), .val (.ref o5), .val o6, .val o7, .val o8, .val o9, .val (.ref b5), s11] [(.int i4)])) _
  refine XS.iconst X9.here hx rfl (hb hby at_82) ?_
  show Steps p.tables e below (T9.setTop (mkF m 83 #[s0, s1, s2, s3, .val (.int i4), .val (.ref o5), .val o6, .val o7, .val o8, .val o9, .val (.ref b5), s11] [(.int (2 : Int32)), (.int i4)])) _
  refine XS.icmpYes X9.here hx rfl (pc0 := 83) (pc' := 90) rfl (hb hby at_83) rfl (flt hc83).2.1 (by decide) (by decide) ?_
  show Steps p.tables e below (T9.setTop (mkF m 90 #[s0, s1, s2, s3, .val (.int i4), .val (.ref o5), .val o6, .val o7, .val o8, .val o9, .val (.ref b5), s11] [])) _
  refine XS.iconst X9.here hx rfl (hb hby at_90) ?_
  show Steps p.tables e below (T9.setTop (mkF m 91 #[s0, s1, s2, s3, .val (.int i4), .val (.ref o5), .val o6, .val o7, .val o8, .val o9, .val (.ref b5), s11] [(.int (0 : Int32))])) _
  refine XS.istore X9.here hx rfl (hb hby at_91) rfl (l' := #[s0, s1, s2, s3, .val (.int i4), .val (.ref o5), .val o6, .val o7, .val o8, .val o9, .val (.ref b5), .val (.int (0 : Int32))]) (os0_91_s4t hs11) ?_
  show Steps p.tables e below (T9.setTop (mkF m 93 #[s0, s1, s2, s3, .val (.int i4), .val (.ref o5), .val o6, .val o7, .val o8, .val o9, .val (.ref b5), .val (.int (0 : Int32))] [])) _
  refine XS.aload X9.here hx rfl (hb hby at_93) rfl rfl ?_
  show Steps p.tables e below (T9.setTop (mkF m 95 #[s0, s1, s2, s3, .val (.int i4), .val (.ref o5), .val o6, .val o7, .val o8, .val o9, .val (.ref b5), .val (.int (0 : Int32))] [(.ref b5)])) _
  refine st10.trans ?_
  show Steps p.tables e below (T10.setTop (mkF m 98 #[s0, s1, s2, s3, .val (.int i4), .val (.ref o5), .val o6, .val o7, .val o8, .val o9, .val (.ref b5), .val (.int (0 : Int32))] [(.int (opV o5 wREADY wRESERVED))])) _
  refine XS.iload X10.here hx rfl (hb hby at_98) rfl ?_
  show Steps p.tables e below (T10.setTop (mkF m 100 #[s0, s1, s2, s3, .val (.int i4), .val (.ref o5), .val o6, .val o7, .val o8, .val o9, .val (.ref b5), .val (.int (0 : Int32))] [(.int (0 : Int32)), (.int (opV o5 wREADY wRESERVED))])) _
  refine XS.icmpYes X10.here hx rfl (pc0 := 100) (pc' := 105) rfl (hb hby at_100) rfl (teq o10).1 (by decide) (by decide) ?_
  show Steps p.tables e below (T10.setTop (mkF m 105 #[s0, s1, s2, s3, .val (.int i4), .val (.ref o5), .val o6, .val o7, .val o8, .val o9, .val (.ref b5), .val (.int (0 : Int32))] [])) _
  refine XS.aload X10.here hx rfl (hb hby at_105) rfl rfl ?_
  show Steps p.tables e below (T10.setTop (mkF m 107 #[s0, s1, s2, s3, .val (.int i4), .val (.ref o5), .val o6, .val o7, .val o8, .val o9, .val (.ref b5), .val (.int (0 : Int32))] [(.ref b5)])) _
  refine XS.aload X10.here hx rfl (hb hby at_107) rfl hr_o7 ?_
  show Steps p.tables e below (T10.setTop (mkF m 109 #[s0, s1, s2, s3, .val (.int i4), .val (.ref o5), .val o6, .val o7, .val o8, .val o9, .val (.ref b5), .val (.int (0 : Int32))] [o7, (.ref b5)])) _
  refine st11.trans ?_
  show Steps p.tables e below (T11.setTop (mkF m 112 #[s0, s1, s2, s3, .val (.int i4), .val (.ref o5), .val o6, .val o7, .val o8, .val o9, .val (.ref b5), .val (.int (0 : Int32))] [(.ref T9.heap.size)])) _
  refine st12.trans ?_
  show Steps p.tables e below (T12.setTop (mkF m 115 #[s0, s1, s2, s3, .val (.int i4), .val (.ref o5), .val o6, .val o7, .val o8, .val o9, .val (.ref b5), .val (.int (0 : Int32))] [(.int (opV wRESERVED wREADY wRESERVED))])) _
  refine XS.ifYes X12.here hx rfl (pc0 := 115) (pc' := 120) rfl (hb hby at_115) rfl ((if0 _ _).trans (feq oV).2) (by decide) (by decide) ?_
  show Steps p.tables e below (T12.setTop (mkF m 120 #[s0, s1, s2, s3, .val (.int i4), .val (.ref o5), .val o6, .val o7, .val o8, .val o9, .val (.ref b5), .val (.int (0 : Int32))] [])) _
  refine XS.aload X12.here hx rfl (hb hby at_120) rfl rfl ?_
  show Steps p.tables e below (T12.setTop (mkF m 122 #[s0, s1, s2, s3, .val (.int i4), .val (.ref o5), .val o6, .val o7, .val o8, .val o9, .val (.ref b5), .val (.int (0 : Int32))] [(.ref b5)])) _
  refine st13.trans ?_
  show Steps p.tables e below (T13.setTop (mkF m 125 #[s0, s1, s2, s3, .val (.int i4), .val (.ref o5), .val o6, .val o7, .val o8, .val o9, .val (.ref b5), .val (.int (0 : Int32))] [(.ref T11.heap.size)])) _
  refine st14.trans ?_
  show Steps p.tables e below (T14.setTop (mkF m 128 #[s0, s1, s2, s3, .val (.int i4), .val (.ref o5), .val o6, .val o7, .val o8, .val o9, .val (.ref b5), .val (.int (0 : Int32))] [(.int (opV wREADY wREADY wRESERVED))])) _
  refine XS.ifYes X14.here hx rfl (pc0 := 128) (pc' := 133) rfl (hb hby at_128) rfl ((if0 _ _).trans (feq oR).2) (by decide) (by decide) ?_
  show Steps p.tables e below (T14.setTop (mkF m 133 #[s0, s1, s2, s3, .val (.int i4), .val (.ref o5), .val o6, .val o7, .val o8, .val o9, .val (.ref b5), .val (.int (0 : Int32))] [])) _
  refine XS.aload X14.here hx rfl (hb hby at_133) rfl rfl ?_
  show Steps p.tables e below (T14.setTop (mkF m 135 #[s0, s1, s2, s3, .val (.int i4), .val (.ref o5), .val o6, .val o7, .val o8, .val o9, .val (.ref b5), .val (.int (0 : Int32))] [(.ref b5)])) _
  refine XS.aload X14.here hx rfl (hb hby at_135) rfl hr_o7 ?_
  show Steps p.tables e below (T14.setTop (mkF m 137 #[s0, s1, s2, s3, .val (.int i4), .val (.ref o5), .val o6, .val o7, .val o8, .val o9, .val (.ref b5), .val (.int (0 : Int32))] [o7, (.ref b5)])) _
  refine st15.trans ?_
  show Steps p.tables e below (T15.setTop (mkF m 140 #[s0, s1, s2, s3, .val (.int i4), .val (.ref o5), .val o6, .val o7, .val o8, .val o9, .val (.ref b5), .val (.int (0 : Int32))] [(.ref T13.heap.size)])) _
  refine st16.trans ?_
  show Steps p.tables e below (T16.setTop (mkF m 143 #[s0, s1, s2, s3, .val (.int i4), .val (.ref o5), .val o6, .val o7, .val o8, .val o9, .val (.ref b5), .val (.int (0 : Int32))] [(.int (opV wCOMPLETED wREADY wRESERVED))])) _
  refine XS.ifYes X16.here hx rfl (pc0 := 143) (pc' := 148) rfl (hb hby at_143) rfl ((if0 _ _).trans (teq oC).1) (by decide) (by decide) ?_
  show Steps p.tables e below (T16.setTop (mkF m 148 #[s0, s1, s2, s3, .val (.int i4), .val (.ref o5), .val o6, .val o7, .val o8, .val o9, .val (.ref b5), .val (.int (0 : Int32))] [])) _
  refine XS.aload X16.here hx rfl (hb hby at_148) rfl rfl ?_
  show Steps p.tables e below (T16.setTop (mkF m 150 #[s0, s1, s2, s3, .val (.int i4), .val (.ref o5), .val o6, .val o7, .val o8, .val o9, .val (.ref b5), .val (.int (0 : Int32))] [(.ref b5)])) _
  refine st17.trans ?_
  show Steps p.tables e below (T17.setTop (mkF m 153 #[s0, s1, s2, s3, .val (.int i4), .val (.ref o5), .val o6, .val o7, .val o8, .val o9, .val (.ref b5), .val (.int (0 : Int32))] [(.ref T15.heap.size)])) _
  refine st18.trans ?_
  show Steps p.tables e below (T18.setTop (mkF m 156 #[s0, s1, s2, s3, .val (.int i4), .val (.ref o5), .val o6, .val o7, .val o8, .val o9, .val (.ref b5), .val (.int (0 : Int32))] [(.int (opV wWITHDRAWN wREADY wRESERVED))])) _
  refine XS.ifNo X18.here hx rfl (hb hby at_156) rfl ((if0 _ _).trans (teq oW).2) ?_
  show Steps p.tables e below (T18.setTop (mkF m 159 #[s0, s1, s2, s3, .val (.int i4), .val (.ref o5), .val o6, .val o7, .val o8, .val o9, .val (.ref b5), .val (.int (0 : Int32))] [])) _
  refine XS.iconst X18.here hx rfl (hb hby at_159) ?_
  show Steps p.tables e below (T18.setTop (mkF m 160 #[s0, s1, s2, s3, .val (.int i4), .val (.ref o5), .val o6, .val o7, .val o8, .val o9, .val (.ref b5), .val (.int (0 : Int32))] [(.int (1 : Int32))])) _
  refine XS.goto X18.here hx rfl (pc0 := 160) (pc' := 164) rfl (hb hby at_160) (by decide) (by decide) ?_
  exact kt
theorem pn_0 : plainName "com/example/flowmason/flowmason/engine/TaskOpenPinLaw" = true := by first | (simp [plainName, overriddenIn]; done) | decide +kernel
theorem ef_0 (m : MethodId) (x0 : Int32) (x1 : Int32) (x2 : Int32) (x3 : Int32) : entryFrame m #[(.int x0), (.int x1), (.int x2), (.int x3)] maxLocals = mkF m 0 #[.val (.int x0), .val (.int x1), .val (.int x2), .val (.int x3), .unset, .unset, .unset, .unset, .unset, .unset, .unset, .unset] [] := by first | (simp [entryFrame, mkF, argsToLocals, Value.category, maxLocals]; done) | rfl
def QOne (n0 : Nat) (v : Option Value) (h : Heap) (L : List Loc) : Prop := v = some (.int 1) ∧ Fr n0 L
set_option maxRecDepth 65536 in
set_option maxHeartbeats 40000000 in
theorem rm0 (l : Launch) (Z : State) (a0 : Array Value) (hw : ∀ d ∈ tables_1, d.before a0 Z = true) (ws : List Jvm.Cond) (p1 p2 p3 p4 : Int32) (b : Addr) (w2 : Int32) (wREADY wRESERVED wCOMPLETED wWITHDRAWN : Addr) (h0 : Heap) (n0 : Nat) (Z0 : n0 ≤ h0.size) (hpick : Pick Z h0 (p1 &&& (3 : Int32)) b) (S_COMPACT_STRINGS : Sta Z h0 "java/lang/String" "COMPACT_STRINGS" "Z" (.int w2)) (hcs : ¬ (w2 = (0 : Int32))) (wS : ∀ a ∈ Bundle.stringAtoms, a.before a0 Z = true) (S_READY : Sta Z h0 "com/example/flowmason/flowmason/engine/Task$State" "READY" "Lcom/example/flowmason/flowmason/engine/Task$State;" (.ref wREADY)) (S_RESERVED : Sta Z h0 "com/example/flowmason/flowmason/engine/Task$State" "RESERVED" "Lcom/example/flowmason/flowmason/engine/Task$State;" (.ref wRESERVED)) (S_COMPLETED : Sta Z h0 "com/example/flowmason/flowmason/engine/Task$State" "COMPLETED" "Lcom/example/flowmason/flowmason/engine/Task$State;" (.ref wCOMPLETED)) (S_WITHDRAWN : Sta Z h0 "com/example/flowmason/flowmason/engine/Task$State" "WITHDRAWN" "Lcom/example/flowmason/flowmason/engine/Task$State;" (.ref wWITHDRAWN)) (o10 : opV b wREADY wRESERVED = if (p1 &&& (3 : Int32)) < (2 : Int32) then 1 else 0) (oV : ¬ opV wRESERVED wREADY wRESERVED = 0) (oR : ¬ opV wREADY wREADY wRESERVED = 0) (oC : opV wCOMPLETED wREADY wRESERVED = 0) (oW : opV wWITHDRAWN wREADY wRESERVED = 0) :
    MetFree l x (head1 (Jvm.Cond.code x code maxLocals ret :: ws) room_1) (fun a U => a = #[(.int p1), (.int p2), (.int p3), (.int p4)] ∧ Z.Warmed39 U.vm ∧ U.heap = h0) (fun _ _ _ _ _ => True) (fun _ U o U' => ∃ v L, o = .returned v ∧ QOne n0 v U'.heap L ∧ ReturnedEndW U o U' L 19 85) := by
  refine MetFree.of_bodySF (plainFor_of_name pn_0) hisR ?_
  intro p e s m args below meth c s₁ Bd hml0 hP hK
  obtain ⟨rfl, hZ, hh⟩ := hP
  have hx := Bd.exec
  have hby := Bd.bytes
  have hml : c.maxLocals = 12 := hml0
  have hown : s.vm.findClass "com/example/flowmason/flowmason/engine/TaskOpenPinLaw" = some m.cls := findClass_of_methodNamed Bd.named
  have hnm := (name_of_methodNamed Bd.named Bd.method).1
  have X0 : Stand p l e room_1 s m #[(.int p1), (.int p2), (.int p3), (.int p4)] below meth c s₁ [] 0 0 := Stand.of_body Bd
  have e0 : s₁.heap = h0 := by rw [← hh, Bd.state]; rfl
  have N0 := Fr.nil n0
  have pre0 : ∀ t, Steps p.tables e below (s₁.setTop (mkF m 0 #[.val (.int p1), .val (.int p2), .val (.int p3), .val (.int p4), .unset, .unset, .unset, .unset, .unset, .unset, .unset, .unset] [])) t → Steps p.tables e below (s₁.setTop (entryFrame m #[(.int p1), (.int p2), (.int p3), (.int p4)] maxLocals)) t := fun t k => castTop (ef_0 m p1 p2 p3 p4) k
  obtain ⟨T1, L1, r, r', hr, hr', X1, N1, K1, st1⟩ := s1 _ _ _ _ _ _ _ _ _ _ _ _ X0 hx hZ hw hby hml hown e0 Z0 b hpick w2 S_COMPACT_STRINGS hcs One.u One.u One.u One.u
  have Z1 : n0 ≤ T1.heap.size := Nat.le_trans Z0 K1.1
  obtain ⟨vm2, k2, T2, r2, hr2, X2, hS2, hk2, hZ2, hown2, K2, st2⟩ := s2 (vm0 := s.vm) (k0 := 0) _ _ _ _ _ _ _ _ _ _ _ _ X1 hx hZ hw hby hml hown rfl Z1 wS ((State.WarmedH.refl s).since 0) (Nat.zero_le _) One.u
  have Z2 : n0 ≤ T2.heap.size := Nat.le_trans Z1 K2.1
  obtain ⟨vm3, k3, T3, r3, hr3, X3, hS3, hk3, hZ3, hown3, K3, st3⟩ := s3 _ _ _ _ _ _ _ _ _ _ _ _ X2 hx hZ2 hw hby hml hown2 rfl Z2 wS hS2 hk2 One.u
  have Z3 : n0 ≤ T3.heap.size := Nat.le_trans Z2 K3.1
  by_cases q : (p1 &&& (3 : Int32)) < (2 : Int32)
  · rw [if_pos q] at o10
    obtain ⟨vm4, k4, T4, L4, bb, X4, hS4, hk4, N4, st4⟩ := s4f _ _ _ _ _ b _ hr _ hr' _ hr2 _ hr3 _ _ wREADY wRESERVED wCOMPLETED wWITHDRAWN X3 hx hZ3 hw hby hml hown3 rfl Z3 wS hS3 hk3 (own_sk (own_sk (own_sk S_READY K1) K2) K3) (own_sk (own_sk (own_sk S_RESERVED K1) K2) K3) (own_sk (own_sk (own_sk S_COMPLETED K1) K2) K3) (own_sk (own_sk (own_sk S_WITHDRAWN K1) K2) K3) o10 oV oR oC oW One.u One.u q
    obtain ⟨fs, hr, hrun, hended, hend⟩ := X4.leaveW hS4 hk4 (v := some (.int (1 : Int32))) (fun h => by rw [Bd.returns] at h; cases h)
    refine ⟨_, _, pre0 _ ?_, hrun, hended, _, _, rfl, ?_, hend⟩
    · refine st1 _ (st2 _ (st3 _ (st4 _ ?_)))
      exact retN X4 hx (t := .boolean) Bd.returns (by simp) (hb hby at_164) hr
    · exact ⟨rfl, Fr.app (Fr.app N0 N1) N4⟩
  · rw [if_neg q] at o10
    obtain ⟨vm4, k4, T4, L4, bb, X4, hS4, hk4, N4, st4⟩ := s4t _ _ _ _ _ b _ hr _ hr' _ hr2 _ hr3 _ _ wREADY wRESERVED wCOMPLETED wWITHDRAWN X3 hx hZ3 hw hby hml hown3 rfl Z3 wS hS3 hk3 (own_sk (own_sk (own_sk S_READY K1) K2) K3) (own_sk (own_sk (own_sk S_RESERVED K1) K2) K3) (own_sk (own_sk (own_sk S_COMPLETED K1) K2) K3) (own_sk (own_sk (own_sk S_WITHDRAWN K1) K2) K3) o10 oV oR oC oW One.u One.u q
    obtain ⟨fs, hr, hrun, hended, hend⟩ := X4.leaveW hS4 hk4 (v := some (.int (1 : Int32))) (fun h => by rw [Bd.returns] at h; cases h)
    refine ⟨_, _, pre0 _ ?_, hrun, hended, _, _, rfl, ?_, hend⟩
    · refine st1 _ (st2 _ (st3 _ (st4 _ ?_)))
      exact retN X4 hx (t := .boolean) Bd.returns (by simp) (hb hby at_164) hr
    · exact ⟨rfl, Fr.app (Fr.app N0 N1) N4⟩
theorem own_three (a : Int32) : a &&& 3 = 0 ∨ a &&& 3 = 1 ∨ a &&& 3 = 2 ∨ a &&& 3 = 3 := by
  have e1 := Jvm.Kit.i32_mask a 3 (k := 2) (by decide) (by decide)
  generalize a &&& 3 = z at e1
  have h : z.toInt = 0 ∨ z.toInt = 1 ∨ z.toInt = 2 ∨ z.toInt = 3 := by omega
  simp only [← Int32.toInt_inj]
  exact h
set_option maxRecDepth 65536 in
set_option maxHeartbeats 40000000 in
theorem comes_1 {Post : Tables → Env → Array Value → State → Outcome → State → Prop} (hpost : ∀ tb e args s v u, (limb_1_1.after args s (.returned v) u = true ∧ limb_1_2.after args s (.returned v) u = true ∧ True) → ReturnedEndW s (.returned v) u (Jvm.fieldLocs frame_1_writes args s ++ Jvm.arrayLocs frame_1_arrays args s ++ Jvm.staticLocs frame_1_statics s) 40 5312 → Post tb e args s (.returned v) u) :
    ArmFor flags0 classFile x code maxLocals ret World_1 tables_1 room_1 Calls_1 rest_1 Pre_1 Post := by
  intro l hfl _ _ p e ha hc hk s m args below hf hA hF happ hP
  obtain ⟨hcalls, hrest, hpre⟩ := hP
  obtain ⟨-, -, -, hnamed, -, -, -, hat⟩ := (Spec.applies_iff hf).mp happ
  obtain ⟨hg, hn⟩ := and_e (Cond.before_iff.mp (show (Jvm.Cond.and given_1 narrow_1).before args s = true from hpre))
  obtain ⟨g24, g25⟩ := and_e hg
  obtain ⟨g26, g27⟩ := and_e g25
  obtain ⟨g28, g29⟩ := and_e g27
  obtain ⟨g30, g31⟩ := and_e g29
  obtain ⟨w0, w1, w2, w3, rfl⟩ : ∃ w0 w1 w2 w3 : Value, args = #[w0, w1, w2, w3] := by
    have hs : args.size = 4 := by simpa [Cond.value, given_1] using g24
    obtain ⟨L⟩ := args
    match L, hs with
    | [w0, w1, w2, w3], _ => exact ⟨w0, w1, w2, w3, rfl⟩
  have hw := fun d (hd : d ∈ tables_1) => atoms_spec (ws := Jvm.Cond.code x code maxLocals ret :: tables_1) hat d (List.mem_cons_of_mem _ hd)
  have hfit : Fit s := fun {y c} hc i hi => by
    obtain ⟨ha, rfl⟩ := Array.getElem?_eq_some_iff.mp hc
    have q := List.all_eq_true.mp ((Array.all_eq_true_iff_forall_mem.mp hF) _ (Array.getElem_mem ha)) i (List.mem_range.mpr hi)
    simpa [Array.getElem?_eq_getElem hi] using q
  obtain ⟨hsets, hown0⟩ := atoms_of _ (rest_1_c_eq ▸ (show rest_1_c.before _ s = true from hrest))
  have hr0 := Cond.before_iff.mp hown0
  obtain ⟨i0, ei0⟩ := is_v g26
  obtain rfl : w0 = (.int i0) := Option.some.inj ei0
  obtain ⟨i1, ei1⟩ := is_v g28
  obtain rfl : w1 = (.int i1) := Option.some.inj ei1
  obtain ⟨i2, ei2⟩ := is_v g30
  obtain rfl : w2 = (.int i2) := Option.some.inj ei2
  obtain ⟨i3, ei3⟩ := is_v g31
  obtain rfl : w3 = (.int i3) := Option.some.inj ei3
  obtain ⟨c0, cc0⟩ := and_e hn
  obtain ⟨c1, cc1⟩ := and_e cc0
  obtain ⟨c2, cc2⟩ := and_e cc1
  obtain ⟨c3, cc3⟩ := and_e cc2
  obtain ⟨c4, cc4⟩ := and_e cc3
  obtain ⟨c5, cc5⟩ := and_e cc4
  obtain ⟨c6, cc6⟩ := and_e cc5
  obtain ⟨a_READY, v_READY⟩ := exa_v c0
  have E_READY := Exa.start v_READY c0
  have S_READY := Sta.start v_READY (Or.inr ⟨hw _ (List.mem_of_getElem? (i := 5) rfl), hw _ (List.mem_of_getElem? (i := 6) rfl)⟩)
  obtain ⟨a_RESERVED, v_RESERVED⟩ := exa_v c1
  have E_RESERVED := Exa.start v_RESERVED c1
  have S_RESERVED := Sta.start v_RESERVED (Or.inr ⟨hw _ (List.mem_of_getElem? (i := 5) rfl), hw _ (List.mem_of_getElem? (i := 63) rfl)⟩)
  obtain ⟨a_COMPLETED, v_COMPLETED⟩ := exa_v c4
  have E_COMPLETED := Exa.start v_COMPLETED c4
  have S_COMPLETED := Sta.start v_COMPLETED (Or.inr ⟨hw _ (List.mem_of_getElem? (i := 5) rfl), hw _ (List.mem_of_getElem? (i := 76) rfl)⟩)
  obtain ⟨a_WITHDRAWN, v_WITHDRAWN⟩ := exa_v c6
  have E_WITHDRAWN := Exa.start v_WITHDRAWN c6
  have S_WITHDRAWN := Sta.start v_WITHDRAWN (Or.inr ⟨hw _ (List.mem_of_getElem? (i := 5) rfl), hw _ (List.mem_of_getElem? (i := 83) rfl)⟩)
  have ordinal_RESERVED := own_fi c2 v_RESERVED
  have ordinal_READY := own_fi c3 v_READY
  have ordinal_COMPLETED := own_fi c5 v_COMPLETED
  have ordinal_WITHDRAWN := own_fi cc6 v_WITHDRAWN
  have hrc := Cond.before_iff.mp (show rest_1_c.before #[(.int i0), (.int i1), (.int i2), (.int i3)] s = true from hrest)
  obtain ⟨r0, r0'⟩ := and_e hrc
  obtain ⟨r1, r1'⟩ := and_e r0'
  obtain ⟨r2, -⟩ := and_e r1'
  obtain ⟨w2, vcs⟩ := is_v r1
  have S_CS := Sta.start vcs (Or.inl (Cond.before_iff.mpr r0))
  have hcs : ¬ (w2 = (0 : Int32)) := fun q => by
    have z := not_v r2
    have e2 : (Term.int (0 : Int32)).eval #[(.int i0), (.int i1), (.int i2), (.int i3)] s none [] s = some (.int 0) := rfl
    simp only [Cond.value, vcs, e2, q] at z
    simp at z
  have wS : ∀ a ∈ Bundle.stringAtoms, a.before #[(.int i0), (.int i1), (.int i2), (.int i3)] s = true := fun a ha => by
    simp only [Bundle.stringAtoms, List.mem_cons, List.not_mem_nil, or_false] at ha
    rcases ha with rfl | rfl | rfl | rfl | rfl | rfl | rfl
    · exact (hw _ (List.mem_of_getElem? (i := 11) rfl))
    · exact (hw _ (List.mem_of_getElem? (i := 12) rfl))
    · exact (hw _ (List.mem_of_getElem? (i := 13) rfl))
    · exact (hw _ (List.mem_of_getElem? (i := 14) rfl))
    · exact (hw _ (List.mem_of_getElem? (i := 15) rfl))
    · exact (hw _ (List.mem_of_getElem? (i := 16) rfl))
    · exact (hw _ (List.mem_of_getElem? (i := 17) rfl))
  have oV : ¬ opV a_RESERVED a_READY a_RESERVED = 0 := by unfold opV; rw [if_neg (own_ne ordinal_RESERVED ordinal_READY (by decide)), if_pos rfl]; decide
  have oR : ¬ opV a_READY a_READY a_RESERVED = 0 := by unfold opV; rw [if_pos rfl]; decide
  have oC : opV a_COMPLETED a_READY a_RESERVED = 0 := by unfold opV; rw [if_neg (own_ne ordinal_COMPLETED ordinal_READY (by decide)), if_neg (own_ne ordinal_COMPLETED ordinal_RESERVED (by decide))]
  have oW : opV a_WITHDRAWN a_READY a_RESERVED = 0 := by unfold opV; rw [if_neg (own_ne ordinal_WITHDRAWN ordinal_READY (by decide)), if_neg (own_ne ordinal_WITHDRAWN ordinal_RESERVED (by decide))]
  obtain ⟨b, hpick, o10⟩ : ∃ b, Pick s s.heap (i0 &&& (3 : Int32)) b ∧ opV b a_READY a_RESERVED = if (i0 &&& (3 : Int32)) < (2 : Int32) then 1 else 0 := by
    rcases own_three i0 with q | q | q | q
    · exact ⟨a_READY, Or.inl ⟨q, S_READY⟩, by rw [q]; unfold opV; rw [if_pos rfl]; decide⟩
    · exact ⟨a_RESERVED, Or.inr (Or.inl ⟨q, S_RESERVED⟩), by rw [q]; unfold opV; rw [if_neg (own_ne ordinal_RESERVED ordinal_READY (by decide)), if_pos rfl]; decide⟩
    · exact ⟨a_COMPLETED, Or.inr (Or.inr (Or.inl ⟨q, S_COMPLETED⟩)), by rw [q, oC]; decide⟩
    · exact ⟨a_WITHDRAWN, Or.inr (Or.inr (Or.inr ⟨q, S_WITHDRAWN⟩)), by rw [q, oW]; decide⟩
  obtain ⟨n, o, h1, h2, h3, _, L, rfl, ⟨rfl, N⟩, hq⟩ := rm0 l s _ hw tables_1 i0 i1 i2 i3 b w2 a_READY a_RESERVED a_COMPLETED a_WITHDRAWN s.heap s.heap.size (Nat.le_refl _) hpick S_CS hcs wS S_READY S_RESERVED S_COMPLETED S_WITHDRAWN o10 oV oR oC oW p e ha hc hk s m _ below hf ((Spec.applies_iff_loose hf).mp happ).1 ⟨rfl, State.Warmed39.refl s, rfl⟩ trivial
  refine ⟨n, _, h1, h2, h3, hpost _ _ _ _ _ _ ⟨Cond.after_iff.mpr rfl, Cond.after_iff.mpr (eq_i res_at (Term.int_eval (1)) rfl), trivial⟩ ⟨hq.1, hq.2.1, hq.2.2.1, (hq.2.2.2.sift fun y hy => Or.inr (N y hy)).mono (by decide) (by decide)⟩⟩
theorem main_1_1 : Claimed_1_1 := comes_1 fun _ _ _ _ _ _ h hF => ⟨h.1, hF⟩
theorem main_1_2 : Claimed_1_2 := comes_1 fun _ _ _ _ _ _ h hF => ⟨h.2.1, hF⟩
end Jvm.Pilot.@@N@@
namespace Jvm.Pilot.@@N@@
open Jvm Jvm.ClassFile Sem Op Lib Jvm.Free Jvm.Stand Jvm.Pilot.@@N@@.Jvm.D
/-! MADE BY PROGRAM (witnessworld.py) out of the Statement's table words and the real class files: 20 classes; the members and pool entries that the words name. The judged class is class 1, her method 3. -/
namespace start1
open Jvm.ClassFile
def u (s : String) : CpInfo := .utf8 (stringToUtf16 s)
/-- a pool by its gaps: so many unusable entries, then the entry; so many at the end -/
def gap : Nat → List CpInfo → List CpInfo
  | 0, r => r
  | n + 1, r => .unusable :: gap n r
def poolList (es : List (Nat × CpInfo)) (last : Nat) : List CpInfo := es.foldr (fun e r => gap e.1 (e.2 :: r)) (gap last [])
def pool (es : List (Nat × CpInfo)) (last : Nat) : Array CpInfo := ⟨poolList es last⟩
def fileOf (pool : Array CpInfo) (this : Nat) (attrs : Array Attribute := #[]) (ms : Array MethodInfo := #[]) (fl : Nat := 33) (sup : Nat := 0) (ifs : Array Nat := #[]) (fds : Array FieldInfo := #[]) : ClassFile where
  minorVersion := 0
  majorVersion := 65
  constantPool := pool
  accessFlags := fl
  thisClass := this
  superClass := sup
  interfaces := ifs
  fields := fds
  methods := ms
  attributes := attrs
def plain (name : String) (sup : Option ClassId) : Class where
  name := name
  kind := .ordinary
  loader := none
  accessFlags := 33
  super := sup
  interfaces := #[]
  cf := none
  fields := #[]
  methods := #[]
  instanceTypes := #[]
  staticTypes := #[]
  resolved := #[]
  callSites := []
  init := .initialized
  statics := none
  mirror := none

def pool0 : Array CpInfo := pool [(5, u "<init>"), (0, u "()V"), (1, .class_ 10), (1, u "java/lang/Object")] 113

def k0c0 : Code := { maxStack := 0, maxLocals := 1, code := object_method_1_code, exceptionTable := #[], attributes := #[] }
def k0m0 : Method := { name := "<init>", desc := "()V", sig := { parameters := [], returnType := none }, accessFlags := 1, code := some k0c0 }
/-- java/lang/Object -/
def k0 : Class := { plain "java/lang/Object" none with
  accessFlags := 33
  interfaces := #[]
  cf := some (fileOf pool0 8 #[] #[{ accessFlags := 1, nameIndex := 5, descriptorIndex := 6, attributes := #[] }] 33 0 #[] #[])
  fields := #[]
  methods := #[k0m0]
  instanceTypes := #[]
  staticTypes := #[]
  resolved := Array.replicate 124 none
  statics := none }

def pool1 : Array CpInfo := pool [(2, .class_ 4), (1, u "java/lang/Object"), (0, u "<init>"), (0, u "()V"), (0, .fieldref 8 9), (0, .class_ 10), (0, .nameAndType 11 12), (0, u "com/example/flowmason/flowmason/engine/Task$State"), (0, u "READY"), (0, u "Lcom/example/flowmason/flowmason/engine/Task$State;"), (0, .fieldref 8 14), (0, .nameAndType 15 12), (0, u "RESERVED"), (0, .fieldref 8 17), (0, .nameAndType 18 12), (0, u "COMPLETED"), (0, .fieldref 8 20), (0, .nameAndType 21 12), (0, u "WITHDRAWN"), (0, .methodref 23 24), (0, .class_ 25), (0, .nameAndType 26 27), (0, u "java/lang/String"), (0, u "valueOf"), (0, u "(C)Ljava/lang/String;"), (0, .methodref 29 30), (0, .class_ 31), (0, .nameAndType 32 33), (0, u "com/example/flowmason/flowmason/engine/TaskOpenPinLaw"), (0, u "stateOf"), (0, u "(I)Lcom/example/flowmason/flowmason/engine/Task$State;"), (0, .methodref 29 35), (0, .nameAndType 36 37), (0, u "drawn"), (0, u "(II)Ljava/lang/String;"), (0, .string 39), (0, u "n"), (0, .string 41), (0, u "r"), (0, .class_ 43), (0, u "com/example/flowmason/flowmason/engine/Task"), (0, .string 45), (0, u "i"), (0, .string 47), (0, u "e"), (0, .string 49), (0, u "x"), (0, .methodref 42 51), (0, .nameAndType 5 52), (0, u "(Ljava/lang/String;Ljava/lang/String;Ljava/lang/String;Ljava/lang/String;Ljava/lang/String;Lcom/example/flowmason/flowmason/engine/Task$State;Ljava/lang/String;)V"), (0, .methodref 42 54), (0, .nameAndType 55 56), (0, u "open"), (0, u "()Z"), (0, .methodref 42 58), (0, .nameAndType 59 60), (0, u "claimedBy"), (0, u "(Ljava/lang/String;)Lcom/example/flowmason/flowmason/engine/Task;"), (0, .methodref 42 62), (0, .nameAndType 63 64), (0, u "released"), (0, u "()Lcom/example/flowmason/flowmason/engine/Task;"), (0, .methodref 42 66), (0, .nameAndType 67 60), (0, u "completedBy"), (0, .methodref 42 69), (0, .nameAndType 70 64), (0, u "withdrawn"), (3, u "law"), (0, u "(IIII)Z")] 4

def k1m0 : Method := { name := "<init>", desc := "()V", sig := { parameters := [], returnType := none }, accessFlags := 1, code := none }
def k1c1 : Code := { maxStack := 2, maxLocals := 1, code := method_2_code, exceptionTable := #[], attributes := #[] }
def k1m1 : Method := { name := "stateOf", desc := "(I)Lcom/example/flowmason/flowmason/engine/Task$State;", sig := { parameters := [.int], returnType := some (.object "com/example/flowmason/flowmason/engine/Task$State") }, accessFlags := 10, code := some k1c1 }
def k1c2 : Code := { maxStack := 2, maxLocals := 2, code := method_3_code, exceptionTable := #[], attributes := #[] }
def k1m2 : Method := { name := "drawn", desc := "(II)Ljava/lang/String;", sig := { parameters := [.int, .int], returnType := some (.object "java/lang/String") }, accessFlags := 10, code := some k1c2 }
def k1c3 : Code := { maxStack := 9, maxLocals := 12, code := code, exceptionTable := #[], attributes := #[] }
def k1m3 : Method := { name := "law", desc := "(IIII)Z", sig := { parameters := [.int, .int, .int, .int], returnType := some .boolean }, accessFlags := 9, code := some k1c3 }
/-- com/example/flowmason/flowmason/engine/TaskOpenPinLaw -/
def k1 : Class := { plain "com/example/flowmason/flowmason/engine/TaskOpenPinLaw" (some 0) with
  accessFlags := 49
  interfaces := #[]
  cf := some (fileOf pool1 29 #[] #[{ accessFlags := 1, nameIndex := 5, descriptorIndex := 6, attributes := #[] }, { accessFlags := 10, nameIndex := 32, descriptorIndex := 33, attributes := #[] }, { accessFlags := 10, nameIndex := 36, descriptorIndex := 37, attributes := #[] }, { accessFlags := 9, nameIndex := 74, descriptorIndex := 75, attributes := #[] }] 49 2 #[] #[])
  fields := #[]
  methods := #[k1m0, k1m1, k1m2, k1m3]
  instanceTypes := #[]
  staticTypes := #[]
  resolved := Array.replicate 80 none
  statics := none }

def pool2 : Array CpInfo := pool [(1, .class_ 2), (0, u "java/lang/constant/Constable"), (0, .class_ 4), (0, u "java/lang/Object")] 6

/-- java/lang/constant/Constable -/
def k2 : Class := { plain "java/lang/constant/Constable" (some 0) with
  accessFlags := 1537
  interfaces := #[]
  cf := some (fileOf pool2 1 #[] #[] 1537 3 #[] #[])
  fields := #[]
  methods := #[]
  instanceTypes := #[]
  staticTypes := #[]
  resolved := Array.replicate 11 none
  statics := none }

def pool3 : Array CpInfo := pool [(1, .class_ 2), (0, u "java/lang/Comparable"), (0, .class_ 4), (0, u "java/lang/Object")] 7

/-- java/lang/Comparable -/
def k3 : Class := { plain "java/lang/Comparable" (some 0) with
  accessFlags := 1537
  interfaces := #[]
  cf := some (fileOf pool3 1 #[] #[] 1537 3 #[] #[])
  fields := #[]
  methods := #[]
  instanceTypes := #[]
  staticTypes := #[]
  resolved := Array.replicate 12 none
  statics := none }

def pool4 : Array CpInfo := pool [(1, .class_ 2), (0, u "java/io/Serializable"), (0, .class_ 4), (0, u "java/lang/Object")] 2

/-- java/io/Serializable -/
def k4 : Class := { plain "java/io/Serializable" (some 0) with
  accessFlags := 1537
  interfaces := #[]
  cf := some (fileOf pool4 1 #[] #[] 1537 3 #[] #[])
  fields := #[]
  methods := #[]
  instanceTypes := #[]
  staticTypes := #[]
  resolved := Array.replicate 7 none
  statics := none }

def pool5 : Array CpInfo := pool [(2, .class_ 4), (1, u "java/lang/Enum"), (0, u "name"), (0, u "Ljava/lang/String;"), (2, u "ordinal"), (0, u "I"), (1, .class_ 14), (1, u "java/lang/Object"), (4, u "hash"), (86, .class_ 108), (1, u "java/lang/Enum$EnumDesc"), (2, .class_ 112), (0, u "java/lang/constant/Constable"), (0, .class_ 114), (0, u "java/lang/Comparable"), (0, .class_ 116), (0, u "java/io/Serializable")] 87

/-- java/lang/Enum -/
def k5 : Class := { plain "java/lang/Enum" (some 0) with
  accessFlags := 1057
  interfaces := #[2, 3, 4]
  cf := some (fileOf pool5 2 #[.nestMembers #[106]] #[] 1057 12 #[111, 113, 115] #[{ accessFlags := 18, nameIndex := 5, descriptorIndex := 6, attributes := #[] }, { accessFlags := 18, nameIndex := 9, descriptorIndex := 10, attributes := #[] }, { accessFlags := 2, nameIndex := 19, descriptorIndex := 10, attributes := #[] }])
  fields := #[{ name := "name", type := (.object "java/lang/String"), accessFlags := 18, slot := 0, constantValue := 0 }, { name := "ordinal", type := .int, accessFlags := 18, slot := 1, constantValue := 0 }, { name := "hash", type := .int, accessFlags := 2, slot := 2, constantValue := 0 }]
  methods := #[]
  instanceTypes := #[(.object "java/lang/String"), .int, .int]
  staticTypes := #[]
  resolved := Array.replicate 204 none
  statics := none }

def pool6 : Array CpInfo := pool [(1, .class_ 2), (0, u "com/example/flowmason/flowmason/engine/Task$State"), (2, u "READY"), (0, u "Lcom/example/flowmason/flowmason/engine/Task$State;"), (2, u "RESERVED"), (2, u "COMPLETED"), (2, u "WITHDRAWN"), (2, u "$VALUES"), (0, u "[Lcom/example/flowmason/flowmason/engine/Task$State;"), (6, .class_ 28), (1, u "java/lang/Enum"), (27, .class_ 57), (0, u "com/example/flowmason/flowmason/engine/Task")] 2

/-- com/example/flowmason/flowmason/engine/Task$State -/
def k6 : Class := { plain "com/example/flowmason/flowmason/engine/Task$State" (some 5) with
  accessFlags := 16433
  interfaces := #[]
  cf := some (fileOf pool6 1 #[.nestHost 56] #[] 16433 26 #[] #[{ accessFlags := 16409, nameIndex := 5, descriptorIndex := 6, attributes := #[] }, { accessFlags := 16409, nameIndex := 9, descriptorIndex := 6, attributes := #[] }, { accessFlags := 16409, nameIndex := 12, descriptorIndex := 6, attributes := #[] }, { accessFlags := 16409, nameIndex := 15, descriptorIndex := 6, attributes := #[] }, { accessFlags := 4122, nameIndex := 18, descriptorIndex := 19, attributes := #[] }])
  fields := #[{ name := "READY", type := (.object "com/example/flowmason/flowmason/engine/Task$State"), accessFlags := 16409, slot := 0, constantValue := 0 }, { name := "RESERVED", type := (.object "com/example/flowmason/flowmason/engine/Task$State"), accessFlags := 16409, slot := 1, constantValue := 0 }, { name := "COMPLETED", type := (.object "com/example/flowmason/flowmason/engine/Task$State"), accessFlags := 16409, slot := 2, constantValue := 0 }, { name := "WITHDRAWN", type := (.object "com/example/flowmason/flowmason/engine/Task$State"), accessFlags := 16409, slot := 3, constantValue := 0 }, { name := "$VALUES", type := (.array (.object "com/example/flowmason/flowmason/engine/Task$State")), accessFlags := 4122, slot := 4, constantValue := 0 }]
  methods := #[]
  instanceTypes := #[(.object "java/lang/String"), .int, .int]
  staticTypes := #[(.object "com/example/flowmason/flowmason/engine/Task$State"), (.object "com/example/flowmason/flowmason/engine/Task$State"), (.object "com/example/flowmason/flowmason/engine/Task$State"), (.object "com/example/flowmason/flowmason/engine/Task$State"), (.array (.object "com/example/flowmason/flowmason/engine/Task$State"))]
  resolved := Array.replicate 60 none
  statics := some 0 }

def pool7 : Array CpInfo := pool [(2, .class_ 4), (1, u "java/lang/CharSequence"), (42, .class_ 48), (0, u "java/lang/CharSequence$1CodePointIterator"), (10, .class_ 60), (0, u "java/lang/CharSequence$1CharIterator"), (5, .class_ 67), (0, u "java/lang/Object")] 63

/-- java/lang/CharSequence -/
def k7 : Class := { plain "java/lang/CharSequence" (some 0) with
  accessFlags := 1537
  interfaces := #[]
  cf := some (fileOf pool7 2 #[.nestMembers #[47, 59]] #[] 1537 66 #[] #[])
  fields := #[]
  methods := #[]
  instanceTypes := #[]
  staticTypes := #[]
  resolved := Array.replicate 131 none
  statics := none }

def pool8 : Array CpInfo := pool [(1, .class_ 2), (0, u "java/lang/constant/ConstantDesc"), (0, .class_ 4), (0, u "java/lang/Object")] 32

/-- java/lang/constant/ConstantDesc -/
def k8 : Class := { plain "java/lang/constant/ConstantDesc" (some 0) with
  accessFlags := 1537
  interfaces := #[]
  cf := some (fileOf pool8 1 #[] #[] 1537 3 #[] #[])
  fields := #[]
  methods := #[]
  instanceTypes := #[]
  staticTypes := #[]
  resolved := Array.replicate 37 none
  statics := none }

def pool9 : Array CpInfo := pool [(1, .methodref 2 3), (0, .class_ 4), (0, .nameAndType 5 6), (0, u "java/lang/Object"), (0, u "<init>"), (0, u "()V"), (2, .fieldref 10 11), (0, .class_ 12), (0, .nameAndType 13 14), (0, u "java/lang/String"), (0, u "value"), (0, u "[B"), (0, .fieldref 10 16), (0, .nameAndType 17 18), (0, u "coder"), (0, u "B"), (2, u "hash"), (0, u "I"), (2, u "hashIsZero"), (0, u "Z"), (11, .fieldref 10 39), (0, .nameAndType 40 26), (0, u "COMPACT_STRINGS"), (12, u "toBytes"), (53, .class_ 109), (1, u "java/lang/StringLatin1"), (99, .methodref 10 210), (0, .nameAndType 5 211), (0, u "([BB)V"), (157, u "(C)Z"), (205, .class_ 576), (0, u "java/lang/CharSequence"), (22, u "CASE_INSENSITIVE_ORDER"), (0, u "Ljava/util/Comparator;"), (181, u "valueOf"), (0, u "(C)Ljava/lang/String;"), (231, .methodref 107 1016), (0, .nameAndType 1017 369), (0, u "canEncode"), (0, .methodref 107 1019), (0, .nameAndType 53 1020), (0, u "(C)[B"), (80, u "serialPersistentFields"), (0, u "[Ljava/io/ObjectStreamField;"), (0, .class_ 1104), (0, u "java/lang/String$CaseInsensitiveComparator"), (1, .class_ 1107), (0, u "java/io/Serializable"), (0, .class_ 1109), (0, u "java/lang/Comparable"), (0, .class_ 1111), (0, u "java/lang/constant/Constable"), (0, .class_ 1113), (0, u "java/lang/constant/ConstantDesc"), (2, u "serialVersionUID"), (0, u "J"), (3, u "REPL"), (0, u "C"), (2, u "LATIN1"), (1, u "UTF16")] 323

def k9m0 : Method := { name := "<init>", desc := "()V", sig := { parameters := [], returnType := none }, accessFlags := 1, code := none }
def k9c1 : Code := { maxStack := 4, maxLocals := 1, code := jdk_42_method_139_code, exceptionTable := #[], attributes := #[] }
def k9m1 : Method := { name := "valueOf", desc := "(C)Ljava/lang/String;", sig := { parameters := [.char], returnType := some (.object "java/lang/String") }, accessFlags := 9, code := some k9c1 }
def k9c2 : Code := { maxStack := 2, maxLocals := 3, code := jdk_42_method_151_code, exceptionTable := #[], attributes := #[] }
def k9m2 : Method := { name := "<init>", desc := "([BB)V", sig := { parameters := [(.array .byte), .byte], returnType := none }, accessFlags := 0, code := some k9c2 }
/-- java/lang/String -/
def k9 : Class := { plain "java/lang/String" (some 0) with
  accessFlags := 49
  interfaces := #[4, 3, 7, 2, 8]
  cf := some (fileOf pool9 10 #[.nestMembers #[1103]] #[{ accessFlags := 1, nameIndex := 5, descriptorIndex := 6, attributes := #[] }, { accessFlags := 9, nameIndex := 782, descriptorIndex := 783, attributes := #[] }, { accessFlags := 0, nameIndex := 5, descriptorIndex := 211, attributes := #[] }] 49 2 #[1106, 1108, 575, 1110, 1112] #[{ accessFlags := 18, nameIndex := 13, descriptorIndex := 14, attributes := #[] }, { accessFlags := 18, nameIndex := 17, descriptorIndex := 18, attributes := #[] }, { accessFlags := 2, nameIndex := 21, descriptorIndex := 22, attributes := #[] }, { accessFlags := 2, nameIndex := 25, descriptorIndex := 26, attributes := #[] }, { accessFlags := 26, nameIndex := 1116, descriptorIndex := 1117, attributes := #[] }, { accessFlags := 24, nameIndex := 40, descriptorIndex := 26, attributes := #[] }, { accessFlags := 26, nameIndex := 1101, descriptorIndex := 1102, attributes := #[] }, { accessFlags := 26, nameIndex := 1121, descriptorIndex := 1122, attributes := #[] }, { accessFlags := 25, nameIndex := 599, descriptorIndex := 600, attributes := #[] }, { accessFlags := 24, nameIndex := 1125, descriptorIndex := 18, attributes := #[] }, { accessFlags := 24, nameIndex := 1127, descriptorIndex := 18, attributes := #[] }])
  fields := #[{ name := "value", type := (.array .byte), accessFlags := 18, slot := 0, constantValue := 0 }, { name := "coder", type := .byte, accessFlags := 18, slot := 1, constantValue := 0 }, { name := "hash", type := .int, accessFlags := 2, slot := 2, constantValue := 0 }, { name := "hashIsZero", type := .boolean, accessFlags := 2, slot := 3, constantValue := 0 }, { name := "serialVersionUID", type := .long, accessFlags := 26, slot := 0, constantValue := 0 }, { name := "COMPACT_STRINGS", type := .boolean, accessFlags := 24, slot := 1, constantValue := 0 }, { name := "serialPersistentFields", type := (.array (.object "java/io/ObjectStreamField")), accessFlags := 26, slot := 2, constantValue := 0 }, { name := "REPL", type := .char, accessFlags := 26, slot := 3, constantValue := 0 }, { name := "CASE_INSENSITIVE_ORDER", type := (.object "java/util/Comparator"), accessFlags := 25, slot := 4, constantValue := 0 }, { name := "LATIN1", type := .byte, accessFlags := 24, slot := 5, constantValue := 0 }, { name := "UTF16", type := .byte, accessFlags := 24, slot := 6, constantValue := 0 }]
  methods := #[k9m0, k9m1, k9m2]
  instanceTypes := #[(.array .byte), .byte, .int, .boolean]
  staticTypes := #[.long, .boolean, (.array (.object "java/io/ObjectStreamField")), .char, (.object "java/util/Comparator"), .byte, .byte]
  resolved := Array.replicate 1451 none
  statics := some 1 }

def pool10 : Array CpInfo := pool [(1, .methodref 2 3), (0, .class_ 4), (0, .nameAndType 5 6), (0, u "java/lang/Object"), (0, u "<init>"), (0, u "()V"), (0, .class_ 8), (0, u "java/lang/Record")] 13

def k10c0 : Code := { maxStack := 1, maxLocals := 1, code := jdk_30_method_1_code, exceptionTable := #[], attributes := #[] }
def k10m0 : Method := { name := "<init>", desc := "()V", sig := { parameters := [], returnType := none }, accessFlags := 4, code := some k10c0 }
/-- java/lang/Record -/
def k10 : Class := { plain "java/lang/Record" (some 0) with
  accessFlags := 1057
  interfaces := #[]
  cf := some (fileOf pool10 7 #[] #[{ accessFlags := 4, nameIndex := 5, descriptorIndex := 6, attributes := #[] }] 1057 2 #[] #[])
  fields := #[]
  methods := #[k10m0]
  instanceTypes := #[]
  staticTypes := #[]
  resolved := Array.replicate 22 none
  statics := none }

def pool11 : Array CpInfo := pool [(1, .methodref 2 3), (0, .class_ 4), (0, .nameAndType 5 6), (0, u "java/lang/Record"), (0, u "<init>"), (0, u "()V"), (0, .fieldref 8 9), (0, .class_ 10), (0, .nameAndType 11 12), (0, u "com/example/flowmason/flowmason/engine/Task"), (0, u "id"), (0, u "Ljava/lang/String;"), (0, .fieldref 8 14), (0, .nameAndType 15 12), (0, u "name"), (0, .fieldref 8 17), (0, .nameAndType 18 12), (0, u "elementId"), (0, .fieldref 8 20), (0, .nameAndType 21 12), (0, u "instanceId"), (0, .fieldref 8 23), (0, .nameAndType 24 12), (0, u "role"), (0, .fieldref 8 26), (0, .nameAndType 27 28), (0, u "state"), (0, u "Lcom/example/flowmason/flowmason/engine/Task$State;"), (0, .fieldref 8 30), (0, .nameAndType 31 12), (0, u "assignee"), (0, .fieldref 33 34), (0, .class_ 35), (0, .nameAndType 36 28), (0, u "com/example/flowmason/flowmason/engine/Task$State"), (0, u "READY"), (0, .fieldref 33 38), (0, .nameAndType 39 28), (0, u "RESERVED"), (10, .methodref 8 51), (0, .nameAndType 5 52), (0, u "(Ljava/lang/String;Ljava/lang/String;Ljava/lang/String;Ljava/lang/String;Ljava/lang/String;Lcom/example/flowmason/flowmason/engine/Task$State;Ljava/lang/String;)V"), (0, .fieldref 33 54), (0, .nameAndType 55 28), (0, u "COMPLETED"), (0, .fieldref 33 57), (0, .nameAndType 58 28), (0, u "WITHDRAWN"), (14, u "open"), (0, u "()Z"), (2, u "claimedBy"), (0, u "(Ljava/lang/String;)Lcom/example/flowmason/flowmason/engine/Task;"), (0, u "released"), (0, u "()Lcom/example/flowmason/flowmason/engine/Task;"), (0, u "completedBy"), (0, u "withdrawn")] 31

def k11c0 : Code := { maxStack := 2, maxLocals := 8, code := prog_17_method_1_code, exceptionTable := #[], attributes := #[] }
def k11m0 : Method := { name := "<init>", desc := "(Ljava/lang/String;Ljava/lang/String;Ljava/lang/String;Ljava/lang/String;Ljava/lang/String;Lcom/example/flowmason/flowmason/engine/Task$State;Ljava/lang/String;)V", sig := { parameters := [(.object "java/lang/String"), (.object "java/lang/String"), (.object "java/lang/String"), (.object "java/lang/String"), (.object "java/lang/String"), (.object "com/example/flowmason/flowmason/engine/Task$State"), (.object "java/lang/String")], returnType := none }, accessFlags := 1, code := some k11c0 }
def k11c1 : Code := { maxStack := 2, maxLocals := 1, code := prog_17_method_2_code, exceptionTable := #[], attributes := #[] }
def k11m1 : Method := { name := "open", desc := "()Z", sig := { parameters := [], returnType := some .boolean }, accessFlags := 0, code := some k11c1 }
def k11c2 : Code := { maxStack := 9, maxLocals := 2, code := prog_17_method_5_code, exceptionTable := #[], attributes := #[] }
def k11m2 : Method := { name := "claimedBy", desc := "(Ljava/lang/String;)Lcom/example/flowmason/flowmason/engine/Task;", sig := { parameters := [(.object "java/lang/String")], returnType := some (.object "com/example/flowmason/flowmason/engine/Task") }, accessFlags := 0, code := some k11c2 }
def k11c3 : Code := { maxStack := 9, maxLocals := 1, code := prog_17_method_6_code, exceptionTable := #[], attributes := #[] }
def k11m3 : Method := { name := "released", desc := "()Lcom/example/flowmason/flowmason/engine/Task;", sig := { parameters := [], returnType := some (.object "com/example/flowmason/flowmason/engine/Task") }, accessFlags := 0, code := some k11c3 }
def k11c4 : Code := { maxStack := 9, maxLocals := 2, code := prog_17_method_7_code, exceptionTable := #[], attributes := #[] }
def k11m4 : Method := { name := "completedBy", desc := "(Ljava/lang/String;)Lcom/example/flowmason/flowmason/engine/Task;", sig := { parameters := [(.object "java/lang/String")], returnType := some (.object "com/example/flowmason/flowmason/engine/Task") }, accessFlags := 0, code := some k11c4 }
def k11c5 : Code := { maxStack := 9, maxLocals := 1, code := prog_17_method_8_code, exceptionTable := #[], attributes := #[] }
def k11m5 : Method := { name := "withdrawn", desc := "()Lcom/example/flowmason/flowmason/engine/Task;", sig := { parameters := [], returnType := some (.object "com/example/flowmason/flowmason/engine/Task") }, accessFlags := 0, code := some k11c5 }
/-- com/example/flowmason/flowmason/engine/Task -/
def k11 : Class := { plain "com/example/flowmason/flowmason/engine/Task" (some 10) with
  accessFlags := 49
  interfaces := #[]
  cf := some (fileOf pool11 8 #[.nestMembers #[33]] #[{ accessFlags := 1, nameIndex := 5, descriptorIndex := 52, attributes := #[] }, { accessFlags := 0, nameIndex := 73, descriptorIndex := 74, attributes := #[] }, { accessFlags := 0, nameIndex := 77, descriptorIndex := 78, attributes := #[] }, { accessFlags := 0, nameIndex := 79, descriptorIndex := 80, attributes := #[] }, { accessFlags := 0, nameIndex := 81, descriptorIndex := 78, attributes := #[] }, { accessFlags := 0, nameIndex := 82, descriptorIndex := 80, attributes := #[] }] 49 2 #[] #[{ accessFlags := 18, nameIndex := 11, descriptorIndex := 12, attributes := #[] }, { accessFlags := 18, nameIndex := 15, descriptorIndex := 12, attributes := #[] }, { accessFlags := 18, nameIndex := 18, descriptorIndex := 12, attributes := #[] }, { accessFlags := 18, nameIndex := 21, descriptorIndex := 12, attributes := #[] }, { accessFlags := 18, nameIndex := 24, descriptorIndex := 12, attributes := #[] }, { accessFlags := 18, nameIndex := 27, descriptorIndex := 28, attributes := #[] }, { accessFlags := 18, nameIndex := 31, descriptorIndex := 12, attributes := #[] }])
  fields := #[{ name := "id", type := (.object "java/lang/String"), accessFlags := 18, slot := 0, constantValue := 0 }, { name := "name", type := (.object "java/lang/String"), accessFlags := 18, slot := 1, constantValue := 0 }, { name := "elementId", type := (.object "java/lang/String"), accessFlags := 18, slot := 2, constantValue := 0 }, { name := "instanceId", type := (.object "java/lang/String"), accessFlags := 18, slot := 3, constantValue := 0 }, { name := "role", type := (.object "java/lang/String"), accessFlags := 18, slot := 4, constantValue := 0 }, { name := "state", type := (.object "com/example/flowmason/flowmason/engine/Task$State"), accessFlags := 18, slot := 5, constantValue := 0 }, { name := "assignee", type := (.object "java/lang/String"), accessFlags := 18, slot := 6, constantValue := 0 }]
  methods := #[k11m0, k11m1, k11m2, k11m3, k11m4, k11m5]
  instanceTypes := #[(.object "java/lang/String"), (.object "java/lang/String"), (.object "java/lang/String"), (.object "java/lang/String"), (.object "java/lang/String"), (.object "com/example/flowmason/flowmason/engine/Task$State"), (.object "java/lang/String")]
  staticTypes := #[]
  resolved := Array.replicate 114 none
  statics := none }

def pool12 : Array CpInfo := pool [(4, .class_ 6), (1, u "java/lang/Object"), (0, u "<init>"), (0, u "()V"), (5, .class_ 16), (1, u "java/lang/StringLatin1"), (73, u "canEncode"), (14, u "(C)Z"), (15, u "$assertionsDisabled"), (0, u "Z"), (98, .class_ 223), (1, u "java/lang/StringLatin1$LinesSpliterator"), (156, u "toBytes"), (1, u "(C)[B"), (7, .class_ 391), (0, u "java/lang/StringLatin1$CharsSpliterator")] 3

def k12m0 : Method := { name := "<init>", desc := "()V", sig := { parameters := [], returnType := none }, accessFlags := 0, code := none }
def k12c1 : Code := { maxStack := 2, maxLocals := 1, code := jdk_43_method_3_code, exceptionTable := #[], attributes := #[] }
def k12m1 : Method := { name := "canEncode", desc := "(C)Z", sig := { parameters := [.char], returnType := some .boolean }, accessFlags := 9, code := some k12c1 }
def k12c2 : Code := { maxStack := 4, maxLocals := 1, code := jdk_43_method_46_code, exceptionTable := #[], attributes := #[] }
def k12m2 : Method := { name := "toBytes", desc := "(C)[B", sig := { parameters := [.char], returnType := some (.array .byte) }, accessFlags := 9, code := some k12c2 }
/-- java/lang/StringLatin1 -/
def k12 : Class := { plain "java/lang/StringLatin1" (some 0) with
  accessFlags := 48
  interfaces := #[]
  cf := some (fileOf pool12 14 #[.nestMembers #[390, 221]] #[{ accessFlags := 0, nameIndex := 7, descriptorIndex := 8, attributes := #[] }, { accessFlags := 9, nameIndex := 90, descriptorIndex := 105, attributes := #[] }, { accessFlags := 9, nameIndex := 380, descriptorIndex := 382, attributes := #[] }] 48 4 #[] #[{ accessFlags := 4120, nameIndex := 121, descriptorIndex := 122, attributes := #[] }])
  fields := #[{ name := "$assertionsDisabled", type := .boolean, accessFlags := 4120, slot := 0, constantValue := 0 }]
  methods := #[k12m0, k12m1, k12m2]
  instanceTypes := #[]
  staticTypes := #[.boolean]
  resolved := Array.replicate 395 none
  statics := none }

def pool13 : Array CpInfo := pool [(2, .class_ 4), (1, u "java/lang/Object"), (0, u "<init>"), (0, u "()V"), (17, .class_ 26), (1, u "jdk/internal/util/Preconditions"), (28, .class_ 56), (0, u "jdk/internal/util/Preconditions$4"), (57, .class_ 115), (0, u "jdk/internal/util/Preconditions$1"), (7, u "SIOOBE_FORMATTER"), (0, u "Ljava/util/function/BiFunction;"), (0, .class_ 126), (0, u "jdk/internal/util/Preconditions$2"), (3, u "AIOOBE_FORMATTER"), (0, .class_ 132), (0, u "jdk/internal/util/Preconditions$3"), (3, u "IOOBE_FORMATTER")] 57

def k13m0 : Method := { name := "<init>", desc := "()V", sig := { parameters := [], returnType := none }, accessFlags := 1, code := none }
/-- jdk/internal/util/Preconditions -/
def k13 : Class := { plain "jdk/internal/util/Preconditions" (some 0) with
  accessFlags := 33
  interfaces := #[]
  cf := some (fileOf pool13 24 #[.nestMembers #[55, 131, 125, 114]] #[{ accessFlags := 1, nameIndex := 5, descriptorIndex := 6, attributes := #[] }] 33 2 #[] #[{ accessFlags := 25, nameIndex := 123, descriptorIndex := 124, attributes := #[] }, { accessFlags := 25, nameIndex := 130, descriptorIndex := 124, attributes := #[] }, { accessFlags := 25, nameIndex := 136, descriptorIndex := 124, attributes := #[] }])
  fields := #[{ name := "SIOOBE_FORMATTER", type := (.object "java/util/function/BiFunction"), accessFlags := 25, slot := 0, constantValue := 0 }, { name := "AIOOBE_FORMATTER", type := (.object "java/util/function/BiFunction"), accessFlags := 25, slot := 1, constantValue := 0 }, { name := "IOOBE_FORMATTER", type := (.object "java/util/function/BiFunction"), accessFlags := 25, slot := 2, constantValue := 0 }]
  methods := #[k13m0]
  instanceTypes := #[]
  staticTypes := #[(.object "java/util/function/BiFunction"), (.object "java/util/function/BiFunction"), (.object "java/util/function/BiFunction")]
  resolved := Array.replicate 194 none
  statics := some 2 }

def pool14 : Array CpInfo := pool [(9, u "<init>"), (6, .class_ 18), (1, u "java/lang/Object"), (0, u "()V"), (1, .class_ 23), (1, u "jdk/internal/util/ArraysSupport"), (0, u "LOG2_ARRAY_LONG_INDEX_SCALE"), (0, u "I"), (2, u "U"), (0, u "Ljdk/internal/misc/Unsafe;"), (8, u "BIG_ENDIAN"), (0, u "Z"), (8, u "LOG2_BYTE_BIT_SIZE"), (4, u "LOG2_ARRAY_INT_INDEX_SCALE"), (54, u "JLA"), (0, u "Ljdk/internal/access/JavaLangAccess;"), (11, u "LOG2_ARRAY_BOOLEAN_INDEX_SCALE"), (9, u "LOG2_ARRAY_BYTE_INDEX_SCALE"), (5, u "LOG2_ARRAY_CHAR_INDEX_SCALE"), (5, u "LOG2_ARRAY_SHORT_INDEX_SCALE"), (18, u "LOG2_ARRAY_FLOAT_INDEX_SCALE"), (24, u "LOG2_ARRAY_DOUBLE_INDEX_SCALE"), (89, u "T_BOOLEAN"), (2, u "T_CHAR"), (1, u "T_FLOAT"), (1, u "T_DOUBLE"), (1, u "T_BYTE"), (1, u "T_SHORT"), (1, u "T_INT"), (1, u "T_LONG"), (1, u "SOFT_MAX_ARRAY_LENGTH")] 83

def k14m0 : Method := { name := "<init>", desc := "()V", sig := { parameters := [], returnType := none }, accessFlags := 2, code := none }
/-- jdk/internal/util/ArraysSupport -/
def k14 : Class := { plain "jdk/internal/util/ArraysSupport" (some 0) with
  accessFlags := 33
  interfaces := #[]
  cf := some (fileOf pool14 21 #[] #[{ accessFlags := 2, nameIndex := 9, descriptorIndex := 19, attributes := #[] }] 33 16 #[] #[{ accessFlags := 24, nameIndex := 28, descriptorIndex := 29, attributes := #[] }, { accessFlags := 26, nameIndex := 38, descriptorIndex := 39, attributes := #[] }, { accessFlags := 25, nameIndex := 121, descriptorIndex := 25, attributes := #[] }, { accessFlags := 25, nameIndex := 131, descriptorIndex := 25, attributes := #[] }, { accessFlags := 25, nameIndex := 137, descriptorIndex := 25, attributes := #[] }, { accessFlags := 25, nameIndex := 143, descriptorIndex := 25, attributes := #[] }, { accessFlags := 25, nameIndex := 53, descriptorIndex := 25, attributes := #[] }, { accessFlags := 25, nameIndex := 24, descriptorIndex := 25, attributes := #[] }, { accessFlags := 25, nameIndex := 162, descriptorIndex := 25, attributes := #[] }, { accessFlags := 25, nameIndex := 187, descriptorIndex := 25, attributes := #[] }, { accessFlags := 26, nameIndex := 48, descriptorIndex := 25, attributes := #[] }, { accessFlags := 25, nameIndex := 277, descriptorIndex := 25, attributes := #[] }, { accessFlags := 25, nameIndex := 280, descriptorIndex := 25, attributes := #[] }, { accessFlags := 25, nameIndex := 282, descriptorIndex := 25, attributes := #[] }, { accessFlags := 25, nameIndex := 284, descriptorIndex := 25, attributes := #[] }, { accessFlags := 25, nameIndex := 286, descriptorIndex := 25, attributes := #[] }, { accessFlags := 25, nameIndex := 288, descriptorIndex := 25, attributes := #[] }, { accessFlags := 25, nameIndex := 290, descriptorIndex := 25, attributes := #[] }, { accessFlags := 25, nameIndex := 292, descriptorIndex := 25, attributes := #[] }, { accessFlags := 26, nameIndex := 108, descriptorIndex := 109, attributes := #[] }, { accessFlags := 25, nameIndex := 294, descriptorIndex := 25, attributes := #[] }])
  fields := #[{ name := "U", type := (.object "jdk/internal/misc/Unsafe"), accessFlags := 24, slot := 0, constantValue := 0 }, { name := "BIG_ENDIAN", type := .boolean, accessFlags := 26, slot := 1, constantValue := 0 }, { name := "LOG2_ARRAY_BOOLEAN_INDEX_SCALE", type := .int, accessFlags := 25, slot := 2, constantValue := 0 }, { name := "LOG2_ARRAY_BYTE_INDEX_SCALE", type := .int, accessFlags := 25, slot := 3, constantValue := 0 }, { name := "LOG2_ARRAY_CHAR_INDEX_SCALE", type := .int, accessFlags := 25, slot := 4, constantValue := 0 }, { name := "LOG2_ARRAY_SHORT_INDEX_SCALE", type := .int, accessFlags := 25, slot := 5, constantValue := 0 }, { name := "LOG2_ARRAY_INT_INDEX_SCALE", type := .int, accessFlags := 25, slot := 6, constantValue := 0 }, { name := "LOG2_ARRAY_LONG_INDEX_SCALE", type := .int, accessFlags := 25, slot := 7, constantValue := 0 }, { name := "LOG2_ARRAY_FLOAT_INDEX_SCALE", type := .int, accessFlags := 25, slot := 8, constantValue := 0 }, { name := "LOG2_ARRAY_DOUBLE_INDEX_SCALE", type := .int, accessFlags := 25, slot := 9, constantValue := 0 }, { name := "LOG2_BYTE_BIT_SIZE", type := .int, accessFlags := 26, slot := 10, constantValue := 0 }, { name := "T_BOOLEAN", type := .int, accessFlags := 25, slot := 11, constantValue := 0 }, { name := "T_CHAR", type := .int, accessFlags := 25, slot := 12, constantValue := 0 }, { name := "T_FLOAT", type := .int, accessFlags := 25, slot := 13, constantValue := 0 }, { name := "T_DOUBLE", type := .int, accessFlags := 25, slot := 14, constantValue := 0 }, { name := "T_BYTE", type := .int, accessFlags := 25, slot := 15, constantValue := 0 }, { name := "T_SHORT", type := .int, accessFlags := 25, slot := 16, constantValue := 0 }, { name := "T_INT", type := .int, accessFlags := 25, slot := 17, constantValue := 0 }, { name := "T_LONG", type := .int, accessFlags := 25, slot := 18, constantValue := 0 }, { name := "JLA", type := (.object "jdk/internal/access/JavaLangAccess"), accessFlags := 26, slot := 19, constantValue := 0 }, { name := "SOFT_MAX_ARRAY_LENGTH", type := .int, accessFlags := 25, slot := 20, constantValue := 0 }]
  methods := #[k14m0]
  instanceTypes := #[]
  staticTypes := #[(.object "jdk/internal/misc/Unsafe"), .boolean, .int, .int, .int, .int, .int, .int, .int, .int, .int, .int, .int, .int, .int, .int, .int, .int, .int, (.object "jdk/internal/access/JavaLangAccess"), .int]
  resolved := Array.replicate 378 none
  statics := none }

def pool15 : Array CpInfo := pool [(1, u "java/lang/Cloneable"), (0, .class_ 1), (0, u "java/lang/Object"), (0, .class_ 3)] 3

/-- java/lang/Cloneable -/
def k15 : Class := { plain "java/lang/Cloneable" (some 0) with
  accessFlags := 1537
  interfaces := #[]
  cf := some (fileOf pool15 2 #[] #[] 1537 4 #[] #[])
  fields := #[]
  methods := #[]
  instanceTypes := #[]
  staticTypes := #[]
  resolved := Array.replicate 8 none
  statics := none }

/-- the primitive byte -/
def k16 : Class := { plain "byte" none with kind := .primitive 'B', accessFlags := 0x411 }
/-- [B -/
def k17 : Class := { plain "[B" (some 0) with kind := .array 16 .byte, interfaces := #[15, 4], accessFlags := 1041 }

/-- the primitive int -/
def k18 : Class := { plain "int" none with kind := .primitive 'I', accessFlags := 0x411 }
/-- [I -/
def k19 : Class := { plain "[I" (some 0) with kind := .array 18 .int, interfaces := #[15, 4], accessFlags := 1041 }

def heap : Heap := #[{ cls := 6, slots := #[.ref 3, .ref 4, .ref 5, .ref 6, .null], vm := .statics 6 },
  { cls := 9, slots := #[.long 0, .int 1, .null, .int 0, .null, .int 0, .int 0], vm := .statics 9 },
  { cls := 13, slots := #[.null, .null, .null], vm := .statics 13 },
  { cls := 6, slots := #[.null, .int 0, .int 0], vm := .none },
  { cls := 6, slots := #[.null, .int 1, .int 0], vm := .none },
  { cls := 6, slots := #[.null, .int 2, .int 0], vm := .none },
  { cls := 6, slots := #[.null, .int 3, .int 0], vm := .none }]
def classes : Array Class := #[k0, k1, k2, k3, k4, k5, k6, k7, k8, k9, k10, k11, k12, k13, k14, k15, k16, k17, k18, k19]
def interned : List (Array UInt16 × Addr) := []
def slotsUsed : Nat := 27
def theMethod : MethodId := ⟨1, 3⟩
def args0 : Array Value := #[.int 5, .int 2, .int 65, .int 66]
def aboutOver (below : List Frame) : State where
  vm := { classes := classes, interned := interned.toArray }
  heap := heap
  slotsUsed := slotsUsed
  threads := #[{ frames := .invoking theMethod args0 :: below }]
def below0 : List Frame := [.native { method := ⟨0, 0⟩, args := #[] }]
def about1 : State := aboutOver below0
def p0 : Program := .bare "" "" ""
def e0 : Env := launch0.env 0 0 0
theorem w_frames : about1.frames = Frame.invoking theMethod args0 :: below0 := rfl
set_option maxRecDepth 65536 in
theorem w_args : argsFit about1.vm theMethod args0 = true := by decide +kernel
set_option maxRecDepth 65536 in
theorem w_heap : heapFits about1 = true := by decide +kernel
set_option maxRecDepth 65536 in
theorem w_runnable : about1.curStatus? = some .runnable := by decide +kernel
set_option maxRecDepth 65536 in
theorem w_alone : about1.alone = true := by decide +kernel
set_option maxRecDepth 65536 in
theorem w_named : about1.methodNamed? x = some theMethod := by decide +kernel
set_option maxRecDepth 65536 in
theorem w_hears : about1.hears theMethod below0 = true := by decide +kernel
set_option maxRecDepth 65536 in
theorem w_ripe : about1.ripe theMethod args0 below0 = true := by decide +kernel
theorem w_running : about1.status = .running := rfl
set_option maxRecDepth 65536 in
theorem w_room : about1.hasRoom e0.platform room_1 = true :=
  launch0.hasRoom_least _ room_1 (by decide +kernel) (by decide +kernel) (by decide +kernel) (by decide +kernel) (by decide +kernel) (by decide +kernel)
theorem allAtoms_all (ts : List Jvm.Cond) (a : Array Jvm.Value) (st : Jvm.State) : (allAtoms ts).before a st = ts.all (fun c => c.before a st) := by
  induction ts with
  | nil => rfl
  | cons c t ih =>
    show (Jvm.Cond.and c (allAtoms t)).before a st = _
    rw [Jvm.Cond.before_and, ih, List.all_cons]
def words1 : List Jvm.Cond := Jvm.Cond.code x code maxLocals ret :: tables_1
/-- a 'code' word, met by the world's own term for the bytes: nothing is compared byte by byte -/
theorem code_word {y : MethodName} {bytes : ByteArray} {mx : Nat} {rt : Option FieldType} {a : Array Value} {s : State} {m : MethodId} {meth : Method} {c : Code} (h1 : s.methodNamed? y = some m) (h2 : s.vm.method? m = some meth) (h3 : meth.code = some c) (h4 : c.code = bytes)
    (h5 : (c.maxLocals == mx && c.exceptionTable.isEmpty && decide (c.maxStack ≤ mostOperands) && decide (meth.sig.returnType = rt) && !meth.locks && decide (parseMethodDescriptor y.desc = some meth.sig)) = true) : (Jvm.Cond.code y bytes mx rt).before a s = true := by
  simp only [Bool.and_eq_true, beq_iff_eq, Bool.not_eq_true', decide_eq_true_eq] at h5
  obtain ⟨⟨⟨⟨⟨g1, g2⟩, g3⟩, g4⟩, g5⟩, g6⟩ := h5
  simp [Cond.before, Cond.holds, Cond.value, h1, h2, h3, h4, g1, g2, g3, g4, g5, g6]
def isCode : Jvm.Cond → Bool
  | .code _ _ _ _ => true
  | _ => false
theorem all_split {L : List Jvm.Cond} {P : Jvm.Cond → Bool} (h1 : L.all (fun c => isCode c || P c) = true) (h2 : ∀ c ∈ L.filter isCode, P c = true) : L.all P = true := by
  refine List.all_eq_true.mpr fun c hc => ?_
  have h := List.all_eq_true.mp h1 c hc
  rcases Bool.eq_false_or_eq_true (isCode c) with hi | hi
  · exact h2 c (List.mem_filter.mpr ⟨hc, hi⟩)
  · simpa [hi] using h
set_option maxRecDepth 65536 in
theorem w_c0 : (Jvm.Cond.code x code maxLocals ret).before args0 about1 = true := code_word (m := ⟨1, 3⟩) (meth := k1m3) (c := k1c3) (by decide +kernel) rfl rfl rfl (by decide +kernel)
set_option maxRecDepth 65536 in
theorem w_c1 : (Jvm.Cond.code ({ cls := "com/example/flowmason/flowmason/engine/TaskOpenPinLaw", name := "stateOf", desc := "(I)Lcom/example/flowmason/flowmason/engine/Task$State;" } : Jvm.MethodName) method_2_code (1 : Nat) (Option.some (Jvm.ClassFile.FieldType.object "com/example/flowmason/flowmason/engine/Task$State"))).before args0 about1 = true := code_word (m := ⟨1, 1⟩) (meth := k1m1) (c := k1c1) (by decide +kernel) rfl rfl rfl (by decide +kernel)
set_option maxRecDepth 65536 in
theorem w_c2 : (Jvm.Cond.code ({ cls := "com/example/flowmason/flowmason/engine/TaskOpenPinLaw", name := "drawn", desc := "(II)Ljava/lang/String;" } : Jvm.MethodName) method_3_code (2 : Nat) (Option.some (Jvm.ClassFile.FieldType.object "java/lang/String"))).before args0 about1 = true := code_word (m := ⟨1, 2⟩) (meth := k1m2) (c := k1c2) (by decide +kernel) rfl rfl rfl (by decide +kernel)
set_option maxRecDepth 65536 in
theorem w_c3 : (Jvm.Cond.code ({ cls := "com/example/flowmason/flowmason/engine/Task", name := "<init>", desc := "(Ljava/lang/String;Ljava/lang/String;Ljava/lang/String;Ljava/lang/String;Ljava/lang/String;Lcom/example/flowmason/flowmason/engine/Task$State;Ljava/lang/String;)V" } : Jvm.MethodName) prog_17_method_1_code (8 : Nat) (Option.none : Option Jvm.ClassFile.FieldType)).before args0 about1 = true := code_word (m := ⟨11, 0⟩) (meth := k11m0) (c := k11c0) (by decide +kernel) rfl rfl rfl (by decide +kernel)
set_option maxRecDepth 65536 in
theorem w_c4 : (Jvm.Cond.code ({ cls := "java/lang/Record", name := "<init>", desc := "()V" } : Jvm.MethodName) jdk_30_method_1_code (1 : Nat) (Option.none : Option Jvm.ClassFile.FieldType)).before args0 about1 = true := code_word (m := ⟨10, 0⟩) (meth := k10m0) (c := k10c0) (by decide +kernel) rfl rfl rfl (by decide +kernel)
set_option maxRecDepth 65536 in
theorem w_c5 : (Jvm.Cond.code ({ cls := "java/lang/Object", name := "<init>", desc := "()V" } : Jvm.MethodName) object_method_1_code (1 : Nat) (Option.none : Option Jvm.ClassFile.FieldType)).before args0 about1 = true := code_word (m := ⟨0, 0⟩) (meth := k0m0) (c := k0c0) (by decide +kernel) rfl rfl rfl (by decide +kernel)
set_option maxRecDepth 65536 in
theorem w_c6 : (Jvm.Cond.code ({ cls := "com/example/flowmason/flowmason/engine/Task", name := "open", desc := "()Z" } : Jvm.MethodName) prog_17_method_2_code (1 : Nat) (Option.some Jvm.ClassFile.FieldType.boolean)).before args0 about1 = true := code_word (m := ⟨11, 1⟩) (meth := k11m1) (c := k11c1) (by decide +kernel) rfl rfl rfl (by decide +kernel)
set_option maxRecDepth 65536 in
theorem w_c7 : (Jvm.Cond.code ({ cls := "com/example/flowmason/flowmason/engine/Task", name := "claimedBy", desc := "(Ljava/lang/String;)Lcom/example/flowmason/flowmason/engine/Task;" } : Jvm.MethodName) prog_17_method_5_code (2 : Nat) (Option.some (Jvm.ClassFile.FieldType.object "com/example/flowmason/flowmason/engine/Task"))).before args0 about1 = true := code_word (m := ⟨11, 2⟩) (meth := k11m2) (c := k11c2) (by decide +kernel) rfl rfl rfl (by decide +kernel)
set_option maxRecDepth 65536 in
theorem w_c8 : (Jvm.Cond.code ({ cls := "com/example/flowmason/flowmason/engine/Task", name := "released", desc := "()Lcom/example/flowmason/flowmason/engine/Task;" } : Jvm.MethodName) prog_17_method_6_code (1 : Nat) (Option.some (Jvm.ClassFile.FieldType.object "com/example/flowmason/flowmason/engine/Task"))).before args0 about1 = true := code_word (m := ⟨11, 3⟩) (meth := k11m3) (c := k11c3) (by decide +kernel) rfl rfl rfl (by decide +kernel)
set_option maxRecDepth 65536 in
theorem w_c9 : (Jvm.Cond.code ({ cls := "com/example/flowmason/flowmason/engine/Task", name := "completedBy", desc := "(Ljava/lang/String;)Lcom/example/flowmason/flowmason/engine/Task;" } : Jvm.MethodName) prog_17_method_7_code (2 : Nat) (Option.some (Jvm.ClassFile.FieldType.object "com/example/flowmason/flowmason/engine/Task"))).before args0 about1 = true := code_word (m := ⟨11, 4⟩) (meth := k11m4) (c := k11c4) (by decide +kernel) rfl rfl rfl (by decide +kernel)
set_option maxRecDepth 65536 in
theorem w_c10 : (Jvm.Cond.code ({ cls := "com/example/flowmason/flowmason/engine/Task", name := "withdrawn", desc := "()Lcom/example/flowmason/flowmason/engine/Task;" } : Jvm.MethodName) prog_17_method_8_code (1 : Nat) (Option.some (Jvm.ClassFile.FieldType.object "com/example/flowmason/flowmason/engine/Task"))).before args0 about1 = true := code_word (m := ⟨11, 5⟩) (meth := k11m5) (c := k11c5) (by decide +kernel) rfl rfl rfl (by decide +kernel)
set_option maxRecDepth 65536 in
theorem w_c11 : (Jvm.Cond.code ({ cls := "java/lang/String", name := "valueOf", desc := "(C)Ljava/lang/String;" } : Jvm.MethodName) jdk_42_method_139_code (1 : Nat) (Option.some (Jvm.ClassFile.FieldType.object "java/lang/String"))).before args0 about1 = true := code_word (m := ⟨9, 1⟩) (meth := k9m1) (c := k9c1) (by decide +kernel) rfl rfl rfl (by decide +kernel)
set_option maxRecDepth 65536 in
theorem w_c12 : (Jvm.Cond.code ({ cls := "java/lang/StringLatin1", name := "canEncode", desc := "(C)Z" } : Jvm.MethodName) jdk_43_method_3_code (1 : Nat) (Option.some Jvm.ClassFile.FieldType.boolean)).before args0 about1 = true := code_word (m := ⟨12, 1⟩) (meth := k12m1) (c := k12c1) (by decide +kernel) rfl rfl rfl (by decide +kernel)
set_option maxRecDepth 65536 in
theorem w_c13 : (Jvm.Cond.code ({ cls := "java/lang/StringLatin1", name := "toBytes", desc := "(C)[B" } : Jvm.MethodName) jdk_43_method_46_code (1 : Nat) (Option.some (Jvm.ClassFile.FieldType.array Jvm.ClassFile.FieldType.byte))).before args0 about1 = true := code_word (m := ⟨12, 2⟩) (meth := k12m2) (c := k12c2) (by decide +kernel) rfl rfl rfl (by decide +kernel)
set_option maxRecDepth 65536 in
theorem w_c14 : (Jvm.Cond.code ({ cls := "java/lang/String", name := "<init>", desc := "([BB)V" } : Jvm.MethodName) jdk_42_method_151_code (3 : Nat) (Option.none : Option Jvm.ClassFile.FieldType)).before args0 about1 = true := code_word (m := ⟨9, 2⟩) (meth := k9m2) (c := k9c2) (by decide +kernel) rfl rfl rfl (by decide +kernel)
def codes1 : List Jvm.Cond := [Jvm.Cond.code x code maxLocals ret, Jvm.Cond.code ({ cls := "com/example/flowmason/flowmason/engine/TaskOpenPinLaw", name := "stateOf", desc := "(I)Lcom/example/flowmason/flowmason/engine/Task$State;" } : Jvm.MethodName) method_2_code (1 : Nat) (Option.some (Jvm.ClassFile.FieldType.object "com/example/flowmason/flowmason/engine/Task$State")), Jvm.Cond.code ({ cls := "com/example/flowmason/flowmason/engine/TaskOpenPinLaw", name := "drawn", desc := "(II)Ljava/lang/String;" } : Jvm.MethodName) method_3_code (2 : Nat) (Option.some (Jvm.ClassFile.FieldType.object "java/lang/String")), Jvm.Cond.code ({ cls := "com/example/flowmason/flowmason/engine/Task", name := "<init>", desc := "(Ljava/lang/String;Ljava/lang/String;Ljava/lang/String;Ljava/lang/String;Ljava/lang/String;Lcom/example/flowmason/flowmason/engine/Task$State;Ljava/lang/String;)V" } : Jvm.MethodName) prog_17_method_1_code (8 : Nat) (Option.none : Option Jvm.ClassFile.FieldType), Jvm.Cond.code ({ cls := "java/lang/Record", name := "<init>", desc := "()V" } : Jvm.MethodName) jdk_30_method_1_code (1 : Nat) (Option.none : Option Jvm.ClassFile.FieldType), Jvm.Cond.code ({ cls := "java/lang/Object", name := "<init>", desc := "()V" } : Jvm.MethodName) object_method_1_code (1 : Nat) (Option.none : Option Jvm.ClassFile.FieldType), Jvm.Cond.code ({ cls := "com/example/flowmason/flowmason/engine/Task", name := "open", desc := "()Z" } : Jvm.MethodName) prog_17_method_2_code (1 : Nat) (Option.some Jvm.ClassFile.FieldType.boolean), Jvm.Cond.code ({ cls := "com/example/flowmason/flowmason/engine/Task", name := "claimedBy", desc := "(Ljava/lang/String;)Lcom/example/flowmason/flowmason/engine/Task;" } : Jvm.MethodName) prog_17_method_5_code (2 : Nat) (Option.some (Jvm.ClassFile.FieldType.object "com/example/flowmason/flowmason/engine/Task")), Jvm.Cond.code ({ cls := "com/example/flowmason/flowmason/engine/Task", name := "released", desc := "()Lcom/example/flowmason/flowmason/engine/Task;" } : Jvm.MethodName) prog_17_method_6_code (1 : Nat) (Option.some (Jvm.ClassFile.FieldType.object "com/example/flowmason/flowmason/engine/Task")), Jvm.Cond.code ({ cls := "com/example/flowmason/flowmason/engine/Task", name := "completedBy", desc := "(Ljava/lang/String;)Lcom/example/flowmason/flowmason/engine/Task;" } : Jvm.MethodName) prog_17_method_7_code (2 : Nat) (Option.some (Jvm.ClassFile.FieldType.object "com/example/flowmason/flowmason/engine/Task")), Jvm.Cond.code ({ cls := "com/example/flowmason/flowmason/engine/Task", name := "withdrawn", desc := "()Lcom/example/flowmason/flowmason/engine/Task;" } : Jvm.MethodName) prog_17_method_8_code (1 : Nat) (Option.some (Jvm.ClassFile.FieldType.object "com/example/flowmason/flowmason/engine/Task")), Jvm.Cond.code ({ cls := "java/lang/String", name := "valueOf", desc := "(C)Ljava/lang/String;" } : Jvm.MethodName) jdk_42_method_139_code (1 : Nat) (Option.some (Jvm.ClassFile.FieldType.object "java/lang/String")), Jvm.Cond.code ({ cls := "java/lang/StringLatin1", name := "canEncode", desc := "(C)Z" } : Jvm.MethodName) jdk_43_method_3_code (1 : Nat) (Option.some Jvm.ClassFile.FieldType.boolean), Jvm.Cond.code ({ cls := "java/lang/StringLatin1", name := "toBytes", desc := "(C)[B" } : Jvm.MethodName) jdk_43_method_46_code (1 : Nat) (Option.some (Jvm.ClassFile.FieldType.array Jvm.ClassFile.FieldType.byte)), Jvm.Cond.code ({ cls := "java/lang/String", name := "<init>", desc := "([BB)V" } : Jvm.MethodName) jdk_42_method_151_code (3 : Nat) (Option.none : Option Jvm.ClassFile.FieldType)]
set_option maxRecDepth 65536 in
theorem codes_eq : words1.filter isCode = codes1 := rfl
theorem w_codes : ∀ c ∈ words1.filter isCode, c.before args0 about1 = true := by
  rw [codes_eq]
  intro c hc
  simp only [codes1, List.mem_cons, List.not_mem_nil, or_false] at hc
  rcases hc with rfl | rfl | rfl | rfl | rfl | rfl | rfl | rfl | rfl | rfl | rfl | rfl | rfl | rfl | rfl
  · exact w_c0
  · exact w_c1
  · exact w_c2
  · exact w_c3
  · exact w_c4
  · exact w_c5
  · exact w_c6
  · exact w_c7
  · exact w_c8
  · exact w_c9
  · exact w_c10
  · exact w_c11
  · exact w_c12
  · exact w_c13
  · exact w_c14
set_option maxRecDepth 65536 in
theorem w_t1 : (words1.take 24).all (fun c => isCode c || c.before args0 about1) = true := by decide +kernel
set_option maxRecDepth 65536 in
theorem w_t2 : ((words1.drop 24).take 24).all (fun c => isCode c || c.before args0 about1) = true := by decide +kernel
set_option maxRecDepth 65536 in
theorem w_t3 : (((words1.drop 24).drop 24).take 24).all (fun c => isCode c || c.before args0 about1) = true := by decide +kernel
set_option maxRecDepth 65536 in
theorem w_t4 : ((((words1.drop 24).drop 24).drop 24).take 24).all (fun c => isCode c || c.before args0 about1) = true := by decide +kernel
set_option maxRecDepth 65536 in
theorem w_t5 : ((((words1.drop 24).drop 24).drop 24).drop 24).all (fun c => isCode c || c.before args0 about1) = true := by decide +kernel
theorem w_tables : (allAtoms (Jvm.Cond.code x code maxLocals ret :: tables_1)).before args0 about1 = true := by
  rw [allAtoms_all]
  show words1.all (fun c => c.before args0 about1) = true
  refine all_split ?_ w_codes
  rw [← List.take_append_drop 24 words1, List.all_append, w_t1, ← List.take_append_drop 24 (words1.drop 24), List.all_append, w_t2, ← List.take_append_drop 24 ((words1.drop 24).drop 24), List.all_append, w_t3, ← List.take_append_drop 24 (((words1.drop 24).drop 24).drop 24), List.all_append, w_t4, w_t5]
  rfl
set_option maxRecDepth 65536 in
theorem w_rest : rest_1_c.before args0 about1 = true := by decide +kernel
set_option maxRecDepth 65536 in
theorem w_case : (Jvm.Cond.and given_1 narrow_1).before args0 about1 = true := by decide +kernel
theorem w_applies : (headSpec (Jvm.Cond.code x code maxLocals ret :: tables_1) room_1).applies x e0.platform about1 = true :=
  (Spec.applies_iff w_frames).mpr ⟨w_running, w_runnable, w_alone, w_named, w_hears, w_ripe, w_room, w_tables⟩
theorem atStart : AtStart classFile x code maxLocals ret World_1 tables_1 room_1 Calls_1 rest_1 Pre_1 launch0 p0 e0 about1 theMethod args0 below0 :=
  ⟨lists_1, trivial, launch0.admits_env _ _ _, launch0.least_env, fairChoices_fair.cas, fairChoices_fair.clock, w_frames, w_args, w_heap, w_applies, trivial, w_rest, w_case⟩
end start1
theorem witness_1 : WitnessClaimed_1 := ⟨start1.p0, start1.e0, start1.about1, start1.theMethod, start1.args0, start1.below0, start1.atStart⟩
end Jvm.Pilot.@@N@@
