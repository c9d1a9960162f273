import JvmDerived
import JvmDerived.Pilot.@@N@@Statement
import JvmDerived.Pilot.@@N@@Code
set_option linter.unusedVariables false
set_option linter.unusedSimpArgs false
namespace Jvm.RoadKit
open Sem ClassFile Op Lib Jvm.Stand Jvm.Free Jvm.LawKit
section New
variable {p : Program} {l : Launch} {e : Env} {R : Room} {s : State} {m : MethodId} {args : Array Value} {below : List Frame} {meth : Method} {c : Code} {T : State} {locs : List Loc} {cells slots : Nat}
theorem retI (X : Stand p l e R s m args below meth c T locs cells slots) (hx : p.tables.exec = Jvm.exec) {pc : Nat} {Ls : Array Slot} {z : Int32} {rest : List Value} (hret : meth.sig.returnType = some .int) (hd : decode c.code pc = .ok (.ireturn, 1)) {fs : List Frame}
    (hl : ∀ (f : JFrame) (acts : List Action), f.method = m → f.locked = none → f.entered = [] → (doReturn e (T.setTop f) acts (some (.int z))).1 = T.setFrames fs) : Steps p.tables e below (T.setTop (mkF m pc Ls (.int z :: rest))) (T.setFrames fs) := by
  have hm' : T.vm.method? m = some meth := X.method'
  have hn : narrow .int (.int z) = .int z := rfl
  show Steps p.tables e below (T.setTop { method := m, pc := pc, locals := Ls, stack := _ :: rest, locked := none }) _
  jvm_step X.here [X.here.top, hx, hd, hm', hret, hn]
  first | (intro acts; rw [hl _ acts rfl rfl rfl]) | rw [hl _ _ rfl rfl rfl]
  exact Steps.refl _
end New
end Jvm.RoadKit
namespace Jvm.Pilot.@@N@@
open Jvm Jvm.ClassFile Sem Op Lib Jvm.Free Jvm.Stand Jvm.LawKit Jvm.RoadKit Bundle Jvm.Pilot.@@N@@.Jvm.D
theorem own_eqi {args : Array Value} {s : State} {t : Term} {k : Int32} (h : (Cond.eq t (Term.int k)).value args s none s [] = some true) : t.eval args s none [] s = some (.int k) := by
  have e2 : (Term.int k).eval args s none [] s = some (.int k) := rfl
  cases hv : t.eval args s none [] s with
  | none => simp [Cond.value, hv] at h
  | some v =>
    simp only [Cond.value, hv, e2] at h
    cases v <;> simp at h
    rw [h]
theorem own_eqr {args : Array Value} {s : State} {t u : Term} {y : Addr} (h : (Cond.eq t u).value args s none s [] = some true) (hu : u.eval args s none [] s = some (.ref y)) : t.eval args s none [] s = some (.ref y) := by
  cases hv : t.eval args s none [] s with
  | none => simp [Cond.value, hv] at h
  | some v =>
    simp only [Cond.value, hv, hu] at h
    cases v <;> simp at h
    rw [h]
theorem own_fi {args : Array Value} {s : State} {t : Term} {C n d : String} {k : Int32} {x : Addr} (h : (Cond.eq (Term.field t C n d) (Term.int k)).value args s none s [] = some true) (ht : t.eval args s none [] s = some (.ref x)) : s.fieldOf? x C n d = some (.int k) := (fld_at ht).symm.trans (own_eqi h)
theorem own_fr {args : Array Value} {s : State} {t u : Term} {C n d : String} {x y : Addr} (h : (Cond.eq (Term.field t C n d) u).value args s none s [] = some true) (ht : t.eval args s none [] s = some (.ref x)) (hu : u.eval args s none [] s = some (.ref y)) : s.fieldOf? x C n d = some (.ref y) := (fld_at ht).symm.trans (own_eqr h hu)
theorem own_ne {s : State} {C n d : String} {x y : Addr} {j k : Int32} (hx : s.fieldOf? x C n d = some (.int j)) (hy : s.fieldOf? y C n d = some (.int k)) (hk : j ≠ k) : ¬ (x = y) := fun q => by
  subst q
  rw [hx] at hy
  exact hk (Value.int.inj (Option.some.inj hy))
theorem own_sk {Z : State} {h h' : Heap} {C n d : String} {v : Value} (S : Sta Z h C n d v) (K : Keep h h' []) : Sta Z h' C n d v := by
  obtain ⟨cf, i, k, f, st, cell, h1, h2, h3, h4, h5, r⟩ := S
  exact ⟨cf, i, k, f, st, cell, h1, h2, h3, h4, K.2.1 _ _ h5 (by simp), r⟩
def QR (b : Addr) (h0 : Heap) (n0 : Nat) (v : Option Value) (h : Heap) (L : List Loc) : Prop := v = some (.ref b) ∧ Fr n0 L ∧ h = h0
def QI (z : Int32) (h0 : Heap) (n0 : Nat) (v : Option Value) (h : Heap) (L : List Loc) : Prop := v = some (.int z) ∧ Fr n0 L ∧ h = h0
theorem d2_0 : decode jdk_2055_method_5_code 0 = .ok (.iload_n 0, 1) := by decide +kernel
theorem d2_1 : decode jdk_2055_method_5_code 1 = .ok (.ifCond .eq 9, 3) := by decide +kernel
theorem d2_4 : decode jdk_2055_method_5_code 4 = .ok (.getstatic 27, 3) := by decide +kernel
theorem d2_7 : decode jdk_2055_method_5_code 7 = .ok (.goto 6, 3) := by decide +kernel
theorem d2_13 : decode jdk_2055_method_5_code 13 = .ok (.areturn, 1) := by decide +kernel
theorem pn_2 : plainName "java/lang/Boolean" = true := by first | (simp [plainName, overriddenIn]; done) | decide +kernel
theorem ef_2 (m : MethodId) (x0 : Int32) : entryFrame m #[(.int x0)] 1 = mkF m 0 #[.val (.int x0)] [] := by first | (simp [entryFrame, mkF, argsToLocals, Value.category]; done) | rfl
theorem d2_10 : decode jdk_2055_method_5_code 10 = .ok (.getstatic 31, 3) := by decide +kernel
set_option maxRecDepth 65536 in
set_option maxHeartbeats 40000000 in
theorem rm2f (l : Launch) (Z : State) (a0 : Array Value) (hw : ∀ d ∈ tables_1, d.before a0 Z = true) (ws : List Jvm.Cond) (p1 : Int32) (w2 : Addr) (h0 : Heap) (n0 : Nat) (Z0 : n0 ≤ h0.size) (S_TRUE : Sta Z h0 "java/lang/Boolean" "TRUE" "Ljava/lang/Boolean;" (.ref w2)) (hc1 : ¬ (p1 = (0 : Int32))) :
    MetFree l (⟨"java/lang/Boolean", "valueOf", "(Z)Ljava/lang/Boolean;"⟩ : MethodName) (head1 (Jvm.Cond.code (⟨"java/lang/Boolean", "valueOf", "(Z)Ljava/lang/Boolean;"⟩ : MethodName) jdk_2055_method_5_code 1 (some (.object "java/lang/Boolean")) :: ws) ({ frames := 0, cells := 0, slots := 0, locals := 0 } : Room)) (fun a U => a = #[(.int p1)] ∧ Z.Warmed39 U.vm ∧ U.heap = h0) (fun _ _ _ _ _ => True) (fun _ U o U' => ∃ v L, o = .returned v ∧ QR w2 h0 n0 v U'.heap L ∧ FrameEnd U o U' L ({ frames := 0, cells := 0, slots := 0, locals := 0 } : Room).cells ({ frames := 0, cells := 0, slots := 0, locals := 0 } : Room).slots) := by
  refine MetFree.of_bodySF (plainFor_of_name pn_2) hisR ?_
  intro p e s m args below meth c s₁ Bd hml0 hP hK
  obtain ⟨rfl, hZ, hh⟩ := hP
  have hx := Bd.exec
  have hby := Bd.bytes
  have hml : c.maxLocals = 1 := hml0
  have hown : s.vm.findClass "java/lang/Boolean" = some m.cls := findClass_of_methodNamed Bd.named
  have hnm := (name_of_methodNamed Bd.named Bd.method).1
  have X0 : Stand p l e ({ frames := 0, cells := 0, slots := 0, locals := 0 } : Room) s m #[(.int p1)] below meth c s₁ [] 0 0 := Stand.of_body Bd
  have e0 : s₁.heap = h0 := by rw [← hh, Bd.state]; rfl
  have N0 := Fr.nil n0
  have pre0 : ∀ t, Steps p.tables e below (s₁.setTop (mkF m 0 #[.val (.int p1)] [])) t → Steps p.tables e below (s₁.setTop (entryFrame m #[(.int p1)] 1)) t := fun t k => castTop (ef_2 m p1) k
  obtain ⟨T3, X3, e3, st3⟩ := getS2 X0 hx hZ hown (host := "") (Or.inl (hw _ (List.mem_of_getElem? (i := 24) rfl))) Via.refl e0 S_TRUE (g := (mkF m 4 #[.val (.int p1)] [])) rfl (hb hby d2_4)
  obtain ⟨fs, hr, hrun, hended, hW, hsame⟩ := X3.leave (v := some (.ref w2)) (fun h => by rw [Bd.returns] at h; cases h)
  refine ⟨_, _, pre0 _ ?_, hrun, hended, _, _, rfl, ?_, ⟨_, rfl⟩, hW, hsame.mono (by decide) (by decide)⟩
  · show Steps p.tables e below (s₁.setTop (mkF m 0 #[.val (.int p1)] [])) _
    refine XS.iloadN X0.here hx rfl (hb hby d2_0) rfl ?_
    show Steps p.tables e below (s₁.setTop (mkF m 1 #[.val (.int p1)] [(.int p1)])) _
    refine XS.ifNo X0.here hx rfl (hb hby d2_1) rfl ((if0 _ _).trans (feq hc1).1) ?_
    show Steps p.tables e below (s₁.setTop (mkF m 4 #[.val (.int p1)] [])) _
    refine st3 _ ?_
    show Steps p.tables e below (T3.setTop (mkF m 7 #[.val (.int p1)] [(.ref w2)])) _
    refine XS.goto X3.here hx rfl (pc0 := 7) (pc' := 13) rfl (hb hby d2_7) (by decide) (by decide) ?_
    show Steps p.tables e below (T3.setTop (mkF m 13 #[.val (.int p1)] [(.ref w2)])) _
    jvm_step X3.here [X3.here.top, hx, (hb hby d2_13), X3.method', Bd.returns, Value.isRef, FieldType.isReference]
    first | (intro acts; rw [hr _ acts rfl rfl rfl]) | rw [hr _ _ rfl rfl rfl]
    exact Steps.refl _
  · show QR w2 h0 n0 _ T3.heap _
    rw [e3]
    exact ⟨rfl, N0, rfl⟩
set_option maxRecDepth 65536 in
set_option maxHeartbeats 40000000 in
theorem rm2t (l : Launch) (Z : State) (a0 : Array Value) (hw : ∀ d ∈ tables_1, d.before a0 Z = true) (ws : List Jvm.Cond) (p1 : Int32) (w2 : Addr) (h0 : Heap) (n0 : Nat) (Z0 : n0 ≤ h0.size) (S_FALSE : Sta Z h0 "java/lang/Boolean" "FALSE" "Ljava/lang/Boolean;" (.ref w2)) (hc1 : p1 = (0 : Int32)) :
    MetFree l (⟨"java/lang/Boolean", "valueOf", "(Z)Ljava/lang/Boolean;"⟩ : MethodName) (head1 (Jvm.Cond.code (⟨"java/lang/Boolean", "valueOf", "(Z)Ljava/lang/Boolean;"⟩ : MethodName) jdk_2055_method_5_code 1 (some (.object "java/lang/Boolean")) :: ws) ({ frames := 0, cells := 0, slots := 0, locals := 0 } : Room)) (fun a U => a = #[(.int p1)] ∧ Z.Warmed39 U.vm ∧ U.heap = h0) (fun _ _ _ _ _ => True) (fun _ U o U' => ∃ v L, o = .returned v ∧ QR w2 h0 n0 v U'.heap L ∧ FrameEnd U o U' L ({ frames := 0, cells := 0, slots := 0, locals := 0 } : Room).cells ({ frames := 0, cells := 0, slots := 0, locals := 0 } : Room).slots) := by
  refine MetFree.of_bodySF (plainFor_of_name pn_2) hisR ?_
  intro p e s m args below meth c s₁ Bd hml0 hP hK
  obtain ⟨rfl, hZ, hh⟩ := hP
  have hx := Bd.exec
  have hby := Bd.bytes
  have hml : c.maxLocals = 1 := hml0
  have hown : s.vm.findClass "java/lang/Boolean" = some m.cls := findClass_of_methodNamed Bd.named
  have hnm := (name_of_methodNamed Bd.named Bd.method).1
  have X0 : Stand p l e ({ frames := 0, cells := 0, slots := 0, locals := 0 } : Room) s m #[(.int p1)] below meth c s₁ [] 0 0 := Stand.of_body Bd
  have e0 : s₁.heap = h0 := by rw [← hh, Bd.state]; rfl
  have N0 := Fr.nil n0
  have pre0 : ∀ t, Steps p.tables e below (s₁.setTop (mkF m 0 #[.val (.int p1)] [])) t → Steps p.tables e below (s₁.setTop (entryFrame m #[(.int p1)] 1)) t := fun t k => castTop (ef_2 m p1) k
  obtain ⟨T3, X3, e3, st3⟩ := getS2 X0 hx hZ hown (host := "") (Or.inl (hw _ (List.mem_of_getElem? (i := 13) rfl))) Via.refl e0 S_FALSE (g := (mkF m 10 #[.val (.int p1)] [])) rfl (hb hby d2_10)
  obtain ⟨fs, hr, hrun, hended, hW, hsame⟩ := X3.leave (v := some (.ref w2)) (fun h => by rw [Bd.returns] at h; cases h)
  refine ⟨_, _, pre0 _ ?_, hrun, hended, _, _, rfl, ?_, ⟨_, rfl⟩, hW, hsame.mono (by decide) (by decide)⟩
  · show Steps p.tables e below (s₁.setTop (mkF m 0 #[.val (.int p1)] [])) _
    refine XS.iloadN X0.here hx rfl (hb hby d2_0) rfl ?_
    show Steps p.tables e below (s₁.setTop (mkF m 1 #[.val (.int p1)] [(.int p1)])) _
    refine XS.ifYes X0.here hx rfl (pc0 := 1) (pc' := 10) rfl (hb hby d2_1) rfl ((if0 _ _).trans (teq hc1).1) (by decide) (by decide) ?_
    show Steps p.tables e below (s₁.setTop (mkF m 10 #[.val (.int p1)] [])) _
    refine st3 _ ?_
    show Steps p.tables e below (T3.setTop (mkF m 13 #[.val (.int p1)] [(.ref w2)])) _
    jvm_step X3.here [X3.here.top, hx, (hb hby d2_13), X3.method', Bd.returns, Value.isRef, FieldType.isReference]
    first | (intro acts; rw [hr _ acts rfl rfl rfl]) | rw [hr _ _ rfl rfl rfl]
    exact Steps.refl _
  · show QR w2 h0 n0 _ T3.heap _
    rw [e3]
    exact ⟨rfl, N0, rfl⟩
def Box (Z : State) (h0 : Heap) (z : Int32) (w : Addr) : Prop := (z = 1 ∧ Sta Z h0 "java/lang/Boolean" "TRUE" "Ljava/lang/Boolean;" (.ref w)) ∨ (z = 0 ∧ Sta Z h0 "java/lang/Boolean" "FALSE" "Ljava/lang/Boolean;" (.ref w))
theorem own_bk {Z : State} {h h' : Heap} {z : Int32} {w : Addr} (B : Box Z h z w) (K : Keep h h' []) : Box Z h' z w := B.imp (fun q => ⟨q.1, own_sk q.2 K⟩) (fun q => ⟨q.1, own_sk q.2 K⟩)
theorem rm2 (l : Launch) (Z : State) (a0 : Array Value) (hw : ∀ d ∈ tables_1, d.before a0 Z = true) (ws : List Jvm.Cond) (p1 : Int32) (w2 : Addr) (h0 : Heap) (n0 : Nat) (Z0 : n0 ≤ h0.size) (hp : Box Z h0 p1 w2) :
    MetFree l (⟨"java/lang/Boolean", "valueOf", "(Z)Ljava/lang/Boolean;"⟩ : MethodName) (head1 (Jvm.Cond.code (⟨"java/lang/Boolean", "valueOf", "(Z)Ljava/lang/Boolean;"⟩ : MethodName) jdk_2055_method_5_code 1 (some (.object "java/lang/Boolean")) :: ws) ({ frames := 0, cells := 0, slots := 0, locals := 0 } : Room)) (fun a U => a = #[(.int p1)] ∧ Z.Warmed39 U.vm ∧ U.heap = h0) (fun _ _ _ _ _ => True) (fun _ U o U' => ∃ v L, o = .returned v ∧ QR w2 h0 n0 v U'.heap L ∧ FrameEnd U o U' L ({ frames := 0, cells := 0, slots := 0, locals := 0 } : Room).cells ({ frames := 0, cells := 0, slots := 0, locals := 0 } : Room).slots) := by
  rcases hp with ⟨rfl, hs⟩ | ⟨rfl, hs⟩
  · exact rm2f l Z a0 hw ws _ w2 h0 n0 Z0 hs (by decide)
  · exact rm2t l Z a0 hw ws _ w2 h0 n0 Z0 hs rfl
theorem d3_0 : decode prog_17_method_1_code 0 = .ok (.aload_n 0, 1) := by decide +kernel
theorem d3_1 : decode prog_17_method_1_code 1 = .ok (.invokespecial 1, 3) := by decide +kernel
theorem d3_4 : decode prog_17_method_1_code 4 = .ok (.aload_n 0, 1) := by decide +kernel
theorem d3_5 : decode prog_17_method_1_code 5 = .ok (.aload_n 1, 1) := by decide +kernel
theorem d3_6 : decode prog_17_method_1_code 6 = .ok (.putfield 7, 3) := by decide +kernel
theorem d3_9 : decode prog_17_method_1_code 9 = .ok (.aload_n 0, 1) := by decide +kernel
theorem d3_10 : decode prog_17_method_1_code 10 = .ok (.aload_n 2, 1) := by decide +kernel
theorem d3_11 : decode prog_17_method_1_code 11 = .ok (.putfield 13, 3) := by decide +kernel
theorem d3_14 : decode prog_17_method_1_code 14 = .ok (.return_, 1) := by decide +kernel
theorem pn_3 : plainName "com/example/hold_fast/holdfast/model/FieldValue" = true := by first | (simp [plainName, overriddenIn]; done) | decide +kernel
theorem ef_3 (m : MethodId) (x0 : Addr) (x1 : Addr) (x2 : Addr) : entryFrame m #[(.ref x0), (.ref x1), (.ref x2)] 3 = mkF m 0 #[.val (.ref x0), .val (.ref x1), .val (.ref x2)] [] := by first | (simp [entryFrame, mkF, argsToLocals, Value.category]; done) | rfl
def Q3 (Z : State) (a1 : Addr) (a2 : Addr) (a3 : Addr) (u_type_a1 : Value) (u_given_a1 : Value) (h0 : Heap) (n0 : Nat) (v : Option Value) (h : Heap) (L : List Loc) : Prop := v = none ∧ Fr n0 L ∧ Keep h0 h [a1] ∧ Exa Z h a1 "com/example/hold_fast/holdfast/model/FieldValue" ∧ Fld Z h a1 "com/example/hold_fast/holdfast/model/FieldValue" "type" "Lcom/example/hold_fast/holdfast/model/FieldType;" (.ref a2) ∧ Fld Z h a1 "com/example/hold_fast/holdfast/model/FieldValue" "given" "Ljava/lang/Object;" (.ref a3)
set_option maxRecDepth 65536 in
set_option maxHeartbeats 40000000 in
theorem rm3 (l : Launch) (Z : State) (a0 : Array Value) (hw : ∀ d ∈ tables_1, d.before a0 Z = true) (ws : List Jvm.Cond) (a1 : Addr) (a2 : Addr) (a3 : Addr) (u_type_a1 : Value) (u_given_a1 : Value) (h0 : Heap) (n0 : Nat) (Z0 : n0 ≤ h0.size) (E_a1 : Exa Z h0 a1 "com/example/hold_fast/holdfast/model/FieldValue") (F_type_a1 : Fld Z h0 a1 "com/example/hold_fast/holdfast/model/FieldValue" "type" "Lcom/example/hold_fast/holdfast/model/FieldType;" u_type_a1) (g_a1 : n0 ≤ a1) (F_given_a1 : Fld Z h0 a1 "com/example/hold_fast/holdfast/model/FieldValue" "given" "Ljava/lang/Object;" u_given_a1) :
    MetFree l (⟨"com/example/hold_fast/holdfast/model/FieldValue", "<init>", "(Lcom/example/hold_fast/holdfast/model/FieldType;Ljava/lang/Object;)V"⟩ : MethodName) (head1 (Jvm.Cond.code (⟨"com/example/hold_fast/holdfast/model/FieldValue", "<init>", "(Lcom/example/hold_fast/holdfast/model/FieldType;Ljava/lang/Object;)V"⟩ : MethodName) prog_17_method_1_code 3 none :: ws) ({ frames := 1, cells := 0, slots := 0, locals := 12 } : Room)) (fun a U => a = #[(.ref a1), (.ref a2), (.ref a3)] ∧ Z.Warmed39 U.vm ∧ U.heap = h0) (fun _ _ _ _ _ => True) (fun _ U o U' => ∃ v L, o = .returned v ∧ Q3 Z a1 a2 a3 u_type_a1 u_given_a1 h0 n0 v U'.heap L ∧ FrameEnd U o U' L ({ frames := 1, cells := 0, slots := 0, locals := 12 } : Room).cells ({ frames := 1, cells := 0, slots := 0, locals := 12 } : Room).slots) := by
  refine MetFree.of_bodySF (plainFor_of_name pn_3) hisR ?_
  intro p e s m args below meth c s₁ Bd hml0 hP hK
  obtain ⟨rfl, hZ, hh⟩ := hP
  have hx := Bd.exec
  have hby := Bd.bytes
  have hml : c.maxLocals = 3 := hml0
  have hown : s.vm.findClass "com/example/hold_fast/holdfast/model/FieldValue" = some m.cls := findClass_of_methodNamed Bd.named
  have hnm := (name_of_methodNamed Bd.named Bd.method).1
  have X0 : Stand p l e ({ frames := 1, cells := 0, slots := 0, locals := 12 } : Room) s m #[(.ref a1), (.ref a2), (.ref a3)] below meth c s₁ [] 0 0 := Stand.of_body Bd
  have e0 : s₁.heap = h0 := by rw [← hh, Bd.state]; rfl
  have N0 := Fr.nil n0
  have pre0 : ∀ t, Steps p.tables e below (s₁.setTop (mkF m 0 #[.val (.ref a1), .val (.ref a2), .val (.ref a3)] [])) t → Steps p.tables e below (s₁.setTop (entryFrame m #[(.ref a1), (.ref a2), (.ref a3)] 3)) t := fun t k => castTop (ef_3 m a1 a2 a3) k
  obtain ⟨T4, X4, e4, st4⟩ := initO X0 hx hZ hown (hw _ (List.mem_of_getElem? (i := 17) rfl)) (hw _ (List.mem_of_getElem? (i := 18) rfl)) (hw _ (List.mem_of_getElem? (i := 19) rfl)) e0 (g := (mkF m 1 #[.val (.ref a1), .val (.ref a2), .val (.ref a3)] [(.ref a1)])) rfl (by rw [hml]; rfl) rfl (hb hby d3_1) (by decide) (W := 0) (by show 2 * 0 + _ ≤ _; exact Nat.le_of_eq rfl) (by decide)
  obtain ⟨T5, h5, X5, e5, W5, st5⟩ := putF X4 hx hZ hown (host := "") (Or.inl (hw _ (List.mem_of_getElem? (i := 20) rfl))) Via.refl e4 F_type_a1 E_a1 (Or.inr ⟨(hw _ (List.mem_of_getElem? (i := 21) rfl)), rfl, hnm⟩) (hw _ (List.mem_of_getElem? (i := 5) rfl)) (ty := (.object "com/example/hold_fast/holdfast/model/FieldType")) (by decide) rfl rfl (g := (mkF m 6 #[.val (.ref a1), .val (.ref a2), .val (.ref a3)] [(.ref a2), (.ref a1)])) rfl rfl (hb hby d3_6)
  have Fw5 := F_type_a1.same W5
  have K5 : Keep h0 h5 [a1] := (Keep.refl h0 [a1]).wr W5 (Or.inl (List.mem_of_getElem? (i := 0) rfl))
  have N5 := Fr.snoc X5 N0 g_a1
  obtain ⟨T6, h6, X6, e6, W6, st6⟩ := putF X5 hx hZ hown (host := "") (Or.inl (hw _ (List.mem_of_getElem? (i := 22) rfl))) Via.refl e5 (F_given_a1.other W5 (Or.inr (slot_ne (Or.inr (hw _ (List.mem_of_getElem? (i := 23) rfl))) (Or.inr (hw _ (List.mem_of_getElem? (i := 21) rfl))) (by decide) (t := (.object "java/lang/Object")) (t' := (.object "com/example/hold_fast/holdfast/model/FieldType")) (by decide) (by decide)))) (E_a1.wr W5) (Or.inr ⟨(hw _ (List.mem_of_getElem? (i := 23) rfl)), rfl, hnm⟩) (hw _ (List.mem_of_getElem? (i := 5) rfl)) (ty := (.object "java/lang/Object")) (by decide) rfl rfl (g := (mkF m 11 #[.val (.ref a1), .val (.ref a2), .val (.ref a3)] [(.ref a3), (.ref a1)])) rfl rfl (hb hby d3_11)
  have Fw6 := (F_given_a1.other W5 (Or.inr (slot_ne (Or.inr (hw _ (List.mem_of_getElem? (i := 23) rfl))) (Or.inr (hw _ (List.mem_of_getElem? (i := 21) rfl))) (by decide) (t := (.object "java/lang/Object")) (t' := (.object "com/example/hold_fast/holdfast/model/FieldType")) (by decide) (by decide)))).same W6
  have K6 : Keep h0 h6 [a1] := K5.wr W6 (Or.inl (List.mem_of_getElem? (i := 0) rfl))
  have N6 := Fr.snoc X6 N5 g_a1
  obtain ⟨fs, hr, hrun, hended, hW, hsame⟩ := X6.leave (v := none) (fun _ => rfl)
  refine ⟨_, _, pre0 _ ?_, hrun, hended, _, _, rfl, ?_, ⟨_, rfl⟩, hW, hsame.mono (by decide) (by decide)⟩
  · show Steps p.tables e below (s₁.setTop (mkF m 0 #[.val (.ref a1), .val (.ref a2), .val (.ref a3)] [])) _
    refine XS.aloadN X0.here hx rfl (hb hby d3_0) rfl rfl ?_
    show Steps p.tables e below (s₁.setTop (mkF m 1 #[.val (.ref a1), .val (.ref a2), .val (.ref a3)] [(.ref a1)])) _
    refine st4 _ ?_
    show Steps p.tables e below (T4.setTop (mkF m 4 #[.val (.ref a1), .val (.ref a2), .val (.ref a3)] [])) _
    refine XS.aloadN X4.here hx rfl (hb hby d3_4) rfl rfl ?_
    show Steps p.tables e below (T4.setTop (mkF m 5 #[.val (.ref a1), .val (.ref a2), .val (.ref a3)] [(.ref a1)])) _
    refine XS.aloadN X4.here hx rfl (hb hby d3_5) rfl rfl ?_
    show Steps p.tables e below (T4.setTop (mkF m 6 #[.val (.ref a1), .val (.ref a2), .val (.ref a3)] [(.ref a2), (.ref a1)])) _
    refine st5 _ ?_
    show Steps p.tables e below (T5.setTop (mkF m 9 #[.val (.ref a1), .val (.ref a2), .val (.ref a3)] [])) _
    refine XS.aloadN X5.here hx rfl (hb hby d3_9) rfl rfl ?_
    show Steps p.tables e below (T5.setTop (mkF m 10 #[.val (.ref a1), .val (.ref a2), .val (.ref a3)] [(.ref a1)])) _
    refine XS.aloadN X5.here hx rfl (hb hby d3_10) rfl rfl ?_
    show Steps p.tables e below (T5.setTop (mkF m 11 #[.val (.ref a1), .val (.ref a2), .val (.ref a3)] [(.ref a3), (.ref a1)])) _
    refine st6 _ ?_
    show Steps p.tables e below (T6.setTop (mkF m 14 #[.val (.ref a1), .val (.ref a2), .val (.ref a3)] [])) _
    exact X6.returnOut hx Bd.returns (hb hby d3_14) hr
  · show Q3 Z a1 a2 a3 u_type_a1 u_given_a1 h0 n0 _ T6.heap _
    rw [e6]
    exact ⟨rfl, N6, K6, ((E_a1.wr W5).wr W6), (Fw5.other W6 (Or.inr (slot_ne (Or.inr (hw _ (List.mem_of_getElem? (i := 21) rfl))) (Or.inr (hw _ (List.mem_of_getElem? (i := 23) rfl))) (by decide) (t := (.object "com/example/hold_fast/holdfast/model/FieldType")) (t' := (.object "java/lang/Object")) (by decide) (by decide)))), Fw6⟩
theorem d5_0 : decode prog_17_method_5_code 0 = .ok (.aload_n 0, 1) := by decide +kernel
theorem d5_1 : decode prog_17_method_5_code 1 = .ok (.getfield 7, 3) := by decide +kernel
theorem d5_4 : decode prog_17_method_5_code 4 = .ok (.areturn, 1) := by decide +kernel
theorem pn_5 : plainName "com/example/hold_fast/holdfast/model/FieldValue" = true := by first | (simp [plainName, overriddenIn]; done) | decide +kernel
theorem ef_5 (m : MethodId) (x0 : Addr) : entryFrame m #[(.ref x0)] 1 = mkF m 0 #[.val (.ref x0)] [] := by first | (simp [entryFrame, mkF, argsToLocals, Value.category]; done) | rfl
set_option maxRecDepth 65536 in
set_option maxHeartbeats 40000000 in
theorem rm5 (l : Launch) (Z : State) (a0 : Array Value) (hw : ∀ d ∈ tables_1, d.before a0 Z = true) (ws : List Jvm.Cond) (a1 : Addr) (w2 : Addr) (h0 : Heap) (n0 : Nat) (Z0 : n0 ≤ h0.size) (F_type_a1 : Fld Z h0 a1 "com/example/hold_fast/holdfast/model/FieldValue" "type" "Lcom/example/hold_fast/holdfast/model/FieldType;" (.ref w2)) :
    MetFree l (⟨"com/example/hold_fast/holdfast/model/FieldValue", "type", "()Lcom/example/hold_fast/holdfast/model/FieldType;"⟩ : MethodName) (head1 (Jvm.Cond.code (⟨"com/example/hold_fast/holdfast/model/FieldValue", "type", "()Lcom/example/hold_fast/holdfast/model/FieldType;"⟩ : MethodName) prog_17_method_5_code 1 (some (.object "com/example/hold_fast/holdfast/model/FieldType")) :: ws) ({ frames := 0, cells := 0, slots := 0, locals := 0 } : Room)) (fun a U => a = #[(.ref a1)] ∧ Z.Warmed39 U.vm ∧ U.heap = h0) (fun _ _ _ _ _ => True) (fun _ U o U' => ∃ v L, o = .returned v ∧ QR w2 h0 n0 v U'.heap L ∧ FrameEnd U o U' L ({ frames := 0, cells := 0, slots := 0, locals := 0 } : Room).cells ({ frames := 0, cells := 0, slots := 0, locals := 0 } : Room).slots) := by
  refine MetFree.of_bodySF (plainFor_of_name pn_5) hisR ?_
  intro p e s m args below meth c s₁ Bd hml0 hP hK
  obtain ⟨rfl, hZ, hh⟩ := hP
  have hx := Bd.exec
  have hby := Bd.bytes
  have hml : c.maxLocals = 1 := hml0
  have hown : s.vm.findClass "com/example/hold_fast/holdfast/model/FieldValue" = some m.cls := findClass_of_methodNamed Bd.named
  have hnm := (name_of_methodNamed Bd.named Bd.method).1
  have X0 : Stand p l e ({ frames := 0, cells := 0, slots := 0, locals := 0 } : Room) s m #[(.ref a1)] below meth c s₁ [] 0 0 := Stand.of_body Bd
  have e0 : s₁.heap = h0 := by rw [← hh, Bd.state]; rfl
  have N0 := Fr.nil n0
  have pre0 : ∀ t, Steps p.tables e below (s₁.setTop (mkF m 0 #[.val (.ref a1)] [])) t → Steps p.tables e below (s₁.setTop (entryFrame m #[(.ref a1)] 1)) t := fun t k => castTop (ef_5 m a1) k
  obtain ⟨T3, X3, e3, st3⟩ := getF X0 hx hZ hown (host := "") (Or.inl (hw _ (List.mem_of_getElem? (i := 20) rfl))) Via.refl e0 F_type_a1 (g := (mkF m 1 #[.val (.ref a1)] [(.ref a1)])) rfl rfl (hb hby d5_1)
  obtain ⟨fs, hr, hrun, hended, hW, hsame⟩ := X3.leave (v := some (.ref w2)) (fun h => by rw [Bd.returns] at h; cases h)
  refine ⟨_, _, pre0 _ ?_, hrun, hended, _, _, rfl, ?_, ⟨_, rfl⟩, hW, hsame.mono (by decide) (by decide)⟩
  · show Steps p.tables e below (s₁.setTop (mkF m 0 #[.val (.ref a1)] [])) _
    refine XS.aloadN X0.here hx rfl (hb hby d5_0) rfl rfl ?_
    show Steps p.tables e below (s₁.setTop (mkF m 1 #[.val (.ref a1)] [(.ref a1)])) _
    refine st3 _ ?_
    show Steps p.tables e below (T3.setTop (mkF m 4 #[.val (.ref a1)] [(.ref w2)])) _
    jvm_step X3.here [X3.here.top, hx, (hb hby d5_4), X3.method', Bd.returns, Value.isRef, FieldType.isReference]
    first | (intro acts; rw [hr _ acts rfl rfl rfl]) | rw [hr _ _ rfl rfl rfl]
    exact Steps.refl _
  · show QR w2 h0 n0 _ T3.heap _
    rw [e3]
    exact ⟨rfl, N0, rfl⟩
theorem d7_0 : decode jdk_2055_method_4_code 0 = .ok (.aload_n 0, 1) := by decide +kernel
theorem d7_1 : decode jdk_2055_method_4_code 1 = .ok (.getfield 7, 3) := by decide +kernel
theorem d7_4 : decode jdk_2055_method_4_code 4 = .ok (.ireturn, 1) := by decide +kernel
theorem pn_7 : plainName "java/lang/Boolean" = true := by first | (simp [plainName, overriddenIn]; done) | decide +kernel
theorem ef_7 (m : MethodId) (x0 : Addr) : entryFrame m #[(.ref x0)] 1 = mkF m 0 #[.val (.ref x0)] [] := by first | (simp [entryFrame, mkF, argsToLocals, Value.category]; done) | rfl
set_option maxRecDepth 65536 in
set_option maxHeartbeats 40000000 in
theorem rm7 (l : Launch) (Z : State) (a0 : Array Value) (hw : ∀ d ∈ tables_1, d.before a0 Z = true) (ws : List Jvm.Cond) (a1 : Addr) (w2 : Int32) (h0 : Heap) (n0 : Nat) (Z0 : n0 ≤ h0.size) (F_value_a1 : Fld Z h0 a1 "java/lang/Boolean" "value" "Z" (.int w2)) (hz : nar .boolean w2 = w2) :
    MetFree l (⟨"java/lang/Boolean", "booleanValue", "()Z"⟩ : MethodName) (head1 (Jvm.Cond.code (⟨"java/lang/Boolean", "booleanValue", "()Z"⟩ : MethodName) jdk_2055_method_4_code 1 (some .boolean) :: ws) ({ frames := 0, cells := 0, slots := 0, locals := 0 } : Room)) (fun a U => a = #[(.ref a1)] ∧ Z.Warmed39 U.vm ∧ U.heap = h0) (fun _ _ _ _ _ => True) (fun _ U o U' => ∃ v L, o = .returned v ∧ QI w2 h0 n0 v U'.heap L ∧ FrameEnd U o U' L ({ frames := 0, cells := 0, slots := 0, locals := 0 } : Room).cells ({ frames := 0, cells := 0, slots := 0, locals := 0 } : Room).slots) := by
  refine MetFree.of_bodySF (plainFor_of_name pn_7) hisR ?_
  intro p e s m args below meth c s₁ Bd hml0 hP hK
  obtain ⟨rfl, hZ, hh⟩ := hP
  have hx := Bd.exec
  have hby := Bd.bytes
  have hml : c.maxLocals = 1 := hml0
  have hown : s.vm.findClass "java/lang/Boolean" = some m.cls := findClass_of_methodNamed Bd.named
  have hnm := (name_of_methodNamed Bd.named Bd.method).1
  have X0 : Stand p l e ({ frames := 0, cells := 0, slots := 0, locals := 0 } : Room) s m #[(.ref a1)] below meth c s₁ [] 0 0 := Stand.of_body Bd
  have e0 : s₁.heap = h0 := by rw [← hh, Bd.state]; rfl
  have N0 := Fr.nil n0
  have pre0 : ∀ t, Steps p.tables e below (s₁.setTop (mkF m 0 #[.val (.ref a1)] [])) t → Steps p.tables e below (s₁.setTop (entryFrame m #[(.ref a1)] 1)) t := fun t k => castTop (ef_7 m a1) k
  obtain ⟨T3, X3, e3, st3⟩ := getF X0 hx hZ hown (host := "") (Or.inl (hw _ (List.mem_of_getElem? (i := 43) rfl))) Via.refl e0 F_value_a1 (g := (mkF m 1 #[.val (.ref a1)] [(.ref a1)])) rfl rfl (hb hby d7_1)
  obtain ⟨fs, hr, hrun, hended, hW, hsame⟩ := X3.leave (v := some (.int w2)) (fun h => by rw [Bd.returns] at h; cases h)
  refine ⟨_, _, pre0 _ ?_, hrun, hended, _, _, rfl, ?_, ⟨_, rfl⟩, hW, hsame.mono (by decide) (by decide)⟩
  · show Steps p.tables e below (s₁.setTop (mkF m 0 #[.val (.ref a1)] [])) _
    refine XS.aloadN X0.here hx rfl (hb hby d7_0) rfl rfl ?_
    show Steps p.tables e below (s₁.setTop (mkF m 1 #[.val (.ref a1)] [(.ref a1)])) _
    refine st3 _ ?_
    show Steps p.tables e below (T3.setTop (mkF m 4 #[.val (.ref a1)] [(.int w2)])) _
    exact retN X3 hx (t := .boolean) Bd.returns (by simp) (hb hby d7_4) (by rw [hz]; exact hr)
  · show QI w2 h0 n0 _ T3.heap _
    rw [e3]
    exact ⟨rfl, N0, rfl⟩
theorem d6_0 : decode prog_17_method_7_code 0 = .ok (.aload_n 0, 1) := by decide +kernel
theorem d6_1 : decode prog_17_method_7_code 1 = .ok (.getfield 13, 3) := by decide +kernel
theorem d6_4 : decode prog_17_method_7_code 4 = .ok (.checkcast 48, 3) := by decide +kernel
theorem d6_7 : decode prog_17_method_7_code 7 = .ok (.invokevirtual 97, 3) := by decide +kernel
theorem d6_10 : decode prog_17_method_7_code 10 = .ok (.ireturn, 1) := by decide +kernel
theorem pn_6 : plainName "com/example/hold_fast/holdfast/model/FieldValue" = true := by first | (simp [plainName, overriddenIn]; done) | decide +kernel
theorem pd_6_5 : parseMethodDescriptor "()Z" = some ⟨[], some .boolean⟩ := by decide +kernel
theorem ef_6 (m : MethodId) (x0 : Addr) : entryFrame m #[(.ref x0)] 1 = mkF m 0 #[.val (.ref x0)] [] := by first | (simp [entryFrame, mkF, argsToLocals, Value.category]; done) | rfl
set_option maxRecDepth 65536 in
set_option maxHeartbeats 40000000 in
theorem rm6 (l : Launch) (Z : State) (a0 : Array Value) (hw : ∀ d ∈ tables_1, d.before a0 Z = true) (ws : List Jvm.Cond) (a1 : Addr) (w2 : Addr) (z : Int32) (h0 : Heap) (n0 : Nat) (Z0 : n0 ≤ h0.size) (F_given_a1 : Fld Z h0 a1 "com/example/hold_fast/holdfast/model/FieldValue" "given" "Ljava/lang/Object;" (.ref w2)) (E_w2 : Exa Z h0 w2 "java/lang/Boolean") (F_w2 : Fld Z h0 w2 "java/lang/Boolean" "value" "Z" (.int z)) (hz : nar .boolean z = z) :
    MetFree l (⟨"com/example/hold_fast/holdfast/model/FieldValue", "bool", "()Z"⟩ : MethodName) (head1 (Jvm.Cond.code (⟨"com/example/hold_fast/holdfast/model/FieldValue", "bool", "()Z"⟩ : MethodName) prog_17_method_7_code 1 (some .boolean) :: ws) ({ frames := 1, cells := 0, slots := 0, locals := 12 } : Room)) (fun a U => a = #[(.ref a1)] ∧ Z.Warmed39 U.vm ∧ U.heap = h0) (fun _ _ _ _ _ => True) (fun _ U o U' => ∃ v L, o = .returned v ∧ QI z h0 n0 v U'.heap L ∧ FrameEnd U o U' L ({ frames := 1, cells := 0, slots := 0, locals := 12 } : Room).cells ({ frames := 1, cells := 0, slots := 0, locals := 12 } : Room).slots) := by
  refine MetFree.of_bodySF (plainFor_of_name pn_6) hisR ?_
  intro p e s m args below meth c s₁ Bd hml0 hP hK
  obtain ⟨rfl, hZ, hh⟩ := hP
  have hx := Bd.exec
  have hby := Bd.bytes
  have hml : c.maxLocals = 1 := hml0
  have hown : s.vm.findClass "com/example/hold_fast/holdfast/model/FieldValue" = some m.cls := findClass_of_methodNamed Bd.named
  have hnm := (name_of_methodNamed Bd.named Bd.method).1
  have X0 : Stand p l e ({ frames := 1, cells := 0, slots := 0, locals := 12 } : Room) s m #[(.ref a1)] below meth c s₁ [] 0 0 := Stand.of_body Bd
  have e0 : s₁.heap = h0 := by rw [← hh, Bd.state]; rfl
  have N0 := Fr.nil n0
  have pre0 : ∀ t, Steps p.tables e below (s₁.setTop (mkF m 0 #[.val (.ref a1)] [])) t → Steps p.tables e below (s₁.setTop (entryFrame m #[(.ref a1)] 1)) t := fun t k => castTop (ef_6 m a1) k
  obtain ⟨T3, X3, e3, st3⟩ := getF X0 hx hZ hown (host := "") (Or.inl (hw _ (List.mem_of_getElem? (i := 22) rfl))) Via.refl e0 F_given_a1 (g := (mkF m 1 #[.val (.ref a1)] [(.ref a1)])) rfl rfl (hb hby d6_1)
  obtain ⟨T4, X4, e4, st4⟩ := castY X3 hx hZ hown (hw _ (List.mem_of_getElem? (i := 36) rfl)) e3 (Ins.of_exa E_w2 (hw _ (List.mem_of_getElem? (i := 37) rfl))) (g := (mkF m 4 #[.val (.ref a1)] [(.ref w2)])) rfl rfl (hb hby d6_4)
  obtain ⟨cq5, kq5, q5a, q5b, q5c⟩ := isOf hZ e4 E_w2
  obtain ⟨_, _, ⟨T5, L5, k5, n5⟩, -, X5, ⟨Lc5, hQ5, l5, y5, z5⟩, st5⟩ := X4.virtualBack hx (y := (⟨"java/lang/Boolean", "booleanValue", "()Z"⟩ : MethodName)) (z := (⟨"java/lang/Boolean", "booleanValue", "()Z"⟩ : MethodName)) hown (mvT hZ (hw _ (List.mem_of_getElem? (i := 38) rfl))) (mvT hZ (hw _ (List.mem_of_getElem? (i := 39) rfl))) (notFace_of_selects (args := #[]) (mvT hZ (hw _ (List.mem_of_getElem? (i := 41) rfl)))) (mvT hZ (hw _ (List.mem_of_getElem? (i := 41) rfl))) (mvT hZ (hw _ (List.mem_of_getElem? (i := 40) rfl))) (by decide) (backOf (W := 0) (rm7 l Z a0 hw [] w2 z h0 n0 Z0 F_w2 hz) hZ (hw _ (List.mem_of_getElem? (i := 42) rfl)) (hw _ (List.mem_of_getElem? (i := 11) rfl)) (by decide) (by decide)) q5a q5c (g := (mkF m 7 #[.val (.ref a1)] [(.ref w2)])) rfl (by rw [hml]; rfl) (Steps.refl _) (argsL := []) (rest := []) (lenOf pd_6_5 rfl) rfl (by show 2 * 0 + _ ≤ _; exact Nat.le_of_eq rfl) (hb hby d6_7) (fun _ _ => ⟨rfl, e4, (by decide : 0 + 0 ≤ _), (by decide : 0 + 0 ≤ _)⟩)
  dsimp only [Pt.U, Pt.locs, Pt.cells, Pt.slots] at X5 l5 y5 z5 st5 hQ5
  subst l5 y5 z5
  obtain ⟨rfl, N5q, e5⟩ := hQ5
  have N5 := Fr.app N0 N5q
  obtain ⟨fs, hr, hrun, hended, hW, hsame⟩ := X5.leave (v := some (.int z)) (fun h => by rw [Bd.returns] at h; cases h)
  refine ⟨_, _, pre0 _ ?_, hrun, hended, _, _, rfl, ?_, ⟨_, rfl⟩, hW, hsame.mono (by decide) (by decide)⟩
  · show Steps p.tables e below (s₁.setTop (mkF m 0 #[.val (.ref a1)] [])) _
    refine XS.aloadN X0.here hx rfl (hb hby d6_0) rfl rfl ?_
    show Steps p.tables e below (s₁.setTop (mkF m 1 #[.val (.ref a1)] [(.ref a1)])) _
    refine st3 _ ?_
    show Steps p.tables e below (T3.setTop (mkF m 4 #[.val (.ref a1)] [(.ref w2)])) _
    refine st4 _ ?_
    show Steps p.tables e below (T4.setTop (mkF m 7 #[.val (.ref a1)] [(.ref w2)])) _
    refine st5.trans ?_
    show Steps p.tables e below (T5.setTop (mkF m 10 #[.val (.ref a1)] [(.int z)])) _
    exact retN X5 hx (t := .boolean) Bd.returns (by simp) (hb hby d6_10) (by rw [hz]; exact hr)
  · show QI z h0 n0 _ T5.heap _
    exact ⟨rfl, N5, e5⟩
theorem d1_0 : decode prog_17_method_3_code 0 = .ok (.new 8, 3) := by decide +kernel
theorem d1_3 : decode prog_17_method_3_code 3 = .ok (.dup, 1) := by decide +kernel
theorem d1_4 : decode prog_17_method_3_code 4 = .ok (.getstatic 44, 3) := by decide +kernel
theorem d1_7 : decode prog_17_method_3_code 7 = .ok (.iload_n 0, 1) := by decide +kernel
theorem d1_8 : decode prog_17_method_3_code 8 = .ok (.invokestatic 47, 3) := by decide +kernel
theorem d1_11 : decode prog_17_method_3_code 11 = .ok (.invokespecial 41, 3) := by decide +kernel
theorem d1_14 : decode prog_17_method_3_code 14 = .ok (.areturn, 1) := by decide +kernel
theorem pn_1 : plainName "com/example/hold_fast/holdfast/model/FieldValue" = true := by first | (simp [plainName, overriddenIn]; done) | decide +kernel
theorem pd_1_1 : parseMethodDescriptor "(Z)Ljava/lang/Boolean;" = some ⟨[.boolean], some (.object "java/lang/Boolean")⟩ := by decide +kernel
theorem pd_1_2 : parseMethodDescriptor "(Lcom/example/hold_fast/holdfast/model/FieldType;Ljava/lang/Object;)V" = some ⟨[(.object "com/example/hold_fast/holdfast/model/FieldType"), (.object "java/lang/Object")], none⟩ := by decide +kernel
theorem ef_1 (m : MethodId) (x0 : Int32) : entryFrame m #[(.int x0)] 1 = mkF m 0 #[.val (.int x0)] [] := by first | (simp [entryFrame, mkF, argsToLocals, Value.category]; done) | rfl
def Q1 (Z : State) (w3 : Addr) (wb : Addr) (h0 : Heap) (n0 : Nat) (v : Option Value) (h : Heap) (L : List Loc) : Prop := v = some (.ref h0.size) ∧ Fr n0 L ∧ Keep h0 h [] ∧ Exa Z h h0.size "com/example/hold_fast/holdfast/model/FieldValue" ∧ Fld Z h h0.size "com/example/hold_fast/holdfast/model/FieldValue" "type" "Lcom/example/hold_fast/holdfast/model/FieldType;" (.ref w3) ∧ Fld Z h h0.size "com/example/hold_fast/holdfast/model/FieldValue" "given" "Ljava/lang/Object;" (.ref wb)
set_option maxRecDepth 65536 in
set_option maxHeartbeats 40000000 in
theorem rm1 (l : Launch) (Z : State) (a0 : Array Value) (hw : ∀ d ∈ tables_1, d.before a0 Z = true) (ws : List Jvm.Cond) (p1 : Int32) (w3 : Addr) (wb : Addr) (h0 : Heap) (n0 : Nat) (Z0 : n0 ≤ h0.size) (S_BOOLEAN : Sta Z h0 "com/example/hold_fast/holdfast/model/FieldType" "BOOLEAN" "Lcom/example/hold_fast/holdfast/model/FieldType;" (.ref w3)) (hbox : Box Z h0 p1 wb) :
    MetFree l (⟨"com/example/hold_fast/holdfast/model/FieldValue", "bool", "(Z)Lcom/example/hold_fast/holdfast/model/FieldValue;"⟩ : MethodName) (head1 (Jvm.Cond.code (⟨"com/example/hold_fast/holdfast/model/FieldValue", "bool", "(Z)Lcom/example/hold_fast/holdfast/model/FieldValue;"⟩ : MethodName) prog_17_method_3_code 1 (some (.object "com/example/hold_fast/holdfast/model/FieldValue")) :: ws) ({ frames := 2, cells := 1, slots := 2, locals := 27 } : Room)) (fun a U => a = #[(.int p1)] ∧ Z.Warmed39 U.vm ∧ U.heap = h0) (fun _ _ _ _ _ => True) (fun _ U o U' => ∃ v L, o = .returned v ∧ Q1 Z w3 wb h0 n0 v U'.heap L ∧ FrameEnd U o U' L ({ frames := 2, cells := 1, slots := 2, locals := 27 } : Room).cells ({ frames := 2, cells := 1, slots := 2, locals := 27 } : Room).slots) := by
  refine MetFree.of_bodySF (plainFor_of_name pn_1) hisR ?_
  intro p e s m args below meth c s₁ Bd hml0 hP hK
  obtain ⟨rfl, hZ, hh⟩ := hP
  have hx := Bd.exec
  have hby := Bd.bytes
  have hml : c.maxLocals = 1 := hml0
  have hown : s.vm.findClass "com/example/hold_fast/holdfast/model/FieldValue" = some m.cls := findClass_of_methodNamed Bd.named
  have hnm := (name_of_methodNamed Bd.named Bd.method).1
  have X0 : Stand p l e ({ frames := 2, cells := 1, slots := 2, locals := 27 } : Room) s m #[(.int p1)] below meth c s₁ [] 0 0 := Stand.of_body Bd
  have e0 : s₁.heap = h0 := by rw [← hh, Bd.state]; rfl
  have N0 := Fr.nil n0
  have pre0 : ∀ t, Steps p.tables e below (s₁.setTop (mkF m 0 #[.val (.int p1)] [])) t → Steps p.tables e below (s₁.setTop (entryFrame m #[(.int p1)] 1)) t := fun t k => castTop (ef_1 m p1) k
  obtain ⟨T2, h2, X2, e2, E2, A2, D2, -, st2⟩ := newO X0 hx hZ hown (hw _ (List.mem_of_getElem? (i := 4) rfl)) (hw _ (List.mem_of_getElem? (i := 5) rfl)) (hw _ (List.mem_of_getElem? (i := 2) rfl)) e0 (g := (mkF m 0 #[.val (.int p1)] [])) rfl (hb hby d1_0) (by decide) (by decide)
  obtain ⟨b2, g2⟩ : ∃ z, z = h0.size := ⟨_, rfl⟩
  rw [← g2] at A2 D2 st2
  have F_type_b2 : Fld Z h2 b2 "com/example/hold_fast/holdfast/model/FieldValue" "type" "Lcom/example/hold_fast/holdfast/model/FieldType;" .null := D2 (Or.inr (hw _ (List.mem_of_getElem? (i := 21) rfl))) (ty := (.object "com/example/hold_fast/holdfast/model/FieldType")) (by decide)
  have F_given_b2 : Fld Z h2 b2 "com/example/hold_fast/holdfast/model/FieldValue" "given" "Ljava/lang/Object;" .null := D2 (Or.inr (hw _ (List.mem_of_getElem? (i := 23) rfl))) (ty := (.object "java/lang/Object")) (by decide)
  have E_b2 := A2
  have g_b2 : n0 ≤ b2 := Nat.le_trans Z0 (Nat.le_of_eq g2.symm)
  have sz_b2 : h0.size ≤ b2 := (Nat.le_trans (Keep.refl h0 []).1 (Nat.le_of_eq g2.symm))
  have K2 : Keep h0 h2 [] := (Keep.refl h0 []).ext E2
  obtain ⟨T4, X4, e4, st4⟩ := getS2 X2 hx hZ hown (host := "") (Or.inl (hw _ (List.mem_of_getElem? (i := 6) rfl))) Via.refl e2 (S_BOOLEAN.ext E2) (g := (mkF m 4 #[.val (.int p1)] [(.ref b2), (.ref b2)])) rfl (hb hby d1_4)
  obtain ⟨_, _, ⟨T5, L5, k5, n5⟩, -, X5, ⟨Lc5, hQ5, l5, y5, z5⟩, st5⟩ := Jvm.LawKit.callS X4 hx (y := (⟨"java/lang/Boolean", "valueOf", "(Z)Ljava/lang/Boolean;"⟩ : MethodName)) hown (mvT hZ (hw _ (List.mem_of_getElem? (i := 9) rfl))) (mvT hZ (hw _ (List.mem_of_getElem? (i := 10) rfl))) (mvT hZ (hw _ (List.mem_of_getElem? (i := 11) rfl))) (mvT hZ (hw _ (List.mem_of_getElem? (i := 12) rfl))) (by decide) (backOf (W := 3) (rm2 l Z a0 hw [] p1 wb h2 n0 (Nat.le_trans Z0 E2.1) (own_bk hbox K2)) hZ (hw _ (List.mem_of_getElem? (i := 12) rfl)) (hw _ (List.mem_of_getElem? (i := 11) rfl)) (by decide) (by decide)) (g := (mkF m 8 #[.val (.int p1)] [(.int p1), (.ref w3), (.ref b2), (.ref b2)])) rfl (by rw [hml]; rfl) (argsL := [(.int p1)]) (rest := [(.ref w3), (.ref b2), (.ref b2)]) (lenOf pd_1_1 rfl) rfl (by show 2 * 0 + _ ≤ _; exact Nat.le_of_eq rfl) (hb hby d1_8) (fun _ _ => ⟨rfl, e4, (by decide : 1 + 0 ≤ _), (by decide : 2 + 0 ≤ _)⟩)
  dsimp only [Pt.U, Pt.locs, Pt.cells, Pt.slots] at X5 l5 y5 z5 st5 hQ5
  subst l5 y5 z5
  obtain ⟨rfl, N5q, e5⟩ := hQ5
  have N5 := Fr.app N0 N5q
  obtain ⟨_, _, ⟨T6, L6, k6, n6⟩, -, X6, ⟨Lc6, hQ6, l6, y6, z6⟩, st6⟩ := X5.specialBack hx (y := (⟨"com/example/hold_fast/holdfast/model/FieldValue", "<init>", "(Lcom/example/hold_fast/holdfast/model/FieldType;Ljava/lang/Object;)V"⟩ : MethodName)) rfl hown (mvT hZ (hw _ (List.mem_of_getElem? (i := 14) rfl))) (mvT hZ (hw _ (List.mem_of_getElem? (i := 15) rfl))) (mvT hZ (hw _ (List.mem_of_getElem? (i := 16) rfl))) (by decide) (backOf (W := 1) (rm3 l Z a0 hw [] b2 w3 wb _ _ h2 n0 (Nat.le_trans Z0 E2.1) E_b2 F_type_b2 g_b2 F_given_b2) hZ (hw _ (List.mem_of_getElem? (i := 16) rfl)) (hw _ (List.mem_of_getElem? (i := 2) rfl)) (by decide) (by decide)) (g := (mkF m 11 #[.val (.int p1)] [(.ref wb), (.ref w3), (.ref b2), (.ref b2)])) rfl (by rw [hml]; rfl) (Steps.refl _) (a := b2) (argsL := [(.ref w3), (.ref wb)]) (rest := [(.ref b2)]) (lenOf pd_1_2 rfl) rfl (by show 2 * 0 + _ ≤ _; exact Nat.le_of_eq rfl) (hb hby d1_11) (fun _ _ => ⟨rfl, e5, (by decide : 1 + 0 ≤ _), (by decide : 2 + 0 ≤ _)⟩)
  dsimp only [Pt.U, Pt.locs, Pt.cells, Pt.slots] at X6 l6 y6 z6 st6 hQ6
  subst l6 y6 z6
  obtain ⟨rfl, N6q, K6q, E6q, Fa, Fb⟩ := hQ6
  have N6 := Fr.app N5 N6q
  obtain ⟨fs, hr, hrun, hended, hW, hsame⟩ := X6.leave (v := some (.ref b2)) (fun h => by rw [Bd.returns] at h; cases h)
  refine ⟨_, _, pre0 _ ?_, hrun, hended, _, _, rfl, ?_, ⟨_, rfl⟩, hW, hsame.mono (by decide) (by decide)⟩
  · show Steps p.tables e below (s₁.setTop (mkF m 0 #[.val (.int p1)] [])) _
    refine st2 _ ?_
    show Steps p.tables e below (T2.setTop (mkF m 3 #[.val (.int p1)] [(.ref b2)])) _
    refine XS.dup X2.here hx rfl (hb hby d1_3) rfl rfl ?_
    show Steps p.tables e below (T2.setTop (mkF m 4 #[.val (.int p1)] [(.ref b2), (.ref b2)])) _
    refine st4 _ ?_
    show Steps p.tables e below (T4.setTop (mkF m 7 #[.val (.int p1)] [(.ref w3), (.ref b2), (.ref b2)])) _
    refine XS.iloadN X4.here hx rfl (hb hby d1_7) rfl ?_
    show Steps p.tables e below (T4.setTop (mkF m 8 #[.val (.int p1)] [(.int p1), (.ref w3), (.ref b2), (.ref b2)])) _
    refine st5 _ ?_
    show Steps p.tables e below (T5.setTop (mkF m 11 #[.val (.int p1)] [(.ref wb), (.ref w3), (.ref b2), (.ref b2)])) _
    refine st6.trans ?_
    show Steps p.tables e below (T6.setTop (mkF m 14 #[.val (.int p1)] [(.ref b2)])) _
    jvm_step X6.here [X6.here.top, hx, (hb hby d1_14), X6.method', Bd.returns, Value.isRef, FieldType.isReference]
    first | (intro acts; rw [hr _ acts rfl rfl rfl]) | rw [hr _ _ rfl rfl rfl]
    exact Steps.refl _
  · show Q1 Z w3 wb h0 n0 _ T6.heap _
    subst g2
    exact ⟨rfl, N6, K2.trans K6q (fun y hy => by cases List.mem_singleton.mp hy; exact Or.inr sz_b2), E6q, Fa, Fb⟩
theorem pn_0 : plainName "com/example/hold_fast/holdfast/model/FieldValueBoolPinLaw" = true := by first | (simp [plainName, overriddenIn]; done) | decide +kernel
theorem pd_0_0 : parseMethodDescriptor "(Z)Lcom/example/hold_fast/holdfast/model/FieldValue;" = some ⟨[.boolean], some (.object "com/example/hold_fast/holdfast/model/FieldValue")⟩ := by decide +kernel
theorem pd_0_4 : parseMethodDescriptor "()Lcom/example/hold_fast/holdfast/model/FieldType;" = some ⟨[], some (.object "com/example/hold_fast/holdfast/model/FieldType")⟩ := by decide +kernel
theorem pd_0_5 : parseMethodDescriptor "()Z" = some ⟨[], some .boolean⟩ := by decide +kernel
theorem ef_0 (m : MethodId) (x0 : Int32) : entryFrame m #[(.int x0)] maxLocals = mkF m 0 #[.val (.int x0), .unset, .unset, .unset, .unset, .unset] [] := by first | (simp [entryFrame, mkF, argsToLocals, Value.category, maxLocals]; done) | rfl
def Qrm0a (Z : State) (p1 : Int32) (w5 : Addr) (h0 : Heap) (n0 : Nat) (v : Option Value) (h : Heap) (L : List Loc) : Prop := v = some (.int (1 : Int32)) ∧ Fr n0 L
set_option maxRecDepth 65536 in
set_option maxHeartbeats 40000000 in
theorem rm0a (l : Launch) (Z : State) (a0 : Array Value) (hw : ∀ d ∈ tables_1, d.before a0 Z = true) (ws : List Jvm.Cond) (p1 : Int32) (w5 : Addr) (wA wB : Addr) (h0 : Heap) (n0 : Nat) (Z0 : n0 ≤ h0.size) (S_BOOLEAN : Sta Z h0 "com/example/hold_fast/holdfast/model/FieldType" "BOOLEAN" "Lcom/example/hold_fast/holdfast/model/FieldType;" (.ref w5)) (hA : Box Z h0 1 wA) (hB : Box Z h0 0 wB) (EA : Exa Z h0 wA "java/lang/Boolean") (EB : Exa Z h0 wB "java/lang/Boolean") (FA : Fld Z h0 wA "java/lang/Boolean" "value" "Z" (.int 1)) (FB : Fld Z h0 wB "java/lang/Boolean" "value" "Z" (.int 0)) (hc3 : ¬ ((p1 &&& (1 : Int32)) = (0 : Int32))) :
    MetFree l x (head1 (Jvm.Cond.code x code maxLocals ret :: ws) room_1) (fun a U => a = #[(.int p1)] ∧ Z.Warmed39 U.vm ∧ U.heap = h0) (fun _ _ _ _ _ => True) (fun _ U o U' => ∃ v L, o = .returned v ∧ Qrm0a Z p1 w5 h0 n0 v U'.heap L ∧ FrameEnd U o U' L room_1.cells room_1.slots) := by
  refine MetFree.of_bodySF (plainFor_of_name pn_0) hisR ?_
  intro p e s m args below meth c s₁ Bd hml0 hP hK
  obtain ⟨rfl, hZ, hh⟩ := hP
  have hx := Bd.exec
  have hby := Bd.bytes
  have hml : c.maxLocals = 6 := hml0
  have hown : s.vm.findClass "com/example/hold_fast/holdfast/model/FieldValueBoolPinLaw" = some m.cls := findClass_of_methodNamed Bd.named
  have hnm := (name_of_methodNamed Bd.named Bd.method).1
  have X0 : Stand p l e room_1 s m #[(.int p1)] below meth c s₁ [] 0 0 := Stand.of_body Bd
  have e0 : s₁.heap = h0 := by rw [← hh, Bd.state]; rfl
  have N0 := Fr.nil n0
  have pre0 : ∀ t, Steps p.tables e below (s₁.setTop (mkF m 0 #[.val (.int p1), .unset, .unset, .unset, .unset, .unset] [])) t → Steps p.tables e below (s₁.setTop (entryFrame m #[(.int p1)] maxLocals)) t := fun t k => castTop (ef_0 m p1) k
  obtain ⟨_, _, ⟨T2, L2, k2, n2⟩, -, X2, ⟨Lc2, hQ2, l2, y2, z2⟩, st2⟩ := Jvm.LawKit.callS X0 hx (y := (⟨"com/example/hold_fast/holdfast/model/FieldValue", "bool", "(Z)Lcom/example/hold_fast/holdfast/model/FieldValue;"⟩ : MethodName)) hown (mvT hZ (hw _ (List.mem_of_getElem? (i := 0) rfl))) (mvT hZ (hw _ (List.mem_of_getElem? (i := 1) rfl))) (mvT hZ (hw _ (List.mem_of_getElem? (i := 2) rfl))) (mvT hZ (hw _ (List.mem_of_getElem? (i := 3) rfl))) (by decide) (backOf (W := 0) (rm1 l Z a0 hw [] (1 : Int32) w5 wA h0 n0 Z0 S_BOOLEAN hA) hZ (hw _ (List.mem_of_getElem? (i := 3) rfl)) (hw _ (List.mem_of_getElem? (i := 2) rfl)) (by decide) (by decide)) (g := (mkF m 13 #[.val (.int p1), .val (.int (1 : Int32)), .unset, .unset, .unset, .unset] [(.int (1 : Int32))])) rfl (by rw [hml]; rfl) (argsL := [(.int (1 : Int32))]) (rest := []) (lenOf pd_0_0 rfl) rfl (by show 2 * 0 + _ ≤ _; exact Nat.le_of_eq rfl) (hb hby at_13) (fun _ _ => ⟨rfl, e0, (by decide : 0 + 1 ≤ _), (by decide : 0 + 2 ≤ _)⟩)
  dsimp only [Pt.U, Pt.locs, Pt.cells, Pt.slots] at X2 l2 y2 z2 st2 hQ2
  subst l2 y2 z2
  obtain ⟨rfl, N2q, K2, E2, Ft2, Fg2⟩ := hQ2
  have N2 := Fr.app N0 N2q
  obtain ⟨_, _, ⟨T3, L3, k3, n3⟩, -, X3, ⟨Lc3, hQ3, l3, y3, z3⟩, st3⟩ := Jvm.LawKit.callS X2 hx (y := (⟨"com/example/hold_fast/holdfast/model/FieldValue", "bool", "(Z)Lcom/example/hold_fast/holdfast/model/FieldValue;"⟩ : MethodName)) hown (mvT hZ (hw _ (List.mem_of_getElem? (i := 0) rfl))) (mvT hZ (hw _ (List.mem_of_getElem? (i := 1) rfl))) (mvT hZ (hw _ (List.mem_of_getElem? (i := 2) rfl))) (mvT hZ (hw _ (List.mem_of_getElem? (i := 3) rfl))) (by decide) (backOf (W := 0) (rm1 l Z a0 hw [] (0 : Int32) w5 wB T2.heap n0 (Nat.le_trans Z0 K2.1) (own_sk S_BOOLEAN K2) (own_bk hB K2)) hZ (hw _ (List.mem_of_getElem? (i := 3) rfl)) (hw _ (List.mem_of_getElem? (i := 2) rfl)) (by decide) (by decide)) (g := (mkF m 26 #[.val (.int p1), .val (.int (1 : Int32)), .val (.ref h0.size), .unset, .unset, .unset] [(.int (0 : Int32))])) rfl (by rw [hml]; rfl) (argsL := [(.int (0 : Int32))]) (rest := []) (lenOf pd_0_0 rfl) rfl (by show 2 * 0 + _ ≤ _; exact Nat.le_of_eq rfl) (hb hby at_26) (fun _ _ => ⟨rfl, rfl, (by decide : 1 + 1 ≤ _), (by decide : 2 + 2 ≤ _)⟩)
  dsimp only [Pt.U, Pt.locs, Pt.cells, Pt.slots] at X3 l3 y3 z3 st3 hQ3
  subst l3 y3 z3
  obtain ⟨rfl, N3q, K3, E3, Ft3, Fg3⟩ := hQ3
  have SB3 := own_sk (own_sk S_BOOLEAN K2) K3
  have Z3 : n0 ≤ T3.heap.size := Nat.le_trans (Nat.le_trans Z0 K2.1) K3.1
  have N3 := Fr.app N2 N3q
  obtain ⟨cq4, kq4, q4a, q4b, q4c⟩ := isOf hZ rfl (E2.keep K3)
  obtain ⟨_, _, ⟨T4, L4, k4, n4⟩, -, X4, ⟨Lc4, hQ4, l4, y4, z4⟩, st4⟩ := X3.virtualBack hx (y := (⟨"com/example/hold_fast/holdfast/model/FieldValue", "type", "()Lcom/example/hold_fast/holdfast/model/FieldType;"⟩ : MethodName)) (z := (⟨"com/example/hold_fast/holdfast/model/FieldValue", "type", "()Lcom/example/hold_fast/holdfast/model/FieldType;"⟩ : MethodName)) hown (mvT hZ (hw _ (List.mem_of_getElem? (i := 25) rfl))) (mvT hZ (hw _ (List.mem_of_getElem? (i := 26) rfl))) (notFace_of_selects (args := #[]) (mvT hZ (hw _ (List.mem_of_getElem? (i := 28) rfl)))) (mvT hZ (hw _ (List.mem_of_getElem? (i := 28) rfl))) (mvT hZ (hw _ (List.mem_of_getElem? (i := 27) rfl))) (by decide) (backOf (W := 0) (rm5 l Z a0 hw [] h0.size w5 T3.heap n0 Z3 (Ft2.keep K3 (by simp))) hZ (hw _ (List.mem_of_getElem? (i := 29) rfl)) (hw _ (List.mem_of_getElem? (i := 2) rfl)) (by decide) (by decide)) q4a q4c (g := (mkF m 31 #[.val (.int p1), .val (.int (1 : Int32)), .val (.ref h0.size), .val (.ref T2.heap.size), .unset, .unset] [(.ref h0.size)])) rfl (by rw [hml]; rfl) (Steps.refl _) (argsL := []) (rest := []) (lenOf pd_0_4 rfl) rfl (by show 2 * 0 + _ ≤ _; exact Nat.le_of_eq rfl) (hb hby at_31) (fun _ _ => ⟨rfl, rfl, (by decide : 2 + 0 ≤ _), (by decide : 4 + 0 ≤ _)⟩)
  dsimp only [Pt.U, Pt.locs, Pt.cells, Pt.slots] at X4 l4 y4 z4 st4 hQ4
  subst l4 y4 z4
  obtain ⟨rfl, N4q, e4⟩ := hQ4
  have N4 := Fr.app N3 N4q
  obtain ⟨T6, X6, e6, st6⟩ := getS2 X4 hx hZ hown (host := "") (Or.inl (hw _ (List.mem_of_getElem? (i := 30) rfl))) Via.refl e4 SB3 (g := (mkF m 34 #[.val (.int p1), .val (.int (1 : Int32)), .val (.ref h0.size), .val (.ref T2.heap.size), .unset, .unset] [(.ref w5)])) rfl (hb hby at_34)
  obtain ⟨cq7, kq7, q7a, q7b, q7c⟩ := isOf hZ e6 E3
  obtain ⟨_, _, ⟨T7, L7, k7, n7⟩, -, X7, ⟨Lc7, hQ7, l7, y7, z7⟩, st7⟩ := X6.virtualBack hx (y := (⟨"com/example/hold_fast/holdfast/model/FieldValue", "type", "()Lcom/example/hold_fast/holdfast/model/FieldType;"⟩ : MethodName)) (z := (⟨"com/example/hold_fast/holdfast/model/FieldValue", "type", "()Lcom/example/hold_fast/holdfast/model/FieldType;"⟩ : MethodName)) hown (mvT hZ (hw _ (List.mem_of_getElem? (i := 25) rfl))) (mvT hZ (hw _ (List.mem_of_getElem? (i := 26) rfl))) (notFace_of_selects (args := #[]) (mvT hZ (hw _ (List.mem_of_getElem? (i := 28) rfl)))) (mvT hZ (hw _ (List.mem_of_getElem? (i := 28) rfl))) (mvT hZ (hw _ (List.mem_of_getElem? (i := 27) rfl))) (by decide) (backOf (W := 0) (rm5 l Z a0 hw [] T2.heap.size w5 T3.heap n0 Z3 Ft3) hZ (hw _ (List.mem_of_getElem? (i := 29) rfl)) (hw _ (List.mem_of_getElem? (i := 2) rfl)) (by decide) (by decide)) q7a q7c (g := (mkF m 41 #[.val (.int p1), .val (.int (1 : Int32)), .val (.ref h0.size), .val (.ref T2.heap.size), .unset, .unset] [(.ref T2.heap.size)])) rfl (by rw [hml]; rfl) (Steps.refl _) (argsL := []) (rest := []) (lenOf pd_0_4 rfl) rfl (by show 2 * 0 + _ ≤ _; exact Nat.le_of_eq rfl) (hb hby at_41) (fun _ _ => ⟨rfl, e6, (by decide : 2 + 0 ≤ _), (by decide : 4 + 0 ≤ _)⟩)
  dsimp only [Pt.U, Pt.locs, Pt.cells, Pt.slots] at X7 l7 y7 z7 st7 hQ7
  subst l7 y7 z7
  obtain ⟨rfl, N7q, e7⟩ := hQ7
  have N7 := Fr.app N4 N7q
  obtain ⟨T8, X8, e8, st8⟩ := getS2 X7 hx hZ hown (host := "") (Or.inl (hw _ (List.mem_of_getElem? (i := 30) rfl))) Via.refl e7 SB3 (g := (mkF m 44 #[.val (.int p1), .val (.int (1 : Int32)), .val (.ref h0.size), .val (.ref T2.heap.size), .unset, .unset] [(.ref w5)])) rfl (hb hby at_44)
  obtain ⟨cq9, kq9, q9a, q9b, q9c⟩ := isOf hZ e8 (E2.keep K3)
  obtain ⟨_, _, ⟨T9, L9, k9, n9⟩, -, X9, ⟨Lc9, hQ9, l9, y9, z9⟩, st9⟩ := X8.virtualBack hx (y := (⟨"com/example/hold_fast/holdfast/model/FieldValue", "bool", "()Z"⟩ : MethodName)) (z := (⟨"com/example/hold_fast/holdfast/model/FieldValue", "bool", "()Z"⟩ : MethodName)) hown (mvT hZ (hw _ (List.mem_of_getElem? (i := 31) rfl))) (mvT hZ (hw _ (List.mem_of_getElem? (i := 32) rfl))) (notFace_of_selects (args := #[]) (mvT hZ (hw _ (List.mem_of_getElem? (i := 34) rfl)))) (mvT hZ (hw _ (List.mem_of_getElem? (i := 34) rfl))) (mvT hZ (hw _ (List.mem_of_getElem? (i := 33) rfl))) (by decide) (backOf (W := 0) (rm6 l Z a0 hw [] h0.size wA 1 T3.heap n0 Z3 (Fg2.keep K3 (by simp)) ((EA.keep K2).keep K3) ((FA.keep K2 (by simp)).keep K3 (by simp)) rfl) hZ (hw _ (List.mem_of_getElem? (i := 35) rfl)) (hw _ (List.mem_of_getElem? (i := 2) rfl)) (by decide) (by decide)) q9a q9c (g := (mkF m 58 #[.val (.int p1), .val (.int (1 : Int32)), .val (.ref h0.size), .val (.ref T2.heap.size), .val (.int (1 : Int32)), .unset] [(.ref h0.size)])) rfl (by rw [hml]; rfl) (Steps.refl _) (argsL := []) (rest := []) (lenOf pd_0_5 rfl) rfl (by show 2 * 0 + _ ≤ _; exact Nat.le_of_eq rfl) (hb hby at_58) (fun _ _ => ⟨rfl, e8, (by decide : 2 + 0 ≤ _), (by decide : 4 + 0 ≤ _)⟩)
  dsimp only [Pt.U, Pt.locs, Pt.cells, Pt.slots] at X9 l9 y9 z9 st9 hQ9
  subst l9 y9 z9
  obtain ⟨rfl, N9q, e9⟩ := hQ9
  have N9 := Fr.app N7 N9q
  obtain ⟨cq10, kq10, q10a, q10b, q10c⟩ := isOf hZ e9 E3
  obtain ⟨_, _, ⟨T10, L10, k10, n10⟩, -, X10, ⟨Lc10, hQ10, l10, y10, z10⟩, st10⟩ := X9.virtualBack hx (y := (⟨"com/example/hold_fast/holdfast/model/FieldValue", "bool", "()Z"⟩ : MethodName)) (z := (⟨"com/example/hold_fast/holdfast/model/FieldValue", "bool", "()Z"⟩ : MethodName)) hown (mvT hZ (hw _ (List.mem_of_getElem? (i := 31) rfl))) (mvT hZ (hw _ (List.mem_of_getElem? (i := 32) rfl))) (notFace_of_selects (args := #[]) (mvT hZ (hw _ (List.mem_of_getElem? (i := 34) rfl)))) (mvT hZ (hw _ (List.mem_of_getElem? (i := 34) rfl))) (mvT hZ (hw _ (List.mem_of_getElem? (i := 33) rfl))) (by decide) (backOf (W := 0) (rm6 l Z a0 hw [] T2.heap.size wB 0 T3.heap n0 Z3 Fg3 ((EB.keep K2).keep K3) ((FB.keep K2 (by simp)).keep K3 (by simp)) rfl) hZ (hw _ (List.mem_of_getElem? (i := 35) rfl)) (hw _ (List.mem_of_getElem? (i := 2) rfl)) (by decide) (by decide)) q10a q10c (g := (mkF m 66 #[.val (.int p1), .val (.int (1 : Int32)), .val (.ref h0.size), .val (.ref T2.heap.size), .val (.int (1 : Int32)), .unset] [(.ref T2.heap.size)])) rfl (by rw [hml]; rfl) (Steps.refl _) (argsL := []) (rest := []) (lenOf pd_0_5 rfl) rfl (by show 2 * 0 + _ ≤ _; exact Nat.le_of_eq rfl) (hb hby at_66) (fun _ _ => ⟨rfl, e9, (by decide : 2 + 0 ≤ _), (by decide : 4 + 0 ≤ _)⟩)
  dsimp only [Pt.U, Pt.locs, Pt.cells, Pt.slots] at X10 l10 y10 z10 st10 hQ10
  subst l10 y10 z10
  obtain ⟨rfl, N10q, e10⟩ := hQ10
  have N10 := Fr.app N9 N10q
  obtain ⟨fs, hr, hrun, hended, hW, hsame⟩ := X10.leave (v := some (.int (1 : Int32))) (fun h => by rw [Bd.returns] at h; cases h)
  refine ⟨_, _, pre0 _ ?_, hrun, hended, _, _, rfl, ?_, ⟨_, rfl⟩, hW, hsame.mono (by decide) (by decide)⟩
  · show Steps p.tables e below (s₁.setTop (mkF m 0 #[.val (.int p1), .unset, .unset, .unset, .unset, .unset] [])) _
    refine XS.iloadN X0.here hx rfl (hb hby at_0) rfl ?_
    show Steps p.tables e below (s₁.setTop (mkF m 1 #[.val (.int p1), .unset, .unset, .unset, .unset, .unset] [(.int p1)])) _
    refine XS.iconst X0.here hx rfl (hb hby at_1) ?_
    show Steps p.tables e below (s₁.setTop (mkF m 2 #[.val (.int p1), .unset, .unset, .unset, .unset, .unset] [(.int (1 : Int32)), (.int p1)])) _
    refine XS.iand X0.here hx rfl (hb hby at_2) rfl ?_
    show Steps p.tables e below (s₁.setTop (mkF m 3 #[.val (.int p1), .unset, .unset, .unset, .unset, .unset] [(.int (p1 &&& (1 : Int32)))])) _
    refine XS.ifNo X0.here hx rfl (hb hby at_3) rfl ((if0 _ _).trans (feq hc3).1) ?_
    show Steps p.tables e below (s₁.setTop (mkF m 6 #[.val (.int p1), .unset, .unset, .unset, .unset, .unset] [])) _
    refine XS.iconst X0.here hx rfl (hb hby at_6) ?_
    show Steps p.tables e below (s₁.setTop (mkF m 7 #[.val (.int p1), .unset, .unset, .unset, .unset, .unset] [(.int (1 : Int32))])) _
    refine XS.goto X0.here hx rfl (pc0 := 7) (pc' := 11) rfl (hb hby at_7) (by decide) (by decide) ?_
    show Steps p.tables e below (s₁.setTop (mkF m 11 #[.val (.int p1), .unset, .unset, .unset, .unset, .unset] [(.int (1 : Int32))])) _
    refine XS.istoreN X0.here hx rfl (hb hby at_11) rfl (l' := #[.val (.int p1), .val (.int (1 : Int32)), .unset, .unset, .unset, .unset]) rfl ?_
    show Steps p.tables e below (s₁.setTop (mkF m 12 #[.val (.int p1), .val (.int (1 : Int32)), .unset, .unset, .unset, .unset] [])) _
    refine XS.iloadN X0.here hx rfl (hb hby at_12) rfl ?_
    show Steps p.tables e below (s₁.setTop (mkF m 13 #[.val (.int p1), .val (.int (1 : Int32)), .unset, .unset, .unset, .unset] [(.int (1 : Int32))])) _
    refine st2 _ ?_
    show Steps p.tables e below (T2.setTop (mkF m 16 #[.val (.int p1), .val (.int (1 : Int32)), .unset, .unset, .unset, .unset] [(.ref h0.size)])) _
    refine XS.astoreN X2.here hx rfl (hb hby at_16) rfl rfl (l' := #[.val (.int p1), .val (.int (1 : Int32)), .val (.ref h0.size), .unset, .unset, .unset]) rfl ?_
    show Steps p.tables e below (T2.setTop (mkF m 17 #[.val (.int p1), .val (.int (1 : Int32)), .val (.ref h0.size), .unset, .unset, .unset] [])) _
    refine XS.iloadN X2.here hx rfl (hb hby at_17) rfl ?_
    show Steps p.tables e below (T2.setTop (mkF m 18 #[.val (.int p1), .val (.int (1 : Int32)), .val (.ref h0.size), .unset, .unset, .unset] [(.int (1 : Int32))])) _
    refine XS.ifYes X2.here hx rfl (pc0 := 18) (pc' := 25) rfl (hb hby at_18) rfl ((if0 _ _).trans (feq (by decide)).2) (by decide) (by decide) ?_
    show Steps p.tables e below (T2.setTop (mkF m 25 #[.val (.int p1), .val (.int (1 : Int32)), .val (.ref h0.size), .unset, .unset, .unset] [])) _
    refine XS.iconst X2.here hx rfl (hb hby at_25) ?_
    show Steps p.tables e below (T2.setTop (mkF m 26 #[.val (.int p1), .val (.int (1 : Int32)), .val (.ref h0.size), .unset, .unset, .unset] [(.int (0 : Int32))])) _
    refine st3 _ ?_
    show Steps p.tables e below (T3.setTop (mkF m 29 #[.val (.int p1), .val (.int (1 : Int32)), .val (.ref h0.size), .unset, .unset, .unset] [(.ref T2.heap.size)])) _
    refine XS.astoreN X3.here hx rfl (hb hby at_29) rfl rfl (l' := #[.val (.int p1), .val (.int (1 : Int32)), .val (.ref h0.size), .val (.ref T2.heap.size), .unset, .unset]) rfl ?_
    show Steps p.tables e below (T3.setTop (mkF m 30 #[.val (.int p1), .val (.int (1 : Int32)), .val (.ref h0.size), .val (.ref T2.heap.size), .unset, .unset] [])) _
    refine XS.aloadN X3.here hx rfl (hb hby at_30) rfl rfl ?_
    show Steps p.tables e below (T3.setTop (mkF m 31 #[.val (.int p1), .val (.int (1 : Int32)), .val (.ref h0.size), .val (.ref T2.heap.size), .unset, .unset] [(.ref h0.size)])) _
    refine st4.trans ?_
    show Steps p.tables e below (T4.setTop (mkF m 34 #[.val (.int p1), .val (.int (1 : Int32)), .val (.ref h0.size), .val (.ref T2.heap.size), .unset, .unset] [(.ref w5)])) _
    refine st6 _ ?_
    show Steps p.tables e below (T6.setTop (mkF m 37 #[.val (.int p1), .val (.int (1 : Int32)), .val (.ref h0.size), .val (.ref T2.heap.size), .unset, .unset] [(.ref w5), (.ref w5)])) _
    refine Jvm.RoadKit.acmp (g := (mkF m 37 #[.val (.int p1), .val (.int (1 : Int32)), .val (.ref h0.size), .val (.ref T2.heap.size), .unset, .unset] [(.ref w5), (.ref w5)])) X6 hx rfl rfl rfl (pc0 := 37) (pc' := 40) (same := true) rfl (hb hby at_37) rfl (decide_eq_true rfl) (by decide) (by decide) ?_
    show Steps p.tables e below (T6.setTop (mkF m 40 #[.val (.int p1), .val (.int (1 : Int32)), .val (.ref h0.size), .val (.ref T2.heap.size), .unset, .unset] [])) _
    refine XS.aloadN X6.here hx rfl (hb hby at_40) rfl rfl ?_
    show Steps p.tables e below (T6.setTop (mkF m 41 #[.val (.int p1), .val (.int (1 : Int32)), .val (.ref h0.size), .val (.ref T2.heap.size), .unset, .unset] [(.ref T2.heap.size)])) _
    refine st7.trans ?_
    show Steps p.tables e below (T7.setTop (mkF m 44 #[.val (.int p1), .val (.int (1 : Int32)), .val (.ref h0.size), .val (.ref T2.heap.size), .unset, .unset] [(.ref w5)])) _
    refine st8 _ ?_
    show Steps p.tables e below (T8.setTop (mkF m 47 #[.val (.int p1), .val (.int (1 : Int32)), .val (.ref h0.size), .val (.ref T2.heap.size), .unset, .unset] [(.ref w5), (.ref w5)])) _
    refine Jvm.RoadKit.acmp (g := (mkF m 47 #[.val (.int p1), .val (.int (1 : Int32)), .val (.ref h0.size), .val (.ref T2.heap.size), .unset, .unset] [(.ref w5), (.ref w5)])) X8 hx rfl rfl rfl (pc0 := 47) (pc' := 50) (same := true) rfl (hb hby at_47) rfl (decide_eq_true rfl) (by decide) (by decide) ?_
    show Steps p.tables e below (T8.setTop (mkF m 50 #[.val (.int p1), .val (.int (1 : Int32)), .val (.ref h0.size), .val (.ref T2.heap.size), .unset, .unset] [])) _
    refine XS.iconst X8.here hx rfl (hb hby at_50) ?_
    show Steps p.tables e below (T8.setTop (mkF m 51 #[.val (.int p1), .val (.int (1 : Int32)), .val (.ref h0.size), .val (.ref T2.heap.size), .unset, .unset] [(.int (1 : Int32))])) _
    refine XS.goto X8.here hx rfl (pc0 := 51) (pc' := 55) rfl (hb hby at_51) (by decide) (by decide) ?_
    show Steps p.tables e below (T8.setTop (mkF m 55 #[.val (.int p1), .val (.int (1 : Int32)), .val (.ref h0.size), .val (.ref T2.heap.size), .unset, .unset] [(.int (1 : Int32))])) _
    refine XS.istore X8.here hx rfl (hb hby at_55) rfl (l' := #[.val (.int p1), .val (.int (1 : Int32)), .val (.ref h0.size), .val (.ref T2.heap.size), .val (.int (1 : Int32)), .unset]) rfl ?_
    show Steps p.tables e below (T8.setTop (mkF m 57 #[.val (.int p1), .val (.int (1 : Int32)), .val (.ref h0.size), .val (.ref T2.heap.size), .val (.int (1 : Int32)), .unset] [])) _
    refine XS.aloadN X8.here hx rfl (hb hby at_57) rfl rfl ?_
    show Steps p.tables e below (T8.setTop (mkF m 58 #[.val (.int p1), .val (.int (1 : Int32)), .val (.ref h0.size), .val (.ref T2.heap.size), .val (.int (1 : Int32)), .unset] [(.ref h0.size)])) _
    refine st9.trans ?_
    show Steps p.tables e below (T9.setTop (mkF m 61 #[.val (.int p1), .val (.int (1 : Int32)), .val (.ref h0.size), .val (.ref T2.heap.size), .val (.int (1 : Int32)), .unset] [(.int (1 : Int32))])) _
    refine XS.iloadN X9.here hx rfl (hb hby at_61) rfl ?_
    show Steps p.tables e below (T9.setTop (mkF m 62 #[.val (.int p1), .val (.int (1 : Int32)), .val (.ref h0.size), .val (.ref T2.heap.size), .val (.int (1 : Int32)), .unset] [(.int (1 : Int32)), (.int (1 : Int32))])) _
    refine XS.icmpNo X9.here hx rfl (hb hby at_62) rfl (teq (rfl)).2 ?_
    show Steps p.tables e below (T9.setTop (mkF m 65 #[.val (.int p1), .val (.int (1 : Int32)), .val (.ref h0.size), .val (.ref T2.heap.size), .val (.int (1 : Int32)), .unset] [])) _
    refine XS.aloadN X9.here hx rfl (hb hby at_65) rfl rfl ?_
    show Steps p.tables e below (T9.setTop (mkF m 66 #[.val (.int p1), .val (.int (1 : Int32)), .val (.ref h0.size), .val (.ref T2.heap.size), .val (.int (1 : Int32)), .unset] [(.ref T2.heap.size)])) _
    refine st10.trans ?_
    show Steps p.tables e below (T10.setTop (mkF m 69 #[.val (.int p1), .val (.int (1 : Int32)), .val (.ref h0.size), .val (.ref T2.heap.size), .val (.int (1 : Int32)), .unset] [(.int (0 : Int32))])) _
    refine XS.iloadN X10.here hx rfl (hb hby at_69) rfl ?_
    show Steps p.tables e below (T10.setTop (mkF m 70 #[.val (.int p1), .val (.int (1 : Int32)), .val (.ref h0.size), .val (.ref T2.heap.size), .val (.int (1 : Int32)), .unset] [(.int (1 : Int32)), (.int (0 : Int32))])) _
    refine XS.ifYes X10.here hx rfl (pc0 := 70) (pc' := 77) rfl (hb hby at_70) rfl ((if0 _ _).trans (feq (by decide)).2) (by decide) (by decide) ?_
    show Steps p.tables e below (T10.setTop (mkF m 77 #[.val (.int p1), .val (.int (1 : Int32)), .val (.ref h0.size), .val (.ref T2.heap.size), .val (.int (1 : Int32)), .unset] [(.int (0 : Int32))])) _
    refine XS.iconst X10.here hx rfl (hb hby at_77) ?_
    show Steps p.tables e below (T10.setTop (mkF m 78 #[.val (.int p1), .val (.int (1 : Int32)), .val (.ref h0.size), .val (.ref T2.heap.size), .val (.int (1 : Int32)), .unset] [(.int (0 : Int32)), (.int (0 : Int32))])) _
    refine XS.icmpNo X10.here hx rfl (hb hby at_78) rfl (teq (rfl)).2 ?_
    show Steps p.tables e below (T10.setTop (mkF m 81 #[.val (.int p1), .val (.int (1 : Int32)), .val (.ref h0.size), .val (.ref T2.heap.size), .val (.int (1 : Int32)), .unset] [])) _
    refine XS.iconst X10.here hx rfl (hb hby at_81) ?_
    show Steps p.tables e below (T10.setTop (mkF m 82 #[.val (.int p1), .val (.int (1 : Int32)), .val (.ref h0.size), .val (.ref T2.heap.size), .val (.int (1 : Int32)), .unset] [(.int (1 : Int32))])) _
    refine XS.goto X10.here hx rfl (pc0 := 82) (pc' := 86) rfl (hb hby at_82) (by decide) (by decide) ?_
    show Steps p.tables e below (T10.setTop (mkF m 86 #[.val (.int p1), .val (.int (1 : Int32)), .val (.ref h0.size), .val (.ref T2.heap.size), .val (.int (1 : Int32)), .unset] [(.int (1 : Int32))])) _
    refine XS.istore X10.here hx rfl (hb hby at_86) rfl (l' := #[.val (.int p1), .val (.int (1 : Int32)), .val (.ref h0.size), .val (.ref T2.heap.size), .val (.int (1 : Int32)), .val (.int (1 : Int32))]) rfl ?_
    show Steps p.tables e below (T10.setTop (mkF m 88 #[.val (.int p1), .val (.int (1 : Int32)), .val (.ref h0.size), .val (.ref T2.heap.size), .val (.int (1 : Int32)), .val (.int (1 : Int32))] [])) _
    refine XS.iload X10.here hx rfl (hb hby at_88) rfl ?_
    show Steps p.tables e below (T10.setTop (mkF m 90 #[.val (.int p1), .val (.int (1 : Int32)), .val (.ref h0.size), .val (.ref T2.heap.size), .val (.int (1 : Int32)), .val (.int (1 : Int32))] [(.int (1 : Int32))])) _
    refine XS.ifNo X10.here hx rfl (hb hby at_90) rfl ((if0 _ _).trans (feq (by decide)).1) ?_
    show Steps p.tables e below (T10.setTop (mkF m 93 #[.val (.int p1), .val (.int (1 : Int32)), .val (.ref h0.size), .val (.ref T2.heap.size), .val (.int (1 : Int32)), .val (.int (1 : Int32))] [])) _
    refine XS.iload X10.here hx rfl (hb hby at_93) rfl ?_
    show Steps p.tables e below (T10.setTop (mkF m 95 #[.val (.int p1), .val (.int (1 : Int32)), .val (.ref h0.size), .val (.ref T2.heap.size), .val (.int (1 : Int32)), .val (.int (1 : Int32))] [(.int (1 : Int32))])) _
    refine XS.ifNo X10.here hx rfl (hb hby at_95) rfl ((if0 _ _).trans (feq (by decide)).1) ?_
    show Steps p.tables e below (T10.setTop (mkF m 98 #[.val (.int p1), .val (.int (1 : Int32)), .val (.ref h0.size), .val (.ref T2.heap.size), .val (.int (1 : Int32)), .val (.int (1 : Int32))] [])) _
    refine XS.iconst X10.here hx rfl (hb hby at_98) ?_
    show Steps p.tables e below (T10.setTop (mkF m 99 #[.val (.int p1), .val (.int (1 : Int32)), .val (.ref h0.size), .val (.ref T2.heap.size), .val (.int (1 : Int32)), .val (.int (1 : Int32))] [(.int (1 : Int32))])) _
    refine XS.goto X10.here hx rfl (pc0 := 99) (pc' := 103) rfl (hb hby at_99) (by decide) (by decide) ?_
    show Steps p.tables e below (T10.setTop (mkF m 103 #[.val (.int p1), .val (.int (1 : Int32)), .val (.ref h0.size), .val (.ref T2.heap.size), .val (.int (1 : Int32)), .val (.int (1 : Int32))] [(.int (1 : Int32))])) _
    exact retN X10 hx (t := .boolean) Bd.returns (by simp) (hb hby at_103) hr
  · show Qrm0a Z p1 w5 h0 n0 _ T10.heap _
    exact ⟨rfl, N10⟩

def Qrm0b (Z : State) (p1 : Int32) (w5 : Addr) (h0 : Heap) (n0 : Nat) (v : Option Value) (h : Heap) (L : List Loc) : Prop := v = some (.int (1 : Int32)) ∧ Fr n0 L
set_option maxRecDepth 65536 in
set_option maxHeartbeats 40000000 in
theorem rm0b (l : Launch) (Z : State) (a0 : Array Value) (hw : ∀ d ∈ tables_1, d.before a0 Z = true) (ws : List Jvm.Cond) (p1 : Int32) (w5 : Addr) (wA wB : Addr) (h0 : Heap) (n0 : Nat) (Z0 : n0 ≤ h0.size) (S_BOOLEAN : Sta Z h0 "com/example/hold_fast/holdfast/model/FieldType" "BOOLEAN" "Lcom/example/hold_fast/holdfast/model/FieldType;" (.ref w5)) (hA : Box Z h0 0 wA) (hB : Box Z h0 1 wB) (EA : Exa Z h0 wA "java/lang/Boolean") (EB : Exa Z h0 wB "java/lang/Boolean") (FA : Fld Z h0 wA "java/lang/Boolean" "value" "Z" (.int 0)) (FB : Fld Z h0 wB "java/lang/Boolean" "value" "Z" (.int 1)) (hc3 : (p1 &&& (1 : Int32)) = (0 : Int32)) :
    MetFree l x (head1 (Jvm.Cond.code x code maxLocals ret :: ws) room_1) (fun a U => a = #[(.int p1)] ∧ Z.Warmed39 U.vm ∧ U.heap = h0) (fun _ _ _ _ _ => True) (fun _ U o U' => ∃ v L, o = .returned v ∧ Qrm0b Z p1 w5 h0 n0 v U'.heap L ∧ FrameEnd U o U' L room_1.cells room_1.slots) := by
  refine MetFree.of_bodySF (plainFor_of_name pn_0) hisR ?_
  intro p e s m args below meth c s₁ Bd hml0 hP hK
  obtain ⟨rfl, hZ, hh⟩ := hP
  have hx := Bd.exec
  have hby := Bd.bytes
  have hml : c.maxLocals = 6 := hml0
  have hown : s.vm.findClass "com/example/hold_fast/holdfast/model/FieldValueBoolPinLaw" = some m.cls := findClass_of_methodNamed Bd.named
  have hnm := (name_of_methodNamed Bd.named Bd.method).1
  have X0 : Stand p l e room_1 s m #[(.int p1)] below meth c s₁ [] 0 0 := Stand.of_body Bd
  have e0 : s₁.heap = h0 := by rw [← hh, Bd.state]; rfl
  have N0 := Fr.nil n0
  have pre0 : ∀ t, Steps p.tables e below (s₁.setTop (mkF m 0 #[.val (.int p1), .unset, .unset, .unset, .unset, .unset] [])) t → Steps p.tables e below (s₁.setTop (entryFrame m #[(.int p1)] maxLocals)) t := fun t k => castTop (ef_0 m p1) k
  obtain ⟨_, _, ⟨T2, L2, k2, n2⟩, -, X2, ⟨Lc2, hQ2, l2, y2, z2⟩, st2⟩ := Jvm.LawKit.callS X0 hx (y := (⟨"com/example/hold_fast/holdfast/model/FieldValue", "bool", "(Z)Lcom/example/hold_fast/holdfast/model/FieldValue;"⟩ : MethodName)) hown (mvT hZ (hw _ (List.mem_of_getElem? (i := 0) rfl))) (mvT hZ (hw _ (List.mem_of_getElem? (i := 1) rfl))) (mvT hZ (hw _ (List.mem_of_getElem? (i := 2) rfl))) (mvT hZ (hw _ (List.mem_of_getElem? (i := 3) rfl))) (by decide) (backOf (W := 0) (rm1 l Z a0 hw [] (0 : Int32) w5 wA h0 n0 Z0 S_BOOLEAN hA) hZ (hw _ (List.mem_of_getElem? (i := 3) rfl)) (hw _ (List.mem_of_getElem? (i := 2) rfl)) (by decide) (by decide)) (g := (mkF m 13 #[.val (.int p1), .val (.int (0 : Int32)), .unset, .unset, .unset, .unset] [(.int (0 : Int32))])) rfl (by rw [hml]; rfl) (argsL := [(.int (0 : Int32))]) (rest := []) (lenOf pd_0_0 rfl) rfl (by show 2 * 0 + _ ≤ _; exact Nat.le_of_eq rfl) (hb hby at_13) (fun _ _ => ⟨rfl, e0, (by decide : 0 + 1 ≤ _), (by decide : 0 + 2 ≤ _)⟩)
  dsimp only [Pt.U, Pt.locs, Pt.cells, Pt.slots] at X2 l2 y2 z2 st2 hQ2
  subst l2 y2 z2
  obtain ⟨rfl, N2q, K2, E2, Ft2, Fg2⟩ := hQ2
  have N2 := Fr.app N0 N2q
  obtain ⟨_, _, ⟨T3, L3, k3, n3⟩, -, X3, ⟨Lc3, hQ3, l3, y3, z3⟩, st3⟩ := Jvm.LawKit.callS X2 hx (y := (⟨"com/example/hold_fast/holdfast/model/FieldValue", "bool", "(Z)Lcom/example/hold_fast/holdfast/model/FieldValue;"⟩ : MethodName)) hown (mvT hZ (hw _ (List.mem_of_getElem? (i := 0) rfl))) (mvT hZ (hw _ (List.mem_of_getElem? (i := 1) rfl))) (mvT hZ (hw _ (List.mem_of_getElem? (i := 2) rfl))) (mvT hZ (hw _ (List.mem_of_getElem? (i := 3) rfl))) (by decide) (backOf (W := 0) (rm1 l Z a0 hw [] (1 : Int32) w5 wB T2.heap n0 (Nat.le_trans Z0 K2.1) (own_sk S_BOOLEAN K2) (own_bk hB K2)) hZ (hw _ (List.mem_of_getElem? (i := 3) rfl)) (hw _ (List.mem_of_getElem? (i := 2) rfl)) (by decide) (by decide)) (g := (mkF m 26 #[.val (.int p1), .val (.int (0 : Int32)), .val (.ref h0.size), .unset, .unset, .unset] [(.int (1 : Int32))])) rfl (by rw [hml]; rfl) (argsL := [(.int (1 : Int32))]) (rest := []) (lenOf pd_0_0 rfl) rfl (by show 2 * 0 + _ ≤ _; exact Nat.le_of_eq rfl) (hb hby at_26) (fun _ _ => ⟨rfl, rfl, (by decide : 1 + 1 ≤ _), (by decide : 2 + 2 ≤ _)⟩)
  dsimp only [Pt.U, Pt.locs, Pt.cells, Pt.slots] at X3 l3 y3 z3 st3 hQ3
  subst l3 y3 z3
  obtain ⟨rfl, N3q, K3, E3, Ft3, Fg3⟩ := hQ3
  have SB3 := own_sk (own_sk S_BOOLEAN K2) K3
  have Z3 : n0 ≤ T3.heap.size := Nat.le_trans (Nat.le_trans Z0 K2.1) K3.1
  have N3 := Fr.app N2 N3q
  obtain ⟨cq4, kq4, q4a, q4b, q4c⟩ := isOf hZ rfl (E2.keep K3)
  obtain ⟨_, _, ⟨T4, L4, k4, n4⟩, -, X4, ⟨Lc4, hQ4, l4, y4, z4⟩, st4⟩ := X3.virtualBack hx (y := (⟨"com/example/hold_fast/holdfast/model/FieldValue", "type", "()Lcom/example/hold_fast/holdfast/model/FieldType;"⟩ : MethodName)) (z := (⟨"com/example/hold_fast/holdfast/model/FieldValue", "type", "()Lcom/example/hold_fast/holdfast/model/FieldType;"⟩ : MethodName)) hown (mvT hZ (hw _ (List.mem_of_getElem? (i := 25) rfl))) (mvT hZ (hw _ (List.mem_of_getElem? (i := 26) rfl))) (notFace_of_selects (args := #[]) (mvT hZ (hw _ (List.mem_of_getElem? (i := 28) rfl)))) (mvT hZ (hw _ (List.mem_of_getElem? (i := 28) rfl))) (mvT hZ (hw _ (List.mem_of_getElem? (i := 27) rfl))) (by decide) (backOf (W := 0) (rm5 l Z a0 hw [] h0.size w5 T3.heap n0 Z3 (Ft2.keep K3 (by simp))) hZ (hw _ (List.mem_of_getElem? (i := 29) rfl)) (hw _ (List.mem_of_getElem? (i := 2) rfl)) (by decide) (by decide)) q4a q4c (g := (mkF m 31 #[.val (.int p1), .val (.int (0 : Int32)), .val (.ref h0.size), .val (.ref T2.heap.size), .unset, .unset] [(.ref h0.size)])) rfl (by rw [hml]; rfl) (Steps.refl _) (argsL := []) (rest := []) (lenOf pd_0_4 rfl) rfl (by show 2 * 0 + _ ≤ _; exact Nat.le_of_eq rfl) (hb hby at_31) (fun _ _ => ⟨rfl, rfl, (by decide : 2 + 0 ≤ _), (by decide : 4 + 0 ≤ _)⟩)
  dsimp only [Pt.U, Pt.locs, Pt.cells, Pt.slots] at X4 l4 y4 z4 st4 hQ4
  subst l4 y4 z4
  obtain ⟨rfl, N4q, e4⟩ := hQ4
  have N4 := Fr.app N3 N4q
  obtain ⟨T6, X6, e6, st6⟩ := getS2 X4 hx hZ hown (host := "") (Or.inl (hw _ (List.mem_of_getElem? (i := 30) rfl))) Via.refl e4 SB3 (g := (mkF m 34 #[.val (.int p1), .val (.int (0 : Int32)), .val (.ref h0.size), .val (.ref T2.heap.size), .unset, .unset] [(.ref w5)])) rfl (hb hby at_34)
  obtain ⟨cq7, kq7, q7a, q7b, q7c⟩ := isOf hZ e6 E3
  obtain ⟨_, _, ⟨T7, L7, k7, n7⟩, -, X7, ⟨Lc7, hQ7, l7, y7, z7⟩, st7⟩ := X6.virtualBack hx (y := (⟨"com/example/hold_fast/holdfast/model/FieldValue", "type", "()Lcom/example/hold_fast/holdfast/model/FieldType;"⟩ : MethodName)) (z := (⟨"com/example/hold_fast/holdfast/model/FieldValue", "type", "()Lcom/example/hold_fast/holdfast/model/FieldType;"⟩ : MethodName)) hown (mvT hZ (hw _ (List.mem_of_getElem? (i := 25) rfl))) (mvT hZ (hw _ (List.mem_of_getElem? (i := 26) rfl))) (notFace_of_selects (args := #[]) (mvT hZ (hw _ (List.mem_of_getElem? (i := 28) rfl)))) (mvT hZ (hw _ (List.mem_of_getElem? (i := 28) rfl))) (mvT hZ (hw _ (List.mem_of_getElem? (i := 27) rfl))) (by decide) (backOf (W := 0) (rm5 l Z a0 hw [] T2.heap.size w5 T3.heap n0 Z3 Ft3) hZ (hw _ (List.mem_of_getElem? (i := 29) rfl)) (hw _ (List.mem_of_getElem? (i := 2) rfl)) (by decide) (by decide)) q7a q7c (g := (mkF m 41 #[.val (.int p1), .val (.int (0 : Int32)), .val (.ref h0.size), .val (.ref T2.heap.size), .unset, .unset] [(.ref T2.heap.size)])) rfl (by rw [hml]; rfl) (Steps.refl _) (argsL := []) (rest := []) (lenOf pd_0_4 rfl) rfl (by show 2 * 0 + _ ≤ _; exact Nat.le_of_eq rfl) (hb hby at_41) (fun _ _ => ⟨rfl, e6, (by decide : 2 + 0 ≤ _), (by decide : 4 + 0 ≤ _)⟩)
  dsimp only [Pt.U, Pt.locs, Pt.cells, Pt.slots] at X7 l7 y7 z7 st7 hQ7
  subst l7 y7 z7
  obtain ⟨rfl, N7q, e7⟩ := hQ7
  have N7 := Fr.app N4 N7q
  obtain ⟨T8, X8, e8, st8⟩ := getS2 X7 hx hZ hown (host := "") (Or.inl (hw _ (List.mem_of_getElem? (i := 30) rfl))) Via.refl e7 SB3 (g := (mkF m 44 #[.val (.int p1), .val (.int (0 : Int32)), .val (.ref h0.size), .val (.ref T2.heap.size), .unset, .unset] [(.ref w5)])) rfl (hb hby at_44)
  obtain ⟨cq9, kq9, q9a, q9b, q9c⟩ := isOf hZ e8 (E2.keep K3)
  obtain ⟨_, _, ⟨T9, L9, k9, n9⟩, -, X9, ⟨Lc9, hQ9, l9, y9, z9⟩, st9⟩ := X8.virtualBack hx (y := (⟨"com/example/hold_fast/holdfast/model/FieldValue", "bool", "()Z"⟩ : MethodName)) (z := (⟨"com/example/hold_fast/holdfast/model/FieldValue", "bool", "()Z"⟩ : MethodName)) hown (mvT hZ (hw _ (List.mem_of_getElem? (i := 31) rfl))) (mvT hZ (hw _ (List.mem_of_getElem? (i := 32) rfl))) (notFace_of_selects (args := #[]) (mvT hZ (hw _ (List.mem_of_getElem? (i := 34) rfl)))) (mvT hZ (hw _ (List.mem_of_getElem? (i := 34) rfl))) (mvT hZ (hw _ (List.mem_of_getElem? (i := 33) rfl))) (by decide) (backOf (W := 0) (rm6 l Z a0 hw [] h0.size wA 0 T3.heap n0 Z3 (Fg2.keep K3 (by simp)) ((EA.keep K2).keep K3) ((FA.keep K2 (by simp)).keep K3 (by simp)) rfl) hZ (hw _ (List.mem_of_getElem? (i := 35) rfl)) (hw _ (List.mem_of_getElem? (i := 2) rfl)) (by decide) (by decide)) q9a q9c (g := (mkF m 58 #[.val (.int p1), .val (.int (0 : Int32)), .val (.ref h0.size), .val (.ref T2.heap.size), .val (.int (1 : Int32)), .unset] [(.ref h0.size)])) rfl (by rw [hml]; rfl) (Steps.refl _) (argsL := []) (rest := []) (lenOf pd_0_5 rfl) rfl (by show 2 * 0 + _ ≤ _; exact Nat.le_of_eq rfl) (hb hby at_58) (fun _ _ => ⟨rfl, e8, (by decide : 2 + 0 ≤ _), (by decide : 4 + 0 ≤ _)⟩)
  dsimp only [Pt.U, Pt.locs, Pt.cells, Pt.slots] at X9 l9 y9 z9 st9 hQ9
  subst l9 y9 z9
  obtain ⟨rfl, N9q, e9⟩ := hQ9
  have N9 := Fr.app N7 N9q
  obtain ⟨cq10, kq10, q10a, q10b, q10c⟩ := isOf hZ e9 E3
  obtain ⟨_, _, ⟨T10, L10, k10, n10⟩, -, X10, ⟨Lc10, hQ10, l10, y10, z10⟩, st10⟩ := X9.virtualBack hx (y := (⟨"com/example/hold_fast/holdfast/model/FieldValue", "bool", "()Z"⟩ : MethodName)) (z := (⟨"com/example/hold_fast/holdfast/model/FieldValue", "bool", "()Z"⟩ : MethodName)) hown (mvT hZ (hw _ (List.mem_of_getElem? (i := 31) rfl))) (mvT hZ (hw _ (List.mem_of_getElem? (i := 32) rfl))) (notFace_of_selects (args := #[]) (mvT hZ (hw _ (List.mem_of_getElem? (i := 34) rfl)))) (mvT hZ (hw _ (List.mem_of_getElem? (i := 34) rfl))) (mvT hZ (hw _ (List.mem_of_getElem? (i := 33) rfl))) (by decide) (backOf (W := 0) (rm6 l Z a0 hw [] T2.heap.size wB 1 T3.heap n0 Z3 Fg3 ((EB.keep K2).keep K3) ((FB.keep K2 (by simp)).keep K3 (by simp)) rfl) hZ (hw _ (List.mem_of_getElem? (i := 35) rfl)) (hw _ (List.mem_of_getElem? (i := 2) rfl)) (by decide) (by decide)) q10a q10c (g := (mkF m 66 #[.val (.int p1), .val (.int (0 : Int32)), .val (.ref h0.size), .val (.ref T2.heap.size), .val (.int (1 : Int32)), .unset] [(.ref T2.heap.size)])) rfl (by rw [hml]; rfl) (Steps.refl _) (argsL := []) (rest := []) (lenOf pd_0_5 rfl) rfl (by show 2 * 0 + _ ≤ _; exact Nat.le_of_eq rfl) (hb hby at_66) (fun _ _ => ⟨rfl, e9, (by decide : 2 + 0 ≤ _), (by decide : 4 + 0 ≤ _)⟩)
  dsimp only [Pt.U, Pt.locs, Pt.cells, Pt.slots] at X10 l10 y10 z10 st10 hQ10
  subst l10 y10 z10
  obtain ⟨rfl, N10q, e10⟩ := hQ10
  have N10 := Fr.app N9 N10q
  obtain ⟨fs, hr, hrun, hended, hW, hsame⟩ := X10.leave (v := some (.int (1 : Int32))) (fun h => by rw [Bd.returns] at h; cases h)
  refine ⟨_, _, pre0 _ ?_, hrun, hended, _, _, rfl, ?_, ⟨_, rfl⟩, hW, hsame.mono (by decide) (by decide)⟩
  · show Steps p.tables e below (s₁.setTop (mkF m 0 #[.val (.int p1), .unset, .unset, .unset, .unset, .unset] [])) _
    refine XS.iloadN X0.here hx rfl (hb hby at_0) rfl ?_
    show Steps p.tables e below (s₁.setTop (mkF m 1 #[.val (.int p1), .unset, .unset, .unset, .unset, .unset] [(.int p1)])) _
    refine XS.iconst X0.here hx rfl (hb hby at_1) ?_
    show Steps p.tables e below (s₁.setTop (mkF m 2 #[.val (.int p1), .unset, .unset, .unset, .unset, .unset] [(.int (1 : Int32)), (.int p1)])) _
    refine XS.iand X0.here hx rfl (hb hby at_2) rfl ?_
    show Steps p.tables e below (s₁.setTop (mkF m 3 #[.val (.int p1), .unset, .unset, .unset, .unset, .unset] [(.int (p1 &&& (1 : Int32)))])) _
    refine XS.ifYes X0.here hx rfl (pc0 := 3) (pc' := 10) rfl (hb hby at_3) rfl ((if0 _ _).trans (teq hc3).1) (by decide) (by decide) ?_
    show Steps p.tables e below (s₁.setTop (mkF m 10 #[.val (.int p1), .unset, .unset, .unset, .unset, .unset] [])) _
    refine XS.iconst X0.here hx rfl (hb hby at_10) ?_
    show Steps p.tables e below (s₁.setTop (mkF m 11 #[.val (.int p1), .unset, .unset, .unset, .unset, .unset] [(.int (0 : Int32))])) _
    refine XS.istoreN X0.here hx rfl (hb hby at_11) rfl (l' := #[.val (.int p1), .val (.int (0 : Int32)), .unset, .unset, .unset, .unset]) rfl ?_
    show Steps p.tables e below (s₁.setTop (mkF m 12 #[.val (.int p1), .val (.int (0 : Int32)), .unset, .unset, .unset, .unset] [])) _
    refine XS.iloadN X0.here hx rfl (hb hby at_12) rfl ?_
    show Steps p.tables e below (s₁.setTop (mkF m 13 #[.val (.int p1), .val (.int (0 : Int32)), .unset, .unset, .unset, .unset] [(.int (0 : Int32))])) _
    refine st2 _ ?_
    show Steps p.tables e below (T2.setTop (mkF m 16 #[.val (.int p1), .val (.int (0 : Int32)), .unset, .unset, .unset, .unset] [(.ref h0.size)])) _
    refine XS.astoreN X2.here hx rfl (hb hby at_16) rfl rfl (l' := #[.val (.int p1), .val (.int (0 : Int32)), .val (.ref h0.size), .unset, .unset, .unset]) rfl ?_
    show Steps p.tables e below (T2.setTop (mkF m 17 #[.val (.int p1), .val (.int (0 : Int32)), .val (.ref h0.size), .unset, .unset, .unset] [])) _
    refine XS.iloadN X2.here hx rfl (hb hby at_17) rfl ?_
    show Steps p.tables e below (T2.setTop (mkF m 18 #[.val (.int p1), .val (.int (0 : Int32)), .val (.ref h0.size), .unset, .unset, .unset] [(.int (0 : Int32))])) _
    refine XS.ifNo X2.here hx rfl (hb hby at_18) rfl ((if0 _ _).trans (teq (rfl : (0 : Int32) = (0 : Int32))).2) ?_
    show Steps p.tables e below (T2.setTop (mkF m 21 #[.val (.int p1), .val (.int (0 : Int32)), .val (.ref h0.size), .unset, .unset, .unset] [])) _
    refine XS.iconst X2.here hx rfl (hb hby at_21) ?_
    show Steps p.tables e below (T2.setTop (mkF m 22 #[.val (.int p1), .val (.int (0 : Int32)), .val (.ref h0.size), .unset, .unset, .unset] [(.int (1 : Int32))])) _
    refine XS.goto X2.here hx rfl (pc0 := 22) (pc' := 26) rfl (hb hby at_22) (by decide) (by decide) ?_
    show Steps p.tables e below (T2.setTop (mkF m 26 #[.val (.int p1), .val (.int (0 : Int32)), .val (.ref h0.size), .unset, .unset, .unset] [(.int (1 : Int32))])) _
    refine st3 _ ?_
    show Steps p.tables e below (T3.setTop (mkF m 29 #[.val (.int p1), .val (.int (0 : Int32)), .val (.ref h0.size), .unset, .unset, .unset] [(.ref T2.heap.size)])) _
    refine XS.astoreN X3.here hx rfl (hb hby at_29) rfl rfl (l' := #[.val (.int p1), .val (.int (0 : Int32)), .val (.ref h0.size), .val (.ref T2.heap.size), .unset, .unset]) rfl ?_
    show Steps p.tables e below (T3.setTop (mkF m 30 #[.val (.int p1), .val (.int (0 : Int32)), .val (.ref h0.size), .val (.ref T2.heap.size), .unset, .unset] [])) _
    refine XS.aloadN X3.here hx rfl (hb hby at_30) rfl rfl ?_
    show Steps p.tables e below (T3.setTop (mkF m 31 #[.val (.int p1), .val (.int (0 : Int32)), .val (.ref h0.size), .val (.ref T2.heap.size), .unset, .unset] [(.ref h0.size)])) _
    refine st4.trans ?_
    show Steps p.tables e below (T4.setTop (mkF m 34 #[.val (.int p1), .val (.int (0 : Int32)), .val (.ref h0.size), .val (.ref T2.heap.size), .unset, .unset] [(.ref w5)])) _
    refine st6 _ ?_
    show Steps p.tables e below (T6.setTop (mkF m 37 #[.val (.int p1), .val (.int (0 : Int32)), .val (.ref h0.size), .val (.ref T2.heap.size), .unset, .unset] [(.ref w5), (.ref w5)])) _
    refine Jvm.RoadKit.acmp (g := (mkF m 37 #[.val (.int p1), .val (.int (0 : Int32)), .val (.ref h0.size), .val (.ref T2.heap.size), .unset, .unset] [(.ref w5), (.ref w5)])) X6 hx rfl rfl rfl (pc0 := 37) (pc' := 40) (same := true) rfl (hb hby at_37) rfl (decide_eq_true rfl) (by decide) (by decide) ?_
    show Steps p.tables e below (T6.setTop (mkF m 40 #[.val (.int p1), .val (.int (0 : Int32)), .val (.ref h0.size), .val (.ref T2.heap.size), .unset, .unset] [])) _
    refine XS.aloadN X6.here hx rfl (hb hby at_40) rfl rfl ?_
    show Steps p.tables e below (T6.setTop (mkF m 41 #[.val (.int p1), .val (.int (0 : Int32)), .val (.ref h0.size), .val (.ref T2.heap.size), .unset, .unset] [(.ref T2.heap.size)])) _
    refine st7.trans ?_
    show Steps p.tables e below (T7.setTop (mkF m 44 #[.val (.int p1), .val (.int (0 : Int32)), .val (.ref h0.size), .val (.ref T2.heap.size), .unset, .unset] [(.ref w5)])) _
    refine st8 _ ?_
    show Steps p.tables e below (T8.setTop (mkF m 47 #[.val (.int p1), .val (.int (0 : Int32)), .val (.ref h0.size), .val (.ref T2.heap.size), .unset, .unset] [(.ref w5), (.ref w5)])) _
    refine Jvm.RoadKit.acmp (g := (mkF m 47 #[.val (.int p1), .val (.int (0 : Int32)), .val (.ref h0.size), .val (.ref T2.heap.size), .unset, .unset] [(.ref w5), (.ref w5)])) X8 hx rfl rfl rfl (pc0 := 47) (pc' := 50) (same := true) rfl (hb hby at_47) rfl (decide_eq_true rfl) (by decide) (by decide) ?_
    show Steps p.tables e below (T8.setTop (mkF m 50 #[.val (.int p1), .val (.int (0 : Int32)), .val (.ref h0.size), .val (.ref T2.heap.size), .unset, .unset] [])) _
    refine XS.iconst X8.here hx rfl (hb hby at_50) ?_
    show Steps p.tables e below (T8.setTop (mkF m 51 #[.val (.int p1), .val (.int (0 : Int32)), .val (.ref h0.size), .val (.ref T2.heap.size), .unset, .unset] [(.int (1 : Int32))])) _
    refine XS.goto X8.here hx rfl (pc0 := 51) (pc' := 55) rfl (hb hby at_51) (by decide) (by decide) ?_
    show Steps p.tables e below (T8.setTop (mkF m 55 #[.val (.int p1), .val (.int (0 : Int32)), .val (.ref h0.size), .val (.ref T2.heap.size), .unset, .unset] [(.int (1 : Int32))])) _
    refine XS.istore X8.here hx rfl (hb hby at_55) rfl (l' := #[.val (.int p1), .val (.int (0 : Int32)), .val (.ref h0.size), .val (.ref T2.heap.size), .val (.int (1 : Int32)), .unset]) rfl ?_
    show Steps p.tables e below (T8.setTop (mkF m 57 #[.val (.int p1), .val (.int (0 : Int32)), .val (.ref h0.size), .val (.ref T2.heap.size), .val (.int (1 : Int32)), .unset] [])) _
    refine XS.aloadN X8.here hx rfl (hb hby at_57) rfl rfl ?_
    show Steps p.tables e below (T8.setTop (mkF m 58 #[.val (.int p1), .val (.int (0 : Int32)), .val (.ref h0.size), .val (.ref T2.heap.size), .val (.int (1 : Int32)), .unset] [(.ref h0.size)])) _
    refine st9.trans ?_
    show Steps p.tables e below (T9.setTop (mkF m 61 #[.val (.int p1), .val (.int (0 : Int32)), .val (.ref h0.size), .val (.ref T2.heap.size), .val (.int (1 : Int32)), .unset] [(.int (0 : Int32))])) _
    refine XS.iloadN X9.here hx rfl (hb hby at_61) rfl ?_
    show Steps p.tables e below (T9.setTop (mkF m 62 #[.val (.int p1), .val (.int (0 : Int32)), .val (.ref h0.size), .val (.ref T2.heap.size), .val (.int (1 : Int32)), .unset] [(.int (0 : Int32)), (.int (0 : Int32))])) _
    refine XS.icmpNo X9.here hx rfl (hb hby at_62) rfl (teq (rfl)).2 ?_
    show Steps p.tables e below (T9.setTop (mkF m 65 #[.val (.int p1), .val (.int (0 : Int32)), .val (.ref h0.size), .val (.ref T2.heap.size), .val (.int (1 : Int32)), .unset] [])) _
    refine XS.aloadN X9.here hx rfl (hb hby at_65) rfl rfl ?_
    show Steps p.tables e below (T9.setTop (mkF m 66 #[.val (.int p1), .val (.int (0 : Int32)), .val (.ref h0.size), .val (.ref T2.heap.size), .val (.int (1 : Int32)), .unset] [(.ref T2.heap.size)])) _
    refine st10.trans ?_
    show Steps p.tables e below (T10.setTop (mkF m 69 #[.val (.int p1), .val (.int (0 : Int32)), .val (.ref h0.size), .val (.ref T2.heap.size), .val (.int (1 : Int32)), .unset] [(.int (1 : Int32))])) _
    refine XS.iloadN X10.here hx rfl (hb hby at_69) rfl ?_
    show Steps p.tables e below (T10.setTop (mkF m 70 #[.val (.int p1), .val (.int (0 : Int32)), .val (.ref h0.size), .val (.ref T2.heap.size), .val (.int (1 : Int32)), .unset] [(.int (0 : Int32)), (.int (1 : Int32))])) _
    refine XS.ifNo X10.here hx rfl (hb hby at_70) rfl ((if0 _ _).trans (teq (rfl : (0 : Int32) = (0 : Int32))).2) ?_
    show Steps p.tables e below (T10.setTop (mkF m 73 #[.val (.int p1), .val (.int (0 : Int32)), .val (.ref h0.size), .val (.ref T2.heap.size), .val (.int (1 : Int32)), .unset] [(.int (1 : Int32))])) _
    refine XS.iconst X10.here hx rfl (hb hby at_73) ?_
    show Steps p.tables e below (T10.setTop (mkF m 74 #[.val (.int p1), .val (.int (0 : Int32)), .val (.ref h0.size), .val (.ref T2.heap.size), .val (.int (1 : Int32)), .unset] [(.int (1 : Int32)), (.int (1 : Int32))])) _
    refine XS.goto X10.here hx rfl (pc0 := 74) (pc' := 78) rfl (hb hby at_74) (by decide) (by decide) ?_
    show Steps p.tables e below (T10.setTop (mkF m 78 #[.val (.int p1), .val (.int (0 : Int32)), .val (.ref h0.size), .val (.ref T2.heap.size), .val (.int (1 : Int32)), .unset] [(.int (1 : Int32)), (.int (1 : Int32))])) _
    refine XS.icmpNo X10.here hx rfl (hb hby at_78) rfl (teq (rfl)).2 ?_
    show Steps p.tables e below (T10.setTop (mkF m 81 #[.val (.int p1), .val (.int (0 : Int32)), .val (.ref h0.size), .val (.ref T2.heap.size), .val (.int (1 : Int32)), .unset] [])) _
    refine XS.iconst X10.here hx rfl (hb hby at_81) ?_
    show Steps p.tables e below (T10.setTop (mkF m 82 #[.val (.int p1), .val (.int (0 : Int32)), .val (.ref h0.size), .val (.ref T2.heap.size), .val (.int (1 : Int32)), .unset] [(.int (1 : Int32))])) _
    refine XS.goto X10.here hx rfl (pc0 := 82) (pc' := 86) rfl (hb hby at_82) (by decide) (by decide) ?_
    show Steps p.tables e below (T10.setTop (mkF m 86 #[.val (.int p1), .val (.int (0 : Int32)), .val (.ref h0.size), .val (.ref T2.heap.size), .val (.int (1 : Int32)), .unset] [(.int (1 : Int32))])) _
    refine XS.istore X10.here hx rfl (hb hby at_86) rfl (l' := #[.val (.int p1), .val (.int (0 : Int32)), .val (.ref h0.size), .val (.ref T2.heap.size), .val (.int (1 : Int32)), .val (.int (1 : Int32))]) rfl ?_
    show Steps p.tables e below (T10.setTop (mkF m 88 #[.val (.int p1), .val (.int (0 : Int32)), .val (.ref h0.size), .val (.ref T2.heap.size), .val (.int (1 : Int32)), .val (.int (1 : Int32))] [])) _
    refine XS.iload X10.here hx rfl (hb hby at_88) rfl ?_
    show Steps p.tables e below (T10.setTop (mkF m 90 #[.val (.int p1), .val (.int (0 : Int32)), .val (.ref h0.size), .val (.ref T2.heap.size), .val (.int (1 : Int32)), .val (.int (1 : Int32))] [(.int (1 : Int32))])) _
    refine XS.ifNo X10.here hx rfl (hb hby at_90) rfl ((if0 _ _).trans (feq (by decide)).1) ?_
    show Steps p.tables e below (T10.setTop (mkF m 93 #[.val (.int p1), .val (.int (0 : Int32)), .val (.ref h0.size), .val (.ref T2.heap.size), .val (.int (1 : Int32)), .val (.int (1 : Int32))] [])) _
    refine XS.iload X10.here hx rfl (hb hby at_93) rfl ?_
    show Steps p.tables e below (T10.setTop (mkF m 95 #[.val (.int p1), .val (.int (0 : Int32)), .val (.ref h0.size), .val (.ref T2.heap.size), .val (.int (1 : Int32)), .val (.int (1 : Int32))] [(.int (1 : Int32))])) _
    refine XS.ifNo X10.here hx rfl (hb hby at_95) rfl ((if0 _ _).trans (feq (by decide)).1) ?_
    show Steps p.tables e below (T10.setTop (mkF m 98 #[.val (.int p1), .val (.int (0 : Int32)), .val (.ref h0.size), .val (.ref T2.heap.size), .val (.int (1 : Int32)), .val (.int (1 : Int32))] [])) _
    refine XS.iconst X10.here hx rfl (hb hby at_98) ?_
    show Steps p.tables e below (T10.setTop (mkF m 99 #[.val (.int p1), .val (.int (0 : Int32)), .val (.ref h0.size), .val (.ref T2.heap.size), .val (.int (1 : Int32)), .val (.int (1 : Int32))] [(.int (1 : Int32))])) _
    refine XS.goto X10.here hx rfl (pc0 := 99) (pc' := 103) rfl (hb hby at_99) (by decide) (by decide) ?_
    show Steps p.tables e below (T10.setTop (mkF m 103 #[.val (.int p1), .val (.int (0 : Int32)), .val (.ref h0.size), .val (.ref T2.heap.size), .val (.int (1 : Int32)), .val (.int (1 : Int32))] [(.int (1 : Int32))])) _
    exact retN X10 hx (t := .boolean) Bd.returns (by simp) (hb hby at_103) hr
  · show Qrm0b Z p1 w5 h0 n0 _ T10.heap _
    exact ⟨rfl, N10⟩
set_option maxRecDepth 65536 in
set_option maxHeartbeats 40000000 in
theorem comes_1 {Post : Tables → Env → Array Value → State → Outcome → State → Prop} (hpost : ∀ tb e args s v u, (limb_1_1.after args s (.returned v) u = true ∧ limb_1_2.after args s (.returned v) u = true ∧ True) → FrameEnd s (.returned v) u (Jvm.fieldLocs frame_1_writes args s ++ Jvm.arrayLocs frame_1_arrays args s ++ Jvm.staticLocs frame_1_statics s) 16 128 → Post tb e args s (.returned v) u) :
    ArmFor flags0 classFile x code maxLocals ret World_1 tables_1 room_1 Calls_1 rest_1 Pre_1 Post := by
  intro l hfl _ _ p e ha hc hk s m args below hf hA hF happ hP
  obtain ⟨hcalls, hrest, hpre⟩ := hP
  obtain ⟨-, -, -, hnamed, -, -, -, hat⟩ := (Spec.applies_iff hf).mp happ
  obtain ⟨hg, hn⟩ := and_e (Cond.before_iff.mp (show (Jvm.Cond.and given_1 narrow_1).before args s = true from hpre))
  obtain ⟨g11, g12⟩ := and_e hg
  obtain ⟨w0, rfl⟩ : ∃ w0 : Value, args = #[w0] := by
    have hs : args.size = 1 := by simpa [Cond.value, given_1] using g11
    obtain ⟨L⟩ := args
    match L, hs with
    | [w0], _ => exact ⟨w0, rfl⟩
  have hw := fun d (hd : d ∈ tables_1) => atoms_spec (ws := Jvm.Cond.code x code maxLocals ret :: tables_1) hat d (List.mem_cons_of_mem _ hd)
  have hfit : Fit s := fun {y c} hc i hi => by
    obtain ⟨ha, rfl⟩ := Array.getElem?_eq_some_iff.mp hc
    have q := List.all_eq_true.mp ((Array.all_eq_true_iff_forall_mem.mp hF) _ (Array.getElem_mem ha)) i (List.mem_range.mpr hi)
    simpa [Array.getElem?_eq_getElem hi] using q
  obtain ⟨hsets, hown0⟩ := atoms_of _ (rest_1_c_eq ▸ (show rest_1_c.before _ s = true from hrest))
  have hr0 := Cond.before_iff.mp hown0
  obtain ⟨i0, ei0⟩ := is_v g12
  obtain rfl : w0 = (.int i0) := Option.some.inj ei0
  obtain ⟨a_BOOLEAN, v_BOOLEAN⟩ := exa_v hn
  have S_BOOLEAN := Sta.start v_BOOLEAN (Or.inr ⟨hw _ (List.mem_of_getElem? (i := 7) rfl), hw _ (List.mem_of_getElem? (i := 8) rfl)⟩)
  have hrc := Cond.before_iff.mp (show rest_1_c.before #[(.int i0)] s = true from hrest)
  obtain ⟨r0, r0'⟩ := and_e hrc
  obtain ⟨r1, r1'⟩ := and_e r0'
  obtain ⟨r2, r2'⟩ := and_e r1'
  obtain ⟨r3, r3'⟩ := and_e r2'
  obtain ⟨r4, r4'⟩ := and_e r3'
  obtain ⟨r5, r5'⟩ := and_e r4'
  obtain ⟨r6, r6'⟩ := and_e r5'
  obtain ⟨r7, r7'⟩ := and_e r6'
  obtain ⟨a_FALSE, v_FALSE⟩ := exa_v r2
  have E_FALSE := Exa.start v_FALSE r2
  have S_FALSE := Sta.start v_FALSE (Or.inl (Cond.before_iff.mpr r1))
  have F_FALSE := Fld.start (own_fi r3 v_FALSE)
  obtain ⟨a_TRUE, v_TRUE⟩ := exa_v r6
  have E_TRUE := Exa.start v_TRUE r6
  have S_TRUE := Sta.start v_TRUE (Or.inl (Cond.before_iff.mpr r5))
  have F_TRUE := Fld.start (own_fi r7 v_TRUE)
  by_cases q : (i0 &&& (1 : Int32)) = (0 : Int32)
  · obtain ⟨n, o, h1, h2, h3, _, L, rfl, ⟨rfl, N⟩, hq⟩ := rm0b l s _ hw tables_1 i0 a_BOOLEAN a_FALSE a_TRUE s.heap s.heap.size (Nat.le_refl _) S_BOOLEAN (Or.inr ⟨rfl, S_FALSE⟩) (Or.inl ⟨rfl, S_TRUE⟩) E_FALSE E_TRUE F_FALSE F_TRUE q p e ha hc hk s m _ below hf ((Spec.applies_iff_loose hf).mp happ).1 ⟨rfl, State.Warmed39.refl s, rfl⟩ trivial
    refine ⟨n, _, h1, h2, h3, hpost _ _ _ _ _ _ ⟨Cond.after_iff.mpr rfl, Cond.after_iff.mpr (eq_i res_at (Term.int_eval (1)) rfl), trivial⟩ ⟨hq.1, hq.2.1, (hq.2.2.sift fun y hy => Or.inr (N y hy)).mono (by decide) (by decide)⟩⟩
  · obtain ⟨n, o, h1, h2, h3, _, L, rfl, ⟨rfl, N⟩, hq⟩ := rm0a l s _ hw tables_1 i0 a_BOOLEAN a_TRUE a_FALSE s.heap s.heap.size (Nat.le_refl _) S_BOOLEAN (Or.inl ⟨rfl, S_TRUE⟩) (Or.inr ⟨rfl, S_FALSE⟩) E_TRUE E_FALSE F_TRUE F_FALSE q p e ha hc hk s m _ below hf ((Spec.applies_iff_loose hf).mp happ).1 ⟨rfl, State.Warmed39.refl s, rfl⟩ trivial
    refine ⟨n, _, h1, h2, h3, hpost _ _ _ _ _ _ ⟨Cond.after_iff.mpr rfl, Cond.after_iff.mpr (eq_i res_at (Term.int_eval (1)) rfl), trivial⟩ ⟨hq.1, hq.2.1, (hq.2.2.sift fun y hy => Or.inr (N y hy)).mono (by decide) (by decide)⟩⟩
theorem main_1_1 : Claimed_1_1 := comes_1 fun _ _ _ _ _ _ h hF => ⟨h.1, hF⟩
theorem main_1_2 : Claimed_1_2 := comes_1 fun _ _ _ _ _ _ h hF => ⟨h.2.1, hF⟩
end Jvm.Pilot.@@N@@
namespace Jvm.Pilot.@@N@@
open Jvm Jvm.ClassFile Sem Op Lib Jvm.Free Jvm.Stand Jvm.Pilot.@@N@@.Jvm.D
/-! MADE BY PROGRAM (witnessworld.py) out of the Statement's table words and the real class files: 14 classes; the members and pool entries that the words name. The judged class is class 1, her method 1. -/
namespace start1
open Jvm.ClassFile
def u (s : String) : CpInfo := .utf8 (stringToUtf16 s)
/-- a pool by its gaps: so many unusable entries, then the entry; so many at the end -/
def gap : Nat → List CpInfo → List CpInfo
  | 0, r => r
  | n + 1, r => .unusable :: gap n r
def poolList (es : List (Nat × CpInfo)) (last : Nat) : List CpInfo := es.foldr (fun e r => gap e.1 (e.2 :: r)) (gap last [])
def pool (es : List (Nat × CpInfo)) (last : Nat) : Array CpInfo := ⟨poolList es last⟩
def fileOf (pool : Array CpInfo) (this : Nat) (attrs : Array Attribute := #[]) (ms : Array MethodInfo := #[]) (fl : Nat := 33) (sup : Nat := 0) (ifs : Array Nat := #[]) (fds : Array FieldInfo := #[]) : ClassFile where
  minorVersion := 0
  majorVersion := 65
  constantPool := pool
  accessFlags := fl
  thisClass := this
  superClass := sup
  interfaces := ifs
  fields := fds
  methods := ms
  attributes := attrs
def plain (name : String) (sup : Option ClassId) : Class where
  name := name
  kind := .ordinary
  loader := none
  accessFlags := 33
  super := sup
  interfaces := #[]
  cf := none
  fields := #[]
  methods := #[]
  instanceTypes := #[]
  staticTypes := #[]
  resolved := #[]
  callSites := []
  init := .initialized
  statics := none
  mirror := none

def pool0 : Array CpInfo := pool [(5, u "<init>"), (0, u "()V"), (1, .class_ 10), (1, u "java/lang/Object")] 113

def k0c0 : Code := { maxStack := 0, maxLocals := 1, code := object_method_1_code, exceptionTable := #[], attributes := #[] }
def k0m0 : Method := { name := "<init>", desc := "()V", sig := { parameters := [], returnType := none }, accessFlags := 1, code := some k0c0 }
/-- java/lang/Object -/
def k0 : Class := { plain "java/lang/Object" none with
  accessFlags := 33
  interfaces := #[]
  cf := some (fileOf pool0 8 #[] #[{ accessFlags := 1, nameIndex := 5, descriptorIndex := 6, attributes := #[] }] 33 0 #[] #[])
  fields := #[]
  methods := #[k0m0]
  instanceTypes := #[]
  staticTypes := #[]
  resolved := Array.replicate 124 none
  statics := none }

def pool1 : Array CpInfo := pool [(2, .class_ 4), (1, u "java/lang/Object"), (0, u "<init>"), (0, u "()V"), (0, .methodref 8 9), (0, .class_ 10), (0, .nameAndType 11 12), (0, u "com/example/hold_fast/holdfast/model/FieldValue"), (0, u "bool"), (0, u "(Z)Lcom/example/hold_fast/holdfast/model/FieldValue;"), (0, .methodref 8 14), (0, .nameAndType 15 16), (0, u "type"), (0, u "()Lcom/example/hold_fast/holdfast/model/FieldType;"), (0, .fieldref 18 19), (0, .class_ 20), (0, .nameAndType 21 22), (0, u "com/example/hold_fast/holdfast/model/FieldType"), (0, u "BOOLEAN"), (0, u "Lcom/example/hold_fast/holdfast/model/FieldType;"), (0, .methodref 8 24), (0, .nameAndType 11 25), (0, u "()Z"), (0, .class_ 27), (0, u "com/example/hold_fast/holdfast/model/FieldValueBoolPinLaw"), (2, u "law"), (0, u "(I)Z")] 3

def k1m0 : Method := { name := "<init>", desc := "()V", sig := { parameters := [], returnType := none }, accessFlags := 1, code := none }
def k1c1 : Code := { maxStack := 2, maxLocals := 6, code := code, exceptionTable := #[], attributes := #[] }
def k1m1 : Method := { name := "law", desc := "(I)Z", sig := { parameters := [.int], returnType := some .boolean }, accessFlags := 9, code := some k1c1 }
/-- com/example/hold_fast/holdfast/model/FieldValueBoolPinLaw -/
def k1 : Class := { plain "com/example/hold_fast/holdfast/model/FieldValueBoolPinLaw" (some 0) with
  accessFlags := 49
  interfaces := #[]
  cf := some (fileOf pool1 26 #[] #[{ accessFlags := 1, nameIndex := 5, descriptorIndex := 6, attributes := #[] }, { accessFlags := 9, nameIndex := 30, descriptorIndex := 31, attributes := #[] }] 49 2 #[] #[])
  fields := #[]
  methods := #[k1m0, k1m1]
  instanceTypes := #[]
  staticTypes := #[]
  resolved := Array.replicate 35 none
  statics := none }

def pool2 : Array CpInfo := pool [(1, .methodref 2 3), (0, .class_ 4), (0, .nameAndType 5 6), (0, u "java/lang/Object"), (0, u "<init>"), (0, u "()V"), (0, .fieldref 8 9), (0, .class_ 10), (0, .nameAndType 11 12), (0, u "com/example/hold_fast/holdfast/model/FieldValue"), (0, u "type"), (0, u "Lcom/example/hold_fast/holdfast/model/FieldType;"), (0, .fieldref 8 14), (0, .nameAndType 15 16), (0, u "given"), (0, u "Ljava/lang/Object;"), (9, .class_ 28), (1, u "com/example/hold_fast/holdfast/model/FieldType"), (12, .methodref 8 42), (0, .nameAndType 5 43), (0, u "(Lcom/example/hold_fast/holdfast/model/FieldType;Ljava/lang/Object;)V"), (0, .fieldref 26 45), (0, .nameAndType 46 12), (0, u "BOOLEAN"), (0, .methodref 48 49), (0, .class_ 50), (0, .nameAndType 51 52), (0, u "java/lang/Boolean"), (0, u "valueOf"), (0, u "(Z)Ljava/lang/Boolean;"), (5, u "LEAST_INTEGER"), (0, u "Ljava/math/BigDecimal;"), (8, u "GREATEST_INTEGER"), (28, .methodref 48 98), (0, .nameAndType 99 100), (0, u "booleanValue"), (0, u "()Z"), (18, u "bool"), (0, u "(Z)Lcom/example/hold_fast/holdfast/model/FieldValue;"), (2, u "()Lcom/example/hold_fast/holdfast/model/FieldType;")] 24

def k2c0 : Code := { maxStack := 2, maxLocals := 3, code := prog_17_method_1_code, exceptionTable := #[], attributes := #[] }
def k2m0 : Method := { name := "<init>", desc := "(Lcom/example/hold_fast/holdfast/model/FieldType;Ljava/lang/Object;)V", sig := { parameters := [(.object "com/example/hold_fast/holdfast/model/FieldType"), (.object "java/lang/Object")], returnType := none }, accessFlags := 2, code := some k2c0 }
def k2c1 : Code := { maxStack := 4, maxLocals := 1, code := prog_17_method_3_code, exceptionTable := #[], attributes := #[] }
def k2m1 : Method := { name := "bool", desc := "(Z)Lcom/example/hold_fast/holdfast/model/FieldValue;", sig := { parameters := [.boolean], returnType := some (.object "com/example/hold_fast/holdfast/model/FieldValue") }, accessFlags := 9, code := some k2c1 }
def k2c2 : Code := { maxStack := 1, maxLocals := 1, code := prog_17_method_5_code, exceptionTable := #[], attributes := #[] }
def k2m2 : Method := { name := "type", desc := "()Lcom/example/hold_fast/holdfast/model/FieldType;", sig := { parameters := [], returnType := some (.object "com/example/hold_fast/holdfast/model/FieldType") }, accessFlags := 1, code := some k2c2 }
def k2c3 : Code := { maxStack := 1, maxLocals := 1, code := prog_17_method_7_code, exceptionTable := #[], attributes := #[] }
def k2m3 : Method := { name := "bool", desc := "()Z", sig := { parameters := [], returnType := some .boolean }, accessFlags := 1, code := some k2c3 }
/-- com/example/hold_fast/holdfast/model/FieldValue -/
def k2 : Class := { plain "com/example/hold_fast/holdfast/model/FieldValue" (some 0) with
  accessFlags := 49
  interfaces := #[]
  cf := some (fileOf pool2 8 #[] #[{ accessFlags := 2, nameIndex := 5, descriptorIndex := 43, attributes := #[] }, { accessFlags := 9, nameIndex := 119, descriptorIndex := 120, attributes := #[] }, { accessFlags := 1, nameIndex := 11, descriptorIndex := 123, attributes := #[] }, { accessFlags := 1, nameIndex := 119, descriptorIndex := 100, attributes := #[] }] 49 2 #[] #[{ accessFlags := 26, nameIndex := 58, descriptorIndex := 59, attributes := #[] }, { accessFlags := 26, nameIndex := 68, descriptorIndex := 59, attributes := #[] }, { accessFlags := 18, nameIndex := 11, descriptorIndex := 12, attributes := #[] }, { accessFlags := 18, nameIndex := 15, descriptorIndex := 16, attributes := #[] }])
  fields := #[{ name := "LEAST_INTEGER", type := (.object "java/math/BigDecimal"), accessFlags := 26, slot := 0, constantValue := 0 }, { name := "GREATEST_INTEGER", type := (.object "java/math/BigDecimal"), accessFlags := 26, slot := 1, constantValue := 0 }, { name := "type", type := (.object "com/example/hold_fast/holdfast/model/FieldType"), accessFlags := 18, slot := 0, constantValue := 0 }, { name := "given", type := (.object "java/lang/Object"), accessFlags := 18, slot := 1, constantValue := 0 }]
  methods := #[k2m0, k2m1, k2m2, k2m3]
  instanceTypes := #[(.object "com/example/hold_fast/holdfast/model/FieldType"), (.object "java/lang/Object")]
  staticTypes := #[(.object "java/math/BigDecimal"), (.object "java/math/BigDecimal")]
  resolved := Array.replicate 148 none
  statics := none }

def pool3 : Array CpInfo := pool [(1, .class_ 2), (0, u "java/lang/constant/Constable"), (0, .class_ 4), (0, u "java/lang/Object")] 6

/-- java/lang/constant/Constable -/
def k3 : Class := { plain "java/lang/constant/Constable" (some 0) with
  accessFlags := 1537
  interfaces := #[]
  cf := some (fileOf pool3 1 #[] #[] 1537 3 #[] #[])
  fields := #[]
  methods := #[]
  instanceTypes := #[]
  staticTypes := #[]
  resolved := Array.replicate 11 none
  statics := none }

def pool4 : Array CpInfo := pool [(1, .class_ 2), (0, u "java/lang/Comparable"), (0, .class_ 4), (0, u "java/lang/Object")] 7

/-- java/lang/Comparable -/
def k4 : Class := { plain "java/lang/Comparable" (some 0) with
  accessFlags := 1537
  interfaces := #[]
  cf := some (fileOf pool4 1 #[] #[] 1537 3 #[] #[])
  fields := #[]
  methods := #[]
  instanceTypes := #[]
  staticTypes := #[]
  resolved := Array.replicate 12 none
  statics := none }

def pool5 : Array CpInfo := pool [(1, .class_ 2), (0, u "java/io/Serializable"), (0, .class_ 4), (0, u "java/lang/Object")] 2

/-- java/io/Serializable -/
def k5 : Class := { plain "java/io/Serializable" (some 0) with
  accessFlags := 1537
  interfaces := #[]
  cf := some (fileOf pool5 1 #[] #[] 1537 3 #[] #[])
  fields := #[]
  methods := #[]
  instanceTypes := #[]
  staticTypes := #[]
  resolved := Array.replicate 7 none
  statics := none }

def pool6 : Array CpInfo := pool [(2, .class_ 4), (1, u "java/lang/Enum"), (0, u "name"), (0, u "Ljava/lang/String;"), (2, u "ordinal"), (0, u "I"), (1, .class_ 14), (1, u "java/lang/Object"), (4, u "hash"), (86, .class_ 108), (1, u "java/lang/Enum$EnumDesc"), (2, .class_ 112), (0, u "java/lang/constant/Constable"), (0, .class_ 114), (0, u "java/lang/Comparable"), (0, .class_ 116), (0, u "java/io/Serializable")] 87

/-- java/lang/Enum -/
def k6 : Class := { plain "java/lang/Enum" (some 0) with
  accessFlags := 1057
  interfaces := #[3, 4, 5]
  cf := some (fileOf pool6 2 #[.nestMembers #[106]] #[] 1057 12 #[111, 113, 115] #[{ accessFlags := 18, nameIndex := 5, descriptorIndex := 6, attributes := #[] }, { accessFlags := 18, nameIndex := 9, descriptorIndex := 10, attributes := #[] }, { accessFlags := 2, nameIndex := 19, descriptorIndex := 10, attributes := #[] }])
  fields := #[{ name := "name", type := (.object "java/lang/String"), accessFlags := 18, slot := 0, constantValue := 0 }, { name := "ordinal", type := .int, accessFlags := 18, slot := 1, constantValue := 0 }, { name := "hash", type := .int, accessFlags := 2, slot := 2, constantValue := 0 }]
  methods := #[]
  instanceTypes := #[(.object "java/lang/String"), .int, .int]
  staticTypes := #[]
  resolved := Array.replicate 204 none
  statics := none }

def pool7 : Array CpInfo := pool [(1, .class_ 2), (0, u "com/example/hold_fast/holdfast/model/FieldType"), (2, u "STRING"), (0, u "Lcom/example/hold_fast/holdfast/model/FieldType;"), (2, u "INTEGER"), (2, u "NUMBER"), (2, u "BOOLEAN"), (2, u "$VALUES"), (0, u "[Lcom/example/hold_fast/holdfast/model/FieldType;"), (6, .class_ 28), (1, u "java/lang/Enum"), (8, u "expected"), (0, u "Ljava/lang/String;")] 36

/-- com/example/hold_fast/holdfast/model/FieldType -/
def k7 : Class := { plain "com/example/hold_fast/holdfast/model/FieldType" (some 6) with
  accessFlags := 16433
  interfaces := #[]
  cf := some (fileOf pool7 1 #[] #[] 16433 26 #[] #[{ accessFlags := 16409, nameIndex := 5, descriptorIndex := 6, attributes := #[] }, { accessFlags := 16409, nameIndex := 9, descriptorIndex := 6, attributes := #[] }, { accessFlags := 16409, nameIndex := 12, descriptorIndex := 6, attributes := #[] }, { accessFlags := 16409, nameIndex := 15, descriptorIndex := 6, attributes := #[] }, { accessFlags := 18, nameIndex := 37, descriptorIndex := 38, attributes := #[] }, { accessFlags := 4122, nameIndex := 18, descriptorIndex := 19, attributes := #[] }])
  fields := #[{ name := "STRING", type := (.object "com/example/hold_fast/holdfast/model/FieldType"), accessFlags := 16409, slot := 0, constantValue := 0 }, { name := "INTEGER", type := (.object "com/example/hold_fast/holdfast/model/FieldType"), accessFlags := 16409, slot := 1, constantValue := 0 }, { name := "NUMBER", type := (.object "com/example/hold_fast/holdfast/model/FieldType"), accessFlags := 16409, slot := 2, constantValue := 0 }, { name := "BOOLEAN", type := (.object "com/example/hold_fast/holdfast/model/FieldType"), accessFlags := 16409, slot := 3, constantValue := 0 }, { name := "expected", type := (.object "java/lang/String"), accessFlags := 18, slot := 3, constantValue := 0 }, { name := "$VALUES", type := (.array (.object "com/example/hold_fast/holdfast/model/FieldType")), accessFlags := 4122, slot := 4, constantValue := 0 }]
  methods := #[]
  instanceTypes := #[(.object "java/lang/String"), .int, .int, (.object "java/lang/String")]
  staticTypes := #[(.object "com/example/hold_fast/holdfast/model/FieldType"), (.object "com/example/hold_fast/holdfast/model/FieldType"), (.object "com/example/hold_fast/holdfast/model/FieldType"), (.object "com/example/hold_fast/holdfast/model/FieldType"), (.array (.object "com/example/hold_fast/holdfast/model/FieldType"))]
  resolved := Array.replicate 75 none
  statics := some 0 }

def pool8 : Array CpInfo := pool [(2, .class_ 4), (1, u "java/lang/Object"), (2, .fieldref 8 9), (0, .class_ 10), (0, .nameAndType 11 12), (0, u "java/lang/Boolean"), (0, u "value"), (0, u "Z"), (14, .fieldref 8 28), (0, .nameAndType 29 30), (0, u "TRUE"), (0, u "Ljava/lang/Boolean;"), (0, .fieldref 8 32), (0, .nameAndType 33 30), (0, u "FALSE"), (2, u "valueOf"), (7, u "booleanValue"), (0, u "()Z"), (41, u "TYPE"), (0, u "Ljava/lang/Class;"), (0, .class_ 90), (0, u "java/io/Serializable"), (0, .class_ 92), (0, u "java/lang/Comparable"), (0, .class_ 94), (0, u "java/lang/constant/Constable"), (2, u "serialVersionUID"), (0, u "J"), (18, u "(Z)Ljava/lang/Boolean;")] 34

def k8c0 : Code := { maxStack := 1, maxLocals := 1, code := jdk_2055_method_4_code, exceptionTable := #[], attributes := #[] }
def k8m0 : Method := { name := "booleanValue", desc := "()Z", sig := { parameters := [], returnType := some .boolean }, accessFlags := 1, code := some k8c0 }
def k8c1 : Code := { maxStack := 1, maxLocals := 1, code := jdk_2055_method_5_code, exceptionTable := #[], attributes := #[] }
def k8m1 : Method := { name := "valueOf", desc := "(Z)Ljava/lang/Boolean;", sig := { parameters := [.boolean], returnType := some (.object "java/lang/Boolean") }, accessFlags := 9, code := some k8c1 }
/-- java/lang/Boolean -/
def k8 : Class := { plain "java/lang/Boolean" (some 0) with
  accessFlags := 49
  interfaces := #[5, 4, 3]
  cf := some (fileOf pool8 8 #[] #[{ accessFlags := 1, nameIndex := 44, descriptorIndex := 45, attributes := #[] }, { accessFlags := 9, nameIndex := 36, descriptorIndex := 117, attributes := #[] }] 49 2 #[89, 91, 93] #[{ accessFlags := 25, nameIndex := 29, descriptorIndex := 30, attributes := #[] }, { accessFlags := 25, nameIndex := 33, descriptorIndex := 30, attributes := #[] }, { accessFlags := 25, nameIndex := 87, descriptorIndex := 88, attributes := #[] }, { accessFlags := 18, nameIndex := 11, descriptorIndex := 12, attributes := #[] }, { accessFlags := 26, nameIndex := 97, descriptorIndex := 98, attributes := #[] }])
  fields := #[{ name := "TRUE", type := (.object "java/lang/Boolean"), accessFlags := 25, slot := 0, constantValue := 0 }, { name := "FALSE", type := (.object "java/lang/Boolean"), accessFlags := 25, slot := 1, constantValue := 0 }, { name := "TYPE", type := (.object "java/lang/Class"), accessFlags := 25, slot := 2, constantValue := 0 }, { name := "value", type := .boolean, accessFlags := 18, slot := 0, constantValue := 0 }, { name := "serialVersionUID", type := .long, accessFlags := 26, slot := 3, constantValue := 0 }]
  methods := #[k8m0, k8m1]
  instanceTypes := #[.boolean]
  staticTypes := #[(.object "java/lang/Boolean"), (.object "java/lang/Boolean"), (.object "java/lang/Class"), .long]
  resolved := Array.replicate 152 none
  statics := some 1 }

def pool9 : Array CpInfo := pool [(1, u "java/lang/Cloneable"), (0, .class_ 1), (0, u "java/lang/Object"), (0, .class_ 3)] 3

/-- java/lang/Cloneable -/
def k9 : Class := { plain "java/lang/Cloneable" (some 0) with
  accessFlags := 1537
  interfaces := #[]
  cf := some (fileOf pool9 2 #[] #[] 1537 4 #[] #[])
  fields := #[]
  methods := #[]
  instanceTypes := #[]
  staticTypes := #[]
  resolved := Array.replicate 8 none
  statics := none }

/-- the primitive byte -/
def k10 : Class := { plain "byte" none with kind := .primitive 'B', accessFlags := 0x411 }
/-- [B -/
def k11 : Class := { plain "[B" (some 0) with kind := .array 10 .byte, interfaces := #[9, 5], accessFlags := 1041 }

/-- the primitive int -/
def k12 : Class := { plain "int" none with kind := .primitive 'I', accessFlags := 0x411 }
/-- [I -/
def k13 : Class := { plain "[I" (some 0) with kind := .array 12 .int, interfaces := #[9, 5], accessFlags := 1041 }

def heap : Heap := #[{ cls := 7, slots := #[.null, .null, .null, .ref 2, .null], vm := .statics 7 },
  { cls := 8, slots := #[.ref 4, .ref 3, .null, .long 0], vm := .statics 8 },
  { cls := 7, slots := #[.null, .int 0, .int 0, .null], vm := .none },
  { cls := 8, slots := #[.int 0], vm := .none },
  { cls := 8, slots := #[.int 1], vm := .none }]
def classes : Array Class := #[k0, k1, k2, k3, k4, k5, k6, k7, k8, k9, k10, k11, k12, k13]
def interned : List (Array UInt16 × Addr) := []
def slotsUsed : Nat := 15
def theMethod : MethodId := ⟨1, 1⟩
def args0 : Array Value := #[.int 5]
def aboutOver (below : List Frame) : State where
  vm := { classes := classes, interned := interned.toArray }
  heap := heap
  slotsUsed := slotsUsed
  threads := #[{ frames := .invoking theMethod args0 :: below }]
def below0 : List Frame := [.native { method := ⟨0, 0⟩, args := #[] }]
def about1 : State := aboutOver below0
def p0 : Program := .bare "" "" ""
def e0 : Env := launch0.env 0 0 0
theorem w_frames : about1.frames = Frame.invoking theMethod args0 :: below0 := rfl
set_option maxRecDepth 65536 in
theorem w_args : argsFit about1.vm theMethod args0 = true := by decide +kernel
set_option maxRecDepth 65536 in
theorem w_heap : heapFits about1 = true := by decide +kernel
set_option maxRecDepth 65536 in
theorem w_runnable : about1.curStatus? = some .runnable := by decide +kernel
set_option maxRecDepth 65536 in
theorem w_alone : about1.alone = true := by decide +kernel
set_option maxRecDepth 65536 in
theorem w_named : about1.methodNamed? x = some theMethod := by decide +kernel
set_option maxRecDepth 65536 in
theorem w_hears : about1.hears theMethod below0 = true := by decide +kernel
set_option maxRecDepth 65536 in
theorem w_ripe : about1.ripe theMethod args0 below0 = true := by decide +kernel
theorem w_running : about1.status = .running := rfl
set_option maxRecDepth 65536 in
theorem w_room : about1.hasRoom e0.platform room_1 = true :=
  launch0.hasRoom_least _ room_1 (by decide +kernel) (by decide +kernel) (by decide +kernel) (by decide +kernel) (by decide +kernel) (by decide +kernel)
theorem allAtoms_all (ts : List Jvm.Cond) (a : Array Jvm.Value) (st : Jvm.State) : (allAtoms ts).before a st = ts.all (fun c => c.before a st) := by
  induction ts with
  | nil => rfl
  | cons c t ih =>
    show (Jvm.Cond.and c (allAtoms t)).before a st = _
    rw [Jvm.Cond.before_and, ih, List.all_cons]
def words1 : List Jvm.Cond := Jvm.Cond.code x code maxLocals ret :: tables_1
/-- a 'code' word, met by the world's own term for the bytes: nothing is compared byte by byte -/
theorem code_word {y : MethodName} {bytes : ByteArray} {mx : Nat} {rt : Option FieldType} {a : Array Value} {s : State} {m : MethodId} {meth : Method} {c : Code} (h1 : s.methodNamed? y = some m) (h2 : s.vm.method? m = some meth) (h3 : meth.code = some c) (h4 : c.code = bytes)
    (h5 : (c.maxLocals == mx && c.exceptionTable.isEmpty && decide (c.maxStack ≤ mostOperands) && decide (meth.sig.returnType = rt) && !meth.locks && decide (parseMethodDescriptor y.desc = some meth.sig)) = true) : (Jvm.Cond.code y bytes mx rt).before a s = true := by
  simp only [Bool.and_eq_true, beq_iff_eq, Bool.not_eq_true', decide_eq_true_eq] at h5
  obtain ⟨⟨⟨⟨⟨g1, g2⟩, g3⟩, g4⟩, g5⟩, g6⟩ := h5
  simp [Cond.before, Cond.holds, Cond.value, h1, h2, h3, h4, g1, g2, g3, g4, g5, g6]
def isCode : Jvm.Cond → Bool
  | .code _ _ _ _ => true
  | _ => false
theorem all_split {L : List Jvm.Cond} {P : Jvm.Cond → Bool} (h1 : L.all (fun c => isCode c || P c) = true) (h2 : ∀ c ∈ L.filter isCode, P c = true) : L.all P = true := by
  refine List.all_eq_true.mpr fun c hc => ?_
  have h := List.all_eq_true.mp h1 c hc
  rcases Bool.eq_false_or_eq_true (isCode c) with hi | hi
  · exact h2 c (List.mem_filter.mpr ⟨hc, hi⟩)
  · simpa [hi] using h
set_option maxRecDepth 65536 in
theorem w_c0 : (Jvm.Cond.code x code maxLocals ret).before args0 about1 = true := code_word (m := ⟨1, 1⟩) (meth := k1m1) (c := k1c1) (by decide +kernel) rfl rfl rfl (by decide +kernel)
set_option maxRecDepth 65536 in
theorem w_c1 : (Jvm.Cond.code ({ cls := "com/example/hold_fast/holdfast/model/FieldValue", name := "bool", desc := "(Z)Lcom/example/hold_fast/holdfast/model/FieldValue;" } : Jvm.MethodName) prog_17_method_3_code (1 : Nat) (Option.some (Jvm.ClassFile.FieldType.object "com/example/hold_fast/holdfast/model/FieldValue"))).before args0 about1 = true := code_word (m := ⟨2, 1⟩) (meth := k2m1) (c := k2c1) (by decide +kernel) rfl rfl rfl (by decide +kernel)
set_option maxRecDepth 65536 in
theorem w_c2 : (Jvm.Cond.code ({ cls := "java/lang/Boolean", name := "valueOf", desc := "(Z)Ljava/lang/Boolean;" } : Jvm.MethodName) jdk_2055_method_5_code (1 : Nat) (Option.some (Jvm.ClassFile.FieldType.object "java/lang/Boolean"))).before args0 about1 = true := code_word (m := ⟨8, 1⟩) (meth := k8m1) (c := k8c1) (by decide +kernel) rfl rfl rfl (by decide +kernel)
set_option maxRecDepth 65536 in
theorem w_c3 : (Jvm.Cond.code ({ cls := "com/example/hold_fast/holdfast/model/FieldValue", name := "<init>", desc := "(Lcom/example/hold_fast/holdfast/model/FieldType;Ljava/lang/Object;)V" } : Jvm.MethodName) prog_17_method_1_code (3 : Nat) (Option.none : Option Jvm.ClassFile.FieldType)).before args0 about1 = true := code_word (m := ⟨2, 0⟩) (meth := k2m0) (c := k2c0) (by decide +kernel) rfl rfl rfl (by decide +kernel)
set_option maxRecDepth 65536 in
theorem w_c4 : (Jvm.Cond.code ({ cls := "java/lang/Object", name := "<init>", desc := "()V" } : Jvm.MethodName) object_method_1_code (1 : Nat) (Option.none : Option Jvm.ClassFile.FieldType)).before args0 about1 = true := code_word (m := ⟨0, 0⟩) (meth := k0m0) (c := k0c0) (by decide +kernel) rfl rfl rfl (by decide +kernel)
set_option maxRecDepth 65536 in
theorem w_c5 : (Jvm.Cond.code ({ cls := "com/example/hold_fast/holdfast/model/FieldValue", name := "type", desc := "()Lcom/example/hold_fast/holdfast/model/FieldType;" } : Jvm.MethodName) prog_17_method_5_code (1 : Nat) (Option.some (Jvm.ClassFile.FieldType.object "com/example/hold_fast/holdfast/model/FieldType"))).before args0 about1 = true := code_word (m := ⟨2, 2⟩) (meth := k2m2) (c := k2c2) (by decide +kernel) rfl rfl rfl (by decide +kernel)
set_option maxRecDepth 65536 in
theorem w_c6 : (Jvm.Cond.code ({ cls := "com/example/hold_fast/holdfast/model/FieldValue", name := "bool", desc := "()Z" } : Jvm.MethodName) prog_17_method_7_code (1 : Nat) (Option.some Jvm.ClassFile.FieldType.boolean)).before args0 about1 = true := code_word (m := ⟨2, 3⟩) (meth := k2m3) (c := k2c3) (by decide +kernel) rfl rfl rfl (by decide +kernel)
set_option maxRecDepth 65536 in
theorem w_c7 : (Jvm.Cond.code ({ cls := "java/lang/Boolean", name := "booleanValue", desc := "()Z" } : Jvm.MethodName) jdk_2055_method_4_code (1 : Nat) (Option.some Jvm.ClassFile.FieldType.boolean)).before args0 about1 = true := code_word (m := ⟨8, 0⟩) (meth := k8m0) (c := k8c0) (by decide +kernel) rfl rfl rfl (by decide +kernel)
def codes1 : List Jvm.Cond := [Jvm.Cond.code x code maxLocals ret, Jvm.Cond.code ({ cls := "com/example/hold_fast/holdfast/model/FieldValue", name := "bool", desc := "(Z)Lcom/example/hold_fast/holdfast/model/FieldValue;" } : Jvm.MethodName) prog_17_method_3_code (1 : Nat) (Option.some (Jvm.ClassFile.FieldType.object "com/example/hold_fast/holdfast/model/FieldValue")), Jvm.Cond.code ({ cls := "java/lang/Boolean", name := "valueOf", desc := "(Z)Ljava/lang/Boolean;" } : Jvm.MethodName) jdk_2055_method_5_code (1 : Nat) (Option.some (Jvm.ClassFile.FieldType.object "java/lang/Boolean")), Jvm.Cond.code ({ cls := "com/example/hold_fast/holdfast/model/FieldValue", name := "<init>", desc := "(Lcom/example/hold_fast/holdfast/model/FieldType;Ljava/lang/Object;)V" } : Jvm.MethodName) prog_17_method_1_code (3 : Nat) (Option.none : Option Jvm.ClassFile.FieldType), Jvm.Cond.code ({ cls := "java/lang/Object", name := "<init>", desc := "()V" } : Jvm.MethodName) object_method_1_code (1 : Nat) (Option.none : Option Jvm.ClassFile.FieldType), Jvm.Cond.code ({ cls := "com/example/hold_fast/holdfast/model/FieldValue", name := "type", desc := "()Lcom/example/hold_fast/holdfast/model/FieldType;" } : Jvm.MethodName) prog_17_method_5_code (1 : Nat) (Option.some (Jvm.ClassFile.FieldType.object "com/example/hold_fast/holdfast/model/FieldType")), Jvm.Cond.code ({ cls := "com/example/hold_fast/holdfast/model/FieldValue", name := "bool", desc := "()Z" } : Jvm.MethodName) prog_17_method_7_code (1 : Nat) (Option.some Jvm.ClassFile.FieldType.boolean), Jvm.Cond.code ({ cls := "java/lang/Boolean", name := "booleanValue", desc := "()Z" } : Jvm.MethodName) jdk_2055_method_4_code (1 : Nat) (Option.some Jvm.ClassFile.FieldType.boolean)]
set_option maxRecDepth 65536 in
theorem codes_eq : words1.filter isCode = codes1 := rfl
theorem w_codes : ∀ c ∈ words1.filter isCode, c.before args0 about1 = true := by
  rw [codes_eq]
  intro c hc
  simp only [codes1, List.mem_cons, List.not_mem_nil, or_false] at hc
  rcases hc with rfl | rfl | rfl | rfl | rfl | rfl | rfl | rfl
  · exact w_c0
  · exact w_c1
  · exact w_c2
  · exact w_c3
  · exact w_c4
  · exact w_c5
  · exact w_c6
  · exact w_c7
set_option maxRecDepth 65536 in
theorem w_t1 : (words1.take 24).all (fun c => isCode c || c.before args0 about1) = true := by decide +kernel
set_option maxRecDepth 65536 in
theorem w_t2 : (words1.drop 24).all (fun c => isCode c || c.before args0 about1) = true := by decide +kernel
theorem w_tables : (allAtoms (Jvm.Cond.code x code maxLocals ret :: tables_1)).before args0 about1 = true := by
  rw [allAtoms_all]
  show words1.all (fun c => c.before args0 about1) = true
  refine all_split ?_ w_codes
  rw [← List.take_append_drop 24 words1, List.all_append, w_t1, w_t2]
  rfl
set_option maxRecDepth 65536 in
theorem w_rest : rest_1_c.before args0 about1 = true := by decide +kernel
set_option maxRecDepth 65536 in
theorem w_case : (Jvm.Cond.and given_1 narrow_1).before args0 about1 = true := by decide +kernel
theorem w_applies : (headSpec (Jvm.Cond.code x code maxLocals ret :: tables_1) room_1).applies x e0.platform about1 = true :=
  (Spec.applies_iff w_frames).mpr ⟨w_running, w_runnable, w_alone, w_named, w_hears, w_ripe, w_room, w_tables⟩
theorem atStart : AtStart classFile x code maxLocals ret World_1 tables_1 room_1 Calls_1 rest_1 Pre_1 launch0 p0 e0 about1 theMethod args0 below0 :=
  ⟨lists_1, trivial, launch0.admits_env _ _ _, launch0.least_env, fairChoices_fair.cas, fairChoices_fair.clock, w_frames, w_args, w_heap, w_applies, trivial, w_rest, w_case⟩
end start1
theorem witness_1 : WitnessClaimed_1 := ⟨start1.p0, start1.e0, start1.about1, start1.theMethod, start1.args0, start1.below0, start1.atStart⟩
end Jvm.Pilot.@@N@@
