import JvmDerived
import JvmDerived.Pilot.@@N@@Statement
import JvmDerived.Pilot.@@N@@Code
set_option linter.unusedVariables false
set_option linter.unusedSimpArgs false
@@BLOCK:NumsL.lean.txt@@
namespace Jvm.RoadKit
open Sem ClassFile Op Lib Jvm.Stand Jvm.Free Jvm.LawKit
section New
variable {p : Program} {l : Launch} {e : Env} {R : Room} {s : State} {m : MethodId} {args : Array Value} {below : List Frame} {meth : Method} {c : Code} {T : State} {locs : List Loc} {cells slots : Nat}
theorem retI (X : Stand p l e R s m args below meth c T locs cells slots) (hx : p.tables.exec = Jvm.exec) {pc : Nat} {Ls : Array Slot} {z : Int32} {rest : List Value} (hret : meth.sig.returnType = some .int) (hd : decode c.code pc = .ok (.ireturn, 1)) {fs : List Frame}
    (hl : ∀ (f : JFrame) (acts : List Action), f.method = m → f.locked = none → f.entered = [] → (doReturn e (T.setTop f) acts (some (.int z))).1 = T.setFrames fs) : Steps p.tables e below (T.setTop (mkF m pc Ls (.int z :: rest))) (T.setFrames fs) := by
  have hm' : T.vm.method? m = some meth := X.method'
  have hn : narrow .int (.int z) = .int z := rfl
  show Steps p.tables e below (T.setTop { method := m, pc := pc, locals := Ls, stack := _ :: rest, locked := none }) _
  jvm_step X.here [X.here.top, hx, hd, hm', hret, hn]
  first | (intro acts; rw [hl _ acts rfl rfl rfl]) | rw [hl _ _ rfl rfl rfl]
  exact Steps.refl _
end New
end Jvm.RoadKit
namespace Jvm.Pilot.@@N@@
open Jvm Jvm.ClassFile Sem Op Lib Jvm.Free Jvm.Stand Jvm.LawKit Jvm.RoadKit Bundle Jvm.Pilot.@@N@@.Jvm.D
theorem own_eqi {args : Array Value} {s : State} {t : Term} {k : Int32} (h : (Cond.eq t (Term.int k)).value args s none s [] = some true) : t.eval args s none [] s = some (.int k) := by
  have e2 : (Term.int k).eval args s none [] s = some (.int k) := rfl
  cases hv : t.eval args s none [] s with
  | none => simp [Cond.value, hv] at h
  | some v =>
    simp only [Cond.value, hv, e2] at h
    cases v <;> simp at h
    rw [h]
theorem own_eqr {args : Array Value} {s : State} {t u : Term} {y : Addr} (h : (Cond.eq t u).value args s none s [] = some true) (hu : u.eval args s none [] s = some (.ref y)) : t.eval args s none [] s = some (.ref y) := by
  cases hv : t.eval args s none [] s with
  | none => simp [Cond.value, hv] at h
  | some v =>
    simp only [Cond.value, hv, hu] at h
    cases v <;> simp at h
    rw [h]
theorem own_fi {args : Array Value} {s : State} {t : Term} {C n d : String} {k : Int32} {x : Addr} (h : (Cond.eq (Term.field t C n d) (Term.int k)).value args s none s [] = some true) (ht : t.eval args s none [] s = some (.ref x)) : s.fieldOf? x C n d = some (.int k) := (fld_at ht).symm.trans (own_eqi h)
theorem own_fr {args : Array Value} {s : State} {t u : Term} {C n d : String} {x y : Addr} (h : (Cond.eq (Term.field t C n d) u).value args s none s [] = some true) (ht : t.eval args s none [] s = some (.ref x)) (hu : u.eval args s none [] s = some (.ref y)) : s.fieldOf? x C n d = some (.ref y) := (fld_at ht).symm.trans (own_eqr h hu)
theorem own_ne {s : State} {C n d : String} {x y : Addr} {j k : Int32} (hx : s.fieldOf? x C n d = some (.int j)) (hy : s.fieldOf? y C n d = some (.int k)) (hk : j ≠ k) : ¬ (x = y) := fun q => by
  subst q
  rw [hx] at hy
  exact hk (Value.int.inj (Option.some.inj hy))
def QI (z : Int32) (h0 : Heap) (n0 : Nat) (v : Option Value) (h : Heap) (L : List Loc) : Prop := v = some (.int z) ∧ Fr n0 L ∧ h = h0
def fullV (p1 p2 : Int32) : Int32 := if p2 = (2147483644 : Int32) then (if (0 : Int32) < (lcmpW ((4 : Int64) * ((p1 + (1 : Int32)).toInt64)) ((3 : Int64) * (p2.toInt64))) then 1 else 0) else (if (0 : Int32) < (lcmpW ((2 : Int64) * ((p1 + (1 : Int32)).toInt64)) (p2.toInt64)) then 1 else 0)
def maxV (p1 p2 : Int32) : Int32 := if p1 < p2 then p2 else p1
def shV (d k : Int32) : Int32 := (d.toUInt32 >>> (k &&& 31).toUInt32).toInt32
def slV (a d : Int32) : Int32 := if (d &&& (3 : Int32)) = (0 : Int32) then a &&& (2147483647 : Int32) else if (d &&& (3 : Int32)) = (1 : Int32) then (2147483644 : Int32) else if (d &&& (3 : Int32)) = (2 : Int32) then ((2147483644 : Int32) - (1 : Int32)) + ((shV d 2) &&& (3 : Int32)) else a &&& (255 : Int32)
def cpV (z : Int32) : Int32 := if z = (2147483644 : Int32) then (1610612733 : Int32) else z / (2 : Int32)
def kyV (b d z : Int32) : Int32 := if ((shV d 4) &&& (1 : Int32)) = (0 : Int32) then (b &&& (2147483647 : Int32)) % (2147483647 : Int32) else maxV (0 : Int32) (z + ((b &&& (7 : Int32)) - (4 : Int32)))
def exV (k z : Int32) : Int32 := if k < z then 0 else 1
theorem d1_0 : decode prog_91_method_4_code 0 = .ok (.iload_n 1, 1) := by decide +kernel
theorem d1_1 : decode prog_91_method_4_code 1 = .ok (.getstatic 14, 3) := by decide +kernel
theorem d1_4 : decode prog_91_method_4_code 4 = .ok (.if_icmp .ne 29, 3) := by decide +kernel
theorem d1_7 : decode prog_91_method_4_code 7 = .ok (.ldc2_w 18, 3) := by decide +kernel
theorem d1_10 : decode prog_91_method_4_code 10 = .ok (.iload_n 0, 1) := by decide +kernel
theorem d1_11 : decode prog_91_method_4_code 11 = .ok (.iconst 1, 1) := by decide +kernel
theorem d1_12 : decode prog_91_method_4_code 12 = .ok (.iadd, 1) := by decide +kernel
theorem d1_13 : decode prog_91_method_4_code 13 = .ok (.i2l, 1) := by decide +kernel
theorem d1_14 : decode prog_91_method_4_code 14 = .ok (.lmul, 1) := by decide +kernel
theorem d1_15 : decode prog_91_method_4_code 15 = .ok (.ldc2_w 20, 3) := by decide +kernel
theorem d1_18 : decode prog_91_method_4_code 18 = .ok (.iload_n 1, 1) := by decide +kernel
theorem d1_19 : decode prog_91_method_4_code 19 = .ok (.i2l, 1) := by decide +kernel
theorem d1_20 : decode prog_91_method_4_code 20 = .ok (.lmul, 1) := by decide +kernel
theorem d1_21 : decode prog_91_method_4_code 21 = .ok (.lcmp, 1) := by decide +kernel
theorem d1_22 : decode prog_91_method_4_code 22 = .ok (.ifCond .le 7, 3) := by decide +kernel
theorem d1_25 : decode prog_91_method_4_code 25 = .ok (.iconst 1, 1) := by decide +kernel
theorem d1_26 : decode prog_91_method_4_code 26 = .ok (.goto 26, 3) := by decide +kernel
theorem d1_52 : decode prog_91_method_4_code 52 = .ok (.ireturn, 1) := by decide +kernel
theorem pn_1 : plainName "com/example/invertex/invertex/index/HashSlots" = true := by first | (simp [plainName, overriddenIn]; done) | decide +kernel
theorem ef_1 (m : MethodId) (x0 : Int32) (x1 : Int32) : entryFrame m #[(.int x0), (.int x1)] 2 = mkF m 0 #[.val (.int x0), .val (.int x1)] [] := by first | (simp [entryFrame, mkF, argsToLocals, Value.category]; done) | rfl
theorem d1_29 : decode prog_91_method_4_code 29 = .ok (.iconst 0, 1) := by decide +kernel
theorem d1_30 : decode prog_91_method_4_code 30 = .ok (.goto 22, 3) := by decide +kernel
theorem d1_33 : decode prog_91_method_4_code 33 = .ok (.ldc2_w 22, 3) := by decide +kernel
theorem d1_36 : decode prog_91_method_4_code 36 = .ok (.iload_n 0, 1) := by decide +kernel
theorem d1_37 : decode prog_91_method_4_code 37 = .ok (.iconst 1, 1) := by decide +kernel
theorem d1_38 : decode prog_91_method_4_code 38 = .ok (.iadd, 1) := by decide +kernel
theorem d1_39 : decode prog_91_method_4_code 39 = .ok (.i2l, 1) := by decide +kernel
theorem d1_40 : decode prog_91_method_4_code 40 = .ok (.lmul, 1) := by decide +kernel
theorem d1_41 : decode prog_91_method_4_code 41 = .ok (.iload_n 1, 1) := by decide +kernel
theorem d1_42 : decode prog_91_method_4_code 42 = .ok (.i2l, 1) := by decide +kernel
theorem d1_43 : decode prog_91_method_4_code 43 = .ok (.lcmp, 1) := by decide +kernel
theorem d1_44 : decode prog_91_method_4_code 44 = .ok (.ifCond .le 7, 3) := by decide +kernel
theorem d1_47 : decode prog_91_method_4_code 47 = .ok (.iconst 1, 1) := by decide +kernel
theorem d1_48 : decode prog_91_method_4_code 48 = .ok (.goto 4, 3) := by decide +kernel
theorem d1_51 : decode prog_91_method_4_code 51 = .ok (.iconst 0, 1) := by decide +kernel
theorem d2_0 : decode jdk_29_method_65_code 0 = .ok (.iload_n 0, 1) := by decide +kernel
theorem d2_1 : decode jdk_29_method_65_code 1 = .ok (.iload_n 1, 1) := by decide +kernel
theorem d2_2 : decode jdk_29_method_65_code 2 = .ok (.if_icmp .lt 7, 3) := by decide +kernel
theorem d2_9 : decode jdk_29_method_65_code 9 = .ok (.iload_n 1, 1) := by decide +kernel
theorem d2_10 : decode jdk_29_method_65_code 10 = .ok (.ireturn, 1) := by decide +kernel
theorem ef_2 (m : MethodId) (x0 : Int32) (x1 : Int32) : entryFrame m #[(.int x0), (.int x1)] 2 = mkF m 0 #[.val (.int x0), .val (.int x1)] [] := by first | (simp [entryFrame, mkF, argsToLocals, Value.category]; done) | rfl
theorem d2_5 : decode jdk_29_method_65_code 5 = .ok (.iload_n 0, 1) := by decide +kernel
theorem d2_6 : decode jdk_29_method_65_code 6 = .ok (.goto 4, 3) := by decide +kernel
set_option maxRecDepth 65536 in
set_option maxHeartbeats 40000000 in
theorem rm1ff (l : Launch) (Z : State) (a0 : Array Value) (hw : ∀ d ∈ tables_1, d.before a0 Z = true) (ws : List Jvm.Cond) (p1 : Int32) (p2 : Int32) (w3 : Int32) (h0 : Heap) (n0 : Nat) (Z0 : n0 ≤ h0.size) (S_LONGEST : Sta Z h0 "com/example/invertex/invertex/index/HashSlots" "LONGEST" "I" (.int w3)) (hc4 : p2 = w3) (hc22 : (0 : Int32) < (lcmpW ((4 : Int64) * ((p1 + (1 : Int32)).toInt64)) ((3 : Int64) * (p2.toInt64)))) :
    MetFree l (⟨"com/example/invertex/invertex/index/HashSlots", "full", "(II)Z"⟩ : MethodName) (head1 (Jvm.Cond.code (⟨"com/example/invertex/invertex/index/HashSlots", "full", "(II)Z"⟩ : MethodName) prog_91_method_4_code 2 (some .boolean) :: ws) ({ frames := 0, cells := 0, slots := 0, locals := 0 } : Room)) (fun a U => a = #[(.int p1), (.int p2)] ∧ Z.Warmed39 U.vm ∧ U.heap = h0) (fun _ _ _ _ _ => True) (fun _ U o U' => ∃ v L, o = .returned v ∧ QI 1 h0 n0 v U'.heap L ∧ FrameEnd U o U' L ({ frames := 0, cells := 0, slots := 0, locals := 0 } : Room).cells ({ frames := 0, cells := 0, slots := 0, locals := 0 } : Room).slots) := by
  refine MetFree.of_bodySF (plainFor_of_name pn_1) hisR ?_
  intro p e s m args below meth c s₁ Bd hml0 hP hK
  obtain ⟨rfl, hZ, hh⟩ := hP
  have hx := Bd.exec
  have hby := Bd.bytes
  have hml : c.maxLocals = 2 := hml0
  have hown : s.vm.findClass "com/example/invertex/invertex/index/HashSlots" = some m.cls := findClass_of_methodNamed Bd.named
  have hnm := (name_of_methodNamed Bd.named Bd.method).1
  have X0 : Stand p l e ({ frames := 0, cells := 0, slots := 0, locals := 0 } : Room) s m #[(.int p1), (.int p2)] below meth c s₁ [] 0 0 := Stand.of_body Bd
  have e0 : s₁.heap = h0 := by rw [← hh, Bd.state]; rfl
  have N0 := Fr.nil n0
  have pre0 : ∀ t, Steps p.tables e below (s₁.setTop (mkF m 0 #[.val (.int p1), .val (.int p2)] [])) t → Steps p.tables e below (s₁.setTop (entryFrame m #[(.int p1), (.int p2)] 2)) t := fun t k => castTop (ef_1 m p1 p2) k
  obtain ⟨T4, X4, e4, st4⟩ := getS2 X0 hx hZ hown (host := "") (Or.inl (hw _ (List.mem_of_getElem? (i := 7) rfl))) Via.refl e0 S_LONGEST (g := (mkF m 1 #[.val (.int p1), .val (.int p2)] [(.int p2)])) rfl (hb hby d1_1)
  obtain ⟨fs, hr, hrun, hended, hW, hsame⟩ := X4.leave (v := some (.int (1 : Int32))) (fun h => by rw [Bd.returns] at h; cases h)
  refine ⟨_, _, pre0 _ ?_, hrun, hended, _, _, rfl, ?_, ⟨_, rfl⟩, hW, hsame.mono (by decide) (by decide)⟩
  · show Steps p.tables e below (s₁.setTop (mkF m 0 #[.val (.int p1), .val (.int p2)] [])) _
    refine XS.iloadN X0.here hx rfl (hb hby d1_0) rfl ?_
    show Steps p.tables e below (s₁.setTop (mkF m 1 #[.val (.int p1), .val (.int p2)] [(.int p2)])) _
    refine st4 _ ?_
    show Steps p.tables e below (T4.setTop (mkF m 4 #[.val (.int p1), .val (.int p2)] [(.int w3), (.int p2)])) _
    refine XS.icmpNo X4.here hx rfl (hb hby d1_4) rfl (teq hc4).2 ?_
    show Steps p.tables e below (T4.setTop (mkF m 7 #[.val (.int p1), .val (.int p2)] [])) _
    refine X4.ldc2Long hx hown (mvT hZ (hw _ (List.mem_of_getElem? (i := 10) rfl))) (g := (mkF m 7 #[.val (.int p1), .val (.int p2)] [])) rfl (hb hby d1_7) _ ?_
    show Steps p.tables e below (T4.setTop (mkF m 10 #[.val (.int p1), .val (.int p2)] [(.long (4 : Int64))])) _
    refine XS.iloadN X4.here hx rfl (hb hby d1_10) rfl ?_
    show Steps p.tables e below (T4.setTop (mkF m 11 #[.val (.int p1), .val (.int p2)] [(.int p1), (.long (4 : Int64))])) _
    refine XS.iconst X4.here hx rfl (hb hby d1_11) ?_
    show Steps p.tables e below (T4.setTop (mkF m 12 #[.val (.int p1), .val (.int p2)] [(.int (1 : Int32)), (.int p1), (.long (4 : Int64))])) _
    refine XS.iadd X4.here hx rfl (hb hby d1_12) rfl ?_
    show Steps p.tables e below (T4.setTop (mkF m 13 #[.val (.int p1), .val (.int p2)] [(.int (p1 + (1 : Int32))), (.long (4 : Int64))])) _
    refine XS.i2l X4.here hx rfl (hb hby d1_13) rfl ?_
    show Steps p.tables e below (T4.setTop (mkF m 14 #[.val (.int p1), .val (.int p2)] [(.long ((p1 + (1 : Int32)).toInt64)), (.long (4 : Int64))])) _
    refine XS.lmul X4.here hx rfl (hb hby d1_14) rfl ?_
    show Steps p.tables e below (T4.setTop (mkF m 15 #[.val (.int p1), .val (.int p2)] [(.long ((4 : Int64) * ((p1 + (1 : Int32)).toInt64)))])) _
    refine X4.ldc2Long hx hown (mvT hZ (hw _ (List.mem_of_getElem? (i := 11) rfl))) (g := (mkF m 15 #[.val (.int p1), .val (.int p2)] [(.long ((4 : Int64) * ((p1 + (1 : Int32)).toInt64)))])) rfl (hb hby d1_15) _ ?_
    show Steps p.tables e below (T4.setTop (mkF m 18 #[.val (.int p1), .val (.int p2)] [(.long (3 : Int64)), (.long ((4 : Int64) * ((p1 + (1 : Int32)).toInt64)))])) _
    refine XS.iloadN X4.here hx rfl (hb hby d1_18) rfl ?_
    show Steps p.tables e below (T4.setTop (mkF m 19 #[.val (.int p1), .val (.int p2)] [(.int p2), (.long (3 : Int64)), (.long ((4 : Int64) * ((p1 + (1 : Int32)).toInt64)))])) _
    refine XS.i2l X4.here hx rfl (hb hby d1_19) rfl ?_
    show Steps p.tables e below (T4.setTop (mkF m 20 #[.val (.int p1), .val (.int p2)] [(.long (p2.toInt64)), (.long (3 : Int64)), (.long ((4 : Int64) * ((p1 + (1 : Int32)).toInt64)))])) _
    refine XS.lmul X4.here hx rfl (hb hby d1_20) rfl ?_
    show Steps p.tables e below (T4.setTop (mkF m 21 #[.val (.int p1), .val (.int p2)] [(.long ((3 : Int64) * (p2.toInt64))), (.long ((4 : Int64) * ((p1 + (1 : Int32)).toInt64)))])) _
    refine XS.lcmp X4.here hx rfl (hb hby d1_21) rfl ?_
    show Steps p.tables e below (T4.setTop (mkF m 22 #[.val (.int p1), .val (.int p2)] [(.int (lcmpW ((4 : Int64) * ((p1 + (1 : Int32)).toInt64)) ((3 : Int64) * (p2.toInt64))))])) _
    refine XS.ifNo X4.here hx rfl (hb hby d1_22) rfl ((if0 _ _).trans (tlt hc22).2.2.2) ?_
    show Steps p.tables e below (T4.setTop (mkF m 25 #[.val (.int p1), .val (.int p2)] [])) _
    refine XS.iconst X4.here hx rfl (hb hby d1_25) ?_
    show Steps p.tables e below (T4.setTop (mkF m 26 #[.val (.int p1), .val (.int p2)] [(.int (1 : Int32))])) _
    refine XS.goto X4.here hx rfl (pc0 := 26) (pc' := 52) rfl (hb hby d1_26) (by decide) (by decide) ?_
    show Steps p.tables e below (T4.setTop (mkF m 52 #[.val (.int p1), .val (.int p2)] [(.int (1 : Int32))])) _
    exact retN X4 hx (t := .boolean) Bd.returns (by simp) (hb hby d1_52) hr
  · show QI 1 h0 n0 _ T4.heap _
    rw [e4]
    exact ⟨rfl, N0, rfl⟩
set_option maxRecDepth 65536 in
set_option maxHeartbeats 40000000 in
theorem rm1ft (l : Launch) (Z : State) (a0 : Array Value) (hw : ∀ d ∈ tables_1, d.before a0 Z = true) (ws : List Jvm.Cond) (p1 : Int32) (p2 : Int32) (w3 : Int32) (h0 : Heap) (n0 : Nat) (Z0 : n0 ≤ h0.size) (S_LONGEST : Sta Z h0 "com/example/invertex/invertex/index/HashSlots" "LONGEST" "I" (.int w3)) (hc4 : p2 = w3) (hc22 : ¬ ((0 : Int32) < (lcmpW ((4 : Int64) * ((p1 + (1 : Int32)).toInt64)) ((3 : Int64) * (p2.toInt64))))) :
    MetFree l (⟨"com/example/invertex/invertex/index/HashSlots", "full", "(II)Z"⟩ : MethodName) (head1 (Jvm.Cond.code (⟨"com/example/invertex/invertex/index/HashSlots", "full", "(II)Z"⟩ : MethodName) prog_91_method_4_code 2 (some .boolean) :: ws) ({ frames := 0, cells := 0, slots := 0, locals := 0 } : Room)) (fun a U => a = #[(.int p1), (.int p2)] ∧ Z.Warmed39 U.vm ∧ U.heap = h0) (fun _ _ _ _ _ => True) (fun _ U o U' => ∃ v L, o = .returned v ∧ QI 0 h0 n0 v U'.heap L ∧ FrameEnd U o U' L ({ frames := 0, cells := 0, slots := 0, locals := 0 } : Room).cells ({ frames := 0, cells := 0, slots := 0, locals := 0 } : Room).slots) := by
  refine MetFree.of_bodySF (plainFor_of_name pn_1) hisR ?_
  intro p e s m args below meth c s₁ Bd hml0 hP hK
  obtain ⟨rfl, hZ, hh⟩ := hP
  have hx := Bd.exec
  have hby := Bd.bytes
  have hml : c.maxLocals = 2 := hml0
  have hown : s.vm.findClass "com/example/invertex/invertex/index/HashSlots" = some m.cls := findClass_of_methodNamed Bd.named
  have hnm := (name_of_methodNamed Bd.named Bd.method).1
  have X0 : Stand p l e ({ frames := 0, cells := 0, slots := 0, locals := 0 } : Room) s m #[(.int p1), (.int p2)] below meth c s₁ [] 0 0 := Stand.of_body Bd
  have e0 : s₁.heap = h0 := by rw [← hh, Bd.state]; rfl
  have N0 := Fr.nil n0
  have pre0 : ∀ t, Steps p.tables e below (s₁.setTop (mkF m 0 #[.val (.int p1), .val (.int p2)] [])) t → Steps p.tables e below (s₁.setTop (entryFrame m #[(.int p1), (.int p2)] 2)) t := fun t k => castTop (ef_1 m p1 p2) k
  obtain ⟨T4, X4, e4, st4⟩ := getS2 X0 hx hZ hown (host := "") (Or.inl (hw _ (List.mem_of_getElem? (i := 7) rfl))) Via.refl e0 S_LONGEST (g := (mkF m 1 #[.val (.int p1), .val (.int p2)] [(.int p2)])) rfl (hb hby d1_1)
  obtain ⟨fs, hr, hrun, hended, hW, hsame⟩ := X4.leave (v := some (.int (0 : Int32))) (fun h => by rw [Bd.returns] at h; cases h)
  refine ⟨_, _, pre0 _ ?_, hrun, hended, _, _, rfl, ?_, ⟨_, rfl⟩, hW, hsame.mono (by decide) (by decide)⟩
  · show Steps p.tables e below (s₁.setTop (mkF m 0 #[.val (.int p1), .val (.int p2)] [])) _
    refine XS.iloadN X0.here hx rfl (hb hby d1_0) rfl ?_
    show Steps p.tables e below (s₁.setTop (mkF m 1 #[.val (.int p1), .val (.int p2)] [(.int p2)])) _
    refine st4 _ ?_
    show Steps p.tables e below (T4.setTop (mkF m 4 #[.val (.int p1), .val (.int p2)] [(.int w3), (.int p2)])) _
    refine XS.icmpNo X4.here hx rfl (hb hby d1_4) rfl (teq hc4).2 ?_
    show Steps p.tables e below (T4.setTop (mkF m 7 #[.val (.int p1), .val (.int p2)] [])) _
    refine X4.ldc2Long hx hown (mvT hZ (hw _ (List.mem_of_getElem? (i := 10) rfl))) (g := (mkF m 7 #[.val (.int p1), .val (.int p2)] [])) rfl (hb hby d1_7) _ ?_
    show Steps p.tables e below (T4.setTop (mkF m 10 #[.val (.int p1), .val (.int p2)] [(.long (4 : Int64))])) _
    refine XS.iloadN X4.here hx rfl (hb hby d1_10) rfl ?_
    show Steps p.tables e below (T4.setTop (mkF m 11 #[.val (.int p1), .val (.int p2)] [(.int p1), (.long (4 : Int64))])) _
    refine XS.iconst X4.here hx rfl (hb hby d1_11) ?_
    show Steps p.tables e below (T4.setTop (mkF m 12 #[.val (.int p1), .val (.int p2)] [(.int (1 : Int32)), (.int p1), (.long (4 : Int64))])) _
    refine XS.iadd X4.here hx rfl (hb hby d1_12) rfl ?_
    show Steps p.tables e below (T4.setTop (mkF m 13 #[.val (.int p1), .val (.int p2)] [(.int (p1 + (1 : Int32))), (.long (4 : Int64))])) _
    refine XS.i2l X4.here hx rfl (hb hby d1_13) rfl ?_
    show Steps p.tables e below (T4.setTop (mkF m 14 #[.val (.int p1), .val (.int p2)] [(.long ((p1 + (1 : Int32)).toInt64)), (.long (4 : Int64))])) _
    refine XS.lmul X4.here hx rfl (hb hby d1_14) rfl ?_
    show Steps p.tables e below (T4.setTop (mkF m 15 #[.val (.int p1), .val (.int p2)] [(.long ((4 : Int64) * ((p1 + (1 : Int32)).toInt64)))])) _
    refine X4.ldc2Long hx hown (mvT hZ (hw _ (List.mem_of_getElem? (i := 11) rfl))) (g := (mkF m 15 #[.val (.int p1), .val (.int p2)] [(.long ((4 : Int64) * ((p1 + (1 : Int32)).toInt64)))])) rfl (hb hby d1_15) _ ?_
    show Steps p.tables e below (T4.setTop (mkF m 18 #[.val (.int p1), .val (.int p2)] [(.long (3 : Int64)), (.long ((4 : Int64) * ((p1 + (1 : Int32)).toInt64)))])) _
    refine XS.iloadN X4.here hx rfl (hb hby d1_18) rfl ?_
    show Steps p.tables e below (T4.setTop (mkF m 19 #[.val (.int p1), .val (.int p2)] [(.int p2), (.long (3 : Int64)), (.long ((4 : Int64) * ((p1 + (1 : Int32)).toInt64)))])) _
    refine XS.i2l X4.here hx rfl (hb hby d1_19) rfl ?_
    show Steps p.tables e below (T4.setTop (mkF m 20 #[.val (.int p1), .val (.int p2)] [(.long (p2.toInt64)), (.long (3 : Int64)), (.long ((4 : Int64) * ((p1 + (1 : Int32)).toInt64)))])) _
    refine XS.lmul X4.here hx rfl (hb hby d1_20) rfl ?_
    show Steps p.tables e below (T4.setTop (mkF m 21 #[.val (.int p1), .val (.int p2)] [(.long ((3 : Int64) * (p2.toInt64))), (.long ((4 : Int64) * ((p1 + (1 : Int32)).toInt64)))])) _
    refine XS.lcmp X4.here hx rfl (hb hby d1_21) rfl ?_
    show Steps p.tables e below (T4.setTop (mkF m 22 #[.val (.int p1), .val (.int p2)] [(.int (lcmpW ((4 : Int64) * ((p1 + (1 : Int32)).toInt64)) ((3 : Int64) * (p2.toInt64))))])) _
    refine XS.ifYes X4.here hx rfl (pc0 := 22) (pc' := 29) rfl (hb hby d1_22) rfl ((if0 _ _).trans (flt hc22).2.2.2) (by decide) (by decide) ?_
    show Steps p.tables e below (T4.setTop (mkF m 29 #[.val (.int p1), .val (.int p2)] [])) _
    refine XS.iconst X4.here hx rfl (hb hby d1_29) ?_
    show Steps p.tables e below (T4.setTop (mkF m 30 #[.val (.int p1), .val (.int p2)] [(.int (0 : Int32))])) _
    refine XS.goto X4.here hx rfl (pc0 := 30) (pc' := 52) rfl (hb hby d1_30) (by decide) (by decide) ?_
    show Steps p.tables e below (T4.setTop (mkF m 52 #[.val (.int p1), .val (.int p2)] [(.int (0 : Int32))])) _
    exact retN X4 hx (t := .boolean) Bd.returns (by simp) (hb hby d1_52) hr
  · show QI 0 h0 n0 _ T4.heap _
    rw [e4]
    exact ⟨rfl, N0, rfl⟩
set_option maxRecDepth 65536 in
set_option maxHeartbeats 40000000 in
theorem rm1tf (l : Launch) (Z : State) (a0 : Array Value) (hw : ∀ d ∈ tables_1, d.before a0 Z = true) (ws : List Jvm.Cond) (p1 : Int32) (p2 : Int32) (w3 : Int32) (h0 : Heap) (n0 : Nat) (Z0 : n0 ≤ h0.size) (S_LONGEST : Sta Z h0 "com/example/invertex/invertex/index/HashSlots" "LONGEST" "I" (.int w3)) (hc4 : ¬ (p2 = w3)) (hc44 : (0 : Int32) < (lcmpW ((2 : Int64) * ((p1 + (1 : Int32)).toInt64)) (p2.toInt64))) :
    MetFree l (⟨"com/example/invertex/invertex/index/HashSlots", "full", "(II)Z"⟩ : MethodName) (head1 (Jvm.Cond.code (⟨"com/example/invertex/invertex/index/HashSlots", "full", "(II)Z"⟩ : MethodName) prog_91_method_4_code 2 (some .boolean) :: ws) ({ frames := 0, cells := 0, slots := 0, locals := 0 } : Room)) (fun a U => a = #[(.int p1), (.int p2)] ∧ Z.Warmed39 U.vm ∧ U.heap = h0) (fun _ _ _ _ _ => True) (fun _ U o U' => ∃ v L, o = .returned v ∧ QI 1 h0 n0 v U'.heap L ∧ FrameEnd U o U' L ({ frames := 0, cells := 0, slots := 0, locals := 0 } : Room).cells ({ frames := 0, cells := 0, slots := 0, locals := 0 } : Room).slots) := by
  refine MetFree.of_bodySF (plainFor_of_name pn_1) hisR ?_
  intro p e s m args below meth c s₁ Bd hml0 hP hK
  obtain ⟨rfl, hZ, hh⟩ := hP
  have hx := Bd.exec
  have hby := Bd.bytes
  have hml : c.maxLocals = 2 := hml0
  have hown : s.vm.findClass "com/example/invertex/invertex/index/HashSlots" = some m.cls := findClass_of_methodNamed Bd.named
  have hnm := (name_of_methodNamed Bd.named Bd.method).1
  have X0 : Stand p l e ({ frames := 0, cells := 0, slots := 0, locals := 0 } : Room) s m #[(.int p1), (.int p2)] below meth c s₁ [] 0 0 := Stand.of_body Bd
  have e0 : s₁.heap = h0 := by rw [← hh, Bd.state]; rfl
  have N0 := Fr.nil n0
  have pre0 : ∀ t, Steps p.tables e below (s₁.setTop (mkF m 0 #[.val (.int p1), .val (.int p2)] [])) t → Steps p.tables e below (s₁.setTop (entryFrame m #[(.int p1), (.int p2)] 2)) t := fun t k => castTop (ef_1 m p1 p2) k
  obtain ⟨T4, X4, e4, st4⟩ := getS2 X0 hx hZ hown (host := "") (Or.inl (hw _ (List.mem_of_getElem? (i := 7) rfl))) Via.refl e0 S_LONGEST (g := (mkF m 1 #[.val (.int p1), .val (.int p2)] [(.int p2)])) rfl (hb hby d1_1)
  obtain ⟨fs, hr, hrun, hended, hW, hsame⟩ := X4.leave (v := some (.int (1 : Int32))) (fun h => by rw [Bd.returns] at h; cases h)
  refine ⟨_, _, pre0 _ ?_, hrun, hended, _, _, rfl, ?_, ⟨_, rfl⟩, hW, hsame.mono (by decide) (by decide)⟩
  · show Steps p.tables e below (s₁.setTop (mkF m 0 #[.val (.int p1), .val (.int p2)] [])) _
    refine XS.iloadN X0.here hx rfl (hb hby d1_0) rfl ?_
    show Steps p.tables e below (s₁.setTop (mkF m 1 #[.val (.int p1), .val (.int p2)] [(.int p2)])) _
    refine st4 _ ?_
    show Steps p.tables e below (T4.setTop (mkF m 4 #[.val (.int p1), .val (.int p2)] [(.int w3), (.int p2)])) _
    refine XS.icmpYes X4.here hx rfl (pc0 := 4) (pc' := 33) rfl (hb hby d1_4) rfl (feq hc4).2 (by decide) (by decide) ?_
    show Steps p.tables e below (T4.setTop (mkF m 33 #[.val (.int p1), .val (.int p2)] [])) _
    refine X4.ldc2Long hx hown (mvT hZ (hw _ (List.mem_of_getElem? (i := 9) rfl))) (g := (mkF m 33 #[.val (.int p1), .val (.int p2)] [])) rfl (hb hby d1_33) _ ?_
    show Steps p.tables e below (T4.setTop (mkF m 36 #[.val (.int p1), .val (.int p2)] [(.long (2 : Int64))])) _
    refine XS.iloadN X4.here hx rfl (hb hby d1_36) rfl ?_
    show Steps p.tables e below (T4.setTop (mkF m 37 #[.val (.int p1), .val (.int p2)] [(.int p1), (.long (2 : Int64))])) _
    refine XS.iconst X4.here hx rfl (hb hby d1_37) ?_
    show Steps p.tables e below (T4.setTop (mkF m 38 #[.val (.int p1), .val (.int p2)] [(.int (1 : Int32)), (.int p1), (.long (2 : Int64))])) _
    refine XS.iadd X4.here hx rfl (hb hby d1_38) rfl ?_
    show Steps p.tables e below (T4.setTop (mkF m 39 #[.val (.int p1), .val (.int p2)] [(.int (p1 + (1 : Int32))), (.long (2 : Int64))])) _
    refine XS.i2l X4.here hx rfl (hb hby d1_39) rfl ?_
    show Steps p.tables e below (T4.setTop (mkF m 40 #[.val (.int p1), .val (.int p2)] [(.long ((p1 + (1 : Int32)).toInt64)), (.long (2 : Int64))])) _
    refine XS.lmul X4.here hx rfl (hb hby d1_40) rfl ?_
    show Steps p.tables e below (T4.setTop (mkF m 41 #[.val (.int p1), .val (.int p2)] [(.long ((2 : Int64) * ((p1 + (1 : Int32)).toInt64)))])) _
    refine XS.iloadN X4.here hx rfl (hb hby d1_41) rfl ?_
    show Steps p.tables e below (T4.setTop (mkF m 42 #[.val (.int p1), .val (.int p2)] [(.int p2), (.long ((2 : Int64) * ((p1 + (1 : Int32)).toInt64)))])) _
    refine XS.i2l X4.here hx rfl (hb hby d1_42) rfl ?_
    show Steps p.tables e below (T4.setTop (mkF m 43 #[.val (.int p1), .val (.int p2)] [(.long (p2.toInt64)), (.long ((2 : Int64) * ((p1 + (1 : Int32)).toInt64)))])) _
    refine XS.lcmp X4.here hx rfl (hb hby d1_43) rfl ?_
    show Steps p.tables e below (T4.setTop (mkF m 44 #[.val (.int p1), .val (.int p2)] [(.int (lcmpW ((2 : Int64) * ((p1 + (1 : Int32)).toInt64)) (p2.toInt64)))])) _
    refine XS.ifNo X4.here hx rfl (hb hby d1_44) rfl ((if0 _ _).trans (tlt hc44).2.2.2) ?_
    show Steps p.tables e below (T4.setTop (mkF m 47 #[.val (.int p1), .val (.int p2)] [])) _
    refine XS.iconst X4.here hx rfl (hb hby d1_47) ?_
    show Steps p.tables e below (T4.setTop (mkF m 48 #[.val (.int p1), .val (.int p2)] [(.int (1 : Int32))])) _
    refine XS.goto X4.here hx rfl (pc0 := 48) (pc' := 52) rfl (hb hby d1_48) (by decide) (by decide) ?_
    show Steps p.tables e below (T4.setTop (mkF m 52 #[.val (.int p1), .val (.int p2)] [(.int (1 : Int32))])) _
    exact retN X4 hx (t := .boolean) Bd.returns (by simp) (hb hby d1_52) hr
  · show QI 1 h0 n0 _ T4.heap _
    rw [e4]
    exact ⟨rfl, N0, rfl⟩
set_option maxRecDepth 65536 in
set_option maxHeartbeats 40000000 in
theorem rm1tt (l : Launch) (Z : State) (a0 : Array Value) (hw : ∀ d ∈ tables_1, d.before a0 Z = true) (ws : List Jvm.Cond) (p1 : Int32) (p2 : Int32) (w3 : Int32) (h0 : Heap) (n0 : Nat) (Z0 : n0 ≤ h0.size) (S_LONGEST : Sta Z h0 "com/example/invertex/invertex/index/HashSlots" "LONGEST" "I" (.int w3)) (hc4 : ¬ (p2 = w3)) (hc44 : ¬ ((0 : Int32) < (lcmpW ((2 : Int64) * ((p1 + (1 : Int32)).toInt64)) (p2.toInt64)))) :
    MetFree l (⟨"com/example/invertex/invertex/index/HashSlots", "full", "(II)Z"⟩ : MethodName) (head1 (Jvm.Cond.code (⟨"com/example/invertex/invertex/index/HashSlots", "full", "(II)Z"⟩ : MethodName) prog_91_method_4_code 2 (some .boolean) :: ws) ({ frames := 0, cells := 0, slots := 0, locals := 0 } : Room)) (fun a U => a = #[(.int p1), (.int p2)] ∧ Z.Warmed39 U.vm ∧ U.heap = h0) (fun _ _ _ _ _ => True) (fun _ U o U' => ∃ v L, o = .returned v ∧ QI 0 h0 n0 v U'.heap L ∧ FrameEnd U o U' L ({ frames := 0, cells := 0, slots := 0, locals := 0 } : Room).cells ({ frames := 0, cells := 0, slots := 0, locals := 0 } : Room).slots) := by
  refine MetFree.of_bodySF (plainFor_of_name pn_1) hisR ?_
  intro p e s m args below meth c s₁ Bd hml0 hP hK
  obtain ⟨rfl, hZ, hh⟩ := hP
  have hx := Bd.exec
  have hby := Bd.bytes
  have hml : c.maxLocals = 2 := hml0
  have hown : s.vm.findClass "com/example/invertex/invertex/index/HashSlots" = some m.cls := findClass_of_methodNamed Bd.named
  have hnm := (name_of_methodNamed Bd.named Bd.method).1
  have X0 : Stand p l e ({ frames := 0, cells := 0, slots := 0, locals := 0 } : Room) s m #[(.int p1), (.int p2)] below meth c s₁ [] 0 0 := Stand.of_body Bd
  have e0 : s₁.heap = h0 := by rw [← hh, Bd.state]; rfl
  have N0 := Fr.nil n0
  have pre0 : ∀ t, Steps p.tables e below (s₁.setTop (mkF m 0 #[.val (.int p1), .val (.int p2)] [])) t → Steps p.tables e below (s₁.setTop (entryFrame m #[(.int p1), (.int p2)] 2)) t := fun t k => castTop (ef_1 m p1 p2) k
  obtain ⟨T4, X4, e4, st4⟩ := getS2 X0 hx hZ hown (host := "") (Or.inl (hw _ (List.mem_of_getElem? (i := 7) rfl))) Via.refl e0 S_LONGEST (g := (mkF m 1 #[.val (.int p1), .val (.int p2)] [(.int p2)])) rfl (hb hby d1_1)
  obtain ⟨fs, hr, hrun, hended, hW, hsame⟩ := X4.leave (v := some (.int (0 : Int32))) (fun h => by rw [Bd.returns] at h; cases h)
  refine ⟨_, _, pre0 _ ?_, hrun, hended, _, _, rfl, ?_, ⟨_, rfl⟩, hW, hsame.mono (by decide) (by decide)⟩
  · show Steps p.tables e below (s₁.setTop (mkF m 0 #[.val (.int p1), .val (.int p2)] [])) _
    refine XS.iloadN X0.here hx rfl (hb hby d1_0) rfl ?_
    show Steps p.tables e below (s₁.setTop (mkF m 1 #[.val (.int p1), .val (.int p2)] [(.int p2)])) _
    refine st4 _ ?_
    show Steps p.tables e below (T4.setTop (mkF m 4 #[.val (.int p1), .val (.int p2)] [(.int w3), (.int p2)])) _
    refine XS.icmpYes X4.here hx rfl (pc0 := 4) (pc' := 33) rfl (hb hby d1_4) rfl (feq hc4).2 (by decide) (by decide) ?_
    show Steps p.tables e below (T4.setTop (mkF m 33 #[.val (.int p1), .val (.int p2)] [])) _
    refine X4.ldc2Long hx hown (mvT hZ (hw _ (List.mem_of_getElem? (i := 9) rfl))) (g := (mkF m 33 #[.val (.int p1), .val (.int p2)] [])) rfl (hb hby d1_33) _ ?_
    show Steps p.tables e below (T4.setTop (mkF m 36 #[.val (.int p1), .val (.int p2)] [(.long (2 : Int64))])) _
    refine XS.iloadN X4.here hx rfl (hb hby d1_36) rfl ?_
    show Steps p.tables e below (T4.setTop (mkF m 37 #[.val (.int p1), .val (.int p2)] [(.int p1), (.long (2 : Int64))])) _
    refine XS.iconst X4.here hx rfl (hb hby d1_37) ?_
    show Steps p.tables e below (T4.setTop (mkF m 38 #[.val (.int p1), .val (.int p2)] [(.int (1 : Int32)), (.int p1), (.long (2 : Int64))])) _
    refine XS.iadd X4.here hx rfl (hb hby d1_38) rfl ?_
    show Steps p.tables e below (T4.setTop (mkF m 39 #[.val (.int p1), .val (.int p2)] [(.int (p1 + (1 : Int32))), (.long (2 : Int64))])) _
    refine XS.i2l X4.here hx rfl (hb hby d1_39) rfl ?_
    show Steps p.tables e below (T4.setTop (mkF m 40 #[.val (.int p1), .val (.int p2)] [(.long ((p1 + (1 : Int32)).toInt64)), (.long (2 : Int64))])) _
    refine XS.lmul X4.here hx rfl (hb hby d1_40) rfl ?_
    show Steps p.tables e below (T4.setTop (mkF m 41 #[.val (.int p1), .val (.int p2)] [(.long ((2 : Int64) * ((p1 + (1 : Int32)).toInt64)))])) _
    refine XS.iloadN X4.here hx rfl (hb hby d1_41) rfl ?_
    show Steps p.tables e below (T4.setTop (mkF m 42 #[.val (.int p1), .val (.int p2)] [(.int p2), (.long ((2 : Int64) * ((p1 + (1 : Int32)).toInt64)))])) _
    refine XS.i2l X4.here hx rfl (hb hby d1_42) rfl ?_
    show Steps p.tables e below (T4.setTop (mkF m 43 #[.val (.int p1), .val (.int p2)] [(.long (p2.toInt64)), (.long ((2 : Int64) * ((p1 + (1 : Int32)).toInt64)))])) _
    refine XS.lcmp X4.here hx rfl (hb hby d1_43) rfl ?_
    show Steps p.tables e below (T4.setTop (mkF m 44 #[.val (.int p1), .val (.int p2)] [(.int (lcmpW ((2 : Int64) * ((p1 + (1 : Int32)).toInt64)) (p2.toInt64)))])) _
    refine XS.ifYes X4.here hx rfl (pc0 := 44) (pc' := 51) rfl (hb hby d1_44) rfl ((if0 _ _).trans (flt hc44).2.2.2) (by decide) (by decide) ?_
    show Steps p.tables e below (T4.setTop (mkF m 51 #[.val (.int p1), .val (.int p2)] [])) _
    refine XS.iconst X4.here hx rfl (hb hby d1_51) ?_
    show Steps p.tables e below (T4.setTop (mkF m 52 #[.val (.int p1), .val (.int p2)] [(.int (0 : Int32))])) _
    exact retN X4 hx (t := .boolean) Bd.returns (by simp) (hb hby d1_52) hr
  · show QI 0 h0 n0 _ T4.heap _
    rw [e4]
    exact ⟨rfl, N0, rfl⟩
set_option maxRecDepth 65536 in
set_option maxHeartbeats 40000000 in
theorem rm2t (l : Launch) (Z : State) (a0 : Array Value) (hw : ∀ d ∈ tables_1, d.before a0 Z = true) (ws : List Jvm.Cond) (p1 : Int32) (p2 : Int32) (h0 : Heap) (n0 : Nat) (Z0 : n0 ≤ h0.size) (hc2 : p1 < p2) :
    MetFree l (⟨"java/lang/Math", "max", "(II)I"⟩ : MethodName) (head1 (Jvm.Cond.code (⟨"java/lang/Math", "max", "(II)I"⟩ : MethodName) jdk_29_method_65_code 2 (some .int) :: ws) ({ frames := 0, cells := 0, slots := 0, locals := 0 } : Room)) (fun a U => a = #[(.int p1), (.int p2)] ∧ Z.Warmed39 U.vm ∧ U.heap = h0) (fun _ _ _ _ _ => True) (fun _ U o U' => ∃ v L, o = .returned v ∧ QI p2 h0 n0 v U'.heap L ∧ FrameEnd U o U' L ({ frames := 0, cells := 0, slots := 0, locals := 0 } : Room).cells ({ frames := 0, cells := 0, slots := 0, locals := 0 } : Room).slots) := by
  refine MetFree.of_bodySF (Jvm.Free.JP.mathPlain rfl (by decide +kernel)) hisR ?_
  intro p e s m args below meth c s₁ Bd hml0 hP hK
  obtain ⟨rfl, hZ, hh⟩ := hP
  have hx := Bd.exec
  have hby := Bd.bytes
  have hml : c.maxLocals = 2 := hml0
  have hown : s.vm.findClass "java/lang/Math" = some m.cls := findClass_of_methodNamed Bd.named
  have hnm := (name_of_methodNamed Bd.named Bd.method).1
  have X0 : Stand p l e ({ frames := 0, cells := 0, slots := 0, locals := 0 } : Room) s m #[(.int p1), (.int p2)] below meth c s₁ [] 0 0 := Stand.of_body Bd
  have e0 : s₁.heap = h0 := by rw [← hh, Bd.state]; rfl
  have N0 := Fr.nil n0
  have pre0 : ∀ t, Steps p.tables e below (s₁.setTop (mkF m 0 #[.val (.int p1), .val (.int p2)] [])) t → Steps p.tables e below (s₁.setTop (entryFrame m #[(.int p1), (.int p2)] 2)) t := fun t k => castTop (ef_2 m p1 p2) k

  obtain ⟨fs, hr, hrun, hended, hW, hsame⟩ := X0.leave (v := some (.int p2)) (fun h => by rw [Bd.returns] at h; cases h)
  refine ⟨_, _, pre0 _ ?_, hrun, hended, _, _, rfl, ?_, ⟨_, rfl⟩, hW, hsame.mono (by decide) (by decide)⟩
  · show Steps p.tables e below (s₁.setTop (mkF m 0 #[.val (.int p1), .val (.int p2)] [])) _
    refine XS.iloadN X0.here hx rfl (hb hby d2_0) rfl ?_
    show Steps p.tables e below (s₁.setTop (mkF m 1 #[.val (.int p1), .val (.int p2)] [(.int p1)])) _
    refine XS.iloadN X0.here hx rfl (hb hby d2_1) rfl ?_
    show Steps p.tables e below (s₁.setTop (mkF m 2 #[.val (.int p1), .val (.int p2)] [(.int p2), (.int p1)])) _
    refine XS.icmpYes X0.here hx rfl (pc0 := 2) (pc' := 9) rfl (hb hby d2_2) rfl (tlt hc2).1 (by decide) (by decide) ?_
    show Steps p.tables e below (s₁.setTop (mkF m 9 #[.val (.int p1), .val (.int p2)] [])) _
    refine XS.iloadN X0.here hx rfl (hb hby d2_9) rfl ?_
    show Steps p.tables e below (s₁.setTop (mkF m 10 #[.val (.int p1), .val (.int p2)] [(.int p2)])) _
    exact retI X0 hx Bd.returns (hb hby d2_10) hr      -- retI stands in the head ('lawwalk <made dir>' prints it)
  · show QI p2 h0 n0 _ s₁.heap _
    rw [e0]
    exact ⟨rfl, N0, rfl⟩
set_option maxRecDepth 65536 in
set_option maxHeartbeats 40000000 in
theorem rm2f (l : Launch) (Z : State) (a0 : Array Value) (hw : ∀ d ∈ tables_1, d.before a0 Z = true) (ws : List Jvm.Cond) (p1 : Int32) (p2 : Int32) (h0 : Heap) (n0 : Nat) (Z0 : n0 ≤ h0.size) (hc2 : ¬ (p1 < p2)) :
    MetFree l (⟨"java/lang/Math", "max", "(II)I"⟩ : MethodName) (head1 (Jvm.Cond.code (⟨"java/lang/Math", "max", "(II)I"⟩ : MethodName) jdk_29_method_65_code 2 (some .int) :: ws) ({ frames := 0, cells := 0, slots := 0, locals := 0 } : Room)) (fun a U => a = #[(.int p1), (.int p2)] ∧ Z.Warmed39 U.vm ∧ U.heap = h0) (fun _ _ _ _ _ => True) (fun _ U o U' => ∃ v L, o = .returned v ∧ QI p1 h0 n0 v U'.heap L ∧ FrameEnd U o U' L ({ frames := 0, cells := 0, slots := 0, locals := 0 } : Room).cells ({ frames := 0, cells := 0, slots := 0, locals := 0 } : Room).slots) := by
  refine MetFree.of_bodySF (Jvm.Free.JP.mathPlain rfl (by decide +kernel)) hisR ?_
  intro p e s m args below meth c s₁ Bd hml0 hP hK
  obtain ⟨rfl, hZ, hh⟩ := hP
  have hx := Bd.exec
  have hby := Bd.bytes
  have hml : c.maxLocals = 2 := hml0
  have hown : s.vm.findClass "java/lang/Math" = some m.cls := findClass_of_methodNamed Bd.named
  have hnm := (name_of_methodNamed Bd.named Bd.method).1
  have X0 : Stand p l e ({ frames := 0, cells := 0, slots := 0, locals := 0 } : Room) s m #[(.int p1), (.int p2)] below meth c s₁ [] 0 0 := Stand.of_body Bd
  have e0 : s₁.heap = h0 := by rw [← hh, Bd.state]; rfl
  have N0 := Fr.nil n0
  have pre0 : ∀ t, Steps p.tables e below (s₁.setTop (mkF m 0 #[.val (.int p1), .val (.int p2)] [])) t → Steps p.tables e below (s₁.setTop (entryFrame m #[(.int p1), (.int p2)] 2)) t := fun t k => castTop (ef_2 m p1 p2) k

  obtain ⟨fs, hr, hrun, hended, hW, hsame⟩ := X0.leave (v := some (.int p1)) (fun h => by rw [Bd.returns] at h; cases h)
  refine ⟨_, _, pre0 _ ?_, hrun, hended, _, _, rfl, ?_, ⟨_, rfl⟩, hW, hsame.mono (by decide) (by decide)⟩
  · show Steps p.tables e below (s₁.setTop (mkF m 0 #[.val (.int p1), .val (.int p2)] [])) _
    refine XS.iloadN X0.here hx rfl (hb hby d2_0) rfl ?_
    show Steps p.tables e below (s₁.setTop (mkF m 1 #[.val (.int p1), .val (.int p2)] [(.int p1)])) _
    refine XS.iloadN X0.here hx rfl (hb hby d2_1) rfl ?_
    show Steps p.tables e below (s₁.setTop (mkF m 2 #[.val (.int p1), .val (.int p2)] [(.int p2), (.int p1)])) _
    refine XS.icmpNo X0.here hx rfl (hb hby d2_2) rfl (flt hc2).1 ?_
    show Steps p.tables e below (s₁.setTop (mkF m 5 #[.val (.int p1), .val (.int p2)] [])) _
    refine XS.iloadN X0.here hx rfl (hb hby d2_5) rfl ?_
    show Steps p.tables e below (s₁.setTop (mkF m 6 #[.val (.int p1), .val (.int p2)] [(.int p1)])) _
    refine XS.goto X0.here hx rfl (pc0 := 6) (pc' := 10) rfl (hb hby d2_6) (by decide) (by decide) ?_
    show Steps p.tables e below (s₁.setTop (mkF m 10 #[.val (.int p1), .val (.int p2)] [(.int p1)])) _
    exact retI X0 hx Bd.returns (hb hby d2_10) hr      -- retI stands in the head ('lawwalk <made dir>' prints it)
  · show QI p1 h0 n0 _ s₁.heap _
    rw [e0]
    exact ⟨rfl, N0, rfl⟩
theorem rm1 (l : Launch) (Z : State) (a0 : Array Value) (hw : ∀ d ∈ tables_1, d.before a0 Z = true) (ws : List Jvm.Cond) (p1 : Int32) (p2 : Int32) (h0 : Heap) (n0 : Nat) (Z0 : n0 ≤ h0.size) (S_LONGEST : Sta Z h0 "com/example/invertex/invertex/index/HashSlots" "LONGEST" "I" (.int (2147483644 : Int32))) :
    MetFree l (⟨"com/example/invertex/invertex/index/HashSlots", "full", "(II)Z"⟩ : MethodName) (head1 (Jvm.Cond.code (⟨"com/example/invertex/invertex/index/HashSlots", "full", "(II)Z"⟩ : MethodName) prog_91_method_4_code 2 (some .boolean) :: ws) ({ frames := 0, cells := 0, slots := 0, locals := 0 } : Room)) (fun a U => a = #[(.int p1), (.int p2)] ∧ Z.Warmed39 U.vm ∧ U.heap = h0) (fun _ _ _ _ _ => True) (fun _ U o U' => ∃ v L, o = .returned v ∧ QI (fullV p1 p2) h0 n0 v U'.heap L ∧ FrameEnd U o U' L ({ frames := 0, cells := 0, slots := 0, locals := 0 } : Room).cells ({ frames := 0, cells := 0, slots := 0, locals := 0 } : Room).slots) := by
  unfold fullV
  by_cases q : p2 = (2147483644 : Int32)
  · rw [if_pos q]
    split
    · exact rm1ff l Z a0 hw ws p1 p2 _ h0 n0 Z0 S_LONGEST q (by assumption)
    · exact rm1ft l Z a0 hw ws p1 p2 _ h0 n0 Z0 S_LONGEST q (by assumption)
  · rw [if_neg q]
    split
    · exact rm1tf l Z a0 hw ws p1 p2 _ h0 n0 Z0 S_LONGEST q (by assumption)
    · exact rm1tt l Z a0 hw ws p1 p2 _ h0 n0 Z0 S_LONGEST q (by assumption)
theorem rm2 (l : Launch) (Z : State) (a0 : Array Value) (hw : ∀ d ∈ tables_1, d.before a0 Z = true) (ws : List Jvm.Cond) (p1 : Int32) (p2 : Int32) (h0 : Heap) (n0 : Nat) (Z0 : n0 ≤ h0.size) :
    MetFree l (⟨"java/lang/Math", "max", "(II)I"⟩ : MethodName) (head1 (Jvm.Cond.code (⟨"java/lang/Math", "max", "(II)I"⟩ : MethodName) jdk_29_method_65_code 2 (some .int) :: ws) ({ frames := 0, cells := 0, slots := 0, locals := 0 } : Room)) (fun a U => a = #[(.int p1), (.int p2)] ∧ Z.Warmed39 U.vm ∧ U.heap = h0) (fun _ _ _ _ _ => True) (fun _ U o U' => ∃ v L, o = .returned v ∧ QI (maxV p1 p2) h0 n0 v U'.heap L ∧ FrameEnd U o U' L ({ frames := 0, cells := 0, slots := 0, locals := 0 } : Room).cells ({ frames := 0, cells := 0, slots := 0, locals := 0 } : Room).slots) := by
  unfold maxV
  split
  · exact rm2t l Z a0 hw ws p1 p2 h0 n0 Z0 (by assumption)
  · exact rm2f l Z a0 hw ws p1 p2 h0 n0 Z0 (by assumption)
theorem pd_0_1 : parseMethodDescriptor "(II)I" = some ⟨[.int, .int], some .int⟩ := by decide +kernel
theorem pd_0_0 : parseMethodDescriptor "(II)Z" = some ⟨[.int, .int], some .boolean⟩ := by decide +kernel
theorem os0_2_tn0 {s0 : Slot} {s1 : Slot} {z2 : Value} {s3 : Slot} {s4 : Slot} {s5 : Slot} {s6 : Slot} {s7 : Slot} {s8 : Slot} {s9 : Slot} {v : Int32} (h : One s3) : storeLocals #[s0, s1, .val z2, s3, s4, s5, s6, s7, s8, s9] 3 (.int v) = some #[s0, s1, .val z2, .val (.int v), s4, s5, s6, s7, s8, s9] := by
  rcases h with rfl | ⟨w, rfl, hw⟩
  · rfl
  · cases w <;> first | rfl | (simp [Value.category] at hw)
theorem os0_5_tn0 {s0 : Slot} {s1 : Slot} {z2 : Value} {z3 : Value} {s4 : Slot} {s5 : Slot} {s6 : Slot} {s7 : Slot} {s8 : Slot} {s9 : Slot} {v : Int32} (h : One s4) : storeLocals #[s0, s1, .val z2, .val z3, s4, s5, s6, s7, s8, s9] 4 (.int v) = some #[s0, s1, .val z2, .val z3, .val (.int v), s5, s6, s7, s8, s9] := by
  rcases h with rfl | ⟨w, rfl, hw⟩
  · rfl
  · cases w <;> first | rfl | (simp [Value.category] at hw)
theorem os0_10_tn0 {s0 : Slot} {s1 : Slot} {z2 : Value} {z3 : Value} {z4 : Value} {s5 : Slot} {s6 : Slot} {s7 : Slot} {s8 : Slot} {s9 : Slot} {v : Int32} (h : One s5) : storeLocals #[s0, s1, .val z2, .val z3, .val z4, s5, s6, s7, s8, s9] 5 (.int v) = some #[s0, s1, .val z2, .val z3, .val z4, .val (.int v), s6, s7, s8, s9] := by
  rcases h with rfl | ⟨w, rfl, hw⟩
  · rfl
  · cases w <;> first | rfl | (simp [Value.category] at hw)
set_option maxRecDepth 65536 in
set_option maxHeartbeats 40000000 in
theorem tn0 {p : Program} {l : Launch} {e : Env} {R : Room} {s : State} {m : MethodId} {args : Array Value} {below : List Frame} {meth : Method} {c : Code} {T0 : State} {locs : List Loc} {cells slots : Nat} {Z : State} {a0 : Array Value} {h0 : Heap} (s0 : Slot) (s1 : Slot) (i2 : Int32) (s3 : Slot) (s4 : Slot) (s5 : Slot) (s6 : Slot) (s7 : Slot) (s8 : Slot) (s9 : Slot)
    (X0 : Stand p l e R s m args below meth c T0 locs cells slots) (hx : p.tables.exec = Jvm.exec) (hZ : Z.Warmed39 s.vm) (hw : ∀ d ∈ tables_1, d.before a0 Z = true) (hby : c.code = code) (hml : c.maxLocals = 10) (hown : s.vm.findClass "com/example/invertex/invertex/index/HashSlotsFullPinLaw" = some m.cls) (e0 : T0.heap = h0) (hs3 : One s3) (hs4 : One s4) (hs5 : One s5) :
    ∃ (T' : State), Stand p l e R s m args below meth c T' locs cells slots ∧ T'.heap = h0 ∧
      ∀ target, Steps p.tables e below (T'.setTop (mkF m 12 #[s0, s1, .val (.int i2), .val (.int (2147483644 : Int32)), .val (.int (1610612733 : Int32)), .val (.int (i2 &&& (3 : Int32))), s6, s7, s8, s9] [])) target → Steps p.tables e below (T0.setTop (mkF m 0 #[s0, s1, .val (.int i2), s3, s4, s5, s6, s7, s8, s9] [])) target := by

  refine ⟨T0, X0, e0, fun target kt => ?_⟩
  show Steps p.tables e below (T0.setTop (mkF m 0 #[s0, s1, .val (.int i2), s3, s4, s5, s6, s7, s8, s9] [])) _
  refine X0.ldcInt hx hown (mvT hZ (hw _ (List.mem_of_getElem? (i := 0) rfl))) (g := (mkF m 0 #[s0, s1, .val (.int i2), s3, s4, s5, s6, s7, s8, s9] [])) rfl (hb hby at_0) _ ?_
  show Steps p.tables e below (T0.setTop (mkF m 2 #[s0, s1, .val (.int i2), s3, s4, s5, s6, s7, s8, s9] [(.int (2147483644 : Int32))])) _
  refine XS.istoreN X0.here hx rfl (hb hby at_2) rfl (l' := #[s0, s1, .val (.int i2), .val (.int (2147483644 : Int32)), s4, s5, s6, s7, s8, s9]) (os0_2_tn0 hs3) ?_
  show Steps p.tables e below (T0.setTop (mkF m 3 #[s0, s1, .val (.int i2), .val (.int (2147483644 : Int32)), s4, s5, s6, s7, s8, s9] [])) _
  refine X0.ldcInt hx hown (mvT hZ (hw _ (List.mem_of_getElem? (i := 1) rfl))) (g := (mkF m 3 #[s0, s1, .val (.int i2), .val (.int (2147483644 : Int32)), s4, s5, s6, s7, s8, s9] [])) rfl (hb hby at_3) _ ?_
  show Steps p.tables e below (T0.setTop (mkF m 5 #[s0, s1, .val (.int i2), .val (.int (2147483644 : Int32)), s4, s5, s6, s7, s8, s9] [(.int (1610612733 : Int32))])) _
  refine XS.istore X0.here hx rfl (hb hby at_5) rfl (l' := #[s0, s1, .val (.int i2), .val (.int (2147483644 : Int32)), .val (.int (1610612733 : Int32)), s5, s6, s7, s8, s9]) (os0_5_tn0 hs4) ?_
  show Steps p.tables e below (T0.setTop (mkF m 7 #[s0, s1, .val (.int i2), .val (.int (2147483644 : Int32)), .val (.int (1610612733 : Int32)), s5, s6, s7, s8, s9] [])) _
  refine XS.iloadN X0.here hx rfl (hb hby at_7) rfl ?_
  show Steps p.tables e below (T0.setTop (mkF m 8 #[s0, s1, .val (.int i2), .val (.int (2147483644 : Int32)), .val (.int (1610612733 : Int32)), s5, s6, s7, s8, s9] [(.int i2)])) _
  refine XS.iconst X0.here hx rfl (hb hby at_8) ?_
  show Steps p.tables e below (T0.setTop (mkF m 9 #[s0, s1, .val (.int i2), .val (.int (2147483644 : Int32)), .val (.int (1610612733 : Int32)), s5, s6, s7, s8, s9] [(.int (3 : Int32)), (.int i2)])) _
  refine XS.iand X0.here hx rfl (hb hby at_9) rfl ?_
  show Steps p.tables e below (T0.setTop (mkF m 10 #[s0, s1, .val (.int i2), .val (.int (2147483644 : Int32)), .val (.int (1610612733 : Int32)), s5, s6, s7, s8, s9] [(.int (i2 &&& (3 : Int32)))])) _
  refine XS.istore X0.here hx rfl (hb hby at_10) rfl (l' := #[s0, s1, .val (.int i2), .val (.int (2147483644 : Int32)), .val (.int (1610612733 : Int32)), .val (.int (i2 &&& (3 : Int32))), s6, s7, s8, s9]) (os0_10_tn0 hs5) ?_
  exact kt
theorem os0_21_tAf {z0 : Value} {s1 : Slot} {s2 : Slot} {s3 : Slot} {s4 : Slot} {z5 : Value} {s6 : Slot} {s7 : Slot} {s8 : Slot} {s9 : Slot} {v : Int32} (h : One s6) : storeLocals #[.val z0, s1, s2, s3, s4, .val z5, s6, s7, s8, s9] 6 (.int v) = some #[.val z0, s1, s2, s3, s4, .val z5, .val (.int v), s7, s8, s9] := by
  rcases h with rfl | ⟨w, rfl, hw⟩
  · rfl
  · cases w <;> first | rfl | (simp [Value.category] at hw)
set_option maxRecDepth 65536 in
set_option maxHeartbeats 40000000 in
theorem tAf {p : Program} {l : Launch} {e : Env} {R : Room} {s : State} {m : MethodId} {args : Array Value} {below : List Frame} {meth : Method} {c : Code} {T0 : State} {locs : List Loc} {cells slots : Nat} {Z : State} {a0 : Array Value} {h0 : Heap} (i0 : Int32) (s1 : Slot) (s2 : Slot) (s3 : Slot) (s4 : Slot) (i5 : Int32) (s6 : Slot) (s7 : Slot) (s8 : Slot) (s9 : Slot)
    (X0 : Stand p l e R s m args below meth c T0 locs cells slots) (hx : p.tables.exec = Jvm.exec) (hZ : Z.Warmed39 s.vm) (hw : ∀ d ∈ tables_1, d.before a0 Z = true) (hby : c.code = code) (hml : c.maxLocals = 10) (hown : s.vm.findClass "com/example/invertex/invertex/index/HashSlotsFullPinLaw" = some m.cls) (e0 : T0.heap = h0) (hs6 : One s6) (hc14 : i5 = (0 : Int32)) :
    ∃ (T' : State), Stand p l e R s m args below meth c T' locs cells slots ∧ T'.heap = h0 ∧
      ∀ target, Steps p.tables e below (T'.setTop (mkF m 65 #[.val (.int i0), s1, s2, s3, s4, .val (.int i5), .val (.int (i0 &&& (2147483647 : Int32))), s7, s8, s9] [])) target → Steps p.tables e below (T0.setTop (mkF m 12 #[.val (.int i0), s1, s2, s3, s4, .val (.int i5), s6, s7, s8, s9] [])) target := by

  refine ⟨T0, X0, e0, fun target kt => ?_⟩
  show Steps p.tables e below (T0.setTop (mkF m 12 #[.val (.int i0), s1, s2, s3, s4, .val (.int i5), s6, s7, s8, s9] [])) _
  refine XS.iload X0.here hx rfl (hb hby at_12) rfl ?_
  show Steps p.tables e below (T0.setTop (mkF m 14 #[.val (.int i0), s1, s2, s3, s4, .val (.int i5), s6, s7, s8, s9] [(.int i5)])) _
  refine XS.ifNo X0.here hx rfl (hb hby at_14) rfl ((if0 _ _).trans (teq hc14).2) ?_
  show Steps p.tables e below (T0.setTop (mkF m 17 #[.val (.int i0), s1, s2, s3, s4, .val (.int i5), s6, s7, s8, s9] [])) _
  refine XS.iloadN X0.here hx rfl (hb hby at_17) rfl ?_
  show Steps p.tables e below (T0.setTop (mkF m 18 #[.val (.int i0), s1, s2, s3, s4, .val (.int i5), s6, s7, s8, s9] [(.int i0)])) _
  refine X0.ldcInt hx hown (mvT hZ (hw _ (List.mem_of_getElem? (i := 2) rfl))) (g := (mkF m 18 #[.val (.int i0), s1, s2, s3, s4, .val (.int i5), s6, s7, s8, s9] [(.int i0)])) rfl (hb hby at_18) _ ?_
  show Steps p.tables e below (T0.setTop (mkF m 20 #[.val (.int i0), s1, s2, s3, s4, .val (.int i5), s6, s7, s8, s9] [(.int (2147483647 : Int32)), (.int i0)])) _
  refine XS.iand X0.here hx rfl (hb hby at_20) rfl ?_
  show Steps p.tables e below (T0.setTop (mkF m 21 #[.val (.int i0), s1, s2, s3, s4, .val (.int i5), s6, s7, s8, s9] [(.int (i0 &&& (2147483647 : Int32)))])) _
  refine XS.istore X0.here hx rfl (hb hby at_21) rfl (l' := #[.val (.int i0), s1, s2, s3, s4, .val (.int i5), .val (.int (i0 &&& (2147483647 : Int32))), s7, s8, s9]) (os0_21_tAf hs6) ?_
  show Steps p.tables e below (T0.setTop (mkF m 23 #[.val (.int i0), s1, s2, s3, s4, .val (.int i5), .val (.int (i0 &&& (2147483647 : Int32))), s7, s8, s9] [])) _
  refine XS.goto X0.here hx rfl (pc0 := 23) (pc' := 65) rfl (hb hby at_23) (by decide) (by decide) ?_
  exact kt
theorem os0_33_tAtf {s0 : Slot} {s1 : Slot} {s2 : Slot} {z3 : Value} {s4 : Slot} {z5 : Value} {s6 : Slot} {s7 : Slot} {s8 : Slot} {s9 : Slot} {v : Int32} (h : One s6) : storeLocals #[s0, s1, s2, .val z3, s4, .val z5, s6, s7, s8, s9] 6 (.int v) = some #[s0, s1, s2, .val z3, s4, .val z5, .val (.int v), s7, s8, s9] := by
  rcases h with rfl | ⟨w, rfl, hw⟩
  · rfl
  · cases w <;> first | rfl | (simp [Value.category] at hw)
set_option maxRecDepth 65536 in
set_option maxHeartbeats 40000000 in
theorem tAtf {p : Program} {l : Launch} {e : Env} {R : Room} {s : State} {m : MethodId} {args : Array Value} {below : List Frame} {meth : Method} {c : Code} {T0 : State} {locs : List Loc} {cells slots : Nat} {Z : State} {a0 : Array Value} {h0 : Heap} (s0 : Slot) (s1 : Slot) (s2 : Slot) (i3 : Int32) (s4 : Slot) (i5 : Int32) (s6 : Slot) (s7 : Slot) (s8 : Slot) (s9 : Slot)
    (X0 : Stand p l e R s m args below meth c T0 locs cells slots) (hx : p.tables.exec = Jvm.exec) (hZ : Z.Warmed39 s.vm) (hw : ∀ d ∈ tables_1, d.before a0 Z = true) (hby : c.code = code) (hml : c.maxLocals = 10) (hown : s.vm.findClass "com/example/invertex/invertex/index/HashSlotsFullPinLaw" = some m.cls) (e0 : T0.heap = h0) (hs6 : One s6) (hc14 : ¬ (i5 = (0 : Int32))) (hc29 : i5 = (1 : Int32)) :
    ∃ (T' : State), Stand p l e R s m args below meth c T' locs cells slots ∧ T'.heap = h0 ∧
      ∀ target, Steps p.tables e below (T'.setTop (mkF m 65 #[s0, s1, s2, .val (.int i3), s4, .val (.int i5), .val (.int i3), s7, s8, s9] [])) target → Steps p.tables e below (T0.setTop (mkF m 12 #[s0, s1, s2, .val (.int i3), s4, .val (.int i5), s6, s7, s8, s9] [])) target := by

  refine ⟨T0, X0, e0, fun target kt => ?_⟩
  show Steps p.tables e below (T0.setTop (mkF m 12 #[s0, s1, s2, .val (.int i3), s4, .val (.int i5), s6, s7, s8, s9] [])) _
  refine XS.iload X0.here hx rfl (hb hby at_12) rfl ?_
  show Steps p.tables e below (T0.setTop (mkF m 14 #[s0, s1, s2, .val (.int i3), s4, .val (.int i5), s6, s7, s8, s9] [(.int i5)])) _
  refine XS.ifYes X0.here hx rfl (pc0 := 14) (pc' := 26) rfl (hb hby at_14) rfl ((if0 _ _).trans (feq hc14).2) (by decide) (by decide) ?_
  show Steps p.tables e below (T0.setTop (mkF m 26 #[s0, s1, s2, .val (.int i3), s4, .val (.int i5), s6, s7, s8, s9] [])) _
  refine XS.iload X0.here hx rfl (hb hby at_26) rfl ?_
  show Steps p.tables e below (T0.setTop (mkF m 28 #[s0, s1, s2, .val (.int i3), s4, .val (.int i5), s6, s7, s8, s9] [(.int i5)])) _
  refine XS.iconst X0.here hx rfl (hb hby at_28) ?_
  show Steps p.tables e below (T0.setTop (mkF m 29 #[s0, s1, s2, .val (.int i3), s4, .val (.int i5), s6, s7, s8, s9] [(.int (1 : Int32)), (.int i5)])) _
  refine XS.icmpNo X0.here hx rfl (hb hby at_29) rfl (teq hc29).2 ?_
  show Steps p.tables e below (T0.setTop (mkF m 32 #[s0, s1, s2, .val (.int i3), s4, .val (.int i5), s6, s7, s8, s9] [])) _
  refine XS.iloadN X0.here hx rfl (hb hby at_32) rfl ?_
  show Steps p.tables e below (T0.setTop (mkF m 33 #[s0, s1, s2, .val (.int i3), s4, .val (.int i5), s6, s7, s8, s9] [(.int i3)])) _
  refine XS.istore X0.here hx rfl (hb hby at_33) rfl (l' := #[s0, s1, s2, .val (.int i3), s4, .val (.int i5), .val (.int i3), s7, s8, s9]) (os0_33_tAtf hs6) ?_
  show Steps p.tables e below (T0.setTop (mkF m 35 #[s0, s1, s2, .val (.int i3), s4, .val (.int i5), .val (.int i3), s7, s8, s9] [])) _
  refine XS.goto X0.here hx rfl (pc0 := 35) (pc' := 65) rfl (hb hby at_35) (by decide) (by decide) ?_
  exact kt
theorem os0_53_tAttf {s0 : Slot} {s1 : Slot} {z2 : Value} {z3 : Value} {s4 : Slot} {z5 : Value} {s6 : Slot} {s7 : Slot} {s8 : Slot} {s9 : Slot} {v : Int32} (h : One s6) : storeLocals #[s0, s1, .val z2, .val z3, s4, .val z5, s6, s7, s8, s9] 6 (.int v) = some #[s0, s1, .val z2, .val z3, s4, .val z5, .val (.int v), s7, s8, s9] := by
  rcases h with rfl | ⟨w, rfl, hw⟩
  · rfl
  · cases w <;> first | rfl | (simp [Value.category] at hw)
set_option maxRecDepth 65536 in
set_option maxHeartbeats 40000000 in
theorem tAttf {p : Program} {l : Launch} {e : Env} {R : Room} {s : State} {m : MethodId} {args : Array Value} {below : List Frame} {meth : Method} {c : Code} {T0 : State} {locs : List Loc} {cells slots : Nat} {Z : State} {a0 : Array Value} {h0 : Heap} (s0 : Slot) (s1 : Slot) (i2 : Int32) (i3 : Int32) (s4 : Slot) (i5 : Int32) (s6 : Slot) (s7 : Slot) (s8 : Slot) (s9 : Slot)
    (X0 : Stand p l e R s m args below meth c T0 locs cells slots) (hx : p.tables.exec = Jvm.exec) (hZ : Z.Warmed39 s.vm) (hw : ∀ d ∈ tables_1, d.before a0 Z = true) (hby : c.code = code) (hml : c.maxLocals = 10) (hown : s.vm.findClass "com/example/invertex/invertex/index/HashSlotsFullPinLaw" = some m.cls) (e0 : T0.heap = h0) (hs6 : One s6) (hc14 : ¬ (i5 = (0 : Int32))) (hc29 : ¬ (i5 = (1 : Int32))) (hc41 : i5 = (2 : Int32)) :
    ∃ (T' : State), Stand p l e R s m args below meth c T' locs cells slots ∧ T'.heap = h0 ∧
      ∀ target, Steps p.tables e below (T'.setTop (mkF m 65 #[s0, s1, .val (.int i2), .val (.int i3), s4, .val (.int i5), .val (.int ((i3 - (1 : Int32)) + (((i2.toUInt32 >>> ((2 : Int32) &&& 31).toUInt32).toInt32) &&& (3 : Int32)))), s7, s8, s9] [])) target → Steps p.tables e below (T0.setTop (mkF m 12 #[s0, s1, .val (.int i2), .val (.int i3), s4, .val (.int i5), s6, s7, s8, s9] [])) target := by

  refine ⟨T0, X0, e0, fun target kt => ?_⟩
  show Steps p.tables e below (T0.setTop (mkF m 12 #[s0, s1, .val (.int i2), .val (.int i3), s4, .val (.int i5), s6, s7, s8, s9] [])) _
  refine XS.iload X0.here hx rfl (hb hby at_12) rfl ?_
  show Steps p.tables e below (T0.setTop (mkF m 14 #[s0, s1, .val (.int i2), .val (.int i3), s4, .val (.int i5), s6, s7, s8, s9] [(.int i5)])) _
  refine XS.ifYes X0.here hx rfl (pc0 := 14) (pc' := 26) rfl (hb hby at_14) rfl ((if0 _ _).trans (feq hc14).2) (by decide) (by decide) ?_
  show Steps p.tables e below (T0.setTop (mkF m 26 #[s0, s1, .val (.int i2), .val (.int i3), s4, .val (.int i5), s6, s7, s8, s9] [])) _
  refine XS.iload X0.here hx rfl (hb hby at_26) rfl ?_
  show Steps p.tables e below (T0.setTop (mkF m 28 #[s0, s1, .val (.int i2), .val (.int i3), s4, .val (.int i5), s6, s7, s8, s9] [(.int i5)])) _
  refine XS.iconst X0.here hx rfl (hb hby at_28) ?_
  show Steps p.tables e below (T0.setTop (mkF m 29 #[s0, s1, .val (.int i2), .val (.int i3), s4, .val (.int i5), s6, s7, s8, s9] [(.int (1 : Int32)), (.int i5)])) _
  refine XS.icmpYes X0.here hx rfl (pc0 := 29) (pc' := 38) rfl (hb hby at_29) rfl (feq hc29).2 (by decide) (by decide) ?_
  show Steps p.tables e below (T0.setTop (mkF m 38 #[s0, s1, .val (.int i2), .val (.int i3), s4, .val (.int i5), s6, s7, s8, s9] [])) _
  refine XS.iload X0.here hx rfl (hb hby at_38) rfl ?_
  show Steps p.tables e below (T0.setTop (mkF m 40 #[s0, s1, .val (.int i2), .val (.int i3), s4, .val (.int i5), s6, s7, s8, s9] [(.int i5)])) _
  refine XS.iconst X0.here hx rfl (hb hby at_40) ?_
  show Steps p.tables e below (T0.setTop (mkF m 41 #[s0, s1, .val (.int i2), .val (.int i3), s4, .val (.int i5), s6, s7, s8, s9] [(.int (2 : Int32)), (.int i5)])) _
  refine XS.icmpNo X0.here hx rfl (hb hby at_41) rfl (teq hc41).2 ?_
  show Steps p.tables e below (T0.setTop (mkF m 44 #[s0, s1, .val (.int i2), .val (.int i3), s4, .val (.int i5), s6, s7, s8, s9] [])) _
  refine XS.iloadN X0.here hx rfl (hb hby at_44) rfl ?_
  show Steps p.tables e below (T0.setTop (mkF m 45 #[s0, s1, .val (.int i2), .val (.int i3), s4, .val (.int i5), s6, s7, s8, s9] [(.int i3)])) _
  refine XS.iconst X0.here hx rfl (hb hby at_45) ?_
  show Steps p.tables e below (T0.setTop (mkF m 46 #[s0, s1, .val (.int i2), .val (.int i3), s4, .val (.int i5), s6, s7, s8, s9] [(.int (1 : Int32)), (.int i3)])) _
  refine XS.isub X0.here hx rfl (hb hby at_46) rfl ?_
  show Steps p.tables e below (T0.setTop (mkF m 47 #[s0, s1, .val (.int i2), .val (.int i3), s4, .val (.int i5), s6, s7, s8, s9] [(.int (i3 - (1 : Int32)))])) _
  refine XS.iloadN X0.here hx rfl (hb hby at_47) rfl ?_
  show Steps p.tables e below (T0.setTop (mkF m 48 #[s0, s1, .val (.int i2), .val (.int i3), s4, .val (.int i5), s6, s7, s8, s9] [(.int i2), (.int (i3 - (1 : Int32)))])) _
  refine XS.iconst X0.here hx rfl (hb hby at_48) ?_
  show Steps p.tables e below (T0.setTop (mkF m 49 #[s0, s1, .val (.int i2), .val (.int i3), s4, .val (.int i5), s6, s7, s8, s9] [(.int (2 : Int32)), (.int i2), (.int (i3 - (1 : Int32)))])) _
  refine XS.iushr X0.here hx rfl (hb hby at_49) rfl ?_
  show Steps p.tables e below (T0.setTop (mkF m 50 #[s0, s1, .val (.int i2), .val (.int i3), s4, .val (.int i5), s6, s7, s8, s9] [(.int ((i2.toUInt32 >>> ((2 : Int32) &&& 31).toUInt32).toInt32)), (.int (i3 - (1 : Int32)))])) _
  refine XS.iconst X0.here hx rfl (hb hby at_50) ?_
  show Steps p.tables e below (T0.setTop (mkF m 51 #[s0, s1, .val (.int i2), .val (.int i3), s4, .val (.int i5), s6, s7, s8, s9] [(.int (3 : Int32)), (.int ((i2.toUInt32 >>> ((2 : Int32) &&& 31).toUInt32).toInt32)), (.int (i3 - (1 : Int32)))])) _
  refine XS.iand X0.here hx rfl (hb hby at_51) rfl ?_
  show Steps p.tables e below (T0.setTop (mkF m 52 #[s0, s1, .val (.int i2), .val (.int i3), s4, .val (.int i5), s6, s7, s8, s9] [(.int (((i2.toUInt32 >>> ((2 : Int32) &&& 31).toUInt32).toInt32) &&& (3 : Int32))), (.int (i3 - (1 : Int32)))])) _
  refine XS.iadd X0.here hx rfl (hb hby at_52) rfl ?_
  show Steps p.tables e below (T0.setTop (mkF m 53 #[s0, s1, .val (.int i2), .val (.int i3), s4, .val (.int i5), s6, s7, s8, s9] [(.int ((i3 - (1 : Int32)) + (((i2.toUInt32 >>> ((2 : Int32) &&& 31).toUInt32).toInt32) &&& (3 : Int32))))])) _
  refine XS.istore X0.here hx rfl (hb hby at_53) rfl (l' := #[s0, s1, .val (.int i2), .val (.int i3), s4, .val (.int i5), .val (.int ((i3 - (1 : Int32)) + (((i2.toUInt32 >>> ((2 : Int32) &&& 31).toUInt32).toInt32) &&& (3 : Int32)))), s7, s8, s9]) (os0_53_tAttf hs6) ?_
  show Steps p.tables e below (T0.setTop (mkF m 55 #[s0, s1, .val (.int i2), .val (.int i3), s4, .val (.int i5), .val (.int ((i3 - (1 : Int32)) + (((i2.toUInt32 >>> ((2 : Int32) &&& 31).toUInt32).toInt32) &&& (3 : Int32)))), s7, s8, s9] [])) _
  refine XS.goto X0.here hx rfl (pc0 := 55) (pc' := 65) rfl (hb hby at_55) (by decide) (by decide) ?_
  exact kt
theorem os0_63_tAttt {z0 : Value} {s1 : Slot} {s2 : Slot} {s3 : Slot} {s4 : Slot} {z5 : Value} {s6 : Slot} {s7 : Slot} {s8 : Slot} {s9 : Slot} {v : Int32} (h : One s6) : storeLocals #[.val z0, s1, s2, s3, s4, .val z5, s6, s7, s8, s9] 6 (.int v) = some #[.val z0, s1, s2, s3, s4, .val z5, .val (.int v), s7, s8, s9] := by
  rcases h with rfl | ⟨w, rfl, hw⟩
  · rfl
  · cases w <;> first | rfl | (simp [Value.category] at hw)
set_option maxRecDepth 65536 in
set_option maxHeartbeats 40000000 in
theorem tAttt {p : Program} {l : Launch} {e : Env} {R : Room} {s : State} {m : MethodId} {args : Array Value} {below : List Frame} {meth : Method} {c : Code} {T0 : State} {locs : List Loc} {cells slots : Nat} {Z : State} {a0 : Array Value} {h0 : Heap} (i0 : Int32) (s1 : Slot) (s2 : Slot) (s3 : Slot) (s4 : Slot) (i5 : Int32) (s6 : Slot) (s7 : Slot) (s8 : Slot) (s9 : Slot)
    (X0 : Stand p l e R s m args below meth c T0 locs cells slots) (hx : p.tables.exec = Jvm.exec) (hZ : Z.Warmed39 s.vm) (hw : ∀ d ∈ tables_1, d.before a0 Z = true) (hby : c.code = code) (hml : c.maxLocals = 10) (hown : s.vm.findClass "com/example/invertex/invertex/index/HashSlotsFullPinLaw" = some m.cls) (e0 : T0.heap = h0) (hs6 : One s6) (hc14 : ¬ (i5 = (0 : Int32))) (hc29 : ¬ (i5 = (1 : Int32))) (hc41 : ¬ (i5 = (2 : Int32))) :
    ∃ (T' : State), Stand p l e R s m args below meth c T' locs cells slots ∧ T'.heap = h0 ∧
      ∀ target, Steps p.tables e below (T'.setTop (mkF m 65 #[.val (.int i0), s1, s2, s3, s4, .val (.int i5), .val (.int (i0 &&& (255 : Int32))), s7, s8, s9] [])) target → Steps p.tables e below (T0.setTop (mkF m 12 #[.val (.int i0), s1, s2, s3, s4, .val (.int i5), s6, s7, s8, s9] [])) target := by

  refine ⟨T0, X0, e0, fun target kt => ?_⟩
  show Steps p.tables e below (T0.setTop (mkF m 12 #[.val (.int i0), s1, s2, s3, s4, .val (.int i5), s6, s7, s8, s9] [])) _
  refine XS.iload X0.here hx rfl (hb hby at_12) rfl ?_
  show Steps p.tables e below (T0.setTop (mkF m 14 #[.val (.int i0), s1, s2, s3, s4, .val (.int i5), s6, s7, s8, s9] [(.int i5)])) _
  refine XS.ifYes X0.here hx rfl (pc0 := 14) (pc' := 26) rfl (hb hby at_14) rfl ((if0 _ _).trans (feq hc14).2) (by decide) (by decide) ?_
  show Steps p.tables e below (T0.setTop (mkF m 26 #[.val (.int i0), s1, s2, s3, s4, .val (.int i5), s6, s7, s8, s9] [])) _
  refine XS.iload X0.here hx rfl (hb hby at_26) rfl ?_
  show Steps p.tables e below (T0.setTop (mkF m 28 #[.val (.int i0), s1, s2, s3, s4, .val (.int i5), s6, s7, s8, s9] [(.int i5)])) _
  refine XS.iconst X0.here hx rfl (hb hby at_28) ?_
  show Steps p.tables e below (T0.setTop (mkF m 29 #[.val (.int i0), s1, s2, s3, s4, .val (.int i5), s6, s7, s8, s9] [(.int (1 : Int32)), (.int i5)])) _
  refine XS.icmpYes X0.here hx rfl (pc0 := 29) (pc' := 38) rfl (hb hby at_29) rfl (feq hc29).2 (by decide) (by decide) ?_
  show Steps p.tables e below (T0.setTop (mkF m 38 #[.val (.int i0), s1, s2, s3, s4, .val (.int i5), s6, s7, s8, s9] [])) _
  refine XS.iload X0.here hx rfl (hb hby at_38) rfl ?_
  show Steps p.tables e below (T0.setTop (mkF m 40 #[.val (.int i0), s1, s2, s3, s4, .val (.int i5), s6, s7, s8, s9] [(.int i5)])) _
  refine XS.iconst X0.here hx rfl (hb hby at_40) ?_
  show Steps p.tables e below (T0.setTop (mkF m 41 #[.val (.int i0), s1, s2, s3, s4, .val (.int i5), s6, s7, s8, s9] [(.int (2 : Int32)), (.int i5)])) _
  refine XS.icmpYes X0.here hx rfl (pc0 := 41) (pc' := 58) rfl (hb hby at_41) rfl (feq hc41).2 (by decide) (by decide) ?_
  show Steps p.tables e below (T0.setTop (mkF m 58 #[.val (.int i0), s1, s2, s3, s4, .val (.int i5), s6, s7, s8, s9] [])) _
  refine XS.iloadN X0.here hx rfl (hb hby at_58) rfl ?_
  show Steps p.tables e below (T0.setTop (mkF m 59 #[.val (.int i0), s1, s2, s3, s4, .val (.int i5), s6, s7, s8, s9] [(.int i0)])) _
  refine XS.sipush X0.here hx rfl (hb hby at_59) ?_
  show Steps p.tables e below (T0.setTop (mkF m 62 #[.val (.int i0), s1, s2, s3, s4, .val (.int i5), s6, s7, s8, s9] [(.int (255 : Int32)), (.int i0)])) _
  refine XS.iand X0.here hx rfl (hb hby at_62) rfl ?_
  show Steps p.tables e below (T0.setTop (mkF m 63 #[.val (.int i0), s1, s2, s3, s4, .val (.int i5), s6, s7, s8, s9] [(.int (i0 &&& (255 : Int32)))])) _
  refine XS.istore X0.here hx rfl (hb hby at_63) rfl (l' := #[.val (.int i0), s1, s2, s3, s4, .val (.int i5), .val (.int (i0 &&& (255 : Int32))), s7, s8, s9]) (os0_63_tAttt hs6) ?_
  exact kt
theorem os0_80_tBf {s0 : Slot} {s1 : Slot} {s2 : Slot} {z3 : Value} {z4 : Value} {s5 : Slot} {z6 : Value} {s7 : Slot} {s8 : Slot} {s9 : Slot} {v : Int32} (h : One s7) : storeLocals #[s0, s1, s2, .val z3, .val z4, s5, .val z6, s7, s8, s9] 7 (.int v) = some #[s0, s1, s2, .val z3, .val z4, s5, .val z6, .val (.int v), s8, s9] := by
  rcases h with rfl | ⟨w, rfl, hw⟩
  · rfl
  · cases w <;> first | rfl | (simp [Value.category] at hw)
set_option maxRecDepth 65536 in
set_option maxHeartbeats 40000000 in
theorem tBf {p : Program} {l : Launch} {e : Env} {R : Room} {s : State} {m : MethodId} {args : Array Value} {below : List Frame} {meth : Method} {c : Code} {T0 : State} {locs : List Loc} {cells slots : Nat} {Z : State} {a0 : Array Value} {h0 : Heap} (s0 : Slot) (s1 : Slot) (s2 : Slot) (i3 : Int32) (i4 : Int32) (s5 : Slot) (i6 : Int32) (s7 : Slot) (s8 : Slot) (s9 : Slot)
    (X0 : Stand p l e R s m args below meth c T0 locs cells slots) (hx : p.tables.exec = Jvm.exec) (hZ : Z.Warmed39 s.vm) (hw : ∀ d ∈ tables_1, d.before a0 Z = true) (hby : c.code = code) (hml : c.maxLocals = 10) (hown : s.vm.findClass "com/example/invertex/invertex/index/HashSlotsFullPinLaw" = some m.cls) (e0 : T0.heap = h0) (hs7 : One s7) (hc68 : i6 = i3) :
    ∃ (T' : State), Stand p l e R s m args below meth c T' locs cells slots ∧ T'.heap = h0 ∧
      ∀ target, Steps p.tables e below (T'.setTop (mkF m 82 #[s0, s1, s2, .val (.int i3), .val (.int i4), s5, .val (.int i6), .val (.int i4), s8, s9] [])) target → Steps p.tables e below (T0.setTop (mkF m 65 #[s0, s1, s2, .val (.int i3), .val (.int i4), s5, .val (.int i6), s7, s8, s9] [])) target := by

  refine ⟨T0, X0, e0, fun target kt => ?_⟩
  show Steps p.tables e below (T0.setTop (mkF m 65 #[s0, s1, s2, .val (.int i3), .val (.int i4), s5, .val (.int i6), s7, s8, s9] [])) _
  refine XS.iload X0.here hx rfl (hb hby at_65) rfl ?_
  show Steps p.tables e below (T0.setTop (mkF m 67 #[s0, s1, s2, .val (.int i3), .val (.int i4), s5, .val (.int i6), s7, s8, s9] [(.int i6)])) _
  refine XS.iloadN X0.here hx rfl (hb hby at_67) rfl ?_
  show Steps p.tables e below (T0.setTop (mkF m 68 #[s0, s1, s2, .val (.int i3), .val (.int i4), s5, .val (.int i6), s7, s8, s9] [(.int i3), (.int i6)])) _
  refine XS.icmpNo X0.here hx rfl (hb hby at_68) rfl (teq hc68).2 ?_
  show Steps p.tables e below (T0.setTop (mkF m 71 #[s0, s1, s2, .val (.int i3), .val (.int i4), s5, .val (.int i6), s7, s8, s9] [])) _
  refine XS.iload X0.here hx rfl (hb hby at_71) rfl ?_
  show Steps p.tables e below (T0.setTop (mkF m 73 #[s0, s1, s2, .val (.int i3), .val (.int i4), s5, .val (.int i6), s7, s8, s9] [(.int i4)])) _
  refine XS.goto X0.here hx rfl (pc0 := 73) (pc' := 80) rfl (hb hby at_73) (by decide) (by decide) ?_
  show Steps p.tables e below (T0.setTop (mkF m 80 #[s0, s1, s2, .val (.int i3), .val (.int i4), s5, .val (.int i6), s7, s8, s9] [(.int i4)])) _
  refine XS.istore X0.here hx rfl (hb hby at_80) rfl (l' := #[s0, s1, s2, .val (.int i3), .val (.int i4), s5, .val (.int i6), .val (.int i4), s8, s9]) (os0_80_tBf hs7) ?_
  exact kt
theorem os0_80_tBt {s0 : Slot} {s1 : Slot} {s2 : Slot} {z3 : Value} {s4 : Slot} {s5 : Slot} {z6 : Value} {s7 : Slot} {s8 : Slot} {s9 : Slot} {v : Int32} (h : One s7) : storeLocals #[s0, s1, s2, .val z3, s4, s5, .val z6, s7, s8, s9] 7 (.int v) = some #[s0, s1, s2, .val z3, s4, s5, .val z6, .val (.int v), s8, s9] := by
  rcases h with rfl | ⟨w, rfl, hw⟩
  · rfl
  · cases w <;> first | rfl | (simp [Value.category] at hw)
set_option maxRecDepth 65536 in
set_option maxHeartbeats 40000000 in
theorem tBt {p : Program} {l : Launch} {e : Env} {R : Room} {s : State} {m : MethodId} {args : Array Value} {below : List Frame} {meth : Method} {c : Code} {T0 : State} {locs : List Loc} {cells slots : Nat} {Z : State} {a0 : Array Value} {h0 : Heap} (s0 : Slot) (s1 : Slot) (s2 : Slot) (i3 : Int32) (s4 : Slot) (s5 : Slot) (i6 : Int32) (s7 : Slot) (s8 : Slot) (s9 : Slot)
    (X0 : Stand p l e R s m args below meth c T0 locs cells slots) (hx : p.tables.exec = Jvm.exec) (hZ : Z.Warmed39 s.vm) (hw : ∀ d ∈ tables_1, d.before a0 Z = true) (hby : c.code = code) (hml : c.maxLocals = 10) (hown : s.vm.findClass "com/example/invertex/invertex/index/HashSlotsFullPinLaw" = some m.cls) (e0 : T0.heap = h0) (hs7 : One s7) (hc68 : ¬ (i6 = i3)) (hnz79 : ¬ ((2 : Int32) = (0 : Int32))) :
    ∃ (T' : State), Stand p l e R s m args below meth c T' locs cells slots ∧ T'.heap = h0 ∧
      ∀ target, Steps p.tables e below (T'.setTop (mkF m 82 #[s0, s1, s2, .val (.int i3), s4, s5, .val (.int i6), .val (.int (i6 / (2 : Int32))), s8, s9] [])) target → Steps p.tables e below (T0.setTop (mkF m 65 #[s0, s1, s2, .val (.int i3), s4, s5, .val (.int i6), s7, s8, s9] [])) target := by

  refine ⟨T0, X0, e0, fun target kt => ?_⟩
  show Steps p.tables e below (T0.setTop (mkF m 65 #[s0, s1, s2, .val (.int i3), s4, s5, .val (.int i6), s7, s8, s9] [])) _
  refine XS.iload X0.here hx rfl (hb hby at_65) rfl ?_
  show Steps p.tables e below (T0.setTop (mkF m 67 #[s0, s1, s2, .val (.int i3), s4, s5, .val (.int i6), s7, s8, s9] [(.int i6)])) _
  refine XS.iloadN X0.here hx rfl (hb hby at_67) rfl ?_
  show Steps p.tables e below (T0.setTop (mkF m 68 #[s0, s1, s2, .val (.int i3), s4, s5, .val (.int i6), s7, s8, s9] [(.int i3), (.int i6)])) _
  refine XS.icmpYes X0.here hx rfl (pc0 := 68) (pc' := 76) rfl (hb hby at_68) rfl (feq hc68).2 (by decide) (by decide) ?_
  show Steps p.tables e below (T0.setTop (mkF m 76 #[s0, s1, s2, .val (.int i3), s4, s5, .val (.int i6), s7, s8, s9] [])) _
  refine XS.iload X0.here hx rfl (hb hby at_76) rfl ?_
  show Steps p.tables e below (T0.setTop (mkF m 78 #[s0, s1, s2, .val (.int i3), s4, s5, .val (.int i6), s7, s8, s9] [(.int i6)])) _
  refine XS.iconst X0.here hx rfl (hb hby at_78) ?_
  show Steps p.tables e below (T0.setTop (mkF m 79 #[s0, s1, s2, .val (.int i3), s4, s5, .val (.int i6), s7, s8, s9] [(.int (2 : Int32)), (.int i6)])) _
  refine XS.idiv X0.here hx rfl (hb hby at_79) rfl hnz79 ?_
  show Steps p.tables e below (T0.setTop (mkF m 80 #[s0, s1, s2, .val (.int i3), s4, s5, .val (.int i6), s7, s8, s9] [(.int (i6 / (2 : Int32)))])) _
  refine XS.istore X0.here hx rfl (hb hby at_80) rfl (l' := #[s0, s1, s2, .val (.int i3), s4, s5, .val (.int i6), .val (.int (i6 / (2 : Int32))), s8, s9]) (os0_80_tBt hs7) ?_
  exact kt
theorem os0_97_tCf {s0 : Slot} {z1 : Value} {z2 : Value} {s3 : Slot} {s4 : Slot} {s5 : Slot} {s6 : Slot} {s7 : Slot} {s8 : Slot} {s9 : Slot} {v : Int32} (h : One s8) : storeLocals #[s0, .val z1, .val z2, s3, s4, s5, s6, s7, s8, s9] 8 (.int v) = some #[s0, .val z1, .val z2, s3, s4, s5, s6, s7, .val (.int v), s9] := by
  rcases h with rfl | ⟨w, rfl, hw⟩
  · rfl
  · cases w <;> first | rfl | (simp [Value.category] at hw)
set_option maxRecDepth 65536 in
set_option maxHeartbeats 40000000 in
theorem tCf {p : Program} {l : Launch} {e : Env} {R : Room} {s : State} {m : MethodId} {args : Array Value} {below : List Frame} {meth : Method} {c : Code} {T0 : State} {locs : List Loc} {cells slots : Nat} {Z : State} {a0 : Array Value} {h0 : Heap} (s0 : Slot) (i1 : Int32) (i2 : Int32) (s3 : Slot) (s4 : Slot) (s5 : Slot) (s6 : Slot) (s7 : Slot) (s8 : Slot) (s9 : Slot)
    (X0 : Stand p l e R s m args below meth c T0 locs cells slots) (hx : p.tables.exec = Jvm.exec) (hZ : Z.Warmed39 s.vm) (hw : ∀ d ∈ tables_1, d.before a0 Z = true) (hby : c.code = code) (hml : c.maxLocals = 10) (hown : s.vm.findClass "com/example/invertex/invertex/index/HashSlotsFullPinLaw" = some m.cls) (e0 : T0.heap = h0) (hs8 : One s8) (hc87 : (((i2.toUInt32 >>> ((4 : Int32) &&& 31).toUInt32).toInt32) &&& (1 : Int32)) = (0 : Int32)) (hnz96 : ¬ ((2147483647 : Int32) = (0 : Int32))) :
    ∃ (T' : State), Stand p l e R s m args below meth c T' locs cells slots ∧ T'.heap = h0 ∧
      ∀ target, Steps p.tables e below (T'.setTop (mkF m 117 #[s0, .val (.int i1), .val (.int i2), s3, s4, s5, s6, s7, .val (.int ((i1 &&& (2147483647 : Int32)) % (2147483647 : Int32))), s9] [])) target → Steps p.tables e below (T0.setTop (mkF m 82 #[s0, .val (.int i1), .val (.int i2), s3, s4, s5, s6, s7, s8, s9] [])) target := by

  refine ⟨T0, X0, e0, fun target kt => ?_⟩
  show Steps p.tables e below (T0.setTop (mkF m 82 #[s0, .val (.int i1), .val (.int i2), s3, s4, s5, s6, s7, s8, s9] [])) _
  refine XS.iloadN X0.here hx rfl (hb hby at_82) rfl ?_
  show Steps p.tables e below (T0.setTop (mkF m 83 #[s0, .val (.int i1), .val (.int i2), s3, s4, s5, s6, s7, s8, s9] [(.int i2)])) _
  refine XS.iconst X0.here hx rfl (hb hby at_83) ?_
  show Steps p.tables e below (T0.setTop (mkF m 84 #[s0, .val (.int i1), .val (.int i2), s3, s4, s5, s6, s7, s8, s9] [(.int (4 : Int32)), (.int i2)])) _
  refine XS.iushr X0.here hx rfl (hb hby at_84) rfl ?_
  show Steps p.tables e below (T0.setTop (mkF m 85 #[s0, .val (.int i1), .val (.int i2), s3, s4, s5, s6, s7, s8, s9] [(.int ((i2.toUInt32 >>> ((4 : Int32) &&& 31).toUInt32).toInt32))])) _
  refine XS.iconst X0.here hx rfl (hb hby at_85) ?_
  show Steps p.tables e below (T0.setTop (mkF m 86 #[s0, .val (.int i1), .val (.int i2), s3, s4, s5, s6, s7, s8, s9] [(.int (1 : Int32)), (.int ((i2.toUInt32 >>> ((4 : Int32) &&& 31).toUInt32).toInt32))])) _
  refine XS.iand X0.here hx rfl (hb hby at_86) rfl ?_
  show Steps p.tables e below (T0.setTop (mkF m 87 #[s0, .val (.int i1), .val (.int i2), s3, s4, s5, s6, s7, s8, s9] [(.int (((i2.toUInt32 >>> ((4 : Int32) &&& 31).toUInt32).toInt32) &&& (1 : Int32)))])) _
  refine XS.ifNo X0.here hx rfl (hb hby at_87) rfl ((if0 _ _).trans (teq hc87).2) ?_
  show Steps p.tables e below (T0.setTop (mkF m 90 #[s0, .val (.int i1), .val (.int i2), s3, s4, s5, s6, s7, s8, s9] [])) _
  refine XS.iloadN X0.here hx rfl (hb hby at_90) rfl ?_
  show Steps p.tables e below (T0.setTop (mkF m 91 #[s0, .val (.int i1), .val (.int i2), s3, s4, s5, s6, s7, s8, s9] [(.int i1)])) _
  refine X0.ldcInt hx hown (mvT hZ (hw _ (List.mem_of_getElem? (i := 2) rfl))) (g := (mkF m 91 #[s0, .val (.int i1), .val (.int i2), s3, s4, s5, s6, s7, s8, s9] [(.int i1)])) rfl (hb hby at_91) _ ?_
  show Steps p.tables e below (T0.setTop (mkF m 93 #[s0, .val (.int i1), .val (.int i2), s3, s4, s5, s6, s7, s8, s9] [(.int (2147483647 : Int32)), (.int i1)])) _
  refine XS.iand X0.here hx rfl (hb hby at_93) rfl ?_
  show Steps p.tables e below (T0.setTop (mkF m 94 #[s0, .val (.int i1), .val (.int i2), s3, s4, s5, s6, s7, s8, s9] [(.int (i1 &&& (2147483647 : Int32)))])) _
  refine X0.ldcInt hx hown (mvT hZ (hw _ (List.mem_of_getElem? (i := 2) rfl))) (g := (mkF m 94 #[s0, .val (.int i1), .val (.int i2), s3, s4, s5, s6, s7, s8, s9] [(.int (i1 &&& (2147483647 : Int32)))])) rfl (hb hby at_94) _ ?_
  show Steps p.tables e below (T0.setTop (mkF m 96 #[s0, .val (.int i1), .val (.int i2), s3, s4, s5, s6, s7, s8, s9] [(.int (2147483647 : Int32)), (.int (i1 &&& (2147483647 : Int32)))])) _
  refine Jvm.RoadKit.iremM X0 hx rfl (hb hby at_96) rfl hnz96 ?_
  show Steps p.tables e below (T0.setTop (mkF m 97 #[s0, .val (.int i1), .val (.int i2), s3, s4, s5, s6, s7, s8, s9] [(.int ((i1 &&& (2147483647 : Int32)) % (2147483647 : Int32)))])) _
  refine XS.istore X0.here hx rfl (hb hby at_97) rfl (l' := #[s0, .val (.int i1), .val (.int i2), s3, s4, s5, s6, s7, .val (.int ((i1 &&& (2147483647 : Int32)) % (2147483647 : Int32))), s9]) (os0_97_tCf hs8) ?_
  show Steps p.tables e below (T0.setTop (mkF m 99 #[s0, .val (.int i1), .val (.int i2), s3, s4, s5, s6, s7, .val (.int ((i1 &&& (2147483647 : Int32)) % (2147483647 : Int32))), s9] [])) _
  refine XS.goto X0.here hx rfl (pc0 := 99) (pc' := 117) rfl (hb hby at_99) (by decide) (by decide) ?_
  exact kt
theorem os0_115_tCt {s0 : Slot} {z1 : Value} {z2 : Value} {s3 : Slot} {s4 : Slot} {s5 : Slot} {s6 : Slot} {z7 : Value} {s8 : Slot} {s9 : Slot} {v : Int32} (h : One s8) : storeLocals #[s0, .val z1, .val z2, s3, s4, s5, s6, .val z7, s8, s9] 8 (.int v) = some #[s0, .val z1, .val z2, s3, s4, s5, s6, .val z7, .val (.int v), s9] := by
  rcases h with rfl | ⟨w, rfl, hw⟩
  · rfl
  · cases w <;> first | rfl | (simp [Value.category] at hw)
set_option maxRecDepth 65536 in
set_option maxHeartbeats 40000000 in
theorem tCt {p : Program} {l : Launch} {e : Env} {s : State} {m : MethodId} {args : Array Value} {below : List Frame} {meth : Method} {c : Code} {T0 : State} {locs : List Loc} {Z : State} {a0 : Array Value} {h0 : Heap} {n0 : Nat} (s0 : Slot) (i1 : Int32) (i2 : Int32) (s3 : Slot) (s4 : Slot) (s5 : Slot) (s6 : Slot) (i7 : Int32) (s8 : Slot) (s9 : Slot)
    (X0 : Stand p l e room_1 s m args below meth c T0 locs 0 0) (hx : p.tables.exec = Jvm.exec) (hZ : Z.Warmed39 s.vm) (hw : ∀ d ∈ tables_1, d.before a0 Z = true) (hby : c.code = code) (hml : c.maxLocals = 10) (hown : s.vm.findClass "com/example/invertex/invertex/index/HashSlotsFullPinLaw" = some m.cls) (e0 : T0.heap = h0) (Z0 : n0 ≤ h0.size) (hs8 : One s8) (hc87 : ¬ ((((i2.toUInt32 >>> ((4 : Int32) &&& 31).toUInt32).toInt32) &&& (1 : Int32)) = (0 : Int32))) :
    ∃ (T' : State) (L' : List Loc), Stand p l e room_1 s m args below meth c T' (locs ++ L') 0 0 ∧ T'.heap = h0 ∧ Fr n0 L' ∧
      ∀ target, Steps p.tables e below (T'.setTop (mkF m 117 #[s0, .val (.int i1), .val (.int i2), s3, s4, s5, s6, .val (.int i7), .val (.int (maxV (0 : Int32) (i7 + ((i1 &&& (7 : Int32)) - (4 : Int32))))), s9] [])) target → Steps p.tables e below (T0.setTop (mkF m 82 #[s0, .val (.int i1), .val (.int i2), s3, s4, s5, s6, .val (.int i7), s8, s9] [])) target := by
  obtain ⟨_, _, ⟨T4, L4, k4, n4⟩, -, X4, ⟨Lc4, hQ4, l4, y4, z4⟩, st4⟩ := Jvm.LawKit.callS X0 hx (y := (⟨"java/lang/Math", "max", "(II)I"⟩ : MethodName)) hown (mvT hZ (hw _ (List.mem_of_getElem? (i := 12) rfl))) (mvT hZ (hw _ (List.mem_of_getElem? (i := 13) rfl))) (mvT hZ (hw _ (List.mem_of_getElem? (i := 14) rfl))) (mvT hZ (hw _ (List.mem_of_getElem? (i := 15) rfl))) (by decide) (backOf (W := 0) (rm2 l Z a0 hw [] (0 : Int32) (i7 + ((i1 &&& (7 : Int32)) - (4 : Int32))) h0 n0 Z0) hZ (hw _ (List.mem_of_getElem? (i := 15) rfl)) (hw _ (List.mem_of_getElem? (i := 14) rfl)) (by decide) (by decide)) (g := (mkF m 112 #[s0, .val (.int i1), .val (.int i2), s3, s4, s5, s6, .val (.int i7), s8, s9] [(.int (i7 + ((i1 &&& (7 : Int32)) - (4 : Int32)))), (.int (0 : Int32))])) rfl (by rw [hml]; rfl) (argsL := [(.int (0 : Int32)), (.int (i7 + ((i1 &&& (7 : Int32)) - (4 : Int32))))]) (rest := []) (lenOf pd_0_1 rfl) rfl (by show 2 * 0 + _ ≤ _; exact Nat.le_of_eq rfl) (hb hby at_112) (fun _ _ => ⟨rfl, e0, (by decide : 0 + 0 ≤ _), (by decide : 0 + 0 ≤ _)⟩)
  dsimp only [Pt.U, Pt.locs, Pt.cells, Pt.slots] at X4 l4 y4 z4 st4 hQ4
  subst l4 y4 z4
  obtain ⟨rfl, N4q, e4⟩ := hQ4
  refine ⟨T4, _, X4, e4, N4q, fun target kt => ?_⟩
  show Steps p.tables e below (T0.setTop (mkF m 82 #[s0, .val (.int i1), .val (.int i2), s3, s4, s5, s6, .val (.int i7), s8, s9] [])) _
  refine XS.iloadN X0.here hx rfl (hb hby at_82) rfl ?_
  show Steps p.tables e below (T0.setTop (mkF m 83 #[s0, .val (.int i1), .val (.int i2), s3, s4, s5, s6, .val (.int i7), s8, s9] [(.int i2)])) _
  refine XS.iconst X0.here hx rfl (hb hby at_83) ?_
  show Steps p.tables e below (T0.setTop (mkF m 84 #[s0, .val (.int i1), .val (.int i2), s3, s4, s5, s6, .val (.int i7), s8, s9] [(.int (4 : Int32)), (.int i2)])) _
  refine XS.iushr X0.here hx rfl (hb hby at_84) rfl ?_
  show Steps p.tables e below (T0.setTop (mkF m 85 #[s0, .val (.int i1), .val (.int i2), s3, s4, s5, s6, .val (.int i7), s8, s9] [(.int ((i2.toUInt32 >>> ((4 : Int32) &&& 31).toUInt32).toInt32))])) _
  refine XS.iconst X0.here hx rfl (hb hby at_85) ?_
  show Steps p.tables e below (T0.setTop (mkF m 86 #[s0, .val (.int i1), .val (.int i2), s3, s4, s5, s6, .val (.int i7), s8, s9] [(.int (1 : Int32)), (.int ((i2.toUInt32 >>> ((4 : Int32) &&& 31).toUInt32).toInt32))])) _
  refine XS.iand X0.here hx rfl (hb hby at_86) rfl ?_
  show Steps p.tables e below (T0.setTop (mkF m 87 #[s0, .val (.int i1), .val (.int i2), s3, s4, s5, s6, .val (.int i7), s8, s9] [(.int (((i2.toUInt32 >>> ((4 : Int32) &&& 31).toUInt32).toInt32) &&& (1 : Int32)))])) _
  refine XS.ifYes X0.here hx rfl (pc0 := 87) (pc' := 102) rfl (hb hby at_87) rfl ((if0 _ _).trans (feq hc87).2) (by decide) (by decide) ?_
  show Steps p.tables e below (T0.setTop (mkF m 102 #[s0, .val (.int i1), .val (.int i2), s3, s4, s5, s6, .val (.int i7), s8, s9] [])) _
  refine XS.iconst X0.here hx rfl (hb hby at_102) ?_
  show Steps p.tables e below (T0.setTop (mkF m 103 #[s0, .val (.int i1), .val (.int i2), s3, s4, s5, s6, .val (.int i7), s8, s9] [(.int (0 : Int32))])) _
  refine XS.iload X0.here hx rfl (hb hby at_103) rfl ?_
  show Steps p.tables e below (T0.setTop (mkF m 105 #[s0, .val (.int i1), .val (.int i2), s3, s4, s5, s6, .val (.int i7), s8, s9] [(.int i7), (.int (0 : Int32))])) _
  refine XS.iloadN X0.here hx rfl (hb hby at_105) rfl ?_
  show Steps p.tables e below (T0.setTop (mkF m 106 #[s0, .val (.int i1), .val (.int i2), s3, s4, s5, s6, .val (.int i7), s8, s9] [(.int i1), (.int i7), (.int (0 : Int32))])) _
  refine XS.bipush X0.here hx rfl (hb hby at_106) ?_
  show Steps p.tables e below (T0.setTop (mkF m 108 #[s0, .val (.int i1), .val (.int i2), s3, s4, s5, s6, .val (.int i7), s8, s9] [(.int (7 : Int32)), (.int i1), (.int i7), (.int (0 : Int32))])) _
  refine XS.iand X0.here hx rfl (hb hby at_108) rfl ?_
  show Steps p.tables e below (T0.setTop (mkF m 109 #[s0, .val (.int i1), .val (.int i2), s3, s4, s5, s6, .val (.int i7), s8, s9] [(.int (i1 &&& (7 : Int32))), (.int i7), (.int (0 : Int32))])) _
  refine XS.iconst X0.here hx rfl (hb hby at_109) ?_
  show Steps p.tables e below (T0.setTop (mkF m 110 #[s0, .val (.int i1), .val (.int i2), s3, s4, s5, s6, .val (.int i7), s8, s9] [(.int (4 : Int32)), (.int (i1 &&& (7 : Int32))), (.int i7), (.int (0 : Int32))])) _
  refine XS.isub X0.here hx rfl (hb hby at_110) rfl ?_
  show Steps p.tables e below (T0.setTop (mkF m 111 #[s0, .val (.int i1), .val (.int i2), s3, s4, s5, s6, .val (.int i7), s8, s9] [(.int ((i1 &&& (7 : Int32)) - (4 : Int32))), (.int i7), (.int (0 : Int32))])) _
  refine XS.iadd X0.here hx rfl (hb hby at_111) rfl ?_
  show Steps p.tables e below (T0.setTop (mkF m 112 #[s0, .val (.int i1), .val (.int i2), s3, s4, s5, s6, .val (.int i7), s8, s9] [(.int (i7 + ((i1 &&& (7 : Int32)) - (4 : Int32)))), (.int (0 : Int32))])) _
  refine st4 _ ?_
  show Steps p.tables e below (T4.setTop (mkF m 115 #[s0, .val (.int i1), .val (.int i2), s3, s4, s5, s6, .val (.int i7), s8, s9] [(.int (maxV (0 : Int32) (i7 + ((i1 &&& (7 : Int32)) - (4 : Int32)))))])) _
  refine XS.istore X4.here hx rfl (hb hby at_115) rfl (l' := #[s0, .val (.int i1), .val (.int i2), s3, s4, s5, s6, .val (.int i7), .val (.int (maxV (0 : Int32) (i7 + ((i1 &&& (7 : Int32)) - (4 : Int32))))), s9]) (os0_115_tCt hs8) ?_
  exact kt
theorem os0_129_tDf {s0 : Slot} {s1 : Slot} {s2 : Slot} {s3 : Slot} {s4 : Slot} {s5 : Slot} {s6 : Slot} {z7 : Value} {z8 : Value} {s9 : Slot} {v : Int32} (h : One s9) : storeLocals #[s0, s1, s2, s3, s4, s5, s6, .val z7, .val z8, s9] 9 (.int v) = some #[s0, s1, s2, s3, s4, s5, s6, .val z7, .val z8, .val (.int v)] := by
  rcases h with rfl | ⟨w, rfl, hw⟩
  · rfl
  · cases w <;> first | rfl | (simp [Value.category] at hw)
set_option maxRecDepth 65536 in
set_option maxHeartbeats 40000000 in
theorem tDf {p : Program} {l : Launch} {e : Env} {R : Room} {s : State} {m : MethodId} {args : Array Value} {below : List Frame} {meth : Method} {c : Code} {T0 : State} {locs : List Loc} {cells slots : Nat} {Z : State} {a0 : Array Value} {h0 : Heap} (s0 : Slot) (s1 : Slot) (s2 : Slot) (s3 : Slot) (s4 : Slot) (s5 : Slot) (s6 : Slot) (i7 : Int32) (i8 : Int32) (s9 : Slot)
    (X0 : Stand p l e R s m args below meth c T0 locs cells slots) (hx : p.tables.exec = Jvm.exec) (hZ : Z.Warmed39 s.vm) (hw : ∀ d ∈ tables_1, d.before a0 Z = true) (hby : c.code = code) (hml : c.maxLocals = 10) (hown : s.vm.findClass "com/example/invertex/invertex/index/HashSlotsFullPinLaw" = some m.cls) (e0 : T0.heap = h0) (hs9 : One s9) (hc121 : ¬ (i8 < i7)) :
    ∃ (T' : State), Stand p l e R s m args below meth c T' locs cells slots ∧ T'.heap = h0 ∧
      ∀ target, Steps p.tables e below (T'.setTop (mkF m 131 #[s0, s1, s2, s3, s4, s5, s6, .val (.int i7), .val (.int i8), .val (.int (1 : Int32))] [])) target → Steps p.tables e below (T0.setTop (mkF m 117 #[s0, s1, s2, s3, s4, s5, s6, .val (.int i7), .val (.int i8), s9] [])) target := by

  refine ⟨T0, X0, e0, fun target kt => ?_⟩
  show Steps p.tables e below (T0.setTop (mkF m 117 #[s0, s1, s2, s3, s4, s5, s6, .val (.int i7), .val (.int i8), s9] [])) _
  refine XS.iload X0.here hx rfl (hb hby at_117) rfl ?_
  show Steps p.tables e below (T0.setTop (mkF m 119 #[s0, s1, s2, s3, s4, s5, s6, .val (.int i7), .val (.int i8), s9] [(.int i8)])) _
  refine XS.iload X0.here hx rfl (hb hby at_119) rfl ?_
  show Steps p.tables e below (T0.setTop (mkF m 121 #[s0, s1, s2, s3, s4, s5, s6, .val (.int i7), .val (.int i8), s9] [(.int i7), (.int i8)])) _
  refine XS.icmpNo X0.here hx rfl (hb hby at_121) rfl (flt hc121).1 ?_
  show Steps p.tables e below (T0.setTop (mkF m 124 #[s0, s1, s2, s3, s4, s5, s6, .val (.int i7), .val (.int i8), s9] [])) _
  refine XS.iconst X0.here hx rfl (hb hby at_124) ?_
  show Steps p.tables e below (T0.setTop (mkF m 125 #[s0, s1, s2, s3, s4, s5, s6, .val (.int i7), .val (.int i8), s9] [(.int (1 : Int32))])) _
  refine XS.goto X0.here hx rfl (pc0 := 125) (pc' := 129) rfl (hb hby at_125) (by decide) (by decide) ?_
  show Steps p.tables e below (T0.setTop (mkF m 129 #[s0, s1, s2, s3, s4, s5, s6, .val (.int i7), .val (.int i8), s9] [(.int (1 : Int32))])) _
  refine XS.istore X0.here hx rfl (hb hby at_129) rfl (l' := #[s0, s1, s2, s3, s4, s5, s6, .val (.int i7), .val (.int i8), .val (.int (1 : Int32))]) (os0_129_tDf hs9) ?_
  exact kt
theorem os0_129_tDt {s0 : Slot} {s1 : Slot} {s2 : Slot} {s3 : Slot} {s4 : Slot} {s5 : Slot} {s6 : Slot} {z7 : Value} {z8 : Value} {s9 : Slot} {v : Int32} (h : One s9) : storeLocals #[s0, s1, s2, s3, s4, s5, s6, .val z7, .val z8, s9] 9 (.int v) = some #[s0, s1, s2, s3, s4, s5, s6, .val z7, .val z8, .val (.int v)] := by
  rcases h with rfl | ⟨w, rfl, hw⟩
  · rfl
  · cases w <;> first | rfl | (simp [Value.category] at hw)
set_option maxRecDepth 65536 in
set_option maxHeartbeats 40000000 in
theorem tDt {p : Program} {l : Launch} {e : Env} {R : Room} {s : State} {m : MethodId} {args : Array Value} {below : List Frame} {meth : Method} {c : Code} {T0 : State} {locs : List Loc} {cells slots : Nat} {Z : State} {a0 : Array Value} {h0 : Heap} (s0 : Slot) (s1 : Slot) (s2 : Slot) (s3 : Slot) (s4 : Slot) (s5 : Slot) (s6 : Slot) (i7 : Int32) (i8 : Int32) (s9 : Slot)
    (X0 : Stand p l e R s m args below meth c T0 locs cells slots) (hx : p.tables.exec = Jvm.exec) (hZ : Z.Warmed39 s.vm) (hw : ∀ d ∈ tables_1, d.before a0 Z = true) (hby : c.code = code) (hml : c.maxLocals = 10) (hown : s.vm.findClass "com/example/invertex/invertex/index/HashSlotsFullPinLaw" = some m.cls) (e0 : T0.heap = h0) (hs9 : One s9) (hc121 : i8 < i7) :
    ∃ (T' : State), Stand p l e R s m args below meth c T' locs cells slots ∧ T'.heap = h0 ∧
      ∀ target, Steps p.tables e below (T'.setTop (mkF m 131 #[s0, s1, s2, s3, s4, s5, s6, .val (.int i7), .val (.int i8), .val (.int (0 : Int32))] [])) target → Steps p.tables e below (T0.setTop (mkF m 117 #[s0, s1, s2, s3, s4, s5, s6, .val (.int i7), .val (.int i8), s9] [])) target := by

  refine ⟨T0, X0, e0, fun target kt => ?_⟩
  show Steps p.tables e below (T0.setTop (mkF m 117 #[s0, s1, s2, s3, s4, s5, s6, .val (.int i7), .val (.int i8), s9] [])) _
  refine XS.iload X0.here hx rfl (hb hby at_117) rfl ?_
  show Steps p.tables e below (T0.setTop (mkF m 119 #[s0, s1, s2, s3, s4, s5, s6, .val (.int i7), .val (.int i8), s9] [(.int i8)])) _
  refine XS.iload X0.here hx rfl (hb hby at_119) rfl ?_
  show Steps p.tables e below (T0.setTop (mkF m 121 #[s0, s1, s2, s3, s4, s5, s6, .val (.int i7), .val (.int i8), s9] [(.int i7), (.int i8)])) _
  refine XS.icmpYes X0.here hx rfl (pc0 := 121) (pc' := 128) rfl (hb hby at_121) rfl (tlt hc121).1 (by decide) (by decide) ?_
  show Steps p.tables e below (T0.setTop (mkF m 128 #[s0, s1, s2, s3, s4, s5, s6, .val (.int i7), .val (.int i8), s9] [])) _
  refine XS.iconst X0.here hx rfl (hb hby at_128) ?_
  show Steps p.tables e below (T0.setTop (mkF m 129 #[s0, s1, s2, s3, s4, s5, s6, .val (.int i7), .val (.int i8), s9] [(.int (0 : Int32))])) _
  refine XS.istore X0.here hx rfl (hb hby at_129) rfl (l' := #[s0, s1, s2, s3, s4, s5, s6, .val (.int i7), .val (.int i8), .val (.int (0 : Int32))]) (os0_129_tDt hs9) ?_
  exact kt
set_option maxRecDepth 65536 in
set_option maxHeartbeats 40000000 in
theorem tE {p : Program} {l : Launch} {e : Env} {s : State} {m : MethodId} {args : Array Value} {below : List Frame} {meth : Method} {c : Code} {T0 : State} {locs : List Loc} {Z : State} {a0 : Array Value} {h0 : Heap} {n0 : Nat} (s0 : Slot) (s1 : Slot) (s2 : Slot) (s3 : Slot) (s4 : Slot) (s5 : Slot) (i6 : Int32) (s7 : Slot) (i8 : Int32) (i9 : Int32)
    (X0 : Stand p l e room_1 s m args below meth c T0 locs 0 0) (hx : p.tables.exec = Jvm.exec) (hZ : Z.Warmed39 s.vm) (hw : ∀ d ∈ tables_1, d.before a0 Z = true) (hby : c.code = code) (hml : c.maxLocals = 10) (hown : s.vm.findClass "com/example/invertex/invertex/index/HashSlotsFullPinLaw" = some m.cls) (e0 : T0.heap = h0) (Z0 : n0 ≤ h0.size) (S_LONGEST : Sta Z h0 "com/example/invertex/invertex/index/HashSlots" "LONGEST" "I" (.int (2147483644 : Int32))) (hfin : fullV i8 i6 = i9) :
    ∃ (T' : State) (L' : List Loc), Stand p l e room_1 s m args below meth c T' (locs ++ L') 0 0 ∧ T'.heap = h0 ∧ Fr n0 L' ∧
      ∀ target, Steps p.tables e below (T'.setTop (mkF m 148 #[s0, s1, s2, s3, s4, s5, .val (.int i6), s7, .val (.int i8), .val (.int i9)] [(.int (1 : Int32))])) target → Steps p.tables e below (T0.setTop (mkF m 131 #[s0, s1, s2, s3, s4, s5, .val (.int i6), s7, .val (.int i8), .val (.int i9)] [])) target := by
  obtain ⟨_, _, ⟨T4, L4, k4, n4⟩, -, X4, ⟨Lc4, hQ4, l4, y4, z4⟩, st4⟩ := Jvm.LawKit.callS X0 hx (y := (⟨"com/example/invertex/invertex/index/HashSlots", "full", "(II)Z"⟩ : MethodName)) hown (mvT hZ (hw _ (List.mem_of_getElem? (i := 3) rfl))) (mvT hZ (hw _ (List.mem_of_getElem? (i := 4) rfl))) (mvT hZ (hw _ (List.mem_of_getElem? (i := 5) rfl))) (mvT hZ (hw _ (List.mem_of_getElem? (i := 6) rfl))) (by decide) (backOf (W := 0) (rm1 l Z a0 hw [] i8 i6 h0 n0 Z0 S_LONGEST) hZ (hw _ (List.mem_of_getElem? (i := 6) rfl)) (hw _ (List.mem_of_getElem? (i := 5) rfl)) (by decide) (by decide)) (g := (mkF m 135 #[s0, s1, s2, s3, s4, s5, .val (.int i6), s7, .val (.int i8), .val (.int i9)] [(.int i6), (.int i8)])) rfl (by rw [hml]; rfl) (argsL := [(.int i8), (.int i6)]) (rest := []) (lenOf pd_0_0 rfl) rfl (by show 2 * 0 + _ ≤ _; exact Nat.le_of_eq rfl) (hb hby at_135) (fun _ _ => ⟨rfl, e0, (by decide : 0 + 0 ≤ _), (by decide : 0 + 0 ≤ _)⟩)
  dsimp only [Pt.U, Pt.locs, Pt.cells, Pt.slots] at X4 l4 y4 z4 st4 hQ4
  subst l4 y4 z4
  obtain ⟨rfl, N4q, e4⟩ := hQ4
  refine ⟨T4, _, X4, e4, N4q, fun target kt => ?_⟩
  show Steps p.tables e below (T0.setTop (mkF m 131 #[s0, s1, s2, s3, s4, s5, .val (.int i6), s7, .val (.int i8), .val (.int i9)] [])) _
  refine XS.iload X0.here hx rfl (hb hby at_131) rfl ?_
  show Steps p.tables e below (T0.setTop (mkF m 133 #[s0, s1, s2, s3, s4, s5, .val (.int i6), s7, .val (.int i8), .val (.int i9)] [(.int i8)])) _
  refine XS.iload X0.here hx rfl (hb hby at_133) rfl ?_
  show Steps p.tables e below (T0.setTop (mkF m 135 #[s0, s1, s2, s3, s4, s5, .val (.int i6), s7, .val (.int i8), .val (.int i9)] [(.int i6), (.int i8)])) _
  refine st4 _ ?_
  show Steps p.tables e below (T4.setTop (mkF m 138 #[s0, s1, s2, s3, s4, s5, .val (.int i6), s7, .val (.int i8), .val (.int i9)] [(.int (fullV i8 i6))])) _
  refine XS.iload X4.here hx rfl (hb hby at_138) rfl ?_
  show Steps p.tables e below (T4.setTop (mkF m 140 #[s0, s1, s2, s3, s4, s5, .val (.int i6), s7, .val (.int i8), .val (.int i9)] [(.int i9), (.int (fullV i8 i6))])) _
  refine XS.icmpNo X4.here hx rfl (hb hby at_140) rfl (teq hfin).2 ?_
  show Steps p.tables e below (T4.setTop (mkF m 143 #[s0, s1, s2, s3, s4, s5, .val (.int i6), s7, .val (.int i8), .val (.int i9)] [])) _
  refine XS.iconst X4.here hx rfl (hb hby at_143) ?_
  show Steps p.tables e below (T4.setTop (mkF m 144 #[s0, s1, s2, s3, s4, s5, .val (.int i6), s7, .val (.int i8), .val (.int i9)] [(.int (1 : Int32))])) _
  refine XS.goto X4.here hx rfl (pc0 := 144) (pc' := 148) rfl (hb hby at_144) (by decide) (by decide) ?_
  exact kt
theorem hA {p : Program} {l : Launch} {e : Env} {R : Room} {s : State} {m : MethodId} {args : Array Value} {below : List Frame} {meth : Method} {c : Code} {T0 : State} {locs : List Loc} {cells slots : Nat} {Z : State} {a0 : Array Value} {h0 : Heap} (a b d : Int32)
    (X0 : Stand p l e R s m args below meth c T0 locs cells slots) (hx : p.tables.exec = Jvm.exec) (hZ : Z.Warmed39 s.vm) (hw : ∀ d ∈ tables_1, d.before a0 Z = true) (hby : c.code = code) (hml : c.maxLocals = 10) (hown : s.vm.findClass "com/example/invertex/invertex/index/HashSlotsFullPinLaw" = some m.cls) (e0 : T0.heap = h0) :
    ∃ (T' : State), Stand p l e R s m args below meth c T' locs cells slots ∧ T'.heap = h0 ∧ 
      ∀ target, Steps p.tables e below (T'.setTop (mkF m 65 #[.val (.int a), .val (.int b), .val (.int d), .val (.int (2147483644 : Int32)), .val (.int (1610612733 : Int32)), .val (.int (d &&& (3 : Int32))), .val (.int (slV a d)), .unset, .unset, .unset] [])) target → Steps p.tables e below (T0.setTop (mkF m 12 #[.val (.int a), .val (.int b), .val (.int d), .val (.int (2147483644 : Int32)), .val (.int (1610612733 : Int32)), .val (.int (d &&& (3 : Int32))), .unset, .unset, .unset, .unset] [])) target := by
  unfold slV shV
  split
  · exact tAf _ _ _ _ _ _ _ _ _ _ X0 hx hZ hw hby hml hown e0 One.u (by assumption)
  · split
    · exact tAtf _ _ _ _ _ _ _ _ _ _ X0 hx hZ hw hby hml hown e0 One.u (by assumption) (by assumption)
    · split
      · exact tAttf _ _ _ _ _ _ _ _ _ _ X0 hx hZ hw hby hml hown e0 One.u (by assumption) (by assumption) (by assumption)
      · exact tAttt _ _ _ _ _ _ _ _ _ _ X0 hx hZ hw hby hml hown e0 One.u (by assumption) (by assumption) (by assumption)
theorem hB {p : Program} {l : Launch} {e : Env} {R : Room} {s : State} {m : MethodId} {args : Array Value} {below : List Frame} {meth : Method} {c : Code} {T0 : State} {locs : List Loc} {cells slots : Nat} {Z : State} {a0 : Array Value} {h0 : Heap} (a b d z : Int32)
    (X0 : Stand p l e R s m args below meth c T0 locs cells slots) (hx : p.tables.exec = Jvm.exec) (hZ : Z.Warmed39 s.vm) (hw : ∀ d ∈ tables_1, d.before a0 Z = true) (hby : c.code = code) (hml : c.maxLocals = 10) (hown : s.vm.findClass "com/example/invertex/invertex/index/HashSlotsFullPinLaw" = some m.cls) (e0 : T0.heap = h0) :
    ∃ (T' : State), Stand p l e R s m args below meth c T' locs cells slots ∧ T'.heap = h0 ∧ 
      ∀ target, Steps p.tables e below (T'.setTop (mkF m 82 #[.val (.int a), .val (.int b), .val (.int d), .val (.int (2147483644 : Int32)), .val (.int (1610612733 : Int32)), .val (.int (d &&& (3 : Int32))), .val (.int z), .val (.int (cpV z)), .unset, .unset] [])) target → Steps p.tables e below (T0.setTop (mkF m 65 #[.val (.int a), .val (.int b), .val (.int d), .val (.int (2147483644 : Int32)), .val (.int (1610612733 : Int32)), .val (.int (d &&& (3 : Int32))), .val (.int z), .unset, .unset, .unset] [])) target := by
  unfold cpV
  split
  · exact tBf _ _ _ _ _ _ _ _ _ _ X0 hx hZ hw hby hml hown e0 One.u (by assumption)
  · exact tBt _ _ _ _ _ _ _ _ _ _ X0 hx hZ hw hby hml hown e0 One.u (by assumption) (by decide)
theorem hC {p : Program} {l : Launch} {e : Env} {s : State} {m : MethodId} {args : Array Value} {below : List Frame} {meth : Method} {c : Code} {T0 : State} {locs : List Loc} {Z : State} {a0 : Array Value} {h0 : Heap} {n0 : Nat} (a b d z w : Int32)
    (X0 : Stand p l e room_1 s m args below meth c T0 locs 0 0) (hx : p.tables.exec = Jvm.exec) (hZ : Z.Warmed39 s.vm) (hw : ∀ d ∈ tables_1, d.before a0 Z = true) (hby : c.code = code) (hml : c.maxLocals = 10) (hown : s.vm.findClass "com/example/invertex/invertex/index/HashSlotsFullPinLaw" = some m.cls) (e0 : T0.heap = h0) (Z0 : n0 ≤ h0.size) :
    ∃ (T' : State) (L' : List Loc), Stand p l e room_1 s m args below meth c T' (locs ++ L') 0 0 ∧ T'.heap = h0 ∧ Fr n0 L' ∧ 
      ∀ target, Steps p.tables e below (T'.setTop (mkF m 117 #[.val (.int a), .val (.int b), .val (.int d), .val (.int (2147483644 : Int32)), .val (.int (1610612733 : Int32)), .val (.int (d &&& (3 : Int32))), .val (.int z), .val (.int w), .val (.int (kyV b d w)), .unset] [])) target → Steps p.tables e below (T0.setTop (mkF m 82 #[.val (.int a), .val (.int b), .val (.int d), .val (.int (2147483644 : Int32)), .val (.int (1610612733 : Int32)), .val (.int (d &&& (3 : Int32))), .val (.int z), .val (.int w), .unset, .unset] [])) target := by
  unfold kyV shV
  split
  · obtain ⟨T', X', e', st⟩ := tCf _ _ _ _ _ _ _ _ _ _ X0 hx hZ hw hby hml hown e0 One.u (by assumption) (by decide)
    exact ⟨T', [], by rw [List.append_nil]; exact X', e', Fr.nil n0, st⟩
  · exact tCt _ _ _ _ _ _ _ _ _ _ X0 hx hZ hw hby hml hown e0 Z0 One.u (by assumption)
theorem hD {p : Program} {l : Launch} {e : Env} {R : Room} {s : State} {m : MethodId} {args : Array Value} {below : List Frame} {meth : Method} {c : Code} {T0 : State} {locs : List Loc} {cells slots : Nat} {Z : State} {a0 : Array Value} {h0 : Heap} (a b d z w k : Int32)
    (X0 : Stand p l e R s m args below meth c T0 locs cells slots) (hx : p.tables.exec = Jvm.exec) (hZ : Z.Warmed39 s.vm) (hw : ∀ d ∈ tables_1, d.before a0 Z = true) (hby : c.code = code) (hml : c.maxLocals = 10) (hown : s.vm.findClass "com/example/invertex/invertex/index/HashSlotsFullPinLaw" = some m.cls) (e0 : T0.heap = h0) :
    ∃ (T' : State), Stand p l e R s m args below meth c T' locs cells slots ∧ T'.heap = h0 ∧ 
      ∀ target, Steps p.tables e below (T'.setTop (mkF m 131 #[.val (.int a), .val (.int b), .val (.int d), .val (.int (2147483644 : Int32)), .val (.int (1610612733 : Int32)), .val (.int (d &&& (3 : Int32))), .val (.int z), .val (.int w), .val (.int k), .val (.int (exV k w))] [])) target → Steps p.tables e below (T0.setTop (mkF m 117 #[.val (.int a), .val (.int b), .val (.int d), .val (.int (2147483644 : Int32)), .val (.int (1610612733 : Int32)), .val (.int (d &&& (3 : Int32))), .val (.int z), .val (.int w), .val (.int k), .unset] [])) target := by
  unfold exV
  split
  · exact tDt _ _ _ _ _ _ _ _ _ _ X0 hx hZ hw hby hml hown e0 One.u (by assumption)
  · exact tDf _ _ _ _ _ _ _ _ _ _ X0 hx hZ hw hby hml hown e0 One.u (by assumption)
theorem own_sl (a d : Int32) : 0 ≤ (slV a d).toInt := by
  unfold slV
  have e1 := Jvm.Kit.i32_mask a 2147483647 (k := 31) (by decide) (by decide)
  have e2 := Jvm.Kit.i32_mask a 255 (k := 8) (by decide) (by decide)
  have e3 := Jvm.Kit.i32_mask (shV d 2) 3 (k := 2) (by decide) (by decide)
  split
  · omega
  · split
    · decide
    · split
      · have e4 : ((2147483644 : Int32) - (1 : Int32)).toInt = 2147483643 := by decide
        rw [Jvm.Kit.i32_add (by omega) (by omega)]
        omega
      · omega
theorem own_cp (z : Int32) (h : 0 ≤ z.toInt) : (z = (2147483644 : Int32) ∧ (cpV z).toInt = 1610612733 ∧ z.toInt = 2147483644) ∨ (¬ z = (2147483644 : Int32) ∧ (cpV z).toInt = z.toInt / 2) := by
  unfold cpV
  by_cases q : z = (2147483644 : Int32)
  · left
    refine ⟨q, ?_, ?_⟩
    · rw [if_pos q]; decide
    · rw [q]; decide
  · right
    refine ⟨q, ?_⟩
    rw [if_neg q, Jvm.Kit.i32_div (by rintro ⟨q1, -⟩; omega)]
    have e2 : (2 : Int32).toInt = 2 := by decide
    rw [e2, Int.tdiv_eq_ediv_of_nonneg h]
theorem own_ky (b d z : Int32) (h1 : 0 ≤ z.toInt) (h2 : z.toInt ≤ 1610612733) : 0 ≤ (kyV b d z).toInt ∧ (kyV b d z).toInt ≤ 2147483646 := by
  unfold kyV
  have e1 := Jvm.Kit.i32_mask b 2147483647 (k := 31) (by decide) (by decide)
  have e2 := Jvm.Kit.i32_mask b 7 (k := 3) (by decide) (by decide)
  have e4 : (4 : Int32).toInt = 4 := by decide
  have e5 : (2147483647 : Int32).toInt = 2147483647 := by decide
  have e0 : (0 : Int32).toInt = 0 := by decide
  split
  · rw [Jvm.Kit.i32_rem_nonneg (by omega), e5]
    omega
  · have e6 : ((b &&& (7 : Int32)) - (4 : Int32)).toInt = (b &&& (7 : Int32)).toInt - 4 := by rw [Jvm.Kit.i32_sub (by omega) (by omega), e4]
    have e7 : (z + ((b &&& (7 : Int32)) - (4 : Int32))).toInt = z.toInt + ((b &&& (7 : Int32)).toInt - 4) := by rw [Jvm.Kit.i32_add (by omega) (by omega), e6]
    unfold maxV
    split
    · rename_i q
      rw [Int32.lt_iff_toInt_lt] at q
      omega
    · omega
theorem own_fin (k z : Int32) (h : 0 ≤ z.toInt) (k1 : 0 ≤ k.toInt) (k2 : k.toInt ≤ 2147483646) : fullV k z = exV k (cpV z) := by
  have a1 : (1 : Int32).toInt = 1 := by decide
  have b2 : (2 : Int64).toInt = 2 := by decide
  have b3 : (3 : Int64).toInt = 3 := by decide
  have b4 : (4 : Int64).toInt = 4 := by decide
  have ek : (k + (1 : Int32)).toInt64.toInt = k.toInt + 1 := by rw [Jvm.Kit.i64_of_i32, Jvm.Kit.i32_add (by omega) (by omega), a1]
  have ez : z.toInt64.toInt = z.toInt := Jvm.Kit.i64_of_i32 z
  have zb : z.toInt < 2147483648 := Int32.toInt_lt z
  have m4 : ((4 : Int64) * ((k + (1 : Int32)).toInt64)).toInt = 4 * (k.toInt + 1) := by rw [Jvm.Kit.i64_mul (by rw [b4, ek]; omega) (by rw [b4, ek]; omega), b4, ek]
  have m3 : ((3 : Int64) * (z.toInt64)).toInt = 3 * z.toInt := by rw [Jvm.Kit.i64_mul (by rw [b3, ez]; omega) (by rw [b3, ez]; omega), b3, ez]
  have m2 : ((2 : Int64) * ((k + (1 : Int32)).toInt64)).toInt = 2 * (k.toInt + 1) := by rw [Jvm.Kit.i64_mul (by rw [b2, ek]; omega) (by rw [b2, ek]; omega), b2, ek]
  have g4 : (0 : Int32) < (lcmpW ((4 : Int64) * ((k + (1 : Int32)).toInt64)) ((3 : Int64) * (z.toInt64))) ↔ 3 * z.toInt < 4 * (k.toInt + 1) := by
    rw [lcW, lc_gt, Int64.lt_iff_toInt_lt, m3, m4]
  have g2 : (0 : Int32) < (lcmpW ((2 : Int64) * ((k + (1 : Int32)).toInt64)) (z.toInt64)) ↔ z.toInt < 2 * (k.toInt + 1) := by
    rw [lcW, lc_gt, Int64.lt_iff_toInt_lt, m2, ez]
  unfold fullV exV
  rcases own_cp z h with ⟨q, e, ez2⟩ | ⟨q, e⟩
  · rw [if_pos q]
    by_cases r : k < cpV z
    · have r' := r
      rw [Int32.lt_iff_toInt_lt] at r'
      rw [if_pos r, if_neg (fun t => by have := g4.mp t; omega)]
    · have r' := r
      rw [Int32.lt_iff_toInt_lt] at r'
      rw [if_neg r, if_pos (g4.mpr (by omega))]
  · rw [if_neg q]
    by_cases r : k < cpV z
    · have r' := r
      rw [Int32.lt_iff_toInt_lt] at r'
      rw [if_pos r, if_neg (fun t => by have := g2.mp t; omega)]
    · have r' := r
      rw [Int32.lt_iff_toInt_lt] at r'
      rw [if_neg r, if_pos (g2.mpr (by omega))]
theorem own_law (a b d : Int32) : fullV (kyV b d (cpV (slV a d))) (slV a d) = exV (kyV b d (cpV (slV a d))) (cpV (slV a d)) := by
  have h := own_sl a d
  have zb : (slV a d).toInt < 2147483648 := Int32.toInt_lt _
  have hk := own_ky b d (cpV (slV a d)) (by rcases own_cp _ h with ⟨_, e, _⟩ | ⟨_, e⟩ <;> omega) (by rcases own_cp _ h with ⟨_, e, _⟩ | ⟨_, e⟩ <;> omega)
  exact own_fin _ _ h hk.1 hk.2
theorem pn_0 : plainName "com/example/invertex/invertex/index/HashSlotsFullPinLaw" = true := by first | (simp [plainName, overriddenIn]; done) | decide +kernel
theorem ef_0 (m : MethodId) (x0 : Int32) (x1 : Int32) (x2 : Int32) : entryFrame m #[(.int x0), (.int x1), (.int x2)] maxLocals = mkF m 0 #[.val (.int x0), .val (.int x1), .val (.int x2), .unset, .unset, .unset, .unset, .unset, .unset, .unset] [] := by first | (simp [entryFrame, mkF, argsToLocals, Value.category, maxLocals]; done) | rfl
def Q0 (n0 : Nat) (v : Option Value) (h : Heap) (L : List Loc) : Prop := v = some (.int (1 : Int32)) ∧ Fr n0 L
set_option maxRecDepth 65536 in
set_option maxHeartbeats 40000000 in
theorem rm0 (l : Launch) (Z : State) (a0 : Array Value) (hw : ∀ d ∈ tables_1, d.before a0 Z = true) (ws : List Jvm.Cond) (p1 : Int32) (p2 : Int32) (p3 : Int32) (h0 : Heap) (n0 : Nat) (Z0 : n0 ≤ h0.size) (S_LONGEST : Sta Z h0 "com/example/invertex/invertex/index/HashSlots" "LONGEST" "I" (.int (2147483644 : Int32))) :
    MetFree l x (head1 (Jvm.Cond.code x code maxLocals ret :: ws) room_1) (fun a U => a = #[(.int p1), (.int p2), (.int p3)] ∧ Z.Warmed39 U.vm ∧ U.heap = h0) (fun _ _ _ _ _ => True) (fun _ U o U' => ∃ v L, o = .returned v ∧ Q0 n0 v U'.heap L ∧ FrameEnd U o U' L room_1.cells room_1.slots) := by
  refine MetFree.of_bodySF (plainFor_of_name pn_0) hisR ?_
  intro p e s m args below meth c s₁ Bd hml0 hP hK
  obtain ⟨rfl, hZ, hh⟩ := hP
  have hx := Bd.exec
  have hby := Bd.bytes
  have hml : c.maxLocals = 10 := hml0
  have hown : s.vm.findClass "com/example/invertex/invertex/index/HashSlotsFullPinLaw" = some m.cls := findClass_of_methodNamed Bd.named
  have hnm := (name_of_methodNamed Bd.named Bd.method).1
  have X0 : Stand p l e room_1 s m #[(.int p1), (.int p2), (.int p3)] below meth c s₁ [] 0 0 := Stand.of_body Bd
  have e0 : s₁.heap = h0 := by rw [← hh, Bd.state]; rfl
  have N0 := Fr.nil n0
  have pre0 : ∀ t, Steps p.tables e below (s₁.setTop (mkF m 0 #[.val (.int p1), .val (.int p2), .val (.int p3), .unset, .unset, .unset, .unset, .unset, .unset, .unset] [])) t → Steps p.tables e below (s₁.setTop (entryFrame m #[(.int p1), (.int p2), (.int p3)] maxLocals)) t := fun t k => castTop (ef_0 m p1 p2 p3) k
  obtain ⟨T1, X1, e1, st1⟩ := tn0 _ _ _ _ _ _ _ _ _ _ X0 hx hZ hw hby hml hown e0 One.u One.u One.u
  obtain ⟨T2, X2, e2, st2⟩ := hA p1 p2 p3 X1 hx hZ hw hby hml hown e1
  obtain ⟨T3, X3, e3, st3⟩ := hB p1 p2 p3 (slV p1 p3) X2 hx hZ hw hby hml hown e2
  obtain ⟨T4, L4, X4, e4, N4, st4⟩ := hC p1 p2 p3 (slV p1 p3) (cpV (slV p1 p3)) X3 hx hZ hw hby hml hown e3 Z0
  obtain ⟨T5, X5, e5, st5⟩ := hD p1 p2 p3 (slV p1 p3) (cpV (slV p1 p3)) (kyV p2 p3 (cpV (slV p1 p3))) X4 hx hZ hw hby hml hown e4
  obtain ⟨T6, L6, X6, e6, N6, st6⟩ := tE _ _ _ _ _ _ (slV p1 p3) _ (kyV p2 p3 (cpV (slV p1 p3))) (exV (kyV p2 p3 (cpV (slV p1 p3))) (cpV (slV p1 p3))) X5 hx hZ hw hby hml hown e5 Z0 S_LONGEST (own_law p1 p2 p3)
  obtain ⟨fs, hr, hrun, hended, hW, hsame⟩ := X6.leave (v := some (.int (1 : Int32))) (fun h => by rw [Bd.returns] at h; cases h)
  refine ⟨_, _, pre0 _ ?_, hrun, hended, _, _, rfl, ?_, ⟨_, rfl⟩, hW, hsame.mono (by decide) (by decide)⟩
  · refine st1 _ (st2 _ (st3 _ (st4 _ (st5 _ (st6 _ ?_)))))
    exact retN X6 hx (t := .boolean) Bd.returns (by simp) (hb hby at_148) hr
  · exact ⟨rfl, Fr.app (Fr.app N0 N4) N6⟩
set_option maxRecDepth 65536 in
set_option maxHeartbeats 40000000 in
theorem comes_1 {Post : Tables → Env → Array Value → State → Outcome → State → Prop} (hpost : ∀ tb e args s v u, (limb_1_1.after args s (.returned v) u = true ∧ limb_1_2.after args s (.returned v) u = true ∧ True) → FrameEnd s (.returned v) u (Jvm.fieldLocs frame_1_writes args s ++ Jvm.arrayLocs frame_1_arrays args s ++ Jvm.staticLocs frame_1_statics s) 0 0 → Post tb e args s (.returned v) u) :
    ArmFor flags0 classFile x code maxLocals ret World_1 tables_1 room_1 Calls_1 rest_1 Pre_1 Post := by
  intro l hfl _ _ p e ha hc hk s m args below hf hA hF happ hP
  obtain ⟨hcalls, hrest, hpre⟩ := hP
  obtain ⟨-, -, -, hnamed, -, -, -, hat⟩ := (Spec.applies_iff hf).mp happ
  obtain ⟨hg, hn⟩ := and_e (Cond.before_iff.mp (show (Jvm.Cond.and given_1 narrow_1).before args s = true from hpre))
  obtain ⟨g5, g6⟩ := and_e hg
  obtain ⟨g7, g8⟩ := and_e g6
  obtain ⟨g9, g10⟩ := and_e g8
  obtain ⟨w0, w1, w2, rfl⟩ : ∃ w0 w1 w2 : Value, args = #[w0, w1, w2] := by
    have hs : args.size = 3 := by simpa [Cond.value, given_1] using g5
    obtain ⟨L⟩ := args
    match L, hs with
    | [w0, w1, w2], _ => exact ⟨w0, w1, w2, rfl⟩
  have hw := fun d (hd : d ∈ tables_1) => atoms_spec (ws := Jvm.Cond.code x code maxLocals ret :: tables_1) hat d (List.mem_cons_of_mem _ hd)
  have hfit : Fit s := fun {y c} hc i hi => by
    obtain ⟨ha, rfl⟩ := Array.getElem?_eq_some_iff.mp hc
    have q := List.all_eq_true.mp ((Array.all_eq_true_iff_forall_mem.mp hF) _ (Array.getElem_mem ha)) i (List.mem_range.mpr hi)
    simpa [Array.getElem?_eq_getElem hi] using q
  obtain ⟨i0, ei0⟩ := is_v g7
  obtain rfl : w0 = (.int i0) := Option.some.inj ei0
  obtain ⟨i1, ei1⟩ := is_v g9
  obtain rfl : w1 = (.int i1) := Option.some.inj ei1
  obtain ⟨i2, ei2⟩ := is_v g10
  obtain rfl : w2 = (.int i2) := Option.some.inj ei2
  have u1 := own_eqi hn
  have SL := Sta.start u1 (Or.inr ⟨hw _ (List.mem_of_getElem? (i := 5) rfl), hw _ (List.mem_of_getElem? (i := 8) rfl)⟩)
  obtain ⟨n, o, h1, h2, h3, _, L, rfl, ⟨rfl, N⟩, hq⟩ := rm0 l s _ hw tables_1 i0 i1 i2 s.heap s.heap.size (Nat.le_refl _) SL p e ha hc hk s m _ below hf ((Spec.applies_iff_loose hf).mp happ).1 ⟨rfl, State.Warmed39.refl s, rfl⟩ trivial
  refine ⟨n, _, h1, h2, h3, hpost _ _ _ _ _ _ ⟨Cond.after_iff.mpr rfl, Cond.after_iff.mpr (eq_i res_at (Term.int_eval (1)) rfl), trivial⟩ ⟨hq.1, hq.2.1, (hq.2.2.sift fun y hy => Or.inr (N y hy)).mono (by decide) (by decide)⟩⟩
theorem main_1_1 : Claimed_1_1 := comes_1 fun _ _ _ _ _ _ h hF => ⟨h.1, hF⟩
theorem main_1_2 : Claimed_1_2 := comes_1 fun _ _ _ _ _ _ h hF => ⟨h.2.1, hF⟩
end Jvm.Pilot.@@N@@
namespace Jvm.Pilot.@@N@@
open Jvm Jvm.ClassFile Sem Op Lib Jvm.Free Jvm.Stand Jvm.Pilot.@@N@@.Jvm.D
/-! MADE BY PROGRAM (witnessworld.py) out of the Statement's table words and the real class files: 10 classes; the members and pool entries that the words name. The judged class is class 1, her method 1. -/
namespace start1
open Jvm.ClassFile
def u (s : String) : CpInfo := .utf8 (stringToUtf16 s)
/-- a pool by its gaps: so many unusable entries, then the entry; so many at the end -/
def gap : Nat → List CpInfo → List CpInfo
  | 0, r => r
  | n + 1, r => .unusable :: gap n r
def poolList (es : List (Nat × CpInfo)) (last : Nat) : List CpInfo := es.foldr (fun e r => gap e.1 (e.2 :: r)) (gap last [])
def pool (es : List (Nat × CpInfo)) (last : Nat) : Array CpInfo := ⟨poolList es last⟩
def fileOf (pool : Array CpInfo) (this : Nat) (attrs : Array Attribute := #[]) (ms : Array MethodInfo := #[]) (fl : Nat := 33) (sup : Nat := 0) (ifs : Array Nat := #[]) (fds : Array FieldInfo := #[]) : ClassFile where
  minorVersion := 0
  majorVersion := 65
  constantPool := pool
  accessFlags := fl
  thisClass := this
  superClass := sup
  interfaces := ifs
  fields := fds
  methods := ms
  attributes := attrs
def plain (name : String) (sup : Option ClassId) : Class where
  name := name
  kind := .ordinary
  loader := none
  accessFlags := 33
  super := sup
  interfaces := #[]
  cf := none
  fields := #[]
  methods := #[]
  instanceTypes := #[]
  staticTypes := #[]
  resolved := #[]
  callSites := []
  init := .initialized
  statics := none
  mirror := none

def pool0 : Array CpInfo := pool [(5, u "<init>"), (0, u "()V"), (1, .class_ 10), (1, u "java/lang/Object")] 113

def k0m0 : Method := { name := "<init>", desc := "()V", sig := { parameters := [], returnType := none }, accessFlags := 1, code := none }
/-- java/lang/Object -/
def k0 : Class := { plain "java/lang/Object" none with
  accessFlags := 33
  interfaces := #[]
  cf := some (fileOf pool0 8 #[] #[{ accessFlags := 1, nameIndex := 5, descriptorIndex := 6, attributes := #[] }] 33 0 #[] #[])
  fields := #[]
  methods := #[k0m0]
  instanceTypes := #[]
  staticTypes := #[]
  resolved := Array.replicate 124 none
  statics := none }

def pool1 : Array CpInfo := pool [(2, .class_ 4), (1, u "java/lang/Object"), (0, u "<init>"), (0, u "()V"), (0, .integer 2147483644), (0, .integer 1610612733), (0, .integer 2147483647), (2, .methodref 13 14), (0, .class_ 15), (0, .nameAndType 16 17), (0, u "java/lang/Math"), (0, u "max"), (0, u "(II)I"), (0, .methodref 19 20), (0, .class_ 21), (0, .nameAndType 22 23), (0, u "com/example/invertex/invertex/index/HashSlots"), (0, u "full"), (0, u "(II)Z"), (0, .class_ 25), (0, u "com/example/invertex/invertex/index/HashSlotsFullPinLaw"), (2, u "law"), (0, u "(III)Z")] 3

def k1m0 : Method := { name := "<init>", desc := "()V", sig := { parameters := [], returnType := none }, accessFlags := 2, code := none }
def k1c1 : Code := { maxStack := 4, maxLocals := 10, code := code, exceptionTable := #[], attributes := #[] }
def k1m1 : Method := { name := "law", desc := "(III)Z", sig := { parameters := [.int, .int, .int], returnType := some .boolean }, accessFlags := 9, code := some k1c1 }
/-- com/example/invertex/invertex/index/HashSlotsFullPinLaw -/
def k1 : Class := { plain "com/example/invertex/invertex/index/HashSlotsFullPinLaw" (some 0) with
  accessFlags := 49
  interfaces := #[]
  cf := some (fileOf pool1 24 #[] #[{ accessFlags := 2, nameIndex := 5, descriptorIndex := 6, attributes := #[] }, { accessFlags := 9, nameIndex := 28, descriptorIndex := 29, attributes := #[] }] 49 2 #[] #[])
  fields := #[]
  methods := #[k1m0, k1m1]
  instanceTypes := #[]
  staticTypes := #[]
  resolved := Array.replicate 33 none
  statics := none }

def pool2 : Array CpInfo := pool [(2, .class_ 4), (1, u "java/lang/Object"), (0, u "<init>"), (0, u "()V"), (0, .class_ 8), (0, u "com/example/invertex/invertex/index/HashSlots"), (5, .fieldref 7 15), (0, .nameAndType 16 17), (0, u "LONGEST"), (0, u "I"), (0, .long 4), (1, .long 3), (1, .long 2), (9, u "MAX_KEYS"), (0, u "SPREAD"), (7, u "full"), (0, u "(II)Z")] 3

def k2m0 : Method := { name := "<init>", desc := "()V", sig := { parameters := [], returnType := none }, accessFlags := 2, code := none }
def k2c1 : Code := { maxStack := 6, maxLocals := 2, code := prog_91_method_4_code, exceptionTable := #[], attributes := #[] }
def k2m1 : Method := { name := "full", desc := "(II)Z", sig := { parameters := [.int, .int], returnType := some .boolean }, accessFlags := 8, code := some k2c1 }
/-- com/example/invertex/invertex/index/HashSlots -/
def k2 : Class := { plain "com/example/invertex/invertex/index/HashSlots" (some 0) with
  accessFlags := 48
  interfaces := #[]
  cf := some (fileOf pool2 7 #[] #[{ accessFlags := 2, nameIndex := 5, descriptorIndex := 6, attributes := #[] }, { accessFlags := 8, nameIndex := 41, descriptorIndex := 42, attributes := #[] }] 48 2 #[] #[{ accessFlags := 26, nameIndex := 16, descriptorIndex := 17, attributes := #[] }, { accessFlags := 24, nameIndex := 32, descriptorIndex := 17, attributes := #[] }, { accessFlags := 26, nameIndex := 33, descriptorIndex := 17, attributes := #[] }])
  fields := #[{ name := "LONGEST", type := .int, accessFlags := 26, slot := 0, constantValue := 0 }, { name := "MAX_KEYS", type := .int, accessFlags := 24, slot := 1, constantValue := 0 }, { name := "SPREAD", type := .int, accessFlags := 26, slot := 2, constantValue := 0 }]
  methods := #[k2m0, k2m1]
  instanceTypes := #[]
  staticTypes := #[.int, .int, .int]
  resolved := Array.replicate 46 none
  statics := some 0 }

def pool3 : Array CpInfo := pool [(1, .class_ 2), (0, u "java/lang/Math"), (1, .class_ 6), (1, u "java/lang/Object"), (0, u "<init>"), (0, u "()V"), (89, .class_ 100), (1, u "java/lang/Math$RandomNumberGeneratorHolder"), (71, u "negativeZeroFloatBits"), (0, u "J"), (2, u "negativeZeroDoubleBits"), (21, u "max"), (46, u "$assertionsDisabled"), (0, u "Z"), (88, u "(II)I"), (2, u "twoToTheDoubleScaleDown"), (0, u "D"), (4, u "twoToTheDoubleScaleUp"), (9, u "E"), (3, u "PI"), (2, u "TAU"), (2, u "DEGREES_TO_RADIANS"), (0, u "RADIANS_TO_DEGREES")] 94

def k3m0 : Method := { name := "<init>", desc := "()V", sig := { parameters := [], returnType := none }, accessFlags := 2, code := none }
def k3c1 : Code := { maxStack := 2, maxLocals := 2, code := jdk_29_method_65_code, exceptionTable := #[], attributes := #[] }
def k3m1 : Method := { name := "max", desc := "(II)I", sig := { parameters := [.int, .int], returnType := some .int }, accessFlags := 9, code := some k3c1 }
/-- java/lang/Math -/
def k3 : Class := { plain "java/lang/Math" (some 0) with
  accessFlags := 49
  interfaces := #[]
  cf := some (fileOf pool3 1 #[.nestMembers #[98]] #[{ accessFlags := 2, nameIndex := 7, descriptorIndex := 8, attributes := #[] }, { accessFlags := 9, nameIndex := 198, descriptorIndex := 335, attributes := #[] }] 49 4 #[] #[{ accessFlags := 25, nameIndex := 354, descriptorIndex := 339, attributes := #[] }, { accessFlags := 25, nameIndex := 358, descriptorIndex := 339, attributes := #[] }, { accessFlags := 25, nameIndex := 361, descriptorIndex := 339, attributes := #[] }, { accessFlags := 26, nameIndex := 364, descriptorIndex := 339, attributes := #[] }, { accessFlags := 26, nameIndex := 365, descriptorIndex := 339, attributes := #[] }, { accessFlags := 26, nameIndex := 172, descriptorIndex := 173, attributes := #[] }, { accessFlags := 26, nameIndex := 176, descriptorIndex := 173, attributes := #[] }, { accessFlags := 8, nameIndex := 344, descriptorIndex := 339, attributes := #[] }, { accessFlags := 8, nameIndex := 338, descriptorIndex := 339, attributes := #[] }, { accessFlags := 4120, nameIndex := 245, descriptorIndex := 246, attributes := #[] }])
  fields := #[{ name := "E", type := .double, accessFlags := 25, slot := 0, constantValue := 0 }, { name := "PI", type := .double, accessFlags := 25, slot := 1, constantValue := 0 }, { name := "TAU", type := .double, accessFlags := 25, slot := 2, constantValue := 0 }, { name := "DEGREES_TO_RADIANS", type := .double, accessFlags := 26, slot := 3, constantValue := 0 }, { name := "RADIANS_TO_DEGREES", type := .double, accessFlags := 26, slot := 4, constantValue := 0 }, { name := "negativeZeroFloatBits", type := .long, accessFlags := 26, slot := 5, constantValue := 0 }, { name := "negativeZeroDoubleBits", type := .long, accessFlags := 26, slot := 6, constantValue := 0 }, { name := "twoToTheDoubleScaleUp", type := .double, accessFlags := 8, slot := 7, constantValue := 0 }, { name := "twoToTheDoubleScaleDown", type := .double, accessFlags := 8, slot := 8, constantValue := 0 }, { name := "$assertionsDisabled", type := .boolean, accessFlags := 4120, slot := 9, constantValue := 0 }]
  methods := #[k3m0, k3m1]
  instanceTypes := #[]
  staticTypes := #[.double, .double, .double, .double, .double, .long, .long, .double, .double, .boolean]
  resolved := Array.replicate 460 none
  statics := none }

def pool4 : Array CpInfo := pool [(1, u "java/lang/Cloneable"), (0, .class_ 1), (0, u "java/lang/Object"), (0, .class_ 3)] 3

/-- java/lang/Cloneable -/
def k4 : Class := { plain "java/lang/Cloneable" (some 0) with
  accessFlags := 1537
  interfaces := #[]
  cf := some (fileOf pool4 2 #[] #[] 1537 4 #[] #[])
  fields := #[]
  methods := #[]
  instanceTypes := #[]
  staticTypes := #[]
  resolved := Array.replicate 8 none
  statics := none }

def pool5 : Array CpInfo := pool [(1, u "java/io/Serializable"), (0, .class_ 1), (0, u "java/lang/Object"), (0, .class_ 3)] 3

/-- java/io/Serializable -/
def k5 : Class := { plain "java/io/Serializable" (some 0) with
  accessFlags := 1537
  interfaces := #[]
  cf := some (fileOf pool5 2 #[] #[] 1537 4 #[] #[])
  fields := #[]
  methods := #[]
  instanceTypes := #[]
  staticTypes := #[]
  resolved := Array.replicate 8 none
  statics := none }

/-- the primitive byte -/
def k6 : Class := { plain "byte" none with kind := .primitive 'B', accessFlags := 0x411 }
/-- [B -/
def k7 : Class := { plain "[B" (some 0) with kind := .array 6 .byte, interfaces := #[4, 5], accessFlags := 1041 }

/-- the primitive int -/
def k8 : Class := { plain "int" none with kind := .primitive 'I', accessFlags := 0x411 }
/-- [I -/
def k9 : Class := { plain "[I" (some 0) with kind := .array 8 .int, interfaces := #[4, 5], accessFlags := 1041 }

def heap : Heap := #[{ cls := 2, slots := #[.int 2147483644, .int 0, .int 0], vm := .statics 2 }]
def classes : Array Class := #[k0, k1, k2, k3, k4, k5, k6, k7, k8, k9]
def interned : List (Array UInt16 × Addr) := []
def slotsUsed : Nat := 3
def theMethod : MethodId := ⟨1, 1⟩
def args0 : Array Value := #[.int 5, .int 7, .int 3]
def aboutOver (below : List Frame) : State where
  vm := { classes := classes, interned := interned.toArray }
  heap := heap
  slotsUsed := slotsUsed
  threads := #[{ frames := .invoking theMethod args0 :: below }]
def below0 : List Frame := [.native { method := ⟨0, 0⟩, args := #[] }]
def about1 : State := aboutOver below0
def p0 : Program := .bare "" "" ""
def e0 : Env := launch0.env 0 0 0
theorem w_frames : about1.frames = Frame.invoking theMethod args0 :: below0 := rfl
set_option maxRecDepth 65536 in
theorem w_args : argsFit about1.vm theMethod args0 = true := by decide +kernel
set_option maxRecDepth 65536 in
theorem w_heap : heapFits about1 = true := by decide +kernel
set_option maxRecDepth 65536 in
theorem w_runnable : about1.curStatus? = some .runnable := by decide +kernel
set_option maxRecDepth 65536 in
theorem w_alone : about1.alone = true := by decide +kernel
set_option maxRecDepth 65536 in
theorem w_named : about1.methodNamed? x = some theMethod := by decide +kernel
set_option maxRecDepth 65536 in
theorem w_hears : about1.hears theMethod below0 = true := by decide +kernel
set_option maxRecDepth 65536 in
theorem w_ripe : about1.ripe theMethod args0 below0 = true := by decide +kernel
theorem w_running : about1.status = .running := rfl
set_option maxRecDepth 65536 in
theorem w_room : about1.hasRoom e0.platform room_1 = true :=
  launch0.hasRoom_least _ room_1 (by decide +kernel) (by decide +kernel) (by decide +kernel) (by decide +kernel) (by decide +kernel) (by decide +kernel)
theorem allAtoms_all (ts : List Jvm.Cond) (a : Array Jvm.Value) (st : Jvm.State) : (allAtoms ts).before a st = ts.all (fun c => c.before a st) := by
  induction ts with
  | nil => rfl
  | cons c t ih =>
    show (Jvm.Cond.and c (allAtoms t)).before a st = _
    rw [Jvm.Cond.before_and, ih, List.all_cons]
def words1 : List Jvm.Cond := Jvm.Cond.code x code maxLocals ret :: tables_1
/-- a 'code' word, met by the world's own term for the bytes: nothing is compared byte by byte -/
theorem code_word {y : MethodName} {bytes : ByteArray} {mx : Nat} {rt : Option FieldType} {a : Array Value} {s : State} {m : MethodId} {meth : Method} {c : Code} (h1 : s.methodNamed? y = some m) (h2 : s.vm.method? m = some meth) (h3 : meth.code = some c) (h4 : c.code = bytes)
    (h5 : (c.maxLocals == mx && c.exceptionTable.isEmpty && decide (c.maxStack ≤ mostOperands) && decide (meth.sig.returnType = rt) && !meth.locks && decide (parseMethodDescriptor y.desc = some meth.sig)) = true) : (Jvm.Cond.code y bytes mx rt).before a s = true := by
  simp only [Bool.and_eq_true, beq_iff_eq, Bool.not_eq_true', decide_eq_true_eq] at h5
  obtain ⟨⟨⟨⟨⟨g1, g2⟩, g3⟩, g4⟩, g5⟩, g6⟩ := h5
  simp [Cond.before, Cond.holds, Cond.value, h1, h2, h3, h4, g1, g2, g3, g4, g5, g6]
def isCode : Jvm.Cond → Bool
  | .code _ _ _ _ => true
  | _ => false
theorem all_split {L : List Jvm.Cond} {P : Jvm.Cond → Bool} (h1 : L.all (fun c => isCode c || P c) = true) (h2 : ∀ c ∈ L.filter isCode, P c = true) : L.all P = true := by
  refine List.all_eq_true.mpr fun c hc => ?_
  have h := List.all_eq_true.mp h1 c hc
  rcases Bool.eq_false_or_eq_true (isCode c) with hi | hi
  · exact h2 c (List.mem_filter.mpr ⟨hc, hi⟩)
  · simpa [hi] using h
set_option maxRecDepth 65536 in
theorem w_c0 : (Jvm.Cond.code x code maxLocals ret).before args0 about1 = true := code_word (m := ⟨1, 1⟩) (meth := k1m1) (c := k1c1) (by decide +kernel) rfl rfl rfl (by decide +kernel)
set_option maxRecDepth 65536 in
theorem w_c1 : (Jvm.Cond.code ({ cls := "com/example/invertex/invertex/index/HashSlots", name := "full", desc := "(II)Z" } : Jvm.MethodName) prog_91_method_4_code (2 : Nat) (Option.some Jvm.ClassFile.FieldType.boolean)).before args0 about1 = true := code_word (m := ⟨2, 1⟩) (meth := k2m1) (c := k2c1) (by decide +kernel) rfl rfl rfl (by decide +kernel)
set_option maxRecDepth 65536 in
theorem w_c2 : (Jvm.Cond.code ({ cls := "java/lang/Math", name := "max", desc := "(II)I" } : Jvm.MethodName) jdk_29_method_65_code (2 : Nat) (Option.some Jvm.ClassFile.FieldType.int)).before args0 about1 = true := code_word (m := ⟨3, 1⟩) (meth := k3m1) (c := k3c1) (by decide +kernel) rfl rfl rfl (by decide +kernel)
def codes1 : List Jvm.Cond := [Jvm.Cond.code x code maxLocals ret, Jvm.Cond.code ({ cls := "com/example/invertex/invertex/index/HashSlots", name := "full", desc := "(II)Z" } : Jvm.MethodName) prog_91_method_4_code (2 : Nat) (Option.some Jvm.ClassFile.FieldType.boolean), Jvm.Cond.code ({ cls := "java/lang/Math", name := "max", desc := "(II)I" } : Jvm.MethodName) jdk_29_method_65_code (2 : Nat) (Option.some Jvm.ClassFile.FieldType.int)]
set_option maxRecDepth 65536 in
theorem codes_eq : words1.filter isCode = codes1 := rfl
theorem w_codes : ∀ c ∈ words1.filter isCode, c.before args0 about1 = true := by
  rw [codes_eq]
  intro c hc
  simp only [codes1, List.mem_cons, List.not_mem_nil, or_false] at hc
  rcases hc with rfl | rfl | rfl
  · exact w_c0
  · exact w_c1
  · exact w_c2
set_option maxRecDepth 65536 in
theorem w_t1 : words1.all (fun c => isCode c || c.before args0 about1) = true := by decide +kernel
theorem w_tables : (allAtoms (Jvm.Cond.code x code maxLocals ret :: tables_1)).before args0 about1 = true := by
  rw [allAtoms_all]
  show words1.all (fun c => c.before args0 about1) = true
  refine all_split ?_ w_codes
  rw [w_t1]
set_option maxRecDepth 65536 in
theorem w_case : (Jvm.Cond.and given_1 narrow_1).before args0 about1 = true := by decide +kernel
theorem w_applies : (headSpec (Jvm.Cond.code x code maxLocals ret :: tables_1) room_1).applies x e0.platform about1 = true :=
  (Spec.applies_iff w_frames).mpr ⟨w_running, w_runnable, w_alone, w_named, w_hears, w_ripe, w_room, w_tables⟩
theorem atStart : AtStart classFile x code maxLocals ret World_1 tables_1 room_1 Calls_1 rest_1 Pre_1 launch0 p0 e0 about1 theMethod args0 below0 :=
  ⟨lists_1, trivial, launch0.admits_env _ _ _, launch0.least_env, fairChoices_fair.cas, fairChoices_fair.clock, w_frames, w_args, w_heap, w_applies, trivial, trivial, w_case⟩
end start1
theorem witness_1 : WitnessClaimed_1 := ⟨start1.p0, start1.e0, start1.about1, start1.theMethod, start1.args0, start1.below0, start1.atStart⟩
end Jvm.Pilot.@@N@@
