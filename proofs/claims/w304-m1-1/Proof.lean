import JvmDerived
import JvmDerived.Pilot.@@N@@Statement
import JvmDerived.Pilot.@@N@@Code
set_option linter.unusedVariables false
set_option linter.unusedSimpArgs false
@@BLOCK:NumsL.lean.txt@@
namespace Jvm.RoadKit
open Sem ClassFile Op Lib Jvm.Stand Jvm.Free Jvm.LawKit
section New
variable {p : Program} {l : Launch} {e : Env} {R : Room} {s : State} {m : MethodId} {args : Array Value} {below : List Frame} {meth : Method} {c : Code} {T : State} {locs : List Loc} {cells slots : Nat}
theorem retI (X : Stand p l e R s m args below meth c T locs cells slots) (hx : p.tables.exec = Jvm.exec) {pc : Nat} {Ls : Array Slot} {z : Int32} {rest : List Value} (hret : meth.sig.returnType = some .int) (hd : decode c.code pc = .ok (.ireturn, 1)) {fs : List Frame}
    (hl : ∀ (f : JFrame) (acts : List Action), f.method = m → f.locked = none → f.entered = [] → (doReturn e (T.setTop f) acts (some (.int z))).1 = T.setFrames fs) : Steps p.tables e below (T.setTop (mkF m pc Ls (.int z :: rest))) (T.setFrames fs) := by
  have hm' : T.vm.method? m = some meth := X.method'
  have hn : narrow .int (.int z) = .int z := rfl
  show Steps p.tables e below (T.setTop { method := m, pc := pc, locals := Ls, stack := _ :: rest, locked := none }) _
  jvm_step X.here [X.here.top, hx, hd, hm', hret, hn]
  first | (intro acts; rw [hl _ acts rfl rfl rfl]) | rw [hl _ _ rfl rfl rfl]
  exact Steps.refl _
end New
end Jvm.RoadKit
namespace Jvm.Pilot.@@N@@
open Jvm Jvm.ClassFile Sem Op Lib Jvm.Free Jvm.Stand Jvm.LawKit Jvm.RoadKit Bundle Jvm.Pilot.@@N@@.Jvm.D
theorem own_fld {args : Array Value} {s : State} {t : Term} {C n d : String} {k : Int32} {a : Addr} (ht : t.eval args s none [] s = some (.ref a)) (h : (Cond.eq (.field t C n d) (.int k)).value args s none s [] = some true) : s.fieldOf? a C n d = some (.int k) := by
  cases hf : s.fieldOf? a C n d with
  | none => simp [Cond.value, Term.eval, ht, hf] at h
  | some v => cases v <;> simp [Cond.value, Term.eval, ht, hf] at h ⊢; exact h
theorem own_fld_inj {Z : State} {h : Heap} {a : Addr} {C n d : String} {v w : Value} (F : Fld Z h a C n d v) (G : Fld Z h a C n d w) : v = w := by
  obtain ⟨cell, cf, k, i, f, h1, h2, -, -, -, -, h7⟩ := F
  obtain ⟨cell', cf', k', i', f', g1, g2, -, -, -, -, g7⟩ := G
  cases h1.symm.trans g1
  cases h2.symm.trans g2
  exact Option.some.inj (h7.symm.trans g7)
theorem own_ne {Z : State} {h : Heap} {a b : Addr} {C n d : String} {i j : Int32} (F : Fld Z h a C n d (.int i)) (G : Fld Z h b C n d (.int j)) (hij : i ≠ j) : a ≠ b := fun e => by
  subst e
  exact hij (Value.int.inj (own_fld_inj F G))
theorem own_sta_keep {Z : State} {h h' : Heap} {C n d : String} {v : Value} (F : Sta Z h C n d v) (K : Keep h h' []) : Sta Z h' C n d v := by
  obtain ⟨cf, i, k, f, st, cell, h1, h2, h3, h4, h5, r⟩ := F
  exact ⟨cf, i, k, f, st, cell, h1, h2, h3, h4, K.2.1 _ _ h5 List.not_mem_nil, r⟩
def Qk (r : Value) (h0 : Heap) (n0 : Nat) (v : Option Value) (h : Heap) (L : List Loc) : Prop := v = some r ∧ Fr n0 L ∧ h = h0
theorem d1_0 : decode prog_14_method_6_code 0 = .ok (.iload_n 0, 1) := by decide +kernel
theorem d1_1 : decode prog_14_method_6_code 1 = .ok (.bipush 123, 2) := by decide +kernel
theorem d1_3 : decode prog_14_method_6_code 3 = .ok (.if_icmp .ne 10, 3) := by decide +kernel
theorem d1_6 : decode prog_14_method_6_code 6 = .ok (.getstatic 3, 3) := by decide +kernel
theorem d1_9 : decode prog_14_method_6_code 9 = .ok (.astore_n 1, 1) := by decide +kernel
theorem d1_10 : decode prog_14_method_6_code 10 = .ok (.goto 95, 3) := by decide +kernel
theorem d1_105 : decode prog_14_method_6_code 105 = .ok (.aload_n 1, 1) := by decide +kernel
theorem d1_106 : decode prog_14_method_6_code 106 = .ok (.areturn, 1) := by decide +kernel
theorem pn_1 : plainName "com/example/tenkyo/tenkyo/exchange/Json$Kind" = true := by first | (simp [plainName, overriddenIn]; done) | decide +kernel
theorem ef_1 (m : MethodId) (x0 : Int32) : entryFrame m #[(.int x0)] 2 = mkF m 0 #[.val (.int x0), .unset] [] := by first | (simp [entryFrame, mkF, argsToLocals, Value.category]; done) | rfl
set_option maxRecDepth 65536 in
set_option maxHeartbeats 40000000 in
theorem rm1_obj (l : Launch) (Z : State) (a0 : Array Value) (hw : ∀ d ∈ tables_1, d.before a0 Z = true) (ws : List Jvm.Cond) (p1 : Int32) (w2 : Addr) (h0 : Heap) (n0 : Nat) (Z0 : n0 ≤ h0.size) (S_OBJECT : Sta Z h0 "com/example/tenkyo/tenkyo/exchange/Json$Kind" "OBJECT" "Lcom/example/tenkyo/tenkyo/exchange/Json$Kind;" (.ref w2)) (hc3 : p1 = (123 : Int32)) :
    MetFree l (⟨"com/example/tenkyo/tenkyo/exchange/Json$Kind", "of", "(C)Lcom/example/tenkyo/tenkyo/exchange/Json$Kind;"⟩ : MethodName) (head1 (Jvm.Cond.code (⟨"com/example/tenkyo/tenkyo/exchange/Json$Kind", "of", "(C)Lcom/example/tenkyo/tenkyo/exchange/Json$Kind;"⟩ : MethodName) prog_14_method_6_code 2 (some (.object "com/example/tenkyo/tenkyo/exchange/Json$Kind")) :: ws) ({ frames := 0, cells := 0, slots := 0, locals := 0 } : Room)) (fun a U => a = #[(.int p1)] ∧ Z.Warmed39 U.vm ∧ U.heap = h0) (fun _ _ _ _ _ => True) (fun _ U o U' => ∃ v L, o = .returned v ∧ Qk (.ref w2) h0 n0 v U'.heap L ∧ FrameEnd U o U' L ({ frames := 0, cells := 0, slots := 0, locals := 0 } : Room).cells ({ frames := 0, cells := 0, slots := 0, locals := 0 } : Room).slots) := by
  refine MetFree.of_bodySF (plainFor_of_name pn_1) hisR ?_
  intro p e s m args below meth c s₁ Bd hml0 hP hK
  obtain ⟨rfl, hZ, hh⟩ := hP
  have hx := Bd.exec
  have hby := Bd.bytes
  have hml : c.maxLocals = 2 := hml0
  have hown : s.vm.findClass "com/example/tenkyo/tenkyo/exchange/Json$Kind" = some m.cls := findClass_of_methodNamed Bd.named
  have hnm := (name_of_methodNamed Bd.named Bd.method).1
  have X0 : Stand p l e ({ frames := 0, cells := 0, slots := 0, locals := 0 } : Room) s m #[(.int p1)] below meth c s₁ [] 0 0 := Stand.of_body Bd
  have e0 : s₁.heap = h0 := by rw [← hh, Bd.state]; rfl
  have N0 := Fr.nil n0
  have pre0 : ∀ t, Steps p.tables e below (s₁.setTop (mkF m 0 #[.val (.int p1), .unset] [])) t → Steps p.tables e below (s₁.setTop (entryFrame m #[(.int p1)] 2)) t := fun t k => castTop (ef_1 m p1) k
  obtain ⟨T3, X3, e3, st3⟩ := getS2 X0 hx hZ hown (host := "") (Or.inl (hw _ (List.mem_of_getElem? (i := 7) rfl))) Via.refl e0 S_OBJECT (g := (mkF m 6 #[.val (.int p1), .unset] [])) rfl (hb hby d1_6)
  obtain ⟨fs, hr, hrun, hended, hW, hsame⟩ := X3.leave (v := some (.ref w2)) (fun h => by rw [Bd.returns] at h; cases h)
  refine ⟨_, _, pre0 _ ?_, hrun, hended, _, _, rfl, ?_, ⟨_, rfl⟩, hW, hsame.mono (by decide) (by decide)⟩
  · show Steps p.tables e below (s₁.setTop (mkF m 0 #[.val (.int p1), .unset] [])) _
    refine XS.iloadN X0.here hx rfl (hb hby d1_0) rfl ?_
    show Steps p.tables e below (s₁.setTop (mkF m 1 #[.val (.int p1), .unset] [(.int p1)])) _
    refine XS.bipush X0.here hx rfl (hb hby d1_1) ?_
    show Steps p.tables e below (s₁.setTop (mkF m 3 #[.val (.int p1), .unset] [(.int (123 : Int32)), (.int p1)])) _
    refine XS.icmpNo X0.here hx rfl (hb hby d1_3) rfl (teq hc3).2 ?_
    show Steps p.tables e below (s₁.setTop (mkF m 6 #[.val (.int p1), .unset] [])) _
    refine st3 _ ?_
    show Steps p.tables e below (T3.setTop (mkF m 9 #[.val (.int p1), .unset] [(.ref w2)])) _
    refine XS.astoreN X3.here hx rfl (hb hby d1_9) rfl rfl (l' := #[.val (.int p1), .val (.ref w2)]) rfl ?_
    show Steps p.tables e below (T3.setTop (mkF m 10 #[.val (.int p1), .val (.ref w2)] [])) _
    refine XS.goto X3.here hx rfl (pc0 := 10) (pc' := 105) rfl (hb hby d1_10) (by decide) (by decide) ?_
    show Steps p.tables e below (T3.setTop (mkF m 105 #[.val (.int p1), .val (.ref w2)] [])) _
    refine XS.aloadN X3.here hx rfl (hb hby d1_105) rfl rfl ?_
    show Steps p.tables e below (T3.setTop (mkF m 106 #[.val (.int p1), .val (.ref w2)] [(.ref w2)])) _
    jvm_step X3.here [X3.here.top, hx, (hb hby d1_106), X3.method', Bd.returns, Value.isRef, FieldType.isReference]
    first | (intro acts; rw [hr _ acts rfl rfl rfl]) | rw [hr _ _ rfl rfl rfl]
    exact Steps.refl _
  · show Qk (.ref w2) h0 n0 _ T3.heap _
    rw [e3]
    exact ⟨rfl, N0, rfl⟩
theorem d1_13 : decode prog_14_method_6_code 13 = .ok (.iload_n 0, 1) := by decide +kernel
theorem d1_14 : decode prog_14_method_6_code 14 = .ok (.bipush 91, 2) := by decide +kernel
theorem d1_16 : decode prog_14_method_6_code 16 = .ok (.if_icmp .ne 10, 3) := by decide +kernel
theorem d1_19 : decode prog_14_method_6_code 19 = .ok (.getstatic 7, 3) := by decide +kernel
theorem d1_22 : decode prog_14_method_6_code 22 = .ok (.astore_n 1, 1) := by decide +kernel
theorem d1_23 : decode prog_14_method_6_code 23 = .ok (.goto 82, 3) := by decide +kernel
set_option maxRecDepth 65536 in
set_option maxHeartbeats 40000000 in
theorem rm1_arr (l : Launch) (Z : State) (a0 : Array Value) (hw : ∀ d ∈ tables_1, d.before a0 Z = true) (ws : List Jvm.Cond) (p1 : Int32) (w2 : Addr) (h0 : Heap) (n0 : Nat) (Z0 : n0 ≤ h0.size) (S_ARRAY : Sta Z h0 "com/example/tenkyo/tenkyo/exchange/Json$Kind" "ARRAY" "Lcom/example/tenkyo/tenkyo/exchange/Json$Kind;" (.ref w2)) (hc3 : ¬ (p1 = (123 : Int32))) (hc16 : p1 = (91 : Int32)) :
    MetFree l (⟨"com/example/tenkyo/tenkyo/exchange/Json$Kind", "of", "(C)Lcom/example/tenkyo/tenkyo/exchange/Json$Kind;"⟩ : MethodName) (head1 (Jvm.Cond.code (⟨"com/example/tenkyo/tenkyo/exchange/Json$Kind", "of", "(C)Lcom/example/tenkyo/tenkyo/exchange/Json$Kind;"⟩ : MethodName) prog_14_method_6_code 2 (some (.object "com/example/tenkyo/tenkyo/exchange/Json$Kind")) :: ws) ({ frames := 0, cells := 0, slots := 0, locals := 0 } : Room)) (fun a U => a = #[(.int p1)] ∧ Z.Warmed39 U.vm ∧ U.heap = h0) (fun _ _ _ _ _ => True) (fun _ U o U' => ∃ v L, o = .returned v ∧ Qk (.ref w2) h0 n0 v U'.heap L ∧ FrameEnd U o U' L ({ frames := 0, cells := 0, slots := 0, locals := 0 } : Room).cells ({ frames := 0, cells := 0, slots := 0, locals := 0 } : Room).slots) := by
  refine MetFree.of_bodySF (plainFor_of_name pn_1) hisR ?_
  intro p e s m args below meth c s₁ Bd hml0 hP hK
  obtain ⟨rfl, hZ, hh⟩ := hP
  have hx := Bd.exec
  have hby := Bd.bytes
  have hml : c.maxLocals = 2 := hml0
  have hown : s.vm.findClass "com/example/tenkyo/tenkyo/exchange/Json$Kind" = some m.cls := findClass_of_methodNamed Bd.named
  have hnm := (name_of_methodNamed Bd.named Bd.method).1
  have X0 : Stand p l e ({ frames := 0, cells := 0, slots := 0, locals := 0 } : Room) s m #[(.int p1)] below meth c s₁ [] 0 0 := Stand.of_body Bd
  have e0 : s₁.heap = h0 := by rw [← hh, Bd.state]; rfl
  have N0 := Fr.nil n0
  have pre0 : ∀ t, Steps p.tables e below (s₁.setTop (mkF m 0 #[.val (.int p1), .unset] [])) t → Steps p.tables e below (s₁.setTop (entryFrame m #[(.int p1)] 2)) t := fun t k => castTop (ef_1 m p1) k
  obtain ⟨T3, X3, e3, st3⟩ := getS2 X0 hx hZ hown (host := "") (Or.inl (hw _ (List.mem_of_getElem? (i := 25) rfl))) Via.refl e0 S_ARRAY (g := (mkF m 19 #[.val (.int p1), .unset] [])) rfl (hb hby d1_19)
  obtain ⟨fs, hr, hrun, hended, hW, hsame⟩ := X3.leave (v := some (.ref w2)) (fun h => by rw [Bd.returns] at h; cases h)
  refine ⟨_, _, pre0 _ ?_, hrun, hended, _, _, rfl, ?_, ⟨_, rfl⟩, hW, hsame.mono (by decide) (by decide)⟩
  · show Steps p.tables e below (s₁.setTop (mkF m 0 #[.val (.int p1), .unset] [])) _
    refine XS.iloadN X0.here hx rfl (hb hby d1_0) rfl ?_
    show Steps p.tables e below (s₁.setTop (mkF m 1 #[.val (.int p1), .unset] [(.int p1)])) _
    refine XS.bipush X0.here hx rfl (hb hby d1_1) ?_
    show Steps p.tables e below (s₁.setTop (mkF m 3 #[.val (.int p1), .unset] [(.int (123 : Int32)), (.int p1)])) _
    refine XS.icmpYes X0.here hx rfl (pc0 := 3) (pc' := 13) rfl (hb hby d1_3) rfl (feq hc3).2 (by decide) (by decide) ?_
    show Steps p.tables e below (s₁.setTop (mkF m 13 #[.val (.int p1), .unset] [])) _
    refine XS.iloadN X0.here hx rfl (hb hby d1_13) rfl ?_
    show Steps p.tables e below (s₁.setTop (mkF m 14 #[.val (.int p1), .unset] [(.int p1)])) _
    refine XS.bipush X0.here hx rfl (hb hby d1_14) ?_
    show Steps p.tables e below (s₁.setTop (mkF m 16 #[.val (.int p1), .unset] [(.int (91 : Int32)), (.int p1)])) _
    refine XS.icmpNo X0.here hx rfl (hb hby d1_16) rfl (teq hc16).2 ?_
    show Steps p.tables e below (s₁.setTop (mkF m 19 #[.val (.int p1), .unset] [])) _
    refine st3 _ ?_
    show Steps p.tables e below (T3.setTop (mkF m 22 #[.val (.int p1), .unset] [(.ref w2)])) _
    refine XS.astoreN X3.here hx rfl (hb hby d1_22) rfl rfl (l' := #[.val (.int p1), .val (.ref w2)]) rfl ?_
    show Steps p.tables e below (T3.setTop (mkF m 23 #[.val (.int p1), .val (.ref w2)] [])) _
    refine XS.goto X3.here hx rfl (pc0 := 23) (pc' := 105) rfl (hb hby d1_23) (by decide) (by decide) ?_
    show Steps p.tables e below (T3.setTop (mkF m 105 #[.val (.int p1), .val (.ref w2)] [])) _
    refine XS.aloadN X3.here hx rfl (hb hby d1_105) rfl rfl ?_
    show Steps p.tables e below (T3.setTop (mkF m 106 #[.val (.int p1), .val (.ref w2)] [(.ref w2)])) _
    jvm_step X3.here [X3.here.top, hx, (hb hby d1_106), X3.method', Bd.returns, Value.isRef, FieldType.isReference]
    first | (intro acts; rw [hr _ acts rfl rfl rfl]) | rw [hr _ _ rfl rfl rfl]
    exact Steps.refl _
  · show Qk (.ref w2) h0 n0 _ T3.heap _
    rw [e3]
    exact ⟨rfl, N0, rfl⟩
theorem d1_26 : decode prog_14_method_6_code 26 = .ok (.iload_n 0, 1) := by decide +kernel
theorem d1_27 : decode prog_14_method_6_code 27 = .ok (.bipush 34, 2) := by decide +kernel
theorem d1_29 : decode prog_14_method_6_code 29 = .ok (.if_icmp .ne 10, 3) := by decide +kernel
theorem d1_32 : decode prog_14_method_6_code 32 = .ok (.getstatic 10, 3) := by decide +kernel
theorem d1_35 : decode prog_14_method_6_code 35 = .ok (.astore_n 1, 1) := by decide +kernel
theorem d1_36 : decode prog_14_method_6_code 36 = .ok (.goto 69, 3) := by decide +kernel
set_option maxRecDepth 65536 in
set_option maxHeartbeats 40000000 in
theorem rm1_str (l : Launch) (Z : State) (a0 : Array Value) (hw : ∀ d ∈ tables_1, d.before a0 Z = true) (ws : List Jvm.Cond) (p1 : Int32) (w2 : Addr) (h0 : Heap) (n0 : Nat) (Z0 : n0 ≤ h0.size) (S_STRING : Sta Z h0 "com/example/tenkyo/tenkyo/exchange/Json$Kind" "STRING" "Lcom/example/tenkyo/tenkyo/exchange/Json$Kind;" (.ref w2)) (hc3 : ¬ (p1 = (123 : Int32))) (hc16 : ¬ (p1 = (91 : Int32))) (hc29 : p1 = (34 : Int32)) :
    MetFree l (⟨"com/example/tenkyo/tenkyo/exchange/Json$Kind", "of", "(C)Lcom/example/tenkyo/tenkyo/exchange/Json$Kind;"⟩ : MethodName) (head1 (Jvm.Cond.code (⟨"com/example/tenkyo/tenkyo/exchange/Json$Kind", "of", "(C)Lcom/example/tenkyo/tenkyo/exchange/Json$Kind;"⟩ : MethodName) prog_14_method_6_code 2 (some (.object "com/example/tenkyo/tenkyo/exchange/Json$Kind")) :: ws) ({ frames := 0, cells := 0, slots := 0, locals := 0 } : Room)) (fun a U => a = #[(.int p1)] ∧ Z.Warmed39 U.vm ∧ U.heap = h0) (fun _ _ _ _ _ => True) (fun _ U o U' => ∃ v L, o = .returned v ∧ Qk (.ref w2) h0 n0 v U'.heap L ∧ FrameEnd U o U' L ({ frames := 0, cells := 0, slots := 0, locals := 0 } : Room).cells ({ frames := 0, cells := 0, slots := 0, locals := 0 } : Room).slots) := by
  refine MetFree.of_bodySF (plainFor_of_name pn_1) hisR ?_
  intro p e s m args below meth c s₁ Bd hml0 hP hK
  obtain ⟨rfl, hZ, hh⟩ := hP
  have hx := Bd.exec
  have hby := Bd.bytes
  have hml : c.maxLocals = 2 := hml0
  have hown : s.vm.findClass "com/example/tenkyo/tenkyo/exchange/Json$Kind" = some m.cls := findClass_of_methodNamed Bd.named
  have hnm := (name_of_methodNamed Bd.named Bd.method).1
  have X0 : Stand p l e ({ frames := 0, cells := 0, slots := 0, locals := 0 } : Room) s m #[(.int p1)] below meth c s₁ [] 0 0 := Stand.of_body Bd
  have e0 : s₁.heap = h0 := by rw [← hh, Bd.state]; rfl
  have N0 := Fr.nil n0
  have pre0 : ∀ t, Steps p.tables e below (s₁.setTop (mkF m 0 #[.val (.int p1), .unset] [])) t → Steps p.tables e below (s₁.setTop (entryFrame m #[(.int p1)] 2)) t := fun t k => castTop (ef_1 m p1) k
  obtain ⟨T3, X3, e3, st3⟩ := getS2 X0 hx hZ hown (host := "") (Or.inl (hw _ (List.mem_of_getElem? (i := 27) rfl))) Via.refl e0 S_STRING (g := (mkF m 32 #[.val (.int p1), .unset] [])) rfl (hb hby d1_32)
  obtain ⟨fs, hr, hrun, hended, hW, hsame⟩ := X3.leave (v := some (.ref w2)) (fun h => by rw [Bd.returns] at h; cases h)
  refine ⟨_, _, pre0 _ ?_, hrun, hended, _, _, rfl, ?_, ⟨_, rfl⟩, hW, hsame.mono (by decide) (by decide)⟩
  · show Steps p.tables e below (s₁.setTop (mkF m 0 #[.val (.int p1), .unset] [])) _
    refine XS.iloadN X0.here hx rfl (hb hby d1_0) rfl ?_
    show Steps p.tables e below (s₁.setTop (mkF m 1 #[.val (.int p1), .unset] [(.int p1)])) _
    refine XS.bipush X0.here hx rfl (hb hby d1_1) ?_
    show Steps p.tables e below (s₁.setTop (mkF m 3 #[.val (.int p1), .unset] [(.int (123 : Int32)), (.int p1)])) _
    refine XS.icmpYes X0.here hx rfl (pc0 := 3) (pc' := 13) rfl (hb hby d1_3) rfl (feq hc3).2 (by decide) (by decide) ?_
    show Steps p.tables e below (s₁.setTop (mkF m 13 #[.val (.int p1), .unset] [])) _
    refine XS.iloadN X0.here hx rfl (hb hby d1_13) rfl ?_
    show Steps p.tables e below (s₁.setTop (mkF m 14 #[.val (.int p1), .unset] [(.int p1)])) _
    refine XS.bipush X0.here hx rfl (hb hby d1_14) ?_
    show Steps p.tables e below (s₁.setTop (mkF m 16 #[.val (.int p1), .unset] [(.int (91 : Int32)), (.int p1)])) _
    refine XS.icmpYes X0.here hx rfl (pc0 := 16) (pc' := 26) rfl (hb hby d1_16) rfl (feq hc16).2 (by decide) (by decide) ?_
    show Steps p.tables e below (s₁.setTop (mkF m 26 #[.val (.int p1), .unset] [])) _
    refine XS.iloadN X0.here hx rfl (hb hby d1_26) rfl ?_
    show Steps p.tables e below (s₁.setTop (mkF m 27 #[.val (.int p1), .unset] [(.int p1)])) _
    refine XS.bipush X0.here hx rfl (hb hby d1_27) ?_
    show Steps p.tables e below (s₁.setTop (mkF m 29 #[.val (.int p1), .unset] [(.int (34 : Int32)), (.int p1)])) _
    refine XS.icmpNo X0.here hx rfl (hb hby d1_29) rfl (teq hc29).2 ?_
    show Steps p.tables e below (s₁.setTop (mkF m 32 #[.val (.int p1), .unset] [])) _
    refine st3 _ ?_
    show Steps p.tables e below (T3.setTop (mkF m 35 #[.val (.int p1), .unset] [(.ref w2)])) _
    refine XS.astoreN X3.here hx rfl (hb hby d1_35) rfl rfl (l' := #[.val (.int p1), .val (.ref w2)]) rfl ?_
    show Steps p.tables e below (T3.setTop (mkF m 36 #[.val (.int p1), .val (.ref w2)] [])) _
    refine XS.goto X3.here hx rfl (pc0 := 36) (pc' := 105) rfl (hb hby d1_36) (by decide) (by decide) ?_
    show Steps p.tables e below (T3.setTop (mkF m 105 #[.val (.int p1), .val (.ref w2)] [])) _
    refine XS.aloadN X3.here hx rfl (hb hby d1_105) rfl rfl ?_
    show Steps p.tables e below (T3.setTop (mkF m 106 #[.val (.int p1), .val (.ref w2)] [(.ref w2)])) _
    jvm_step X3.here [X3.here.top, hx, (hb hby d1_106), X3.method', Bd.returns, Value.isRef, FieldType.isReference]
    first | (intro acts; rw [hr _ acts rfl rfl rfl]) | rw [hr _ _ rfl rfl rfl]
    exact Steps.refl _
  · show Qk (.ref w2) h0 n0 _ T3.heap _
    rw [e3]
    exact ⟨rfl, N0, rfl⟩
theorem d1_39 : decode prog_14_method_6_code 39 = .ok (.iload_n 0, 1) := by decide +kernel
theorem d1_40 : decode prog_14_method_6_code 40 = .ok (.bipush 45, 2) := by decide +kernel
theorem d1_42 : decode prog_14_method_6_code 42 = .ok (.if_icmp .eq 15, 3) := by decide +kernel
theorem d1_57 : decode prog_14_method_6_code 57 = .ok (.getstatic 13, 3) := by decide +kernel
theorem d1_60 : decode prog_14_method_6_code 60 = .ok (.astore_n 1, 1) := by decide +kernel
theorem d1_61 : decode prog_14_method_6_code 61 = .ok (.goto 44, 3) := by decide +kernel
set_option maxRecDepth 65536 in
set_option maxHeartbeats 40000000 in
theorem rm1_neg (l : Launch) (Z : State) (a0 : Array Value) (hw : ∀ d ∈ tables_1, d.before a0 Z = true) (ws : List Jvm.Cond) (p1 : Int32) (w2 : Addr) (h0 : Heap) (n0 : Nat) (Z0 : n0 ≤ h0.size) (S_NUMBER : Sta Z h0 "com/example/tenkyo/tenkyo/exchange/Json$Kind" "NUMBER" "Lcom/example/tenkyo/tenkyo/exchange/Json$Kind;" (.ref w2)) (hc3 : ¬ (p1 = (123 : Int32))) (hc16 : ¬ (p1 = (91 : Int32))) (hc29 : ¬ (p1 = (34 : Int32))) (hc42 : p1 = (45 : Int32)) :
    MetFree l (⟨"com/example/tenkyo/tenkyo/exchange/Json$Kind", "of", "(C)Lcom/example/tenkyo/tenkyo/exchange/Json$Kind;"⟩ : MethodName) (head1 (Jvm.Cond.code (⟨"com/example/tenkyo/tenkyo/exchange/Json$Kind", "of", "(C)Lcom/example/tenkyo/tenkyo/exchange/Json$Kind;"⟩ : MethodName) prog_14_method_6_code 2 (some (.object "com/example/tenkyo/tenkyo/exchange/Json$Kind")) :: ws) ({ frames := 0, cells := 0, slots := 0, locals := 0 } : Room)) (fun a U => a = #[(.int p1)] ∧ Z.Warmed39 U.vm ∧ U.heap = h0) (fun _ _ _ _ _ => True) (fun _ U o U' => ∃ v L, o = .returned v ∧ Qk (.ref w2) h0 n0 v U'.heap L ∧ FrameEnd U o U' L ({ frames := 0, cells := 0, slots := 0, locals := 0 } : Room).cells ({ frames := 0, cells := 0, slots := 0, locals := 0 } : Room).slots) := by
  refine MetFree.of_bodySF (plainFor_of_name pn_1) hisR ?_
  intro p e s m args below meth c s₁ Bd hml0 hP hK
  obtain ⟨rfl, hZ, hh⟩ := hP
  have hx := Bd.exec
  have hby := Bd.bytes
  have hml : c.maxLocals = 2 := hml0
  have hown : s.vm.findClass "com/example/tenkyo/tenkyo/exchange/Json$Kind" = some m.cls := findClass_of_methodNamed Bd.named
  have hnm := (name_of_methodNamed Bd.named Bd.method).1
  have X0 : Stand p l e ({ frames := 0, cells := 0, slots := 0, locals := 0 } : Room) s m #[(.int p1)] below meth c s₁ [] 0 0 := Stand.of_body Bd
  have e0 : s₁.heap = h0 := by rw [← hh, Bd.state]; rfl
  have N0 := Fr.nil n0
  have pre0 : ∀ t, Steps p.tables e below (s₁.setTop (mkF m 0 #[.val (.int p1), .unset] [])) t → Steps p.tables e below (s₁.setTop (entryFrame m #[(.int p1)] 2)) t := fun t k => castTop (ef_1 m p1) k
  obtain ⟨T3, X3, e3, st3⟩ := getS2 X0 hx hZ hown (host := "") (Or.inl (hw _ (List.mem_of_getElem? (i := 23) rfl))) Via.refl e0 S_NUMBER (g := (mkF m 57 #[.val (.int p1), .unset] [])) rfl (hb hby d1_57)
  obtain ⟨fs, hr, hrun, hended, hW, hsame⟩ := X3.leave (v := some (.ref w2)) (fun h => by rw [Bd.returns] at h; cases h)
  refine ⟨_, _, pre0 _ ?_, hrun, hended, _, _, rfl, ?_, ⟨_, rfl⟩, hW, hsame.mono (by decide) (by decide)⟩
  · show Steps p.tables e below (s₁.setTop (mkF m 0 #[.val (.int p1), .unset] [])) _
    refine XS.iloadN X0.here hx rfl (hb hby d1_0) rfl ?_
    show Steps p.tables e below (s₁.setTop (mkF m 1 #[.val (.int p1), .unset] [(.int p1)])) _
    refine XS.bipush X0.here hx rfl (hb hby d1_1) ?_
    show Steps p.tables e below (s₁.setTop (mkF m 3 #[.val (.int p1), .unset] [(.int (123 : Int32)), (.int p1)])) _
    refine XS.icmpYes X0.here hx rfl (pc0 := 3) (pc' := 13) rfl (hb hby d1_3) rfl (feq hc3).2 (by decide) (by decide) ?_
    show Steps p.tables e below (s₁.setTop (mkF m 13 #[.val (.int p1), .unset] [])) _
    refine XS.iloadN X0.here hx rfl (hb hby d1_13) rfl ?_
    show Steps p.tables e below (s₁.setTop (mkF m 14 #[.val (.int p1), .unset] [(.int p1)])) _
    refine XS.bipush X0.here hx rfl (hb hby d1_14) ?_
    show Steps p.tables e below (s₁.setTop (mkF m 16 #[.val (.int p1), .unset] [(.int (91 : Int32)), (.int p1)])) _
    refine XS.icmpYes X0.here hx rfl (pc0 := 16) (pc' := 26) rfl (hb hby d1_16) rfl (feq hc16).2 (by decide) (by decide) ?_
    show Steps p.tables e below (s₁.setTop (mkF m 26 #[.val (.int p1), .unset] [])) _
    refine XS.iloadN X0.here hx rfl (hb hby d1_26) rfl ?_
    show Steps p.tables e below (s₁.setTop (mkF m 27 #[.val (.int p1), .unset] [(.int p1)])) _
    refine XS.bipush X0.here hx rfl (hb hby d1_27) ?_
    show Steps p.tables e below (s₁.setTop (mkF m 29 #[.val (.int p1), .unset] [(.int (34 : Int32)), (.int p1)])) _
    refine XS.icmpYes X0.here hx rfl (pc0 := 29) (pc' := 39) rfl (hb hby d1_29) rfl (feq hc29).2 (by decide) (by decide) ?_
    show Steps p.tables e below (s₁.setTop (mkF m 39 #[.val (.int p1), .unset] [])) _
    refine XS.iloadN X0.here hx rfl (hb hby d1_39) rfl ?_
    show Steps p.tables e below (s₁.setTop (mkF m 40 #[.val (.int p1), .unset] [(.int p1)])) _
    refine XS.bipush X0.here hx rfl (hb hby d1_40) ?_
    show Steps p.tables e below (s₁.setTop (mkF m 42 #[.val (.int p1), .unset] [(.int (45 : Int32)), (.int p1)])) _
    refine XS.icmpYes X0.here hx rfl (pc0 := 42) (pc' := 57) rfl (hb hby d1_42) rfl (teq hc42).1 (by decide) (by decide) ?_
    show Steps p.tables e below (s₁.setTop (mkF m 57 #[.val (.int p1), .unset] [])) _
    refine st3 _ ?_
    show Steps p.tables e below (T3.setTop (mkF m 60 #[.val (.int p1), .unset] [(.ref w2)])) _
    refine XS.astoreN X3.here hx rfl (hb hby d1_60) rfl rfl (l' := #[.val (.int p1), .val (.ref w2)]) rfl ?_
    show Steps p.tables e below (T3.setTop (mkF m 61 #[.val (.int p1), .val (.ref w2)] [])) _
    refine XS.goto X3.here hx rfl (pc0 := 61) (pc' := 105) rfl (hb hby d1_61) (by decide) (by decide) ?_
    show Steps p.tables e below (T3.setTop (mkF m 105 #[.val (.int p1), .val (.ref w2)] [])) _
    refine XS.aloadN X3.here hx rfl (hb hby d1_105) rfl rfl ?_
    show Steps p.tables e below (T3.setTop (mkF m 106 #[.val (.int p1), .val (.ref w2)] [(.ref w2)])) _
    jvm_step X3.here [X3.here.top, hx, (hb hby d1_106), X3.method', Bd.returns, Value.isRef, FieldType.isReference]
    first | (intro acts; rw [hr _ acts rfl rfl rfl]) | rw [hr _ _ rfl rfl rfl]
    exact Steps.refl _
  · show Qk (.ref w2) h0 n0 _ T3.heap _
    rw [e3]
    exact ⟨rfl, N0, rfl⟩
theorem d1_45 : decode prog_14_method_6_code 45 = .ok (.iload_n 0, 1) := by decide +kernel
theorem d1_46 : decode prog_14_method_6_code 46 = .ok (.bipush 48, 2) := by decide +kernel
theorem d1_48 : decode prog_14_method_6_code 48 = .ok (.if_icmp .lt 16, 3) := by decide +kernel
theorem d1_51 : decode prog_14_method_6_code 51 = .ok (.iload_n 0, 1) := by decide +kernel
theorem d1_52 : decode prog_14_method_6_code 52 = .ok (.bipush 57, 2) := by decide +kernel
theorem d1_54 : decode prog_14_method_6_code 54 = .ok (.if_icmp .gt 10, 3) := by decide +kernel
set_option maxRecDepth 65536 in
set_option maxHeartbeats 40000000 in
theorem rm1_dig (l : Launch) (Z : State) (a0 : Array Value) (hw : ∀ d ∈ tables_1, d.before a0 Z = true) (ws : List Jvm.Cond) (p1 : Int32) (w2 : Addr) (h0 : Heap) (n0 : Nat) (Z0 : n0 ≤ h0.size) (S_NUMBER : Sta Z h0 "com/example/tenkyo/tenkyo/exchange/Json$Kind" "NUMBER" "Lcom/example/tenkyo/tenkyo/exchange/Json$Kind;" (.ref w2)) (hc3 : ¬ (p1 = (123 : Int32))) (hc16 : ¬ (p1 = (91 : Int32))) (hc29 : ¬ (p1 = (34 : Int32))) (hc42 : ¬ (p1 = (45 : Int32))) (hc48 : ¬ (p1 < (48 : Int32))) (hc54 : ¬ ((57 : Int32) < p1)) :
    MetFree l (⟨"com/example/tenkyo/tenkyo/exchange/Json$Kind", "of", "(C)Lcom/example/tenkyo/tenkyo/exchange/Json$Kind;"⟩ : MethodName) (head1 (Jvm.Cond.code (⟨"com/example/tenkyo/tenkyo/exchange/Json$Kind", "of", "(C)Lcom/example/tenkyo/tenkyo/exchange/Json$Kind;"⟩ : MethodName) prog_14_method_6_code 2 (some (.object "com/example/tenkyo/tenkyo/exchange/Json$Kind")) :: ws) ({ frames := 0, cells := 0, slots := 0, locals := 0 } : Room)) (fun a U => a = #[(.int p1)] ∧ Z.Warmed39 U.vm ∧ U.heap = h0) (fun _ _ _ _ _ => True) (fun _ U o U' => ∃ v L, o = .returned v ∧ Qk (.ref w2) h0 n0 v U'.heap L ∧ FrameEnd U o U' L ({ frames := 0, cells := 0, slots := 0, locals := 0 } : Room).cells ({ frames := 0, cells := 0, slots := 0, locals := 0 } : Room).slots) := by
  refine MetFree.of_bodySF (plainFor_of_name pn_1) hisR ?_
  intro p e s m args below meth c s₁ Bd hml0 hP hK
  obtain ⟨rfl, hZ, hh⟩ := hP
  have hx := Bd.exec
  have hby := Bd.bytes
  have hml : c.maxLocals = 2 := hml0
  have hown : s.vm.findClass "com/example/tenkyo/tenkyo/exchange/Json$Kind" = some m.cls := findClass_of_methodNamed Bd.named
  have hnm := (name_of_methodNamed Bd.named Bd.method).1
  have X0 : Stand p l e ({ frames := 0, cells := 0, slots := 0, locals := 0 } : Room) s m #[(.int p1)] below meth c s₁ [] 0 0 := Stand.of_body Bd
  have e0 : s₁.heap = h0 := by rw [← hh, Bd.state]; rfl
  have N0 := Fr.nil n0
  have pre0 : ∀ t, Steps p.tables e below (s₁.setTop (mkF m 0 #[.val (.int p1), .unset] [])) t → Steps p.tables e below (s₁.setTop (entryFrame m #[(.int p1)] 2)) t := fun t k => castTop (ef_1 m p1) k
  obtain ⟨T3, X3, e3, st3⟩ := getS2 X0 hx hZ hown (host := "") (Or.inl (hw _ (List.mem_of_getElem? (i := 23) rfl))) Via.refl e0 S_NUMBER (g := (mkF m 57 #[.val (.int p1), .unset] [])) rfl (hb hby d1_57)
  obtain ⟨fs, hr, hrun, hended, hW, hsame⟩ := X3.leave (v := some (.ref w2)) (fun h => by rw [Bd.returns] at h; cases h)
  refine ⟨_, _, pre0 _ ?_, hrun, hended, _, _, rfl, ?_, ⟨_, rfl⟩, hW, hsame.mono (by decide) (by decide)⟩
  · show Steps p.tables e below (s₁.setTop (mkF m 0 #[.val (.int p1), .unset] [])) _
    refine XS.iloadN X0.here hx rfl (hb hby d1_0) rfl ?_
    show Steps p.tables e below (s₁.setTop (mkF m 1 #[.val (.int p1), .unset] [(.int p1)])) _
    refine XS.bipush X0.here hx rfl (hb hby d1_1) ?_
    show Steps p.tables e below (s₁.setTop (mkF m 3 #[.val (.int p1), .unset] [(.int (123 : Int32)), (.int p1)])) _
    refine XS.icmpYes X0.here hx rfl (pc0 := 3) (pc' := 13) rfl (hb hby d1_3) rfl (feq hc3).2 (by decide) (by decide) ?_
    show Steps p.tables e below (s₁.setTop (mkF m 13 #[.val (.int p1), .unset] [])) _
    refine XS.iloadN X0.here hx rfl (hb hby d1_13) rfl ?_
    show Steps p.tables e below (s₁.setTop (mkF m 14 #[.val (.int p1), .unset] [(.int p1)])) _
    refine XS.bipush X0.here hx rfl (hb hby d1_14) ?_
    show Steps p.tables e below (s₁.setTop (mkF m 16 #[.val (.int p1), .unset] [(.int (91 : Int32)), (.int p1)])) _
    refine XS.icmpYes X0.here hx rfl (pc0 := 16) (pc' := 26) rfl (hb hby d1_16) rfl (feq hc16).2 (by decide) (by decide) ?_
    show Steps p.tables e below (s₁.setTop (mkF m 26 #[.val (.int p1), .unset] [])) _
    refine XS.iloadN X0.here hx rfl (hb hby d1_26) rfl ?_
    show Steps p.tables e below (s₁.setTop (mkF m 27 #[.val (.int p1), .unset] [(.int p1)])) _
    refine XS.bipush X0.here hx rfl (hb hby d1_27) ?_
    show Steps p.tables e below (s₁.setTop (mkF m 29 #[.val (.int p1), .unset] [(.int (34 : Int32)), (.int p1)])) _
    refine XS.icmpYes X0.here hx rfl (pc0 := 29) (pc' := 39) rfl (hb hby d1_29) rfl (feq hc29).2 (by decide) (by decide) ?_
    show Steps p.tables e below (s₁.setTop (mkF m 39 #[.val (.int p1), .unset] [])) _
    refine XS.iloadN X0.here hx rfl (hb hby d1_39) rfl ?_
    show Steps p.tables e below (s₁.setTop (mkF m 40 #[.val (.int p1), .unset] [(.int p1)])) _
    refine XS.bipush X0.here hx rfl (hb hby d1_40) ?_
    show Steps p.tables e below (s₁.setTop (mkF m 42 #[.val (.int p1), .unset] [(.int (45 : Int32)), (.int p1)])) _
    refine XS.icmpNo X0.here hx rfl (hb hby d1_42) rfl (feq hc42).1 ?_
    show Steps p.tables e below (s₁.setTop (mkF m 45 #[.val (.int p1), .unset] [])) _
    refine XS.iloadN X0.here hx rfl (hb hby d1_45) rfl ?_
    show Steps p.tables e below (s₁.setTop (mkF m 46 #[.val (.int p1), .unset] [(.int p1)])) _
    refine XS.bipush X0.here hx rfl (hb hby d1_46) ?_
    show Steps p.tables e below (s₁.setTop (mkF m 48 #[.val (.int p1), .unset] [(.int (48 : Int32)), (.int p1)])) _
    refine XS.icmpNo X0.here hx rfl (hb hby d1_48) rfl (flt hc48).1 ?_
    show Steps p.tables e below (s₁.setTop (mkF m 51 #[.val (.int p1), .unset] [])) _
    refine XS.iloadN X0.here hx rfl (hb hby d1_51) rfl ?_
    show Steps p.tables e below (s₁.setTop (mkF m 52 #[.val (.int p1), .unset] [(.int p1)])) _
    refine XS.bipush X0.here hx rfl (hb hby d1_52) ?_
    show Steps p.tables e below (s₁.setTop (mkF m 54 #[.val (.int p1), .unset] [(.int (57 : Int32)), (.int p1)])) _
    refine XS.icmpNo X0.here hx rfl (hb hby d1_54) rfl (flt hc54).2.2.1 ?_
    show Steps p.tables e below (s₁.setTop (mkF m 57 #[.val (.int p1), .unset] [])) _
    refine st3 _ ?_
    show Steps p.tables e below (T3.setTop (mkF m 60 #[.val (.int p1), .unset] [(.ref w2)])) _
    refine XS.astoreN X3.here hx rfl (hb hby d1_60) rfl rfl (l' := #[.val (.int p1), .val (.ref w2)]) rfl ?_
    show Steps p.tables e below (T3.setTop (mkF m 61 #[.val (.int p1), .val (.ref w2)] [])) _
    refine XS.goto X3.here hx rfl (pc0 := 61) (pc' := 105) rfl (hb hby d1_61) (by decide) (by decide) ?_
    show Steps p.tables e below (T3.setTop (mkF m 105 #[.val (.int p1), .val (.ref w2)] [])) _
    refine XS.aloadN X3.here hx rfl (hb hby d1_105) rfl rfl ?_
    show Steps p.tables e below (T3.setTop (mkF m 106 #[.val (.int p1), .val (.ref w2)] [(.ref w2)])) _
    jvm_step X3.here [X3.here.top, hx, (hb hby d1_106), X3.method', Bd.returns, Value.isRef, FieldType.isReference]
    first | (intro acts; rw [hr _ acts rfl rfl rfl]) | rw [hr _ _ rfl rfl rfl]
    exact Steps.refl _
  · show Qk (.ref w2) h0 n0 _ T3.heap _
    rw [e3]
    exact ⟨rfl, N0, rfl⟩
theorem d1_64 : decode prog_14_method_6_code 64 = .ok (.iload_n 0, 1) := by decide +kernel
theorem d1_65 : decode prog_14_method_6_code 65 = .ok (.bipush 116, 2) := by decide +kernel
theorem d1_67 : decode prog_14_method_6_code 67 = .ok (.if_icmp .ne 10, 3) := by decide +kernel
theorem d1_70 : decode prog_14_method_6_code 70 = .ok (.getstatic 16, 3) := by decide +kernel
theorem d1_73 : decode prog_14_method_6_code 73 = .ok (.astore_n 1, 1) := by decide +kernel
theorem d1_74 : decode prog_14_method_6_code 74 = .ok (.goto 31, 3) := by decide +kernel
set_option maxRecDepth 65536 in
set_option maxHeartbeats 40000000 in
theorem rm1_tru (l : Launch) (Z : State) (a0 : Array Value) (hw : ∀ d ∈ tables_1, d.before a0 Z = true) (ws : List Jvm.Cond) (p1 : Int32) (w2 : Addr) (h0 : Heap) (n0 : Nat) (Z0 : n0 ≤ h0.size) (S_TRUE : Sta Z h0 "com/example/tenkyo/tenkyo/exchange/Json$Kind" "TRUE" "Lcom/example/tenkyo/tenkyo/exchange/Json$Kind;" (.ref w2)) (hc3 : ¬ (p1 = (123 : Int32))) (hc16 : ¬ (p1 = (91 : Int32))) (hc29 : ¬ (p1 = (34 : Int32))) (hc42 : ¬ (p1 = (45 : Int32))) (hc48 : ¬ (p1 < (48 : Int32))) (hc54 : (57 : Int32) < p1) (hc67 : p1 = (116 : Int32)) :
    MetFree l (⟨"com/example/tenkyo/tenkyo/exchange/Json$Kind", "of", "(C)Lcom/example/tenkyo/tenkyo/exchange/Json$Kind;"⟩ : MethodName) (head1 (Jvm.Cond.code (⟨"com/example/tenkyo/tenkyo/exchange/Json$Kind", "of", "(C)Lcom/example/tenkyo/tenkyo/exchange/Json$Kind;"⟩ : MethodName) prog_14_method_6_code 2 (some (.object "com/example/tenkyo/tenkyo/exchange/Json$Kind")) :: ws) ({ frames := 0, cells := 0, slots := 0, locals := 0 } : Room)) (fun a U => a = #[(.int p1)] ∧ Z.Warmed39 U.vm ∧ U.heap = h0) (fun _ _ _ _ _ => True) (fun _ U o U' => ∃ v L, o = .returned v ∧ Qk (.ref w2) h0 n0 v U'.heap L ∧ FrameEnd U o U' L ({ frames := 0, cells := 0, slots := 0, locals := 0 } : Room).cells ({ frames := 0, cells := 0, slots := 0, locals := 0 } : Room).slots) := by
  refine MetFree.of_bodySF (plainFor_of_name pn_1) hisR ?_
  intro p e s m args below meth c s₁ Bd hml0 hP hK
  obtain ⟨rfl, hZ, hh⟩ := hP
  have hx := Bd.exec
  have hby := Bd.bytes
  have hml : c.maxLocals = 2 := hml0
  have hown : s.vm.findClass "com/example/tenkyo/tenkyo/exchange/Json$Kind" = some m.cls := findClass_of_methodNamed Bd.named
  have hnm := (name_of_methodNamed Bd.named Bd.method).1
  have X0 : Stand p l e ({ frames := 0, cells := 0, slots := 0, locals := 0 } : Room) s m #[(.int p1)] below meth c s₁ [] 0 0 := Stand.of_body Bd
  have e0 : s₁.heap = h0 := by rw [← hh, Bd.state]; rfl
  have N0 := Fr.nil n0
  have pre0 : ∀ t, Steps p.tables e below (s₁.setTop (mkF m 0 #[.val (.int p1), .unset] [])) t → Steps p.tables e below (s₁.setTop (entryFrame m #[(.int p1)] 2)) t := fun t k => castTop (ef_1 m p1) k
  obtain ⟨T3, X3, e3, st3⟩ := getS2 X0 hx hZ hown (host := "") (Or.inl (hw _ (List.mem_of_getElem? (i := 26) rfl))) Via.refl e0 S_TRUE (g := (mkF m 70 #[.val (.int p1), .unset] [])) rfl (hb hby d1_70)
  obtain ⟨fs, hr, hrun, hended, hW, hsame⟩ := X3.leave (v := some (.ref w2)) (fun h => by rw [Bd.returns] at h; cases h)
  refine ⟨_, _, pre0 _ ?_, hrun, hended, _, _, rfl, ?_, ⟨_, rfl⟩, hW, hsame.mono (by decide) (by decide)⟩
  · show Steps p.tables e below (s₁.setTop (mkF m 0 #[.val (.int p1), .unset] [])) _
    refine XS.iloadN X0.here hx rfl (hb hby d1_0) rfl ?_
    show Steps p.tables e below (s₁.setTop (mkF m 1 #[.val (.int p1), .unset] [(.int p1)])) _
    refine XS.bipush X0.here hx rfl (hb hby d1_1) ?_
    show Steps p.tables e below (s₁.setTop (mkF m 3 #[.val (.int p1), .unset] [(.int (123 : Int32)), (.int p1)])) _
    refine XS.icmpYes X0.here hx rfl (pc0 := 3) (pc' := 13) rfl (hb hby d1_3) rfl (feq hc3).2 (by decide) (by decide) ?_
    show Steps p.tables e below (s₁.setTop (mkF m 13 #[.val (.int p1), .unset] [])) _
    refine XS.iloadN X0.here hx rfl (hb hby d1_13) rfl ?_
    show Steps p.tables e below (s₁.setTop (mkF m 14 #[.val (.int p1), .unset] [(.int p1)])) _
    refine XS.bipush X0.here hx rfl (hb hby d1_14) ?_
    show Steps p.tables e below (s₁.setTop (mkF m 16 #[.val (.int p1), .unset] [(.int (91 : Int32)), (.int p1)])) _
    refine XS.icmpYes X0.here hx rfl (pc0 := 16) (pc' := 26) rfl (hb hby d1_16) rfl (feq hc16).2 (by decide) (by decide) ?_
    show Steps p.tables e below (s₁.setTop (mkF m 26 #[.val (.int p1), .unset] [])) _
    refine XS.iloadN X0.here hx rfl (hb hby d1_26) rfl ?_
    show Steps p.tables e below (s₁.setTop (mkF m 27 #[.val (.int p1), .unset] [(.int p1)])) _
    refine XS.bipush X0.here hx rfl (hb hby d1_27) ?_
    show Steps p.tables e below (s₁.setTop (mkF m 29 #[.val (.int p1), .unset] [(.int (34 : Int32)), (.int p1)])) _
    refine XS.icmpYes X0.here hx rfl (pc0 := 29) (pc' := 39) rfl (hb hby d1_29) rfl (feq hc29).2 (by decide) (by decide) ?_
    show Steps p.tables e below (s₁.setTop (mkF m 39 #[.val (.int p1), .unset] [])) _
    refine XS.iloadN X0.here hx rfl (hb hby d1_39) rfl ?_
    show Steps p.tables e below (s₁.setTop (mkF m 40 #[.val (.int p1), .unset] [(.int p1)])) _
    refine XS.bipush X0.here hx rfl (hb hby d1_40) ?_
    show Steps p.tables e below (s₁.setTop (mkF m 42 #[.val (.int p1), .unset] [(.int (45 : Int32)), (.int p1)])) _
    refine XS.icmpNo X0.here hx rfl (hb hby d1_42) rfl (feq hc42).1 ?_
    show Steps p.tables e below (s₁.setTop (mkF m 45 #[.val (.int p1), .unset] [])) _
    refine XS.iloadN X0.here hx rfl (hb hby d1_45) rfl ?_
    show Steps p.tables e below (s₁.setTop (mkF m 46 #[.val (.int p1), .unset] [(.int p1)])) _
    refine XS.bipush X0.here hx rfl (hb hby d1_46) ?_
    show Steps p.tables e below (s₁.setTop (mkF m 48 #[.val (.int p1), .unset] [(.int (48 : Int32)), (.int p1)])) _
    refine XS.icmpNo X0.here hx rfl (hb hby d1_48) rfl (flt hc48).1 ?_
    show Steps p.tables e below (s₁.setTop (mkF m 51 #[.val (.int p1), .unset] [])) _
    refine XS.iloadN X0.here hx rfl (hb hby d1_51) rfl ?_
    show Steps p.tables e below (s₁.setTop (mkF m 52 #[.val (.int p1), .unset] [(.int p1)])) _
    refine XS.bipush X0.here hx rfl (hb hby d1_52) ?_
    show Steps p.tables e below (s₁.setTop (mkF m 54 #[.val (.int p1), .unset] [(.int (57 : Int32)), (.int p1)])) _
    refine XS.icmpYes X0.here hx rfl (pc0 := 54) (pc' := 64) rfl (hb hby d1_54) rfl (tlt hc54).2.2.1 (by decide) (by decide) ?_
    show Steps p.tables e below (s₁.setTop (mkF m 64 #[.val (.int p1), .unset] [])) _
    refine XS.iloadN X0.here hx rfl (hb hby d1_64) rfl ?_
    show Steps p.tables e below (s₁.setTop (mkF m 65 #[.val (.int p1), .unset] [(.int p1)])) _
    refine XS.bipush X0.here hx rfl (hb hby d1_65) ?_
    show Steps p.tables e below (s₁.setTop (mkF m 67 #[.val (.int p1), .unset] [(.int (116 : Int32)), (.int p1)])) _
    refine XS.icmpNo X0.here hx rfl (hb hby d1_67) rfl (teq hc67).2 ?_
    show Steps p.tables e below (s₁.setTop (mkF m 70 #[.val (.int p1), .unset] [])) _
    refine st3 _ ?_
    show Steps p.tables e below (T3.setTop (mkF m 73 #[.val (.int p1), .unset] [(.ref w2)])) _
    refine XS.astoreN X3.here hx rfl (hb hby d1_73) rfl rfl (l' := #[.val (.int p1), .val (.ref w2)]) rfl ?_
    show Steps p.tables e below (T3.setTop (mkF m 74 #[.val (.int p1), .val (.ref w2)] [])) _
    refine XS.goto X3.here hx rfl (pc0 := 74) (pc' := 105) rfl (hb hby d1_74) (by decide) (by decide) ?_
    show Steps p.tables e below (T3.setTop (mkF m 105 #[.val (.int p1), .val (.ref w2)] [])) _
    refine XS.aloadN X3.here hx rfl (hb hby d1_105) rfl rfl ?_
    show Steps p.tables e below (T3.setTop (mkF m 106 #[.val (.int p1), .val (.ref w2)] [(.ref w2)])) _
    jvm_step X3.here [X3.here.top, hx, (hb hby d1_106), X3.method', Bd.returns, Value.isRef, FieldType.isReference]
    first | (intro acts; rw [hr _ acts rfl rfl rfl]) | rw [hr _ _ rfl rfl rfl]
    exact Steps.refl _
  · show Qk (.ref w2) h0 n0 _ T3.heap _
    rw [e3]
    exact ⟨rfl, N0, rfl⟩
theorem d1_77 : decode prog_14_method_6_code 77 = .ok (.iload_n 0, 1) := by decide +kernel
theorem d1_78 : decode prog_14_method_6_code 78 = .ok (.bipush 102, 2) := by decide +kernel
theorem d1_80 : decode prog_14_method_6_code 80 = .ok (.if_icmp .ne 10, 3) := by decide +kernel
theorem d1_83 : decode prog_14_method_6_code 83 = .ok (.getstatic 19, 3) := by decide +kernel
theorem d1_86 : decode prog_14_method_6_code 86 = .ok (.astore_n 1, 1) := by decide +kernel
theorem d1_87 : decode prog_14_method_6_code 87 = .ok (.goto 18, 3) := by decide +kernel
set_option maxRecDepth 65536 in
set_option maxHeartbeats 40000000 in
theorem rm1_fal (l : Launch) (Z : State) (a0 : Array Value) (hw : ∀ d ∈ tables_1, d.before a0 Z = true) (ws : List Jvm.Cond) (p1 : Int32) (w2 : Addr) (h0 : Heap) (n0 : Nat) (Z0 : n0 ≤ h0.size) (S_FALSE : Sta Z h0 "com/example/tenkyo/tenkyo/exchange/Json$Kind" "FALSE" "Lcom/example/tenkyo/tenkyo/exchange/Json$Kind;" (.ref w2)) (hc3 : ¬ (p1 = (123 : Int32))) (hc16 : ¬ (p1 = (91 : Int32))) (hc29 : ¬ (p1 = (34 : Int32))) (hc42 : ¬ (p1 = (45 : Int32))) (hc48 : ¬ (p1 < (48 : Int32))) (hc54 : (57 : Int32) < p1) (hc67 : ¬ (p1 = (116 : Int32))) (hc80 : p1 = (102 : Int32)) :
    MetFree l (⟨"com/example/tenkyo/tenkyo/exchange/Json$Kind", "of", "(C)Lcom/example/tenkyo/tenkyo/exchange/Json$Kind;"⟩ : MethodName) (head1 (Jvm.Cond.code (⟨"com/example/tenkyo/tenkyo/exchange/Json$Kind", "of", "(C)Lcom/example/tenkyo/tenkyo/exchange/Json$Kind;"⟩ : MethodName) prog_14_method_6_code 2 (some (.object "com/example/tenkyo/tenkyo/exchange/Json$Kind")) :: ws) ({ frames := 0, cells := 0, slots := 0, locals := 0 } : Room)) (fun a U => a = #[(.int p1)] ∧ Z.Warmed39 U.vm ∧ U.heap = h0) (fun _ _ _ _ _ => True) (fun _ U o U' => ∃ v L, o = .returned v ∧ Qk (.ref w2) h0 n0 v U'.heap L ∧ FrameEnd U o U' L ({ frames := 0, cells := 0, slots := 0, locals := 0 } : Room).cells ({ frames := 0, cells := 0, slots := 0, locals := 0 } : Room).slots) := by
  refine MetFree.of_bodySF (plainFor_of_name pn_1) hisR ?_
  intro p e s m args below meth c s₁ Bd hml0 hP hK
  obtain ⟨rfl, hZ, hh⟩ := hP
  have hx := Bd.exec
  have hby := Bd.bytes
  have hml : c.maxLocals = 2 := hml0
  have hown : s.vm.findClass "com/example/tenkyo/tenkyo/exchange/Json$Kind" = some m.cls := findClass_of_methodNamed Bd.named
  have hnm := (name_of_methodNamed Bd.named Bd.method).1
  have X0 : Stand p l e ({ frames := 0, cells := 0, slots := 0, locals := 0 } : Room) s m #[(.int p1)] below meth c s₁ [] 0 0 := Stand.of_body Bd
  have e0 : s₁.heap = h0 := by rw [← hh, Bd.state]; rfl
  have N0 := Fr.nil n0
  have pre0 : ∀ t, Steps p.tables e below (s₁.setTop (mkF m 0 #[.val (.int p1), .unset] [])) t → Steps p.tables e below (s₁.setTop (entryFrame m #[(.int p1)] 2)) t := fun t k => castTop (ef_1 m p1) k
  obtain ⟨T3, X3, e3, st3⟩ := getS2 X0 hx hZ hown (host := "") (Or.inl (hw _ (List.mem_of_getElem? (i := 24) rfl))) Via.refl e0 S_FALSE (g := (mkF m 83 #[.val (.int p1), .unset] [])) rfl (hb hby d1_83)
  obtain ⟨fs, hr, hrun, hended, hW, hsame⟩ := X3.leave (v := some (.ref w2)) (fun h => by rw [Bd.returns] at h; cases h)
  refine ⟨_, _, pre0 _ ?_, hrun, hended, _, _, rfl, ?_, ⟨_, rfl⟩, hW, hsame.mono (by decide) (by decide)⟩
  · show Steps p.tables e below (s₁.setTop (mkF m 0 #[.val (.int p1), .unset] [])) _
    refine XS.iloadN X0.here hx rfl (hb hby d1_0) rfl ?_
    show Steps p.tables e below (s₁.setTop (mkF m 1 #[.val (.int p1), .unset] [(.int p1)])) _
    refine XS.bipush X0.here hx rfl (hb hby d1_1) ?_
    show Steps p.tables e below (s₁.setTop (mkF m 3 #[.val (.int p1), .unset] [(.int (123 : Int32)), (.int p1)])) _
    refine XS.icmpYes X0.here hx rfl (pc0 := 3) (pc' := 13) rfl (hb hby d1_3) rfl (feq hc3).2 (by decide) (by decide) ?_
    show Steps p.tables e below (s₁.setTop (mkF m 13 #[.val (.int p1), .unset] [])) _
    refine XS.iloadN X0.here hx rfl (hb hby d1_13) rfl ?_
    show Steps p.tables e below (s₁.setTop (mkF m 14 #[.val (.int p1), .unset] [(.int p1)])) _
    refine XS.bipush X0.here hx rfl (hb hby d1_14) ?_
    show Steps p.tables e below (s₁.setTop (mkF m 16 #[.val (.int p1), .unset] [(.int (91 : Int32)), (.int p1)])) _
    refine XS.icmpYes X0.here hx rfl (pc0 := 16) (pc' := 26) rfl (hb hby d1_16) rfl (feq hc16).2 (by decide) (by decide) ?_
    show Steps p.tables e below (s₁.setTop (mkF m 26 #[.val (.int p1), .unset] [])) _
    refine XS.iloadN X0.here hx rfl (hb hby d1_26) rfl ?_
    show Steps p.tables e below (s₁.setTop (mkF m 27 #[.val (.int p1), .unset] [(.int p1)])) _
    refine XS.bipush X0.here hx rfl (hb hby d1_27) ?_
    show Steps p.tables e below (s₁.setTop (mkF m 29 #[.val (.int p1), .unset] [(.int (34 : Int32)), (.int p1)])) _
    refine XS.icmpYes X0.here hx rfl (pc0 := 29) (pc' := 39) rfl (hb hby d1_29) rfl (feq hc29).2 (by decide) (by decide) ?_
    show Steps p.tables e below (s₁.setTop (mkF m 39 #[.val (.int p1), .unset] [])) _
    refine XS.iloadN X0.here hx rfl (hb hby d1_39) rfl ?_
    show Steps p.tables e below (s₁.setTop (mkF m 40 #[.val (.int p1), .unset] [(.int p1)])) _
    refine XS.bipush X0.here hx rfl (hb hby d1_40) ?_
    show Steps p.tables e below (s₁.setTop (mkF m 42 #[.val (.int p1), .unset] [(.int (45 : Int32)), (.int p1)])) _
    refine XS.icmpNo X0.here hx rfl (hb hby d1_42) rfl (feq hc42).1 ?_
    show Steps p.tables e below (s₁.setTop (mkF m 45 #[.val (.int p1), .unset] [])) _
    refine XS.iloadN X0.here hx rfl (hb hby d1_45) rfl ?_
    show Steps p.tables e below (s₁.setTop (mkF m 46 #[.val (.int p1), .unset] [(.int p1)])) _
    refine XS.bipush X0.here hx rfl (hb hby d1_46) ?_
    show Steps p.tables e below (s₁.setTop (mkF m 48 #[.val (.int p1), .unset] [(.int (48 : Int32)), (.int p1)])) _
    refine XS.icmpNo X0.here hx rfl (hb hby d1_48) rfl (flt hc48).1 ?_
    show Steps p.tables e below (s₁.setTop (mkF m 51 #[.val (.int p1), .unset] [])) _
    refine XS.iloadN X0.here hx rfl (hb hby d1_51) rfl ?_
    show Steps p.tables e below (s₁.setTop (mkF m 52 #[.val (.int p1), .unset] [(.int p1)])) _
    refine XS.bipush X0.here hx rfl (hb hby d1_52) ?_
    show Steps p.tables e below (s₁.setTop (mkF m 54 #[.val (.int p1), .unset] [(.int (57 : Int32)), (.int p1)])) _
    refine XS.icmpYes X0.here hx rfl (pc0 := 54) (pc' := 64) rfl (hb hby d1_54) rfl (tlt hc54).2.2.1 (by decide) (by decide) ?_
    show Steps p.tables e below (s₁.setTop (mkF m 64 #[.val (.int p1), .unset] [])) _
    refine XS.iloadN X0.here hx rfl (hb hby d1_64) rfl ?_
    show Steps p.tables e below (s₁.setTop (mkF m 65 #[.val (.int p1), .unset] [(.int p1)])) _
    refine XS.bipush X0.here hx rfl (hb hby d1_65) ?_
    show Steps p.tables e below (s₁.setTop (mkF m 67 #[.val (.int p1), .unset] [(.int (116 : Int32)), (.int p1)])) _
    refine XS.icmpYes X0.here hx rfl (pc0 := 67) (pc' := 77) rfl (hb hby d1_67) rfl (feq hc67).2 (by decide) (by decide) ?_
    show Steps p.tables e below (s₁.setTop (mkF m 77 #[.val (.int p1), .unset] [])) _
    refine XS.iloadN X0.here hx rfl (hb hby d1_77) rfl ?_
    show Steps p.tables e below (s₁.setTop (mkF m 78 #[.val (.int p1), .unset] [(.int p1)])) _
    refine XS.bipush X0.here hx rfl (hb hby d1_78) ?_
    show Steps p.tables e below (s₁.setTop (mkF m 80 #[.val (.int p1), .unset] [(.int (102 : Int32)), (.int p1)])) _
    refine XS.icmpNo X0.here hx rfl (hb hby d1_80) rfl (teq hc80).2 ?_
    show Steps p.tables e below (s₁.setTop (mkF m 83 #[.val (.int p1), .unset] [])) _
    refine st3 _ ?_
    show Steps p.tables e below (T3.setTop (mkF m 86 #[.val (.int p1), .unset] [(.ref w2)])) _
    refine XS.astoreN X3.here hx rfl (hb hby d1_86) rfl rfl (l' := #[.val (.int p1), .val (.ref w2)]) rfl ?_
    show Steps p.tables e below (T3.setTop (mkF m 87 #[.val (.int p1), .val (.ref w2)] [])) _
    refine XS.goto X3.here hx rfl (pc0 := 87) (pc' := 105) rfl (hb hby d1_87) (by decide) (by decide) ?_
    show Steps p.tables e below (T3.setTop (mkF m 105 #[.val (.int p1), .val (.ref w2)] [])) _
    refine XS.aloadN X3.here hx rfl (hb hby d1_105) rfl rfl ?_
    show Steps p.tables e below (T3.setTop (mkF m 106 #[.val (.int p1), .val (.ref w2)] [(.ref w2)])) _
    jvm_step X3.here [X3.here.top, hx, (hb hby d1_106), X3.method', Bd.returns, Value.isRef, FieldType.isReference]
    first | (intro acts; rw [hr _ acts rfl rfl rfl]) | rw [hr _ _ rfl rfl rfl]
    exact Steps.refl _
  · show Qk (.ref w2) h0 n0 _ T3.heap _
    rw [e3]
    exact ⟨rfl, N0, rfl⟩
theorem d1_90 : decode prog_14_method_6_code 90 = .ok (.iload_n 0, 1) := by decide +kernel
theorem d1_91 : decode prog_14_method_6_code 91 = .ok (.bipush 110, 2) := by decide +kernel
theorem d1_93 : decode prog_14_method_6_code 93 = .ok (.if_icmp .ne 10, 3) := by decide +kernel
theorem d1_96 : decode prog_14_method_6_code 96 = .ok (.getstatic 22, 3) := by decide +kernel
theorem d1_99 : decode prog_14_method_6_code 99 = .ok (.astore_n 1, 1) := by decide +kernel
theorem d1_100 : decode prog_14_method_6_code 100 = .ok (.goto 5, 3) := by decide +kernel
set_option maxRecDepth 65536 in
set_option maxHeartbeats 40000000 in
theorem rm1_nul (l : Launch) (Z : State) (a0 : Array Value) (hw : ∀ d ∈ tables_1, d.before a0 Z = true) (ws : List Jvm.Cond) (p1 : Int32) (w2 : Addr) (h0 : Heap) (n0 : Nat) (Z0 : n0 ≤ h0.size) (S_NULL : Sta Z h0 "com/example/tenkyo/tenkyo/exchange/Json$Kind" "NULL" "Lcom/example/tenkyo/tenkyo/exchange/Json$Kind;" (.ref w2)) (hc3 : ¬ (p1 = (123 : Int32))) (hc16 : ¬ (p1 = (91 : Int32))) (hc29 : ¬ (p1 = (34 : Int32))) (hc42 : ¬ (p1 = (45 : Int32))) (hc48 : ¬ (p1 < (48 : Int32))) (hc54 : (57 : Int32) < p1) (hc67 : ¬ (p1 = (116 : Int32))) (hc80 : ¬ (p1 = (102 : Int32))) (hc93 : p1 = (110 : Int32)) :
    MetFree l (⟨"com/example/tenkyo/tenkyo/exchange/Json$Kind", "of", "(C)Lcom/example/tenkyo/tenkyo/exchange/Json$Kind;"⟩ : MethodName) (head1 (Jvm.Cond.code (⟨"com/example/tenkyo/tenkyo/exchange/Json$Kind", "of", "(C)Lcom/example/tenkyo/tenkyo/exchange/Json$Kind;"⟩ : MethodName) prog_14_method_6_code 2 (some (.object "com/example/tenkyo/tenkyo/exchange/Json$Kind")) :: ws) ({ frames := 0, cells := 0, slots := 0, locals := 0 } : Room)) (fun a U => a = #[(.int p1)] ∧ Z.Warmed39 U.vm ∧ U.heap = h0) (fun _ _ _ _ _ => True) (fun _ U o U' => ∃ v L, o = .returned v ∧ Qk (.ref w2) h0 n0 v U'.heap L ∧ FrameEnd U o U' L ({ frames := 0, cells := 0, slots := 0, locals := 0 } : Room).cells ({ frames := 0, cells := 0, slots := 0, locals := 0 } : Room).slots) := by
  refine MetFree.of_bodySF (plainFor_of_name pn_1) hisR ?_
  intro p e s m args below meth c s₁ Bd hml0 hP hK
  obtain ⟨rfl, hZ, hh⟩ := hP
  have hx := Bd.exec
  have hby := Bd.bytes
  have hml : c.maxLocals = 2 := hml0
  have hown : s.vm.findClass "com/example/tenkyo/tenkyo/exchange/Json$Kind" = some m.cls := findClass_of_methodNamed Bd.named
  have hnm := (name_of_methodNamed Bd.named Bd.method).1
  have X0 : Stand p l e ({ frames := 0, cells := 0, slots := 0, locals := 0 } : Room) s m #[(.int p1)] below meth c s₁ [] 0 0 := Stand.of_body Bd
  have e0 : s₁.heap = h0 := by rw [← hh, Bd.state]; rfl
  have N0 := Fr.nil n0
  have pre0 : ∀ t, Steps p.tables e below (s₁.setTop (mkF m 0 #[.val (.int p1), .unset] [])) t → Steps p.tables e below (s₁.setTop (entryFrame m #[(.int p1)] 2)) t := fun t k => castTop (ef_1 m p1) k
  obtain ⟨T3, X3, e3, st3⟩ := getS2 X0 hx hZ hown (host := "") (Or.inl (hw _ (List.mem_of_getElem? (i := 22) rfl))) Via.refl e0 S_NULL (g := (mkF m 96 #[.val (.int p1), .unset] [])) rfl (hb hby d1_96)
  obtain ⟨fs, hr, hrun, hended, hW, hsame⟩ := X3.leave (v := some (.ref w2)) (fun h => by rw [Bd.returns] at h; cases h)
  refine ⟨_, _, pre0 _ ?_, hrun, hended, _, _, rfl, ?_, ⟨_, rfl⟩, hW, hsame.mono (by decide) (by decide)⟩
  · show Steps p.tables e below (s₁.setTop (mkF m 0 #[.val (.int p1), .unset] [])) _
    refine XS.iloadN X0.here hx rfl (hb hby d1_0) rfl ?_
    show Steps p.tables e below (s₁.setTop (mkF m 1 #[.val (.int p1), .unset] [(.int p1)])) _
    refine XS.bipush X0.here hx rfl (hb hby d1_1) ?_
    show Steps p.tables e below (s₁.setTop (mkF m 3 #[.val (.int p1), .unset] [(.int (123 : Int32)), (.int p1)])) _
    refine XS.icmpYes X0.here hx rfl (pc0 := 3) (pc' := 13) rfl (hb hby d1_3) rfl (feq hc3).2 (by decide) (by decide) ?_
    show Steps p.tables e below (s₁.setTop (mkF m 13 #[.val (.int p1), .unset] [])) _
    refine XS.iloadN X0.here hx rfl (hb hby d1_13) rfl ?_
    show Steps p.tables e below (s₁.setTop (mkF m 14 #[.val (.int p1), .unset] [(.int p1)])) _
    refine XS.bipush X0.here hx rfl (hb hby d1_14) ?_
    show Steps p.tables e below (s₁.setTop (mkF m 16 #[.val (.int p1), .unset] [(.int (91 : Int32)), (.int p1)])) _
    refine XS.icmpYes X0.here hx rfl (pc0 := 16) (pc' := 26) rfl (hb hby d1_16) rfl (feq hc16).2 (by decide) (by decide) ?_
    show Steps p.tables e below (s₁.setTop (mkF m 26 #[.val (.int p1), .unset] [])) _
    refine XS.iloadN X0.here hx rfl (hb hby d1_26) rfl ?_
    show Steps p.tables e below (s₁.setTop (mkF m 27 #[.val (.int p1), .unset] [(.int p1)])) _
    refine XS.bipush X0.here hx rfl (hb hby d1_27) ?_
    show Steps p.tables e below (s₁.setTop (mkF m 29 #[.val (.int p1), .unset] [(.int (34 : Int32)), (.int p1)])) _
    refine XS.icmpYes X0.here hx rfl (pc0 := 29) (pc' := 39) rfl (hb hby d1_29) rfl (feq hc29).2 (by decide) (by decide) ?_
    show Steps p.tables e below (s₁.setTop (mkF m 39 #[.val (.int p1), .unset] [])) _
    refine XS.iloadN X0.here hx rfl (hb hby d1_39) rfl ?_
    show Steps p.tables e below (s₁.setTop (mkF m 40 #[.val (.int p1), .unset] [(.int p1)])) _
    refine XS.bipush X0.here hx rfl (hb hby d1_40) ?_
    show Steps p.tables e below (s₁.setTop (mkF m 42 #[.val (.int p1), .unset] [(.int (45 : Int32)), (.int p1)])) _
    refine XS.icmpNo X0.here hx rfl (hb hby d1_42) rfl (feq hc42).1 ?_
    show Steps p.tables e below (s₁.setTop (mkF m 45 #[.val (.int p1), .unset] [])) _
    refine XS.iloadN X0.here hx rfl (hb hby d1_45) rfl ?_
    show Steps p.tables e below (s₁.setTop (mkF m 46 #[.val (.int p1), .unset] [(.int p1)])) _
    refine XS.bipush X0.here hx rfl (hb hby d1_46) ?_
    show Steps p.tables e below (s₁.setTop (mkF m 48 #[.val (.int p1), .unset] [(.int (48 : Int32)), (.int p1)])) _
    refine XS.icmpNo X0.here hx rfl (hb hby d1_48) rfl (flt hc48).1 ?_
    show Steps p.tables e below (s₁.setTop (mkF m 51 #[.val (.int p1), .unset] [])) _
    refine XS.iloadN X0.here hx rfl (hb hby d1_51) rfl ?_
    show Steps p.tables e below (s₁.setTop (mkF m 52 #[.val (.int p1), .unset] [(.int p1)])) _
    refine XS.bipush X0.here hx rfl (hb hby d1_52) ?_
    show Steps p.tables e below (s₁.setTop (mkF m 54 #[.val (.int p1), .unset] [(.int (57 : Int32)), (.int p1)])) _
    refine XS.icmpYes X0.here hx rfl (pc0 := 54) (pc' := 64) rfl (hb hby d1_54) rfl (tlt hc54).2.2.1 (by decide) (by decide) ?_
    show Steps p.tables e below (s₁.setTop (mkF m 64 #[.val (.int p1), .unset] [])) _
    refine XS.iloadN X0.here hx rfl (hb hby d1_64) rfl ?_
    show Steps p.tables e below (s₁.setTop (mkF m 65 #[.val (.int p1), .unset] [(.int p1)])) _
    refine XS.bipush X0.here hx rfl (hb hby d1_65) ?_
    show Steps p.tables e below (s₁.setTop (mkF m 67 #[.val (.int p1), .unset] [(.int (116 : Int32)), (.int p1)])) _
    refine XS.icmpYes X0.here hx rfl (pc0 := 67) (pc' := 77) rfl (hb hby d1_67) rfl (feq hc67).2 (by decide) (by decide) ?_
    show Steps p.tables e below (s₁.setTop (mkF m 77 #[.val (.int p1), .unset] [])) _
    refine XS.iloadN X0.here hx rfl (hb hby d1_77) rfl ?_
    show Steps p.tables e below (s₁.setTop (mkF m 78 #[.val (.int p1), .unset] [(.int p1)])) _
    refine XS.bipush X0.here hx rfl (hb hby d1_78) ?_
    show Steps p.tables e below (s₁.setTop (mkF m 80 #[.val (.int p1), .unset] [(.int (102 : Int32)), (.int p1)])) _
    refine XS.icmpYes X0.here hx rfl (pc0 := 80) (pc' := 90) rfl (hb hby d1_80) rfl (feq hc80).2 (by decide) (by decide) ?_
    show Steps p.tables e below (s₁.setTop (mkF m 90 #[.val (.int p1), .unset] [])) _
    refine XS.iloadN X0.here hx rfl (hb hby d1_90) rfl ?_
    show Steps p.tables e below (s₁.setTop (mkF m 91 #[.val (.int p1), .unset] [(.int p1)])) _
    refine XS.bipush X0.here hx rfl (hb hby d1_91) ?_
    show Steps p.tables e below (s₁.setTop (mkF m 93 #[.val (.int p1), .unset] [(.int (110 : Int32)), (.int p1)])) _
    refine XS.icmpNo X0.here hx rfl (hb hby d1_93) rfl (teq hc93).2 ?_
    show Steps p.tables e below (s₁.setTop (mkF m 96 #[.val (.int p1), .unset] [])) _
    refine st3 _ ?_
    show Steps p.tables e below (T3.setTop (mkF m 99 #[.val (.int p1), .unset] [(.ref w2)])) _
    refine XS.astoreN X3.here hx rfl (hb hby d1_99) rfl rfl (l' := #[.val (.int p1), .val (.ref w2)]) rfl ?_
    show Steps p.tables e below (T3.setTop (mkF m 100 #[.val (.int p1), .val (.ref w2)] [])) _
    refine XS.goto X3.here hx rfl (pc0 := 100) (pc' := 105) rfl (hb hby d1_100) (by decide) (by decide) ?_
    show Steps p.tables e below (T3.setTop (mkF m 105 #[.val (.int p1), .val (.ref w2)] [])) _
    refine XS.aloadN X3.here hx rfl (hb hby d1_105) rfl rfl ?_
    show Steps p.tables e below (T3.setTop (mkF m 106 #[.val (.int p1), .val (.ref w2)] [(.ref w2)])) _
    jvm_step X3.here [X3.here.top, hx, (hb hby d1_106), X3.method', Bd.returns, Value.isRef, FieldType.isReference]
    first | (intro acts; rw [hr _ acts rfl rfl rfl]) | rw [hr _ _ rfl rfl rfl]
    exact Steps.refl _
  · show Qk (.ref w2) h0 n0 _ T3.heap _
    rw [e3]
    exact ⟨rfl, N0, rfl⟩
theorem d1_103 : decode prog_14_method_6_code 103 = .ok (.aconst_null, 1) := by decide +kernel
theorem d1_104 : decode prog_14_method_6_code 104 = .ok (.astore_n 1, 1) := by decide +kernel
set_option maxRecDepth 65536 in
set_option maxHeartbeats 40000000 in
theorem rm1_lo (l : Launch) (Z : State) (a0 : Array Value) (hw : ∀ d ∈ tables_1, d.before a0 Z = true) (ws : List Jvm.Cond) (p1 : Int32) (h0 : Heap) (n0 : Nat) (Z0 : n0 ≤ h0.size) (hc3 : ¬ (p1 = (123 : Int32))) (hc16 : ¬ (p1 = (91 : Int32))) (hc29 : ¬ (p1 = (34 : Int32))) (hc42 : ¬ (p1 = (45 : Int32))) (hc48 : p1 < (48 : Int32)) (hc67 : ¬ (p1 = (116 : Int32))) (hc80 : ¬ (p1 = (102 : Int32))) (hc93 : ¬ (p1 = (110 : Int32))) :
    MetFree l (⟨"com/example/tenkyo/tenkyo/exchange/Json$Kind", "of", "(C)Lcom/example/tenkyo/tenkyo/exchange/Json$Kind;"⟩ : MethodName) (head1 (Jvm.Cond.code (⟨"com/example/tenkyo/tenkyo/exchange/Json$Kind", "of", "(C)Lcom/example/tenkyo/tenkyo/exchange/Json$Kind;"⟩ : MethodName) prog_14_method_6_code 2 (some (.object "com/example/tenkyo/tenkyo/exchange/Json$Kind")) :: ws) ({ frames := 0, cells := 0, slots := 0, locals := 0 } : Room)) (fun a U => a = #[(.int p1)] ∧ Z.Warmed39 U.vm ∧ U.heap = h0) (fun _ _ _ _ _ => True) (fun _ U o U' => ∃ v L, o = .returned v ∧ Qk .null h0 n0 v U'.heap L ∧ FrameEnd U o U' L ({ frames := 0, cells := 0, slots := 0, locals := 0 } : Room).cells ({ frames := 0, cells := 0, slots := 0, locals := 0 } : Room).slots) := by
  refine MetFree.of_bodySF (plainFor_of_name pn_1) hisR ?_
  intro p e s m args below meth c s₁ Bd hml0 hP hK
  obtain ⟨rfl, hZ, hh⟩ := hP
  have hx := Bd.exec
  have hby := Bd.bytes
  have hml : c.maxLocals = 2 := hml0
  have hown : s.vm.findClass "com/example/tenkyo/tenkyo/exchange/Json$Kind" = some m.cls := findClass_of_methodNamed Bd.named
  have hnm := (name_of_methodNamed Bd.named Bd.method).1
  have X0 : Stand p l e ({ frames := 0, cells := 0, slots := 0, locals := 0 } : Room) s m #[(.int p1)] below meth c s₁ [] 0 0 := Stand.of_body Bd
  have e0 : s₁.heap = h0 := by rw [← hh, Bd.state]; rfl
  have N0 := Fr.nil n0
  have pre0 : ∀ t, Steps p.tables e below (s₁.setTop (mkF m 0 #[.val (.int p1), .unset] [])) t → Steps p.tables e below (s₁.setTop (entryFrame m #[(.int p1)] 2)) t := fun t k => castTop (ef_1 m p1) k

  obtain ⟨fs, hr, hrun, hended, hW, hsame⟩ := X0.leave (v := some .null) (fun h => by rw [Bd.returns] at h; cases h)
  refine ⟨_, _, pre0 _ ?_, hrun, hended, _, _, rfl, ?_, ⟨_, rfl⟩, hW, hsame.mono (by decide) (by decide)⟩
  · show Steps p.tables e below (s₁.setTop (mkF m 0 #[.val (.int p1), .unset] [])) _
    refine XS.iloadN X0.here hx rfl (hb hby d1_0) rfl ?_
    show Steps p.tables e below (s₁.setTop (mkF m 1 #[.val (.int p1), .unset] [(.int p1)])) _
    refine XS.bipush X0.here hx rfl (hb hby d1_1) ?_
    show Steps p.tables e below (s₁.setTop (mkF m 3 #[.val (.int p1), .unset] [(.int (123 : Int32)), (.int p1)])) _
    refine XS.icmpYes X0.here hx rfl (pc0 := 3) (pc' := 13) rfl (hb hby d1_3) rfl (feq hc3).2 (by decide) (by decide) ?_
    show Steps p.tables e below (s₁.setTop (mkF m 13 #[.val (.int p1), .unset] [])) _
    refine XS.iloadN X0.here hx rfl (hb hby d1_13) rfl ?_
    show Steps p.tables e below (s₁.setTop (mkF m 14 #[.val (.int p1), .unset] [(.int p1)])) _
    refine XS.bipush X0.here hx rfl (hb hby d1_14) ?_
    show Steps p.tables e below (s₁.setTop (mkF m 16 #[.val (.int p1), .unset] [(.int (91 : Int32)), (.int p1)])) _
    refine XS.icmpYes X0.here hx rfl (pc0 := 16) (pc' := 26) rfl (hb hby d1_16) rfl (feq hc16).2 (by decide) (by decide) ?_
    show Steps p.tables e below (s₁.setTop (mkF m 26 #[.val (.int p1), .unset] [])) _
    refine XS.iloadN X0.here hx rfl (hb hby d1_26) rfl ?_
    show Steps p.tables e below (s₁.setTop (mkF m 27 #[.val (.int p1), .unset] [(.int p1)])) _
    refine XS.bipush X0.here hx rfl (hb hby d1_27) ?_
    show Steps p.tables e below (s₁.setTop (mkF m 29 #[.val (.int p1), .unset] [(.int (34 : Int32)), (.int p1)])) _
    refine XS.icmpYes X0.here hx rfl (pc0 := 29) (pc' := 39) rfl (hb hby d1_29) rfl (feq hc29).2 (by decide) (by decide) ?_
    show Steps p.tables e below (s₁.setTop (mkF m 39 #[.val (.int p1), .unset] [])) _
    refine XS.iloadN X0.here hx rfl (hb hby d1_39) rfl ?_
    show Steps p.tables e below (s₁.setTop (mkF m 40 #[.val (.int p1), .unset] [(.int p1)])) _
    refine XS.bipush X0.here hx rfl (hb hby d1_40) ?_
    show Steps p.tables e below (s₁.setTop (mkF m 42 #[.val (.int p1), .unset] [(.int (45 : Int32)), (.int p1)])) _
    refine XS.icmpNo X0.here hx rfl (hb hby d1_42) rfl (feq hc42).1 ?_
    show Steps p.tables e below (s₁.setTop (mkF m 45 #[.val (.int p1), .unset] [])) _
    refine XS.iloadN X0.here hx rfl (hb hby d1_45) rfl ?_
    show Steps p.tables e below (s₁.setTop (mkF m 46 #[.val (.int p1), .unset] [(.int p1)])) _
    refine XS.bipush X0.here hx rfl (hb hby d1_46) ?_
    show Steps p.tables e below (s₁.setTop (mkF m 48 #[.val (.int p1), .unset] [(.int (48 : Int32)), (.int p1)])) _
    refine XS.icmpYes X0.here hx rfl (pc0 := 48) (pc' := 64) rfl (hb hby d1_48) rfl (tlt hc48).1 (by decide) (by decide) ?_
    show Steps p.tables e below (s₁.setTop (mkF m 64 #[.val (.int p1), .unset] [])) _
    refine XS.iloadN X0.here hx rfl (hb hby d1_64) rfl ?_
    show Steps p.tables e below (s₁.setTop (mkF m 65 #[.val (.int p1), .unset] [(.int p1)])) _
    refine XS.bipush X0.here hx rfl (hb hby d1_65) ?_
    show Steps p.tables e below (s₁.setTop (mkF m 67 #[.val (.int p1), .unset] [(.int (116 : Int32)), (.int p1)])) _
    refine XS.icmpYes X0.here hx rfl (pc0 := 67) (pc' := 77) rfl (hb hby d1_67) rfl (feq hc67).2 (by decide) (by decide) ?_
    show Steps p.tables e below (s₁.setTop (mkF m 77 #[.val (.int p1), .unset] [])) _
    refine XS.iloadN X0.here hx rfl (hb hby d1_77) rfl ?_
    show Steps p.tables e below (s₁.setTop (mkF m 78 #[.val (.int p1), .unset] [(.int p1)])) _
    refine XS.bipush X0.here hx rfl (hb hby d1_78) ?_
    show Steps p.tables e below (s₁.setTop (mkF m 80 #[.val (.int p1), .unset] [(.int (102 : Int32)), (.int p1)])) _
    refine XS.icmpYes X0.here hx rfl (pc0 := 80) (pc' := 90) rfl (hb hby d1_80) rfl (feq hc80).2 (by decide) (by decide) ?_
    show Steps p.tables e below (s₁.setTop (mkF m 90 #[.val (.int p1), .unset] [])) _
    refine XS.iloadN X0.here hx rfl (hb hby d1_90) rfl ?_
    show Steps p.tables e below (s₁.setTop (mkF m 91 #[.val (.int p1), .unset] [(.int p1)])) _
    refine XS.bipush X0.here hx rfl (hb hby d1_91) ?_
    show Steps p.tables e below (s₁.setTop (mkF m 93 #[.val (.int p1), .unset] [(.int (110 : Int32)), (.int p1)])) _
    refine XS.icmpYes X0.here hx rfl (pc0 := 93) (pc' := 103) rfl (hb hby d1_93) rfl (feq hc93).2 (by decide) (by decide) ?_
    show Steps p.tables e below (s₁.setTop (mkF m 103 #[.val (.int p1), .unset] [])) _
    refine XS.aconstNull X0.here hx rfl (hb hby d1_103) ?_
    show Steps p.tables e below (s₁.setTop (mkF m 104 #[.val (.int p1), .unset] [.null])) _
    refine XS.astoreN X0.here hx rfl (hb hby d1_104) rfl rfl (l' := #[.val (.int p1), .val .null]) rfl ?_
    show Steps p.tables e below (s₁.setTop (mkF m 105 #[.val (.int p1), .val .null] [])) _
    refine XS.aloadN X0.here hx rfl (hb hby d1_105) rfl rfl ?_
    show Steps p.tables e below (s₁.setTop (mkF m 106 #[.val (.int p1), .val .null] [.null])) _
    jvm_step X0.here [X0.here.top, hx, (hb hby d1_106), X0.method', Bd.returns, Value.isRef, FieldType.isReference]
    first | (intro acts; rw [hr _ acts rfl rfl rfl]) | rw [hr _ _ rfl rfl rfl]
    exact Steps.refl _
  · show Qk .null h0 n0 _ s₁.heap _
    rw [e0]
    exact ⟨rfl, N0, rfl⟩
set_option maxRecDepth 65536 in
set_option maxHeartbeats 40000000 in
theorem rm1_hi (l : Launch) (Z : State) (a0 : Array Value) (hw : ∀ d ∈ tables_1, d.before a0 Z = true) (ws : List Jvm.Cond) (p1 : Int32) (h0 : Heap) (n0 : Nat) (Z0 : n0 ≤ h0.size) (hc3 : ¬ (p1 = (123 : Int32))) (hc16 : ¬ (p1 = (91 : Int32))) (hc29 : ¬ (p1 = (34 : Int32))) (hc42 : ¬ (p1 = (45 : Int32))) (hc48 : ¬ (p1 < (48 : Int32))) (hc54 : (57 : Int32) < p1) (hc67 : ¬ (p1 = (116 : Int32))) (hc80 : ¬ (p1 = (102 : Int32))) (hc93 : ¬ (p1 = (110 : Int32))) :
    MetFree l (⟨"com/example/tenkyo/tenkyo/exchange/Json$Kind", "of", "(C)Lcom/example/tenkyo/tenkyo/exchange/Json$Kind;"⟩ : MethodName) (head1 (Jvm.Cond.code (⟨"com/example/tenkyo/tenkyo/exchange/Json$Kind", "of", "(C)Lcom/example/tenkyo/tenkyo/exchange/Json$Kind;"⟩ : MethodName) prog_14_method_6_code 2 (some (.object "com/example/tenkyo/tenkyo/exchange/Json$Kind")) :: ws) ({ frames := 0, cells := 0, slots := 0, locals := 0 } : Room)) (fun a U => a = #[(.int p1)] ∧ Z.Warmed39 U.vm ∧ U.heap = h0) (fun _ _ _ _ _ => True) (fun _ U o U' => ∃ v L, o = .returned v ∧ Qk .null h0 n0 v U'.heap L ∧ FrameEnd U o U' L ({ frames := 0, cells := 0, slots := 0, locals := 0 } : Room).cells ({ frames := 0, cells := 0, slots := 0, locals := 0 } : Room).slots) := by
  refine MetFree.of_bodySF (plainFor_of_name pn_1) hisR ?_
  intro p e s m args below meth c s₁ Bd hml0 hP hK
  obtain ⟨rfl, hZ, hh⟩ := hP
  have hx := Bd.exec
  have hby := Bd.bytes
  have hml : c.maxLocals = 2 := hml0
  have hown : s.vm.findClass "com/example/tenkyo/tenkyo/exchange/Json$Kind" = some m.cls := findClass_of_methodNamed Bd.named
  have hnm := (name_of_methodNamed Bd.named Bd.method).1
  have X0 : Stand p l e ({ frames := 0, cells := 0, slots := 0, locals := 0 } : Room) s m #[(.int p1)] below meth c s₁ [] 0 0 := Stand.of_body Bd
  have e0 : s₁.heap = h0 := by rw [← hh, Bd.state]; rfl
  have N0 := Fr.nil n0
  have pre0 : ∀ t, Steps p.tables e below (s₁.setTop (mkF m 0 #[.val (.int p1), .unset] [])) t → Steps p.tables e below (s₁.setTop (entryFrame m #[(.int p1)] 2)) t := fun t k => castTop (ef_1 m p1) k

  obtain ⟨fs, hr, hrun, hended, hW, hsame⟩ := X0.leave (v := some .null) (fun h => by rw [Bd.returns] at h; cases h)
  refine ⟨_, _, pre0 _ ?_, hrun, hended, _, _, rfl, ?_, ⟨_, rfl⟩, hW, hsame.mono (by decide) (by decide)⟩
  · show Steps p.tables e below (s₁.setTop (mkF m 0 #[.val (.int p1), .unset] [])) _
    refine XS.iloadN X0.here hx rfl (hb hby d1_0) rfl ?_
    show Steps p.tables e below (s₁.setTop (mkF m 1 #[.val (.int p1), .unset] [(.int p1)])) _
    refine XS.bipush X0.here hx rfl (hb hby d1_1) ?_
    show Steps p.tables e below (s₁.setTop (mkF m 3 #[.val (.int p1), .unset] [(.int (123 : Int32)), (.int p1)])) _
    refine XS.icmpYes X0.here hx rfl (pc0 := 3) (pc' := 13) rfl (hb hby d1_3) rfl (feq hc3).2 (by decide) (by decide) ?_
    show Steps p.tables e below (s₁.setTop (mkF m 13 #[.val (.int p1), .unset] [])) _
    refine XS.iloadN X0.here hx rfl (hb hby d1_13) rfl ?_
    show Steps p.tables e below (s₁.setTop (mkF m 14 #[.val (.int p1), .unset] [(.int p1)])) _
    refine XS.bipush X0.here hx rfl (hb hby d1_14) ?_
    show Steps p.tables e below (s₁.setTop (mkF m 16 #[.val (.int p1), .unset] [(.int (91 : Int32)), (.int p1)])) _
    refine XS.icmpYes X0.here hx rfl (pc0 := 16) (pc' := 26) rfl (hb hby d1_16) rfl (feq hc16).2 (by decide) (by decide) ?_
    show Steps p.tables e below (s₁.setTop (mkF m 26 #[.val (.int p1), .unset] [])) _
    refine XS.iloadN X0.here hx rfl (hb hby d1_26) rfl ?_
    show Steps p.tables e below (s₁.setTop (mkF m 27 #[.val (.int p1), .unset] [(.int p1)])) _
    refine XS.bipush X0.here hx rfl (hb hby d1_27) ?_
    show Steps p.tables e below (s₁.setTop (mkF m 29 #[.val (.int p1), .unset] [(.int (34 : Int32)), (.int p1)])) _
    refine XS.icmpYes X0.here hx rfl (pc0 := 29) (pc' := 39) rfl (hb hby d1_29) rfl (feq hc29).2 (by decide) (by decide) ?_
    show Steps p.tables e below (s₁.setTop (mkF m 39 #[.val (.int p1), .unset] [])) _
    refine XS.iloadN X0.here hx rfl (hb hby d1_39) rfl ?_
    show Steps p.tables e below (s₁.setTop (mkF m 40 #[.val (.int p1), .unset] [(.int p1)])) _
    refine XS.bipush X0.here hx rfl (hb hby d1_40) ?_
    show Steps p.tables e below (s₁.setTop (mkF m 42 #[.val (.int p1), .unset] [(.int (45 : Int32)), (.int p1)])) _
    refine XS.icmpNo X0.here hx rfl (hb hby d1_42) rfl (feq hc42).1 ?_
    show Steps p.tables e below (s₁.setTop (mkF m 45 #[.val (.int p1), .unset] [])) _
    refine XS.iloadN X0.here hx rfl (hb hby d1_45) rfl ?_
    show Steps p.tables e below (s₁.setTop (mkF m 46 #[.val (.int p1), .unset] [(.int p1)])) _
    refine XS.bipush X0.here hx rfl (hb hby d1_46) ?_
    show Steps p.tables e below (s₁.setTop (mkF m 48 #[.val (.int p1), .unset] [(.int (48 : Int32)), (.int p1)])) _
    refine XS.icmpNo X0.here hx rfl (hb hby d1_48) rfl (flt hc48).1 ?_
    show Steps p.tables e below (s₁.setTop (mkF m 51 #[.val (.int p1), .unset] [])) _
    refine XS.iloadN X0.here hx rfl (hb hby d1_51) rfl ?_
    show Steps p.tables e below (s₁.setTop (mkF m 52 #[.val (.int p1), .unset] [(.int p1)])) _
    refine XS.bipush X0.here hx rfl (hb hby d1_52) ?_
    show Steps p.tables e below (s₁.setTop (mkF m 54 #[.val (.int p1), .unset] [(.int (57 : Int32)), (.int p1)])) _
    refine XS.icmpYes X0.here hx rfl (pc0 := 54) (pc' := 64) rfl (hb hby d1_54) rfl (tlt hc54).2.2.1 (by decide) (by decide) ?_
    show Steps p.tables e below (s₁.setTop (mkF m 64 #[.val (.int p1), .unset] [])) _
    refine XS.iloadN X0.here hx rfl (hb hby d1_64) rfl ?_
    show Steps p.tables e below (s₁.setTop (mkF m 65 #[.val (.int p1), .unset] [(.int p1)])) _
    refine XS.bipush X0.here hx rfl (hb hby d1_65) ?_
    show Steps p.tables e below (s₁.setTop (mkF m 67 #[.val (.int p1), .unset] [(.int (116 : Int32)), (.int p1)])) _
    refine XS.icmpYes X0.here hx rfl (pc0 := 67) (pc' := 77) rfl (hb hby d1_67) rfl (feq hc67).2 (by decide) (by decide) ?_
    show Steps p.tables e below (s₁.setTop (mkF m 77 #[.val (.int p1), .unset] [])) _
    refine XS.iloadN X0.here hx rfl (hb hby d1_77) rfl ?_
    show Steps p.tables e below (s₁.setTop (mkF m 78 #[.val (.int p1), .unset] [(.int p1)])) _
    refine XS.bipush X0.here hx rfl (hb hby d1_78) ?_
    show Steps p.tables e below (s₁.setTop (mkF m 80 #[.val (.int p1), .unset] [(.int (102 : Int32)), (.int p1)])) _
    refine XS.icmpYes X0.here hx rfl (pc0 := 80) (pc' := 90) rfl (hb hby d1_80) rfl (feq hc80).2 (by decide) (by decide) ?_
    show Steps p.tables e below (s₁.setTop (mkF m 90 #[.val (.int p1), .unset] [])) _
    refine XS.iloadN X0.here hx rfl (hb hby d1_90) rfl ?_
    show Steps p.tables e below (s₁.setTop (mkF m 91 #[.val (.int p1), .unset] [(.int p1)])) _
    refine XS.bipush X0.here hx rfl (hb hby d1_91) ?_
    show Steps p.tables e below (s₁.setTop (mkF m 93 #[.val (.int p1), .unset] [(.int (110 : Int32)), (.int p1)])) _
    refine XS.icmpYes X0.here hx rfl (pc0 := 93) (pc' := 103) rfl (hb hby d1_93) rfl (feq hc93).2 (by decide) (by decide) ?_
    show Steps p.tables e below (s₁.setTop (mkF m 103 #[.val (.int p1), .unset] [])) _
    refine XS.aconstNull X0.here hx rfl (hb hby d1_103) ?_
    show Steps p.tables e below (s₁.setTop (mkF m 104 #[.val (.int p1), .unset] [.null])) _
    refine XS.astoreN X0.here hx rfl (hb hby d1_104) rfl rfl (l' := #[.val (.int p1), .val .null]) rfl ?_
    show Steps p.tables e below (s₁.setTop (mkF m 105 #[.val (.int p1), .val .null] [])) _
    refine XS.aloadN X0.here hx rfl (hb hby d1_105) rfl rfl ?_
    show Steps p.tables e below (s₁.setTop (mkF m 106 #[.val (.int p1), .val .null] [.null])) _
    jvm_step X0.here [X0.here.top, hx, (hb hby d1_106), X0.method', Bd.returns, Value.isRef, FieldType.isReference]
    first | (intro acts; rw [hr _ acts rfl rfl rfl]) | rw [hr _ _ rfl rfl rfl]
    exact Steps.refl _
  · show Qk .null h0 n0 _ s₁.heap _
    rw [e0]
    exact ⟨rfl, N0, rfl⟩
theorem os0_177 {s0 : Slot} {s1 : Slot} {s2 : Slot} {s3 : Slot} {s4 : Slot} {s5 : Slot} {s6 : Slot} {s7 : Slot} {s8 : Slot} {s9 : Slot} {s10 : Slot} {s11 : Slot} {s12 : Slot} {s13 : Slot} {v : Addr} (h : One s2) : storeLocals #[s0, s1, s2, s3, s4, s5, s6, s7, s8, s9, s10, s11, s12, s13] 2 (.ref v) = some #[s0, s1, .val (.ref v), s3, s4, s5, s6, s7, s8, s9, s10, s11, s12, s13] := by
  rcases h with rfl | ⟨w, rfl, hw⟩
  · rfl
  · cases w <;> first | rfl | (simp [Value.category] at hw)
set_option maxRecDepth 65536 in
set_option maxHeartbeats 40000000 in
theorem own_segA {p : Program} {l : Launch} {e : Env} {s : State} {m : MethodId} {args : Array Value} {below : List Frame} {meth : Method} {c : Code} {T0 : State} {Z : State} {a0 : Array Value} {h0 : Heap} {n0 : Nat} (s0 : Slot) (s1 : Slot) (s2 : Slot) (s3 : Slot) (s4 : Slot) (s5 : Slot) (s6 : Slot) (s7 : Slot) (s8 : Slot) (s9 : Slot) (s10 : Slot) (s11 : Slot) (s12 : Slot) (s13 : Slot)
    (X0 : Stand p l e room_1 s m args below meth c T0 [] 0 0) (hx : p.tables.exec = Jvm.exec) (hZ : Z.Warmed39 s.vm) (hw : ∀ d ∈ tables_1, d.before a0 Z = true) (hby : c.code = code) (hml : c.maxLocals = 14) (hown : s.vm.findClass "com/example/tenkyo/tenkyo/exchange/KindOfPinLaw" = some m.cls) (e0 : T0.heap = h0) (Z0 : n0 ≤ h0.size) (hs2 : One s2) :
    ∃ (T' : State) (h' : Heap) (L' : List Loc) (b3 : Addr) (k' : ClassId) (vs' : List Value), Stand p l e room_1 s m args below meth c T' L' 1 30 ∧ T'.heap = h' ∧ Fr n0 L' ∧ Keep h0 h' [] ∧ Arv Z h' b3 k' .char (30 : Int32) vs' (.int (0 : Int32)) ∧
      ∀ target, Steps p.tables e below (T'.setTop (mkF m 178 #[s0, s1, .val (.ref b3), s3, s4, s5, s6, s7, s8, s9, s10, s11, s12, s13] [])) target → Steps p.tables e below (T0.setTop (mkF m 0 #[s0, s1, s2, s3, s4, s5, s6, s7, s8, s9, s10, s11, s12, s13] [])) target := by
  have N0 := Fr.nil n0
  obtain ⟨T3, h3, k3, X3, e3, E3, A3, st3⟩ := newP X0 hx hZ (hw _ (List.mem_of_getElem? (i := 0) rfl)) e0 (g := (mkF m 2 #[s0, s1, s2, s3, s4, s5, s6, s7, s8, s9, s10, s11, s12, s13] [(.int (30 : Int32))])) rfl (hb hby at_2) rfl (by decide) (cap := 30) (by decide) (by decide) (by decide) (by decide)
  obtain ⟨b3, g3⟩ : ∃ z, z = h0.size := ⟨_, rfl⟩
  rw [← g3] at A3 st3
  have V_b3 : Arv Z h3 b3 k3 .char (30 : Int32) [(.int (0 : Int32)), (.int (0 : Int32)), (.int (0 : Int32)), (.int (0 : Int32)), (.int (0 : Int32)), (.int (0 : Int32)), (.int (0 : Int32)), (.int (0 : Int32)), (.int (0 : Int32)), (.int (0 : Int32)), (.int (0 : Int32)), (.int (0 : Int32)), (.int (0 : Int32)), (.int (0 : Int32)), (.int (0 : Int32)), (.int (0 : Int32)), (.int (0 : Int32)), (.int (0 : Int32)), (.int (0 : Int32)), (.int (0 : Int32)), (.int (0 : Int32)), (.int (0 : Int32)), (.int (0 : Int32)), (.int (0 : Int32)), (.int (0 : Int32)), (.int (0 : Int32)), (.int (0 : Int32)), (.int (0 : Int32)), (.int (0 : Int32)), (.int (0 : Int32))] (.int (0 : Int32)) := (Arv.new A3 (by decide)).pad (pad_rep [] (.int (0 : Int32)) 30)
  have g_b3 : n0 ≤ b3 := Nat.le_trans Z0 (Nat.le_of_eq g3.symm)
  have sz_b3 : h0.size ≤ b3 := (Nat.le_trans (Keep.refl h0 []).1 (Nat.le_of_eq g3.symm))
  have K3 : Keep h0 h3 [] := (Keep.refl h0 []).ext E3
  obtain ⟨cl_b3_8, Ar_b3, q_b3, S_b3, N_b3, H_b3, G_b3⟩ := V_b3
  have hin8 : ¬ ((0 : Int32) < 0 ∨ cl_b3_8.slots.size ≤ ((0 : Int32)).toNatClampNeg) := inb_of S_b3 ⟨by decide, by decide⟩
  obtain ⟨T4, h4, X4, e4, W4, st4⟩ := stC X3 hx hZ e3 Ar_b3 (j := (0 : Int32)) hin8 (g := (mkF m 8 #[s0, s1, s2, s3, s4, s5, s6, s7, s8, s9, s10, s11, s12, s13] [(.int (123 : Int32)), (.int (0 : Int32)), (.ref b3), (.ref b3)])) rfl rfl (hb hby at_8)
  have V_b3_4 := Arv.set Ar_b3 q_b3 S_b3 N_b3 H_b3 G_b3 (fits_nar_char _) W4 0 rfl (Nat.le_of_ble_eq_true rfl)
  have K4 : Keep h0 h4 [] := K3.wr W4 (Or.inr sz_b3)
  have N4 := Fr.snoc X4 N0 g_b3
  obtain ⟨cl_b3_13, Ar_b3, q_b3, S_b3, N_b3, H_b3, G_b3⟩ := V_b3_4
  have hin13 : ¬ ((1 : Int32) < 0 ∨ cl_b3_13.slots.size ≤ ((1 : Int32)).toNatClampNeg) := inb_of S_b3 ⟨by decide, by decide⟩
  obtain ⟨T5, h5, X5, e5, W5, st5⟩ := stC X4 hx hZ e4 Ar_b3 (j := (1 : Int32)) hin13 (g := (mkF m 13 #[s0, s1, s2, s3, s4, s5, s6, s7, s8, s9, s10, s11, s12, s13] [(.int (91 : Int32)), (.int (1 : Int32)), (.ref b3), (.ref b3)])) rfl rfl (hb hby at_13)
  have V_b3_5 := Arv.set Ar_b3 q_b3 S_b3 N_b3 H_b3 G_b3 (fits_nar_char _) W5 1 rfl (Nat.le_of_ble_eq_true rfl)
  have K5 : Keep h0 h5 [] := K4.wr W5 (Or.inr sz_b3)
  have N5 := Fr.snoc X5 N4 g_b3
  obtain ⟨cl_b3_18, Ar_b3, q_b3, S_b3, N_b3, H_b3, G_b3⟩ := V_b3_5
  have hin18 : ¬ ((2 : Int32) < 0 ∨ cl_b3_18.slots.size ≤ ((2 : Int32)).toNatClampNeg) := inb_of S_b3 ⟨by decide, by decide⟩
  obtain ⟨T6, h6, X6, e6, W6, st6⟩ := stC X5 hx hZ e5 Ar_b3 (j := (2 : Int32)) hin18 (g := (mkF m 18 #[s0, s1, s2, s3, s4, s5, s6, s7, s8, s9, s10, s11, s12, s13] [(.int (34 : Int32)), (.int (2 : Int32)), (.ref b3), (.ref b3)])) rfl rfl (hb hby at_18)
  have V_b3_6 := Arv.set Ar_b3 q_b3 S_b3 N_b3 H_b3 G_b3 (fits_nar_char _) W6 2 rfl (Nat.le_of_ble_eq_true rfl)
  have K6 : Keep h0 h6 [] := K5.wr W6 (Or.inr sz_b3)
  have N6 := Fr.snoc X6 N5 g_b3
  obtain ⟨cl_b3_23, Ar_b3, q_b3, S_b3, N_b3, H_b3, G_b3⟩ := V_b3_6
  have hin23 : ¬ ((3 : Int32) < 0 ∨ cl_b3_23.slots.size ≤ ((3 : Int32)).toNatClampNeg) := inb_of S_b3 ⟨by decide, by decide⟩
  obtain ⟨T7, h7, X7, e7, W7, st7⟩ := stC X6 hx hZ e6 Ar_b3 (j := (3 : Int32)) hin23 (g := (mkF m 23 #[s0, s1, s2, s3, s4, s5, s6, s7, s8, s9, s10, s11, s12, s13] [(.int (45 : Int32)), (.int (3 : Int32)), (.ref b3), (.ref b3)])) rfl rfl (hb hby at_23)
  have V_b3_7 := Arv.set Ar_b3 q_b3 S_b3 N_b3 H_b3 G_b3 (fits_nar_char _) W7 3 rfl (Nat.le_of_ble_eq_true rfl)
  have K7 : Keep h0 h7 [] := K6.wr W7 (Or.inr sz_b3)
  have N7 := Fr.snoc X7 N6 g_b3
  obtain ⟨cl_b3_28, Ar_b3, q_b3, S_b3, N_b3, H_b3, G_b3⟩ := V_b3_7
  have hin28 : ¬ ((4 : Int32) < 0 ∨ cl_b3_28.slots.size ≤ ((4 : Int32)).toNatClampNeg) := inb_of S_b3 ⟨by decide, by decide⟩
  obtain ⟨T8, h8, X8, e8, W8, st8⟩ := stC X7 hx hZ e7 Ar_b3 (j := (4 : Int32)) hin28 (g := (mkF m 28 #[s0, s1, s2, s3, s4, s5, s6, s7, s8, s9, s10, s11, s12, s13] [(.int (48 : Int32)), (.int (4 : Int32)), (.ref b3), (.ref b3)])) rfl rfl (hb hby at_28)
  have V_b3_8 := Arv.set Ar_b3 q_b3 S_b3 N_b3 H_b3 G_b3 (fits_nar_char _) W8 4 rfl (Nat.le_of_ble_eq_true rfl)
  have K8 : Keep h0 h8 [] := K7.wr W8 (Or.inr sz_b3)
  have N8 := Fr.snoc X8 N7 g_b3
  obtain ⟨cl_b3_33, Ar_b3, q_b3, S_b3, N_b3, H_b3, G_b3⟩ := V_b3_8
  have hin33 : ¬ ((5 : Int32) < 0 ∨ cl_b3_33.slots.size ≤ ((5 : Int32)).toNatClampNeg) := inb_of S_b3 ⟨by decide, by decide⟩
  obtain ⟨T9, h9, X9, e9, W9, st9⟩ := stC X8 hx hZ e8 Ar_b3 (j := (5 : Int32)) hin33 (g := (mkF m 33 #[s0, s1, s2, s3, s4, s5, s6, s7, s8, s9, s10, s11, s12, s13] [(.int (57 : Int32)), (.int (5 : Int32)), (.ref b3), (.ref b3)])) rfl rfl (hb hby at_33)
  have V_b3_9 := Arv.set Ar_b3 q_b3 S_b3 N_b3 H_b3 G_b3 (fits_nar_char _) W9 5 rfl (Nat.le_of_ble_eq_true rfl)
  have K9 : Keep h0 h9 [] := K8.wr W9 (Or.inr sz_b3)
  have N9 := Fr.snoc X9 N8 g_b3
  obtain ⟨cl_b3_39, Ar_b3, q_b3, S_b3, N_b3, H_b3, G_b3⟩ := V_b3_9
  have hin39 : ¬ ((6 : Int32) < 0 ∨ cl_b3_39.slots.size ≤ ((6 : Int32)).toNatClampNeg) := inb_of S_b3 ⟨by decide, by decide⟩
  obtain ⟨T10, h10, X10, e10, W10, st10⟩ := stC X9 hx hZ e9 Ar_b3 (j := (6 : Int32)) hin39 (g := (mkF m 39 #[s0, s1, s2, s3, s4, s5, s6, s7, s8, s9, s10, s11, s12, s13] [(.int (116 : Int32)), (.int (6 : Int32)), (.ref b3), (.ref b3)])) rfl rfl (hb hby at_39)
  have V_b3_10 := Arv.set Ar_b3 q_b3 S_b3 N_b3 H_b3 G_b3 (fits_nar_char _) W10 6 rfl (Nat.le_of_ble_eq_true rfl)
  have K10 : Keep h0 h10 [] := K9.wr W10 (Or.inr sz_b3)
  have N10 := Fr.snoc X10 N9 g_b3
  obtain ⟨cl_b3_45, Ar_b3, q_b3, S_b3, N_b3, H_b3, G_b3⟩ := V_b3_10
  have hin45 : ¬ ((7 : Int32) < 0 ∨ cl_b3_45.slots.size ≤ ((7 : Int32)).toNatClampNeg) := inb_of S_b3 ⟨by decide, by decide⟩
  obtain ⟨T11, h11, X11, e11, W11, st11⟩ := stC X10 hx hZ e10 Ar_b3 (j := (7 : Int32)) hin45 (g := (mkF m 45 #[s0, s1, s2, s3, s4, s5, s6, s7, s8, s9, s10, s11, s12, s13] [(.int (102 : Int32)), (.int (7 : Int32)), (.ref b3), (.ref b3)])) rfl rfl (hb hby at_45)
  have V_b3_11 := Arv.set Ar_b3 q_b3 S_b3 N_b3 H_b3 G_b3 (fits_nar_char _) W11 7 rfl (Nat.le_of_ble_eq_true rfl)
  have K11 : Keep h0 h11 [] := K10.wr W11 (Or.inr sz_b3)
  have N11 := Fr.snoc X11 N10 g_b3
  obtain ⟨cl_b3_51, Ar_b3, q_b3, S_b3, N_b3, H_b3, G_b3⟩ := V_b3_11
  have hin51 : ¬ ((8 : Int32) < 0 ∨ cl_b3_51.slots.size ≤ ((8 : Int32)).toNatClampNeg) := inb_of S_b3 ⟨by decide, by decide⟩
  obtain ⟨T12, h12, X12, e12, W12, st12⟩ := stC X11 hx hZ e11 Ar_b3 (j := (8 : Int32)) hin51 (g := (mkF m 51 #[s0, s1, s2, s3, s4, s5, s6, s7, s8, s9, s10, s11, s12, s13] [(.int (110 : Int32)), (.int (8 : Int32)), (.ref b3), (.ref b3)])) rfl rfl (hb hby at_51)
  have V_b3_12 := Arv.set Ar_b3 q_b3 S_b3 N_b3 H_b3 G_b3 (fits_nar_char _) W12 8 rfl (Nat.le_of_ble_eq_true rfl)
  have K12 : Keep h0 h12 [] := K11.wr W12 (Or.inr sz_b3)
  have N12 := Fr.snoc X12 N11 g_b3
  obtain ⟨cl_b3_57, Ar_b3, q_b3, S_b3, N_b3, H_b3, G_b3⟩ := V_b3_12
  have hin57 : ¬ ((9 : Int32) < 0 ∨ cl_b3_57.slots.size ≤ ((9 : Int32)).toNatClampNeg) := inb_of S_b3 ⟨by decide, by decide⟩
  obtain ⟨T13, h13, X13, e13, W13, st13⟩ := stC X12 hx hZ e12 Ar_b3 (j := (9 : Int32)) hin57 (g := (mkF m 57 #[s0, s1, s2, s3, s4, s5, s6, s7, s8, s9, s10, s11, s12, s13] [(.int (47 : Int32)), (.int (9 : Int32)), (.ref b3), (.ref b3)])) rfl rfl (hb hby at_57)
  have V_b3_13 := Arv.set Ar_b3 q_b3 S_b3 N_b3 H_b3 G_b3 (fits_nar_char _) W13 9 rfl (Nat.le_of_ble_eq_true rfl)
  have K13 : Keep h0 h13 [] := K12.wr W13 (Or.inr sz_b3)
  have N13 := Fr.snoc X13 N12 g_b3
  obtain ⟨cl_b3_63, Ar_b3, q_b3, S_b3, N_b3, H_b3, G_b3⟩ := V_b3_13
  have hin63 : ¬ ((10 : Int32) < 0 ∨ cl_b3_63.slots.size ≤ ((10 : Int32)).toNatClampNeg) := inb_of S_b3 ⟨by decide, by decide⟩
  obtain ⟨T14, h14, X14, e14, W14, st14⟩ := stC X13 hx hZ e13 Ar_b3 (j := (10 : Int32)) hin63 (g := (mkF m 63 #[s0, s1, s2, s3, s4, s5, s6, s7, s8, s9, s10, s11, s12, s13] [(.int (58 : Int32)), (.int (10 : Int32)), (.ref b3), (.ref b3)])) rfl rfl (hb hby at_63)
  have V_b3_14 := Arv.set Ar_b3 q_b3 S_b3 N_b3 H_b3 G_b3 (fits_nar_char _) W14 10 rfl (Nat.le_of_ble_eq_true rfl)
  have K14 : Keep h0 h14 [] := K13.wr W14 (Or.inr sz_b3)
  have N14 := Fr.snoc X14 N13 g_b3
  obtain ⟨cl_b3_69, Ar_b3, q_b3, S_b3, N_b3, H_b3, G_b3⟩ := V_b3_14
  have hin69 : ¬ ((11 : Int32) < 0 ∨ cl_b3_69.slots.size ≤ ((11 : Int32)).toNatClampNeg) := inb_of S_b3 ⟨by decide, by decide⟩
  obtain ⟨T15, h15, X15, e15, W15, st15⟩ := stC X14 hx hZ e14 Ar_b3 (j := (11 : Int32)) hin69 (g := (mkF m 69 #[s0, s1, s2, s3, s4, s5, s6, s7, s8, s9, s10, s11, s12, s13] [(.int (125 : Int32)), (.int (11 : Int32)), (.ref b3), (.ref b3)])) rfl rfl (hb hby at_69)
  have V_b3_15 := Arv.set Ar_b3 q_b3 S_b3 N_b3 H_b3 G_b3 (fits_nar_char _) W15 11 rfl (Nat.le_of_ble_eq_true rfl)
  have K15 : Keep h0 h15 [] := K14.wr W15 (Or.inr sz_b3)
  have N15 := Fr.snoc X15 N14 g_b3
  obtain ⟨cl_b3_75, Ar_b3, q_b3, S_b3, N_b3, H_b3, G_b3⟩ := V_b3_15
  have hin75 : ¬ ((12 : Int32) < 0 ∨ cl_b3_75.slots.size ≤ ((12 : Int32)).toNatClampNeg) := inb_of S_b3 ⟨by decide, by decide⟩
  obtain ⟨T16, h16, X16, e16, W16, st16⟩ := stC X15 hx hZ e15 Ar_b3 (j := (12 : Int32)) hin75 (g := (mkF m 75 #[s0, s1, s2, s3, s4, s5, s6, s7, s8, s9, s10, s11, s12, s13] [(.int (93 : Int32)), (.int (12 : Int32)), (.ref b3), (.ref b3)])) rfl rfl (hb hby at_75)
  have V_b3_16 := Arv.set Ar_b3 q_b3 S_b3 N_b3 H_b3 G_b3 (fits_nar_char _) W16 12 rfl (Nat.le_of_ble_eq_true rfl)
  have K16 : Keep h0 h16 [] := K15.wr W16 (Or.inr sz_b3)
  have N16 := Fr.snoc X16 N15 g_b3
  obtain ⟨cl_b3_81, Ar_b3, q_b3, S_b3, N_b3, H_b3, G_b3⟩ := V_b3_16
  have hin81 : ¬ ((13 : Int32) < 0 ∨ cl_b3_81.slots.size ≤ ((13 : Int32)).toNatClampNeg) := inb_of S_b3 ⟨by decide, by decide⟩
  obtain ⟨T17, h17, X17, e17, W17, st17⟩ := stC X16 hx hZ e16 Ar_b3 (j := (13 : Int32)) hin81 (g := (mkF m 81 #[s0, s1, s2, s3, s4, s5, s6, s7, s8, s9, s10, s11, s12, s13] [(.int (43 : Int32)), (.int (13 : Int32)), (.ref b3), (.ref b3)])) rfl rfl (hb hby at_81)
  have V_b3_17 := Arv.set Ar_b3 q_b3 S_b3 N_b3 H_b3 G_b3 (fits_nar_char _) W17 13 rfl (Nat.le_of_ble_eq_true rfl)
  have K17 : Keep h0 h17 [] := K16.wr W17 (Or.inr sz_b3)
  have N17 := Fr.snoc X17 N16 g_b3
  obtain ⟨cl_b3_87, Ar_b3, q_b3, S_b3, N_b3, H_b3, G_b3⟩ := V_b3_17
  have hin87 : ¬ ((14 : Int32) < 0 ∨ cl_b3_87.slots.size ≤ ((14 : Int32)).toNatClampNeg) := inb_of S_b3 ⟨by decide, by decide⟩
  obtain ⟨T18, h18, X18, e18, W18, st18⟩ := stC X17 hx hZ e17 Ar_b3 (j := (14 : Int32)) hin87 (g := (mkF m 87 #[s0, s1, s2, s3, s4, s5, s6, s7, s8, s9, s10, s11, s12, s13] [(.int (46 : Int32)), (.int (14 : Int32)), (.ref b3), (.ref b3)])) rfl rfl (hb hby at_87)
  have V_b3_18 := Arv.set Ar_b3 q_b3 S_b3 N_b3 H_b3 G_b3 (fits_nar_char _) W18 14 rfl (Nat.le_of_ble_eq_true rfl)
  have K18 : Keep h0 h18 [] := K17.wr W18 (Or.inr sz_b3)
  have N18 := Fr.snoc X18 N17 g_b3
  obtain ⟨cl_b3_93, Ar_b3, q_b3, S_b3, N_b3, H_b3, G_b3⟩ := V_b3_18
  have hin93 : ¬ ((15 : Int32) < 0 ∨ cl_b3_93.slots.size ≤ ((15 : Int32)).toNatClampNeg) := inb_of S_b3 ⟨by decide, by decide⟩
  obtain ⟨T19, h19, X19, e19, W19, st19⟩ := stC X18 hx hZ e18 Ar_b3 (j := (15 : Int32)) hin93 (g := (mkF m 93 #[s0, s1, s2, s3, s4, s5, s6, s7, s8, s9, s10, s11, s12, s13] [(.int (101 : Int32)), (.int (15 : Int32)), (.ref b3), (.ref b3)])) rfl rfl (hb hby at_93)
  have V_b3_19 := Arv.set Ar_b3 q_b3 S_b3 N_b3 H_b3 G_b3 (fits_nar_char _) W19 15 rfl (Nat.le_of_ble_eq_true rfl)
  have K19 : Keep h0 h19 [] := K18.wr W19 (Or.inr sz_b3)
  have N19 := Fr.snoc X19 N18 g_b3
  obtain ⟨cl_b3_99, Ar_b3, q_b3, S_b3, N_b3, H_b3, G_b3⟩ := V_b3_19
  have hin99 : ¬ ((16 : Int32) < 0 ∨ cl_b3_99.slots.size ≤ ((16 : Int32)).toNatClampNeg) := inb_of S_b3 ⟨by decide, by decide⟩
  obtain ⟨T20, h20, X20, e20, W20, st20⟩ := stC X19 hx hZ e19 Ar_b3 (j := (16 : Int32)) hin99 (g := (mkF m 99 #[s0, s1, s2, s3, s4, s5, s6, s7, s8, s9, s10, s11, s12, s13] [(.int (32 : Int32)), (.int (16 : Int32)), (.ref b3), (.ref b3)])) rfl rfl (hb hby at_99)
  have V_b3_20 := Arv.set Ar_b3 q_b3 S_b3 N_b3 H_b3 G_b3 (fits_nar_char _) W20 16 rfl (Nat.le_of_ble_eq_true rfl)
  have K20 : Keep h0 h20 [] := K19.wr W20 (Or.inr sz_b3)
  have N20 := Fr.snoc X20 N19 g_b3
  obtain ⟨cl_b3_105, Ar_b3, q_b3, S_b3, N_b3, H_b3, G_b3⟩ := V_b3_20
  have hin105 : ¬ ((17 : Int32) < 0 ∨ cl_b3_105.slots.size ≤ ((17 : Int32)).toNatClampNeg) := inb_of S_b3 ⟨by decide, by decide⟩
  obtain ⟨T21, h21, X21, e21, W21, st21⟩ := stC X20 hx hZ e20 Ar_b3 (j := (17 : Int32)) hin105 (g := (mkF m 105 #[s0, s1, s2, s3, s4, s5, s6, s7, s8, s9, s10, s11, s12, s13] [(.int (84 : Int32)), (.int (17 : Int32)), (.ref b3), (.ref b3)])) rfl rfl (hb hby at_105)
  have V_b3_21 := Arv.set Ar_b3 q_b3 S_b3 N_b3 H_b3 G_b3 (fits_nar_char _) W21 17 rfl (Nat.le_of_ble_eq_true rfl)
  have K21 : Keep h0 h21 [] := K20.wr W21 (Or.inr sz_b3)
  have N21 := Fr.snoc X21 N20 g_b3
  obtain ⟨cl_b3_111, Ar_b3, q_b3, S_b3, N_b3, H_b3, G_b3⟩ := V_b3_21
  have hin111 : ¬ ((18 : Int32) < 0 ∨ cl_b3_111.slots.size ≤ ((18 : Int32)).toNatClampNeg) := inb_of S_b3 ⟨by decide, by decide⟩
  obtain ⟨T22, h22, X22, e22, W22, st22⟩ := stC X21 hx hZ e21 Ar_b3 (j := (18 : Int32)) hin111 (g := (mkF m 111 #[s0, s1, s2, s3, s4, s5, s6, s7, s8, s9, s10, s11, s12, s13] [(.int (70 : Int32)), (.int (18 : Int32)), (.ref b3), (.ref b3)])) rfl rfl (hb hby at_111)
  have V_b3_22 := Arv.set Ar_b3 q_b3 S_b3 N_b3 H_b3 G_b3 (fits_nar_char _) W22 18 rfl (Nat.le_of_ble_eq_true rfl)
  have K22 : Keep h0 h22 [] := K21.wr W22 (Or.inr sz_b3)
  have N22 := Fr.snoc X22 N21 g_b3
  obtain ⟨cl_b3_117, Ar_b3, q_b3, S_b3, N_b3, H_b3, G_b3⟩ := V_b3_22
  have hin117 : ¬ ((19 : Int32) < 0 ∨ cl_b3_117.slots.size ≤ ((19 : Int32)).toNatClampNeg) := inb_of S_b3 ⟨by decide, by decide⟩
  obtain ⟨T23, h23, X23, e23, W23, st23⟩ := stC X22 hx hZ e22 Ar_b3 (j := (19 : Int32)) hin117 (g := (mkF m 117 #[s0, s1, s2, s3, s4, s5, s6, s7, s8, s9, s10, s11, s12, s13] [(.int (78 : Int32)), (.int (19 : Int32)), (.ref b3), (.ref b3)])) rfl rfl (hb hby at_117)
  have V_b3_23 := Arv.set Ar_b3 q_b3 S_b3 N_b3 H_b3 G_b3 (fits_nar_char _) W23 19 rfl (Nat.le_of_ble_eq_true rfl)
  have K23 : Keep h0 h23 [] := K22.wr W23 (Or.inr sz_b3)
  have N23 := Fr.snoc X23 N22 g_b3
  obtain ⟨cl_b3_123, Ar_b3, q_b3, S_b3, N_b3, H_b3, G_b3⟩ := V_b3_23
  have hin123 : ¬ ((20 : Int32) < 0 ∨ cl_b3_123.slots.size ≤ ((20 : Int32)).toNatClampNeg) := inb_of S_b3 ⟨by decide, by decide⟩
  obtain ⟨T24, h24, X24, e24, W24, st24⟩ := stC X23 hx hZ e23 Ar_b3 (j := (20 : Int32)) hin123 (g := (mkF m 123 #[s0, s1, s2, s3, s4, s5, s6, s7, s8, s9, s10, s11, s12, s13] [(.int (39 : Int32)), (.int (20 : Int32)), (.ref b3), (.ref b3)])) rfl rfl (hb hby at_123)
  have V_b3_24 := Arv.set Ar_b3 q_b3 S_b3 N_b3 H_b3 G_b3 (fits_nar_char _) W24 20 rfl (Nat.le_of_ble_eq_true rfl)
  have K24 : Keep h0 h24 [] := K23.wr W24 (Or.inr sz_b3)
  have N24 := Fr.snoc X24 N23 g_b3
  obtain ⟨cl_b3_128, Ar_b3, q_b3, S_b3, N_b3, H_b3, G_b3⟩ := V_b3_24
  have hin128 : ¬ ((21 : Int32) < 0 ∨ cl_b3_128.slots.size ≤ ((21 : Int32)).toNatClampNeg) := inb_of S_b3 ⟨by decide, by decide⟩
  obtain ⟨T25, h25, X25, e25, W25, st25⟩ := stC X24 hx hZ e24 Ar_b3 (j := (21 : Int32)) hin128 (g := (mkF m 128 #[s0, s1, s2, s3, s4, s5, s6, s7, s8, s9, s10, s11, s12, s13] [(.int (0 : Int32)), (.int (21 : Int32)), (.ref b3), (.ref b3)])) rfl rfl (hb hby at_128)
  have V_b3_25 := Arv.set Ar_b3 q_b3 S_b3 N_b3 H_b3 G_b3 (fits_nar_char _) W25 21 rfl (Nat.le_of_ble_eq_true rfl)
  have K25 : Keep h0 h25 [] := K24.wr W25 (Or.inr sz_b3)
  have N25 := Fr.snoc X25 N24 g_b3
  obtain ⟨cl_b3_134, Ar_b3, q_b3, S_b3, N_b3, H_b3, G_b3⟩ := V_b3_25
  have hin134 : ¬ ((22 : Int32) < 0 ∨ cl_b3_134.slots.size ≤ ((22 : Int32)).toNatClampNeg) := inb_of S_b3 ⟨by decide, by decide⟩
  obtain ⟨T26, h26, X26, e26, W26, st26⟩ := stC X25 hx hZ e25 Ar_b3 (j := (22 : Int32)) hin134 (g := (mkF m 134 #[s0, s1, s2, s3, s4, s5, s6, s7, s8, s9, s10, s11, s12, s13] [(.int (65535 : Int32)), (.int (22 : Int32)), (.ref b3), (.ref b3)])) rfl rfl (hb hby at_134)
  have V_b3_26 := Arv.set Ar_b3 q_b3 S_b3 N_b3 H_b3 G_b3 (fits_nar_char _) W26 22 rfl (Nat.le_of_ble_eq_true rfl)
  have K26 : Keep h0 h26 [] := K25.wr W26 (Or.inr sz_b3)
  have N26 := Fr.snoc X26 N25 g_b3
  obtain ⟨cl_b3_140, Ar_b3, q_b3, S_b3, N_b3, H_b3, G_b3⟩ := V_b3_26
  have hin140 : ¬ ((23 : Int32) < 0 ∨ cl_b3_140.slots.size ≤ ((23 : Int32)).toNatClampNeg) := inb_of S_b3 ⟨by decide, by decide⟩
  obtain ⟨T27, h27, X27, e27, W27, st27⟩ := stC X26 hx hZ e26 Ar_b3 (j := (23 : Int32)) hin140 (g := (mkF m 140 #[s0, s1, s2, s3, s4, s5, s6, s7, s8, s9, s10, s11, s12, s13] [(.int (122 : Int32)), (.int (23 : Int32)), (.ref b3), (.ref b3)])) rfl rfl (hb hby at_140)
  have V_b3_27 := Arv.set Ar_b3 q_b3 S_b3 N_b3 H_b3 G_b3 (fits_nar_char _) W27 23 rfl (Nat.le_of_ble_eq_true rfl)
  have K27 : Keep h0 h27 [] := K26.wr W27 (Or.inr sz_b3)
  have N27 := Fr.snoc X27 N26 g_b3
  obtain ⟨cl_b3_146, Ar_b3, q_b3, S_b3, N_b3, H_b3, G_b3⟩ := V_b3_27
  have hin146 : ¬ ((24 : Int32) < 0 ∨ cl_b3_146.slots.size ≤ ((24 : Int32)).toNatClampNeg) := inb_of S_b3 ⟨by decide, by decide⟩
  obtain ⟨T28, h28, X28, e28, W28, st28⟩ := stC X27 hx hZ e27 Ar_b3 (j := (24 : Int32)) hin146 (g := (mkF m 146 #[s0, s1, s2, s3, s4, s5, s6, s7, s8, s9, s10, s11, s12, s13] [(.int (53 : Int32)), (.int (24 : Int32)), (.ref b3), (.ref b3)])) rfl rfl (hb hby at_146)
  have V_b3_28 := Arv.set Ar_b3 q_b3 S_b3 N_b3 H_b3 G_b3 (fits_nar_char _) W28 24 rfl (Nat.le_of_ble_eq_true rfl)
  have K28 : Keep h0 h28 [] := K27.wr W28 (Or.inr sz_b3)
  have N28 := Fr.snoc X28 N27 g_b3
  obtain ⟨cl_b3_152, Ar_b3, q_b3, S_b3, N_b3, H_b3, G_b3⟩ := V_b3_28
  have hin152 : ¬ ((25 : Int32) < 0 ∨ cl_b3_152.slots.size ≤ ((25 : Int32)).toNatClampNeg) := inb_of S_b3 ⟨by decide, by decide⟩
  obtain ⟨T29, h29, X29, e29, W29, st29⟩ := stC X28 hx hZ e28 Ar_b3 (j := (25 : Int32)) hin152 (g := (mkF m 152 #[s0, s1, s2, s3, s4, s5, s6, s7, s8, s9, s10, s11, s12, s13] [(.int (117 : Int32)), (.int (25 : Int32)), (.ref b3), (.ref b3)])) rfl rfl (hb hby at_152)
  have V_b3_29 := Arv.set Ar_b3 q_b3 S_b3 N_b3 H_b3 G_b3 (fits_nar_char _) W29 25 rfl (Nat.le_of_ble_eq_true rfl)
  have K29 : Keep h0 h29 [] := K28.wr W29 (Or.inr sz_b3)
  have N29 := Fr.snoc X29 N28 g_b3
  obtain ⟨cl_b3_158, Ar_b3, q_b3, S_b3, N_b3, H_b3, G_b3⟩ := V_b3_29
  have hin158 : ¬ ((26 : Int32) < 0 ∨ cl_b3_158.slots.size ≤ ((26 : Int32)).toNatClampNeg) := inb_of S_b3 ⟨by decide, by decide⟩
  obtain ⟨T30, h30, X30, e30, W30, st30⟩ := stC X29 hx hZ e29 Ar_b3 (j := (26 : Int32)) hin158 (g := (mkF m 158 #[s0, s1, s2, s3, s4, s5, s6, s7, s8, s9, s10, s11, s12, s13] [(.int (111 : Int32)), (.int (26 : Int32)), (.ref b3), (.ref b3)])) rfl rfl (hb hby at_158)
  have V_b3_30 := Arv.set Ar_b3 q_b3 S_b3 N_b3 H_b3 G_b3 (fits_nar_char _) W30 26 rfl (Nat.le_of_ble_eq_true rfl)
  have K30 : Keep h0 h30 [] := K29.wr W30 (Or.inr sz_b3)
  have N30 := Fr.snoc X30 N29 g_b3
  obtain ⟨cl_b3_164, Ar_b3, q_b3, S_b3, N_b3, H_b3, G_b3⟩ := V_b3_30
  have hin164 : ¬ ((27 : Int32) < 0 ∨ cl_b3_164.slots.size ≤ ((27 : Int32)).toNatClampNeg) := inb_of S_b3 ⟨by decide, by decide⟩
  obtain ⟨T31, h31, X31, e31, W31, st31⟩ := stC X30 hx hZ e30 Ar_b3 (j := (27 : Int32)) hin164 (g := (mkF m 164 #[s0, s1, s2, s3, s4, s5, s6, s7, s8, s9, s10, s11, s12, s13] [(.int (90 : Int32)), (.int (27 : Int32)), (.ref b3), (.ref b3)])) rfl rfl (hb hby at_164)
  have V_b3_31 := Arv.set Ar_b3 q_b3 S_b3 N_b3 H_b3 G_b3 (fits_nar_char _) W31 27 rfl (Nat.le_of_ble_eq_true rfl)
  have K31 : Keep h0 h31 [] := K30.wr W31 (Or.inr sz_b3)
  have N31 := Fr.snoc X31 N30 g_b3
  obtain ⟨cl_b3_170, Ar_b3, q_b3, S_b3, N_b3, H_b3, G_b3⟩ := V_b3_31
  have hin170 : ¬ ((28 : Int32) < 0 ∨ cl_b3_170.slots.size ≤ ((28 : Int32)).toNatClampNeg) := inb_of S_b3 ⟨by decide, by decide⟩
  obtain ⟨T32, h32, X32, e32, W32, st32⟩ := stC X31 hx hZ e31 Ar_b3 (j := (28 : Int32)) hin170 (g := (mkF m 170 #[s0, s1, s2, s3, s4, s5, s6, s7, s8, s9, s10, s11, s12, s13] [(.int (124 : Int32)), (.int (28 : Int32)), (.ref b3), (.ref b3)])) rfl rfl (hb hby at_170)
  have V_b3_32 := Arv.set Ar_b3 q_b3 S_b3 N_b3 H_b3 G_b3 (fits_nar_char _) W32 28 rfl (Nat.le_of_ble_eq_true rfl)
  have K32 : Keep h0 h32 [] := K31.wr W32 (Or.inr sz_b3)
  have N32 := Fr.snoc X32 N31 g_b3
  obtain ⟨cl_b3_176, Ar_b3, q_b3, S_b3, N_b3, H_b3, G_b3⟩ := V_b3_32
  have hin176 : ¬ ((29 : Int32) < 0 ∨ cl_b3_176.slots.size ≤ ((29 : Int32)).toNatClampNeg) := inb_of S_b3 ⟨by decide, by decide⟩
  obtain ⟨T33, h33, X33, e33, W33, st33⟩ := stC X32 hx hZ e32 Ar_b3 (j := (29 : Int32)) hin176 (g := (mkF m 176 #[s0, s1, s2, s3, s4, s5, s6, s7, s8, s9, s10, s11, s12, s13] [(.int (92 : Int32)), (.int (29 : Int32)), (.ref b3), (.ref b3)])) rfl rfl (hb hby at_176)
  have V_b3_33 := Arv.set Ar_b3 q_b3 S_b3 N_b3 H_b3 G_b3 (fits_nar_char _) W33 29 rfl (Nat.le_of_ble_eq_true rfl)
  have K33 : Keep h0 h33 [] := K32.wr W33 (Or.inr sz_b3)
  have N33 := Fr.snoc X33 N32 g_b3
  refine ⟨T33, _, _, b3, _, _, X33, e33, N33, K33, V_b3_33, fun target kt => ?_⟩
  show Steps p.tables e below (T0.setTop (mkF m 0 #[s0, s1, s2, s3, s4, s5, s6, s7, s8, s9, s10, s11, s12, s13] [])) _
  refine XS.bipush X0.here hx rfl (hb hby at_0) ?_
  show Steps p.tables e below (T0.setTop (mkF m 2 #[s0, s1, s2, s3, s4, s5, s6, s7, s8, s9, s10, s11, s12, s13] [(.int (30 : Int32))])) _
  refine st3 _ ?_
  show Steps p.tables e below (T3.setTop (mkF m 4 #[s0, s1, s2, s3, s4, s5, s6, s7, s8, s9, s10, s11, s12, s13] [(.ref b3)])) _
  refine XS.dup X3.here hx rfl (hb hby at_4) rfl rfl ?_
  show Steps p.tables e below (T3.setTop (mkF m 5 #[s0, s1, s2, s3, s4, s5, s6, s7, s8, s9, s10, s11, s12, s13] [(.ref b3), (.ref b3)])) _
  refine XS.iconst X3.here hx rfl (hb hby at_5) ?_
  show Steps p.tables e below (T3.setTop (mkF m 6 #[s0, s1, s2, s3, s4, s5, s6, s7, s8, s9, s10, s11, s12, s13] [(.int (0 : Int32)), (.ref b3), (.ref b3)])) _
  refine XS.bipush X3.here hx rfl (hb hby at_6) ?_
  show Steps p.tables e below (T3.setTop (mkF m 8 #[s0, s1, s2, s3, s4, s5, s6, s7, s8, s9, s10, s11, s12, s13] [(.int (123 : Int32)), (.int (0 : Int32)), (.ref b3), (.ref b3)])) _
  refine st4 _ ?_
  show Steps p.tables e below (T4.setTop (mkF m 9 #[s0, s1, s2, s3, s4, s5, s6, s7, s8, s9, s10, s11, s12, s13] [(.ref b3)])) _
  refine XS.dup X4.here hx rfl (hb hby at_9) rfl rfl ?_
  show Steps p.tables e below (T4.setTop (mkF m 10 #[s0, s1, s2, s3, s4, s5, s6, s7, s8, s9, s10, s11, s12, s13] [(.ref b3), (.ref b3)])) _
  refine XS.iconst X4.here hx rfl (hb hby at_10) ?_
  show Steps p.tables e below (T4.setTop (mkF m 11 #[s0, s1, s2, s3, s4, s5, s6, s7, s8, s9, s10, s11, s12, s13] [(.int (1 : Int32)), (.ref b3), (.ref b3)])) _
  refine XS.bipush X4.here hx rfl (hb hby at_11) ?_
  show Steps p.tables e below (T4.setTop (mkF m 13 #[s0, s1, s2, s3, s4, s5, s6, s7, s8, s9, s10, s11, s12, s13] [(.int (91 : Int32)), (.int (1 : Int32)), (.ref b3), (.ref b3)])) _
  refine st5 _ ?_
  show Steps p.tables e below (T5.setTop (mkF m 14 #[s0, s1, s2, s3, s4, s5, s6, s7, s8, s9, s10, s11, s12, s13] [(.ref b3)])) _
  refine XS.dup X5.here hx rfl (hb hby at_14) rfl rfl ?_
  show Steps p.tables e below (T5.setTop (mkF m 15 #[s0, s1, s2, s3, s4, s5, s6, s7, s8, s9, s10, s11, s12, s13] [(.ref b3), (.ref b3)])) _
  refine XS.iconst X5.here hx rfl (hb hby at_15) ?_
  show Steps p.tables e below (T5.setTop (mkF m 16 #[s0, s1, s2, s3, s4, s5, s6, s7, s8, s9, s10, s11, s12, s13] [(.int (2 : Int32)), (.ref b3), (.ref b3)])) _
  refine XS.bipush X5.here hx rfl (hb hby at_16) ?_
  show Steps p.tables e below (T5.setTop (mkF m 18 #[s0, s1, s2, s3, s4, s5, s6, s7, s8, s9, s10, s11, s12, s13] [(.int (34 : Int32)), (.int (2 : Int32)), (.ref b3), (.ref b3)])) _
  refine st6 _ ?_
  show Steps p.tables e below (T6.setTop (mkF m 19 #[s0, s1, s2, s3, s4, s5, s6, s7, s8, s9, s10, s11, s12, s13] [(.ref b3)])) _
  refine XS.dup X6.here hx rfl (hb hby at_19) rfl rfl ?_
  show Steps p.tables e below (T6.setTop (mkF m 20 #[s0, s1, s2, s3, s4, s5, s6, s7, s8, s9, s10, s11, s12, s13] [(.ref b3), (.ref b3)])) _
  refine XS.iconst X6.here hx rfl (hb hby at_20) ?_
  show Steps p.tables e below (T6.setTop (mkF m 21 #[s0, s1, s2, s3, s4, s5, s6, s7, s8, s9, s10, s11, s12, s13] [(.int (3 : Int32)), (.ref b3), (.ref b3)])) _
  refine XS.bipush X6.here hx rfl (hb hby at_21) ?_
  show Steps p.tables e below (T6.setTop (mkF m 23 #[s0, s1, s2, s3, s4, s5, s6, s7, s8, s9, s10, s11, s12, s13] [(.int (45 : Int32)), (.int (3 : Int32)), (.ref b3), (.ref b3)])) _
  refine st7 _ ?_
  show Steps p.tables e below (T7.setTop (mkF m 24 #[s0, s1, s2, s3, s4, s5, s6, s7, s8, s9, s10, s11, s12, s13] [(.ref b3)])) _
  refine XS.dup X7.here hx rfl (hb hby at_24) rfl rfl ?_
  show Steps p.tables e below (T7.setTop (mkF m 25 #[s0, s1, s2, s3, s4, s5, s6, s7, s8, s9, s10, s11, s12, s13] [(.ref b3), (.ref b3)])) _
  refine XS.iconst X7.here hx rfl (hb hby at_25) ?_
  show Steps p.tables e below (T7.setTop (mkF m 26 #[s0, s1, s2, s3, s4, s5, s6, s7, s8, s9, s10, s11, s12, s13] [(.int (4 : Int32)), (.ref b3), (.ref b3)])) _
  refine XS.bipush X7.here hx rfl (hb hby at_26) ?_
  show Steps p.tables e below (T7.setTop (mkF m 28 #[s0, s1, s2, s3, s4, s5, s6, s7, s8, s9, s10, s11, s12, s13] [(.int (48 : Int32)), (.int (4 : Int32)), (.ref b3), (.ref b3)])) _
  refine st8 _ ?_
  show Steps p.tables e below (T8.setTop (mkF m 29 #[s0, s1, s2, s3, s4, s5, s6, s7, s8, s9, s10, s11, s12, s13] [(.ref b3)])) _
  refine XS.dup X8.here hx rfl (hb hby at_29) rfl rfl ?_
  show Steps p.tables e below (T8.setTop (mkF m 30 #[s0, s1, s2, s3, s4, s5, s6, s7, s8, s9, s10, s11, s12, s13] [(.ref b3), (.ref b3)])) _
  refine XS.iconst X8.here hx rfl (hb hby at_30) ?_
  show Steps p.tables e below (T8.setTop (mkF m 31 #[s0, s1, s2, s3, s4, s5, s6, s7, s8, s9, s10, s11, s12, s13] [(.int (5 : Int32)), (.ref b3), (.ref b3)])) _
  refine XS.bipush X8.here hx rfl (hb hby at_31) ?_
  show Steps p.tables e below (T8.setTop (mkF m 33 #[s0, s1, s2, s3, s4, s5, s6, s7, s8, s9, s10, s11, s12, s13] [(.int (57 : Int32)), (.int (5 : Int32)), (.ref b3), (.ref b3)])) _
  refine st9 _ ?_
  show Steps p.tables e below (T9.setTop (mkF m 34 #[s0, s1, s2, s3, s4, s5, s6, s7, s8, s9, s10, s11, s12, s13] [(.ref b3)])) _
  refine XS.dup X9.here hx rfl (hb hby at_34) rfl rfl ?_
  show Steps p.tables e below (T9.setTop (mkF m 35 #[s0, s1, s2, s3, s4, s5, s6, s7, s8, s9, s10, s11, s12, s13] [(.ref b3), (.ref b3)])) _
  refine XS.bipush X9.here hx rfl (hb hby at_35) ?_
  show Steps p.tables e below (T9.setTop (mkF m 37 #[s0, s1, s2, s3, s4, s5, s6, s7, s8, s9, s10, s11, s12, s13] [(.int (6 : Int32)), (.ref b3), (.ref b3)])) _
  refine XS.bipush X9.here hx rfl (hb hby at_37) ?_
  show Steps p.tables e below (T9.setTop (mkF m 39 #[s0, s1, s2, s3, s4, s5, s6, s7, s8, s9, s10, s11, s12, s13] [(.int (116 : Int32)), (.int (6 : Int32)), (.ref b3), (.ref b3)])) _
  refine st10 _ ?_
  show Steps p.tables e below (T10.setTop (mkF m 40 #[s0, s1, s2, s3, s4, s5, s6, s7, s8, s9, s10, s11, s12, s13] [(.ref b3)])) _
  refine XS.dup X10.here hx rfl (hb hby at_40) rfl rfl ?_
  show Steps p.tables e below (T10.setTop (mkF m 41 #[s0, s1, s2, s3, s4, s5, s6, s7, s8, s9, s10, s11, s12, s13] [(.ref b3), (.ref b3)])) _
  refine XS.bipush X10.here hx rfl (hb hby at_41) ?_
  show Steps p.tables e below (T10.setTop (mkF m 43 #[s0, s1, s2, s3, s4, s5, s6, s7, s8, s9, s10, s11, s12, s13] [(.int (7 : Int32)), (.ref b3), (.ref b3)])) _
  refine XS.bipush X10.here hx rfl (hb hby at_43) ?_
  show Steps p.tables e below (T10.setTop (mkF m 45 #[s0, s1, s2, s3, s4, s5, s6, s7, s8, s9, s10, s11, s12, s13] [(.int (102 : Int32)), (.int (7 : Int32)), (.ref b3), (.ref b3)])) _
  refine st11 _ ?_
  show Steps p.tables e below (T11.setTop (mkF m 46 #[s0, s1, s2, s3, s4, s5, s6, s7, s8, s9, s10, s11, s12, s13] [(.ref b3)])) _
  refine XS.dup X11.here hx rfl (hb hby at_46) rfl rfl ?_
  show Steps p.tables e below (T11.setTop (mkF m 47 #[s0, s1, s2, s3, s4, s5, s6, s7, s8, s9, s10, s11, s12, s13] [(.ref b3), (.ref b3)])) _
  refine XS.bipush X11.here hx rfl (hb hby at_47) ?_
  show Steps p.tables e below (T11.setTop (mkF m 49 #[s0, s1, s2, s3, s4, s5, s6, s7, s8, s9, s10, s11, s12, s13] [(.int (8 : Int32)), (.ref b3), (.ref b3)])) _
  refine XS.bipush X11.here hx rfl (hb hby at_49) ?_
  show Steps p.tables e below (T11.setTop (mkF m 51 #[s0, s1, s2, s3, s4, s5, s6, s7, s8, s9, s10, s11, s12, s13] [(.int (110 : Int32)), (.int (8 : Int32)), (.ref b3), (.ref b3)])) _
  refine st12 _ ?_
  show Steps p.tables e below (T12.setTop (mkF m 52 #[s0, s1, s2, s3, s4, s5, s6, s7, s8, s9, s10, s11, s12, s13] [(.ref b3)])) _
  refine XS.dup X12.here hx rfl (hb hby at_52) rfl rfl ?_
  show Steps p.tables e below (T12.setTop (mkF m 53 #[s0, s1, s2, s3, s4, s5, s6, s7, s8, s9, s10, s11, s12, s13] [(.ref b3), (.ref b3)])) _
  refine XS.bipush X12.here hx rfl (hb hby at_53) ?_
  show Steps p.tables e below (T12.setTop (mkF m 55 #[s0, s1, s2, s3, s4, s5, s6, s7, s8, s9, s10, s11, s12, s13] [(.int (9 : Int32)), (.ref b3), (.ref b3)])) _
  refine XS.bipush X12.here hx rfl (hb hby at_55) ?_
  show Steps p.tables e below (T12.setTop (mkF m 57 #[s0, s1, s2, s3, s4, s5, s6, s7, s8, s9, s10, s11, s12, s13] [(.int (47 : Int32)), (.int (9 : Int32)), (.ref b3), (.ref b3)])) _
  refine st13 _ ?_
  show Steps p.tables e below (T13.setTop (mkF m 58 #[s0, s1, s2, s3, s4, s5, s6, s7, s8, s9, s10, s11, s12, s13] [(.ref b3)])) _
  refine XS.dup X13.here hx rfl (hb hby at_58) rfl rfl ?_
  show Steps p.tables e below (T13.setTop (mkF m 59 #[s0, s1, s2, s3, s4, s5, s6, s7, s8, s9, s10, s11, s12, s13] [(.ref b3), (.ref b3)])) _
  refine XS.bipush X13.here hx rfl (hb hby at_59) ?_
  show Steps p.tables e below (T13.setTop (mkF m 61 #[s0, s1, s2, s3, s4, s5, s6, s7, s8, s9, s10, s11, s12, s13] [(.int (10 : Int32)), (.ref b3), (.ref b3)])) _
  refine XS.bipush X13.here hx rfl (hb hby at_61) ?_
  show Steps p.tables e below (T13.setTop (mkF m 63 #[s0, s1, s2, s3, s4, s5, s6, s7, s8, s9, s10, s11, s12, s13] [(.int (58 : Int32)), (.int (10 : Int32)), (.ref b3), (.ref b3)])) _
  refine st14 _ ?_
  show Steps p.tables e below (T14.setTop (mkF m 64 #[s0, s1, s2, s3, s4, s5, s6, s7, s8, s9, s10, s11, s12, s13] [(.ref b3)])) _
  refine XS.dup X14.here hx rfl (hb hby at_64) rfl rfl ?_
  show Steps p.tables e below (T14.setTop (mkF m 65 #[s0, s1, s2, s3, s4, s5, s6, s7, s8, s9, s10, s11, s12, s13] [(.ref b3), (.ref b3)])) _
  refine XS.bipush X14.here hx rfl (hb hby at_65) ?_
  show Steps p.tables e below (T14.setTop (mkF m 67 #[s0, s1, s2, s3, s4, s5, s6, s7, s8, s9, s10, s11, s12, s13] [(.int (11 : Int32)), (.ref b3), (.ref b3)])) _
  refine XS.bipush X14.here hx rfl (hb hby at_67) ?_
  show Steps p.tables e below (T14.setTop (mkF m 69 #[s0, s1, s2, s3, s4, s5, s6, s7, s8, s9, s10, s11, s12, s13] [(.int (125 : Int32)), (.int (11 : Int32)), (.ref b3), (.ref b3)])) _
  refine st15 _ ?_
  show Steps p.tables e below (T15.setTop (mkF m 70 #[s0, s1, s2, s3, s4, s5, s6, s7, s8, s9, s10, s11, s12, s13] [(.ref b3)])) _
  refine XS.dup X15.here hx rfl (hb hby at_70) rfl rfl ?_
  show Steps p.tables e below (T15.setTop (mkF m 71 #[s0, s1, s2, s3, s4, s5, s6, s7, s8, s9, s10, s11, s12, s13] [(.ref b3), (.ref b3)])) _
  refine XS.bipush X15.here hx rfl (hb hby at_71) ?_
  show Steps p.tables e below (T15.setTop (mkF m 73 #[s0, s1, s2, s3, s4, s5, s6, s7, s8, s9, s10, s11, s12, s13] [(.int (12 : Int32)), (.ref b3), (.ref b3)])) _
  refine XS.bipush X15.here hx rfl (hb hby at_73) ?_
  show Steps p.tables e below (T15.setTop (mkF m 75 #[s0, s1, s2, s3, s4, s5, s6, s7, s8, s9, s10, s11, s12, s13] [(.int (93 : Int32)), (.int (12 : Int32)), (.ref b3), (.ref b3)])) _
  refine st16 _ ?_
  show Steps p.tables e below (T16.setTop (mkF m 76 #[s0, s1, s2, s3, s4, s5, s6, s7, s8, s9, s10, s11, s12, s13] [(.ref b3)])) _
  refine XS.dup X16.here hx rfl (hb hby at_76) rfl rfl ?_
  show Steps p.tables e below (T16.setTop (mkF m 77 #[s0, s1, s2, s3, s4, s5, s6, s7, s8, s9, s10, s11, s12, s13] [(.ref b3), (.ref b3)])) _
  refine XS.bipush X16.here hx rfl (hb hby at_77) ?_
  show Steps p.tables e below (T16.setTop (mkF m 79 #[s0, s1, s2, s3, s4, s5, s6, s7, s8, s9, s10, s11, s12, s13] [(.int (13 : Int32)), (.ref b3), (.ref b3)])) _
  refine XS.bipush X16.here hx rfl (hb hby at_79) ?_
  show Steps p.tables e below (T16.setTop (mkF m 81 #[s0, s1, s2, s3, s4, s5, s6, s7, s8, s9, s10, s11, s12, s13] [(.int (43 : Int32)), (.int (13 : Int32)), (.ref b3), (.ref b3)])) _
  refine st17 _ ?_
  show Steps p.tables e below (T17.setTop (mkF m 82 #[s0, s1, s2, s3, s4, s5, s6, s7, s8, s9, s10, s11, s12, s13] [(.ref b3)])) _
  refine XS.dup X17.here hx rfl (hb hby at_82) rfl rfl ?_
  show Steps p.tables e below (T17.setTop (mkF m 83 #[s0, s1, s2, s3, s4, s5, s6, s7, s8, s9, s10, s11, s12, s13] [(.ref b3), (.ref b3)])) _
  refine XS.bipush X17.here hx rfl (hb hby at_83) ?_
  show Steps p.tables e below (T17.setTop (mkF m 85 #[s0, s1, s2, s3, s4, s5, s6, s7, s8, s9, s10, s11, s12, s13] [(.int (14 : Int32)), (.ref b3), (.ref b3)])) _
  refine XS.bipush X17.here hx rfl (hb hby at_85) ?_
  show Steps p.tables e below (T17.setTop (mkF m 87 #[s0, s1, s2, s3, s4, s5, s6, s7, s8, s9, s10, s11, s12, s13] [(.int (46 : Int32)), (.int (14 : Int32)), (.ref b3), (.ref b3)])) _
  refine st18 _ ?_
  show Steps p.tables e below (T18.setTop (mkF m 88 #[s0, s1, s2, s3, s4, s5, s6, s7, s8, s9, s10, s11, s12, s13] [(.ref b3)])) _
  refine XS.dup X18.here hx rfl (hb hby at_88) rfl rfl ?_
  show Steps p.tables e below (T18.setTop (mkF m 89 #[s0, s1, s2, s3, s4, s5, s6, s7, s8, s9, s10, s11, s12, s13] [(.ref b3), (.ref b3)])) _
  refine XS.bipush X18.here hx rfl (hb hby at_89) ?_
  show Steps p.tables e below (T18.setTop (mkF m 91 #[s0, s1, s2, s3, s4, s5, s6, s7, s8, s9, s10, s11, s12, s13] [(.int (15 : Int32)), (.ref b3), (.ref b3)])) _
  refine XS.bipush X18.here hx rfl (hb hby at_91) ?_
  show Steps p.tables e below (T18.setTop (mkF m 93 #[s0, s1, s2, s3, s4, s5, s6, s7, s8, s9, s10, s11, s12, s13] [(.int (101 : Int32)), (.int (15 : Int32)), (.ref b3), (.ref b3)])) _
  refine st19 _ ?_
  show Steps p.tables e below (T19.setTop (mkF m 94 #[s0, s1, s2, s3, s4, s5, s6, s7, s8, s9, s10, s11, s12, s13] [(.ref b3)])) _
  refine XS.dup X19.here hx rfl (hb hby at_94) rfl rfl ?_
  show Steps p.tables e below (T19.setTop (mkF m 95 #[s0, s1, s2, s3, s4, s5, s6, s7, s8, s9, s10, s11, s12, s13] [(.ref b3), (.ref b3)])) _
  refine XS.bipush X19.here hx rfl (hb hby at_95) ?_
  show Steps p.tables e below (T19.setTop (mkF m 97 #[s0, s1, s2, s3, s4, s5, s6, s7, s8, s9, s10, s11, s12, s13] [(.int (16 : Int32)), (.ref b3), (.ref b3)])) _
  refine XS.bipush X19.here hx rfl (hb hby at_97) ?_
  show Steps p.tables e below (T19.setTop (mkF m 99 #[s0, s1, s2, s3, s4, s5, s6, s7, s8, s9, s10, s11, s12, s13] [(.int (32 : Int32)), (.int (16 : Int32)), (.ref b3), (.ref b3)])) _
  refine st20 _ ?_
  show Steps p.tables e below (T20.setTop (mkF m 100 #[s0, s1, s2, s3, s4, s5, s6, s7, s8, s9, s10, s11, s12, s13] [(.ref b3)])) _
  refine XS.dup X20.here hx rfl (hb hby at_100) rfl rfl ?_
  show Steps p.tables e below (T20.setTop (mkF m 101 #[s0, s1, s2, s3, s4, s5, s6, s7, s8, s9, s10, s11, s12, s13] [(.ref b3), (.ref b3)])) _
  refine XS.bipush X20.here hx rfl (hb hby at_101) ?_
  show Steps p.tables e below (T20.setTop (mkF m 103 #[s0, s1, s2, s3, s4, s5, s6, s7, s8, s9, s10, s11, s12, s13] [(.int (17 : Int32)), (.ref b3), (.ref b3)])) _
  refine XS.bipush X20.here hx rfl (hb hby at_103) ?_
  show Steps p.tables e below (T20.setTop (mkF m 105 #[s0, s1, s2, s3, s4, s5, s6, s7, s8, s9, s10, s11, s12, s13] [(.int (84 : Int32)), (.int (17 : Int32)), (.ref b3), (.ref b3)])) _
  refine st21 _ ?_
  show Steps p.tables e below (T21.setTop (mkF m 106 #[s0, s1, s2, s3, s4, s5, s6, s7, s8, s9, s10, s11, s12, s13] [(.ref b3)])) _
  refine XS.dup X21.here hx rfl (hb hby at_106) rfl rfl ?_
  show Steps p.tables e below (T21.setTop (mkF m 107 #[s0, s1, s2, s3, s4, s5, s6, s7, s8, s9, s10, s11, s12, s13] [(.ref b3), (.ref b3)])) _
  refine XS.bipush X21.here hx rfl (hb hby at_107) ?_
  show Steps p.tables e below (T21.setTop (mkF m 109 #[s0, s1, s2, s3, s4, s5, s6, s7, s8, s9, s10, s11, s12, s13] [(.int (18 : Int32)), (.ref b3), (.ref b3)])) _
  refine XS.bipush X21.here hx rfl (hb hby at_109) ?_
  show Steps p.tables e below (T21.setTop (mkF m 111 #[s0, s1, s2, s3, s4, s5, s6, s7, s8, s9, s10, s11, s12, s13] [(.int (70 : Int32)), (.int (18 : Int32)), (.ref b3), (.ref b3)])) _
  refine st22 _ ?_
  show Steps p.tables e below (T22.setTop (mkF m 112 #[s0, s1, s2, s3, s4, s5, s6, s7, s8, s9, s10, s11, s12, s13] [(.ref b3)])) _
  refine XS.dup X22.here hx rfl (hb hby at_112) rfl rfl ?_
  show Steps p.tables e below (T22.setTop (mkF m 113 #[s0, s1, s2, s3, s4, s5, s6, s7, s8, s9, s10, s11, s12, s13] [(.ref b3), (.ref b3)])) _
  refine XS.bipush X22.here hx rfl (hb hby at_113) ?_
  show Steps p.tables e below (T22.setTop (mkF m 115 #[s0, s1, s2, s3, s4, s5, s6, s7, s8, s9, s10, s11, s12, s13] [(.int (19 : Int32)), (.ref b3), (.ref b3)])) _
  refine XS.bipush X22.here hx rfl (hb hby at_115) ?_
  show Steps p.tables e below (T22.setTop (mkF m 117 #[s0, s1, s2, s3, s4, s5, s6, s7, s8, s9, s10, s11, s12, s13] [(.int (78 : Int32)), (.int (19 : Int32)), (.ref b3), (.ref b3)])) _
  refine st23 _ ?_
  show Steps p.tables e below (T23.setTop (mkF m 118 #[s0, s1, s2, s3, s4, s5, s6, s7, s8, s9, s10, s11, s12, s13] [(.ref b3)])) _
  refine XS.dup X23.here hx rfl (hb hby at_118) rfl rfl ?_
  show Steps p.tables e below (T23.setTop (mkF m 119 #[s0, s1, s2, s3, s4, s5, s6, s7, s8, s9, s10, s11, s12, s13] [(.ref b3), (.ref b3)])) _
  refine XS.bipush X23.here hx rfl (hb hby at_119) ?_
  show Steps p.tables e below (T23.setTop (mkF m 121 #[s0, s1, s2, s3, s4, s5, s6, s7, s8, s9, s10, s11, s12, s13] [(.int (20 : Int32)), (.ref b3), (.ref b3)])) _
  refine XS.bipush X23.here hx rfl (hb hby at_121) ?_
  show Steps p.tables e below (T23.setTop (mkF m 123 #[s0, s1, s2, s3, s4, s5, s6, s7, s8, s9, s10, s11, s12, s13] [(.int (39 : Int32)), (.int (20 : Int32)), (.ref b3), (.ref b3)])) _
  refine st24 _ ?_
  show Steps p.tables e below (T24.setTop (mkF m 124 #[s0, s1, s2, s3, s4, s5, s6, s7, s8, s9, s10, s11, s12, s13] [(.ref b3)])) _
  refine XS.dup X24.here hx rfl (hb hby at_124) rfl rfl ?_
  show Steps p.tables e below (T24.setTop (mkF m 125 #[s0, s1, s2, s3, s4, s5, s6, s7, s8, s9, s10, s11, s12, s13] [(.ref b3), (.ref b3)])) _
  refine XS.bipush X24.here hx rfl (hb hby at_125) ?_
  show Steps p.tables e below (T24.setTop (mkF m 127 #[s0, s1, s2, s3, s4, s5, s6, s7, s8, s9, s10, s11, s12, s13] [(.int (21 : Int32)), (.ref b3), (.ref b3)])) _
  refine XS.iconst X24.here hx rfl (hb hby at_127) ?_
  show Steps p.tables e below (T24.setTop (mkF m 128 #[s0, s1, s2, s3, s4, s5, s6, s7, s8, s9, s10, s11, s12, s13] [(.int (0 : Int32)), (.int (21 : Int32)), (.ref b3), (.ref b3)])) _
  refine st25 _ ?_
  show Steps p.tables e below (T25.setTop (mkF m 129 #[s0, s1, s2, s3, s4, s5, s6, s7, s8, s9, s10, s11, s12, s13] [(.ref b3)])) _
  refine XS.dup X25.here hx rfl (hb hby at_129) rfl rfl ?_
  show Steps p.tables e below (T25.setTop (mkF m 130 #[s0, s1, s2, s3, s4, s5, s6, s7, s8, s9, s10, s11, s12, s13] [(.ref b3), (.ref b3)])) _
  refine XS.bipush X25.here hx rfl (hb hby at_130) ?_
  show Steps p.tables e below (T25.setTop (mkF m 132 #[s0, s1, s2, s3, s4, s5, s6, s7, s8, s9, s10, s11, s12, s13] [(.int (22 : Int32)), (.ref b3), (.ref b3)])) _
  refine X25.ldcInt hx hown (mvT hZ (hw _ (List.mem_of_getElem? (i := 1) rfl))) (g := (mkF m 132 #[s0, s1, s2, s3, s4, s5, s6, s7, s8, s9, s10, s11, s12, s13] [(.int (22 : Int32)), (.ref b3), (.ref b3)])) rfl (hb hby at_132) _ ?_
  show Steps p.tables e below (T25.setTop (mkF m 134 #[s0, s1, s2, s3, s4, s5, s6, s7, s8, s9, s10, s11, s12, s13] [(.int (65535 : Int32)), (.int (22 : Int32)), (.ref b3), (.ref b3)])) _
  refine st26 _ ?_
  show Steps p.tables e below (T26.setTop (mkF m 135 #[s0, s1, s2, s3, s4, s5, s6, s7, s8, s9, s10, s11, s12, s13] [(.ref b3)])) _
  refine XS.dup X26.here hx rfl (hb hby at_135) rfl rfl ?_
  show Steps p.tables e below (T26.setTop (mkF m 136 #[s0, s1, s2, s3, s4, s5, s6, s7, s8, s9, s10, s11, s12, s13] [(.ref b3), (.ref b3)])) _
  refine XS.bipush X26.here hx rfl (hb hby at_136) ?_
  show Steps p.tables e below (T26.setTop (mkF m 138 #[s0, s1, s2, s3, s4, s5, s6, s7, s8, s9, s10, s11, s12, s13] [(.int (23 : Int32)), (.ref b3), (.ref b3)])) _
  refine XS.bipush X26.here hx rfl (hb hby at_138) ?_
  show Steps p.tables e below (T26.setTop (mkF m 140 #[s0, s1, s2, s3, s4, s5, s6, s7, s8, s9, s10, s11, s12, s13] [(.int (122 : Int32)), (.int (23 : Int32)), (.ref b3), (.ref b3)])) _
  refine st27 _ ?_
  show Steps p.tables e below (T27.setTop (mkF m 141 #[s0, s1, s2, s3, s4, s5, s6, s7, s8, s9, s10, s11, s12, s13] [(.ref b3)])) _
  refine XS.dup X27.here hx rfl (hb hby at_141) rfl rfl ?_
  show Steps p.tables e below (T27.setTop (mkF m 142 #[s0, s1, s2, s3, s4, s5, s6, s7, s8, s9, s10, s11, s12, s13] [(.ref b3), (.ref b3)])) _
  refine XS.bipush X27.here hx rfl (hb hby at_142) ?_
  show Steps p.tables e below (T27.setTop (mkF m 144 #[s0, s1, s2, s3, s4, s5, s6, s7, s8, s9, s10, s11, s12, s13] [(.int (24 : Int32)), (.ref b3), (.ref b3)])) _
  refine XS.bipush X27.here hx rfl (hb hby at_144) ?_
  show Steps p.tables e below (T27.setTop (mkF m 146 #[s0, s1, s2, s3, s4, s5, s6, s7, s8, s9, s10, s11, s12, s13] [(.int (53 : Int32)), (.int (24 : Int32)), (.ref b3), (.ref b3)])) _
  refine st28 _ ?_
  show Steps p.tables e below (T28.setTop (mkF m 147 #[s0, s1, s2, s3, s4, s5, s6, s7, s8, s9, s10, s11, s12, s13] [(.ref b3)])) _
  refine XS.dup X28.here hx rfl (hb hby at_147) rfl rfl ?_
  show Steps p.tables e below (T28.setTop (mkF m 148 #[s0, s1, s2, s3, s4, s5, s6, s7, s8, s9, s10, s11, s12, s13] [(.ref b3), (.ref b3)])) _
  refine XS.bipush X28.here hx rfl (hb hby at_148) ?_
  show Steps p.tables e below (T28.setTop (mkF m 150 #[s0, s1, s2, s3, s4, s5, s6, s7, s8, s9, s10, s11, s12, s13] [(.int (25 : Int32)), (.ref b3), (.ref b3)])) _
  refine XS.bipush X28.here hx rfl (hb hby at_150) ?_
  show Steps p.tables e below (T28.setTop (mkF m 152 #[s0, s1, s2, s3, s4, s5, s6, s7, s8, s9, s10, s11, s12, s13] [(.int (117 : Int32)), (.int (25 : Int32)), (.ref b3), (.ref b3)])) _
  refine st29 _ ?_
  show Steps p.tables e below (T29.setTop (mkF m 153 #[s0, s1, s2, s3, s4, s5, s6, s7, s8, s9, s10, s11, s12, s13] [(.ref b3)])) _
  refine XS.dup X29.here hx rfl (hb hby at_153) rfl rfl ?_
  show Steps p.tables e below (T29.setTop (mkF m 154 #[s0, s1, s2, s3, s4, s5, s6, s7, s8, s9, s10, s11, s12, s13] [(.ref b3), (.ref b3)])) _
  refine XS.bipush X29.here hx rfl (hb hby at_154) ?_
  show Steps p.tables e below (T29.setTop (mkF m 156 #[s0, s1, s2, s3, s4, s5, s6, s7, s8, s9, s10, s11, s12, s13] [(.int (26 : Int32)), (.ref b3), (.ref b3)])) _
  refine XS.bipush X29.here hx rfl (hb hby at_156) ?_
  show Steps p.tables e below (T29.setTop (mkF m 158 #[s0, s1, s2, s3, s4, s5, s6, s7, s8, s9, s10, s11, s12, s13] [(.int (111 : Int32)), (.int (26 : Int32)), (.ref b3), (.ref b3)])) _
  refine st30 _ ?_
  show Steps p.tables e below (T30.setTop (mkF m 159 #[s0, s1, s2, s3, s4, s5, s6, s7, s8, s9, s10, s11, s12, s13] [(.ref b3)])) _
  refine XS.dup X30.here hx rfl (hb hby at_159) rfl rfl ?_
  show Steps p.tables e below (T30.setTop (mkF m 160 #[s0, s1, s2, s3, s4, s5, s6, s7, s8, s9, s10, s11, s12, s13] [(.ref b3), (.ref b3)])) _
  refine XS.bipush X30.here hx rfl (hb hby at_160) ?_
  show Steps p.tables e below (T30.setTop (mkF m 162 #[s0, s1, s2, s3, s4, s5, s6, s7, s8, s9, s10, s11, s12, s13] [(.int (27 : Int32)), (.ref b3), (.ref b3)])) _
  refine XS.bipush X30.here hx rfl (hb hby at_162) ?_
  show Steps p.tables e below (T30.setTop (mkF m 164 #[s0, s1, s2, s3, s4, s5, s6, s7, s8, s9, s10, s11, s12, s13] [(.int (90 : Int32)), (.int (27 : Int32)), (.ref b3), (.ref b3)])) _
  refine st31 _ ?_
  show Steps p.tables e below (T31.setTop (mkF m 165 #[s0, s1, s2, s3, s4, s5, s6, s7, s8, s9, s10, s11, s12, s13] [(.ref b3)])) _
  refine XS.dup X31.here hx rfl (hb hby at_165) rfl rfl ?_
  show Steps p.tables e below (T31.setTop (mkF m 166 #[s0, s1, s2, s3, s4, s5, s6, s7, s8, s9, s10, s11, s12, s13] [(.ref b3), (.ref b3)])) _
  refine XS.bipush X31.here hx rfl (hb hby at_166) ?_
  show Steps p.tables e below (T31.setTop (mkF m 168 #[s0, s1, s2, s3, s4, s5, s6, s7, s8, s9, s10, s11, s12, s13] [(.int (28 : Int32)), (.ref b3), (.ref b3)])) _
  refine XS.bipush X31.here hx rfl (hb hby at_168) ?_
  show Steps p.tables e below (T31.setTop (mkF m 170 #[s0, s1, s2, s3, s4, s5, s6, s7, s8, s9, s10, s11, s12, s13] [(.int (124 : Int32)), (.int (28 : Int32)), (.ref b3), (.ref b3)])) _
  refine st32 _ ?_
  show Steps p.tables e below (T32.setTop (mkF m 171 #[s0, s1, s2, s3, s4, s5, s6, s7, s8, s9, s10, s11, s12, s13] [(.ref b3)])) _
  refine XS.dup X32.here hx rfl (hb hby at_171) rfl rfl ?_
  show Steps p.tables e below (T32.setTop (mkF m 172 #[s0, s1, s2, s3, s4, s5, s6, s7, s8, s9, s10, s11, s12, s13] [(.ref b3), (.ref b3)])) _
  refine XS.bipush X32.here hx rfl (hb hby at_172) ?_
  show Steps p.tables e below (T32.setTop (mkF m 174 #[s0, s1, s2, s3, s4, s5, s6, s7, s8, s9, s10, s11, s12, s13] [(.int (29 : Int32)), (.ref b3), (.ref b3)])) _
  refine XS.bipush X32.here hx rfl (hb hby at_174) ?_
  show Steps p.tables e below (T32.setTop (mkF m 176 #[s0, s1, s2, s3, s4, s5, s6, s7, s8, s9, s10, s11, s12, s13] [(.int (92 : Int32)), (.int (29 : Int32)), (.ref b3), (.ref b3)])) _
  refine st33 _ ?_
  show Steps p.tables e below (T33.setTop (mkF m 177 #[s0, s1, s2, s3, s4, s5, s6, s7, s8, s9, s10, s11, s12, s13] [(.ref b3)])) _
  refine XS.astoreN X33.here hx rfl (hb hby at_177) rfl rfl (l' := #[s0, s1, .val (.ref b3), s3, s4, s5, s6, s7, s8, s9, s10, s11, s12, s13]) (os0_177 hs2) ?_
  exact kt
theorem os0_193 {z0 : Value} {z1 : Value} {z2 : Value} {s3 : Slot} {s4 : Slot} {s5 : Slot} {s6 : Slot} {s7 : Slot} {s8 : Slot} {s9 : Slot} {s10 : Slot} {s11 : Slot} {s12 : Slot} {s13 : Slot} {v : Int32} (h : One s3) : storeLocals #[.val z0, .val z1, .val z2, s3, s4, s5, s6, s7, s8, s9, s10, s11, s12, s13] 3 (.int v) = some #[.val z0, .val z1, .val z2, .val (.int v), s4, s5, s6, s7, s8, s9, s10, s11, s12, s13] := by
  rcases h with rfl | ⟨w, rfl, hw⟩
  · rfl
  · cases w <;> first | rfl | (simp [Value.category] at hw)
set_option maxRecDepth 65536 in
set_option maxHeartbeats 40000000 in
theorem own_segB1 {p : Program} {l : Launch} {e : Env} {R : Room} {s : State} {m : MethodId} {args : Array Value} {below : List Frame} {meth : Method} {c : Code} {T0 : State} {locs : List Loc} {cells slots : Nat} {Z : State} {a0 : Array Value} {h0 : Heap} (i0 : Int32) (i1 : Int32) (o2 : Addr) (s3 : Slot) (s4 : Slot) (s5 : Slot) (s6 : Slot) (s7 : Slot) (s8 : Slot) (s9 : Slot) (s10 : Slot) (s11 : Slot) (s12 : Slot) (s13 : Slot) (cl_o2 : Cell) (z_o2 : Int32) (w3 : Int32)
    (X0 : Stand p l e R s m args below meth c T0 locs cells slots) (hx : p.tables.exec = Jvm.exec) (hZ : Z.Warmed39 s.vm) (hw : ∀ d ∈ tables_1, d.before a0 Z = true) (hby : c.code = code) (hml : c.maxLocals = 14) (hown : s.vm.findClass "com/example/tenkyo/tenkyo/exchange/KindOfPinLaw" = some m.cls) (e0 : T0.heap = h0) (Ar_o2 : Arr Z h0 o2 cl_o2 .char) (S_o2 : cl_o2.slots.size = z_o2.toNatClampNeg) (N_o2 : ¬ z_o2 < 0) (hin192 : ¬ (((i0 &&& (2147483647 : Int32)) - ((i0 &&& (2147483647 : Int32)) / z_o2) * z_o2) < 0 ∨ cl_o2.slots.size ≤ (((i0 &&& (2147483647 : Int32)) - ((i0 &&& (2147483647 : Int32)) / z_o2) * z_o2)).toNatClampNeg)) (hat192 : cl_o2.slots[(((i0 &&& (2147483647 : Int32)) - ((i0 &&& (2147483647 : Int32)) / z_o2) * z_o2)).toNatClampNeg]? = some (.int w3)) (hs3 : One s3) (hc181 : ¬ ((i1 &&& (1 : Int32)) = (0 : Int32))) (hnz191 : ¬ (z_o2 = (0 : Int32))) :
    ∃ (T' : State), Stand p l e R s m args below meth c T' locs cells slots ∧ T'.heap = h0 ∧
      ∀ target, Steps p.tables e below (T'.setTop (mkF m 203 #[.val (.int i0), .val (.int i1), .val (.ref o2), .val (.int w3), s4, s5, s6, s7, s8, s9, s10, s11, s12, s13] [])) target → Steps p.tables e below (T0.setTop (mkF m 178 #[.val (.int i0), .val (.int i1), .val (.ref o2), s3, s4, s5, s6, s7, s8, s9, s10, s11, s12, s13] [])) target := by

  refine ⟨T0, X0, e0, fun target kt => ?_⟩
  show Steps p.tables e below (T0.setTop (mkF m 178 #[.val (.int i0), .val (.int i1), .val (.ref o2), s3, s4, s5, s6, s7, s8, s9, s10, s11, s12, s13] [])) _
  refine XS.iloadN X0.here hx rfl (hb hby at_178) rfl ?_
  show Steps p.tables e below (T0.setTop (mkF m 179 #[.val (.int i0), .val (.int i1), .val (.ref o2), s3, s4, s5, s6, s7, s8, s9, s10, s11, s12, s13] [(.int i1)])) _
  refine XS.iconst X0.here hx rfl (hb hby at_179) ?_
  show Steps p.tables e below (T0.setTop (mkF m 180 #[.val (.int i0), .val (.int i1), .val (.ref o2), s3, s4, s5, s6, s7, s8, s9, s10, s11, s12, s13] [(.int (1 : Int32)), (.int i1)])) _
  refine XS.iand X0.here hx rfl (hb hby at_180) rfl ?_
  show Steps p.tables e below (T0.setTop (mkF m 181 #[.val (.int i0), .val (.int i1), .val (.ref o2), s3, s4, s5, s6, s7, s8, s9, s10, s11, s12, s13] [(.int (i1 &&& (1 : Int32)))])) _
  refine XS.ifNo X0.here hx rfl (hb hby at_181) rfl ((if0 _ _).trans (feq hc181).1) ?_
  show Steps p.tables e below (T0.setTop (mkF m 184 #[.val (.int i0), .val (.int i1), .val (.ref o2), s3, s4, s5, s6, s7, s8, s9, s10, s11, s12, s13] [])) _
  refine XS.aloadN X0.here hx rfl (hb hby at_184) rfl rfl ?_
  show Steps p.tables e below (T0.setTop (mkF m 185 #[.val (.int i0), .val (.int i1), .val (.ref o2), s3, s4, s5, s6, s7, s8, s9, s10, s11, s12, s13] [(.ref o2)])) _
  refine XS.iloadN X0.here hx rfl (hb hby at_185) rfl ?_
  show Steps p.tables e below (T0.setTop (mkF m 186 #[.val (.int i0), .val (.int i1), .val (.ref o2), s3, s4, s5, s6, s7, s8, s9, s10, s11, s12, s13] [(.int i0), (.ref o2)])) _
  refine X0.ldcInt hx hown (mvT hZ (hw _ (List.mem_of_getElem? (i := 2) rfl))) (g := (mkF m 186 #[.val (.int i0), .val (.int i1), .val (.ref o2), s3, s4, s5, s6, s7, s8, s9, s10, s11, s12, s13] [(.int i0), (.ref o2)])) rfl (hb hby at_186) _ ?_
  show Steps p.tables e below (T0.setTop (mkF m 188 #[.val (.int i0), .val (.int i1), .val (.ref o2), s3, s4, s5, s6, s7, s8, s9, s10, s11, s12, s13] [(.int (2147483647 : Int32)), (.int i0), (.ref o2)])) _
  refine XS.iand X0.here hx rfl (hb hby at_188) rfl ?_
  show Steps p.tables e below (T0.setTop (mkF m 189 #[.val (.int i0), .val (.int i1), .val (.ref o2), s3, s4, s5, s6, s7, s8, s9, s10, s11, s12, s13] [(.int (i0 &&& (2147483647 : Int32))), (.ref o2)])) _
  refine XS.aloadN X0.here hx rfl (hb hby at_189) rfl rfl ?_
  show Steps p.tables e below (T0.setTop (mkF m 190 #[.val (.int i0), .val (.int i1), .val (.ref o2), s3, s4, s5, s6, s7, s8, s9, s10, s11, s12, s13] [(.ref o2), (.int (i0 &&& (2147483647 : Int32))), (.ref o2)])) _
  refine X0.arraylength hx (by rw [e0]; exact Ar_o2.1) (State.isArrayOf_alike hZ.alike Ar_o2.2.1) (g := (mkF m 190 #[.val (.int i0), .val (.int i1), .val (.ref o2), s3, s4, s5, s6, s7, s8, s9, s10, s11, s12, s13] [(.ref o2), (.int (i0 &&& (2147483647 : Int32))), (.ref o2)])) rfl rfl (hb hby at_190) _ ?_
  rw [len_of S_o2 N_o2]
  show Steps p.tables e below (T0.setTop (mkF m 191 #[.val (.int i0), .val (.int i1), .val (.ref o2), s3, s4, s5, s6, s7, s8, s9, s10, s11, s12, s13] [(.int z_o2), (.int (i0 &&& (2147483647 : Int32))), (.ref o2)])) _
  refine XS.irem X0.here hx rfl (hb hby at_191) rfl hnz191 ?_
  show Steps p.tables e below (T0.setTop (mkF m 192 #[.val (.int i0), .val (.int i1), .val (.ref o2), s3, s4, s5, s6, s7, s8, s9, s10, s11, s12, s13] [(.int ((i0 &&& (2147483647 : Int32)) - ((i0 &&& (2147483647 : Int32)) / z_o2) * z_o2)), (.ref o2)])) _
  refine X0.caload hx (j := ((i0 &&& (2147483647 : Int32)) - ((i0 &&& (2147483647 : Int32)) / z_o2) * z_o2)) (v := (.int w3)) (by rw [e0]; exact Ar_o2.1) (State.isArrayOf_alike hZ.alike Ar_o2.2.1) Ar_o2.2.2 hin192 hat192 (g := (mkF m 192 #[.val (.int i0), .val (.int i1), .val (.ref o2), s3, s4, s5, s6, s7, s8, s9, s10, s11, s12, s13] [(.int ((i0 &&& (2147483647 : Int32)) - ((i0 &&& (2147483647 : Int32)) / z_o2) * z_o2)), (.ref o2)])) rfl rfl (hb hby at_192) _ ?_
  show Steps p.tables e below (T0.setTop (mkF m 193 #[.val (.int i0), .val (.int i1), .val (.ref o2), s3, s4, s5, s6, s7, s8, s9, s10, s11, s12, s13] [(.int w3)])) _
  refine XS.istoreN X0.here hx rfl (hb hby at_193) rfl (l' := #[.val (.int i0), .val (.int i1), .val (.ref o2), .val (.int w3), s4, s5, s6, s7, s8, s9, s10, s11, s12, s13]) (os0_193 hs3) ?_
  show Steps p.tables e below (T0.setTop (mkF m 194 #[.val (.int i0), .val (.int i1), .val (.ref o2), .val (.int w3), s4, s5, s6, s7, s8, s9, s10, s11, s12, s13] [])) _
  refine XS.goto X0.here hx rfl (pc0 := 194) (pc' := 203) rfl (hb hby at_194) (by decide) (by decide) ?_
  exact kt
theorem os0_202 {z0 : Value} {z1 : Value} {s2 : Slot} {s3 : Slot} {s4 : Slot} {s5 : Slot} {s6 : Slot} {s7 : Slot} {s8 : Slot} {s9 : Slot} {s10 : Slot} {s11 : Slot} {s12 : Slot} {s13 : Slot} {v : Int32} (h : One s3) : storeLocals #[.val z0, .val z1, s2, s3, s4, s5, s6, s7, s8, s9, s10, s11, s12, s13] 3 (.int v) = some #[.val z0, .val z1, s2, .val (.int v), s4, s5, s6, s7, s8, s9, s10, s11, s12, s13] := by
  rcases h with rfl | ⟨w, rfl, hw⟩
  · rfl
  · cases w <;> first | rfl | (simp [Value.category] at hw)
set_option maxRecDepth 65536 in
set_option maxHeartbeats 40000000 in
theorem own_segB2 {p : Program} {l : Launch} {e : Env} {R : Room} {s : State} {m : MethodId} {args : Array Value} {below : List Frame} {meth : Method} {c : Code} {T0 : State} {locs : List Loc} {cells slots : Nat} {Z : State} {a0 : Array Value} {h0 : Heap} (i0 : Int32) (i1 : Int32) (s2 : Slot) (s3 : Slot) (s4 : Slot) (s5 : Slot) (s6 : Slot) (s7 : Slot) (s8 : Slot) (s9 : Slot) (s10 : Slot) (s11 : Slot) (s12 : Slot) (s13 : Slot)
    (X0 : Stand p l e R s m args below meth c T0 locs cells slots) (hx : p.tables.exec = Jvm.exec) (hZ : Z.Warmed39 s.vm) (hw : ∀ d ∈ tables_1, d.before a0 Z = true) (hby : c.code = code) (hml : c.maxLocals = 14) (hown : s.vm.findClass "com/example/tenkyo/tenkyo/exchange/KindOfPinLaw" = some m.cls) (e0 : T0.heap = h0) (hs3 : One s3) (hc181 : (i1 &&& (1 : Int32)) = (0 : Int32)) :
    ∃ (T' : State), Stand p l e R s m args below meth c T' locs cells slots ∧ T'.heap = h0 ∧
      ∀ target, Steps p.tables e below (T'.setTop (mkF m 203 #[.val (.int i0), .val (.int i1), s2, .val (.int ((i0 &&& (65535 : Int32)).toUInt32.toUInt16.toUInt32.toInt32)), s4, s5, s6, s7, s8, s9, s10, s11, s12, s13] [])) target → Steps p.tables e below (T0.setTop (mkF m 178 #[.val (.int i0), .val (.int i1), s2, s3, s4, s5, s6, s7, s8, s9, s10, s11, s12, s13] [])) target := by

  refine ⟨T0, X0, e0, fun target kt => ?_⟩
  show Steps p.tables e below (T0.setTop (mkF m 178 #[.val (.int i0), .val (.int i1), s2, s3, s4, s5, s6, s7, s8, s9, s10, s11, s12, s13] [])) _
  refine XS.iloadN X0.here hx rfl (hb hby at_178) rfl ?_
  show Steps p.tables e below (T0.setTop (mkF m 179 #[.val (.int i0), .val (.int i1), s2, s3, s4, s5, s6, s7, s8, s9, s10, s11, s12, s13] [(.int i1)])) _
  refine XS.iconst X0.here hx rfl (hb hby at_179) ?_
  show Steps p.tables e below (T0.setTop (mkF m 180 #[.val (.int i0), .val (.int i1), s2, s3, s4, s5, s6, s7, s8, s9, s10, s11, s12, s13] [(.int (1 : Int32)), (.int i1)])) _
  refine XS.iand X0.here hx rfl (hb hby at_180) rfl ?_
  show Steps p.tables e below (T0.setTop (mkF m 181 #[.val (.int i0), .val (.int i1), s2, s3, s4, s5, s6, s7, s8, s9, s10, s11, s12, s13] [(.int (i1 &&& (1 : Int32)))])) _
  refine XS.ifYes X0.here hx rfl (pc0 := 181) (pc' := 197) rfl (hb hby at_181) rfl ((if0 _ _).trans (teq hc181).1) (by decide) (by decide) ?_
  show Steps p.tables e below (T0.setTop (mkF m 197 #[.val (.int i0), .val (.int i1), s2, s3, s4, s5, s6, s7, s8, s9, s10, s11, s12, s13] [])) _
  refine XS.iloadN X0.here hx rfl (hb hby at_197) rfl ?_
  show Steps p.tables e below (T0.setTop (mkF m 198 #[.val (.int i0), .val (.int i1), s2, s3, s4, s5, s6, s7, s8, s9, s10, s11, s12, s13] [(.int i0)])) _
  refine X0.ldcInt hx hown (mvT hZ (hw _ (List.mem_of_getElem? (i := 1) rfl))) (g := (mkF m 198 #[.val (.int i0), .val (.int i1), s2, s3, s4, s5, s6, s7, s8, s9, s10, s11, s12, s13] [(.int i0)])) rfl (hb hby at_198) _ ?_
  show Steps p.tables e below (T0.setTop (mkF m 200 #[.val (.int i0), .val (.int i1), s2, s3, s4, s5, s6, s7, s8, s9, s10, s11, s12, s13] [(.int (65535 : Int32)), (.int i0)])) _
  refine XS.iand X0.here hx rfl (hb hby at_200) rfl ?_
  show Steps p.tables e below (T0.setTop (mkF m 201 #[.val (.int i0), .val (.int i1), s2, s3, s4, s5, s6, s7, s8, s9, s10, s11, s12, s13] [(.int (i0 &&& (65535 : Int32)))])) _
  refine XS.i2c X0.here hx rfl (hb hby at_201) rfl ?_
  show Steps p.tables e below (T0.setTop (mkF m 202 #[.val (.int i0), .val (.int i1), s2, s3, s4, s5, s6, s7, s8, s9, s10, s11, s12, s13] [(.int ((i0 &&& (65535 : Int32)).toUInt32.toUInt16.toUInt32.toInt32))])) _
  refine XS.istoreN X0.here hx rfl (hb hby at_202) rfl (l' := #[.val (.int i0), .val (.int i1), s2, .val (.int ((i0 &&& (65535 : Int32)).toUInt32.toUInt16.toUInt32.toInt32)), s4, s5, s6, s7, s8, s9, s10, s11, s12, s13]) (os0_202 hs3) ?_
  exact kt
theorem os0_207n {s0 : Slot} {s1 : Slot} {s2 : Slot} {z3 : Value} {s4 : Slot} {s5 : Slot} {s6 : Slot} {s7 : Slot} {s8 : Slot} {s9 : Slot} {s10 : Slot} {s11 : Slot} {s12 : Slot} {s13 : Slot} (h : One s4) : storeLocals #[s0, s1, s2, .val z3, s4, s5, s6, s7, s8, s9, s10, s11, s12, s13] 4 .null = some #[s0, s1, s2, .val z3, .val .null, s5, s6, s7, s8, s9, s10, s11, s12, s13] := by
  rcases h with rfl | ⟨w, rfl, hw⟩
  · rfl
  · cases w <;> first | rfl | (simp [Value.category] at hw)
theorem pd_0_0 : parseMethodDescriptor "(C)Lcom/example/tenkyo/tenkyo/exchange/Json$Kind;" = some ⟨[.char], some (.object "com/example/tenkyo/tenkyo/exchange/Json$Kind")⟩ := by decide +kernel
theorem os0_207 {s0 : Slot} {s1 : Slot} {s2 : Slot} {z3 : Value} {s4 : Slot} {s5 : Slot} {s6 : Slot} {s7 : Slot} {s8 : Slot} {s9 : Slot} {s10 : Slot} {s11 : Slot} {s12 : Slot} {s13 : Slot} {v : Addr} (h : One s4) : storeLocals #[s0, s1, s2, .val z3, s4, s5, s6, s7, s8, s9, s10, s11, s12, s13] 4 (.ref v) = some #[s0, s1, s2, .val z3, .val (.ref v), s5, s6, s7, s8, s9, s10, s11, s12, s13] := by
  rcases h with rfl | ⟨w, rfl, hw⟩
  · rfl
  · cases w <;> first | rfl | (simp [Value.category] at hw)
theorem os0_213 {s0 : Slot} {s1 : Slot} {s2 : Slot} {z3 : Value} {z4 : Value} {s5 : Slot} {s6 : Slot} {s7 : Slot} {s8 : Slot} {s9 : Slot} {s10 : Slot} {s11 : Slot} {s12 : Slot} {s13 : Slot} {v : Int32} (h : One s5) : storeLocals #[s0, s1, s2, .val z3, .val z4, s5, s6, s7, s8, s9, s10, s11, s12, s13] 5 (.int v) = some #[s0, s1, s2, .val z3, .val z4, .val (.int v), s6, s7, s8, s9, s10, s11, s12, s13] := by
  rcases h with rfl | ⟨w, rfl, hw⟩
  · rfl
  · cases w <;> first | rfl | (simp [Value.category] at hw)
theorem os0_226 {s0 : Slot} {s1 : Slot} {s2 : Slot} {z3 : Value} {z4 : Value} {z5 : Value} {s6 : Slot} {s7 : Slot} {s8 : Slot} {s9 : Slot} {s10 : Slot} {s11 : Slot} {s12 : Slot} {s13 : Slot} {v : Int32} (h : One s6) : storeLocals #[s0, s1, s2, .val z3, .val z4, .val z5, s6, s7, s8, s9, s10, s11, s12, s13] 6 (.int v) = some #[s0, s1, s2, .val z3, .val z4, .val z5, .val (.int v), s7, s8, s9, s10, s11, s12, s13] := by
  rcases h with rfl | ⟨w, rfl, hw⟩
  · rfl
  · cases w <;> first | rfl | (simp [Value.category] at hw)
theorem os0_239 {s0 : Slot} {s1 : Slot} {s2 : Slot} {z3 : Value} {z4 : Value} {z5 : Value} {z6 : Value} {s7 : Slot} {s8 : Slot} {s9 : Slot} {s10 : Slot} {s11 : Slot} {s12 : Slot} {s13 : Slot} {v : Int32} (h : One s7) : storeLocals #[s0, s1, s2, .val z3, .val z4, .val z5, .val z6, s7, s8, s9, s10, s11, s12, s13] 7 (.int v) = some #[s0, s1, s2, .val z3, .val z4, .val z5, .val z6, .val (.int v), s8, s9, s10, s11, s12, s13] := by
  rcases h with rfl | ⟨w, rfl, hw⟩
  · rfl
  · cases w <;> first | rfl | (simp [Value.category] at hw)
theorem os0_252 {s0 : Slot} {s1 : Slot} {s2 : Slot} {z3 : Value} {z4 : Value} {z5 : Value} {z6 : Value} {z7 : Value} {s8 : Slot} {s9 : Slot} {s10 : Slot} {s11 : Slot} {s12 : Slot} {s13 : Slot} {v : Int32} (h : One s8) : storeLocals #[s0, s1, s2, .val z3, .val z4, .val z5, .val z6, .val z7, s8, s9, s10, s11, s12, s13] 8 (.int v) = some #[s0, s1, s2, .val z3, .val z4, .val z5, .val z6, .val z7, .val (.int v), s9, s10, s11, s12, s13] := by
  rcases h with rfl | ⟨w, rfl, hw⟩
  · rfl
  · cases w <;> first | rfl | (simp [Value.category] at hw)
theorem os0_277 {s0 : Slot} {s1 : Slot} {s2 : Slot} {z3 : Value} {z4 : Value} {z5 : Value} {z6 : Value} {z7 : Value} {z8 : Value} {s9 : Slot} {s10 : Slot} {s11 : Slot} {s12 : Slot} {s13 : Slot} {v : Int32} (h : One s9) : storeLocals #[s0, s1, s2, .val z3, .val z4, .val z5, .val z6, .val z7, .val z8, s9, s10, s11, s12, s13] 9 (.int v) = some #[s0, s1, s2, .val z3, .val z4, .val z5, .val z6, .val z7, .val z8, .val (.int v), s10, s11, s12, s13] := by
  rcases h with rfl | ⟨w, rfl, hw⟩
  · rfl
  · cases w <;> first | rfl | (simp [Value.category] at hw)
theorem os0_290 {s0 : Slot} {s1 : Slot} {s2 : Slot} {z3 : Value} {z4 : Value} {z5 : Value} {z6 : Value} {z7 : Value} {z8 : Value} {z9 : Value} {s10 : Slot} {s11 : Slot} {s12 : Slot} {s13 : Slot} {v : Int32} (h : One s10) : storeLocals #[s0, s1, s2, .val z3, .val z4, .val z5, .val z6, .val z7, .val z8, .val z9, s10, s11, s12, s13] 10 (.int v) = some #[s0, s1, s2, .val z3, .val z4, .val z5, .val z6, .val z7, .val z8, .val z9, .val (.int v), s11, s12, s13] := by
  rcases h with rfl | ⟨w, rfl, hw⟩
  · rfl
  · cases w <;> first | rfl | (simp [Value.category] at hw)
theorem os0_303 {s0 : Slot} {s1 : Slot} {s2 : Slot} {z3 : Value} {z4 : Value} {z5 : Value} {z6 : Value} {z7 : Value} {z8 : Value} {z9 : Value} {z10 : Value} {s11 : Slot} {s12 : Slot} {s13 : Slot} {v : Int32} (h : One s11) : storeLocals #[s0, s1, s2, .val z3, .val z4, .val z5, .val z6, .val z7, .val z8, .val z9, .val z10, s11, s12, s13] 11 (.int v) = some #[s0, s1, s2, .val z3, .val z4, .val z5, .val z6, .val z7, .val z8, .val z9, .val z10, .val (.int v), s12, s13] := by
  rcases h with rfl | ⟨w, rfl, hw⟩
  · rfl
  · cases w <;> first | rfl | (simp [Value.category] at hw)
theorem os0_316 {s0 : Slot} {s1 : Slot} {s2 : Slot} {z3 : Value} {z4 : Value} {z5 : Value} {z6 : Value} {z7 : Value} {z8 : Value} {z9 : Value} {z10 : Value} {z11 : Value} {s12 : Slot} {s13 : Slot} {v : Int32} (h : One s12) : storeLocals #[s0, s1, s2, .val z3, .val z4, .val z5, .val z6, .val z7, .val z8, .val z9, .val z10, .val z11, s12, s13] 12 (.int v) = some #[s0, s1, s2, .val z3, .val z4, .val z5, .val z6, .val z7, .val z8, .val z9, .val z10, .val z11, .val (.int v), s13] := by
  rcases h with rfl | ⟨w, rfl, hw⟩
  · rfl
  · cases w <;> first | rfl | (simp [Value.category] at hw)
theorem os0_358 {s0 : Slot} {s1 : Slot} {s2 : Slot} {z3 : Value} {z4 : Value} {z5 : Value} {z6 : Value} {z7 : Value} {z8 : Value} {z9 : Value} {z10 : Value} {z11 : Value} {z12 : Value} {s13 : Slot} {v : Int32} (h : One s13) : storeLocals #[s0, s1, s2, .val z3, .val z4, .val z5, .val z6, .val z7, .val z8, .val z9, .val z10, .val z11, .val z12, s13] 13 (.int v) = some #[s0, s1, s2, .val z3, .val z4, .val z5, .val z6, .val z7, .val z8, .val z9, .val z10, .val z11, .val z12, .val (.int v)] := by
  rcases h with rfl | ⟨w, rfl, hw⟩
  · rfl
  · cases w <;> first | rfl | (simp [Value.category] at hw)
set_option maxRecDepth 65536 in
set_option maxHeartbeats 40000000 in
theorem own_segC_obj {p : Program} {l : Launch} {e : Env} {s : State} {m : MethodId} {args : Array Value} {below : List Frame} {meth : Method} {c : Code} {T0 : State} {locs : List Loc} {Z : State} {a0 : Array Value} {h0 : Heap} {n0 : Nat} (s0 : Slot) (s1 : Slot) (s2 : Slot) (i3 : Int32) (s4 : Slot) (s5 : Slot) (s6 : Slot) (s7 : Slot) (s8 : Slot) (s9 : Slot) (s10 : Slot) (s11 : Slot) (s12 : Slot) (s13 : Slot) (w4 : Addr) (w6 : Addr) (w8 : Addr) (w10 : Addr) (w12 : Addr) (w14 : Addr) (w16 : Addr)
    (kk : Addr) (X0 : Stand p l e room_1 s m args below meth c T0 locs 1 30) (hx : p.tables.exec = Jvm.exec) (hZ : Z.Warmed39 s.vm) (hw : ∀ d ∈ tables_1, d.before a0 Z = true) (hby : c.code = code) (hml : c.maxLocals = 14) (hown : s.vm.findClass "com/example/tenkyo/tenkyo/exchange/KindOfPinLaw" = some m.cls) (e0 : T0.heap = h0) (N0 : Fr n0 locs) (hof : MetFree l (⟨"com/example/tenkyo/tenkyo/exchange/Json$Kind", "of", "(C)Lcom/example/tenkyo/tenkyo/exchange/Json$Kind;"⟩ : MethodName) (head1 (Jvm.Cond.code (⟨"com/example/tenkyo/tenkyo/exchange/Json$Kind", "of", "(C)Lcom/example/tenkyo/tenkyo/exchange/Json$Kind;"⟩ : MethodName) prog_14_method_6_code 2 (some (.object "com/example/tenkyo/tenkyo/exchange/Json$Kind")) :: []) ({ frames := 0, cells := 0, slots := 0, locals := 0 } : Room)) (fun a U => a = #[(.int i3)] ∧ Z.Warmed39 U.vm ∧ U.heap = h0) (fun _ _ _ _ _ => True) (fun _ U o U' => ∃ v L, o = .returned v ∧ Qk (.ref kk) h0 n0 v U'.heap L ∧ FrameEnd U o U' L ({ frames := 0, cells := 0, slots := 0, locals := 0 } : Room).cells ({ frames := 0, cells := 0, slots := 0, locals := 0 } : Room).slots)) (hs4 : One s4) (hs5 : One s5) (hs6 : One s6) (hs7 : One s7) (hs8 : One s8) (hs9 : One s9) (hs10 : One s10) (hs11 : One s11) (hs12 : One s12) (hs13 : One s13) (S_OBJECT : Sta Z h0 "com/example/tenkyo/tenkyo/exchange/Json$Kind" "OBJECT" "Lcom/example/tenkyo/tenkyo/exchange/Json$Kind;" (.ref w4)) (S_ARRAY : Sta Z h0 "com/example/tenkyo/tenkyo/exchange/Json$Kind" "ARRAY" "Lcom/example/tenkyo/tenkyo/exchange/Json$Kind;" (.ref w6)) (S_STRING : Sta Z h0 "com/example/tenkyo/tenkyo/exchange/Json$Kind" "STRING" "Lcom/example/tenkyo/tenkyo/exchange/Json$Kind;" (.ref w8)) (S_NUMBER : Sta Z h0 "com/example/tenkyo/tenkyo/exchange/Json$Kind" "NUMBER" "Lcom/example/tenkyo/tenkyo/exchange/Json$Kind;" (.ref w10)) (S_TRUE : Sta Z h0 "com/example/tenkyo/tenkyo/exchange/Json$Kind" "TRUE" "Lcom/example/tenkyo/tenkyo/exchange/Json$Kind;" (.ref w12)) (S_FALSE : Sta Z h0 "com/example/tenkyo/tenkyo/exchange/Json$Kind" "FALSE" "Lcom/example/tenkyo/tenkyo/exchange/Json$Kind;" (.ref w14)) (S_NULL : Sta Z h0 "com/example/tenkyo/tenkyo/exchange/Json$Kind" "NULL" "Lcom/example/tenkyo/tenkyo/exchange/Json$Kind;" (.ref w16)) (hc218 : i3 = (123 : Int32)) (hc231 : ¬ (i3 = (91 : Int32))) (hc244 : ¬ (i3 = (34 : Int32))) (hc257 : ¬ (i3 = (45 : Int32))) (hc262 : ¬ ((i3 - (48 : Int32)) < (0 : Int32))) (hc269 : ¬ ((i3 - (48 : Int32)) < (10 : Int32))) (hc282 : ¬ (i3 = (116 : Int32))) (hc295 : ¬ (i3 = (102 : Int32))) (hc308 : ¬ (i3 = (110 : Int32))) (hc320 : ¬ ((1 : Int32) = (0 : Int32))) (ha365 : kk = w4) (ha383 : ¬ (kk = w6)) (ha401 : ¬ (kk = w8)) (ha419 : ¬ (kk = w10)) (ha437 : ¬ (kk = w12)) (ha455 : ¬ (kk = w14)) (ha473 : ¬ (kk = w16)) :
    ∃ (T' : State) (L' : List Loc) (Ls : Array Slot), Stand p l e room_1 s m args below meth c T' L' 1 30 ∧ Fr n0 L' ∧
      ∀ target, Steps p.tables e below (T'.setTop (mkF m 506 Ls [(.int (1 : Int32))])) target → Steps p.tables e below (T0.setTop (mkF m 203 #[s0, s1, s2, .val (.int i3), s4, s5, s6, s7, s8, s9, s10, s11, s12, s13] [])) target := by
  obtain ⟨_, _, ⟨T3, L3, k3, n3⟩, -, X3, ⟨Lc3, hQ3, l3, y3, z3⟩, st3⟩ := Jvm.LawKit.callS X0 hx (y := (⟨"com/example/tenkyo/tenkyo/exchange/Json$Kind", "of", "(C)Lcom/example/tenkyo/tenkyo/exchange/Json$Kind;"⟩ : MethodName)) hown (mvT hZ (hw _ (List.mem_of_getElem? (i := 3) rfl))) (mvT hZ (hw _ (List.mem_of_getElem? (i := 4) rfl))) (mvT hZ (hw _ (List.mem_of_getElem? (i := 5) rfl))) (mvT hZ (hw _ (List.mem_of_getElem? (i := 6) rfl))) (by decide) (backOf (W := 0) hof hZ (hw _ (List.mem_of_getElem? (i := 6) rfl)) (hw _ (List.mem_of_getElem? (i := 5) rfl)) (by decide) (by decide)) (g := (mkF m 204 #[s0, s1, s2, .val (.int i3), s4, s5, s6, s7, s8, s9, s10, s11, s12, s13] [(.int i3)])) rfl (by rw [hml]; rfl) (argsL := [(.int i3)]) (rest := []) (lenOf pd_0_0 rfl) rfl (by show 2 * 0 + _ ≤ _; exact Nat.le_of_eq rfl) (hb hby at_204) (fun _ _ => ⟨rfl, e0, (by decide : 1 + 0 ≤ _), (by decide : 30 + 0 ≤ _)⟩)
  dsimp only [Pt.U, Pt.locs, Pt.cells, Pt.slots] at X3 l3 y3 z3 st3 hQ3
  subst l3 y3 z3
  obtain ⟨rfl, N3q, e3⟩ := hQ3
  have N3 := Fr.app N0 N3q
  obtain ⟨T5, X5, e5, st5⟩ := getS2 X3 hx hZ hown (host := "") (Or.inl (hw _ (List.mem_of_getElem? (i := 9) rfl))) Via.refl e3 S_OBJECT (g := (mkF m 362 #[s0, s1, s2, .val (.int i3), .val (.ref kk), .val (.int (i3 - (48 : Int32))), .val (.int (1 : Int32)), .val (.int (0 : Int32)), .val (.int (0 : Int32)), .val (.int (0 : Int32)), .val (.int (0 : Int32)), .val (.int (0 : Int32)), .val (.int (0 : Int32)), .val (.int (0 : Int32))] [(.ref kk)])) rfl (hb hby at_362)
  obtain ⟨T7, X7, e7, st7⟩ := getS2 X5 hx hZ hown (host := "") (Or.inl (hw _ (List.mem_of_getElem? (i := 10) rfl))) Via.refl e5 S_ARRAY (g := (mkF m 380 #[s0, s1, s2, .val (.int i3), .val (.ref kk), .val (.int (i3 - (48 : Int32))), .val (.int (1 : Int32)), .val (.int (0 : Int32)), .val (.int (0 : Int32)), .val (.int (0 : Int32)), .val (.int (0 : Int32)), .val (.int (0 : Int32)), .val (.int (0 : Int32)), .val (.int (0 : Int32))] [(.ref kk)])) rfl (hb hby at_380)
  obtain ⟨T9, X9, e9, st9⟩ := getS2 X7 hx hZ hown (host := "") (Or.inl (hw _ (List.mem_of_getElem? (i := 12) rfl))) Via.refl e7 S_STRING (g := (mkF m 398 #[s0, s1, s2, .val (.int i3), .val (.ref kk), .val (.int (i3 - (48 : Int32))), .val (.int (1 : Int32)), .val (.int (0 : Int32)), .val (.int (0 : Int32)), .val (.int (0 : Int32)), .val (.int (0 : Int32)), .val (.int (0 : Int32)), .val (.int (0 : Int32)), .val (.int (0 : Int32))] [(.ref kk)])) rfl (hb hby at_398)
  obtain ⟨T11, X11, e11, st11⟩ := getS2 X9 hx hZ hown (host := "") (Or.inl (hw _ (List.mem_of_getElem? (i := 14) rfl))) Via.refl e9 S_NUMBER (g := (mkF m 416 #[s0, s1, s2, .val (.int i3), .val (.ref kk), .val (.int (i3 - (48 : Int32))), .val (.int (1 : Int32)), .val (.int (0 : Int32)), .val (.int (0 : Int32)), .val (.int (0 : Int32)), .val (.int (0 : Int32)), .val (.int (0 : Int32)), .val (.int (0 : Int32)), .val (.int (0 : Int32))] [(.ref kk)])) rfl (hb hby at_416)
  obtain ⟨T13, X13, e13, st13⟩ := getS2 X11 hx hZ hown (host := "") (Or.inl (hw _ (List.mem_of_getElem? (i := 16) rfl))) Via.refl e11 S_TRUE (g := (mkF m 434 #[s0, s1, s2, .val (.int i3), .val (.ref kk), .val (.int (i3 - (48 : Int32))), .val (.int (1 : Int32)), .val (.int (0 : Int32)), .val (.int (0 : Int32)), .val (.int (0 : Int32)), .val (.int (0 : Int32)), .val (.int (0 : Int32)), .val (.int (0 : Int32)), .val (.int (0 : Int32))] [(.ref kk)])) rfl (hb hby at_434)
  obtain ⟨T15, X15, e15, st15⟩ := getS2 X13 hx hZ hown (host := "") (Or.inl (hw _ (List.mem_of_getElem? (i := 18) rfl))) Via.refl e13 S_FALSE (g := (mkF m 452 #[s0, s1, s2, .val (.int i3), .val (.ref kk), .val (.int (i3 - (48 : Int32))), .val (.int (1 : Int32)), .val (.int (0 : Int32)), .val (.int (0 : Int32)), .val (.int (0 : Int32)), .val (.int (0 : Int32)), .val (.int (0 : Int32)), .val (.int (0 : Int32)), .val (.int (0 : Int32))] [(.ref kk)])) rfl (hb hby at_452)
  obtain ⟨T17, X17, e17, st17⟩ := getS2 X15 hx hZ hown (host := "") (Or.inl (hw _ (List.mem_of_getElem? (i := 20) rfl))) Via.refl e15 S_NULL (g := (mkF m 470 #[s0, s1, s2, .val (.int i3), .val (.ref kk), .val (.int (i3 - (48 : Int32))), .val (.int (1 : Int32)), .val (.int (0 : Int32)), .val (.int (0 : Int32)), .val (.int (0 : Int32)), .val (.int (0 : Int32)), .val (.int (0 : Int32)), .val (.int (0 : Int32)), .val (.int (0 : Int32))] [(.ref kk)])) rfl (hb hby at_470)
  refine ⟨T17, _, #[s0, s1, s2, .val (.int i3), .val (.ref kk), .val (.int (i3 - (48 : Int32))), .val (.int (1 : Int32)), .val (.int (0 : Int32)), .val (.int (0 : Int32)), .val (.int (0 : Int32)), .val (.int (0 : Int32)), .val (.int (0 : Int32)), .val (.int (0 : Int32)), .val (.int (0 : Int32))], X17, N3, fun target kt => ?_⟩
  show Steps p.tables e below (T0.setTop (mkF m 203 #[s0, s1, s2, .val (.int i3), s4, s5, s6, s7, s8, s9, s10, s11, s12, s13] [])) _
  refine XS.iloadN X0.here hx rfl (hb hby at_203) rfl ?_
  show Steps p.tables e below (T0.setTop (mkF m 204 #[s0, s1, s2, .val (.int i3), s4, s5, s6, s7, s8, s9, s10, s11, s12, s13] [(.int i3)])) _
  refine st3 _ ?_
  show Steps p.tables e below (T3.setTop (mkF m 207 #[s0, s1, s2, .val (.int i3), s4, s5, s6, s7, s8, s9, s10, s11, s12, s13] [(.ref kk)])) _
  refine XS.astore X3.here hx rfl (hb hby at_207) rfl rfl (l' := #[s0, s1, s2, .val (.int i3), .val (.ref kk), s5, s6, s7, s8, s9, s10, s11, s12, s13]) (os0_207 hs4) ?_
  show Steps p.tables e below (T3.setTop (mkF m 209 #[s0, s1, s2, .val (.int i3), .val (.ref kk), s5, s6, s7, s8, s9, s10, s11, s12, s13] [])) _
  refine XS.iloadN X3.here hx rfl (hb hby at_209) rfl ?_
  show Steps p.tables e below (T3.setTop (mkF m 210 #[s0, s1, s2, .val (.int i3), .val (.ref kk), s5, s6, s7, s8, s9, s10, s11, s12, s13] [(.int i3)])) _
  refine XS.bipush X3.here hx rfl (hb hby at_210) ?_
  show Steps p.tables e below (T3.setTop (mkF m 212 #[s0, s1, s2, .val (.int i3), .val (.ref kk), s5, s6, s7, s8, s9, s10, s11, s12, s13] [(.int (48 : Int32)), (.int i3)])) _
  refine XS.isub X3.here hx rfl (hb hby at_212) rfl ?_
  show Steps p.tables e below (T3.setTop (mkF m 213 #[s0, s1, s2, .val (.int i3), .val (.ref kk), s5, s6, s7, s8, s9, s10, s11, s12, s13] [(.int (i3 - (48 : Int32)))])) _
  refine XS.istore X3.here hx rfl (hb hby at_213) rfl (l' := #[s0, s1, s2, .val (.int i3), .val (.ref kk), .val (.int (i3 - (48 : Int32))), s6, s7, s8, s9, s10, s11, s12, s13]) (os0_213 hs5) ?_
  show Steps p.tables e below (T3.setTop (mkF m 215 #[s0, s1, s2, .val (.int i3), .val (.ref kk), .val (.int (i3 - (48 : Int32))), s6, s7, s8, s9, s10, s11, s12, s13] [])) _
  refine XS.iloadN X3.here hx rfl (hb hby at_215) rfl ?_
  show Steps p.tables e below (T3.setTop (mkF m 216 #[s0, s1, s2, .val (.int i3), .val (.ref kk), .val (.int (i3 - (48 : Int32))), s6, s7, s8, s9, s10, s11, s12, s13] [(.int i3)])) _
  refine XS.bipush X3.here hx rfl (hb hby at_216) ?_
  show Steps p.tables e below (T3.setTop (mkF m 218 #[s0, s1, s2, .val (.int i3), .val (.ref kk), .val (.int (i3 - (48 : Int32))), s6, s7, s8, s9, s10, s11, s12, s13] [(.int (123 : Int32)), (.int i3)])) _
  refine XS.icmpNo X3.here hx rfl (hb hby at_218) rfl (teq hc218).2 ?_
  show Steps p.tables e below (T3.setTop (mkF m 221 #[s0, s1, s2, .val (.int i3), .val (.ref kk), .val (.int (i3 - (48 : Int32))), s6, s7, s8, s9, s10, s11, s12, s13] [])) _
  refine XS.iconst X3.here hx rfl (hb hby at_221) ?_
  show Steps p.tables e below (T3.setTop (mkF m 222 #[s0, s1, s2, .val (.int i3), .val (.ref kk), .val (.int (i3 - (48 : Int32))), s6, s7, s8, s9, s10, s11, s12, s13] [(.int (1 : Int32))])) _
  refine XS.goto X3.here hx rfl (pc0 := 222) (pc' := 226) rfl (hb hby at_222) (by decide) (by decide) ?_
  show Steps p.tables e below (T3.setTop (mkF m 226 #[s0, s1, s2, .val (.int i3), .val (.ref kk), .val (.int (i3 - (48 : Int32))), s6, s7, s8, s9, s10, s11, s12, s13] [(.int (1 : Int32))])) _
  refine XS.istore X3.here hx rfl (hb hby at_226) rfl (l' := #[s0, s1, s2, .val (.int i3), .val (.ref kk), .val (.int (i3 - (48 : Int32))), .val (.int (1 : Int32)), s7, s8, s9, s10, s11, s12, s13]) (os0_226 hs6) ?_
  show Steps p.tables e below (T3.setTop (mkF m 228 #[s0, s1, s2, .val (.int i3), .val (.ref kk), .val (.int (i3 - (48 : Int32))), .val (.int (1 : Int32)), s7, s8, s9, s10, s11, s12, s13] [])) _
  refine XS.iloadN X3.here hx rfl (hb hby at_228) rfl ?_
  show Steps p.tables e below (T3.setTop (mkF m 229 #[s0, s1, s2, .val (.int i3), .val (.ref kk), .val (.int (i3 - (48 : Int32))), .val (.int (1 : Int32)), s7, s8, s9, s10, s11, s12, s13] [(.int i3)])) _
  refine XS.bipush X3.here hx rfl (hb hby at_229) ?_
  show Steps p.tables e below (T3.setTop (mkF m 231 #[s0, s1, s2, .val (.int i3), .val (.ref kk), .val (.int (i3 - (48 : Int32))), .val (.int (1 : Int32)), s7, s8, s9, s10, s11, s12, s13] [(.int (91 : Int32)), (.int i3)])) _
  refine XS.icmpYes X3.here hx rfl (pc0 := 231) (pc' := 238) rfl (hb hby at_231) rfl (feq hc231).2 (by decide) (by decide) ?_
  show Steps p.tables e below (T3.setTop (mkF m 238 #[s0, s1, s2, .val (.int i3), .val (.ref kk), .val (.int (i3 - (48 : Int32))), .val (.int (1 : Int32)), s7, s8, s9, s10, s11, s12, s13] [])) _
  refine XS.iconst X3.here hx rfl (hb hby at_238) ?_
  show Steps p.tables e below (T3.setTop (mkF m 239 #[s0, s1, s2, .val (.int i3), .val (.ref kk), .val (.int (i3 - (48 : Int32))), .val (.int (1 : Int32)), s7, s8, s9, s10, s11, s12, s13] [(.int (0 : Int32))])) _
  refine XS.istore X3.here hx rfl (hb hby at_239) rfl (l' := #[s0, s1, s2, .val (.int i3), .val (.ref kk), .val (.int (i3 - (48 : Int32))), .val (.int (1 : Int32)), .val (.int (0 : Int32)), s8, s9, s10, s11, s12, s13]) (os0_239 hs7) ?_
  show Steps p.tables e below (T3.setTop (mkF m 241 #[s0, s1, s2, .val (.int i3), .val (.ref kk), .val (.int (i3 - (48 : Int32))), .val (.int (1 : Int32)), .val (.int (0 : Int32)), s8, s9, s10, s11, s12, s13] [])) _
  refine XS.iloadN X3.here hx rfl (hb hby at_241) rfl ?_
  show Steps p.tables e below (T3.setTop (mkF m 242 #[s0, s1, s2, .val (.int i3), .val (.ref kk), .val (.int (i3 - (48 : Int32))), .val (.int (1 : Int32)), .val (.int (0 : Int32)), s8, s9, s10, s11, s12, s13] [(.int i3)])) _
  refine XS.bipush X3.here hx rfl (hb hby at_242) ?_
  show Steps p.tables e below (T3.setTop (mkF m 244 #[s0, s1, s2, .val (.int i3), .val (.ref kk), .val (.int (i3 - (48 : Int32))), .val (.int (1 : Int32)), .val (.int (0 : Int32)), s8, s9, s10, s11, s12, s13] [(.int (34 : Int32)), (.int i3)])) _
  refine XS.icmpYes X3.here hx rfl (pc0 := 244) (pc' := 251) rfl (hb hby at_244) rfl (feq hc244).2 (by decide) (by decide) ?_
  show Steps p.tables e below (T3.setTop (mkF m 251 #[s0, s1, s2, .val (.int i3), .val (.ref kk), .val (.int (i3 - (48 : Int32))), .val (.int (1 : Int32)), .val (.int (0 : Int32)), s8, s9, s10, s11, s12, s13] [])) _
  refine XS.iconst X3.here hx rfl (hb hby at_251) ?_
  show Steps p.tables e below (T3.setTop (mkF m 252 #[s0, s1, s2, .val (.int i3), .val (.ref kk), .val (.int (i3 - (48 : Int32))), .val (.int (1 : Int32)), .val (.int (0 : Int32)), s8, s9, s10, s11, s12, s13] [(.int (0 : Int32))])) _
  refine XS.istore X3.here hx rfl (hb hby at_252) rfl (l' := #[s0, s1, s2, .val (.int i3), .val (.ref kk), .val (.int (i3 - (48 : Int32))), .val (.int (1 : Int32)), .val (.int (0 : Int32)), .val (.int (0 : Int32)), s9, s10, s11, s12, s13]) (os0_252 hs8) ?_
  show Steps p.tables e below (T3.setTop (mkF m 254 #[s0, s1, s2, .val (.int i3), .val (.ref kk), .val (.int (i3 - (48 : Int32))), .val (.int (1 : Int32)), .val (.int (0 : Int32)), .val (.int (0 : Int32)), s9, s10, s11, s12, s13] [])) _
  refine XS.iloadN X3.here hx rfl (hb hby at_254) rfl ?_
  show Steps p.tables e below (T3.setTop (mkF m 255 #[s0, s1, s2, .val (.int i3), .val (.ref kk), .val (.int (i3 - (48 : Int32))), .val (.int (1 : Int32)), .val (.int (0 : Int32)), .val (.int (0 : Int32)), s9, s10, s11, s12, s13] [(.int i3)])) _
  refine XS.bipush X3.here hx rfl (hb hby at_255) ?_
  show Steps p.tables e below (T3.setTop (mkF m 257 #[s0, s1, s2, .val (.int i3), .val (.ref kk), .val (.int (i3 - (48 : Int32))), .val (.int (1 : Int32)), .val (.int (0 : Int32)), .val (.int (0 : Int32)), s9, s10, s11, s12, s13] [(.int (45 : Int32)), (.int i3)])) _
  refine XS.icmpNo X3.here hx rfl (hb hby at_257) rfl (feq hc257).1 ?_
  show Steps p.tables e below (T3.setTop (mkF m 260 #[s0, s1, s2, .val (.int i3), .val (.ref kk), .val (.int (i3 - (48 : Int32))), .val (.int (1 : Int32)), .val (.int (0 : Int32)), .val (.int (0 : Int32)), s9, s10, s11, s12, s13] [])) _
  refine XS.iload X3.here hx rfl (hb hby at_260) rfl ?_
  show Steps p.tables e below (T3.setTop (mkF m 262 #[s0, s1, s2, .val (.int i3), .val (.ref kk), .val (.int (i3 - (48 : Int32))), .val (.int (1 : Int32)), .val (.int (0 : Int32)), .val (.int (0 : Int32)), s9, s10, s11, s12, s13] [(.int (i3 - (48 : Int32)))])) _
  refine XS.ifNo X3.here hx rfl (hb hby at_262) rfl ((if0 _ _).trans (flt hc262).1) ?_
  show Steps p.tables e below (T3.setTop (mkF m 265 #[s0, s1, s2, .val (.int i3), .val (.ref kk), .val (.int (i3 - (48 : Int32))), .val (.int (1 : Int32)), .val (.int (0 : Int32)), .val (.int (0 : Int32)), s9, s10, s11, s12, s13] [])) _
  refine XS.iload X3.here hx rfl (hb hby at_265) rfl ?_
  show Steps p.tables e below (T3.setTop (mkF m 267 #[s0, s1, s2, .val (.int i3), .val (.ref kk), .val (.int (i3 - (48 : Int32))), .val (.int (1 : Int32)), .val (.int (0 : Int32)), .val (.int (0 : Int32)), s9, s10, s11, s12, s13] [(.int (i3 - (48 : Int32)))])) _
  refine XS.bipush X3.here hx rfl (hb hby at_267) ?_
  show Steps p.tables e below (T3.setTop (mkF m 269 #[s0, s1, s2, .val (.int i3), .val (.ref kk), .val (.int (i3 - (48 : Int32))), .val (.int (1 : Int32)), .val (.int (0 : Int32)), .val (.int (0 : Int32)), s9, s10, s11, s12, s13] [(.int (10 : Int32)), (.int (i3 - (48 : Int32)))])) _
  refine XS.icmpYes X3.here hx rfl (pc0 := 269) (pc' := 276) rfl (hb hby at_269) rfl (flt hc269).2.1 (by decide) (by decide) ?_
  show Steps p.tables e below (T3.setTop (mkF m 276 #[s0, s1, s2, .val (.int i3), .val (.ref kk), .val (.int (i3 - (48 : Int32))), .val (.int (1 : Int32)), .val (.int (0 : Int32)), .val (.int (0 : Int32)), s9, s10, s11, s12, s13] [])) _
  refine XS.iconst X3.here hx rfl (hb hby at_276) ?_
  show Steps p.tables e below (T3.setTop (mkF m 277 #[s0, s1, s2, .val (.int i3), .val (.ref kk), .val (.int (i3 - (48 : Int32))), .val (.int (1 : Int32)), .val (.int (0 : Int32)), .val (.int (0 : Int32)), s9, s10, s11, s12, s13] [(.int (0 : Int32))])) _
  refine XS.istore X3.here hx rfl (hb hby at_277) rfl (l' := #[s0, s1, s2, .val (.int i3), .val (.ref kk), .val (.int (i3 - (48 : Int32))), .val (.int (1 : Int32)), .val (.int (0 : Int32)), .val (.int (0 : Int32)), .val (.int (0 : Int32)), s10, s11, s12, s13]) (os0_277 hs9) ?_
  show Steps p.tables e below (T3.setTop (mkF m 279 #[s0, s1, s2, .val (.int i3), .val (.ref kk), .val (.int (i3 - (48 : Int32))), .val (.int (1 : Int32)), .val (.int (0 : Int32)), .val (.int (0 : Int32)), .val (.int (0 : Int32)), s10, s11, s12, s13] [])) _
  refine XS.iloadN X3.here hx rfl (hb hby at_279) rfl ?_
  show Steps p.tables e below (T3.setTop (mkF m 280 #[s0, s1, s2, .val (.int i3), .val (.ref kk), .val (.int (i3 - (48 : Int32))), .val (.int (1 : Int32)), .val (.int (0 : Int32)), .val (.int (0 : Int32)), .val (.int (0 : Int32)), s10, s11, s12, s13] [(.int i3)])) _
  refine XS.bipush X3.here hx rfl (hb hby at_280) ?_
  show Steps p.tables e below (T3.setTop (mkF m 282 #[s0, s1, s2, .val (.int i3), .val (.ref kk), .val (.int (i3 - (48 : Int32))), .val (.int (1 : Int32)), .val (.int (0 : Int32)), .val (.int (0 : Int32)), .val (.int (0 : Int32)), s10, s11, s12, s13] [(.int (116 : Int32)), (.int i3)])) _
  refine XS.icmpYes X3.here hx rfl (pc0 := 282) (pc' := 289) rfl (hb hby at_282) rfl (feq hc282).2 (by decide) (by decide) ?_
  show Steps p.tables e below (T3.setTop (mkF m 289 #[s0, s1, s2, .val (.int i3), .val (.ref kk), .val (.int (i3 - (48 : Int32))), .val (.int (1 : Int32)), .val (.int (0 : Int32)), .val (.int (0 : Int32)), .val (.int (0 : Int32)), s10, s11, s12, s13] [])) _
  refine XS.iconst X3.here hx rfl (hb hby at_289) ?_
  show Steps p.tables e below (T3.setTop (mkF m 290 #[s0, s1, s2, .val (.int i3), .val (.ref kk), .val (.int (i3 - (48 : Int32))), .val (.int (1 : Int32)), .val (.int (0 : Int32)), .val (.int (0 : Int32)), .val (.int (0 : Int32)), s10, s11, s12, s13] [(.int (0 : Int32))])) _
  refine XS.istore X3.here hx rfl (hb hby at_290) rfl (l' := #[s0, s1, s2, .val (.int i3), .val (.ref kk), .val (.int (i3 - (48 : Int32))), .val (.int (1 : Int32)), .val (.int (0 : Int32)), .val (.int (0 : Int32)), .val (.int (0 : Int32)), .val (.int (0 : Int32)), s11, s12, s13]) (os0_290 hs10) ?_
  show Steps p.tables e below (T3.setTop (mkF m 292 #[s0, s1, s2, .val (.int i3), .val (.ref kk), .val (.int (i3 - (48 : Int32))), .val (.int (1 : Int32)), .val (.int (0 : Int32)), .val (.int (0 : Int32)), .val (.int (0 : Int32)), .val (.int (0 : Int32)), s11, s12, s13] [])) _
  refine XS.iloadN X3.here hx rfl (hb hby at_292) rfl ?_
  show Steps p.tables e below (T3.setTop (mkF m 293 #[s0, s1, s2, .val (.int i3), .val (.ref kk), .val (.int (i3 - (48 : Int32))), .val (.int (1 : Int32)), .val (.int (0 : Int32)), .val (.int (0 : Int32)), .val (.int (0 : Int32)), .val (.int (0 : Int32)), s11, s12, s13] [(.int i3)])) _
  refine XS.bipush X3.here hx rfl (hb hby at_293) ?_
  show Steps p.tables e below (T3.setTop (mkF m 295 #[s0, s1, s2, .val (.int i3), .val (.ref kk), .val (.int (i3 - (48 : Int32))), .val (.int (1 : Int32)), .val (.int (0 : Int32)), .val (.int (0 : Int32)), .val (.int (0 : Int32)), .val (.int (0 : Int32)), s11, s12, s13] [(.int (102 : Int32)), (.int i3)])) _
  refine XS.icmpYes X3.here hx rfl (pc0 := 295) (pc' := 302) rfl (hb hby at_295) rfl (feq hc295).2 (by decide) (by decide) ?_
  show Steps p.tables e below (T3.setTop (mkF m 302 #[s0, s1, s2, .val (.int i3), .val (.ref kk), .val (.int (i3 - (48 : Int32))), .val (.int (1 : Int32)), .val (.int (0 : Int32)), .val (.int (0 : Int32)), .val (.int (0 : Int32)), .val (.int (0 : Int32)), s11, s12, s13] [])) _
  refine XS.iconst X3.here hx rfl (hb hby at_302) ?_
  show Steps p.tables e below (T3.setTop (mkF m 303 #[s0, s1, s2, .val (.int i3), .val (.ref kk), .val (.int (i3 - (48 : Int32))), .val (.int (1 : Int32)), .val (.int (0 : Int32)), .val (.int (0 : Int32)), .val (.int (0 : Int32)), .val (.int (0 : Int32)), s11, s12, s13] [(.int (0 : Int32))])) _
  refine XS.istore X3.here hx rfl (hb hby at_303) rfl (l' := #[s0, s1, s2, .val (.int i3), .val (.ref kk), .val (.int (i3 - (48 : Int32))), .val (.int (1 : Int32)), .val (.int (0 : Int32)), .val (.int (0 : Int32)), .val (.int (0 : Int32)), .val (.int (0 : Int32)), .val (.int (0 : Int32)), s12, s13]) (os0_303 hs11) ?_
  show Steps p.tables e below (T3.setTop (mkF m 305 #[s0, s1, s2, .val (.int i3), .val (.ref kk), .val (.int (i3 - (48 : Int32))), .val (.int (1 : Int32)), .val (.int (0 : Int32)), .val (.int (0 : Int32)), .val (.int (0 : Int32)), .val (.int (0 : Int32)), .val (.int (0 : Int32)), s12, s13] [])) _
  refine XS.iloadN X3.here hx rfl (hb hby at_305) rfl ?_
  show Steps p.tables e below (T3.setTop (mkF m 306 #[s0, s1, s2, .val (.int i3), .val (.ref kk), .val (.int (i3 - (48 : Int32))), .val (.int (1 : Int32)), .val (.int (0 : Int32)), .val (.int (0 : Int32)), .val (.int (0 : Int32)), .val (.int (0 : Int32)), .val (.int (0 : Int32)), s12, s13] [(.int i3)])) _
  refine XS.bipush X3.here hx rfl (hb hby at_306) ?_
  show Steps p.tables e below (T3.setTop (mkF m 308 #[s0, s1, s2, .val (.int i3), .val (.ref kk), .val (.int (i3 - (48 : Int32))), .val (.int (1 : Int32)), .val (.int (0 : Int32)), .val (.int (0 : Int32)), .val (.int (0 : Int32)), .val (.int (0 : Int32)), .val (.int (0 : Int32)), s12, s13] [(.int (110 : Int32)), (.int i3)])) _
  refine XS.icmpYes X3.here hx rfl (pc0 := 308) (pc' := 315) rfl (hb hby at_308) rfl (feq hc308).2 (by decide) (by decide) ?_
  show Steps p.tables e below (T3.setTop (mkF m 315 #[s0, s1, s2, .val (.int i3), .val (.ref kk), .val (.int (i3 - (48 : Int32))), .val (.int (1 : Int32)), .val (.int (0 : Int32)), .val (.int (0 : Int32)), .val (.int (0 : Int32)), .val (.int (0 : Int32)), .val (.int (0 : Int32)), s12, s13] [])) _
  refine XS.iconst X3.here hx rfl (hb hby at_315) ?_
  show Steps p.tables e below (T3.setTop (mkF m 316 #[s0, s1, s2, .val (.int i3), .val (.ref kk), .val (.int (i3 - (48 : Int32))), .val (.int (1 : Int32)), .val (.int (0 : Int32)), .val (.int (0 : Int32)), .val (.int (0 : Int32)), .val (.int (0 : Int32)), .val (.int (0 : Int32)), s12, s13] [(.int (0 : Int32))])) _
  refine XS.istore X3.here hx rfl (hb hby at_316) rfl (l' := #[s0, s1, s2, .val (.int i3), .val (.ref kk), .val (.int (i3 - (48 : Int32))), .val (.int (1 : Int32)), .val (.int (0 : Int32)), .val (.int (0 : Int32)), .val (.int (0 : Int32)), .val (.int (0 : Int32)), .val (.int (0 : Int32)), .val (.int (0 : Int32)), s13]) (os0_316 hs12) ?_
  show Steps p.tables e below (T3.setTop (mkF m 318 #[s0, s1, s2, .val (.int i3), .val (.ref kk), .val (.int (i3 - (48 : Int32))), .val (.int (1 : Int32)), .val (.int (0 : Int32)), .val (.int (0 : Int32)), .val (.int (0 : Int32)), .val (.int (0 : Int32)), .val (.int (0 : Int32)), .val (.int (0 : Int32)), s13] [])) _
  refine XS.iload X3.here hx rfl (hb hby at_318) rfl ?_
  show Steps p.tables e below (T3.setTop (mkF m 320 #[s0, s1, s2, .val (.int i3), .val (.ref kk), .val (.int (i3 - (48 : Int32))), .val (.int (1 : Int32)), .val (.int (0 : Int32)), .val (.int (0 : Int32)), .val (.int (0 : Int32)), .val (.int (0 : Int32)), .val (.int (0 : Int32)), .val (.int (0 : Int32)), s13] [(.int (1 : Int32))])) _
  refine XS.ifYes X3.here hx rfl (pc0 := 320) (pc' := 357) rfl (hb hby at_320) rfl ((if0 _ _).trans (feq hc320).2) (by decide) (by decide) ?_
  show Steps p.tables e below (T3.setTop (mkF m 357 #[s0, s1, s2, .val (.int i3), .val (.ref kk), .val (.int (i3 - (48 : Int32))), .val (.int (1 : Int32)), .val (.int (0 : Int32)), .val (.int (0 : Int32)), .val (.int (0 : Int32)), .val (.int (0 : Int32)), .val (.int (0 : Int32)), .val (.int (0 : Int32)), s13] [])) _
  refine XS.iconst X3.here hx rfl (hb hby at_357) ?_
  show Steps p.tables e below (T3.setTop (mkF m 358 #[s0, s1, s2, .val (.int i3), .val (.ref kk), .val (.int (i3 - (48 : Int32))), .val (.int (1 : Int32)), .val (.int (0 : Int32)), .val (.int (0 : Int32)), .val (.int (0 : Int32)), .val (.int (0 : Int32)), .val (.int (0 : Int32)), .val (.int (0 : Int32)), s13] [(.int (0 : Int32))])) _
  refine XS.istore X3.here hx rfl (hb hby at_358) rfl (l' := #[s0, s1, s2, .val (.int i3), .val (.ref kk), .val (.int (i3 - (48 : Int32))), .val (.int (1 : Int32)), .val (.int (0 : Int32)), .val (.int (0 : Int32)), .val (.int (0 : Int32)), .val (.int (0 : Int32)), .val (.int (0 : Int32)), .val (.int (0 : Int32)), .val (.int (0 : Int32))]) (os0_358 hs13) ?_
  show Steps p.tables e below (T3.setTop (mkF m 360 #[s0, s1, s2, .val (.int i3), .val (.ref kk), .val (.int (i3 - (48 : Int32))), .val (.int (1 : Int32)), .val (.int (0 : Int32)), .val (.int (0 : Int32)), .val (.int (0 : Int32)), .val (.int (0 : Int32)), .val (.int (0 : Int32)), .val (.int (0 : Int32)), .val (.int (0 : Int32))] [])) _
  refine XS.aload X3.here hx rfl (hb hby at_360) rfl rfl ?_
  show Steps p.tables e below (T3.setTop (mkF m 362 #[s0, s1, s2, .val (.int i3), .val (.ref kk), .val (.int (i3 - (48 : Int32))), .val (.int (1 : Int32)), .val (.int (0 : Int32)), .val (.int (0 : Int32)), .val (.int (0 : Int32)), .val (.int (0 : Int32)), .val (.int (0 : Int32)), .val (.int (0 : Int32)), .val (.int (0 : Int32))] [(.ref kk)])) _
  refine st5 _ ?_
  show Steps p.tables e below (T5.setTop (mkF m 365 #[s0, s1, s2, .val (.int i3), .val (.ref kk), .val (.int (i3 - (48 : Int32))), .val (.int (1 : Int32)), .val (.int (0 : Int32)), .val (.int (0 : Int32)), .val (.int (0 : Int32)), .val (.int (0 : Int32)), .val (.int (0 : Int32)), .val (.int (0 : Int32)), .val (.int (0 : Int32))] [(.ref w4), (.ref kk)])) _
  refine Jvm.RoadKit.acmp (g := (mkF m 365 #[s0, s1, s2, .val (.int i3), .val (.ref kk), .val (.int (i3 - (48 : Int32))), .val (.int (1 : Int32)), .val (.int (0 : Int32)), .val (.int (0 : Int32)), .val (.int (0 : Int32)), .val (.int (0 : Int32)), .val (.int (0 : Int32)), .val (.int (0 : Int32)), .val (.int (0 : Int32))] [(.ref w4), (.ref kk)])) X5 hx rfl rfl rfl (pc0 := 365) (pc' := 368) (same := true) rfl (hb hby at_365) rfl (decide_eq_true (congrArg Value.ref ha365)) (by decide) (by decide) ?_
  show Steps p.tables e below (T5.setTop (mkF m 368 #[s0, s1, s2, .val (.int i3), .val (.ref kk), .val (.int (i3 - (48 : Int32))), .val (.int (1 : Int32)), .val (.int (0 : Int32)), .val (.int (0 : Int32)), .val (.int (0 : Int32)), .val (.int (0 : Int32)), .val (.int (0 : Int32)), .val (.int (0 : Int32)), .val (.int (0 : Int32))] [])) _
  refine XS.iconst X5.here hx rfl (hb hby at_368) ?_
  show Steps p.tables e below (T5.setTop (mkF m 369 #[s0, s1, s2, .val (.int i3), .val (.ref kk), .val (.int (i3 - (48 : Int32))), .val (.int (1 : Int32)), .val (.int (0 : Int32)), .val (.int (0 : Int32)), .val (.int (0 : Int32)), .val (.int (0 : Int32)), .val (.int (0 : Int32)), .val (.int (0 : Int32)), .val (.int (0 : Int32))] [(.int (1 : Int32))])) _
  refine XS.goto X5.here hx rfl (pc0 := 369) (pc' := 373) rfl (hb hby at_369) (by decide) (by decide) ?_
  show Steps p.tables e below (T5.setTop (mkF m 373 #[s0, s1, s2, .val (.int i3), .val (.ref kk), .val (.int (i3 - (48 : Int32))), .val (.int (1 : Int32)), .val (.int (0 : Int32)), .val (.int (0 : Int32)), .val (.int (0 : Int32)), .val (.int (0 : Int32)), .val (.int (0 : Int32)), .val (.int (0 : Int32)), .val (.int (0 : Int32))] [(.int (1 : Int32))])) _
  refine XS.iload X5.here hx rfl (hb hby at_373) rfl ?_
  show Steps p.tables e below (T5.setTop (mkF m 375 #[s0, s1, s2, .val (.int i3), .val (.ref kk), .val (.int (i3 - (48 : Int32))), .val (.int (1 : Int32)), .val (.int (0 : Int32)), .val (.int (0 : Int32)), .val (.int (0 : Int32)), .val (.int (0 : Int32)), .val (.int (0 : Int32)), .val (.int (0 : Int32)), .val (.int (0 : Int32))] [(.int (1 : Int32)), (.int (1 : Int32))])) _
  refine XS.icmpNo X5.here hx rfl (hb hby at_375) rfl (teq (rfl : (1 : Int32) = (1 : Int32))).2 ?_
  show Steps p.tables e below (T5.setTop (mkF m 378 #[s0, s1, s2, .val (.int i3), .val (.ref kk), .val (.int (i3 - (48 : Int32))), .val (.int (1 : Int32)), .val (.int (0 : Int32)), .val (.int (0 : Int32)), .val (.int (0 : Int32)), .val (.int (0 : Int32)), .val (.int (0 : Int32)), .val (.int (0 : Int32)), .val (.int (0 : Int32))] [])) _
  refine XS.aload X5.here hx rfl (hb hby at_378) rfl rfl ?_
  show Steps p.tables e below (T5.setTop (mkF m 380 #[s0, s1, s2, .val (.int i3), .val (.ref kk), .val (.int (i3 - (48 : Int32))), .val (.int (1 : Int32)), .val (.int (0 : Int32)), .val (.int (0 : Int32)), .val (.int (0 : Int32)), .val (.int (0 : Int32)), .val (.int (0 : Int32)), .val (.int (0 : Int32)), .val (.int (0 : Int32))] [(.ref kk)])) _
  refine st7 _ ?_
  show Steps p.tables e below (T7.setTop (mkF m 383 #[s0, s1, s2, .val (.int i3), .val (.ref kk), .val (.int (i3 - (48 : Int32))), .val (.int (1 : Int32)), .val (.int (0 : Int32)), .val (.int (0 : Int32)), .val (.int (0 : Int32)), .val (.int (0 : Int32)), .val (.int (0 : Int32)), .val (.int (0 : Int32)), .val (.int (0 : Int32))] [(.ref w6), (.ref kk)])) _
  refine Jvm.RoadKit.acmp (g := (mkF m 383 #[s0, s1, s2, .val (.int i3), .val (.ref kk), .val (.int (i3 - (48 : Int32))), .val (.int (1 : Int32)), .val (.int (0 : Int32)), .val (.int (0 : Int32)), .val (.int (0 : Int32)), .val (.int (0 : Int32)), .val (.int (0 : Int32)), .val (.int (0 : Int32)), .val (.int (0 : Int32))] [(.ref w6), (.ref kk)])) X7 hx rfl rfl rfl (pc0 := 383) (pc' := 390) (same := false) rfl (hb hby at_383) rfl (decide_eq_false fun q => ha383 (Value.ref.inj q)) (by decide) (by decide) ?_
  show Steps p.tables e below (T7.setTop (mkF m 390 #[s0, s1, s2, .val (.int i3), .val (.ref kk), .val (.int (i3 - (48 : Int32))), .val (.int (1 : Int32)), .val (.int (0 : Int32)), .val (.int (0 : Int32)), .val (.int (0 : Int32)), .val (.int (0 : Int32)), .val (.int (0 : Int32)), .val (.int (0 : Int32)), .val (.int (0 : Int32))] [])) _
  refine XS.iconst X7.here hx rfl (hb hby at_390) ?_
  show Steps p.tables e below (T7.setTop (mkF m 391 #[s0, s1, s2, .val (.int i3), .val (.ref kk), .val (.int (i3 - (48 : Int32))), .val (.int (1 : Int32)), .val (.int (0 : Int32)), .val (.int (0 : Int32)), .val (.int (0 : Int32)), .val (.int (0 : Int32)), .val (.int (0 : Int32)), .val (.int (0 : Int32)), .val (.int (0 : Int32))] [(.int (0 : Int32))])) _
  refine XS.iload X7.here hx rfl (hb hby at_391) rfl ?_
  show Steps p.tables e below (T7.setTop (mkF m 393 #[s0, s1, s2, .val (.int i3), .val (.ref kk), .val (.int (i3 - (48 : Int32))), .val (.int (1 : Int32)), .val (.int (0 : Int32)), .val (.int (0 : Int32)), .val (.int (0 : Int32)), .val (.int (0 : Int32)), .val (.int (0 : Int32)), .val (.int (0 : Int32)), .val (.int (0 : Int32))] [(.int (0 : Int32)), (.int (0 : Int32))])) _
  refine XS.icmpNo X7.here hx rfl (hb hby at_393) rfl (teq (rfl : (0 : Int32) = (0 : Int32))).2 ?_
  show Steps p.tables e below (T7.setTop (mkF m 396 #[s0, s1, s2, .val (.int i3), .val (.ref kk), .val (.int (i3 - (48 : Int32))), .val (.int (1 : Int32)), .val (.int (0 : Int32)), .val (.int (0 : Int32)), .val (.int (0 : Int32)), .val (.int (0 : Int32)), .val (.int (0 : Int32)), .val (.int (0 : Int32)), .val (.int (0 : Int32))] [])) _
  refine XS.aload X7.here hx rfl (hb hby at_396) rfl rfl ?_
  show Steps p.tables e below (T7.setTop (mkF m 398 #[s0, s1, s2, .val (.int i3), .val (.ref kk), .val (.int (i3 - (48 : Int32))), .val (.int (1 : Int32)), .val (.int (0 : Int32)), .val (.int (0 : Int32)), .val (.int (0 : Int32)), .val (.int (0 : Int32)), .val (.int (0 : Int32)), .val (.int (0 : Int32)), .val (.int (0 : Int32))] [(.ref kk)])) _
  refine st9 _ ?_
  show Steps p.tables e below (T9.setTop (mkF m 401 #[s0, s1, s2, .val (.int i3), .val (.ref kk), .val (.int (i3 - (48 : Int32))), .val (.int (1 : Int32)), .val (.int (0 : Int32)), .val (.int (0 : Int32)), .val (.int (0 : Int32)), .val (.int (0 : Int32)), .val (.int (0 : Int32)), .val (.int (0 : Int32)), .val (.int (0 : Int32))] [(.ref w8), (.ref kk)])) _
  refine Jvm.RoadKit.acmp (g := (mkF m 401 #[s0, s1, s2, .val (.int i3), .val (.ref kk), .val (.int (i3 - (48 : Int32))), .val (.int (1 : Int32)), .val (.int (0 : Int32)), .val (.int (0 : Int32)), .val (.int (0 : Int32)), .val (.int (0 : Int32)), .val (.int (0 : Int32)), .val (.int (0 : Int32)), .val (.int (0 : Int32))] [(.ref w8), (.ref kk)])) X9 hx rfl rfl rfl (pc0 := 401) (pc' := 408) (same := false) rfl (hb hby at_401) rfl (decide_eq_false fun q => ha401 (Value.ref.inj q)) (by decide) (by decide) ?_
  show Steps p.tables e below (T9.setTop (mkF m 408 #[s0, s1, s2, .val (.int i3), .val (.ref kk), .val (.int (i3 - (48 : Int32))), .val (.int (1 : Int32)), .val (.int (0 : Int32)), .val (.int (0 : Int32)), .val (.int (0 : Int32)), .val (.int (0 : Int32)), .val (.int (0 : Int32)), .val (.int (0 : Int32)), .val (.int (0 : Int32))] [])) _
  refine XS.iconst X9.here hx rfl (hb hby at_408) ?_
  show Steps p.tables e below (T9.setTop (mkF m 409 #[s0, s1, s2, .val (.int i3), .val (.ref kk), .val (.int (i3 - (48 : Int32))), .val (.int (1 : Int32)), .val (.int (0 : Int32)), .val (.int (0 : Int32)), .val (.int (0 : Int32)), .val (.int (0 : Int32)), .val (.int (0 : Int32)), .val (.int (0 : Int32)), .val (.int (0 : Int32))] [(.int (0 : Int32))])) _
  refine XS.iload X9.here hx rfl (hb hby at_409) rfl ?_
  show Steps p.tables e below (T9.setTop (mkF m 411 #[s0, s1, s2, .val (.int i3), .val (.ref kk), .val (.int (i3 - (48 : Int32))), .val (.int (1 : Int32)), .val (.int (0 : Int32)), .val (.int (0 : Int32)), .val (.int (0 : Int32)), .val (.int (0 : Int32)), .val (.int (0 : Int32)), .val (.int (0 : Int32)), .val (.int (0 : Int32))] [(.int (0 : Int32)), (.int (0 : Int32))])) _
  refine XS.icmpNo X9.here hx rfl (hb hby at_411) rfl (teq (rfl : (0 : Int32) = (0 : Int32))).2 ?_
  show Steps p.tables e below (T9.setTop (mkF m 414 #[s0, s1, s2, .val (.int i3), .val (.ref kk), .val (.int (i3 - (48 : Int32))), .val (.int (1 : Int32)), .val (.int (0 : Int32)), .val (.int (0 : Int32)), .val (.int (0 : Int32)), .val (.int (0 : Int32)), .val (.int (0 : Int32)), .val (.int (0 : Int32)), .val (.int (0 : Int32))] [])) _
  refine XS.aload X9.here hx rfl (hb hby at_414) rfl rfl ?_
  show Steps p.tables e below (T9.setTop (mkF m 416 #[s0, s1, s2, .val (.int i3), .val (.ref kk), .val (.int (i3 - (48 : Int32))), .val (.int (1 : Int32)), .val (.int (0 : Int32)), .val (.int (0 : Int32)), .val (.int (0 : Int32)), .val (.int (0 : Int32)), .val (.int (0 : Int32)), .val (.int (0 : Int32)), .val (.int (0 : Int32))] [(.ref kk)])) _
  refine st11 _ ?_
  show Steps p.tables e below (T11.setTop (mkF m 419 #[s0, s1, s2, .val (.int i3), .val (.ref kk), .val (.int (i3 - (48 : Int32))), .val (.int (1 : Int32)), .val (.int (0 : Int32)), .val (.int (0 : Int32)), .val (.int (0 : Int32)), .val (.int (0 : Int32)), .val (.int (0 : Int32)), .val (.int (0 : Int32)), .val (.int (0 : Int32))] [(.ref w10), (.ref kk)])) _
  refine Jvm.RoadKit.acmp (g := (mkF m 419 #[s0, s1, s2, .val (.int i3), .val (.ref kk), .val (.int (i3 - (48 : Int32))), .val (.int (1 : Int32)), .val (.int (0 : Int32)), .val (.int (0 : Int32)), .val (.int (0 : Int32)), .val (.int (0 : Int32)), .val (.int (0 : Int32)), .val (.int (0 : Int32)), .val (.int (0 : Int32))] [(.ref w10), (.ref kk)])) X11 hx rfl rfl rfl (pc0 := 419) (pc' := 426) (same := false) rfl (hb hby at_419) rfl (decide_eq_false fun q => ha419 (Value.ref.inj q)) (by decide) (by decide) ?_
  show Steps p.tables e below (T11.setTop (mkF m 426 #[s0, s1, s2, .val (.int i3), .val (.ref kk), .val (.int (i3 - (48 : Int32))), .val (.int (1 : Int32)), .val (.int (0 : Int32)), .val (.int (0 : Int32)), .val (.int (0 : Int32)), .val (.int (0 : Int32)), .val (.int (0 : Int32)), .val (.int (0 : Int32)), .val (.int (0 : Int32))] [])) _
  refine XS.iconst X11.here hx rfl (hb hby at_426) ?_
  show Steps p.tables e below (T11.setTop (mkF m 427 #[s0, s1, s2, .val (.int i3), .val (.ref kk), .val (.int (i3 - (48 : Int32))), .val (.int (1 : Int32)), .val (.int (0 : Int32)), .val (.int (0 : Int32)), .val (.int (0 : Int32)), .val (.int (0 : Int32)), .val (.int (0 : Int32)), .val (.int (0 : Int32)), .val (.int (0 : Int32))] [(.int (0 : Int32))])) _
  refine XS.iload X11.here hx rfl (hb hby at_427) rfl ?_
  show Steps p.tables e below (T11.setTop (mkF m 429 #[s0, s1, s2, .val (.int i3), .val (.ref kk), .val (.int (i3 - (48 : Int32))), .val (.int (1 : Int32)), .val (.int (0 : Int32)), .val (.int (0 : Int32)), .val (.int (0 : Int32)), .val (.int (0 : Int32)), .val (.int (0 : Int32)), .val (.int (0 : Int32)), .val (.int (0 : Int32))] [(.int (0 : Int32)), (.int (0 : Int32))])) _
  refine XS.icmpNo X11.here hx rfl (hb hby at_429) rfl (teq (rfl : (0 : Int32) = (0 : Int32))).2 ?_
  show Steps p.tables e below (T11.setTop (mkF m 432 #[s0, s1, s2, .val (.int i3), .val (.ref kk), .val (.int (i3 - (48 : Int32))), .val (.int (1 : Int32)), .val (.int (0 : Int32)), .val (.int (0 : Int32)), .val (.int (0 : Int32)), .val (.int (0 : Int32)), .val (.int (0 : Int32)), .val (.int (0 : Int32)), .val (.int (0 : Int32))] [])) _
  refine XS.aload X11.here hx rfl (hb hby at_432) rfl rfl ?_
  show Steps p.tables e below (T11.setTop (mkF m 434 #[s0, s1, s2, .val (.int i3), .val (.ref kk), .val (.int (i3 - (48 : Int32))), .val (.int (1 : Int32)), .val (.int (0 : Int32)), .val (.int (0 : Int32)), .val (.int (0 : Int32)), .val (.int (0 : Int32)), .val (.int (0 : Int32)), .val (.int (0 : Int32)), .val (.int (0 : Int32))] [(.ref kk)])) _
  refine st13 _ ?_
  show Steps p.tables e below (T13.setTop (mkF m 437 #[s0, s1, s2, .val (.int i3), .val (.ref kk), .val (.int (i3 - (48 : Int32))), .val (.int (1 : Int32)), .val (.int (0 : Int32)), .val (.int (0 : Int32)), .val (.int (0 : Int32)), .val (.int (0 : Int32)), .val (.int (0 : Int32)), .val (.int (0 : Int32)), .val (.int (0 : Int32))] [(.ref w12), (.ref kk)])) _
  refine Jvm.RoadKit.acmp (g := (mkF m 437 #[s0, s1, s2, .val (.int i3), .val (.ref kk), .val (.int (i3 - (48 : Int32))), .val (.int (1 : Int32)), .val (.int (0 : Int32)), .val (.int (0 : Int32)), .val (.int (0 : Int32)), .val (.int (0 : Int32)), .val (.int (0 : Int32)), .val (.int (0 : Int32)), .val (.int (0 : Int32))] [(.ref w12), (.ref kk)])) X13 hx rfl rfl rfl (pc0 := 437) (pc' := 444) (same := false) rfl (hb hby at_437) rfl (decide_eq_false fun q => ha437 (Value.ref.inj q)) (by decide) (by decide) ?_
  show Steps p.tables e below (T13.setTop (mkF m 444 #[s0, s1, s2, .val (.int i3), .val (.ref kk), .val (.int (i3 - (48 : Int32))), .val (.int (1 : Int32)), .val (.int (0 : Int32)), .val (.int (0 : Int32)), .val (.int (0 : Int32)), .val (.int (0 : Int32)), .val (.int (0 : Int32)), .val (.int (0 : Int32)), .val (.int (0 : Int32))] [])) _
  refine XS.iconst X13.here hx rfl (hb hby at_444) ?_
  show Steps p.tables e below (T13.setTop (mkF m 445 #[s0, s1, s2, .val (.int i3), .val (.ref kk), .val (.int (i3 - (48 : Int32))), .val (.int (1 : Int32)), .val (.int (0 : Int32)), .val (.int (0 : Int32)), .val (.int (0 : Int32)), .val (.int (0 : Int32)), .val (.int (0 : Int32)), .val (.int (0 : Int32)), .val (.int (0 : Int32))] [(.int (0 : Int32))])) _
  refine XS.iload X13.here hx rfl (hb hby at_445) rfl ?_
  show Steps p.tables e below (T13.setTop (mkF m 447 #[s0, s1, s2, .val (.int i3), .val (.ref kk), .val (.int (i3 - (48 : Int32))), .val (.int (1 : Int32)), .val (.int (0 : Int32)), .val (.int (0 : Int32)), .val (.int (0 : Int32)), .val (.int (0 : Int32)), .val (.int (0 : Int32)), .val (.int (0 : Int32)), .val (.int (0 : Int32))] [(.int (0 : Int32)), (.int (0 : Int32))])) _
  refine XS.icmpNo X13.here hx rfl (hb hby at_447) rfl (teq (rfl : (0 : Int32) = (0 : Int32))).2 ?_
  show Steps p.tables e below (T13.setTop (mkF m 450 #[s0, s1, s2, .val (.int i3), .val (.ref kk), .val (.int (i3 - (48 : Int32))), .val (.int (1 : Int32)), .val (.int (0 : Int32)), .val (.int (0 : Int32)), .val (.int (0 : Int32)), .val (.int (0 : Int32)), .val (.int (0 : Int32)), .val (.int (0 : Int32)), .val (.int (0 : Int32))] [])) _
  refine XS.aload X13.here hx rfl (hb hby at_450) rfl rfl ?_
  show Steps p.tables e below (T13.setTop (mkF m 452 #[s0, s1, s2, .val (.int i3), .val (.ref kk), .val (.int (i3 - (48 : Int32))), .val (.int (1 : Int32)), .val (.int (0 : Int32)), .val (.int (0 : Int32)), .val (.int (0 : Int32)), .val (.int (0 : Int32)), .val (.int (0 : Int32)), .val (.int (0 : Int32)), .val (.int (0 : Int32))] [(.ref kk)])) _
  refine st15 _ ?_
  show Steps p.tables e below (T15.setTop (mkF m 455 #[s0, s1, s2, .val (.int i3), .val (.ref kk), .val (.int (i3 - (48 : Int32))), .val (.int (1 : Int32)), .val (.int (0 : Int32)), .val (.int (0 : Int32)), .val (.int (0 : Int32)), .val (.int (0 : Int32)), .val (.int (0 : Int32)), .val (.int (0 : Int32)), .val (.int (0 : Int32))] [(.ref w14), (.ref kk)])) _
  refine Jvm.RoadKit.acmp (g := (mkF m 455 #[s0, s1, s2, .val (.int i3), .val (.ref kk), .val (.int (i3 - (48 : Int32))), .val (.int (1 : Int32)), .val (.int (0 : Int32)), .val (.int (0 : Int32)), .val (.int (0 : Int32)), .val (.int (0 : Int32)), .val (.int (0 : Int32)), .val (.int (0 : Int32)), .val (.int (0 : Int32))] [(.ref w14), (.ref kk)])) X15 hx rfl rfl rfl (pc0 := 455) (pc' := 462) (same := false) rfl (hb hby at_455) rfl (decide_eq_false fun q => ha455 (Value.ref.inj q)) (by decide) (by decide) ?_
  show Steps p.tables e below (T15.setTop (mkF m 462 #[s0, s1, s2, .val (.int i3), .val (.ref kk), .val (.int (i3 - (48 : Int32))), .val (.int (1 : Int32)), .val (.int (0 : Int32)), .val (.int (0 : Int32)), .val (.int (0 : Int32)), .val (.int (0 : Int32)), .val (.int (0 : Int32)), .val (.int (0 : Int32)), .val (.int (0 : Int32))] [])) _
  refine XS.iconst X15.here hx rfl (hb hby at_462) ?_
  show Steps p.tables e below (T15.setTop (mkF m 463 #[s0, s1, s2, .val (.int i3), .val (.ref kk), .val (.int (i3 - (48 : Int32))), .val (.int (1 : Int32)), .val (.int (0 : Int32)), .val (.int (0 : Int32)), .val (.int (0 : Int32)), .val (.int (0 : Int32)), .val (.int (0 : Int32)), .val (.int (0 : Int32)), .val (.int (0 : Int32))] [(.int (0 : Int32))])) _
  refine XS.iload X15.here hx rfl (hb hby at_463) rfl ?_
  show Steps p.tables e below (T15.setTop (mkF m 465 #[s0, s1, s2, .val (.int i3), .val (.ref kk), .val (.int (i3 - (48 : Int32))), .val (.int (1 : Int32)), .val (.int (0 : Int32)), .val (.int (0 : Int32)), .val (.int (0 : Int32)), .val (.int (0 : Int32)), .val (.int (0 : Int32)), .val (.int (0 : Int32)), .val (.int (0 : Int32))] [(.int (0 : Int32)), (.int (0 : Int32))])) _
  refine XS.icmpNo X15.here hx rfl (hb hby at_465) rfl (teq (rfl : (0 : Int32) = (0 : Int32))).2 ?_
  show Steps p.tables e below (T15.setTop (mkF m 468 #[s0, s1, s2, .val (.int i3), .val (.ref kk), .val (.int (i3 - (48 : Int32))), .val (.int (1 : Int32)), .val (.int (0 : Int32)), .val (.int (0 : Int32)), .val (.int (0 : Int32)), .val (.int (0 : Int32)), .val (.int (0 : Int32)), .val (.int (0 : Int32)), .val (.int (0 : Int32))] [])) _
  refine XS.aload X15.here hx rfl (hb hby at_468) rfl rfl ?_
  show Steps p.tables e below (T15.setTop (mkF m 470 #[s0, s1, s2, .val (.int i3), .val (.ref kk), .val (.int (i3 - (48 : Int32))), .val (.int (1 : Int32)), .val (.int (0 : Int32)), .val (.int (0 : Int32)), .val (.int (0 : Int32)), .val (.int (0 : Int32)), .val (.int (0 : Int32)), .val (.int (0 : Int32)), .val (.int (0 : Int32))] [(.ref kk)])) _
  refine st17 _ ?_
  show Steps p.tables e below (T17.setTop (mkF m 473 #[s0, s1, s2, .val (.int i3), .val (.ref kk), .val (.int (i3 - (48 : Int32))), .val (.int (1 : Int32)), .val (.int (0 : Int32)), .val (.int (0 : Int32)), .val (.int (0 : Int32)), .val (.int (0 : Int32)), .val (.int (0 : Int32)), .val (.int (0 : Int32)), .val (.int (0 : Int32))] [(.ref w16), (.ref kk)])) _
  refine Jvm.RoadKit.acmp (g := (mkF m 473 #[s0, s1, s2, .val (.int i3), .val (.ref kk), .val (.int (i3 - (48 : Int32))), .val (.int (1 : Int32)), .val (.int (0 : Int32)), .val (.int (0 : Int32)), .val (.int (0 : Int32)), .val (.int (0 : Int32)), .val (.int (0 : Int32)), .val (.int (0 : Int32)), .val (.int (0 : Int32))] [(.ref w16), (.ref kk)])) X17 hx rfl rfl rfl (pc0 := 473) (pc' := 480) (same := false) rfl (hb hby at_473) rfl (decide_eq_false fun q => ha473 (Value.ref.inj q)) (by decide) (by decide) ?_
  show Steps p.tables e below (T17.setTop (mkF m 480 #[s0, s1, s2, .val (.int i3), .val (.ref kk), .val (.int (i3 - (48 : Int32))), .val (.int (1 : Int32)), .val (.int (0 : Int32)), .val (.int (0 : Int32)), .val (.int (0 : Int32)), .val (.int (0 : Int32)), .val (.int (0 : Int32)), .val (.int (0 : Int32)), .val (.int (0 : Int32))] [])) _
  refine XS.iconst X17.here hx rfl (hb hby at_480) ?_
  show Steps p.tables e below (T17.setTop (mkF m 481 #[s0, s1, s2, .val (.int i3), .val (.ref kk), .val (.int (i3 - (48 : Int32))), .val (.int (1 : Int32)), .val (.int (0 : Int32)), .val (.int (0 : Int32)), .val (.int (0 : Int32)), .val (.int (0 : Int32)), .val (.int (0 : Int32)), .val (.int (0 : Int32)), .val (.int (0 : Int32))] [(.int (0 : Int32))])) _
  refine XS.iload X17.here hx rfl (hb hby at_481) rfl ?_
  show Steps p.tables e below (T17.setTop (mkF m 483 #[s0, s1, s2, .val (.int i3), .val (.ref kk), .val (.int (i3 - (48 : Int32))), .val (.int (1 : Int32)), .val (.int (0 : Int32)), .val (.int (0 : Int32)), .val (.int (0 : Int32)), .val (.int (0 : Int32)), .val (.int (0 : Int32)), .val (.int (0 : Int32)), .val (.int (0 : Int32))] [(.int (0 : Int32)), (.int (0 : Int32))])) _
  refine XS.icmpNo X17.here hx rfl (hb hby at_483) rfl (teq (rfl : (0 : Int32) = (0 : Int32))).2 ?_
  show Steps p.tables e below (T17.setTop (mkF m 486 #[s0, s1, s2, .val (.int i3), .val (.ref kk), .val (.int (i3 - (48 : Int32))), .val (.int (1 : Int32)), .val (.int (0 : Int32)), .val (.int (0 : Int32)), .val (.int (0 : Int32)), .val (.int (0 : Int32)), .val (.int (0 : Int32)), .val (.int (0 : Int32)), .val (.int (0 : Int32))] [])) _
  refine XS.aload X17.here hx rfl (hb hby at_486) rfl rfl ?_
  show Steps p.tables e below (T17.setTop (mkF m 488 #[s0, s1, s2, .val (.int i3), .val (.ref kk), .val (.int (i3 - (48 : Int32))), .val (.int (1 : Int32)), .val (.int (0 : Int32)), .val (.int (0 : Int32)), .val (.int (0 : Int32)), .val (.int (0 : Int32)), .val (.int (0 : Int32)), .val (.int (0 : Int32)), .val (.int (0 : Int32))] [(.ref kk)])) _
  refine XS.ifnonnullYes X17.here hx rfl (pc0 := 488) (pc' := 495) rfl (hb hby at_488) rfl (by decide) (by decide) ?_
  show Steps p.tables e below (T17.setTop (mkF m 495 #[s0, s1, s2, .val (.int i3), .val (.ref kk), .val (.int (i3 - (48 : Int32))), .val (.int (1 : Int32)), .val (.int (0 : Int32)), .val (.int (0 : Int32)), .val (.int (0 : Int32)), .val (.int (0 : Int32)), .val (.int (0 : Int32)), .val (.int (0 : Int32)), .val (.int (0 : Int32))] [])) _
  refine XS.iconst X17.here hx rfl (hb hby at_495) ?_
  show Steps p.tables e below (T17.setTop (mkF m 496 #[s0, s1, s2, .val (.int i3), .val (.ref kk), .val (.int (i3 - (48 : Int32))), .val (.int (1 : Int32)), .val (.int (0 : Int32)), .val (.int (0 : Int32)), .val (.int (0 : Int32)), .val (.int (0 : Int32)), .val (.int (0 : Int32)), .val (.int (0 : Int32)), .val (.int (0 : Int32))] [(.int (0 : Int32))])) _
  refine XS.iload X17.here hx rfl (hb hby at_496) rfl ?_
  show Steps p.tables e below (T17.setTop (mkF m 498 #[s0, s1, s2, .val (.int i3), .val (.ref kk), .val (.int (i3 - (48 : Int32))), .val (.int (1 : Int32)), .val (.int (0 : Int32)), .val (.int (0 : Int32)), .val (.int (0 : Int32)), .val (.int (0 : Int32)), .val (.int (0 : Int32)), .val (.int (0 : Int32)), .val (.int (0 : Int32))] [(.int (0 : Int32)), (.int (0 : Int32))])) _
  refine XS.icmpNo X17.here hx rfl (hb hby at_498) rfl (teq (rfl : (0 : Int32) = (0 : Int32))).2 ?_
  show Steps p.tables e below (T17.setTop (mkF m 501 #[s0, s1, s2, .val (.int i3), .val (.ref kk), .val (.int (i3 - (48 : Int32))), .val (.int (1 : Int32)), .val (.int (0 : Int32)), .val (.int (0 : Int32)), .val (.int (0 : Int32)), .val (.int (0 : Int32)), .val (.int (0 : Int32)), .val (.int (0 : Int32)), .val (.int (0 : Int32))] [])) _
  refine XS.iconst X17.here hx rfl (hb hby at_501) ?_
  show Steps p.tables e below (T17.setTop (mkF m 502 #[s0, s1, s2, .val (.int i3), .val (.ref kk), .val (.int (i3 - (48 : Int32))), .val (.int (1 : Int32)), .val (.int (0 : Int32)), .val (.int (0 : Int32)), .val (.int (0 : Int32)), .val (.int (0 : Int32)), .val (.int (0 : Int32)), .val (.int (0 : Int32)), .val (.int (0 : Int32))] [(.int (1 : Int32))])) _
  refine XS.goto X17.here hx rfl (pc0 := 502) (pc' := 506) rfl (hb hby at_502) (by decide) (by decide) ?_
  exact kt
set_option maxRecDepth 65536 in
set_option maxHeartbeats 40000000 in
theorem own_segC_arr {p : Program} {l : Launch} {e : Env} {s : State} {m : MethodId} {args : Array Value} {below : List Frame} {meth : Method} {c : Code} {T0 : State} {locs : List Loc} {Z : State} {a0 : Array Value} {h0 : Heap} {n0 : Nat} (s0 : Slot) (s1 : Slot) (s2 : Slot) (i3 : Int32) (s4 : Slot) (s5 : Slot) (s6 : Slot) (s7 : Slot) (s8 : Slot) (s9 : Slot) (s10 : Slot) (s11 : Slot) (s12 : Slot) (s13 : Slot) (w4 : Addr) (w6 : Addr) (w8 : Addr) (w10 : Addr) (w12 : Addr) (w14 : Addr) (w16 : Addr)
    (kk : Addr) (X0 : Stand p l e room_1 s m args below meth c T0 locs 1 30) (hx : p.tables.exec = Jvm.exec) (hZ : Z.Warmed39 s.vm) (hw : ∀ d ∈ tables_1, d.before a0 Z = true) (hby : c.code = code) (hml : c.maxLocals = 14) (hown : s.vm.findClass "com/example/tenkyo/tenkyo/exchange/KindOfPinLaw" = some m.cls) (e0 : T0.heap = h0) (N0 : Fr n0 locs) (hof : MetFree l (⟨"com/example/tenkyo/tenkyo/exchange/Json$Kind", "of", "(C)Lcom/example/tenkyo/tenkyo/exchange/Json$Kind;"⟩ : MethodName) (head1 (Jvm.Cond.code (⟨"com/example/tenkyo/tenkyo/exchange/Json$Kind", "of", "(C)Lcom/example/tenkyo/tenkyo/exchange/Json$Kind;"⟩ : MethodName) prog_14_method_6_code 2 (some (.object "com/example/tenkyo/tenkyo/exchange/Json$Kind")) :: []) ({ frames := 0, cells := 0, slots := 0, locals := 0 } : Room)) (fun a U => a = #[(.int i3)] ∧ Z.Warmed39 U.vm ∧ U.heap = h0) (fun _ _ _ _ _ => True) (fun _ U o U' => ∃ v L, o = .returned v ∧ Qk (.ref kk) h0 n0 v U'.heap L ∧ FrameEnd U o U' L ({ frames := 0, cells := 0, slots := 0, locals := 0 } : Room).cells ({ frames := 0, cells := 0, slots := 0, locals := 0 } : Room).slots)) (hs4 : One s4) (hs5 : One s5) (hs6 : One s6) (hs7 : One s7) (hs8 : One s8) (hs9 : One s9) (hs10 : One s10) (hs11 : One s11) (hs12 : One s12) (hs13 : One s13) (S_OBJECT : Sta Z h0 "com/example/tenkyo/tenkyo/exchange/Json$Kind" "OBJECT" "Lcom/example/tenkyo/tenkyo/exchange/Json$Kind;" (.ref w4)) (S_ARRAY : Sta Z h0 "com/example/tenkyo/tenkyo/exchange/Json$Kind" "ARRAY" "Lcom/example/tenkyo/tenkyo/exchange/Json$Kind;" (.ref w6)) (S_STRING : Sta Z h0 "com/example/tenkyo/tenkyo/exchange/Json$Kind" "STRING" "Lcom/example/tenkyo/tenkyo/exchange/Json$Kind;" (.ref w8)) (S_NUMBER : Sta Z h0 "com/example/tenkyo/tenkyo/exchange/Json$Kind" "NUMBER" "Lcom/example/tenkyo/tenkyo/exchange/Json$Kind;" (.ref w10)) (S_TRUE : Sta Z h0 "com/example/tenkyo/tenkyo/exchange/Json$Kind" "TRUE" "Lcom/example/tenkyo/tenkyo/exchange/Json$Kind;" (.ref w12)) (S_FALSE : Sta Z h0 "com/example/tenkyo/tenkyo/exchange/Json$Kind" "FALSE" "Lcom/example/tenkyo/tenkyo/exchange/Json$Kind;" (.ref w14)) (S_NULL : Sta Z h0 "com/example/tenkyo/tenkyo/exchange/Json$Kind" "NULL" "Lcom/example/tenkyo/tenkyo/exchange/Json$Kind;" (.ref w16)) (hc218 : ¬ (i3 = (123 : Int32))) (hc231 : i3 = (91 : Int32)) (hc244 : ¬ (i3 = (34 : Int32))) (hc257 : ¬ (i3 = (45 : Int32))) (hc262 : ¬ ((i3 - (48 : Int32)) < (0 : Int32))) (hc269 : ¬ ((i3 - (48 : Int32)) < (10 : Int32))) (hc282 : ¬ (i3 = (116 : Int32))) (hc295 : ¬ (i3 = (102 : Int32))) (hc308 : ¬ (i3 = (110 : Int32))) (hc325 : ¬ ((1 : Int32) = (0 : Int32))) (ha365 : ¬ (kk = w4)) (ha383 : kk = w6) (ha401 : ¬ (kk = w8)) (ha419 : ¬ (kk = w10)) (ha437 : ¬ (kk = w12)) (ha455 : ¬ (kk = w14)) (ha473 : ¬ (kk = w16)) :
    ∃ (T' : State) (L' : List Loc) (Ls : Array Slot), Stand p l e room_1 s m args below meth c T' L' 1 30 ∧ Fr n0 L' ∧
      ∀ target, Steps p.tables e below (T'.setTop (mkF m 506 Ls [(.int (1 : Int32))])) target → Steps p.tables e below (T0.setTop (mkF m 203 #[s0, s1, s2, .val (.int i3), s4, s5, s6, s7, s8, s9, s10, s11, s12, s13] [])) target := by
  obtain ⟨_, _, ⟨T3, L3, k3, n3⟩, -, X3, ⟨Lc3, hQ3, l3, y3, z3⟩, st3⟩ := Jvm.LawKit.callS X0 hx (y := (⟨"com/example/tenkyo/tenkyo/exchange/Json$Kind", "of", "(C)Lcom/example/tenkyo/tenkyo/exchange/Json$Kind;"⟩ : MethodName)) hown (mvT hZ (hw _ (List.mem_of_getElem? (i := 3) rfl))) (mvT hZ (hw _ (List.mem_of_getElem? (i := 4) rfl))) (mvT hZ (hw _ (List.mem_of_getElem? (i := 5) rfl))) (mvT hZ (hw _ (List.mem_of_getElem? (i := 6) rfl))) (by decide) (backOf (W := 0) hof hZ (hw _ (List.mem_of_getElem? (i := 6) rfl)) (hw _ (List.mem_of_getElem? (i := 5) rfl)) (by decide) (by decide)) (g := (mkF m 204 #[s0, s1, s2, .val (.int i3), s4, s5, s6, s7, s8, s9, s10, s11, s12, s13] [(.int i3)])) rfl (by rw [hml]; rfl) (argsL := [(.int i3)]) (rest := []) (lenOf pd_0_0 rfl) rfl (by show 2 * 0 + _ ≤ _; exact Nat.le_of_eq rfl) (hb hby at_204) (fun _ _ => ⟨rfl, e0, (by decide : 1 + 0 ≤ _), (by decide : 30 + 0 ≤ _)⟩)
  dsimp only [Pt.U, Pt.locs, Pt.cells, Pt.slots] at X3 l3 y3 z3 st3 hQ3
  subst l3 y3 z3
  obtain ⟨rfl, N3q, e3⟩ := hQ3
  have N3 := Fr.app N0 N3q
  obtain ⟨T5, X5, e5, st5⟩ := getS2 X3 hx hZ hown (host := "") (Or.inl (hw _ (List.mem_of_getElem? (i := 9) rfl))) Via.refl e3 S_OBJECT (g := (mkF m 362 #[s0, s1, s2, .val (.int i3), .val (.ref kk), .val (.int (i3 - (48 : Int32))), .val (.int (0 : Int32)), .val (.int (1 : Int32)), .val (.int (0 : Int32)), .val (.int (0 : Int32)), .val (.int (0 : Int32)), .val (.int (0 : Int32)), .val (.int (0 : Int32)), .val (.int (0 : Int32))] [(.ref kk)])) rfl (hb hby at_362)
  obtain ⟨T7, X7, e7, st7⟩ := getS2 X5 hx hZ hown (host := "") (Or.inl (hw _ (List.mem_of_getElem? (i := 10) rfl))) Via.refl e5 S_ARRAY (g := (mkF m 380 #[s0, s1, s2, .val (.int i3), .val (.ref kk), .val (.int (i3 - (48 : Int32))), .val (.int (0 : Int32)), .val (.int (1 : Int32)), .val (.int (0 : Int32)), .val (.int (0 : Int32)), .val (.int (0 : Int32)), .val (.int (0 : Int32)), .val (.int (0 : Int32)), .val (.int (0 : Int32))] [(.ref kk)])) rfl (hb hby at_380)
  obtain ⟨T9, X9, e9, st9⟩ := getS2 X7 hx hZ hown (host := "") (Or.inl (hw _ (List.mem_of_getElem? (i := 12) rfl))) Via.refl e7 S_STRING (g := (mkF m 398 #[s0, s1, s2, .val (.int i3), .val (.ref kk), .val (.int (i3 - (48 : Int32))), .val (.int (0 : Int32)), .val (.int (1 : Int32)), .val (.int (0 : Int32)), .val (.int (0 : Int32)), .val (.int (0 : Int32)), .val (.int (0 : Int32)), .val (.int (0 : Int32)), .val (.int (0 : Int32))] [(.ref kk)])) rfl (hb hby at_398)
  obtain ⟨T11, X11, e11, st11⟩ := getS2 X9 hx hZ hown (host := "") (Or.inl (hw _ (List.mem_of_getElem? (i := 14) rfl))) Via.refl e9 S_NUMBER (g := (mkF m 416 #[s0, s1, s2, .val (.int i3), .val (.ref kk), .val (.int (i3 - (48 : Int32))), .val (.int (0 : Int32)), .val (.int (1 : Int32)), .val (.int (0 : Int32)), .val (.int (0 : Int32)), .val (.int (0 : Int32)), .val (.int (0 : Int32)), .val (.int (0 : Int32)), .val (.int (0 : Int32))] [(.ref kk)])) rfl (hb hby at_416)
  obtain ⟨T13, X13, e13, st13⟩ := getS2 X11 hx hZ hown (host := "") (Or.inl (hw _ (List.mem_of_getElem? (i := 16) rfl))) Via.refl e11 S_TRUE (g := (mkF m 434 #[s0, s1, s2, .val (.int i3), .val (.ref kk), .val (.int (i3 - (48 : Int32))), .val (.int (0 : Int32)), .val (.int (1 : Int32)), .val (.int (0 : Int32)), .val (.int (0 : Int32)), .val (.int (0 : Int32)), .val (.int (0 : Int32)), .val (.int (0 : Int32)), .val (.int (0 : Int32))] [(.ref kk)])) rfl (hb hby at_434)
  obtain ⟨T15, X15, e15, st15⟩ := getS2 X13 hx hZ hown (host := "") (Or.inl (hw _ (List.mem_of_getElem? (i := 18) rfl))) Via.refl e13 S_FALSE (g := (mkF m 452 #[s0, s1, s2, .val (.int i3), .val (.ref kk), .val (.int (i3 - (48 : Int32))), .val (.int (0 : Int32)), .val (.int (1 : Int32)), .val (.int (0 : Int32)), .val (.int (0 : Int32)), .val (.int (0 : Int32)), .val (.int (0 : Int32)), .val (.int (0 : Int32)), .val (.int (0 : Int32))] [(.ref kk)])) rfl (hb hby at_452)
  obtain ⟨T17, X17, e17, st17⟩ := getS2 X15 hx hZ hown (host := "") (Or.inl (hw _ (List.mem_of_getElem? (i := 20) rfl))) Via.refl e15 S_NULL (g := (mkF m 470 #[s0, s1, s2, .val (.int i3), .val (.ref kk), .val (.int (i3 - (48 : Int32))), .val (.int (0 : Int32)), .val (.int (1 : Int32)), .val (.int (0 : Int32)), .val (.int (0 : Int32)), .val (.int (0 : Int32)), .val (.int (0 : Int32)), .val (.int (0 : Int32)), .val (.int (0 : Int32))] [(.ref kk)])) rfl (hb hby at_470)
  refine ⟨T17, _, #[s0, s1, s2, .val (.int i3), .val (.ref kk), .val (.int (i3 - (48 : Int32))), .val (.int (0 : Int32)), .val (.int (1 : Int32)), .val (.int (0 : Int32)), .val (.int (0 : Int32)), .val (.int (0 : Int32)), .val (.int (0 : Int32)), .val (.int (0 : Int32)), .val (.int (0 : Int32))], X17, N3, fun target kt => ?_⟩
  show Steps p.tables e below (T0.setTop (mkF m 203 #[s0, s1, s2, .val (.int i3), s4, s5, s6, s7, s8, s9, s10, s11, s12, s13] [])) _
  refine XS.iloadN X0.here hx rfl (hb hby at_203) rfl ?_
  show Steps p.tables e below (T0.setTop (mkF m 204 #[s0, s1, s2, .val (.int i3), s4, s5, s6, s7, s8, s9, s10, s11, s12, s13] [(.int i3)])) _
  refine st3 _ ?_
  show Steps p.tables e below (T3.setTop (mkF m 207 #[s0, s1, s2, .val (.int i3), s4, s5, s6, s7, s8, s9, s10, s11, s12, s13] [(.ref kk)])) _
  refine XS.astore X3.here hx rfl (hb hby at_207) rfl rfl (l' := #[s0, s1, s2, .val (.int i3), .val (.ref kk), s5, s6, s7, s8, s9, s10, s11, s12, s13]) (os0_207 hs4) ?_
  show Steps p.tables e below (T3.setTop (mkF m 209 #[s0, s1, s2, .val (.int i3), .val (.ref kk), s5, s6, s7, s8, s9, s10, s11, s12, s13] [])) _
  refine XS.iloadN X3.here hx rfl (hb hby at_209) rfl ?_
  show Steps p.tables e below (T3.setTop (mkF m 210 #[s0, s1, s2, .val (.int i3), .val (.ref kk), s5, s6, s7, s8, s9, s10, s11, s12, s13] [(.int i3)])) _
  refine XS.bipush X3.here hx rfl (hb hby at_210) ?_
  show Steps p.tables e below (T3.setTop (mkF m 212 #[s0, s1, s2, .val (.int i3), .val (.ref kk), s5, s6, s7, s8, s9, s10, s11, s12, s13] [(.int (48 : Int32)), (.int i3)])) _
  refine XS.isub X3.here hx rfl (hb hby at_212) rfl ?_
  show Steps p.tables e below (T3.setTop (mkF m 213 #[s0, s1, s2, .val (.int i3), .val (.ref kk), s5, s6, s7, s8, s9, s10, s11, s12, s13] [(.int (i3 - (48 : Int32)))])) _
  refine XS.istore X3.here hx rfl (hb hby at_213) rfl (l' := #[s0, s1, s2, .val (.int i3), .val (.ref kk), .val (.int (i3 - (48 : Int32))), s6, s7, s8, s9, s10, s11, s12, s13]) (os0_213 hs5) ?_
  show Steps p.tables e below (T3.setTop (mkF m 215 #[s0, s1, s2, .val (.int i3), .val (.ref kk), .val (.int (i3 - (48 : Int32))), s6, s7, s8, s9, s10, s11, s12, s13] [])) _
  refine XS.iloadN X3.here hx rfl (hb hby at_215) rfl ?_
  show Steps p.tables e below (T3.setTop (mkF m 216 #[s0, s1, s2, .val (.int i3), .val (.ref kk), .val (.int (i3 - (48 : Int32))), s6, s7, s8, s9, s10, s11, s12, s13] [(.int i3)])) _
  refine XS.bipush X3.here hx rfl (hb hby at_216) ?_
  show Steps p.tables e below (T3.setTop (mkF m 218 #[s0, s1, s2, .val (.int i3), .val (.ref kk), .val (.int (i3 - (48 : Int32))), s6, s7, s8, s9, s10, s11, s12, s13] [(.int (123 : Int32)), (.int i3)])) _
  refine XS.icmpYes X3.here hx rfl (pc0 := 218) (pc' := 225) rfl (hb hby at_218) rfl (feq hc218).2 (by decide) (by decide) ?_
  show Steps p.tables e below (T3.setTop (mkF m 225 #[s0, s1, s2, .val (.int i3), .val (.ref kk), .val (.int (i3 - (48 : Int32))), s6, s7, s8, s9, s10, s11, s12, s13] [])) _
  refine XS.iconst X3.here hx rfl (hb hby at_225) ?_
  show Steps p.tables e below (T3.setTop (mkF m 226 #[s0, s1, s2, .val (.int i3), .val (.ref kk), .val (.int (i3 - (48 : Int32))), s6, s7, s8, s9, s10, s11, s12, s13] [(.int (0 : Int32))])) _
  refine XS.istore X3.here hx rfl (hb hby at_226) rfl (l' := #[s0, s1, s2, .val (.int i3), .val (.ref kk), .val (.int (i3 - (48 : Int32))), .val (.int (0 : Int32)), s7, s8, s9, s10, s11, s12, s13]) (os0_226 hs6) ?_
  show Steps p.tables e below (T3.setTop (mkF m 228 #[s0, s1, s2, .val (.int i3), .val (.ref kk), .val (.int (i3 - (48 : Int32))), .val (.int (0 : Int32)), s7, s8, s9, s10, s11, s12, s13] [])) _
  refine XS.iloadN X3.here hx rfl (hb hby at_228) rfl ?_
  show Steps p.tables e below (T3.setTop (mkF m 229 #[s0, s1, s2, .val (.int i3), .val (.ref kk), .val (.int (i3 - (48 : Int32))), .val (.int (0 : Int32)), s7, s8, s9, s10, s11, s12, s13] [(.int i3)])) _
  refine XS.bipush X3.here hx rfl (hb hby at_229) ?_
  show Steps p.tables e below (T3.setTop (mkF m 231 #[s0, s1, s2, .val (.int i3), .val (.ref kk), .val (.int (i3 - (48 : Int32))), .val (.int (0 : Int32)), s7, s8, s9, s10, s11, s12, s13] [(.int (91 : Int32)), (.int i3)])) _
  refine XS.icmpNo X3.here hx rfl (hb hby at_231) rfl (teq hc231).2 ?_
  show Steps p.tables e below (T3.setTop (mkF m 234 #[s0, s1, s2, .val (.int i3), .val (.ref kk), .val (.int (i3 - (48 : Int32))), .val (.int (0 : Int32)), s7, s8, s9, s10, s11, s12, s13] [])) _
  refine XS.iconst X3.here hx rfl (hb hby at_234) ?_
  show Steps p.tables e below (T3.setTop (mkF m 235 #[s0, s1, s2, .val (.int i3), .val (.ref kk), .val (.int (i3 - (48 : Int32))), .val (.int (0 : Int32)), s7, s8, s9, s10, s11, s12, s13] [(.int (1 : Int32))])) _
  refine XS.goto X3.here hx rfl (pc0 := 235) (pc' := 239) rfl (hb hby at_235) (by decide) (by decide) ?_
  show Steps p.tables e below (T3.setTop (mkF m 239 #[s0, s1, s2, .val (.int i3), .val (.ref kk), .val (.int (i3 - (48 : Int32))), .val (.int (0 : Int32)), s7, s8, s9, s10, s11, s12, s13] [(.int (1 : Int32))])) _
  refine XS.istore X3.here hx rfl (hb hby at_239) rfl (l' := #[s0, s1, s2, .val (.int i3), .val (.ref kk), .val (.int (i3 - (48 : Int32))), .val (.int (0 : Int32)), .val (.int (1 : Int32)), s8, s9, s10, s11, s12, s13]) (os0_239 hs7) ?_
  show Steps p.tables e below (T3.setTop (mkF m 241 #[s0, s1, s2, .val (.int i3), .val (.ref kk), .val (.int (i3 - (48 : Int32))), .val (.int (0 : Int32)), .val (.int (1 : Int32)), s8, s9, s10, s11, s12, s13] [])) _
  refine XS.iloadN X3.here hx rfl (hb hby at_241) rfl ?_
  show Steps p.tables e below (T3.setTop (mkF m 242 #[s0, s1, s2, .val (.int i3), .val (.ref kk), .val (.int (i3 - (48 : Int32))), .val (.int (0 : Int32)), .val (.int (1 : Int32)), s8, s9, s10, s11, s12, s13] [(.int i3)])) _
  refine XS.bipush X3.here hx rfl (hb hby at_242) ?_
  show Steps p.tables e below (T3.setTop (mkF m 244 #[s0, s1, s2, .val (.int i3), .val (.ref kk), .val (.int (i3 - (48 : Int32))), .val (.int (0 : Int32)), .val (.int (1 : Int32)), s8, s9, s10, s11, s12, s13] [(.int (34 : Int32)), (.int i3)])) _
  refine XS.icmpYes X3.here hx rfl (pc0 := 244) (pc' := 251) rfl (hb hby at_244) rfl (feq hc244).2 (by decide) (by decide) ?_
  show Steps p.tables e below (T3.setTop (mkF m 251 #[s0, s1, s2, .val (.int i3), .val (.ref kk), .val (.int (i3 - (48 : Int32))), .val (.int (0 : Int32)), .val (.int (1 : Int32)), s8, s9, s10, s11, s12, s13] [])) _
  refine XS.iconst X3.here hx rfl (hb hby at_251) ?_
  show Steps p.tables e below (T3.setTop (mkF m 252 #[s0, s1, s2, .val (.int i3), .val (.ref kk), .val (.int (i3 - (48 : Int32))), .val (.int (0 : Int32)), .val (.int (1 : Int32)), s8, s9, s10, s11, s12, s13] [(.int (0 : Int32))])) _
  refine XS.istore X3.here hx rfl (hb hby at_252) rfl (l' := #[s0, s1, s2, .val (.int i3), .val (.ref kk), .val (.int (i3 - (48 : Int32))), .val (.int (0 : Int32)), .val (.int (1 : Int32)), .val (.int (0 : Int32)), s9, s10, s11, s12, s13]) (os0_252 hs8) ?_
  show Steps p.tables e below (T3.setTop (mkF m 254 #[s0, s1, s2, .val (.int i3), .val (.ref kk), .val (.int (i3 - (48 : Int32))), .val (.int (0 : Int32)), .val (.int (1 : Int32)), .val (.int (0 : Int32)), s9, s10, s11, s12, s13] [])) _
  refine XS.iloadN X3.here hx rfl (hb hby at_254) rfl ?_
  show Steps p.tables e below (T3.setTop (mkF m 255 #[s0, s1, s2, .val (.int i3), .val (.ref kk), .val (.int (i3 - (48 : Int32))), .val (.int (0 : Int32)), .val (.int (1 : Int32)), .val (.int (0 : Int32)), s9, s10, s11, s12, s13] [(.int i3)])) _
  refine XS.bipush X3.here hx rfl (hb hby at_255) ?_
  show Steps p.tables e below (T3.setTop (mkF m 257 #[s0, s1, s2, .val (.int i3), .val (.ref kk), .val (.int (i3 - (48 : Int32))), .val (.int (0 : Int32)), .val (.int (1 : Int32)), .val (.int (0 : Int32)), s9, s10, s11, s12, s13] [(.int (45 : Int32)), (.int i3)])) _
  refine XS.icmpNo X3.here hx rfl (hb hby at_257) rfl (feq hc257).1 ?_
  show Steps p.tables e below (T3.setTop (mkF m 260 #[s0, s1, s2, .val (.int i3), .val (.ref kk), .val (.int (i3 - (48 : Int32))), .val (.int (0 : Int32)), .val (.int (1 : Int32)), .val (.int (0 : Int32)), s9, s10, s11, s12, s13] [])) _
  refine XS.iload X3.here hx rfl (hb hby at_260) rfl ?_
  show Steps p.tables e below (T3.setTop (mkF m 262 #[s0, s1, s2, .val (.int i3), .val (.ref kk), .val (.int (i3 - (48 : Int32))), .val (.int (0 : Int32)), .val (.int (1 : Int32)), .val (.int (0 : Int32)), s9, s10, s11, s12, s13] [(.int (i3 - (48 : Int32)))])) _
  refine XS.ifNo X3.here hx rfl (hb hby at_262) rfl ((if0 _ _).trans (flt hc262).1) ?_
  show Steps p.tables e below (T3.setTop (mkF m 265 #[s0, s1, s2, .val (.int i3), .val (.ref kk), .val (.int (i3 - (48 : Int32))), .val (.int (0 : Int32)), .val (.int (1 : Int32)), .val (.int (0 : Int32)), s9, s10, s11, s12, s13] [])) _
  refine XS.iload X3.here hx rfl (hb hby at_265) rfl ?_
  show Steps p.tables e below (T3.setTop (mkF m 267 #[s0, s1, s2, .val (.int i3), .val (.ref kk), .val (.int (i3 - (48 : Int32))), .val (.int (0 : Int32)), .val (.int (1 : Int32)), .val (.int (0 : Int32)), s9, s10, s11, s12, s13] [(.int (i3 - (48 : Int32)))])) _
  refine XS.bipush X3.here hx rfl (hb hby at_267) ?_
  show Steps p.tables e below (T3.setTop (mkF m 269 #[s0, s1, s2, .val (.int i3), .val (.ref kk), .val (.int (i3 - (48 : Int32))), .val (.int (0 : Int32)), .val (.int (1 : Int32)), .val (.int (0 : Int32)), s9, s10, s11, s12, s13] [(.int (10 : Int32)), (.int (i3 - (48 : Int32)))])) _
  refine XS.icmpYes X3.here hx rfl (pc0 := 269) (pc' := 276) rfl (hb hby at_269) rfl (flt hc269).2.1 (by decide) (by decide) ?_
  show Steps p.tables e below (T3.setTop (mkF m 276 #[s0, s1, s2, .val (.int i3), .val (.ref kk), .val (.int (i3 - (48 : Int32))), .val (.int (0 : Int32)), .val (.int (1 : Int32)), .val (.int (0 : Int32)), s9, s10, s11, s12, s13] [])) _
  refine XS.iconst X3.here hx rfl (hb hby at_276) ?_
  show Steps p.tables e below (T3.setTop (mkF m 277 #[s0, s1, s2, .val (.int i3), .val (.ref kk), .val (.int (i3 - (48 : Int32))), .val (.int (0 : Int32)), .val (.int (1 : Int32)), .val (.int (0 : Int32)), s9, s10, s11, s12, s13] [(.int (0 : Int32))])) _
  refine XS.istore X3.here hx rfl (hb hby at_277) rfl (l' := #[s0, s1, s2, .val (.int i3), .val (.ref kk), .val (.int (i3 - (48 : Int32))), .val (.int (0 : Int32)), .val (.int (1 : Int32)), .val (.int (0 : Int32)), .val (.int (0 : Int32)), s10, s11, s12, s13]) (os0_277 hs9) ?_
  show Steps p.tables e below (T3.setTop (mkF m 279 #[s0, s1, s2, .val (.int i3), .val (.ref kk), .val (.int (i3 - (48 : Int32))), .val (.int (0 : Int32)), .val (.int (1 : Int32)), .val (.int (0 : Int32)), .val (.int (0 : Int32)), s10, s11, s12, s13] [])) _
  refine XS.iloadN X3.here hx rfl (hb hby at_279) rfl ?_
  show Steps p.tables e below (T3.setTop (mkF m 280 #[s0, s1, s2, .val (.int i3), .val (.ref kk), .val (.int (i3 - (48 : Int32))), .val (.int (0 : Int32)), .val (.int (1 : Int32)), .val (.int (0 : Int32)), .val (.int (0 : Int32)), s10, s11, s12, s13] [(.int i3)])) _
  refine XS.bipush X3.here hx rfl (hb hby at_280) ?_
  show Steps p.tables e below (T3.setTop (mkF m 282 #[s0, s1, s2, .val (.int i3), .val (.ref kk), .val (.int (i3 - (48 : Int32))), .val (.int (0 : Int32)), .val (.int (1 : Int32)), .val (.int (0 : Int32)), .val (.int (0 : Int32)), s10, s11, s12, s13] [(.int (116 : Int32)), (.int i3)])) _
  refine XS.icmpYes X3.here hx rfl (pc0 := 282) (pc' := 289) rfl (hb hby at_282) rfl (feq hc282).2 (by decide) (by decide) ?_
  show Steps p.tables e below (T3.setTop (mkF m 289 #[s0, s1, s2, .val (.int i3), .val (.ref kk), .val (.int (i3 - (48 : Int32))), .val (.int (0 : Int32)), .val (.int (1 : Int32)), .val (.int (0 : Int32)), .val (.int (0 : Int32)), s10, s11, s12, s13] [])) _
  refine XS.iconst X3.here hx rfl (hb hby at_289) ?_
  show Steps p.tables e below (T3.setTop (mkF m 290 #[s0, s1, s2, .val (.int i3), .val (.ref kk), .val (.int (i3 - (48 : Int32))), .val (.int (0 : Int32)), .val (.int (1 : Int32)), .val (.int (0 : Int32)), .val (.int (0 : Int32)), s10, s11, s12, s13] [(.int (0 : Int32))])) _
  refine XS.istore X3.here hx rfl (hb hby at_290) rfl (l' := #[s0, s1, s2, .val (.int i3), .val (.ref kk), .val (.int (i3 - (48 : Int32))), .val (.int (0 : Int32)), .val (.int (1 : Int32)), .val (.int (0 : Int32)), .val (.int (0 : Int32)), .val (.int (0 : Int32)), s11, s12, s13]) (os0_290 hs10) ?_
  show Steps p.tables e below (T3.setTop (mkF m 292 #[s0, s1, s2, .val (.int i3), .val (.ref kk), .val (.int (i3 - (48 : Int32))), .val (.int (0 : Int32)), .val (.int (1 : Int32)), .val (.int (0 : Int32)), .val (.int (0 : Int32)), .val (.int (0 : Int32)), s11, s12, s13] [])) _
  refine XS.iloadN X3.here hx rfl (hb hby at_292) rfl ?_
  show Steps p.tables e below (T3.setTop (mkF m 293 #[s0, s1, s2, .val (.int i3), .val (.ref kk), .val (.int (i3 - (48 : Int32))), .val (.int (0 : Int32)), .val (.int (1 : Int32)), .val (.int (0 : Int32)), .val (.int (0 : Int32)), .val (.int (0 : Int32)), s11, s12, s13] [(.int i3)])) _
  refine XS.bipush X3.here hx rfl (hb hby at_293) ?_
  show Steps p.tables e below (T3.setTop (mkF m 295 #[s0, s1, s2, .val (.int i3), .val (.ref kk), .val (.int (i3 - (48 : Int32))), .val (.int (0 : Int32)), .val (.int (1 : Int32)), .val (.int (0 : Int32)), .val (.int (0 : Int32)), .val (.int (0 : Int32)), s11, s12, s13] [(.int (102 : Int32)), (.int i3)])) _
  refine XS.icmpYes X3.here hx rfl (pc0 := 295) (pc' := 302) rfl (hb hby at_295) rfl (feq hc295).2 (by decide) (by decide) ?_
  show Steps p.tables e below (T3.setTop (mkF m 302 #[s0, s1, s2, .val (.int i3), .val (.ref kk), .val (.int (i3 - (48 : Int32))), .val (.int (0 : Int32)), .val (.int (1 : Int32)), .val (.int (0 : Int32)), .val (.int (0 : Int32)), .val (.int (0 : Int32)), s11, s12, s13] [])) _
  refine XS.iconst X3.here hx rfl (hb hby at_302) ?_
  show Steps p.tables e below (T3.setTop (mkF m 303 #[s0, s1, s2, .val (.int i3), .val (.ref kk), .val (.int (i3 - (48 : Int32))), .val (.int (0 : Int32)), .val (.int (1 : Int32)), .val (.int (0 : Int32)), .val (.int (0 : Int32)), .val (.int (0 : Int32)), s11, s12, s13] [(.int (0 : Int32))])) _
  refine XS.istore X3.here hx rfl (hb hby at_303) rfl (l' := #[s0, s1, s2, .val (.int i3), .val (.ref kk), .val (.int (i3 - (48 : Int32))), .val (.int (0 : Int32)), .val (.int (1 : Int32)), .val (.int (0 : Int32)), .val (.int (0 : Int32)), .val (.int (0 : Int32)), .val (.int (0 : Int32)), s12, s13]) (os0_303 hs11) ?_
  show Steps p.tables e below (T3.setTop (mkF m 305 #[s0, s1, s2, .val (.int i3), .val (.ref kk), .val (.int (i3 - (48 : Int32))), .val (.int (0 : Int32)), .val (.int (1 : Int32)), .val (.int (0 : Int32)), .val (.int (0 : Int32)), .val (.int (0 : Int32)), .val (.int (0 : Int32)), s12, s13] [])) _
  refine XS.iloadN X3.here hx rfl (hb hby at_305) rfl ?_
  show Steps p.tables e below (T3.setTop (mkF m 306 #[s0, s1, s2, .val (.int i3), .val (.ref kk), .val (.int (i3 - (48 : Int32))), .val (.int (0 : Int32)), .val (.int (1 : Int32)), .val (.int (0 : Int32)), .val (.int (0 : Int32)), .val (.int (0 : Int32)), .val (.int (0 : Int32)), s12, s13] [(.int i3)])) _
  refine XS.bipush X3.here hx rfl (hb hby at_306) ?_
  show Steps p.tables e below (T3.setTop (mkF m 308 #[s0, s1, s2, .val (.int i3), .val (.ref kk), .val (.int (i3 - (48 : Int32))), .val (.int (0 : Int32)), .val (.int (1 : Int32)), .val (.int (0 : Int32)), .val (.int (0 : Int32)), .val (.int (0 : Int32)), .val (.int (0 : Int32)), s12, s13] [(.int (110 : Int32)), (.int i3)])) _
  refine XS.icmpYes X3.here hx rfl (pc0 := 308) (pc' := 315) rfl (hb hby at_308) rfl (feq hc308).2 (by decide) (by decide) ?_
  show Steps p.tables e below (T3.setTop (mkF m 315 #[s0, s1, s2, .val (.int i3), .val (.ref kk), .val (.int (i3 - (48 : Int32))), .val (.int (0 : Int32)), .val (.int (1 : Int32)), .val (.int (0 : Int32)), .val (.int (0 : Int32)), .val (.int (0 : Int32)), .val (.int (0 : Int32)), s12, s13] [])) _
  refine XS.iconst X3.here hx rfl (hb hby at_315) ?_
  show Steps p.tables e below (T3.setTop (mkF m 316 #[s0, s1, s2, .val (.int i3), .val (.ref kk), .val (.int (i3 - (48 : Int32))), .val (.int (0 : Int32)), .val (.int (1 : Int32)), .val (.int (0 : Int32)), .val (.int (0 : Int32)), .val (.int (0 : Int32)), .val (.int (0 : Int32)), s12, s13] [(.int (0 : Int32))])) _
  refine XS.istore X3.here hx rfl (hb hby at_316) rfl (l' := #[s0, s1, s2, .val (.int i3), .val (.ref kk), .val (.int (i3 - (48 : Int32))), .val (.int (0 : Int32)), .val (.int (1 : Int32)), .val (.int (0 : Int32)), .val (.int (0 : Int32)), .val (.int (0 : Int32)), .val (.int (0 : Int32)), .val (.int (0 : Int32)), s13]) (os0_316 hs12) ?_
  show Steps p.tables e below (T3.setTop (mkF m 318 #[s0, s1, s2, .val (.int i3), .val (.ref kk), .val (.int (i3 - (48 : Int32))), .val (.int (0 : Int32)), .val (.int (1 : Int32)), .val (.int (0 : Int32)), .val (.int (0 : Int32)), .val (.int (0 : Int32)), .val (.int (0 : Int32)), .val (.int (0 : Int32)), s13] [])) _
  refine XS.iload X3.here hx rfl (hb hby at_318) rfl ?_
  show Steps p.tables e below (T3.setTop (mkF m 320 #[s0, s1, s2, .val (.int i3), .val (.ref kk), .val (.int (i3 - (48 : Int32))), .val (.int (0 : Int32)), .val (.int (1 : Int32)), .val (.int (0 : Int32)), .val (.int (0 : Int32)), .val (.int (0 : Int32)), .val (.int (0 : Int32)), .val (.int (0 : Int32)), s13] [(.int (0 : Int32))])) _
  refine XS.ifNo X3.here hx rfl (hb hby at_320) rfl ((if0 _ _).trans (teq (rfl : (0 : Int32) = (0 : Int32))).2) ?_
  show Steps p.tables e below (T3.setTop (mkF m 323 #[s0, s1, s2, .val (.int i3), .val (.ref kk), .val (.int (i3 - (48 : Int32))), .val (.int (0 : Int32)), .val (.int (1 : Int32)), .val (.int (0 : Int32)), .val (.int (0 : Int32)), .val (.int (0 : Int32)), .val (.int (0 : Int32)), .val (.int (0 : Int32)), s13] [])) _
  refine XS.iload X3.here hx rfl (hb hby at_323) rfl ?_
  show Steps p.tables e below (T3.setTop (mkF m 325 #[s0, s1, s2, .val (.int i3), .val (.ref kk), .val (.int (i3 - (48 : Int32))), .val (.int (0 : Int32)), .val (.int (1 : Int32)), .val (.int (0 : Int32)), .val (.int (0 : Int32)), .val (.int (0 : Int32)), .val (.int (0 : Int32)), .val (.int (0 : Int32)), s13] [(.int (1 : Int32))])) _
  refine XS.ifYes X3.here hx rfl (pc0 := 325) (pc' := 357) rfl (hb hby at_325) rfl ((if0 _ _).trans (feq hc325).2) (by decide) (by decide) ?_
  show Steps p.tables e below (T3.setTop (mkF m 357 #[s0, s1, s2, .val (.int i3), .val (.ref kk), .val (.int (i3 - (48 : Int32))), .val (.int (0 : Int32)), .val (.int (1 : Int32)), .val (.int (0 : Int32)), .val (.int (0 : Int32)), .val (.int (0 : Int32)), .val (.int (0 : Int32)), .val (.int (0 : Int32)), s13] [])) _
  refine XS.iconst X3.here hx rfl (hb hby at_357) ?_
  show Steps p.tables e below (T3.setTop (mkF m 358 #[s0, s1, s2, .val (.int i3), .val (.ref kk), .val (.int (i3 - (48 : Int32))), .val (.int (0 : Int32)), .val (.int (1 : Int32)), .val (.int (0 : Int32)), .val (.int (0 : Int32)), .val (.int (0 : Int32)), .val (.int (0 : Int32)), .val (.int (0 : Int32)), s13] [(.int (0 : Int32))])) _
  refine XS.istore X3.here hx rfl (hb hby at_358) rfl (l' := #[s0, s1, s2, .val (.int i3), .val (.ref kk), .val (.int (i3 - (48 : Int32))), .val (.int (0 : Int32)), .val (.int (1 : Int32)), .val (.int (0 : Int32)), .val (.int (0 : Int32)), .val (.int (0 : Int32)), .val (.int (0 : Int32)), .val (.int (0 : Int32)), .val (.int (0 : Int32))]) (os0_358 hs13) ?_
  show Steps p.tables e below (T3.setTop (mkF m 360 #[s0, s1, s2, .val (.int i3), .val (.ref kk), .val (.int (i3 - (48 : Int32))), .val (.int (0 : Int32)), .val (.int (1 : Int32)), .val (.int (0 : Int32)), .val (.int (0 : Int32)), .val (.int (0 : Int32)), .val (.int (0 : Int32)), .val (.int (0 : Int32)), .val (.int (0 : Int32))] [])) _
  refine XS.aload X3.here hx rfl (hb hby at_360) rfl rfl ?_
  show Steps p.tables e below (T3.setTop (mkF m 362 #[s0, s1, s2, .val (.int i3), .val (.ref kk), .val (.int (i3 - (48 : Int32))), .val (.int (0 : Int32)), .val (.int (1 : Int32)), .val (.int (0 : Int32)), .val (.int (0 : Int32)), .val (.int (0 : Int32)), .val (.int (0 : Int32)), .val (.int (0 : Int32)), .val (.int (0 : Int32))] [(.ref kk)])) _
  refine st5 _ ?_
  show Steps p.tables e below (T5.setTop (mkF m 365 #[s0, s1, s2, .val (.int i3), .val (.ref kk), .val (.int (i3 - (48 : Int32))), .val (.int (0 : Int32)), .val (.int (1 : Int32)), .val (.int (0 : Int32)), .val (.int (0 : Int32)), .val (.int (0 : Int32)), .val (.int (0 : Int32)), .val (.int (0 : Int32)), .val (.int (0 : Int32))] [(.ref w4), (.ref kk)])) _
  refine Jvm.RoadKit.acmp (g := (mkF m 365 #[s0, s1, s2, .val (.int i3), .val (.ref kk), .val (.int (i3 - (48 : Int32))), .val (.int (0 : Int32)), .val (.int (1 : Int32)), .val (.int (0 : Int32)), .val (.int (0 : Int32)), .val (.int (0 : Int32)), .val (.int (0 : Int32)), .val (.int (0 : Int32)), .val (.int (0 : Int32))] [(.ref w4), (.ref kk)])) X5 hx rfl rfl rfl (pc0 := 365) (pc' := 372) (same := false) rfl (hb hby at_365) rfl (decide_eq_false fun q => ha365 (Value.ref.inj q)) (by decide) (by decide) ?_
  show Steps p.tables e below (T5.setTop (mkF m 372 #[s0, s1, s2, .val (.int i3), .val (.ref kk), .val (.int (i3 - (48 : Int32))), .val (.int (0 : Int32)), .val (.int (1 : Int32)), .val (.int (0 : Int32)), .val (.int (0 : Int32)), .val (.int (0 : Int32)), .val (.int (0 : Int32)), .val (.int (0 : Int32)), .val (.int (0 : Int32))] [])) _
  refine XS.iconst X5.here hx rfl (hb hby at_372) ?_
  show Steps p.tables e below (T5.setTop (mkF m 373 #[s0, s1, s2, .val (.int i3), .val (.ref kk), .val (.int (i3 - (48 : Int32))), .val (.int (0 : Int32)), .val (.int (1 : Int32)), .val (.int (0 : Int32)), .val (.int (0 : Int32)), .val (.int (0 : Int32)), .val (.int (0 : Int32)), .val (.int (0 : Int32)), .val (.int (0 : Int32))] [(.int (0 : Int32))])) _
  refine XS.iload X5.here hx rfl (hb hby at_373) rfl ?_
  show Steps p.tables e below (T5.setTop (mkF m 375 #[s0, s1, s2, .val (.int i3), .val (.ref kk), .val (.int (i3 - (48 : Int32))), .val (.int (0 : Int32)), .val (.int (1 : Int32)), .val (.int (0 : Int32)), .val (.int (0 : Int32)), .val (.int (0 : Int32)), .val (.int (0 : Int32)), .val (.int (0 : Int32)), .val (.int (0 : Int32))] [(.int (0 : Int32)), (.int (0 : Int32))])) _
  refine XS.icmpNo X5.here hx rfl (hb hby at_375) rfl (teq (rfl : (0 : Int32) = (0 : Int32))).2 ?_
  show Steps p.tables e below (T5.setTop (mkF m 378 #[s0, s1, s2, .val (.int i3), .val (.ref kk), .val (.int (i3 - (48 : Int32))), .val (.int (0 : Int32)), .val (.int (1 : Int32)), .val (.int (0 : Int32)), .val (.int (0 : Int32)), .val (.int (0 : Int32)), .val (.int (0 : Int32)), .val (.int (0 : Int32)), .val (.int (0 : Int32))] [])) _
  refine XS.aload X5.here hx rfl (hb hby at_378) rfl rfl ?_
  show Steps p.tables e below (T5.setTop (mkF m 380 #[s0, s1, s2, .val (.int i3), .val (.ref kk), .val (.int (i3 - (48 : Int32))), .val (.int (0 : Int32)), .val (.int (1 : Int32)), .val (.int (0 : Int32)), .val (.int (0 : Int32)), .val (.int (0 : Int32)), .val (.int (0 : Int32)), .val (.int (0 : Int32)), .val (.int (0 : Int32))] [(.ref kk)])) _
  refine st7 _ ?_
  show Steps p.tables e below (T7.setTop (mkF m 383 #[s0, s1, s2, .val (.int i3), .val (.ref kk), .val (.int (i3 - (48 : Int32))), .val (.int (0 : Int32)), .val (.int (1 : Int32)), .val (.int (0 : Int32)), .val (.int (0 : Int32)), .val (.int (0 : Int32)), .val (.int (0 : Int32)), .val (.int (0 : Int32)), .val (.int (0 : Int32))] [(.ref w6), (.ref kk)])) _
  refine Jvm.RoadKit.acmp (g := (mkF m 383 #[s0, s1, s2, .val (.int i3), .val (.ref kk), .val (.int (i3 - (48 : Int32))), .val (.int (0 : Int32)), .val (.int (1 : Int32)), .val (.int (0 : Int32)), .val (.int (0 : Int32)), .val (.int (0 : Int32)), .val (.int (0 : Int32)), .val (.int (0 : Int32)), .val (.int (0 : Int32))] [(.ref w6), (.ref kk)])) X7 hx rfl rfl rfl (pc0 := 383) (pc' := 386) (same := true) rfl (hb hby at_383) rfl (decide_eq_true (congrArg Value.ref ha383)) (by decide) (by decide) ?_
  show Steps p.tables e below (T7.setTop (mkF m 386 #[s0, s1, s2, .val (.int i3), .val (.ref kk), .val (.int (i3 - (48 : Int32))), .val (.int (0 : Int32)), .val (.int (1 : Int32)), .val (.int (0 : Int32)), .val (.int (0 : Int32)), .val (.int (0 : Int32)), .val (.int (0 : Int32)), .val (.int (0 : Int32)), .val (.int (0 : Int32))] [])) _
  refine XS.iconst X7.here hx rfl (hb hby at_386) ?_
  show Steps p.tables e below (T7.setTop (mkF m 387 #[s0, s1, s2, .val (.int i3), .val (.ref kk), .val (.int (i3 - (48 : Int32))), .val (.int (0 : Int32)), .val (.int (1 : Int32)), .val (.int (0 : Int32)), .val (.int (0 : Int32)), .val (.int (0 : Int32)), .val (.int (0 : Int32)), .val (.int (0 : Int32)), .val (.int (0 : Int32))] [(.int (1 : Int32))])) _
  refine XS.goto X7.here hx rfl (pc0 := 387) (pc' := 391) rfl (hb hby at_387) (by decide) (by decide) ?_
  show Steps p.tables e below (T7.setTop (mkF m 391 #[s0, s1, s2, .val (.int i3), .val (.ref kk), .val (.int (i3 - (48 : Int32))), .val (.int (0 : Int32)), .val (.int (1 : Int32)), .val (.int (0 : Int32)), .val (.int (0 : Int32)), .val (.int (0 : Int32)), .val (.int (0 : Int32)), .val (.int (0 : Int32)), .val (.int (0 : Int32))] [(.int (1 : Int32))])) _
  refine XS.iload X7.here hx rfl (hb hby at_391) rfl ?_
  show Steps p.tables e below (T7.setTop (mkF m 393 #[s0, s1, s2, .val (.int i3), .val (.ref kk), .val (.int (i3 - (48 : Int32))), .val (.int (0 : Int32)), .val (.int (1 : Int32)), .val (.int (0 : Int32)), .val (.int (0 : Int32)), .val (.int (0 : Int32)), .val (.int (0 : Int32)), .val (.int (0 : Int32)), .val (.int (0 : Int32))] [(.int (1 : Int32)), (.int (1 : Int32))])) _
  refine XS.icmpNo X7.here hx rfl (hb hby at_393) rfl (teq (rfl : (1 : Int32) = (1 : Int32))).2 ?_
  show Steps p.tables e below (T7.setTop (mkF m 396 #[s0, s1, s2, .val (.int i3), .val (.ref kk), .val (.int (i3 - (48 : Int32))), .val (.int (0 : Int32)), .val (.int (1 : Int32)), .val (.int (0 : Int32)), .val (.int (0 : Int32)), .val (.int (0 : Int32)), .val (.int (0 : Int32)), .val (.int (0 : Int32)), .val (.int (0 : Int32))] [])) _
  refine XS.aload X7.here hx rfl (hb hby at_396) rfl rfl ?_
  show Steps p.tables e below (T7.setTop (mkF m 398 #[s0, s1, s2, .val (.int i3), .val (.ref kk), .val (.int (i3 - (48 : Int32))), .val (.int (0 : Int32)), .val (.int (1 : Int32)), .val (.int (0 : Int32)), .val (.int (0 : Int32)), .val (.int (0 : Int32)), .val (.int (0 : Int32)), .val (.int (0 : Int32)), .val (.int (0 : Int32))] [(.ref kk)])) _
  refine st9 _ ?_
  show Steps p.tables e below (T9.setTop (mkF m 401 #[s0, s1, s2, .val (.int i3), .val (.ref kk), .val (.int (i3 - (48 : Int32))), .val (.int (0 : Int32)), .val (.int (1 : Int32)), .val (.int (0 : Int32)), .val (.int (0 : Int32)), .val (.int (0 : Int32)), .val (.int (0 : Int32)), .val (.int (0 : Int32)), .val (.int (0 : Int32))] [(.ref w8), (.ref kk)])) _
  refine Jvm.RoadKit.acmp (g := (mkF m 401 #[s0, s1, s2, .val (.int i3), .val (.ref kk), .val (.int (i3 - (48 : Int32))), .val (.int (0 : Int32)), .val (.int (1 : Int32)), .val (.int (0 : Int32)), .val (.int (0 : Int32)), .val (.int (0 : Int32)), .val (.int (0 : Int32)), .val (.int (0 : Int32)), .val (.int (0 : Int32))] [(.ref w8), (.ref kk)])) X9 hx rfl rfl rfl (pc0 := 401) (pc' := 408) (same := false) rfl (hb hby at_401) rfl (decide_eq_false fun q => ha401 (Value.ref.inj q)) (by decide) (by decide) ?_
  show Steps p.tables e below (T9.setTop (mkF m 408 #[s0, s1, s2, .val (.int i3), .val (.ref kk), .val (.int (i3 - (48 : Int32))), .val (.int (0 : Int32)), .val (.int (1 : Int32)), .val (.int (0 : Int32)), .val (.int (0 : Int32)), .val (.int (0 : Int32)), .val (.int (0 : Int32)), .val (.int (0 : Int32)), .val (.int (0 : Int32))] [])) _
  refine XS.iconst X9.here hx rfl (hb hby at_408) ?_
  show Steps p.tables e below (T9.setTop (mkF m 409 #[s0, s1, s2, .val (.int i3), .val (.ref kk), .val (.int (i3 - (48 : Int32))), .val (.int (0 : Int32)), .val (.int (1 : Int32)), .val (.int (0 : Int32)), .val (.int (0 : Int32)), .val (.int (0 : Int32)), .val (.int (0 : Int32)), .val (.int (0 : Int32)), .val (.int (0 : Int32))] [(.int (0 : Int32))])) _
  refine XS.iload X9.here hx rfl (hb hby at_409) rfl ?_
  show Steps p.tables e below (T9.setTop (mkF m 411 #[s0, s1, s2, .val (.int i3), .val (.ref kk), .val (.int (i3 - (48 : Int32))), .val (.int (0 : Int32)), .val (.int (1 : Int32)), .val (.int (0 : Int32)), .val (.int (0 : Int32)), .val (.int (0 : Int32)), .val (.int (0 : Int32)), .val (.int (0 : Int32)), .val (.int (0 : Int32))] [(.int (0 : Int32)), (.int (0 : Int32))])) _
  refine XS.icmpNo X9.here hx rfl (hb hby at_411) rfl (teq (rfl : (0 : Int32) = (0 : Int32))).2 ?_
  show Steps p.tables e below (T9.setTop (mkF m 414 #[s0, s1, s2, .val (.int i3), .val (.ref kk), .val (.int (i3 - (48 : Int32))), .val (.int (0 : Int32)), .val (.int (1 : Int32)), .val (.int (0 : Int32)), .val (.int (0 : Int32)), .val (.int (0 : Int32)), .val (.int (0 : Int32)), .val (.int (0 : Int32)), .val (.int (0 : Int32))] [])) _
  refine XS.aload X9.here hx rfl (hb hby at_414) rfl rfl ?_
  show Steps p.tables e below (T9.setTop (mkF m 416 #[s0, s1, s2, .val (.int i3), .val (.ref kk), .val (.int (i3 - (48 : Int32))), .val (.int (0 : Int32)), .val (.int (1 : Int32)), .val (.int (0 : Int32)), .val (.int (0 : Int32)), .val (.int (0 : Int32)), .val (.int (0 : Int32)), .val (.int (0 : Int32)), .val (.int (0 : Int32))] [(.ref kk)])) _
  refine st11 _ ?_
  show Steps p.tables e below (T11.setTop (mkF m 419 #[s0, s1, s2, .val (.int i3), .val (.ref kk), .val (.int (i3 - (48 : Int32))), .val (.int (0 : Int32)), .val (.int (1 : Int32)), .val (.int (0 : Int32)), .val (.int (0 : Int32)), .val (.int (0 : Int32)), .val (.int (0 : Int32)), .val (.int (0 : Int32)), .val (.int (0 : Int32))] [(.ref w10), (.ref kk)])) _
  refine Jvm.RoadKit.acmp (g := (mkF m 419 #[s0, s1, s2, .val (.int i3), .val (.ref kk), .val (.int (i3 - (48 : Int32))), .val (.int (0 : Int32)), .val (.int (1 : Int32)), .val (.int (0 : Int32)), .val (.int (0 : Int32)), .val (.int (0 : Int32)), .val (.int (0 : Int32)), .val (.int (0 : Int32)), .val (.int (0 : Int32))] [(.ref w10), (.ref kk)])) X11 hx rfl rfl rfl (pc0 := 419) (pc' := 426) (same := false) rfl (hb hby at_419) rfl (decide_eq_false fun q => ha419 (Value.ref.inj q)) (by decide) (by decide) ?_
  show Steps p.tables e below (T11.setTop (mkF m 426 #[s0, s1, s2, .val (.int i3), .val (.ref kk), .val (.int (i3 - (48 : Int32))), .val (.int (0 : Int32)), .val (.int (1 : Int32)), .val (.int (0 : Int32)), .val (.int (0 : Int32)), .val (.int (0 : Int32)), .val (.int (0 : Int32)), .val (.int (0 : Int32)), .val (.int (0 : Int32))] [])) _
  refine XS.iconst X11.here hx rfl (hb hby at_426) ?_
  show Steps p.tables e below (T11.setTop (mkF m 427 #[s0, s1, s2, .val (.int i3), .val (.ref kk), .val (.int (i3 - (48 : Int32))), .val (.int (0 : Int32)), .val (.int (1 : Int32)), .val (.int (0 : Int32)), .val (.int (0 : Int32)), .val (.int (0 : Int32)), .val (.int (0 : Int32)), .val (.int (0 : Int32)), .val (.int (0 : Int32))] [(.int (0 : Int32))])) _
  refine XS.iload X11.here hx rfl (hb hby at_427) rfl ?_
  show Steps p.tables e below (T11.setTop (mkF m 429 #[s0, s1, s2, .val (.int i3), .val (.ref kk), .val (.int (i3 - (48 : Int32))), .val (.int (0 : Int32)), .val (.int (1 : Int32)), .val (.int (0 : Int32)), .val (.int (0 : Int32)), .val (.int (0 : Int32)), .val (.int (0 : Int32)), .val (.int (0 : Int32)), .val (.int (0 : Int32))] [(.int (0 : Int32)), (.int (0 : Int32))])) _
  refine XS.icmpNo X11.here hx rfl (hb hby at_429) rfl (teq (rfl : (0 : Int32) = (0 : Int32))).2 ?_
  show Steps p.tables e below (T11.setTop (mkF m 432 #[s0, s1, s2, .val (.int i3), .val (.ref kk), .val (.int (i3 - (48 : Int32))), .val (.int (0 : Int32)), .val (.int (1 : Int32)), .val (.int (0 : Int32)), .val (.int (0 : Int32)), .val (.int (0 : Int32)), .val (.int (0 : Int32)), .val (.int (0 : Int32)), .val (.int (0 : Int32))] [])) _
  refine XS.aload X11.here hx rfl (hb hby at_432) rfl rfl ?_
  show Steps p.tables e below (T11.setTop (mkF m 434 #[s0, s1, s2, .val (.int i3), .val (.ref kk), .val (.int (i3 - (48 : Int32))), .val (.int (0 : Int32)), .val (.int (1 : Int32)), .val (.int (0 : Int32)), .val (.int (0 : Int32)), .val (.int (0 : Int32)), .val (.int (0 : Int32)), .val (.int (0 : Int32)), .val (.int (0 : Int32))] [(.ref kk)])) _
  refine st13 _ ?_
  show Steps p.tables e below (T13.setTop (mkF m 437 #[s0, s1, s2, .val (.int i3), .val (.ref kk), .val (.int (i3 - (48 : Int32))), .val (.int (0 : Int32)), .val (.int (1 : Int32)), .val (.int (0 : Int32)), .val (.int (0 : Int32)), .val (.int (0 : Int32)), .val (.int (0 : Int32)), .val (.int (0 : Int32)), .val (.int (0 : Int32))] [(.ref w12), (.ref kk)])) _
  refine Jvm.RoadKit.acmp (g := (mkF m 437 #[s0, s1, s2, .val (.int i3), .val (.ref kk), .val (.int (i3 - (48 : Int32))), .val (.int (0 : Int32)), .val (.int (1 : Int32)), .val (.int (0 : Int32)), .val (.int (0 : Int32)), .val (.int (0 : Int32)), .val (.int (0 : Int32)), .val (.int (0 : Int32)), .val (.int (0 : Int32))] [(.ref w12), (.ref kk)])) X13 hx rfl rfl rfl (pc0 := 437) (pc' := 444) (same := false) rfl (hb hby at_437) rfl (decide_eq_false fun q => ha437 (Value.ref.inj q)) (by decide) (by decide) ?_
  show Steps p.tables e below (T13.setTop (mkF m 444 #[s0, s1, s2, .val (.int i3), .val (.ref kk), .val (.int (i3 - (48 : Int32))), .val (.int (0 : Int32)), .val (.int (1 : Int32)), .val (.int (0 : Int32)), .val (.int (0 : Int32)), .val (.int (0 : Int32)), .val (.int (0 : Int32)), .val (.int (0 : Int32)), .val (.int (0 : Int32))] [])) _
  refine XS.iconst X13.here hx rfl (hb hby at_444) ?_
  show Steps p.tables e below (T13.setTop (mkF m 445 #[s0, s1, s2, .val (.int i3), .val (.ref kk), .val (.int (i3 - (48 : Int32))), .val (.int (0 : Int32)), .val (.int (1 : Int32)), .val (.int (0 : Int32)), .val (.int (0 : Int32)), .val (.int (0 : Int32)), .val (.int (0 : Int32)), .val (.int (0 : Int32)), .val (.int (0 : Int32))] [(.int (0 : Int32))])) _
  refine XS.iload X13.here hx rfl (hb hby at_445) rfl ?_
  show Steps p.tables e below (T13.setTop (mkF m 447 #[s0, s1, s2, .val (.int i3), .val (.ref kk), .val (.int (i3 - (48 : Int32))), .val (.int (0 : Int32)), .val (.int (1 : Int32)), .val (.int (0 : Int32)), .val (.int (0 : Int32)), .val (.int (0 : Int32)), .val (.int (0 : Int32)), .val (.int (0 : Int32)), .val (.int (0 : Int32))] [(.int (0 : Int32)), (.int (0 : Int32))])) _
  refine XS.icmpNo X13.here hx rfl (hb hby at_447) rfl (teq (rfl : (0 : Int32) = (0 : Int32))).2 ?_
  show Steps p.tables e below (T13.setTop (mkF m 450 #[s0, s1, s2, .val (.int i3), .val (.ref kk), .val (.int (i3 - (48 : Int32))), .val (.int (0 : Int32)), .val (.int (1 : Int32)), .val (.int (0 : Int32)), .val (.int (0 : Int32)), .val (.int (0 : Int32)), .val (.int (0 : Int32)), .val (.int (0 : Int32)), .val (.int (0 : Int32))] [])) _
  refine XS.aload X13.here hx rfl (hb hby at_450) rfl rfl ?_
  show Steps p.tables e below (T13.setTop (mkF m 452 #[s0, s1, s2, .val (.int i3), .val (.ref kk), .val (.int (i3 - (48 : Int32))), .val (.int (0 : Int32)), .val (.int (1 : Int32)), .val (.int (0 : Int32)), .val (.int (0 : Int32)), .val (.int (0 : Int32)), .val (.int (0 : Int32)), .val (.int (0 : Int32)), .val (.int (0 : Int32))] [(.ref kk)])) _
  refine st15 _ ?_
  show Steps p.tables e below (T15.setTop (mkF m 455 #[s0, s1, s2, .val (.int i3), .val (.ref kk), .val (.int (i3 - (48 : Int32))), .val (.int (0 : Int32)), .val (.int (1 : Int32)), .val (.int (0 : Int32)), .val (.int (0 : Int32)), .val (.int (0 : Int32)), .val (.int (0 : Int32)), .val (.int (0 : Int32)), .val (.int (0 : Int32))] [(.ref w14), (.ref kk)])) _
  refine Jvm.RoadKit.acmp (g := (mkF m 455 #[s0, s1, s2, .val (.int i3), .val (.ref kk), .val (.int (i3 - (48 : Int32))), .val (.int (0 : Int32)), .val (.int (1 : Int32)), .val (.int (0 : Int32)), .val (.int (0 : Int32)), .val (.int (0 : Int32)), .val (.int (0 : Int32)), .val (.int (0 : Int32)), .val (.int (0 : Int32))] [(.ref w14), (.ref kk)])) X15 hx rfl rfl rfl (pc0 := 455) (pc' := 462) (same := false) rfl (hb hby at_455) rfl (decide_eq_false fun q => ha455 (Value.ref.inj q)) (by decide) (by decide) ?_
  show Steps p.tables e below (T15.setTop (mkF m 462 #[s0, s1, s2, .val (.int i3), .val (.ref kk), .val (.int (i3 - (48 : Int32))), .val (.int (0 : Int32)), .val (.int (1 : Int32)), .val (.int (0 : Int32)), .val (.int (0 : Int32)), .val (.int (0 : Int32)), .val (.int (0 : Int32)), .val (.int (0 : Int32)), .val (.int (0 : Int32))] [])) _
  refine XS.iconst X15.here hx rfl (hb hby at_462) ?_
  show Steps p.tables e below (T15.setTop (mkF m 463 #[s0, s1, s2, .val (.int i3), .val (.ref kk), .val (.int (i3 - (48 : Int32))), .val (.int (0 : Int32)), .val (.int (1 : Int32)), .val (.int (0 : Int32)), .val (.int (0 : Int32)), .val (.int (0 : Int32)), .val (.int (0 : Int32)), .val (.int (0 : Int32)), .val (.int (0 : Int32))] [(.int (0 : Int32))])) _
  refine XS.iload X15.here hx rfl (hb hby at_463) rfl ?_
  show Steps p.tables e below (T15.setTop (mkF m 465 #[s0, s1, s2, .val (.int i3), .val (.ref kk), .val (.int (i3 - (48 : Int32))), .val (.int (0 : Int32)), .val (.int (1 : Int32)), .val (.int (0 : Int32)), .val (.int (0 : Int32)), .val (.int (0 : Int32)), .val (.int (0 : Int32)), .val (.int (0 : Int32)), .val (.int (0 : Int32))] [(.int (0 : Int32)), (.int (0 : Int32))])) _
  refine XS.icmpNo X15.here hx rfl (hb hby at_465) rfl (teq (rfl : (0 : Int32) = (0 : Int32))).2 ?_
  show Steps p.tables e below (T15.setTop (mkF m 468 #[s0, s1, s2, .val (.int i3), .val (.ref kk), .val (.int (i3 - (48 : Int32))), .val (.int (0 : Int32)), .val (.int (1 : Int32)), .val (.int (0 : Int32)), .val (.int (0 : Int32)), .val (.int (0 : Int32)), .val (.int (0 : Int32)), .val (.int (0 : Int32)), .val (.int (0 : Int32))] [])) _
  refine XS.aload X15.here hx rfl (hb hby at_468) rfl rfl ?_
  show Steps p.tables e below (T15.setTop (mkF m 470 #[s0, s1, s2, .val (.int i3), .val (.ref kk), .val (.int (i3 - (48 : Int32))), .val (.int (0 : Int32)), .val (.int (1 : Int32)), .val (.int (0 : Int32)), .val (.int (0 : Int32)), .val (.int (0 : Int32)), .val (.int (0 : Int32)), .val (.int (0 : Int32)), .val (.int (0 : Int32))] [(.ref kk)])) _
  refine st17 _ ?_
  show Steps p.tables e below (T17.setTop (mkF m 473 #[s0, s1, s2, .val (.int i3), .val (.ref kk), .val (.int (i3 - (48 : Int32))), .val (.int (0 : Int32)), .val (.int (1 : Int32)), .val (.int (0 : Int32)), .val (.int (0 : Int32)), .val (.int (0 : Int32)), .val (.int (0 : Int32)), .val (.int (0 : Int32)), .val (.int (0 : Int32))] [(.ref w16), (.ref kk)])) _
  refine Jvm.RoadKit.acmp (g := (mkF m 473 #[s0, s1, s2, .val (.int i3), .val (.ref kk), .val (.int (i3 - (48 : Int32))), .val (.int (0 : Int32)), .val (.int (1 : Int32)), .val (.int (0 : Int32)), .val (.int (0 : Int32)), .val (.int (0 : Int32)), .val (.int (0 : Int32)), .val (.int (0 : Int32)), .val (.int (0 : Int32))] [(.ref w16), (.ref kk)])) X17 hx rfl rfl rfl (pc0 := 473) (pc' := 480) (same := false) rfl (hb hby at_473) rfl (decide_eq_false fun q => ha473 (Value.ref.inj q)) (by decide) (by decide) ?_
  show Steps p.tables e below (T17.setTop (mkF m 480 #[s0, s1, s2, .val (.int i3), .val (.ref kk), .val (.int (i3 - (48 : Int32))), .val (.int (0 : Int32)), .val (.int (1 : Int32)), .val (.int (0 : Int32)), .val (.int (0 : Int32)), .val (.int (0 : Int32)), .val (.int (0 : Int32)), .val (.int (0 : Int32)), .val (.int (0 : Int32))] [])) _
  refine XS.iconst X17.here hx rfl (hb hby at_480) ?_
  show Steps p.tables e below (T17.setTop (mkF m 481 #[s0, s1, s2, .val (.int i3), .val (.ref kk), .val (.int (i3 - (48 : Int32))), .val (.int (0 : Int32)), .val (.int (1 : Int32)), .val (.int (0 : Int32)), .val (.int (0 : Int32)), .val (.int (0 : Int32)), .val (.int (0 : Int32)), .val (.int (0 : Int32)), .val (.int (0 : Int32))] [(.int (0 : Int32))])) _
  refine XS.iload X17.here hx rfl (hb hby at_481) rfl ?_
  show Steps p.tables e below (T17.setTop (mkF m 483 #[s0, s1, s2, .val (.int i3), .val (.ref kk), .val (.int (i3 - (48 : Int32))), .val (.int (0 : Int32)), .val (.int (1 : Int32)), .val (.int (0 : Int32)), .val (.int (0 : Int32)), .val (.int (0 : Int32)), .val (.int (0 : Int32)), .val (.int (0 : Int32)), .val (.int (0 : Int32))] [(.int (0 : Int32)), (.int (0 : Int32))])) _
  refine XS.icmpNo X17.here hx rfl (hb hby at_483) rfl (teq (rfl : (0 : Int32) = (0 : Int32))).2 ?_
  show Steps p.tables e below (T17.setTop (mkF m 486 #[s0, s1, s2, .val (.int i3), .val (.ref kk), .val (.int (i3 - (48 : Int32))), .val (.int (0 : Int32)), .val (.int (1 : Int32)), .val (.int (0 : Int32)), .val (.int (0 : Int32)), .val (.int (0 : Int32)), .val (.int (0 : Int32)), .val (.int (0 : Int32)), .val (.int (0 : Int32))] [])) _
  refine XS.aload X17.here hx rfl (hb hby at_486) rfl rfl ?_
  show Steps p.tables e below (T17.setTop (mkF m 488 #[s0, s1, s2, .val (.int i3), .val (.ref kk), .val (.int (i3 - (48 : Int32))), .val (.int (0 : Int32)), .val (.int (1 : Int32)), .val (.int (0 : Int32)), .val (.int (0 : Int32)), .val (.int (0 : Int32)), .val (.int (0 : Int32)), .val (.int (0 : Int32)), .val (.int (0 : Int32))] [(.ref kk)])) _
  refine XS.ifnonnullYes X17.here hx rfl (pc0 := 488) (pc' := 495) rfl (hb hby at_488) rfl (by decide) (by decide) ?_
  show Steps p.tables e below (T17.setTop (mkF m 495 #[s0, s1, s2, .val (.int i3), .val (.ref kk), .val (.int (i3 - (48 : Int32))), .val (.int (0 : Int32)), .val (.int (1 : Int32)), .val (.int (0 : Int32)), .val (.int (0 : Int32)), .val (.int (0 : Int32)), .val (.int (0 : Int32)), .val (.int (0 : Int32)), .val (.int (0 : Int32))] [])) _
  refine XS.iconst X17.here hx rfl (hb hby at_495) ?_
  show Steps p.tables e below (T17.setTop (mkF m 496 #[s0, s1, s2, .val (.int i3), .val (.ref kk), .val (.int (i3 - (48 : Int32))), .val (.int (0 : Int32)), .val (.int (1 : Int32)), .val (.int (0 : Int32)), .val (.int (0 : Int32)), .val (.int (0 : Int32)), .val (.int (0 : Int32)), .val (.int (0 : Int32)), .val (.int (0 : Int32))] [(.int (0 : Int32))])) _
  refine XS.iload X17.here hx rfl (hb hby at_496) rfl ?_
  show Steps p.tables e below (T17.setTop (mkF m 498 #[s0, s1, s2, .val (.int i3), .val (.ref kk), .val (.int (i3 - (48 : Int32))), .val (.int (0 : Int32)), .val (.int (1 : Int32)), .val (.int (0 : Int32)), .val (.int (0 : Int32)), .val (.int (0 : Int32)), .val (.int (0 : Int32)), .val (.int (0 : Int32)), .val (.int (0 : Int32))] [(.int (0 : Int32)), (.int (0 : Int32))])) _
  refine XS.icmpNo X17.here hx rfl (hb hby at_498) rfl (teq (rfl : (0 : Int32) = (0 : Int32))).2 ?_
  show Steps p.tables e below (T17.setTop (mkF m 501 #[s0, s1, s2, .val (.int i3), .val (.ref kk), .val (.int (i3 - (48 : Int32))), .val (.int (0 : Int32)), .val (.int (1 : Int32)), .val (.int (0 : Int32)), .val (.int (0 : Int32)), .val (.int (0 : Int32)), .val (.int (0 : Int32)), .val (.int (0 : Int32)), .val (.int (0 : Int32))] [])) _
  refine XS.iconst X17.here hx rfl (hb hby at_501) ?_
  show Steps p.tables e below (T17.setTop (mkF m 502 #[s0, s1, s2, .val (.int i3), .val (.ref kk), .val (.int (i3 - (48 : Int32))), .val (.int (0 : Int32)), .val (.int (1 : Int32)), .val (.int (0 : Int32)), .val (.int (0 : Int32)), .val (.int (0 : Int32)), .val (.int (0 : Int32)), .val (.int (0 : Int32)), .val (.int (0 : Int32))] [(.int (1 : Int32))])) _
  refine XS.goto X17.here hx rfl (pc0 := 502) (pc' := 506) rfl (hb hby at_502) (by decide) (by decide) ?_
  exact kt
set_option maxRecDepth 65536 in
set_option maxHeartbeats 40000000 in
theorem own_segC_str {p : Program} {l : Launch} {e : Env} {s : State} {m : MethodId} {args : Array Value} {below : List Frame} {meth : Method} {c : Code} {T0 : State} {locs : List Loc} {Z : State} {a0 : Array Value} {h0 : Heap} {n0 : Nat} (s0 : Slot) (s1 : Slot) (s2 : Slot) (i3 : Int32) (s4 : Slot) (s5 : Slot) (s6 : Slot) (s7 : Slot) (s8 : Slot) (s9 : Slot) (s10 : Slot) (s11 : Slot) (s12 : Slot) (s13 : Slot) (w4 : Addr) (w6 : Addr) (w8 : Addr) (w10 : Addr) (w12 : Addr) (w14 : Addr) (w16 : Addr)
    (kk : Addr) (X0 : Stand p l e room_1 s m args below meth c T0 locs 1 30) (hx : p.tables.exec = Jvm.exec) (hZ : Z.Warmed39 s.vm) (hw : ∀ d ∈ tables_1, d.before a0 Z = true) (hby : c.code = code) (hml : c.maxLocals = 14) (hown : s.vm.findClass "com/example/tenkyo/tenkyo/exchange/KindOfPinLaw" = some m.cls) (e0 : T0.heap = h0) (N0 : Fr n0 locs) (hof : MetFree l (⟨"com/example/tenkyo/tenkyo/exchange/Json$Kind", "of", "(C)Lcom/example/tenkyo/tenkyo/exchange/Json$Kind;"⟩ : MethodName) (head1 (Jvm.Cond.code (⟨"com/example/tenkyo/tenkyo/exchange/Json$Kind", "of", "(C)Lcom/example/tenkyo/tenkyo/exchange/Json$Kind;"⟩ : MethodName) prog_14_method_6_code 2 (some (.object "com/example/tenkyo/tenkyo/exchange/Json$Kind")) :: []) ({ frames := 0, cells := 0, slots := 0, locals := 0 } : Room)) (fun a U => a = #[(.int i3)] ∧ Z.Warmed39 U.vm ∧ U.heap = h0) (fun _ _ _ _ _ => True) (fun _ U o U' => ∃ v L, o = .returned v ∧ Qk (.ref kk) h0 n0 v U'.heap L ∧ FrameEnd U o U' L ({ frames := 0, cells := 0, slots := 0, locals := 0 } : Room).cells ({ frames := 0, cells := 0, slots := 0, locals := 0 } : Room).slots)) (hs4 : One s4) (hs5 : One s5) (hs6 : One s6) (hs7 : One s7) (hs8 : One s8) (hs9 : One s9) (hs10 : One s10) (hs11 : One s11) (hs12 : One s12) (hs13 : One s13) (S_OBJECT : Sta Z h0 "com/example/tenkyo/tenkyo/exchange/Json$Kind" "OBJECT" "Lcom/example/tenkyo/tenkyo/exchange/Json$Kind;" (.ref w4)) (S_ARRAY : Sta Z h0 "com/example/tenkyo/tenkyo/exchange/Json$Kind" "ARRAY" "Lcom/example/tenkyo/tenkyo/exchange/Json$Kind;" (.ref w6)) (S_STRING : Sta Z h0 "com/example/tenkyo/tenkyo/exchange/Json$Kind" "STRING" "Lcom/example/tenkyo/tenkyo/exchange/Json$Kind;" (.ref w8)) (S_NUMBER : Sta Z h0 "com/example/tenkyo/tenkyo/exchange/Json$Kind" "NUMBER" "Lcom/example/tenkyo/tenkyo/exchange/Json$Kind;" (.ref w10)) (S_TRUE : Sta Z h0 "com/example/tenkyo/tenkyo/exchange/Json$Kind" "TRUE" "Lcom/example/tenkyo/tenkyo/exchange/Json$Kind;" (.ref w12)) (S_FALSE : Sta Z h0 "com/example/tenkyo/tenkyo/exchange/Json$Kind" "FALSE" "Lcom/example/tenkyo/tenkyo/exchange/Json$Kind;" (.ref w14)) (S_NULL : Sta Z h0 "com/example/tenkyo/tenkyo/exchange/Json$Kind" "NULL" "Lcom/example/tenkyo/tenkyo/exchange/Json$Kind;" (.ref w16)) (hc218 : ¬ (i3 = (123 : Int32))) (hc231 : ¬ (i3 = (91 : Int32))) (hc244 : i3 = (34 : Int32)) (hc257 : ¬ (i3 = (45 : Int32))) (hc262 : (i3 - (48 : Int32)) < (0 : Int32)) (hc282 : ¬ (i3 = (116 : Int32))) (hc295 : ¬ (i3 = (102 : Int32))) (hc308 : ¬ (i3 = (110 : Int32))) (hc330 : ¬ ((1 : Int32) = (0 : Int32))) (ha365 : ¬ (kk = w4)) (ha383 : ¬ (kk = w6)) (ha401 : kk = w8) (ha419 : ¬ (kk = w10)) (ha437 : ¬ (kk = w12)) (ha455 : ¬ (kk = w14)) (ha473 : ¬ (kk = w16)) :
    ∃ (T' : State) (L' : List Loc) (Ls : Array Slot), Stand p l e room_1 s m args below meth c T' L' 1 30 ∧ Fr n0 L' ∧
      ∀ target, Steps p.tables e below (T'.setTop (mkF m 506 Ls [(.int (1 : Int32))])) target → Steps p.tables e below (T0.setTop (mkF m 203 #[s0, s1, s2, .val (.int i3), s4, s5, s6, s7, s8, s9, s10, s11, s12, s13] [])) target := by
  obtain ⟨_, _, ⟨T3, L3, k3, n3⟩, -, X3, ⟨Lc3, hQ3, l3, y3, z3⟩, st3⟩ := Jvm.LawKit.callS X0 hx (y := (⟨"com/example/tenkyo/tenkyo/exchange/Json$Kind", "of", "(C)Lcom/example/tenkyo/tenkyo/exchange/Json$Kind;"⟩ : MethodName)) hown (mvT hZ (hw _ (List.mem_of_getElem? (i := 3) rfl))) (mvT hZ (hw _ (List.mem_of_getElem? (i := 4) rfl))) (mvT hZ (hw _ (List.mem_of_getElem? (i := 5) rfl))) (mvT hZ (hw _ (List.mem_of_getElem? (i := 6) rfl))) (by decide) (backOf (W := 0) hof hZ (hw _ (List.mem_of_getElem? (i := 6) rfl)) (hw _ (List.mem_of_getElem? (i := 5) rfl)) (by decide) (by decide)) (g := (mkF m 204 #[s0, s1, s2, .val (.int i3), s4, s5, s6, s7, s8, s9, s10, s11, s12, s13] [(.int i3)])) rfl (by rw [hml]; rfl) (argsL := [(.int i3)]) (rest := []) (lenOf pd_0_0 rfl) rfl (by show 2 * 0 + _ ≤ _; exact Nat.le_of_eq rfl) (hb hby at_204) (fun _ _ => ⟨rfl, e0, (by decide : 1 + 0 ≤ _), (by decide : 30 + 0 ≤ _)⟩)
  dsimp only [Pt.U, Pt.locs, Pt.cells, Pt.slots] at X3 l3 y3 z3 st3 hQ3
  subst l3 y3 z3
  obtain ⟨rfl, N3q, e3⟩ := hQ3
  have N3 := Fr.app N0 N3q
  obtain ⟨T5, X5, e5, st5⟩ := getS2 X3 hx hZ hown (host := "") (Or.inl (hw _ (List.mem_of_getElem? (i := 9) rfl))) Via.refl e3 S_OBJECT (g := (mkF m 362 #[s0, s1, s2, .val (.int i3), .val (.ref kk), .val (.int (i3 - (48 : Int32))), .val (.int (0 : Int32)), .val (.int (0 : Int32)), .val (.int (1 : Int32)), .val (.int (0 : Int32)), .val (.int (0 : Int32)), .val (.int (0 : Int32)), .val (.int (0 : Int32)), .val (.int (0 : Int32))] [(.ref kk)])) rfl (hb hby at_362)
  obtain ⟨T7, X7, e7, st7⟩ := getS2 X5 hx hZ hown (host := "") (Or.inl (hw _ (List.mem_of_getElem? (i := 10) rfl))) Via.refl e5 S_ARRAY (g := (mkF m 380 #[s0, s1, s2, .val (.int i3), .val (.ref kk), .val (.int (i3 - (48 : Int32))), .val (.int (0 : Int32)), .val (.int (0 : Int32)), .val (.int (1 : Int32)), .val (.int (0 : Int32)), .val (.int (0 : Int32)), .val (.int (0 : Int32)), .val (.int (0 : Int32)), .val (.int (0 : Int32))] [(.ref kk)])) rfl (hb hby at_380)
  obtain ⟨T9, X9, e9, st9⟩ := getS2 X7 hx hZ hown (host := "") (Or.inl (hw _ (List.mem_of_getElem? (i := 12) rfl))) Via.refl e7 S_STRING (g := (mkF m 398 #[s0, s1, s2, .val (.int i3), .val (.ref kk), .val (.int (i3 - (48 : Int32))), .val (.int (0 : Int32)), .val (.int (0 : Int32)), .val (.int (1 : Int32)), .val (.int (0 : Int32)), .val (.int (0 : Int32)), .val (.int (0 : Int32)), .val (.int (0 : Int32)), .val (.int (0 : Int32))] [(.ref kk)])) rfl (hb hby at_398)
  obtain ⟨T11, X11, e11, st11⟩ := getS2 X9 hx hZ hown (host := "") (Or.inl (hw _ (List.mem_of_getElem? (i := 14) rfl))) Via.refl e9 S_NUMBER (g := (mkF m 416 #[s0, s1, s2, .val (.int i3), .val (.ref kk), .val (.int (i3 - (48 : Int32))), .val (.int (0 : Int32)), .val (.int (0 : Int32)), .val (.int (1 : Int32)), .val (.int (0 : Int32)), .val (.int (0 : Int32)), .val (.int (0 : Int32)), .val (.int (0 : Int32)), .val (.int (0 : Int32))] [(.ref kk)])) rfl (hb hby at_416)
  obtain ⟨T13, X13, e13, st13⟩ := getS2 X11 hx hZ hown (host := "") (Or.inl (hw _ (List.mem_of_getElem? (i := 16) rfl))) Via.refl e11 S_TRUE (g := (mkF m 434 #[s0, s1, s2, .val (.int i3), .val (.ref kk), .val (.int (i3 - (48 : Int32))), .val (.int (0 : Int32)), .val (.int (0 : Int32)), .val (.int (1 : Int32)), .val (.int (0 : Int32)), .val (.int (0 : Int32)), .val (.int (0 : Int32)), .val (.int (0 : Int32)), .val (.int (0 : Int32))] [(.ref kk)])) rfl (hb hby at_434)
  obtain ⟨T15, X15, e15, st15⟩ := getS2 X13 hx hZ hown (host := "") (Or.inl (hw _ (List.mem_of_getElem? (i := 18) rfl))) Via.refl e13 S_FALSE (g := (mkF m 452 #[s0, s1, s2, .val (.int i3), .val (.ref kk), .val (.int (i3 - (48 : Int32))), .val (.int (0 : Int32)), .val (.int (0 : Int32)), .val (.int (1 : Int32)), .val (.int (0 : Int32)), .val (.int (0 : Int32)), .val (.int (0 : Int32)), .val (.int (0 : Int32)), .val (.int (0 : Int32))] [(.ref kk)])) rfl (hb hby at_452)
  obtain ⟨T17, X17, e17, st17⟩ := getS2 X15 hx hZ hown (host := "") (Or.inl (hw _ (List.mem_of_getElem? (i := 20) rfl))) Via.refl e15 S_NULL (g := (mkF m 470 #[s0, s1, s2, .val (.int i3), .val (.ref kk), .val (.int (i3 - (48 : Int32))), .val (.int (0 : Int32)), .val (.int (0 : Int32)), .val (.int (1 : Int32)), .val (.int (0 : Int32)), .val (.int (0 : Int32)), .val (.int (0 : Int32)), .val (.int (0 : Int32)), .val (.int (0 : Int32))] [(.ref kk)])) rfl (hb hby at_470)
  refine ⟨T17, _, #[s0, s1, s2, .val (.int i3), .val (.ref kk), .val (.int (i3 - (48 : Int32))), .val (.int (0 : Int32)), .val (.int (0 : Int32)), .val (.int (1 : Int32)), .val (.int (0 : Int32)), .val (.int (0 : Int32)), .val (.int (0 : Int32)), .val (.int (0 : Int32)), .val (.int (0 : Int32))], X17, N3, fun target kt => ?_⟩
  show Steps p.tables e below (T0.setTop (mkF m 203 #[s0, s1, s2, .val (.int i3), s4, s5, s6, s7, s8, s9, s10, s11, s12, s13] [])) _
  refine XS.iloadN X0.here hx rfl (hb hby at_203) rfl ?_
  show Steps p.tables e below (T0.setTop (mkF m 204 #[s0, s1, s2, .val (.int i3), s4, s5, s6, s7, s8, s9, s10, s11, s12, s13] [(.int i3)])) _
  refine st3 _ ?_
  show Steps p.tables e below (T3.setTop (mkF m 207 #[s0, s1, s2, .val (.int i3), s4, s5, s6, s7, s8, s9, s10, s11, s12, s13] [(.ref kk)])) _
  refine XS.astore X3.here hx rfl (hb hby at_207) rfl rfl (l' := #[s0, s1, s2, .val (.int i3), .val (.ref kk), s5, s6, s7, s8, s9, s10, s11, s12, s13]) (os0_207 hs4) ?_
  show Steps p.tables e below (T3.setTop (mkF m 209 #[s0, s1, s2, .val (.int i3), .val (.ref kk), s5, s6, s7, s8, s9, s10, s11, s12, s13] [])) _
  refine XS.iloadN X3.here hx rfl (hb hby at_209) rfl ?_
  show Steps p.tables e below (T3.setTop (mkF m 210 #[s0, s1, s2, .val (.int i3), .val (.ref kk), s5, s6, s7, s8, s9, s10, s11, s12, s13] [(.int i3)])) _
  refine XS.bipush X3.here hx rfl (hb hby at_210) ?_
  show Steps p.tables e below (T3.setTop (mkF m 212 #[s0, s1, s2, .val (.int i3), .val (.ref kk), s5, s6, s7, s8, s9, s10, s11, s12, s13] [(.int (48 : Int32)), (.int i3)])) _
  refine XS.isub X3.here hx rfl (hb hby at_212) rfl ?_
  show Steps p.tables e below (T3.setTop (mkF m 213 #[s0, s1, s2, .val (.int i3), .val (.ref kk), s5, s6, s7, s8, s9, s10, s11, s12, s13] [(.int (i3 - (48 : Int32)))])) _
  refine XS.istore X3.here hx rfl (hb hby at_213) rfl (l' := #[s0, s1, s2, .val (.int i3), .val (.ref kk), .val (.int (i3 - (48 : Int32))), s6, s7, s8, s9, s10, s11, s12, s13]) (os0_213 hs5) ?_
  show Steps p.tables e below (T3.setTop (mkF m 215 #[s0, s1, s2, .val (.int i3), .val (.ref kk), .val (.int (i3 - (48 : Int32))), s6, s7, s8, s9, s10, s11, s12, s13] [])) _
  refine XS.iloadN X3.here hx rfl (hb hby at_215) rfl ?_
  show Steps p.tables e below (T3.setTop (mkF m 216 #[s0, s1, s2, .val (.int i3), .val (.ref kk), .val (.int (i3 - (48 : Int32))), s6, s7, s8, s9, s10, s11, s12, s13] [(.int i3)])) _
  refine XS.bipush X3.here hx rfl (hb hby at_216) ?_
  show Steps p.tables e below (T3.setTop (mkF m 218 #[s0, s1, s2, .val (.int i3), .val (.ref kk), .val (.int (i3 - (48 : Int32))), s6, s7, s8, s9, s10, s11, s12, s13] [(.int (123 : Int32)), (.int i3)])) _
  refine XS.icmpYes X3.here hx rfl (pc0 := 218) (pc' := 225) rfl (hb hby at_218) rfl (feq hc218).2 (by decide) (by decide) ?_
  show Steps p.tables e below (T3.setTop (mkF m 225 #[s0, s1, s2, .val (.int i3), .val (.ref kk), .val (.int (i3 - (48 : Int32))), s6, s7, s8, s9, s10, s11, s12, s13] [])) _
  refine XS.iconst X3.here hx rfl (hb hby at_225) ?_
  show Steps p.tables e below (T3.setTop (mkF m 226 #[s0, s1, s2, .val (.int i3), .val (.ref kk), .val (.int (i3 - (48 : Int32))), s6, s7, s8, s9, s10, s11, s12, s13] [(.int (0 : Int32))])) _
  refine XS.istore X3.here hx rfl (hb hby at_226) rfl (l' := #[s0, s1, s2, .val (.int i3), .val (.ref kk), .val (.int (i3 - (48 : Int32))), .val (.int (0 : Int32)), s7, s8, s9, s10, s11, s12, s13]) (os0_226 hs6) ?_
  show Steps p.tables e below (T3.setTop (mkF m 228 #[s0, s1, s2, .val (.int i3), .val (.ref kk), .val (.int (i3 - (48 : Int32))), .val (.int (0 : Int32)), s7, s8, s9, s10, s11, s12, s13] [])) _
  refine XS.iloadN X3.here hx rfl (hb hby at_228) rfl ?_
  show Steps p.tables e below (T3.setTop (mkF m 229 #[s0, s1, s2, .val (.int i3), .val (.ref kk), .val (.int (i3 - (48 : Int32))), .val (.int (0 : Int32)), s7, s8, s9, s10, s11, s12, s13] [(.int i3)])) _
  refine XS.bipush X3.here hx rfl (hb hby at_229) ?_
  show Steps p.tables e below (T3.setTop (mkF m 231 #[s0, s1, s2, .val (.int i3), .val (.ref kk), .val (.int (i3 - (48 : Int32))), .val (.int (0 : Int32)), s7, s8, s9, s10, s11, s12, s13] [(.int (91 : Int32)), (.int i3)])) _
  refine XS.icmpYes X3.here hx rfl (pc0 := 231) (pc' := 238) rfl (hb hby at_231) rfl (feq hc231).2 (by decide) (by decide) ?_
  show Steps p.tables e below (T3.setTop (mkF m 238 #[s0, s1, s2, .val (.int i3), .val (.ref kk), .val (.int (i3 - (48 : Int32))), .val (.int (0 : Int32)), s7, s8, s9, s10, s11, s12, s13] [])) _
  refine XS.iconst X3.here hx rfl (hb hby at_238) ?_
  show Steps p.tables e below (T3.setTop (mkF m 239 #[s0, s1, s2, .val (.int i3), .val (.ref kk), .val (.int (i3 - (48 : Int32))), .val (.int (0 : Int32)), s7, s8, s9, s10, s11, s12, s13] [(.int (0 : Int32))])) _
  refine XS.istore X3.here hx rfl (hb hby at_239) rfl (l' := #[s0, s1, s2, .val (.int i3), .val (.ref kk), .val (.int (i3 - (48 : Int32))), .val (.int (0 : Int32)), .val (.int (0 : Int32)), s8, s9, s10, s11, s12, s13]) (os0_239 hs7) ?_
  show Steps p.tables e below (T3.setTop (mkF m 241 #[s0, s1, s2, .val (.int i3), .val (.ref kk), .val (.int (i3 - (48 : Int32))), .val (.int (0 : Int32)), .val (.int (0 : Int32)), s8, s9, s10, s11, s12, s13] [])) _
  refine XS.iloadN X3.here hx rfl (hb hby at_241) rfl ?_
  show Steps p.tables e below (T3.setTop (mkF m 242 #[s0, s1, s2, .val (.int i3), .val (.ref kk), .val (.int (i3 - (48 : Int32))), .val (.int (0 : Int32)), .val (.int (0 : Int32)), s8, s9, s10, s11, s12, s13] [(.int i3)])) _
  refine XS.bipush X3.here hx rfl (hb hby at_242) ?_
  show Steps p.tables e below (T3.setTop (mkF m 244 #[s0, s1, s2, .val (.int i3), .val (.ref kk), .val (.int (i3 - (48 : Int32))), .val (.int (0 : Int32)), .val (.int (0 : Int32)), s8, s9, s10, s11, s12, s13] [(.int (34 : Int32)), (.int i3)])) _
  refine XS.icmpNo X3.here hx rfl (hb hby at_244) rfl (teq hc244).2 ?_
  show Steps p.tables e below (T3.setTop (mkF m 247 #[s0, s1, s2, .val (.int i3), .val (.ref kk), .val (.int (i3 - (48 : Int32))), .val (.int (0 : Int32)), .val (.int (0 : Int32)), s8, s9, s10, s11, s12, s13] [])) _
  refine XS.iconst X3.here hx rfl (hb hby at_247) ?_
  show Steps p.tables e below (T3.setTop (mkF m 248 #[s0, s1, s2, .val (.int i3), .val (.ref kk), .val (.int (i3 - (48 : Int32))), .val (.int (0 : Int32)), .val (.int (0 : Int32)), s8, s9, s10, s11, s12, s13] [(.int (1 : Int32))])) _
  refine XS.goto X3.here hx rfl (pc0 := 248) (pc' := 252) rfl (hb hby at_248) (by decide) (by decide) ?_
  show Steps p.tables e below (T3.setTop (mkF m 252 #[s0, s1, s2, .val (.int i3), .val (.ref kk), .val (.int (i3 - (48 : Int32))), .val (.int (0 : Int32)), .val (.int (0 : Int32)), s8, s9, s10, s11, s12, s13] [(.int (1 : Int32))])) _
  refine XS.istore X3.here hx rfl (hb hby at_252) rfl (l' := #[s0, s1, s2, .val (.int i3), .val (.ref kk), .val (.int (i3 - (48 : Int32))), .val (.int (0 : Int32)), .val (.int (0 : Int32)), .val (.int (1 : Int32)), s9, s10, s11, s12, s13]) (os0_252 hs8) ?_
  show Steps p.tables e below (T3.setTop (mkF m 254 #[s0, s1, s2, .val (.int i3), .val (.ref kk), .val (.int (i3 - (48 : Int32))), .val (.int (0 : Int32)), .val (.int (0 : Int32)), .val (.int (1 : Int32)), s9, s10, s11, s12, s13] [])) _
  refine XS.iloadN X3.here hx rfl (hb hby at_254) rfl ?_
  show Steps p.tables e below (T3.setTop (mkF m 255 #[s0, s1, s2, .val (.int i3), .val (.ref kk), .val (.int (i3 - (48 : Int32))), .val (.int (0 : Int32)), .val (.int (0 : Int32)), .val (.int (1 : Int32)), s9, s10, s11, s12, s13] [(.int i3)])) _
  refine XS.bipush X3.here hx rfl (hb hby at_255) ?_
  show Steps p.tables e below (T3.setTop (mkF m 257 #[s0, s1, s2, .val (.int i3), .val (.ref kk), .val (.int (i3 - (48 : Int32))), .val (.int (0 : Int32)), .val (.int (0 : Int32)), .val (.int (1 : Int32)), s9, s10, s11, s12, s13] [(.int (45 : Int32)), (.int i3)])) _
  refine XS.icmpNo X3.here hx rfl (hb hby at_257) rfl (feq hc257).1 ?_
  show Steps p.tables e below (T3.setTop (mkF m 260 #[s0, s1, s2, .val (.int i3), .val (.ref kk), .val (.int (i3 - (48 : Int32))), .val (.int (0 : Int32)), .val (.int (0 : Int32)), .val (.int (1 : Int32)), s9, s10, s11, s12, s13] [])) _
  refine XS.iload X3.here hx rfl (hb hby at_260) rfl ?_
  show Steps p.tables e below (T3.setTop (mkF m 262 #[s0, s1, s2, .val (.int i3), .val (.ref kk), .val (.int (i3 - (48 : Int32))), .val (.int (0 : Int32)), .val (.int (0 : Int32)), .val (.int (1 : Int32)), s9, s10, s11, s12, s13] [(.int (i3 - (48 : Int32)))])) _
  refine XS.ifYes X3.here hx rfl (pc0 := 262) (pc' := 276) rfl (hb hby at_262) rfl ((if0 _ _).trans (tlt hc262).1) (by decide) (by decide) ?_
  show Steps p.tables e below (T3.setTop (mkF m 276 #[s0, s1, s2, .val (.int i3), .val (.ref kk), .val (.int (i3 - (48 : Int32))), .val (.int (0 : Int32)), .val (.int (0 : Int32)), .val (.int (1 : Int32)), s9, s10, s11, s12, s13] [])) _
  refine XS.iconst X3.here hx rfl (hb hby at_276) ?_
  show Steps p.tables e below (T3.setTop (mkF m 277 #[s0, s1, s2, .val (.int i3), .val (.ref kk), .val (.int (i3 - (48 : Int32))), .val (.int (0 : Int32)), .val (.int (0 : Int32)), .val (.int (1 : Int32)), s9, s10, s11, s12, s13] [(.int (0 : Int32))])) _
  refine XS.istore X3.here hx rfl (hb hby at_277) rfl (l' := #[s0, s1, s2, .val (.int i3), .val (.ref kk), .val (.int (i3 - (48 : Int32))), .val (.int (0 : Int32)), .val (.int (0 : Int32)), .val (.int (1 : Int32)), .val (.int (0 : Int32)), s10, s11, s12, s13]) (os0_277 hs9) ?_
  show Steps p.tables e below (T3.setTop (mkF m 279 #[s0, s1, s2, .val (.int i3), .val (.ref kk), .val (.int (i3 - (48 : Int32))), .val (.int (0 : Int32)), .val (.int (0 : Int32)), .val (.int (1 : Int32)), .val (.int (0 : Int32)), s10, s11, s12, s13] [])) _
  refine XS.iloadN X3.here hx rfl (hb hby at_279) rfl ?_
  show Steps p.tables e below (T3.setTop (mkF m 280 #[s0, s1, s2, .val (.int i3), .val (.ref kk), .val (.int (i3 - (48 : Int32))), .val (.int (0 : Int32)), .val (.int (0 : Int32)), .val (.int (1 : Int32)), .val (.int (0 : Int32)), s10, s11, s12, s13] [(.int i3)])) _
  refine XS.bipush X3.here hx rfl (hb hby at_280) ?_
  show Steps p.tables e below (T3.setTop (mkF m 282 #[s0, s1, s2, .val (.int i3), .val (.ref kk), .val (.int (i3 - (48 : Int32))), .val (.int (0 : Int32)), .val (.int (0 : Int32)), .val (.int (1 : Int32)), .val (.int (0 : Int32)), s10, s11, s12, s13] [(.int (116 : Int32)), (.int i3)])) _
  refine XS.icmpYes X3.here hx rfl (pc0 := 282) (pc' := 289) rfl (hb hby at_282) rfl (feq hc282).2 (by decide) (by decide) ?_
  show Steps p.tables e below (T3.setTop (mkF m 289 #[s0, s1, s2, .val (.int i3), .val (.ref kk), .val (.int (i3 - (48 : Int32))), .val (.int (0 : Int32)), .val (.int (0 : Int32)), .val (.int (1 : Int32)), .val (.int (0 : Int32)), s10, s11, s12, s13] [])) _
  refine XS.iconst X3.here hx rfl (hb hby at_289) ?_
  show Steps p.tables e below (T3.setTop (mkF m 290 #[s0, s1, s2, .val (.int i3), .val (.ref kk), .val (.int (i3 - (48 : Int32))), .val (.int (0 : Int32)), .val (.int (0 : Int32)), .val (.int (1 : Int32)), .val (.int (0 : Int32)), s10, s11, s12, s13] [(.int (0 : Int32))])) _
  refine XS.istore X3.here hx rfl (hb hby at_290) rfl (l' := #[s0, s1, s2, .val (.int i3), .val (.ref kk), .val (.int (i3 - (48 : Int32))), .val (.int (0 : Int32)), .val (.int (0 : Int32)), .val (.int (1 : Int32)), .val (.int (0 : Int32)), .val (.int (0 : Int32)), s11, s12, s13]) (os0_290 hs10) ?_
  show Steps p.tables e below (T3.setTop (mkF m 292 #[s0, s1, s2, .val (.int i3), .val (.ref kk), .val (.int (i3 - (48 : Int32))), .val (.int (0 : Int32)), .val (.int (0 : Int32)), .val (.int (1 : Int32)), .val (.int (0 : Int32)), .val (.int (0 : Int32)), s11, s12, s13] [])) _
  refine XS.iloadN X3.here hx rfl (hb hby at_292) rfl ?_
  show Steps p.tables e below (T3.setTop (mkF m 293 #[s0, s1, s2, .val (.int i3), .val (.ref kk), .val (.int (i3 - (48 : Int32))), .val (.int (0 : Int32)), .val (.int (0 : Int32)), .val (.int (1 : Int32)), .val (.int (0 : Int32)), .val (.int (0 : Int32)), s11, s12, s13] [(.int i3)])) _
  refine XS.bipush X3.here hx rfl (hb hby at_293) ?_
  show Steps p.tables e below (T3.setTop (mkF m 295 #[s0, s1, s2, .val (.int i3), .val (.ref kk), .val (.int (i3 - (48 : Int32))), .val (.int (0 : Int32)), .val (.int (0 : Int32)), .val (.int (1 : Int32)), .val (.int (0 : Int32)), .val (.int (0 : Int32)), s11, s12, s13] [(.int (102 : Int32)), (.int i3)])) _
  refine XS.icmpYes X3.here hx rfl (pc0 := 295) (pc' := 302) rfl (hb hby at_295) rfl (feq hc295).2 (by decide) (by decide) ?_
  show Steps p.tables e below (T3.setTop (mkF m 302 #[s0, s1, s2, .val (.int i3), .val (.ref kk), .val (.int (i3 - (48 : Int32))), .val (.int (0 : Int32)), .val (.int (0 : Int32)), .val (.int (1 : Int32)), .val (.int (0 : Int32)), .val (.int (0 : Int32)), s11, s12, s13] [])) _
  refine XS.iconst X3.here hx rfl (hb hby at_302) ?_
  show Steps p.tables e below (T3.setTop (mkF m 303 #[s0, s1, s2, .val (.int i3), .val (.ref kk), .val (.int (i3 - (48 : Int32))), .val (.int (0 : Int32)), .val (.int (0 : Int32)), .val (.int (1 : Int32)), .val (.int (0 : Int32)), .val (.int (0 : Int32)), s11, s12, s13] [(.int (0 : Int32))])) _
  refine XS.istore X3.here hx rfl (hb hby at_303) rfl (l' := #[s0, s1, s2, .val (.int i3), .val (.ref kk), .val (.int (i3 - (48 : Int32))), .val (.int (0 : Int32)), .val (.int (0 : Int32)), .val (.int (1 : Int32)), .val (.int (0 : Int32)), .val (.int (0 : Int32)), .val (.int (0 : Int32)), s12, s13]) (os0_303 hs11) ?_
  show Steps p.tables e below (T3.setTop (mkF m 305 #[s0, s1, s2, .val (.int i3), .val (.ref kk), .val (.int (i3 - (48 : Int32))), .val (.int (0 : Int32)), .val (.int (0 : Int32)), .val (.int (1 : Int32)), .val (.int (0 : Int32)), .val (.int (0 : Int32)), .val (.int (0 : Int32)), s12, s13] [])) _
  refine XS.iloadN X3.here hx rfl (hb hby at_305) rfl ?_
  show Steps p.tables e below (T3.setTop (mkF m 306 #[s0, s1, s2, .val (.int i3), .val (.ref kk), .val (.int (i3 - (48 : Int32))), .val (.int (0 : Int32)), .val (.int (0 : Int32)), .val (.int (1 : Int32)), .val (.int (0 : Int32)), .val (.int (0 : Int32)), .val (.int (0 : Int32)), s12, s13] [(.int i3)])) _
  refine XS.bipush X3.here hx rfl (hb hby at_306) ?_
  show Steps p.tables e below (T3.setTop (mkF m 308 #[s0, s1, s2, .val (.int i3), .val (.ref kk), .val (.int (i3 - (48 : Int32))), .val (.int (0 : Int32)), .val (.int (0 : Int32)), .val (.int (1 : Int32)), .val (.int (0 : Int32)), .val (.int (0 : Int32)), .val (.int (0 : Int32)), s12, s13] [(.int (110 : Int32)), (.int i3)])) _
  refine XS.icmpYes X3.here hx rfl (pc0 := 308) (pc' := 315) rfl (hb hby at_308) rfl (feq hc308).2 (by decide) (by decide) ?_
  show Steps p.tables e below (T3.setTop (mkF m 315 #[s0, s1, s2, .val (.int i3), .val (.ref kk), .val (.int (i3 - (48 : Int32))), .val (.int (0 : Int32)), .val (.int (0 : Int32)), .val (.int (1 : Int32)), .val (.int (0 : Int32)), .val (.int (0 : Int32)), .val (.int (0 : Int32)), s12, s13] [])) _
  refine XS.iconst X3.here hx rfl (hb hby at_315) ?_
  show Steps p.tables e below (T3.setTop (mkF m 316 #[s0, s1, s2, .val (.int i3), .val (.ref kk), .val (.int (i3 - (48 : Int32))), .val (.int (0 : Int32)), .val (.int (0 : Int32)), .val (.int (1 : Int32)), .val (.int (0 : Int32)), .val (.int (0 : Int32)), .val (.int (0 : Int32)), s12, s13] [(.int (0 : Int32))])) _
  refine XS.istore X3.here hx rfl (hb hby at_316) rfl (l' := #[s0, s1, s2, .val (.int i3), .val (.ref kk), .val (.int (i3 - (48 : Int32))), .val (.int (0 : Int32)), .val (.int (0 : Int32)), .val (.int (1 : Int32)), .val (.int (0 : Int32)), .val (.int (0 : Int32)), .val (.int (0 : Int32)), .val (.int (0 : Int32)), s13]) (os0_316 hs12) ?_
  show Steps p.tables e below (T3.setTop (mkF m 318 #[s0, s1, s2, .val (.int i3), .val (.ref kk), .val (.int (i3 - (48 : Int32))), .val (.int (0 : Int32)), .val (.int (0 : Int32)), .val (.int (1 : Int32)), .val (.int (0 : Int32)), .val (.int (0 : Int32)), .val (.int (0 : Int32)), .val (.int (0 : Int32)), s13] [])) _
  refine XS.iload X3.here hx rfl (hb hby at_318) rfl ?_
  show Steps p.tables e below (T3.setTop (mkF m 320 #[s0, s1, s2, .val (.int i3), .val (.ref kk), .val (.int (i3 - (48 : Int32))), .val (.int (0 : Int32)), .val (.int (0 : Int32)), .val (.int (1 : Int32)), .val (.int (0 : Int32)), .val (.int (0 : Int32)), .val (.int (0 : Int32)), .val (.int (0 : Int32)), s13] [(.int (0 : Int32))])) _
  refine XS.ifNo X3.here hx rfl (hb hby at_320) rfl ((if0 _ _).trans (teq (rfl : (0 : Int32) = (0 : Int32))).2) ?_
  show Steps p.tables e below (T3.setTop (mkF m 323 #[s0, s1, s2, .val (.int i3), .val (.ref kk), .val (.int (i3 - (48 : Int32))), .val (.int (0 : Int32)), .val (.int (0 : Int32)), .val (.int (1 : Int32)), .val (.int (0 : Int32)), .val (.int (0 : Int32)), .val (.int (0 : Int32)), .val (.int (0 : Int32)), s13] [])) _
  refine XS.iload X3.here hx rfl (hb hby at_323) rfl ?_
  show Steps p.tables e below (T3.setTop (mkF m 325 #[s0, s1, s2, .val (.int i3), .val (.ref kk), .val (.int (i3 - (48 : Int32))), .val (.int (0 : Int32)), .val (.int (0 : Int32)), .val (.int (1 : Int32)), .val (.int (0 : Int32)), .val (.int (0 : Int32)), .val (.int (0 : Int32)), .val (.int (0 : Int32)), s13] [(.int (0 : Int32))])) _
  refine XS.ifNo X3.here hx rfl (hb hby at_325) rfl ((if0 _ _).trans (teq (rfl : (0 : Int32) = (0 : Int32))).2) ?_
  show Steps p.tables e below (T3.setTop (mkF m 328 #[s0, s1, s2, .val (.int i3), .val (.ref kk), .val (.int (i3 - (48 : Int32))), .val (.int (0 : Int32)), .val (.int (0 : Int32)), .val (.int (1 : Int32)), .val (.int (0 : Int32)), .val (.int (0 : Int32)), .val (.int (0 : Int32)), .val (.int (0 : Int32)), s13] [])) _
  refine XS.iload X3.here hx rfl (hb hby at_328) rfl ?_
  show Steps p.tables e below (T3.setTop (mkF m 330 #[s0, s1, s2, .val (.int i3), .val (.ref kk), .val (.int (i3 - (48 : Int32))), .val (.int (0 : Int32)), .val (.int (0 : Int32)), .val (.int (1 : Int32)), .val (.int (0 : Int32)), .val (.int (0 : Int32)), .val (.int (0 : Int32)), .val (.int (0 : Int32)), s13] [(.int (1 : Int32))])) _
  refine XS.ifYes X3.here hx rfl (pc0 := 330) (pc' := 357) rfl (hb hby at_330) rfl ((if0 _ _).trans (feq hc330).2) (by decide) (by decide) ?_
  show Steps p.tables e below (T3.setTop (mkF m 357 #[s0, s1, s2, .val (.int i3), .val (.ref kk), .val (.int (i3 - (48 : Int32))), .val (.int (0 : Int32)), .val (.int (0 : Int32)), .val (.int (1 : Int32)), .val (.int (0 : Int32)), .val (.int (0 : Int32)), .val (.int (0 : Int32)), .val (.int (0 : Int32)), s13] [])) _
  refine XS.iconst X3.here hx rfl (hb hby at_357) ?_
  show Steps p.tables e below (T3.setTop (mkF m 358 #[s0, s1, s2, .val (.int i3), .val (.ref kk), .val (.int (i3 - (48 : Int32))), .val (.int (0 : Int32)), .val (.int (0 : Int32)), .val (.int (1 : Int32)), .val (.int (0 : Int32)), .val (.int (0 : Int32)), .val (.int (0 : Int32)), .val (.int (0 : Int32)), s13] [(.int (0 : Int32))])) _
  refine XS.istore X3.here hx rfl (hb hby at_358) rfl (l' := #[s0, s1, s2, .val (.int i3), .val (.ref kk), .val (.int (i3 - (48 : Int32))), .val (.int (0 : Int32)), .val (.int (0 : Int32)), .val (.int (1 : Int32)), .val (.int (0 : Int32)), .val (.int (0 : Int32)), .val (.int (0 : Int32)), .val (.int (0 : Int32)), .val (.int (0 : Int32))]) (os0_358 hs13) ?_
  show Steps p.tables e below (T3.setTop (mkF m 360 #[s0, s1, s2, .val (.int i3), .val (.ref kk), .val (.int (i3 - (48 : Int32))), .val (.int (0 : Int32)), .val (.int (0 : Int32)), .val (.int (1 : Int32)), .val (.int (0 : Int32)), .val (.int (0 : Int32)), .val (.int (0 : Int32)), .val (.int (0 : Int32)), .val (.int (0 : Int32))] [])) _
  refine XS.aload X3.here hx rfl (hb hby at_360) rfl rfl ?_
  show Steps p.tables e below (T3.setTop (mkF m 362 #[s0, s1, s2, .val (.int i3), .val (.ref kk), .val (.int (i3 - (48 : Int32))), .val (.int (0 : Int32)), .val (.int (0 : Int32)), .val (.int (1 : Int32)), .val (.int (0 : Int32)), .val (.int (0 : Int32)), .val (.int (0 : Int32)), .val (.int (0 : Int32)), .val (.int (0 : Int32))] [(.ref kk)])) _
  refine st5 _ ?_
  show Steps p.tables e below (T5.setTop (mkF m 365 #[s0, s1, s2, .val (.int i3), .val (.ref kk), .val (.int (i3 - (48 : Int32))), .val (.int (0 : Int32)), .val (.int (0 : Int32)), .val (.int (1 : Int32)), .val (.int (0 : Int32)), .val (.int (0 : Int32)), .val (.int (0 : Int32)), .val (.int (0 : Int32)), .val (.int (0 : Int32))] [(.ref w4), (.ref kk)])) _
  refine Jvm.RoadKit.acmp (g := (mkF m 365 #[s0, s1, s2, .val (.int i3), .val (.ref kk), .val (.int (i3 - (48 : Int32))), .val (.int (0 : Int32)), .val (.int (0 : Int32)), .val (.int (1 : Int32)), .val (.int (0 : Int32)), .val (.int (0 : Int32)), .val (.int (0 : Int32)), .val (.int (0 : Int32)), .val (.int (0 : Int32))] [(.ref w4), (.ref kk)])) X5 hx rfl rfl rfl (pc0 := 365) (pc' := 372) (same := false) rfl (hb hby at_365) rfl (decide_eq_false fun q => ha365 (Value.ref.inj q)) (by decide) (by decide) ?_
  show Steps p.tables e below (T5.setTop (mkF m 372 #[s0, s1, s2, .val (.int i3), .val (.ref kk), .val (.int (i3 - (48 : Int32))), .val (.int (0 : Int32)), .val (.int (0 : Int32)), .val (.int (1 : Int32)), .val (.int (0 : Int32)), .val (.int (0 : Int32)), .val (.int (0 : Int32)), .val (.int (0 : Int32)), .val (.int (0 : Int32))] [])) _
  refine XS.iconst X5.here hx rfl (hb hby at_372) ?_
  show Steps p.tables e below (T5.setTop (mkF m 373 #[s0, s1, s2, .val (.int i3), .val (.ref kk), .val (.int (i3 - (48 : Int32))), .val (.int (0 : Int32)), .val (.int (0 : Int32)), .val (.int (1 : Int32)), .val (.int (0 : Int32)), .val (.int (0 : Int32)), .val (.int (0 : Int32)), .val (.int (0 : Int32)), .val (.int (0 : Int32))] [(.int (0 : Int32))])) _
  refine XS.iload X5.here hx rfl (hb hby at_373) rfl ?_
  show Steps p.tables e below (T5.setTop (mkF m 375 #[s0, s1, s2, .val (.int i3), .val (.ref kk), .val (.int (i3 - (48 : Int32))), .val (.int (0 : Int32)), .val (.int (0 : Int32)), .val (.int (1 : Int32)), .val (.int (0 : Int32)), .val (.int (0 : Int32)), .val (.int (0 : Int32)), .val (.int (0 : Int32)), .val (.int (0 : Int32))] [(.int (0 : Int32)), (.int (0 : Int32))])) _
  refine XS.icmpNo X5.here hx rfl (hb hby at_375) rfl (teq (rfl : (0 : Int32) = (0 : Int32))).2 ?_
  show Steps p.tables e below (T5.setTop (mkF m 378 #[s0, s1, s2, .val (.int i3), .val (.ref kk), .val (.int (i3 - (48 : Int32))), .val (.int (0 : Int32)), .val (.int (0 : Int32)), .val (.int (1 : Int32)), .val (.int (0 : Int32)), .val (.int (0 : Int32)), .val (.int (0 : Int32)), .val (.int (0 : Int32)), .val (.int (0 : Int32))] [])) _
  refine XS.aload X5.here hx rfl (hb hby at_378) rfl rfl ?_
  show Steps p.tables e below (T5.setTop (mkF m 380 #[s0, s1, s2, .val (.int i3), .val (.ref kk), .val (.int (i3 - (48 : Int32))), .val (.int (0 : Int32)), .val (.int (0 : Int32)), .val (.int (1 : Int32)), .val (.int (0 : Int32)), .val (.int (0 : Int32)), .val (.int (0 : Int32)), .val (.int (0 : Int32)), .val (.int (0 : Int32))] [(.ref kk)])) _
  refine st7 _ ?_
  show Steps p.tables e below (T7.setTop (mkF m 383 #[s0, s1, s2, .val (.int i3), .val (.ref kk), .val (.int (i3 - (48 : Int32))), .val (.int (0 : Int32)), .val (.int (0 : Int32)), .val (.int (1 : Int32)), .val (.int (0 : Int32)), .val (.int (0 : Int32)), .val (.int (0 : Int32)), .val (.int (0 : Int32)), .val (.int (0 : Int32))] [(.ref w6), (.ref kk)])) _
  refine Jvm.RoadKit.acmp (g := (mkF m 383 #[s0, s1, s2, .val (.int i3), .val (.ref kk), .val (.int (i3 - (48 : Int32))), .val (.int (0 : Int32)), .val (.int (0 : Int32)), .val (.int (1 : Int32)), .val (.int (0 : Int32)), .val (.int (0 : Int32)), .val (.int (0 : Int32)), .val (.int (0 : Int32)), .val (.int (0 : Int32))] [(.ref w6), (.ref kk)])) X7 hx rfl rfl rfl (pc0 := 383) (pc' := 390) (same := false) rfl (hb hby at_383) rfl (decide_eq_false fun q => ha383 (Value.ref.inj q)) (by decide) (by decide) ?_
  show Steps p.tables e below (T7.setTop (mkF m 390 #[s0, s1, s2, .val (.int i3), .val (.ref kk), .val (.int (i3 - (48 : Int32))), .val (.int (0 : Int32)), .val (.int (0 : Int32)), .val (.int (1 : Int32)), .val (.int (0 : Int32)), .val (.int (0 : Int32)), .val (.int (0 : Int32)), .val (.int (0 : Int32)), .val (.int (0 : Int32))] [])) _
  refine XS.iconst X7.here hx rfl (hb hby at_390) ?_
  show Steps p.tables e below (T7.setTop (mkF m 391 #[s0, s1, s2, .val (.int i3), .val (.ref kk), .val (.int (i3 - (48 : Int32))), .val (.int (0 : Int32)), .val (.int (0 : Int32)), .val (.int (1 : Int32)), .val (.int (0 : Int32)), .val (.int (0 : Int32)), .val (.int (0 : Int32)), .val (.int (0 : Int32)), .val (.int (0 : Int32))] [(.int (0 : Int32))])) _
  refine XS.iload X7.here hx rfl (hb hby at_391) rfl ?_
  show Steps p.tables e below (T7.setTop (mkF m 393 #[s0, s1, s2, .val (.int i3), .val (.ref kk), .val (.int (i3 - (48 : Int32))), .val (.int (0 : Int32)), .val (.int (0 : Int32)), .val (.int (1 : Int32)), .val (.int (0 : Int32)), .val (.int (0 : Int32)), .val (.int (0 : Int32)), .val (.int (0 : Int32)), .val (.int (0 : Int32))] [(.int (0 : Int32)), (.int (0 : Int32))])) _
  refine XS.icmpNo X7.here hx rfl (hb hby at_393) rfl (teq (rfl : (0 : Int32) = (0 : Int32))).2 ?_
  show Steps p.tables e below (T7.setTop (mkF m 396 #[s0, s1, s2, .val (.int i3), .val (.ref kk), .val (.int (i3 - (48 : Int32))), .val (.int (0 : Int32)), .val (.int (0 : Int32)), .val (.int (1 : Int32)), .val (.int (0 : Int32)), .val (.int (0 : Int32)), .val (.int (0 : Int32)), .val (.int (0 : Int32)), .val (.int (0 : Int32))] [])) _
  refine XS.aload X7.here hx rfl (hb hby at_396) rfl rfl ?_
  show Steps p.tables e below (T7.setTop (mkF m 398 #[s0, s1, s2, .val (.int i3), .val (.ref kk), .val (.int (i3 - (48 : Int32))), .val (.int (0 : Int32)), .val (.int (0 : Int32)), .val (.int (1 : Int32)), .val (.int (0 : Int32)), .val (.int (0 : Int32)), .val (.int (0 : Int32)), .val (.int (0 : Int32)), .val (.int (0 : Int32))] [(.ref kk)])) _
  refine st9 _ ?_
  show Steps p.tables e below (T9.setTop (mkF m 401 #[s0, s1, s2, .val (.int i3), .val (.ref kk), .val (.int (i3 - (48 : Int32))), .val (.int (0 : Int32)), .val (.int (0 : Int32)), .val (.int (1 : Int32)), .val (.int (0 : Int32)), .val (.int (0 : Int32)), .val (.int (0 : Int32)), .val (.int (0 : Int32)), .val (.int (0 : Int32))] [(.ref w8), (.ref kk)])) _
  refine Jvm.RoadKit.acmp (g := (mkF m 401 #[s0, s1, s2, .val (.int i3), .val (.ref kk), .val (.int (i3 - (48 : Int32))), .val (.int (0 : Int32)), .val (.int (0 : Int32)), .val (.int (1 : Int32)), .val (.int (0 : Int32)), .val (.int (0 : Int32)), .val (.int (0 : Int32)), .val (.int (0 : Int32)), .val (.int (0 : Int32))] [(.ref w8), (.ref kk)])) X9 hx rfl rfl rfl (pc0 := 401) (pc' := 404) (same := true) rfl (hb hby at_401) rfl (decide_eq_true (congrArg Value.ref ha401)) (by decide) (by decide) ?_
  show Steps p.tables e below (T9.setTop (mkF m 404 #[s0, s1, s2, .val (.int i3), .val (.ref kk), .val (.int (i3 - (48 : Int32))), .val (.int (0 : Int32)), .val (.int (0 : Int32)), .val (.int (1 : Int32)), .val (.int (0 : Int32)), .val (.int (0 : Int32)), .val (.int (0 : Int32)), .val (.int (0 : Int32)), .val (.int (0 : Int32))] [])) _
  refine XS.iconst X9.here hx rfl (hb hby at_404) ?_
  show Steps p.tables e below (T9.setTop (mkF m 405 #[s0, s1, s2, .val (.int i3), .val (.ref kk), .val (.int (i3 - (48 : Int32))), .val (.int (0 : Int32)), .val (.int (0 : Int32)), .val (.int (1 : Int32)), .val (.int (0 : Int32)), .val (.int (0 : Int32)), .val (.int (0 : Int32)), .val (.int (0 : Int32)), .val (.int (0 : Int32))] [(.int (1 : Int32))])) _
  refine XS.goto X9.here hx rfl (pc0 := 405) (pc' := 409) rfl (hb hby at_405) (by decide) (by decide) ?_
  show Steps p.tables e below (T9.setTop (mkF m 409 #[s0, s1, s2, .val (.int i3), .val (.ref kk), .val (.int (i3 - (48 : Int32))), .val (.int (0 : Int32)), .val (.int (0 : Int32)), .val (.int (1 : Int32)), .val (.int (0 : Int32)), .val (.int (0 : Int32)), .val (.int (0 : Int32)), .val (.int (0 : Int32)), .val (.int (0 : Int32))] [(.int (1 : Int32))])) _
  refine XS.iload X9.here hx rfl (hb hby at_409) rfl ?_
  show Steps p.tables e below (T9.setTop (mkF m 411 #[s0, s1, s2, .val (.int i3), .val (.ref kk), .val (.int (i3 - (48 : Int32))), .val (.int (0 : Int32)), .val (.int (0 : Int32)), .val (.int (1 : Int32)), .val (.int (0 : Int32)), .val (.int (0 : Int32)), .val (.int (0 : Int32)), .val (.int (0 : Int32)), .val (.int (0 : Int32))] [(.int (1 : Int32)), (.int (1 : Int32))])) _
  refine XS.icmpNo X9.here hx rfl (hb hby at_411) rfl (teq (rfl : (1 : Int32) = (1 : Int32))).2 ?_
  show Steps p.tables e below (T9.setTop (mkF m 414 #[s0, s1, s2, .val (.int i3), .val (.ref kk), .val (.int (i3 - (48 : Int32))), .val (.int (0 : Int32)), .val (.int (0 : Int32)), .val (.int (1 : Int32)), .val (.int (0 : Int32)), .val (.int (0 : Int32)), .val (.int (0 : Int32)), .val (.int (0 : Int32)), .val (.int (0 : Int32))] [])) _
  refine XS.aload X9.here hx rfl (hb hby at_414) rfl rfl ?_
  show Steps p.tables e below (T9.setTop (mkF m 416 #[s0, s1, s2, .val (.int i3), .val (.ref kk), .val (.int (i3 - (48 : Int32))), .val (.int (0 : Int32)), .val (.int (0 : Int32)), .val (.int (1 : Int32)), .val (.int (0 : Int32)), .val (.int (0 : Int32)), .val (.int (0 : Int32)), .val (.int (0 : Int32)), .val (.int (0 : Int32))] [(.ref kk)])) _
  refine st11 _ ?_
  show Steps p.tables e below (T11.setTop (mkF m 419 #[s0, s1, s2, .val (.int i3), .val (.ref kk), .val (.int (i3 - (48 : Int32))), .val (.int (0 : Int32)), .val (.int (0 : Int32)), .val (.int (1 : Int32)), .val (.int (0 : Int32)), .val (.int (0 : Int32)), .val (.int (0 : Int32)), .val (.int (0 : Int32)), .val (.int (0 : Int32))] [(.ref w10), (.ref kk)])) _
  refine Jvm.RoadKit.acmp (g := (mkF m 419 #[s0, s1, s2, .val (.int i3), .val (.ref kk), .val (.int (i3 - (48 : Int32))), .val (.int (0 : Int32)), .val (.int (0 : Int32)), .val (.int (1 : Int32)), .val (.int (0 : Int32)), .val (.int (0 : Int32)), .val (.int (0 : Int32)), .val (.int (0 : Int32)), .val (.int (0 : Int32))] [(.ref w10), (.ref kk)])) X11 hx rfl rfl rfl (pc0 := 419) (pc' := 426) (same := false) rfl (hb hby at_419) rfl (decide_eq_false fun q => ha419 (Value.ref.inj q)) (by decide) (by decide) ?_
  show Steps p.tables e below (T11.setTop (mkF m 426 #[s0, s1, s2, .val (.int i3), .val (.ref kk), .val (.int (i3 - (48 : Int32))), .val (.int (0 : Int32)), .val (.int (0 : Int32)), .val (.int (1 : Int32)), .val (.int (0 : Int32)), .val (.int (0 : Int32)), .val (.int (0 : Int32)), .val (.int (0 : Int32)), .val (.int (0 : Int32))] [])) _
  refine XS.iconst X11.here hx rfl (hb hby at_426) ?_
  show Steps p.tables e below (T11.setTop (mkF m 427 #[s0, s1, s2, .val (.int i3), .val (.ref kk), .val (.int (i3 - (48 : Int32))), .val (.int (0 : Int32)), .val (.int (0 : Int32)), .val (.int (1 : Int32)), .val (.int (0 : Int32)), .val (.int (0 : Int32)), .val (.int (0 : Int32)), .val (.int (0 : Int32)), .val (.int (0 : Int32))] [(.int (0 : Int32))])) _
  refine XS.iload X11.here hx rfl (hb hby at_427) rfl ?_
  show Steps p.tables e below (T11.setTop (mkF m 429 #[s0, s1, s2, .val (.int i3), .val (.ref kk), .val (.int (i3 - (48 : Int32))), .val (.int (0 : Int32)), .val (.int (0 : Int32)), .val (.int (1 : Int32)), .val (.int (0 : Int32)), .val (.int (0 : Int32)), .val (.int (0 : Int32)), .val (.int (0 : Int32)), .val (.int (0 : Int32))] [(.int (0 : Int32)), (.int (0 : Int32))])) _
  refine XS.icmpNo X11.here hx rfl (hb hby at_429) rfl (teq (rfl : (0 : Int32) = (0 : Int32))).2 ?_
  show Steps p.tables e below (T11.setTop (mkF m 432 #[s0, s1, s2, .val (.int i3), .val (.ref kk), .val (.int (i3 - (48 : Int32))), .val (.int (0 : Int32)), .val (.int (0 : Int32)), .val (.int (1 : Int32)), .val (.int (0 : Int32)), .val (.int (0 : Int32)), .val (.int (0 : Int32)), .val (.int (0 : Int32)), .val (.int (0 : Int32))] [])) _
  refine XS.aload X11.here hx rfl (hb hby at_432) rfl rfl ?_
  show Steps p.tables e below (T11.setTop (mkF m 434 #[s0, s1, s2, .val (.int i3), .val (.ref kk), .val (.int (i3 - (48 : Int32))), .val (.int (0 : Int32)), .val (.int (0 : Int32)), .val (.int (1 : Int32)), .val (.int (0 : Int32)), .val (.int (0 : Int32)), .val (.int (0 : Int32)), .val (.int (0 : Int32)), .val (.int (0 : Int32))] [(.ref kk)])) _
  refine st13 _ ?_
  show Steps p.tables e below (T13.setTop (mkF m 437 #[s0, s1, s2, .val (.int i3), .val (.ref kk), .val (.int (i3 - (48 : Int32))), .val (.int (0 : Int32)), .val (.int (0 : Int32)), .val (.int (1 : Int32)), .val (.int (0 : Int32)), .val (.int (0 : Int32)), .val (.int (0 : Int32)), .val (.int (0 : Int32)), .val (.int (0 : Int32))] [(.ref w12), (.ref kk)])) _
  refine Jvm.RoadKit.acmp (g := (mkF m 437 #[s0, s1, s2, .val (.int i3), .val (.ref kk), .val (.int (i3 - (48 : Int32))), .val (.int (0 : Int32)), .val (.int (0 : Int32)), .val (.int (1 : Int32)), .val (.int (0 : Int32)), .val (.int (0 : Int32)), .val (.int (0 : Int32)), .val (.int (0 : Int32)), .val (.int (0 : Int32))] [(.ref w12), (.ref kk)])) X13 hx rfl rfl rfl (pc0 := 437) (pc' := 444) (same := false) rfl (hb hby at_437) rfl (decide_eq_false fun q => ha437 (Value.ref.inj q)) (by decide) (by decide) ?_
  show Steps p.tables e below (T13.setTop (mkF m 444 #[s0, s1, s2, .val (.int i3), .val (.ref kk), .val (.int (i3 - (48 : Int32))), .val (.int (0 : Int32)), .val (.int (0 : Int32)), .val (.int (1 : Int32)), .val (.int (0 : Int32)), .val (.int (0 : Int32)), .val (.int (0 : Int32)), .val (.int (0 : Int32)), .val (.int (0 : Int32))] [])) _
  refine XS.iconst X13.here hx rfl (hb hby at_444) ?_
  show Steps p.tables e below (T13.setTop (mkF m 445 #[s0, s1, s2, .val (.int i3), .val (.ref kk), .val (.int (i3 - (48 : Int32))), .val (.int (0 : Int32)), .val (.int (0 : Int32)), .val (.int (1 : Int32)), .val (.int (0 : Int32)), .val (.int (0 : Int32)), .val (.int (0 : Int32)), .val (.int (0 : Int32)), .val (.int (0 : Int32))] [(.int (0 : Int32))])) _
  refine XS.iload X13.here hx rfl (hb hby at_445) rfl ?_
  show Steps p.tables e below (T13.setTop (mkF m 447 #[s0, s1, s2, .val (.int i3), .val (.ref kk), .val (.int (i3 - (48 : Int32))), .val (.int (0 : Int32)), .val (.int (0 : Int32)), .val (.int (1 : Int32)), .val (.int (0 : Int32)), .val (.int (0 : Int32)), .val (.int (0 : Int32)), .val (.int (0 : Int32)), .val (.int (0 : Int32))] [(.int (0 : Int32)), (.int (0 : Int32))])) _
  refine XS.icmpNo X13.here hx rfl (hb hby at_447) rfl (teq (rfl : (0 : Int32) = (0 : Int32))).2 ?_
  show Steps p.tables e below (T13.setTop (mkF m 450 #[s0, s1, s2, .val (.int i3), .val (.ref kk), .val (.int (i3 - (48 : Int32))), .val (.int (0 : Int32)), .val (.int (0 : Int32)), .val (.int (1 : Int32)), .val (.int (0 : Int32)), .val (.int (0 : Int32)), .val (.int (0 : Int32)), .val (.int (0 : Int32)), .val (.int (0 : Int32))] [])) _
  refine XS.aload X13.here hx rfl (hb hby at_450) rfl rfl ?_
  show Steps p.tables e below (T13.setTop (mkF m 452 #[s0, s1, s2, .val (.int i3), .val (.ref kk), .val (.int (i3 - (48 : Int32))), .val (.int (0 : Int32)), .val (.int (0 : Int32)), .val (.int (1 : Int32)), .val (.int (0 : Int32)), .val (.int (0 : Int32)), .val (.int (0 : Int32)), .val (.int (0 : Int32)), .val (.int (0 : Int32))] [(.ref kk)])) _
  refine st15 _ ?_
  show Steps p.tables e below (T15.setTop (mkF m 455 #[s0, s1, s2, .val (.int i3), .val (.ref kk), .val (.int (i3 - (48 : Int32))), .val (.int (0 : Int32)), .val (.int (0 : Int32)), .val (.int (1 : Int32)), .val (.int (0 : Int32)), .val (.int (0 : Int32)), .val (.int (0 : Int32)), .val (.int (0 : Int32)), .val (.int (0 : Int32))] [(.ref w14), (.ref kk)])) _
  refine Jvm.RoadKit.acmp (g := (mkF m 455 #[s0, s1, s2, .val (.int i3), .val (.ref kk), .val (.int (i3 - (48 : Int32))), .val (.int (0 : Int32)), .val (.int (0 : Int32)), .val (.int (1 : Int32)), .val (.int (0 : Int32)), .val (.int (0 : Int32)), .val (.int (0 : Int32)), .val (.int (0 : Int32)), .val (.int (0 : Int32))] [(.ref w14), (.ref kk)])) X15 hx rfl rfl rfl (pc0 := 455) (pc' := 462) (same := false) rfl (hb hby at_455) rfl (decide_eq_false fun q => ha455 (Value.ref.inj q)) (by decide) (by decide) ?_
  show Steps p.tables e below (T15.setTop (mkF m 462 #[s0, s1, s2, .val (.int i3), .val (.ref kk), .val (.int (i3 - (48 : Int32))), .val (.int (0 : Int32)), .val (.int (0 : Int32)), .val (.int (1 : Int32)), .val (.int (0 : Int32)), .val (.int (0 : Int32)), .val (.int (0 : Int32)), .val (.int (0 : Int32)), .val (.int (0 : Int32))] [])) _
  refine XS.iconst X15.here hx rfl (hb hby at_462) ?_
  show Steps p.tables e below (T15.setTop (mkF m 463 #[s0, s1, s2, .val (.int i3), .val (.ref kk), .val (.int (i3 - (48 : Int32))), .val (.int (0 : Int32)), .val (.int (0 : Int32)), .val (.int (1 : Int32)), .val (.int (0 : Int32)), .val (.int (0 : Int32)), .val (.int (0 : Int32)), .val (.int (0 : Int32)), .val (.int (0 : Int32))] [(.int (0 : Int32))])) _
  refine XS.iload X15.here hx rfl (hb hby at_463) rfl ?_
  show Steps p.tables e below (T15.setTop (mkF m 465 #[s0, s1, s2, .val (.int i3), .val (.ref kk), .val (.int (i3 - (48 : Int32))), .val (.int (0 : Int32)), .val (.int (0 : Int32)), .val (.int (1 : Int32)), .val (.int (0 : Int32)), .val (.int (0 : Int32)), .val (.int (0 : Int32)), .val (.int (0 : Int32)), .val (.int (0 : Int32))] [(.int (0 : Int32)), (.int (0 : Int32))])) _
  refine XS.icmpNo X15.here hx rfl (hb hby at_465) rfl (teq (rfl : (0 : Int32) = (0 : Int32))).2 ?_
  show Steps p.tables e below (T15.setTop (mkF m 468 #[s0, s1, s2, .val (.int i3), .val (.ref kk), .val (.int (i3 - (48 : Int32))), .val (.int (0 : Int32)), .val (.int (0 : Int32)), .val (.int (1 : Int32)), .val (.int (0 : Int32)), .val (.int (0 : Int32)), .val (.int (0 : Int32)), .val (.int (0 : Int32)), .val (.int (0 : Int32))] [])) _
  refine XS.aload X15.here hx rfl (hb hby at_468) rfl rfl ?_
  show Steps p.tables e below (T15.setTop (mkF m 470 #[s0, s1, s2, .val (.int i3), .val (.ref kk), .val (.int (i3 - (48 : Int32))), .val (.int (0 : Int32)), .val (.int (0 : Int32)), .val (.int (1 : Int32)), .val (.int (0 : Int32)), .val (.int (0 : Int32)), .val (.int (0 : Int32)), .val (.int (0 : Int32)), .val (.int (0 : Int32))] [(.ref kk)])) _
  refine st17 _ ?_
  show Steps p.tables e below (T17.setTop (mkF m 473 #[s0, s1, s2, .val (.int i3), .val (.ref kk), .val (.int (i3 - (48 : Int32))), .val (.int (0 : Int32)), .val (.int (0 : Int32)), .val (.int (1 : Int32)), .val (.int (0 : Int32)), .val (.int (0 : Int32)), .val (.int (0 : Int32)), .val (.int (0 : Int32)), .val (.int (0 : Int32))] [(.ref w16), (.ref kk)])) _
  refine Jvm.RoadKit.acmp (g := (mkF m 473 #[s0, s1, s2, .val (.int i3), .val (.ref kk), .val (.int (i3 - (48 : Int32))), .val (.int (0 : Int32)), .val (.int (0 : Int32)), .val (.int (1 : Int32)), .val (.int (0 : Int32)), .val (.int (0 : Int32)), .val (.int (0 : Int32)), .val (.int (0 : Int32)), .val (.int (0 : Int32))] [(.ref w16), (.ref kk)])) X17 hx rfl rfl rfl (pc0 := 473) (pc' := 480) (same := false) rfl (hb hby at_473) rfl (decide_eq_false fun q => ha473 (Value.ref.inj q)) (by decide) (by decide) ?_
  show Steps p.tables e below (T17.setTop (mkF m 480 #[s0, s1, s2, .val (.int i3), .val (.ref kk), .val (.int (i3 - (48 : Int32))), .val (.int (0 : Int32)), .val (.int (0 : Int32)), .val (.int (1 : Int32)), .val (.int (0 : Int32)), .val (.int (0 : Int32)), .val (.int (0 : Int32)), .val (.int (0 : Int32)), .val (.int (0 : Int32))] [])) _
  refine XS.iconst X17.here hx rfl (hb hby at_480) ?_
  show Steps p.tables e below (T17.setTop (mkF m 481 #[s0, s1, s2, .val (.int i3), .val (.ref kk), .val (.int (i3 - (48 : Int32))), .val (.int (0 : Int32)), .val (.int (0 : Int32)), .val (.int (1 : Int32)), .val (.int (0 : Int32)), .val (.int (0 : Int32)), .val (.int (0 : Int32)), .val (.int (0 : Int32)), .val (.int (0 : Int32))] [(.int (0 : Int32))])) _
  refine XS.iload X17.here hx rfl (hb hby at_481) rfl ?_
  show Steps p.tables e below (T17.setTop (mkF m 483 #[s0, s1, s2, .val (.int i3), .val (.ref kk), .val (.int (i3 - (48 : Int32))), .val (.int (0 : Int32)), .val (.int (0 : Int32)), .val (.int (1 : Int32)), .val (.int (0 : Int32)), .val (.int (0 : Int32)), .val (.int (0 : Int32)), .val (.int (0 : Int32)), .val (.int (0 : Int32))] [(.int (0 : Int32)), (.int (0 : Int32))])) _
  refine XS.icmpNo X17.here hx rfl (hb hby at_483) rfl (teq (rfl : (0 : Int32) = (0 : Int32))).2 ?_
  show Steps p.tables e below (T17.setTop (mkF m 486 #[s0, s1, s2, .val (.int i3), .val (.ref kk), .val (.int (i3 - (48 : Int32))), .val (.int (0 : Int32)), .val (.int (0 : Int32)), .val (.int (1 : Int32)), .val (.int (0 : Int32)), .val (.int (0 : Int32)), .val (.int (0 : Int32)), .val (.int (0 : Int32)), .val (.int (0 : Int32))] [])) _
  refine XS.aload X17.here hx rfl (hb hby at_486) rfl rfl ?_
  show Steps p.tables e below (T17.setTop (mkF m 488 #[s0, s1, s2, .val (.int i3), .val (.ref kk), .val (.int (i3 - (48 : Int32))), .val (.int (0 : Int32)), .val (.int (0 : Int32)), .val (.int (1 : Int32)), .val (.int (0 : Int32)), .val (.int (0 : Int32)), .val (.int (0 : Int32)), .val (.int (0 : Int32)), .val (.int (0 : Int32))] [(.ref kk)])) _
  refine XS.ifnonnullYes X17.here hx rfl (pc0 := 488) (pc' := 495) rfl (hb hby at_488) rfl (by decide) (by decide) ?_
  show Steps p.tables e below (T17.setTop (mkF m 495 #[s0, s1, s2, .val (.int i3), .val (.ref kk), .val (.int (i3 - (48 : Int32))), .val (.int (0 : Int32)), .val (.int (0 : Int32)), .val (.int (1 : Int32)), .val (.int (0 : Int32)), .val (.int (0 : Int32)), .val (.int (0 : Int32)), .val (.int (0 : Int32)), .val (.int (0 : Int32))] [])) _
  refine XS.iconst X17.here hx rfl (hb hby at_495) ?_
  show Steps p.tables e below (T17.setTop (mkF m 496 #[s0, s1, s2, .val (.int i3), .val (.ref kk), .val (.int (i3 - (48 : Int32))), .val (.int (0 : Int32)), .val (.int (0 : Int32)), .val (.int (1 : Int32)), .val (.int (0 : Int32)), .val (.int (0 : Int32)), .val (.int (0 : Int32)), .val (.int (0 : Int32)), .val (.int (0 : Int32))] [(.int (0 : Int32))])) _
  refine XS.iload X17.here hx rfl (hb hby at_496) rfl ?_
  show Steps p.tables e below (T17.setTop (mkF m 498 #[s0, s1, s2, .val (.int i3), .val (.ref kk), .val (.int (i3 - (48 : Int32))), .val (.int (0 : Int32)), .val (.int (0 : Int32)), .val (.int (1 : Int32)), .val (.int (0 : Int32)), .val (.int (0 : Int32)), .val (.int (0 : Int32)), .val (.int (0 : Int32)), .val (.int (0 : Int32))] [(.int (0 : Int32)), (.int (0 : Int32))])) _
  refine XS.icmpNo X17.here hx rfl (hb hby at_498) rfl (teq (rfl : (0 : Int32) = (0 : Int32))).2 ?_
  show Steps p.tables e below (T17.setTop (mkF m 501 #[s0, s1, s2, .val (.int i3), .val (.ref kk), .val (.int (i3 - (48 : Int32))), .val (.int (0 : Int32)), .val (.int (0 : Int32)), .val (.int (1 : Int32)), .val (.int (0 : Int32)), .val (.int (0 : Int32)), .val (.int (0 : Int32)), .val (.int (0 : Int32)), .val (.int (0 : Int32))] [])) _
  refine XS.iconst X17.here hx rfl (hb hby at_501) ?_
  show Steps p.tables e below (T17.setTop (mkF m 502 #[s0, s1, s2, .val (.int i3), .val (.ref kk), .val (.int (i3 - (48 : Int32))), .val (.int (0 : Int32)), .val (.int (0 : Int32)), .val (.int (1 : Int32)), .val (.int (0 : Int32)), .val (.int (0 : Int32)), .val (.int (0 : Int32)), .val (.int (0 : Int32)), .val (.int (0 : Int32))] [(.int (1 : Int32))])) _
  refine XS.goto X17.here hx rfl (pc0 := 502) (pc' := 506) rfl (hb hby at_502) (by decide) (by decide) ?_
  exact kt
set_option maxRecDepth 65536 in
set_option maxHeartbeats 40000000 in
theorem own_segC_neg {p : Program} {l : Launch} {e : Env} {s : State} {m : MethodId} {args : Array Value} {below : List Frame} {meth : Method} {c : Code} {T0 : State} {locs : List Loc} {Z : State} {a0 : Array Value} {h0 : Heap} {n0 : Nat} (s0 : Slot) (s1 : Slot) (s2 : Slot) (i3 : Int32) (s4 : Slot) (s5 : Slot) (s6 : Slot) (s7 : Slot) (s8 : Slot) (s9 : Slot) (s10 : Slot) (s11 : Slot) (s12 : Slot) (s13 : Slot) (w4 : Addr) (w6 : Addr) (w8 : Addr) (w10 : Addr) (w12 : Addr) (w14 : Addr) (w16 : Addr)
    (kk : Addr) (X0 : Stand p l e room_1 s m args below meth c T0 locs 1 30) (hx : p.tables.exec = Jvm.exec) (hZ : Z.Warmed39 s.vm) (hw : ∀ d ∈ tables_1, d.before a0 Z = true) (hby : c.code = code) (hml : c.maxLocals = 14) (hown : s.vm.findClass "com/example/tenkyo/tenkyo/exchange/KindOfPinLaw" = some m.cls) (e0 : T0.heap = h0) (N0 : Fr n0 locs) (hof : MetFree l (⟨"com/example/tenkyo/tenkyo/exchange/Json$Kind", "of", "(C)Lcom/example/tenkyo/tenkyo/exchange/Json$Kind;"⟩ : MethodName) (head1 (Jvm.Cond.code (⟨"com/example/tenkyo/tenkyo/exchange/Json$Kind", "of", "(C)Lcom/example/tenkyo/tenkyo/exchange/Json$Kind;"⟩ : MethodName) prog_14_method_6_code 2 (some (.object "com/example/tenkyo/tenkyo/exchange/Json$Kind")) :: []) ({ frames := 0, cells := 0, slots := 0, locals := 0 } : Room)) (fun a U => a = #[(.int i3)] ∧ Z.Warmed39 U.vm ∧ U.heap = h0) (fun _ _ _ _ _ => True) (fun _ U o U' => ∃ v L, o = .returned v ∧ Qk (.ref kk) h0 n0 v U'.heap L ∧ FrameEnd U o U' L ({ frames := 0, cells := 0, slots := 0, locals := 0 } : Room).cells ({ frames := 0, cells := 0, slots := 0, locals := 0 } : Room).slots)) (hs4 : One s4) (hs5 : One s5) (hs6 : One s6) (hs7 : One s7) (hs8 : One s8) (hs9 : One s9) (hs10 : One s10) (hs11 : One s11) (hs12 : One s12) (hs13 : One s13) (S_OBJECT : Sta Z h0 "com/example/tenkyo/tenkyo/exchange/Json$Kind" "OBJECT" "Lcom/example/tenkyo/tenkyo/exchange/Json$Kind;" (.ref w4)) (S_ARRAY : Sta Z h0 "com/example/tenkyo/tenkyo/exchange/Json$Kind" "ARRAY" "Lcom/example/tenkyo/tenkyo/exchange/Json$Kind;" (.ref w6)) (S_STRING : Sta Z h0 "com/example/tenkyo/tenkyo/exchange/Json$Kind" "STRING" "Lcom/example/tenkyo/tenkyo/exchange/Json$Kind;" (.ref w8)) (S_NUMBER : Sta Z h0 "com/example/tenkyo/tenkyo/exchange/Json$Kind" "NUMBER" "Lcom/example/tenkyo/tenkyo/exchange/Json$Kind;" (.ref w10)) (S_TRUE : Sta Z h0 "com/example/tenkyo/tenkyo/exchange/Json$Kind" "TRUE" "Lcom/example/tenkyo/tenkyo/exchange/Json$Kind;" (.ref w12)) (S_FALSE : Sta Z h0 "com/example/tenkyo/tenkyo/exchange/Json$Kind" "FALSE" "Lcom/example/tenkyo/tenkyo/exchange/Json$Kind;" (.ref w14)) (S_NULL : Sta Z h0 "com/example/tenkyo/tenkyo/exchange/Json$Kind" "NULL" "Lcom/example/tenkyo/tenkyo/exchange/Json$Kind;" (.ref w16)) (hc218 : ¬ (i3 = (123 : Int32))) (hc231 : ¬ (i3 = (91 : Int32))) (hc244 : ¬ (i3 = (34 : Int32))) (hc257 : i3 = (45 : Int32)) (hc282 : ¬ (i3 = (116 : Int32))) (hc295 : ¬ (i3 = (102 : Int32))) (hc308 : ¬ (i3 = (110 : Int32))) (hc335 : ¬ ((1 : Int32) = (0 : Int32))) (ha365 : ¬ (kk = w4)) (ha383 : ¬ (kk = w6)) (ha401 : ¬ (kk = w8)) (ha419 : kk = w10) (ha437 : ¬ (kk = w12)) (ha455 : ¬ (kk = w14)) (ha473 : ¬ (kk = w16)) :
    ∃ (T' : State) (L' : List Loc) (Ls : Array Slot), Stand p l e room_1 s m args below meth c T' L' 1 30 ∧ Fr n0 L' ∧
      ∀ target, Steps p.tables e below (T'.setTop (mkF m 506 Ls [(.int (1 : Int32))])) target → Steps p.tables e below (T0.setTop (mkF m 203 #[s0, s1, s2, .val (.int i3), s4, s5, s6, s7, s8, s9, s10, s11, s12, s13] [])) target := by
  obtain ⟨_, _, ⟨T3, L3, k3, n3⟩, -, X3, ⟨Lc3, hQ3, l3, y3, z3⟩, st3⟩ := Jvm.LawKit.callS X0 hx (y := (⟨"com/example/tenkyo/tenkyo/exchange/Json$Kind", "of", "(C)Lcom/example/tenkyo/tenkyo/exchange/Json$Kind;"⟩ : MethodName)) hown (mvT hZ (hw _ (List.mem_of_getElem? (i := 3) rfl))) (mvT hZ (hw _ (List.mem_of_getElem? (i := 4) rfl))) (mvT hZ (hw _ (List.mem_of_getElem? (i := 5) rfl))) (mvT hZ (hw _ (List.mem_of_getElem? (i := 6) rfl))) (by decide) (backOf (W := 0) hof hZ (hw _ (List.mem_of_getElem? (i := 6) rfl)) (hw _ (List.mem_of_getElem? (i := 5) rfl)) (by decide) (by decide)) (g := (mkF m 204 #[s0, s1, s2, .val (.int i3), s4, s5, s6, s7, s8, s9, s10, s11, s12, s13] [(.int i3)])) rfl (by rw [hml]; rfl) (argsL := [(.int i3)]) (rest := []) (lenOf pd_0_0 rfl) rfl (by show 2 * 0 + _ ≤ _; exact Nat.le_of_eq rfl) (hb hby at_204) (fun _ _ => ⟨rfl, e0, (by decide : 1 + 0 ≤ _), (by decide : 30 + 0 ≤ _)⟩)
  dsimp only [Pt.U, Pt.locs, Pt.cells, Pt.slots] at X3 l3 y3 z3 st3 hQ3
  subst l3 y3 z3
  obtain ⟨rfl, N3q, e3⟩ := hQ3
  have N3 := Fr.app N0 N3q
  obtain ⟨T5, X5, e5, st5⟩ := getS2 X3 hx hZ hown (host := "") (Or.inl (hw _ (List.mem_of_getElem? (i := 9) rfl))) Via.refl e3 S_OBJECT (g := (mkF m 362 #[s0, s1, s2, .val (.int i3), .val (.ref kk), .val (.int (i3 - (48 : Int32))), .val (.int (0 : Int32)), .val (.int (0 : Int32)), .val (.int (0 : Int32)), .val (.int (1 : Int32)), .val (.int (0 : Int32)), .val (.int (0 : Int32)), .val (.int (0 : Int32)), .val (.int (0 : Int32))] [(.ref kk)])) rfl (hb hby at_362)
  obtain ⟨T7, X7, e7, st7⟩ := getS2 X5 hx hZ hown (host := "") (Or.inl (hw _ (List.mem_of_getElem? (i := 10) rfl))) Via.refl e5 S_ARRAY (g := (mkF m 380 #[s0, s1, s2, .val (.int i3), .val (.ref kk), .val (.int (i3 - (48 : Int32))), .val (.int (0 : Int32)), .val (.int (0 : Int32)), .val (.int (0 : Int32)), .val (.int (1 : Int32)), .val (.int (0 : Int32)), .val (.int (0 : Int32)), .val (.int (0 : Int32)), .val (.int (0 : Int32))] [(.ref kk)])) rfl (hb hby at_380)
  obtain ⟨T9, X9, e9, st9⟩ := getS2 X7 hx hZ hown (host := "") (Or.inl (hw _ (List.mem_of_getElem? (i := 12) rfl))) Via.refl e7 S_STRING (g := (mkF m 398 #[s0, s1, s2, .val (.int i3), .val (.ref kk), .val (.int (i3 - (48 : Int32))), .val (.int (0 : Int32)), .val (.int (0 : Int32)), .val (.int (0 : Int32)), .val (.int (1 : Int32)), .val (.int (0 : Int32)), .val (.int (0 : Int32)), .val (.int (0 : Int32)), .val (.int (0 : Int32))] [(.ref kk)])) rfl (hb hby at_398)
  obtain ⟨T11, X11, e11, st11⟩ := getS2 X9 hx hZ hown (host := "") (Or.inl (hw _ (List.mem_of_getElem? (i := 14) rfl))) Via.refl e9 S_NUMBER (g := (mkF m 416 #[s0, s1, s2, .val (.int i3), .val (.ref kk), .val (.int (i3 - (48 : Int32))), .val (.int (0 : Int32)), .val (.int (0 : Int32)), .val (.int (0 : Int32)), .val (.int (1 : Int32)), .val (.int (0 : Int32)), .val (.int (0 : Int32)), .val (.int (0 : Int32)), .val (.int (0 : Int32))] [(.ref kk)])) rfl (hb hby at_416)
  obtain ⟨T13, X13, e13, st13⟩ := getS2 X11 hx hZ hown (host := "") (Or.inl (hw _ (List.mem_of_getElem? (i := 16) rfl))) Via.refl e11 S_TRUE (g := (mkF m 434 #[s0, s1, s2, .val (.int i3), .val (.ref kk), .val (.int (i3 - (48 : Int32))), .val (.int (0 : Int32)), .val (.int (0 : Int32)), .val (.int (0 : Int32)), .val (.int (1 : Int32)), .val (.int (0 : Int32)), .val (.int (0 : Int32)), .val (.int (0 : Int32)), .val (.int (0 : Int32))] [(.ref kk)])) rfl (hb hby at_434)
  obtain ⟨T15, X15, e15, st15⟩ := getS2 X13 hx hZ hown (host := "") (Or.inl (hw _ (List.mem_of_getElem? (i := 18) rfl))) Via.refl e13 S_FALSE (g := (mkF m 452 #[s0, s1, s2, .val (.int i3), .val (.ref kk), .val (.int (i3 - (48 : Int32))), .val (.int (0 : Int32)), .val (.int (0 : Int32)), .val (.int (0 : Int32)), .val (.int (1 : Int32)), .val (.int (0 : Int32)), .val (.int (0 : Int32)), .val (.int (0 : Int32)), .val (.int (0 : Int32))] [(.ref kk)])) rfl (hb hby at_452)
  obtain ⟨T17, X17, e17, st17⟩ := getS2 X15 hx hZ hown (host := "") (Or.inl (hw _ (List.mem_of_getElem? (i := 20) rfl))) Via.refl e15 S_NULL (g := (mkF m 470 #[s0, s1, s2, .val (.int i3), .val (.ref kk), .val (.int (i3 - (48 : Int32))), .val (.int (0 : Int32)), .val (.int (0 : Int32)), .val (.int (0 : Int32)), .val (.int (1 : Int32)), .val (.int (0 : Int32)), .val (.int (0 : Int32)), .val (.int (0 : Int32)), .val (.int (0 : Int32))] [(.ref kk)])) rfl (hb hby at_470)
  refine ⟨T17, _, #[s0, s1, s2, .val (.int i3), .val (.ref kk), .val (.int (i3 - (48 : Int32))), .val (.int (0 : Int32)), .val (.int (0 : Int32)), .val (.int (0 : Int32)), .val (.int (1 : Int32)), .val (.int (0 : Int32)), .val (.int (0 : Int32)), .val (.int (0 : Int32)), .val (.int (0 : Int32))], X17, N3, fun target kt => ?_⟩
  show Steps p.tables e below (T0.setTop (mkF m 203 #[s0, s1, s2, .val (.int i3), s4, s5, s6, s7, s8, s9, s10, s11, s12, s13] [])) _
  refine XS.iloadN X0.here hx rfl (hb hby at_203) rfl ?_
  show Steps p.tables e below (T0.setTop (mkF m 204 #[s0, s1, s2, .val (.int i3), s4, s5, s6, s7, s8, s9, s10, s11, s12, s13] [(.int i3)])) _
  refine st3 _ ?_
  show Steps p.tables e below (T3.setTop (mkF m 207 #[s0, s1, s2, .val (.int i3), s4, s5, s6, s7, s8, s9, s10, s11, s12, s13] [(.ref kk)])) _
  refine XS.astore X3.here hx rfl (hb hby at_207) rfl rfl (l' := #[s0, s1, s2, .val (.int i3), .val (.ref kk), s5, s6, s7, s8, s9, s10, s11, s12, s13]) (os0_207 hs4) ?_
  show Steps p.tables e below (T3.setTop (mkF m 209 #[s0, s1, s2, .val (.int i3), .val (.ref kk), s5, s6, s7, s8, s9, s10, s11, s12, s13] [])) _
  refine XS.iloadN X3.here hx rfl (hb hby at_209) rfl ?_
  show Steps p.tables e below (T3.setTop (mkF m 210 #[s0, s1, s2, .val (.int i3), .val (.ref kk), s5, s6, s7, s8, s9, s10, s11, s12, s13] [(.int i3)])) _
  refine XS.bipush X3.here hx rfl (hb hby at_210) ?_
  show Steps p.tables e below (T3.setTop (mkF m 212 #[s0, s1, s2, .val (.int i3), .val (.ref kk), s5, s6, s7, s8, s9, s10, s11, s12, s13] [(.int (48 : Int32)), (.int i3)])) _
  refine XS.isub X3.here hx rfl (hb hby at_212) rfl ?_
  show Steps p.tables e below (T3.setTop (mkF m 213 #[s0, s1, s2, .val (.int i3), .val (.ref kk), s5, s6, s7, s8, s9, s10, s11, s12, s13] [(.int (i3 - (48 : Int32)))])) _
  refine XS.istore X3.here hx rfl (hb hby at_213) rfl (l' := #[s0, s1, s2, .val (.int i3), .val (.ref kk), .val (.int (i3 - (48 : Int32))), s6, s7, s8, s9, s10, s11, s12, s13]) (os0_213 hs5) ?_
  show Steps p.tables e below (T3.setTop (mkF m 215 #[s0, s1, s2, .val (.int i3), .val (.ref kk), .val (.int (i3 - (48 : Int32))), s6, s7, s8, s9, s10, s11, s12, s13] [])) _
  refine XS.iloadN X3.here hx rfl (hb hby at_215) rfl ?_
  show Steps p.tables e below (T3.setTop (mkF m 216 #[s0, s1, s2, .val (.int i3), .val (.ref kk), .val (.int (i3 - (48 : Int32))), s6, s7, s8, s9, s10, s11, s12, s13] [(.int i3)])) _
  refine XS.bipush X3.here hx rfl (hb hby at_216) ?_
  show Steps p.tables e below (T3.setTop (mkF m 218 #[s0, s1, s2, .val (.int i3), .val (.ref kk), .val (.int (i3 - (48 : Int32))), s6, s7, s8, s9, s10, s11, s12, s13] [(.int (123 : Int32)), (.int i3)])) _
  refine XS.icmpYes X3.here hx rfl (pc0 := 218) (pc' := 225) rfl (hb hby at_218) rfl (feq hc218).2 (by decide) (by decide) ?_
  show Steps p.tables e below (T3.setTop (mkF m 225 #[s0, s1, s2, .val (.int i3), .val (.ref kk), .val (.int (i3 - (48 : Int32))), s6, s7, s8, s9, s10, s11, s12, s13] [])) _
  refine XS.iconst X3.here hx rfl (hb hby at_225) ?_
  show Steps p.tables e below (T3.setTop (mkF m 226 #[s0, s1, s2, .val (.int i3), .val (.ref kk), .val (.int (i3 - (48 : Int32))), s6, s7, s8, s9, s10, s11, s12, s13] [(.int (0 : Int32))])) _
  refine XS.istore X3.here hx rfl (hb hby at_226) rfl (l' := #[s0, s1, s2, .val (.int i3), .val (.ref kk), .val (.int (i3 - (48 : Int32))), .val (.int (0 : Int32)), s7, s8, s9, s10, s11, s12, s13]) (os0_226 hs6) ?_
  show Steps p.tables e below (T3.setTop (mkF m 228 #[s0, s1, s2, .val (.int i3), .val (.ref kk), .val (.int (i3 - (48 : Int32))), .val (.int (0 : Int32)), s7, s8, s9, s10, s11, s12, s13] [])) _
  refine XS.iloadN X3.here hx rfl (hb hby at_228) rfl ?_
  show Steps p.tables e below (T3.setTop (mkF m 229 #[s0, s1, s2, .val (.int i3), .val (.ref kk), .val (.int (i3 - (48 : Int32))), .val (.int (0 : Int32)), s7, s8, s9, s10, s11, s12, s13] [(.int i3)])) _
  refine XS.bipush X3.here hx rfl (hb hby at_229) ?_
  show Steps p.tables e below (T3.setTop (mkF m 231 #[s0, s1, s2, .val (.int i3), .val (.ref kk), .val (.int (i3 - (48 : Int32))), .val (.int (0 : Int32)), s7, s8, s9, s10, s11, s12, s13] [(.int (91 : Int32)), (.int i3)])) _
  refine XS.icmpYes X3.here hx rfl (pc0 := 231) (pc' := 238) rfl (hb hby at_231) rfl (feq hc231).2 (by decide) (by decide) ?_
  show Steps p.tables e below (T3.setTop (mkF m 238 #[s0, s1, s2, .val (.int i3), .val (.ref kk), .val (.int (i3 - (48 : Int32))), .val (.int (0 : Int32)), s7, s8, s9, s10, s11, s12, s13] [])) _
  refine XS.iconst X3.here hx rfl (hb hby at_238) ?_
  show Steps p.tables e below (T3.setTop (mkF m 239 #[s0, s1, s2, .val (.int i3), .val (.ref kk), .val (.int (i3 - (48 : Int32))), .val (.int (0 : Int32)), s7, s8, s9, s10, s11, s12, s13] [(.int (0 : Int32))])) _
  refine XS.istore X3.here hx rfl (hb hby at_239) rfl (l' := #[s0, s1, s2, .val (.int i3), .val (.ref kk), .val (.int (i3 - (48 : Int32))), .val (.int (0 : Int32)), .val (.int (0 : Int32)), s8, s9, s10, s11, s12, s13]) (os0_239 hs7) ?_
  show Steps p.tables e below (T3.setTop (mkF m 241 #[s0, s1, s2, .val (.int i3), .val (.ref kk), .val (.int (i3 - (48 : Int32))), .val (.int (0 : Int32)), .val (.int (0 : Int32)), s8, s9, s10, s11, s12, s13] [])) _
  refine XS.iloadN X3.here hx rfl (hb hby at_241) rfl ?_
  show Steps p.tables e below (T3.setTop (mkF m 242 #[s0, s1, s2, .val (.int i3), .val (.ref kk), .val (.int (i3 - (48 : Int32))), .val (.int (0 : Int32)), .val (.int (0 : Int32)), s8, s9, s10, s11, s12, s13] [(.int i3)])) _
  refine XS.bipush X3.here hx rfl (hb hby at_242) ?_
  show Steps p.tables e below (T3.setTop (mkF m 244 #[s0, s1, s2, .val (.int i3), .val (.ref kk), .val (.int (i3 - (48 : Int32))), .val (.int (0 : Int32)), .val (.int (0 : Int32)), s8, s9, s10, s11, s12, s13] [(.int (34 : Int32)), (.int i3)])) _
  refine XS.icmpYes X3.here hx rfl (pc0 := 244) (pc' := 251) rfl (hb hby at_244) rfl (feq hc244).2 (by decide) (by decide) ?_
  show Steps p.tables e below (T3.setTop (mkF m 251 #[s0, s1, s2, .val (.int i3), .val (.ref kk), .val (.int (i3 - (48 : Int32))), .val (.int (0 : Int32)), .val (.int (0 : Int32)), s8, s9, s10, s11, s12, s13] [])) _
  refine XS.iconst X3.here hx rfl (hb hby at_251) ?_
  show Steps p.tables e below (T3.setTop (mkF m 252 #[s0, s1, s2, .val (.int i3), .val (.ref kk), .val (.int (i3 - (48 : Int32))), .val (.int (0 : Int32)), .val (.int (0 : Int32)), s8, s9, s10, s11, s12, s13] [(.int (0 : Int32))])) _
  refine XS.istore X3.here hx rfl (hb hby at_252) rfl (l' := #[s0, s1, s2, .val (.int i3), .val (.ref kk), .val (.int (i3 - (48 : Int32))), .val (.int (0 : Int32)), .val (.int (0 : Int32)), .val (.int (0 : Int32)), s9, s10, s11, s12, s13]) (os0_252 hs8) ?_
  show Steps p.tables e below (T3.setTop (mkF m 254 #[s0, s1, s2, .val (.int i3), .val (.ref kk), .val (.int (i3 - (48 : Int32))), .val (.int (0 : Int32)), .val (.int (0 : Int32)), .val (.int (0 : Int32)), s9, s10, s11, s12, s13] [])) _
  refine XS.iloadN X3.here hx rfl (hb hby at_254) rfl ?_
  show Steps p.tables e below (T3.setTop (mkF m 255 #[s0, s1, s2, .val (.int i3), .val (.ref kk), .val (.int (i3 - (48 : Int32))), .val (.int (0 : Int32)), .val (.int (0 : Int32)), .val (.int (0 : Int32)), s9, s10, s11, s12, s13] [(.int i3)])) _
  refine XS.bipush X3.here hx rfl (hb hby at_255) ?_
  show Steps p.tables e below (T3.setTop (mkF m 257 #[s0, s1, s2, .val (.int i3), .val (.ref kk), .val (.int (i3 - (48 : Int32))), .val (.int (0 : Int32)), .val (.int (0 : Int32)), .val (.int (0 : Int32)), s9, s10, s11, s12, s13] [(.int (45 : Int32)), (.int i3)])) _
  refine XS.icmpYes X3.here hx rfl (pc0 := 257) (pc' := 272) rfl (hb hby at_257) rfl (teq hc257).1 (by decide) (by decide) ?_
  show Steps p.tables e below (T3.setTop (mkF m 272 #[s0, s1, s2, .val (.int i3), .val (.ref kk), .val (.int (i3 - (48 : Int32))), .val (.int (0 : Int32)), .val (.int (0 : Int32)), .val (.int (0 : Int32)), s9, s10, s11, s12, s13] [])) _
  refine XS.iconst X3.here hx rfl (hb hby at_272) ?_
  show Steps p.tables e below (T3.setTop (mkF m 273 #[s0, s1, s2, .val (.int i3), .val (.ref kk), .val (.int (i3 - (48 : Int32))), .val (.int (0 : Int32)), .val (.int (0 : Int32)), .val (.int (0 : Int32)), s9, s10, s11, s12, s13] [(.int (1 : Int32))])) _
  refine XS.goto X3.here hx rfl (pc0 := 273) (pc' := 277) rfl (hb hby at_273) (by decide) (by decide) ?_
  show Steps p.tables e below (T3.setTop (mkF m 277 #[s0, s1, s2, .val (.int i3), .val (.ref kk), .val (.int (i3 - (48 : Int32))), .val (.int (0 : Int32)), .val (.int (0 : Int32)), .val (.int (0 : Int32)), s9, s10, s11, s12, s13] [(.int (1 : Int32))])) _
  refine XS.istore X3.here hx rfl (hb hby at_277) rfl (l' := #[s0, s1, s2, .val (.int i3), .val (.ref kk), .val (.int (i3 - (48 : Int32))), .val (.int (0 : Int32)), .val (.int (0 : Int32)), .val (.int (0 : Int32)), .val (.int (1 : Int32)), s10, s11, s12, s13]) (os0_277 hs9) ?_
  show Steps p.tables e below (T3.setTop (mkF m 279 #[s0, s1, s2, .val (.int i3), .val (.ref kk), .val (.int (i3 - (48 : Int32))), .val (.int (0 : Int32)), .val (.int (0 : Int32)), .val (.int (0 : Int32)), .val (.int (1 : Int32)), s10, s11, s12, s13] [])) _
  refine XS.iloadN X3.here hx rfl (hb hby at_279) rfl ?_
  show Steps p.tables e below (T3.setTop (mkF m 280 #[s0, s1, s2, .val (.int i3), .val (.ref kk), .val (.int (i3 - (48 : Int32))), .val (.int (0 : Int32)), .val (.int (0 : Int32)), .val (.int (0 : Int32)), .val (.int (1 : Int32)), s10, s11, s12, s13] [(.int i3)])) _
  refine XS.bipush X3.here hx rfl (hb hby at_280) ?_
  show Steps p.tables e below (T3.setTop (mkF m 282 #[s0, s1, s2, .val (.int i3), .val (.ref kk), .val (.int (i3 - (48 : Int32))), .val (.int (0 : Int32)), .val (.int (0 : Int32)), .val (.int (0 : Int32)), .val (.int (1 : Int32)), s10, s11, s12, s13] [(.int (116 : Int32)), (.int i3)])) _
  refine XS.icmpYes X3.here hx rfl (pc0 := 282) (pc' := 289) rfl (hb hby at_282) rfl (feq hc282).2 (by decide) (by decide) ?_
  show Steps p.tables e below (T3.setTop (mkF m 289 #[s0, s1, s2, .val (.int i3), .val (.ref kk), .val (.int (i3 - (48 : Int32))), .val (.int (0 : Int32)), .val (.int (0 : Int32)), .val (.int (0 : Int32)), .val (.int (1 : Int32)), s10, s11, s12, s13] [])) _
  refine XS.iconst X3.here hx rfl (hb hby at_289) ?_
  show Steps p.tables e below (T3.setTop (mkF m 290 #[s0, s1, s2, .val (.int i3), .val (.ref kk), .val (.int (i3 - (48 : Int32))), .val (.int (0 : Int32)), .val (.int (0 : Int32)), .val (.int (0 : Int32)), .val (.int (1 : Int32)), s10, s11, s12, s13] [(.int (0 : Int32))])) _
  refine XS.istore X3.here hx rfl (hb hby at_290) rfl (l' := #[s0, s1, s2, .val (.int i3), .val (.ref kk), .val (.int (i3 - (48 : Int32))), .val (.int (0 : Int32)), .val (.int (0 : Int32)), .val (.int (0 : Int32)), .val (.int (1 : Int32)), .val (.int (0 : Int32)), s11, s12, s13]) (os0_290 hs10) ?_
  show Steps p.tables e below (T3.setTop (mkF m 292 #[s0, s1, s2, .val (.int i3), .val (.ref kk), .val (.int (i3 - (48 : Int32))), .val (.int (0 : Int32)), .val (.int (0 : Int32)), .val (.int (0 : Int32)), .val (.int (1 : Int32)), .val (.int (0 : Int32)), s11, s12, s13] [])) _
  refine XS.iloadN X3.here hx rfl (hb hby at_292) rfl ?_
  show Steps p.tables e below (T3.setTop (mkF m 293 #[s0, s1, s2, .val (.int i3), .val (.ref kk), .val (.int (i3 - (48 : Int32))), .val (.int (0 : Int32)), .val (.int (0 : Int32)), .val (.int (0 : Int32)), .val (.int (1 : Int32)), .val (.int (0 : Int32)), s11, s12, s13] [(.int i3)])) _
  refine XS.bipush X3.here hx rfl (hb hby at_293) ?_
  show Steps p.tables e below (T3.setTop (mkF m 295 #[s0, s1, s2, .val (.int i3), .val (.ref kk), .val (.int (i3 - (48 : Int32))), .val (.int (0 : Int32)), .val (.int (0 : Int32)), .val (.int (0 : Int32)), .val (.int (1 : Int32)), .val (.int (0 : Int32)), s11, s12, s13] [(.int (102 : Int32)), (.int i3)])) _
  refine XS.icmpYes X3.here hx rfl (pc0 := 295) (pc' := 302) rfl (hb hby at_295) rfl (feq hc295).2 (by decide) (by decide) ?_
  show Steps p.tables e below (T3.setTop (mkF m 302 #[s0, s1, s2, .val (.int i3), .val (.ref kk), .val (.int (i3 - (48 : Int32))), .val (.int (0 : Int32)), .val (.int (0 : Int32)), .val (.int (0 : Int32)), .val (.int (1 : Int32)), .val (.int (0 : Int32)), s11, s12, s13] [])) _
  refine XS.iconst X3.here hx rfl (hb hby at_302) ?_
  show Steps p.tables e below (T3.setTop (mkF m 303 #[s0, s1, s2, .val (.int i3), .val (.ref kk), .val (.int (i3 - (48 : Int32))), .val (.int (0 : Int32)), .val (.int (0 : Int32)), .val (.int (0 : Int32)), .val (.int (1 : Int32)), .val (.int (0 : Int32)), s11, s12, s13] [(.int (0 : Int32))])) _
  refine XS.istore X3.here hx rfl (hb hby at_303) rfl (l' := #[s0, s1, s2, .val (.int i3), .val (.ref kk), .val (.int (i3 - (48 : Int32))), .val (.int (0 : Int32)), .val (.int (0 : Int32)), .val (.int (0 : Int32)), .val (.int (1 : Int32)), .val (.int (0 : Int32)), .val (.int (0 : Int32)), s12, s13]) (os0_303 hs11) ?_
  show Steps p.tables e below (T3.setTop (mkF m 305 #[s0, s1, s2, .val (.int i3), .val (.ref kk), .val (.int (i3 - (48 : Int32))), .val (.int (0 : Int32)), .val (.int (0 : Int32)), .val (.int (0 : Int32)), .val (.int (1 : Int32)), .val (.int (0 : Int32)), .val (.int (0 : Int32)), s12, s13] [])) _
  refine XS.iloadN X3.here hx rfl (hb hby at_305) rfl ?_
  show Steps p.tables e below (T3.setTop (mkF m 306 #[s0, s1, s2, .val (.int i3), .val (.ref kk), .val (.int (i3 - (48 : Int32))), .val (.int (0 : Int32)), .val (.int (0 : Int32)), .val (.int (0 : Int32)), .val (.int (1 : Int32)), .val (.int (0 : Int32)), .val (.int (0 : Int32)), s12, s13] [(.int i3)])) _
  refine XS.bipush X3.here hx rfl (hb hby at_306) ?_
  show Steps p.tables e below (T3.setTop (mkF m 308 #[s0, s1, s2, .val (.int i3), .val (.ref kk), .val (.int (i3 - (48 : Int32))), .val (.int (0 : Int32)), .val (.int (0 : Int32)), .val (.int (0 : Int32)), .val (.int (1 : Int32)), .val (.int (0 : Int32)), .val (.int (0 : Int32)), s12, s13] [(.int (110 : Int32)), (.int i3)])) _
  refine XS.icmpYes X3.here hx rfl (pc0 := 308) (pc' := 315) rfl (hb hby at_308) rfl (feq hc308).2 (by decide) (by decide) ?_
  show Steps p.tables e below (T3.setTop (mkF m 315 #[s0, s1, s2, .val (.int i3), .val (.ref kk), .val (.int (i3 - (48 : Int32))), .val (.int (0 : Int32)), .val (.int (0 : Int32)), .val (.int (0 : Int32)), .val (.int (1 : Int32)), .val (.int (0 : Int32)), .val (.int (0 : Int32)), s12, s13] [])) _
  refine XS.iconst X3.here hx rfl (hb hby at_315) ?_
  show Steps p.tables e below (T3.setTop (mkF m 316 #[s0, s1, s2, .val (.int i3), .val (.ref kk), .val (.int (i3 - (48 : Int32))), .val (.int (0 : Int32)), .val (.int (0 : Int32)), .val (.int (0 : Int32)), .val (.int (1 : Int32)), .val (.int (0 : Int32)), .val (.int (0 : Int32)), s12, s13] [(.int (0 : Int32))])) _
  refine XS.istore X3.here hx rfl (hb hby at_316) rfl (l' := #[s0, s1, s2, .val (.int i3), .val (.ref kk), .val (.int (i3 - (48 : Int32))), .val (.int (0 : Int32)), .val (.int (0 : Int32)), .val (.int (0 : Int32)), .val (.int (1 : Int32)), .val (.int (0 : Int32)), .val (.int (0 : Int32)), .val (.int (0 : Int32)), s13]) (os0_316 hs12) ?_
  show Steps p.tables e below (T3.setTop (mkF m 318 #[s0, s1, s2, .val (.int i3), .val (.ref kk), .val (.int (i3 - (48 : Int32))), .val (.int (0 : Int32)), .val (.int (0 : Int32)), .val (.int (0 : Int32)), .val (.int (1 : Int32)), .val (.int (0 : Int32)), .val (.int (0 : Int32)), .val (.int (0 : Int32)), s13] [])) _
  refine XS.iload X3.here hx rfl (hb hby at_318) rfl ?_
  show Steps p.tables e below (T3.setTop (mkF m 320 #[s0, s1, s2, .val (.int i3), .val (.ref kk), .val (.int (i3 - (48 : Int32))), .val (.int (0 : Int32)), .val (.int (0 : Int32)), .val (.int (0 : Int32)), .val (.int (1 : Int32)), .val (.int (0 : Int32)), .val (.int (0 : Int32)), .val (.int (0 : Int32)), s13] [(.int (0 : Int32))])) _
  refine XS.ifNo X3.here hx rfl (hb hby at_320) rfl ((if0 _ _).trans (teq (rfl : (0 : Int32) = (0 : Int32))).2) ?_
  show Steps p.tables e below (T3.setTop (mkF m 323 #[s0, s1, s2, .val (.int i3), .val (.ref kk), .val (.int (i3 - (48 : Int32))), .val (.int (0 : Int32)), .val (.int (0 : Int32)), .val (.int (0 : Int32)), .val (.int (1 : Int32)), .val (.int (0 : Int32)), .val (.int (0 : Int32)), .val (.int (0 : Int32)), s13] [])) _
  refine XS.iload X3.here hx rfl (hb hby at_323) rfl ?_
  show Steps p.tables e below (T3.setTop (mkF m 325 #[s0, s1, s2, .val (.int i3), .val (.ref kk), .val (.int (i3 - (48 : Int32))), .val (.int (0 : Int32)), .val (.int (0 : Int32)), .val (.int (0 : Int32)), .val (.int (1 : Int32)), .val (.int (0 : Int32)), .val (.int (0 : Int32)), .val (.int (0 : Int32)), s13] [(.int (0 : Int32))])) _
  refine XS.ifNo X3.here hx rfl (hb hby at_325) rfl ((if0 _ _).trans (teq (rfl : (0 : Int32) = (0 : Int32))).2) ?_
  show Steps p.tables e below (T3.setTop (mkF m 328 #[s0, s1, s2, .val (.int i3), .val (.ref kk), .val (.int (i3 - (48 : Int32))), .val (.int (0 : Int32)), .val (.int (0 : Int32)), .val (.int (0 : Int32)), .val (.int (1 : Int32)), .val (.int (0 : Int32)), .val (.int (0 : Int32)), .val (.int (0 : Int32)), s13] [])) _
  refine XS.iload X3.here hx rfl (hb hby at_328) rfl ?_
  show Steps p.tables e below (T3.setTop (mkF m 330 #[s0, s1, s2, .val (.int i3), .val (.ref kk), .val (.int (i3 - (48 : Int32))), .val (.int (0 : Int32)), .val (.int (0 : Int32)), .val (.int (0 : Int32)), .val (.int (1 : Int32)), .val (.int (0 : Int32)), .val (.int (0 : Int32)), .val (.int (0 : Int32)), s13] [(.int (0 : Int32))])) _
  refine XS.ifNo X3.here hx rfl (hb hby at_330) rfl ((if0 _ _).trans (teq (rfl : (0 : Int32) = (0 : Int32))).2) ?_
  show Steps p.tables e below (T3.setTop (mkF m 333 #[s0, s1, s2, .val (.int i3), .val (.ref kk), .val (.int (i3 - (48 : Int32))), .val (.int (0 : Int32)), .val (.int (0 : Int32)), .val (.int (0 : Int32)), .val (.int (1 : Int32)), .val (.int (0 : Int32)), .val (.int (0 : Int32)), .val (.int (0 : Int32)), s13] [])) _
  refine XS.iload X3.here hx rfl (hb hby at_333) rfl ?_
  show Steps p.tables e below (T3.setTop (mkF m 335 #[s0, s1, s2, .val (.int i3), .val (.ref kk), .val (.int (i3 - (48 : Int32))), .val (.int (0 : Int32)), .val (.int (0 : Int32)), .val (.int (0 : Int32)), .val (.int (1 : Int32)), .val (.int (0 : Int32)), .val (.int (0 : Int32)), .val (.int (0 : Int32)), s13] [(.int (1 : Int32))])) _
  refine XS.ifYes X3.here hx rfl (pc0 := 335) (pc' := 357) rfl (hb hby at_335) rfl ((if0 _ _).trans (feq hc335).2) (by decide) (by decide) ?_
  show Steps p.tables e below (T3.setTop (mkF m 357 #[s0, s1, s2, .val (.int i3), .val (.ref kk), .val (.int (i3 - (48 : Int32))), .val (.int (0 : Int32)), .val (.int (0 : Int32)), .val (.int (0 : Int32)), .val (.int (1 : Int32)), .val (.int (0 : Int32)), .val (.int (0 : Int32)), .val (.int (0 : Int32)), s13] [])) _
  refine XS.iconst X3.here hx rfl (hb hby at_357) ?_
  show Steps p.tables e below (T3.setTop (mkF m 358 #[s0, s1, s2, .val (.int i3), .val (.ref kk), .val (.int (i3 - (48 : Int32))), .val (.int (0 : Int32)), .val (.int (0 : Int32)), .val (.int (0 : Int32)), .val (.int (1 : Int32)), .val (.int (0 : Int32)), .val (.int (0 : Int32)), .val (.int (0 : Int32)), s13] [(.int (0 : Int32))])) _
  refine XS.istore X3.here hx rfl (hb hby at_358) rfl (l' := #[s0, s1, s2, .val (.int i3), .val (.ref kk), .val (.int (i3 - (48 : Int32))), .val (.int (0 : Int32)), .val (.int (0 : Int32)), .val (.int (0 : Int32)), .val (.int (1 : Int32)), .val (.int (0 : Int32)), .val (.int (0 : Int32)), .val (.int (0 : Int32)), .val (.int (0 : Int32))]) (os0_358 hs13) ?_
  show Steps p.tables e below (T3.setTop (mkF m 360 #[s0, s1, s2, .val (.int i3), .val (.ref kk), .val (.int (i3 - (48 : Int32))), .val (.int (0 : Int32)), .val (.int (0 : Int32)), .val (.int (0 : Int32)), .val (.int (1 : Int32)), .val (.int (0 : Int32)), .val (.int (0 : Int32)), .val (.int (0 : Int32)), .val (.int (0 : Int32))] [])) _
  refine XS.aload X3.here hx rfl (hb hby at_360) rfl rfl ?_
  show Steps p.tables e below (T3.setTop (mkF m 362 #[s0, s1, s2, .val (.int i3), .val (.ref kk), .val (.int (i3 - (48 : Int32))), .val (.int (0 : Int32)), .val (.int (0 : Int32)), .val (.int (0 : Int32)), .val (.int (1 : Int32)), .val (.int (0 : Int32)), .val (.int (0 : Int32)), .val (.int (0 : Int32)), .val (.int (0 : Int32))] [(.ref kk)])) _
  refine st5 _ ?_
  show Steps p.tables e below (T5.setTop (mkF m 365 #[s0, s1, s2, .val (.int i3), .val (.ref kk), .val (.int (i3 - (48 : Int32))), .val (.int (0 : Int32)), .val (.int (0 : Int32)), .val (.int (0 : Int32)), .val (.int (1 : Int32)), .val (.int (0 : Int32)), .val (.int (0 : Int32)), .val (.int (0 : Int32)), .val (.int (0 : Int32))] [(.ref w4), (.ref kk)])) _
  refine Jvm.RoadKit.acmp (g := (mkF m 365 #[s0, s1, s2, .val (.int i3), .val (.ref kk), .val (.int (i3 - (48 : Int32))), .val (.int (0 : Int32)), .val (.int (0 : Int32)), .val (.int (0 : Int32)), .val (.int (1 : Int32)), .val (.int (0 : Int32)), .val (.int (0 : Int32)), .val (.int (0 : Int32)), .val (.int (0 : Int32))] [(.ref w4), (.ref kk)])) X5 hx rfl rfl rfl (pc0 := 365) (pc' := 372) (same := false) rfl (hb hby at_365) rfl (decide_eq_false fun q => ha365 (Value.ref.inj q)) (by decide) (by decide) ?_
  show Steps p.tables e below (T5.setTop (mkF m 372 #[s0, s1, s2, .val (.int i3), .val (.ref kk), .val (.int (i3 - (48 : Int32))), .val (.int (0 : Int32)), .val (.int (0 : Int32)), .val (.int (0 : Int32)), .val (.int (1 : Int32)), .val (.int (0 : Int32)), .val (.int (0 : Int32)), .val (.int (0 : Int32)), .val (.int (0 : Int32))] [])) _
  refine XS.iconst X5.here hx rfl (hb hby at_372) ?_
  show Steps p.tables e below (T5.setTop (mkF m 373 #[s0, s1, s2, .val (.int i3), .val (.ref kk), .val (.int (i3 - (48 : Int32))), .val (.int (0 : Int32)), .val (.int (0 : Int32)), .val (.int (0 : Int32)), .val (.int (1 : Int32)), .val (.int (0 : Int32)), .val (.int (0 : Int32)), .val (.int (0 : Int32)), .val (.int (0 : Int32))] [(.int (0 : Int32))])) _
  refine XS.iload X5.here hx rfl (hb hby at_373) rfl ?_
  show Steps p.tables e below (T5.setTop (mkF m 375 #[s0, s1, s2, .val (.int i3), .val (.ref kk), .val (.int (i3 - (48 : Int32))), .val (.int (0 : Int32)), .val (.int (0 : Int32)), .val (.int (0 : Int32)), .val (.int (1 : Int32)), .val (.int (0 : Int32)), .val (.int (0 : Int32)), .val (.int (0 : Int32)), .val (.int (0 : Int32))] [(.int (0 : Int32)), (.int (0 : Int32))])) _
  refine XS.icmpNo X5.here hx rfl (hb hby at_375) rfl (teq (rfl : (0 : Int32) = (0 : Int32))).2 ?_
  show Steps p.tables e below (T5.setTop (mkF m 378 #[s0, s1, s2, .val (.int i3), .val (.ref kk), .val (.int (i3 - (48 : Int32))), .val (.int (0 : Int32)), .val (.int (0 : Int32)), .val (.int (0 : Int32)), .val (.int (1 : Int32)), .val (.int (0 : Int32)), .val (.int (0 : Int32)), .val (.int (0 : Int32)), .val (.int (0 : Int32))] [])) _
  refine XS.aload X5.here hx rfl (hb hby at_378) rfl rfl ?_
  show Steps p.tables e below (T5.setTop (mkF m 380 #[s0, s1, s2, .val (.int i3), .val (.ref kk), .val (.int (i3 - (48 : Int32))), .val (.int (0 : Int32)), .val (.int (0 : Int32)), .val (.int (0 : Int32)), .val (.int (1 : Int32)), .val (.int (0 : Int32)), .val (.int (0 : Int32)), .val (.int (0 : Int32)), .val (.int (0 : Int32))] [(.ref kk)])) _
  refine st7 _ ?_
  show Steps p.tables e below (T7.setTop (mkF m 383 #[s0, s1, s2, .val (.int i3), .val (.ref kk), .val (.int (i3 - (48 : Int32))), .val (.int (0 : Int32)), .val (.int (0 : Int32)), .val (.int (0 : Int32)), .val (.int (1 : Int32)), .val (.int (0 : Int32)), .val (.int (0 : Int32)), .val (.int (0 : Int32)), .val (.int (0 : Int32))] [(.ref w6), (.ref kk)])) _
  refine Jvm.RoadKit.acmp (g := (mkF m 383 #[s0, s1, s2, .val (.int i3), .val (.ref kk), .val (.int (i3 - (48 : Int32))), .val (.int (0 : Int32)), .val (.int (0 : Int32)), .val (.int (0 : Int32)), .val (.int (1 : Int32)), .val (.int (0 : Int32)), .val (.int (0 : Int32)), .val (.int (0 : Int32)), .val (.int (0 : Int32))] [(.ref w6), (.ref kk)])) X7 hx rfl rfl rfl (pc0 := 383) (pc' := 390) (same := false) rfl (hb hby at_383) rfl (decide_eq_false fun q => ha383 (Value.ref.inj q)) (by decide) (by decide) ?_
  show Steps p.tables e below (T7.setTop (mkF m 390 #[s0, s1, s2, .val (.int i3), .val (.ref kk), .val (.int (i3 - (48 : Int32))), .val (.int (0 : Int32)), .val (.int (0 : Int32)), .val (.int (0 : Int32)), .val (.int (1 : Int32)), .val (.int (0 : Int32)), .val (.int (0 : Int32)), .val (.int (0 : Int32)), .val (.int (0 : Int32))] [])) _
  refine XS.iconst X7.here hx rfl (hb hby at_390) ?_
  show Steps p.tables e below (T7.setTop (mkF m 391 #[s0, s1, s2, .val (.int i3), .val (.ref kk), .val (.int (i3 - (48 : Int32))), .val (.int (0 : Int32)), .val (.int (0 : Int32)), .val (.int (0 : Int32)), .val (.int (1 : Int32)), .val (.int (0 : Int32)), .val (.int (0 : Int32)), .val (.int (0 : Int32)), .val (.int (0 : Int32))] [(.int (0 : Int32))])) _
  refine XS.iload X7.here hx rfl (hb hby at_391) rfl ?_
  show Steps p.tables e below (T7.setTop (mkF m 393 #[s0, s1, s2, .val (.int i3), .val (.ref kk), .val (.int (i3 - (48 : Int32))), .val (.int (0 : Int32)), .val (.int (0 : Int32)), .val (.int (0 : Int32)), .val (.int (1 : Int32)), .val (.int (0 : Int32)), .val (.int (0 : Int32)), .val (.int (0 : Int32)), .val (.int (0 : Int32))] [(.int (0 : Int32)), (.int (0 : Int32))])) _
  refine XS.icmpNo X7.here hx rfl (hb hby at_393) rfl (teq (rfl : (0 : Int32) = (0 : Int32))).2 ?_
  show Steps p.tables e below (T7.setTop (mkF m 396 #[s0, s1, s2, .val (.int i3), .val (.ref kk), .val (.int (i3 - (48 : Int32))), .val (.int (0 : Int32)), .val (.int (0 : Int32)), .val (.int (0 : Int32)), .val (.int (1 : Int32)), .val (.int (0 : Int32)), .val (.int (0 : Int32)), .val (.int (0 : Int32)), .val (.int (0 : Int32))] [])) _
  refine XS.aload X7.here hx rfl (hb hby at_396) rfl rfl ?_
  show Steps p.tables e below (T7.setTop (mkF m 398 #[s0, s1, s2, .val (.int i3), .val (.ref kk), .val (.int (i3 - (48 : Int32))), .val (.int (0 : Int32)), .val (.int (0 : Int32)), .val (.int (0 : Int32)), .val (.int (1 : Int32)), .val (.int (0 : Int32)), .val (.int (0 : Int32)), .val (.int (0 : Int32)), .val (.int (0 : Int32))] [(.ref kk)])) _
  refine st9 _ ?_
  show Steps p.tables e below (T9.setTop (mkF m 401 #[s0, s1, s2, .val (.int i3), .val (.ref kk), .val (.int (i3 - (48 : Int32))), .val (.int (0 : Int32)), .val (.int (0 : Int32)), .val (.int (0 : Int32)), .val (.int (1 : Int32)), .val (.int (0 : Int32)), .val (.int (0 : Int32)), .val (.int (0 : Int32)), .val (.int (0 : Int32))] [(.ref w8), (.ref kk)])) _
  refine Jvm.RoadKit.acmp (g := (mkF m 401 #[s0, s1, s2, .val (.int i3), .val (.ref kk), .val (.int (i3 - (48 : Int32))), .val (.int (0 : Int32)), .val (.int (0 : Int32)), .val (.int (0 : Int32)), .val (.int (1 : Int32)), .val (.int (0 : Int32)), .val (.int (0 : Int32)), .val (.int (0 : Int32)), .val (.int (0 : Int32))] [(.ref w8), (.ref kk)])) X9 hx rfl rfl rfl (pc0 := 401) (pc' := 408) (same := false) rfl (hb hby at_401) rfl (decide_eq_false fun q => ha401 (Value.ref.inj q)) (by decide) (by decide) ?_
  show Steps p.tables e below (T9.setTop (mkF m 408 #[s0, s1, s2, .val (.int i3), .val (.ref kk), .val (.int (i3 - (48 : Int32))), .val (.int (0 : Int32)), .val (.int (0 : Int32)), .val (.int (0 : Int32)), .val (.int (1 : Int32)), .val (.int (0 : Int32)), .val (.int (0 : Int32)), .val (.int (0 : Int32)), .val (.int (0 : Int32))] [])) _
  refine XS.iconst X9.here hx rfl (hb hby at_408) ?_
  show Steps p.tables e below (T9.setTop (mkF m 409 #[s0, s1, s2, .val (.int i3), .val (.ref kk), .val (.int (i3 - (48 : Int32))), .val (.int (0 : Int32)), .val (.int (0 : Int32)), .val (.int (0 : Int32)), .val (.int (1 : Int32)), .val (.int (0 : Int32)), .val (.int (0 : Int32)), .val (.int (0 : Int32)), .val (.int (0 : Int32))] [(.int (0 : Int32))])) _
  refine XS.iload X9.here hx rfl (hb hby at_409) rfl ?_
  show Steps p.tables e below (T9.setTop (mkF m 411 #[s0, s1, s2, .val (.int i3), .val (.ref kk), .val (.int (i3 - (48 : Int32))), .val (.int (0 : Int32)), .val (.int (0 : Int32)), .val (.int (0 : Int32)), .val (.int (1 : Int32)), .val (.int (0 : Int32)), .val (.int (0 : Int32)), .val (.int (0 : Int32)), .val (.int (0 : Int32))] [(.int (0 : Int32)), (.int (0 : Int32))])) _
  refine XS.icmpNo X9.here hx rfl (hb hby at_411) rfl (teq (rfl : (0 : Int32) = (0 : Int32))).2 ?_
  show Steps p.tables e below (T9.setTop (mkF m 414 #[s0, s1, s2, .val (.int i3), .val (.ref kk), .val (.int (i3 - (48 : Int32))), .val (.int (0 : Int32)), .val (.int (0 : Int32)), .val (.int (0 : Int32)), .val (.int (1 : Int32)), .val (.int (0 : Int32)), .val (.int (0 : Int32)), .val (.int (0 : Int32)), .val (.int (0 : Int32))] [])) _
  refine XS.aload X9.here hx rfl (hb hby at_414) rfl rfl ?_
  show Steps p.tables e below (T9.setTop (mkF m 416 #[s0, s1, s2, .val (.int i3), .val (.ref kk), .val (.int (i3 - (48 : Int32))), .val (.int (0 : Int32)), .val (.int (0 : Int32)), .val (.int (0 : Int32)), .val (.int (1 : Int32)), .val (.int (0 : Int32)), .val (.int (0 : Int32)), .val (.int (0 : Int32)), .val (.int (0 : Int32))] [(.ref kk)])) _
  refine st11 _ ?_
  show Steps p.tables e below (T11.setTop (mkF m 419 #[s0, s1, s2, .val (.int i3), .val (.ref kk), .val (.int (i3 - (48 : Int32))), .val (.int (0 : Int32)), .val (.int (0 : Int32)), .val (.int (0 : Int32)), .val (.int (1 : Int32)), .val (.int (0 : Int32)), .val (.int (0 : Int32)), .val (.int (0 : Int32)), .val (.int (0 : Int32))] [(.ref w10), (.ref kk)])) _
  refine Jvm.RoadKit.acmp (g := (mkF m 419 #[s0, s1, s2, .val (.int i3), .val (.ref kk), .val (.int (i3 - (48 : Int32))), .val (.int (0 : Int32)), .val (.int (0 : Int32)), .val (.int (0 : Int32)), .val (.int (1 : Int32)), .val (.int (0 : Int32)), .val (.int (0 : Int32)), .val (.int (0 : Int32)), .val (.int (0 : Int32))] [(.ref w10), (.ref kk)])) X11 hx rfl rfl rfl (pc0 := 419) (pc' := 422) (same := true) rfl (hb hby at_419) rfl (decide_eq_true (congrArg Value.ref ha419)) (by decide) (by decide) ?_
  show Steps p.tables e below (T11.setTop (mkF m 422 #[s0, s1, s2, .val (.int i3), .val (.ref kk), .val (.int (i3 - (48 : Int32))), .val (.int (0 : Int32)), .val (.int (0 : Int32)), .val (.int (0 : Int32)), .val (.int (1 : Int32)), .val (.int (0 : Int32)), .val (.int (0 : Int32)), .val (.int (0 : Int32)), .val (.int (0 : Int32))] [])) _
  refine XS.iconst X11.here hx rfl (hb hby at_422) ?_
  show Steps p.tables e below (T11.setTop (mkF m 423 #[s0, s1, s2, .val (.int i3), .val (.ref kk), .val (.int (i3 - (48 : Int32))), .val (.int (0 : Int32)), .val (.int (0 : Int32)), .val (.int (0 : Int32)), .val (.int (1 : Int32)), .val (.int (0 : Int32)), .val (.int (0 : Int32)), .val (.int (0 : Int32)), .val (.int (0 : Int32))] [(.int (1 : Int32))])) _
  refine XS.goto X11.here hx rfl (pc0 := 423) (pc' := 427) rfl (hb hby at_423) (by decide) (by decide) ?_
  show Steps p.tables e below (T11.setTop (mkF m 427 #[s0, s1, s2, .val (.int i3), .val (.ref kk), .val (.int (i3 - (48 : Int32))), .val (.int (0 : Int32)), .val (.int (0 : Int32)), .val (.int (0 : Int32)), .val (.int (1 : Int32)), .val (.int (0 : Int32)), .val (.int (0 : Int32)), .val (.int (0 : Int32)), .val (.int (0 : Int32))] [(.int (1 : Int32))])) _
  refine XS.iload X11.here hx rfl (hb hby at_427) rfl ?_
  show Steps p.tables e below (T11.setTop (mkF m 429 #[s0, s1, s2, .val (.int i3), .val (.ref kk), .val (.int (i3 - (48 : Int32))), .val (.int (0 : Int32)), .val (.int (0 : Int32)), .val (.int (0 : Int32)), .val (.int (1 : Int32)), .val (.int (0 : Int32)), .val (.int (0 : Int32)), .val (.int (0 : Int32)), .val (.int (0 : Int32))] [(.int (1 : Int32)), (.int (1 : Int32))])) _
  refine XS.icmpNo X11.here hx rfl (hb hby at_429) rfl (teq (rfl : (1 : Int32) = (1 : Int32))).2 ?_
  show Steps p.tables e below (T11.setTop (mkF m 432 #[s0, s1, s2, .val (.int i3), .val (.ref kk), .val (.int (i3 - (48 : Int32))), .val (.int (0 : Int32)), .val (.int (0 : Int32)), .val (.int (0 : Int32)), .val (.int (1 : Int32)), .val (.int (0 : Int32)), .val (.int (0 : Int32)), .val (.int (0 : Int32)), .val (.int (0 : Int32))] [])) _
  refine XS.aload X11.here hx rfl (hb hby at_432) rfl rfl ?_
  show Steps p.tables e below (T11.setTop (mkF m 434 #[s0, s1, s2, .val (.int i3), .val (.ref kk), .val (.int (i3 - (48 : Int32))), .val (.int (0 : Int32)), .val (.int (0 : Int32)), .val (.int (0 : Int32)), .val (.int (1 : Int32)), .val (.int (0 : Int32)), .val (.int (0 : Int32)), .val (.int (0 : Int32)), .val (.int (0 : Int32))] [(.ref kk)])) _
  refine st13 _ ?_
  show Steps p.tables e below (T13.setTop (mkF m 437 #[s0, s1, s2, .val (.int i3), .val (.ref kk), .val (.int (i3 - (48 : Int32))), .val (.int (0 : Int32)), .val (.int (0 : Int32)), .val (.int (0 : Int32)), .val (.int (1 : Int32)), .val (.int (0 : Int32)), .val (.int (0 : Int32)), .val (.int (0 : Int32)), .val (.int (0 : Int32))] [(.ref w12), (.ref kk)])) _
  refine Jvm.RoadKit.acmp (g := (mkF m 437 #[s0, s1, s2, .val (.int i3), .val (.ref kk), .val (.int (i3 - (48 : Int32))), .val (.int (0 : Int32)), .val (.int (0 : Int32)), .val (.int (0 : Int32)), .val (.int (1 : Int32)), .val (.int (0 : Int32)), .val (.int (0 : Int32)), .val (.int (0 : Int32)), .val (.int (0 : Int32))] [(.ref w12), (.ref kk)])) X13 hx rfl rfl rfl (pc0 := 437) (pc' := 444) (same := false) rfl (hb hby at_437) rfl (decide_eq_false fun q => ha437 (Value.ref.inj q)) (by decide) (by decide) ?_
  show Steps p.tables e below (T13.setTop (mkF m 444 #[s0, s1, s2, .val (.int i3), .val (.ref kk), .val (.int (i3 - (48 : Int32))), .val (.int (0 : Int32)), .val (.int (0 : Int32)), .val (.int (0 : Int32)), .val (.int (1 : Int32)), .val (.int (0 : Int32)), .val (.int (0 : Int32)), .val (.int (0 : Int32)), .val (.int (0 : Int32))] [])) _
  refine XS.iconst X13.here hx rfl (hb hby at_444) ?_
  show Steps p.tables e below (T13.setTop (mkF m 445 #[s0, s1, s2, .val (.int i3), .val (.ref kk), .val (.int (i3 - (48 : Int32))), .val (.int (0 : Int32)), .val (.int (0 : Int32)), .val (.int (0 : Int32)), .val (.int (1 : Int32)), .val (.int (0 : Int32)), .val (.int (0 : Int32)), .val (.int (0 : Int32)), .val (.int (0 : Int32))] [(.int (0 : Int32))])) _
  refine XS.iload X13.here hx rfl (hb hby at_445) rfl ?_
  show Steps p.tables e below (T13.setTop (mkF m 447 #[s0, s1, s2, .val (.int i3), .val (.ref kk), .val (.int (i3 - (48 : Int32))), .val (.int (0 : Int32)), .val (.int (0 : Int32)), .val (.int (0 : Int32)), .val (.int (1 : Int32)), .val (.int (0 : Int32)), .val (.int (0 : Int32)), .val (.int (0 : Int32)), .val (.int (0 : Int32))] [(.int (0 : Int32)), (.int (0 : Int32))])) _
  refine XS.icmpNo X13.here hx rfl (hb hby at_447) rfl (teq (rfl : (0 : Int32) = (0 : Int32))).2 ?_
  show Steps p.tables e below (T13.setTop (mkF m 450 #[s0, s1, s2, .val (.int i3), .val (.ref kk), .val (.int (i3 - (48 : Int32))), .val (.int (0 : Int32)), .val (.int (0 : Int32)), .val (.int (0 : Int32)), .val (.int (1 : Int32)), .val (.int (0 : Int32)), .val (.int (0 : Int32)), .val (.int (0 : Int32)), .val (.int (0 : Int32))] [])) _
  refine XS.aload X13.here hx rfl (hb hby at_450) rfl rfl ?_
  show Steps p.tables e below (T13.setTop (mkF m 452 #[s0, s1, s2, .val (.int i3), .val (.ref kk), .val (.int (i3 - (48 : Int32))), .val (.int (0 : Int32)), .val (.int (0 : Int32)), .val (.int (0 : Int32)), .val (.int (1 : Int32)), .val (.int (0 : Int32)), .val (.int (0 : Int32)), .val (.int (0 : Int32)), .val (.int (0 : Int32))] [(.ref kk)])) _
  refine st15 _ ?_
  show Steps p.tables e below (T15.setTop (mkF m 455 #[s0, s1, s2, .val (.int i3), .val (.ref kk), .val (.int (i3 - (48 : Int32))), .val (.int (0 : Int32)), .val (.int (0 : Int32)), .val (.int (0 : Int32)), .val (.int (1 : Int32)), .val (.int (0 : Int32)), .val (.int (0 : Int32)), .val (.int (0 : Int32)), .val (.int (0 : Int32))] [(.ref w14), (.ref kk)])) _
  refine Jvm.RoadKit.acmp (g := (mkF m 455 #[s0, s1, s2, .val (.int i3), .val (.ref kk), .val (.int (i3 - (48 : Int32))), .val (.int (0 : Int32)), .val (.int (0 : Int32)), .val (.int (0 : Int32)), .val (.int (1 : Int32)), .val (.int (0 : Int32)), .val (.int (0 : Int32)), .val (.int (0 : Int32)), .val (.int (0 : Int32))] [(.ref w14), (.ref kk)])) X15 hx rfl rfl rfl (pc0 := 455) (pc' := 462) (same := false) rfl (hb hby at_455) rfl (decide_eq_false fun q => ha455 (Value.ref.inj q)) (by decide) (by decide) ?_
  show Steps p.tables e below (T15.setTop (mkF m 462 #[s0, s1, s2, .val (.int i3), .val (.ref kk), .val (.int (i3 - (48 : Int32))), .val (.int (0 : Int32)), .val (.int (0 : Int32)), .val (.int (0 : Int32)), .val (.int (1 : Int32)), .val (.int (0 : Int32)), .val (.int (0 : Int32)), .val (.int (0 : Int32)), .val (.int (0 : Int32))] [])) _
  refine XS.iconst X15.here hx rfl (hb hby at_462) ?_
  show Steps p.tables e below (T15.setTop (mkF m 463 #[s0, s1, s2, .val (.int i3), .val (.ref kk), .val (.int (i3 - (48 : Int32))), .val (.int (0 : Int32)), .val (.int (0 : Int32)), .val (.int (0 : Int32)), .val (.int (1 : Int32)), .val (.int (0 : Int32)), .val (.int (0 : Int32)), .val (.int (0 : Int32)), .val (.int (0 : Int32))] [(.int (0 : Int32))])) _
  refine XS.iload X15.here hx rfl (hb hby at_463) rfl ?_
  show Steps p.tables e below (T15.setTop (mkF m 465 #[s0, s1, s2, .val (.int i3), .val (.ref kk), .val (.int (i3 - (48 : Int32))), .val (.int (0 : Int32)), .val (.int (0 : Int32)), .val (.int (0 : Int32)), .val (.int (1 : Int32)), .val (.int (0 : Int32)), .val (.int (0 : Int32)), .val (.int (0 : Int32)), .val (.int (0 : Int32))] [(.int (0 : Int32)), (.int (0 : Int32))])) _
  refine XS.icmpNo X15.here hx rfl (hb hby at_465) rfl (teq (rfl : (0 : Int32) = (0 : Int32))).2 ?_
  show Steps p.tables e below (T15.setTop (mkF m 468 #[s0, s1, s2, .val (.int i3), .val (.ref kk), .val (.int (i3 - (48 : Int32))), .val (.int (0 : Int32)), .val (.int (0 : Int32)), .val (.int (0 : Int32)), .val (.int (1 : Int32)), .val (.int (0 : Int32)), .val (.int (0 : Int32)), .val (.int (0 : Int32)), .val (.int (0 : Int32))] [])) _
  refine XS.aload X15.here hx rfl (hb hby at_468) rfl rfl ?_
  show Steps p.tables e below (T15.setTop (mkF m 470 #[s0, s1, s2, .val (.int i3), .val (.ref kk), .val (.int (i3 - (48 : Int32))), .val (.int (0 : Int32)), .val (.int (0 : Int32)), .val (.int (0 : Int32)), .val (.int (1 : Int32)), .val (.int (0 : Int32)), .val (.int (0 : Int32)), .val (.int (0 : Int32)), .val (.int (0 : Int32))] [(.ref kk)])) _
  refine st17 _ ?_
  show Steps p.tables e below (T17.setTop (mkF m 473 #[s0, s1, s2, .val (.int i3), .val (.ref kk), .val (.int (i3 - (48 : Int32))), .val (.int (0 : Int32)), .val (.int (0 : Int32)), .val (.int (0 : Int32)), .val (.int (1 : Int32)), .val (.int (0 : Int32)), .val (.int (0 : Int32)), .val (.int (0 : Int32)), .val (.int (0 : Int32))] [(.ref w16), (.ref kk)])) _
  refine Jvm.RoadKit.acmp (g := (mkF m 473 #[s0, s1, s2, .val (.int i3), .val (.ref kk), .val (.int (i3 - (48 : Int32))), .val (.int (0 : Int32)), .val (.int (0 : Int32)), .val (.int (0 : Int32)), .val (.int (1 : Int32)), .val (.int (0 : Int32)), .val (.int (0 : Int32)), .val (.int (0 : Int32)), .val (.int (0 : Int32))] [(.ref w16), (.ref kk)])) X17 hx rfl rfl rfl (pc0 := 473) (pc' := 480) (same := false) rfl (hb hby at_473) rfl (decide_eq_false fun q => ha473 (Value.ref.inj q)) (by decide) (by decide) ?_
  show Steps p.tables e below (T17.setTop (mkF m 480 #[s0, s1, s2, .val (.int i3), .val (.ref kk), .val (.int (i3 - (48 : Int32))), .val (.int (0 : Int32)), .val (.int (0 : Int32)), .val (.int (0 : Int32)), .val (.int (1 : Int32)), .val (.int (0 : Int32)), .val (.int (0 : Int32)), .val (.int (0 : Int32)), .val (.int (0 : Int32))] [])) _
  refine XS.iconst X17.here hx rfl (hb hby at_480) ?_
  show Steps p.tables e below (T17.setTop (mkF m 481 #[s0, s1, s2, .val (.int i3), .val (.ref kk), .val (.int (i3 - (48 : Int32))), .val (.int (0 : Int32)), .val (.int (0 : Int32)), .val (.int (0 : Int32)), .val (.int (1 : Int32)), .val (.int (0 : Int32)), .val (.int (0 : Int32)), .val (.int (0 : Int32)), .val (.int (0 : Int32))] [(.int (0 : Int32))])) _
  refine XS.iload X17.here hx rfl (hb hby at_481) rfl ?_
  show Steps p.tables e below (T17.setTop (mkF m 483 #[s0, s1, s2, .val (.int i3), .val (.ref kk), .val (.int (i3 - (48 : Int32))), .val (.int (0 : Int32)), .val (.int (0 : Int32)), .val (.int (0 : Int32)), .val (.int (1 : Int32)), .val (.int (0 : Int32)), .val (.int (0 : Int32)), .val (.int (0 : Int32)), .val (.int (0 : Int32))] [(.int (0 : Int32)), (.int (0 : Int32))])) _
  refine XS.icmpNo X17.here hx rfl (hb hby at_483) rfl (teq (rfl : (0 : Int32) = (0 : Int32))).2 ?_
  show Steps p.tables e below (T17.setTop (mkF m 486 #[s0, s1, s2, .val (.int i3), .val (.ref kk), .val (.int (i3 - (48 : Int32))), .val (.int (0 : Int32)), .val (.int (0 : Int32)), .val (.int (0 : Int32)), .val (.int (1 : Int32)), .val (.int (0 : Int32)), .val (.int (0 : Int32)), .val (.int (0 : Int32)), .val (.int (0 : Int32))] [])) _
  refine XS.aload X17.here hx rfl (hb hby at_486) rfl rfl ?_
  show Steps p.tables e below (T17.setTop (mkF m 488 #[s0, s1, s2, .val (.int i3), .val (.ref kk), .val (.int (i3 - (48 : Int32))), .val (.int (0 : Int32)), .val (.int (0 : Int32)), .val (.int (0 : Int32)), .val (.int (1 : Int32)), .val (.int (0 : Int32)), .val (.int (0 : Int32)), .val (.int (0 : Int32)), .val (.int (0 : Int32))] [(.ref kk)])) _
  refine XS.ifnonnullYes X17.here hx rfl (pc0 := 488) (pc' := 495) rfl (hb hby at_488) rfl (by decide) (by decide) ?_
  show Steps p.tables e below (T17.setTop (mkF m 495 #[s0, s1, s2, .val (.int i3), .val (.ref kk), .val (.int (i3 - (48 : Int32))), .val (.int (0 : Int32)), .val (.int (0 : Int32)), .val (.int (0 : Int32)), .val (.int (1 : Int32)), .val (.int (0 : Int32)), .val (.int (0 : Int32)), .val (.int (0 : Int32)), .val (.int (0 : Int32))] [])) _
  refine XS.iconst X17.here hx rfl (hb hby at_495) ?_
  show Steps p.tables e below (T17.setTop (mkF m 496 #[s0, s1, s2, .val (.int i3), .val (.ref kk), .val (.int (i3 - (48 : Int32))), .val (.int (0 : Int32)), .val (.int (0 : Int32)), .val (.int (0 : Int32)), .val (.int (1 : Int32)), .val (.int (0 : Int32)), .val (.int (0 : Int32)), .val (.int (0 : Int32)), .val (.int (0 : Int32))] [(.int (0 : Int32))])) _
  refine XS.iload X17.here hx rfl (hb hby at_496) rfl ?_
  show Steps p.tables e below (T17.setTop (mkF m 498 #[s0, s1, s2, .val (.int i3), .val (.ref kk), .val (.int (i3 - (48 : Int32))), .val (.int (0 : Int32)), .val (.int (0 : Int32)), .val (.int (0 : Int32)), .val (.int (1 : Int32)), .val (.int (0 : Int32)), .val (.int (0 : Int32)), .val (.int (0 : Int32)), .val (.int (0 : Int32))] [(.int (0 : Int32)), (.int (0 : Int32))])) _
  refine XS.icmpNo X17.here hx rfl (hb hby at_498) rfl (teq (rfl : (0 : Int32) = (0 : Int32))).2 ?_
  show Steps p.tables e below (T17.setTop (mkF m 501 #[s0, s1, s2, .val (.int i3), .val (.ref kk), .val (.int (i3 - (48 : Int32))), .val (.int (0 : Int32)), .val (.int (0 : Int32)), .val (.int (0 : Int32)), .val (.int (1 : Int32)), .val (.int (0 : Int32)), .val (.int (0 : Int32)), .val (.int (0 : Int32)), .val (.int (0 : Int32))] [])) _
  refine XS.iconst X17.here hx rfl (hb hby at_501) ?_
  show Steps p.tables e below (T17.setTop (mkF m 502 #[s0, s1, s2, .val (.int i3), .val (.ref kk), .val (.int (i3 - (48 : Int32))), .val (.int (0 : Int32)), .val (.int (0 : Int32)), .val (.int (0 : Int32)), .val (.int (1 : Int32)), .val (.int (0 : Int32)), .val (.int (0 : Int32)), .val (.int (0 : Int32)), .val (.int (0 : Int32))] [(.int (1 : Int32))])) _
  refine XS.goto X17.here hx rfl (pc0 := 502) (pc' := 506) rfl (hb hby at_502) (by decide) (by decide) ?_
  exact kt
set_option maxRecDepth 65536 in
set_option maxHeartbeats 40000000 in
theorem own_segC_dig {p : Program} {l : Launch} {e : Env} {s : State} {m : MethodId} {args : Array Value} {below : List Frame} {meth : Method} {c : Code} {T0 : State} {locs : List Loc} {Z : State} {a0 : Array Value} {h0 : Heap} {n0 : Nat} (s0 : Slot) (s1 : Slot) (s2 : Slot) (i3 : Int32) (s4 : Slot) (s5 : Slot) (s6 : Slot) (s7 : Slot) (s8 : Slot) (s9 : Slot) (s10 : Slot) (s11 : Slot) (s12 : Slot) (s13 : Slot) (w4 : Addr) (w6 : Addr) (w8 : Addr) (w10 : Addr) (w12 : Addr) (w14 : Addr) (w16 : Addr)
    (kk : Addr) (X0 : Stand p l e room_1 s m args below meth c T0 locs 1 30) (hx : p.tables.exec = Jvm.exec) (hZ : Z.Warmed39 s.vm) (hw : ∀ d ∈ tables_1, d.before a0 Z = true) (hby : c.code = code) (hml : c.maxLocals = 14) (hown : s.vm.findClass "com/example/tenkyo/tenkyo/exchange/KindOfPinLaw" = some m.cls) (e0 : T0.heap = h0) (N0 : Fr n0 locs) (hof : MetFree l (⟨"com/example/tenkyo/tenkyo/exchange/Json$Kind", "of", "(C)Lcom/example/tenkyo/tenkyo/exchange/Json$Kind;"⟩ : MethodName) (head1 (Jvm.Cond.code (⟨"com/example/tenkyo/tenkyo/exchange/Json$Kind", "of", "(C)Lcom/example/tenkyo/tenkyo/exchange/Json$Kind;"⟩ : MethodName) prog_14_method_6_code 2 (some (.object "com/example/tenkyo/tenkyo/exchange/Json$Kind")) :: []) ({ frames := 0, cells := 0, slots := 0, locals := 0 } : Room)) (fun a U => a = #[(.int i3)] ∧ Z.Warmed39 U.vm ∧ U.heap = h0) (fun _ _ _ _ _ => True) (fun _ U o U' => ∃ v L, o = .returned v ∧ Qk (.ref kk) h0 n0 v U'.heap L ∧ FrameEnd U o U' L ({ frames := 0, cells := 0, slots := 0, locals := 0 } : Room).cells ({ frames := 0, cells := 0, slots := 0, locals := 0 } : Room).slots)) (hs4 : One s4) (hs5 : One s5) (hs6 : One s6) (hs7 : One s7) (hs8 : One s8) (hs9 : One s9) (hs10 : One s10) (hs11 : One s11) (hs12 : One s12) (hs13 : One s13) (S_OBJECT : Sta Z h0 "com/example/tenkyo/tenkyo/exchange/Json$Kind" "OBJECT" "Lcom/example/tenkyo/tenkyo/exchange/Json$Kind;" (.ref w4)) (S_ARRAY : Sta Z h0 "com/example/tenkyo/tenkyo/exchange/Json$Kind" "ARRAY" "Lcom/example/tenkyo/tenkyo/exchange/Json$Kind;" (.ref w6)) (S_STRING : Sta Z h0 "com/example/tenkyo/tenkyo/exchange/Json$Kind" "STRING" "Lcom/example/tenkyo/tenkyo/exchange/Json$Kind;" (.ref w8)) (S_NUMBER : Sta Z h0 "com/example/tenkyo/tenkyo/exchange/Json$Kind" "NUMBER" "Lcom/example/tenkyo/tenkyo/exchange/Json$Kind;" (.ref w10)) (S_TRUE : Sta Z h0 "com/example/tenkyo/tenkyo/exchange/Json$Kind" "TRUE" "Lcom/example/tenkyo/tenkyo/exchange/Json$Kind;" (.ref w12)) (S_FALSE : Sta Z h0 "com/example/tenkyo/tenkyo/exchange/Json$Kind" "FALSE" "Lcom/example/tenkyo/tenkyo/exchange/Json$Kind;" (.ref w14)) (S_NULL : Sta Z h0 "com/example/tenkyo/tenkyo/exchange/Json$Kind" "NULL" "Lcom/example/tenkyo/tenkyo/exchange/Json$Kind;" (.ref w16)) (hc218 : ¬ (i3 = (123 : Int32))) (hc231 : ¬ (i3 = (91 : Int32))) (hc244 : ¬ (i3 = (34 : Int32))) (hc257 : ¬ (i3 = (45 : Int32))) (hc262 : ¬ ((i3 - (48 : Int32)) < (0 : Int32))) (hc269 : (i3 - (48 : Int32)) < (10 : Int32)) (hc282 : ¬ (i3 = (116 : Int32))) (hc295 : ¬ (i3 = (102 : Int32))) (hc308 : ¬ (i3 = (110 : Int32))) (hc335 : ¬ ((1 : Int32) = (0 : Int32))) (ha365 : ¬ (kk = w4)) (ha383 : ¬ (kk = w6)) (ha401 : ¬ (kk = w8)) (ha419 : kk = w10) (ha437 : ¬ (kk = w12)) (ha455 : ¬ (kk = w14)) (ha473 : ¬ (kk = w16)) :
    ∃ (T' : State) (L' : List Loc) (Ls : Array Slot), Stand p l e room_1 s m args below meth c T' L' 1 30 ∧ Fr n0 L' ∧
      ∀ target, Steps p.tables e below (T'.setTop (mkF m 506 Ls [(.int (1 : Int32))])) target → Steps p.tables e below (T0.setTop (mkF m 203 #[s0, s1, s2, .val (.int i3), s4, s5, s6, s7, s8, s9, s10, s11, s12, s13] [])) target := by
  obtain ⟨_, _, ⟨T3, L3, k3, n3⟩, -, X3, ⟨Lc3, hQ3, l3, y3, z3⟩, st3⟩ := Jvm.LawKit.callS X0 hx (y := (⟨"com/example/tenkyo/tenkyo/exchange/Json$Kind", "of", "(C)Lcom/example/tenkyo/tenkyo/exchange/Json$Kind;"⟩ : MethodName)) hown (mvT hZ (hw _ (List.mem_of_getElem? (i := 3) rfl))) (mvT hZ (hw _ (List.mem_of_getElem? (i := 4) rfl))) (mvT hZ (hw _ (List.mem_of_getElem? (i := 5) rfl))) (mvT hZ (hw _ (List.mem_of_getElem? (i := 6) rfl))) (by decide) (backOf (W := 0) hof hZ (hw _ (List.mem_of_getElem? (i := 6) rfl)) (hw _ (List.mem_of_getElem? (i := 5) rfl)) (by decide) (by decide)) (g := (mkF m 204 #[s0, s1, s2, .val (.int i3), s4, s5, s6, s7, s8, s9, s10, s11, s12, s13] [(.int i3)])) rfl (by rw [hml]; rfl) (argsL := [(.int i3)]) (rest := []) (lenOf pd_0_0 rfl) rfl (by show 2 * 0 + _ ≤ _; exact Nat.le_of_eq rfl) (hb hby at_204) (fun _ _ => ⟨rfl, e0, (by decide : 1 + 0 ≤ _), (by decide : 30 + 0 ≤ _)⟩)
  dsimp only [Pt.U, Pt.locs, Pt.cells, Pt.slots] at X3 l3 y3 z3 st3 hQ3
  subst l3 y3 z3
  obtain ⟨rfl, N3q, e3⟩ := hQ3
  have N3 := Fr.app N0 N3q
  obtain ⟨T5, X5, e5, st5⟩ := getS2 X3 hx hZ hown (host := "") (Or.inl (hw _ (List.mem_of_getElem? (i := 9) rfl))) Via.refl e3 S_OBJECT (g := (mkF m 362 #[s0, s1, s2, .val (.int i3), .val (.ref kk), .val (.int (i3 - (48 : Int32))), .val (.int (0 : Int32)), .val (.int (0 : Int32)), .val (.int (0 : Int32)), .val (.int (1 : Int32)), .val (.int (0 : Int32)), .val (.int (0 : Int32)), .val (.int (0 : Int32)), .val (.int (0 : Int32))] [(.ref kk)])) rfl (hb hby at_362)
  obtain ⟨T7, X7, e7, st7⟩ := getS2 X5 hx hZ hown (host := "") (Or.inl (hw _ (List.mem_of_getElem? (i := 10) rfl))) Via.refl e5 S_ARRAY (g := (mkF m 380 #[s0, s1, s2, .val (.int i3), .val (.ref kk), .val (.int (i3 - (48 : Int32))), .val (.int (0 : Int32)), .val (.int (0 : Int32)), .val (.int (0 : Int32)), .val (.int (1 : Int32)), .val (.int (0 : Int32)), .val (.int (0 : Int32)), .val (.int (0 : Int32)), .val (.int (0 : Int32))] [(.ref kk)])) rfl (hb hby at_380)
  obtain ⟨T9, X9, e9, st9⟩ := getS2 X7 hx hZ hown (host := "") (Or.inl (hw _ (List.mem_of_getElem? (i := 12) rfl))) Via.refl e7 S_STRING (g := (mkF m 398 #[s0, s1, s2, .val (.int i3), .val (.ref kk), .val (.int (i3 - (48 : Int32))), .val (.int (0 : Int32)), .val (.int (0 : Int32)), .val (.int (0 : Int32)), .val (.int (1 : Int32)), .val (.int (0 : Int32)), .val (.int (0 : Int32)), .val (.int (0 : Int32)), .val (.int (0 : Int32))] [(.ref kk)])) rfl (hb hby at_398)
  obtain ⟨T11, X11, e11, st11⟩ := getS2 X9 hx hZ hown (host := "") (Or.inl (hw _ (List.mem_of_getElem? (i := 14) rfl))) Via.refl e9 S_NUMBER (g := (mkF m 416 #[s0, s1, s2, .val (.int i3), .val (.ref kk), .val (.int (i3 - (48 : Int32))), .val (.int (0 : Int32)), .val (.int (0 : Int32)), .val (.int (0 : Int32)), .val (.int (1 : Int32)), .val (.int (0 : Int32)), .val (.int (0 : Int32)), .val (.int (0 : Int32)), .val (.int (0 : Int32))] [(.ref kk)])) rfl (hb hby at_416)
  obtain ⟨T13, X13, e13, st13⟩ := getS2 X11 hx hZ hown (host := "") (Or.inl (hw _ (List.mem_of_getElem? (i := 16) rfl))) Via.refl e11 S_TRUE (g := (mkF m 434 #[s0, s1, s2, .val (.int i3), .val (.ref kk), .val (.int (i3 - (48 : Int32))), .val (.int (0 : Int32)), .val (.int (0 : Int32)), .val (.int (0 : Int32)), .val (.int (1 : Int32)), .val (.int (0 : Int32)), .val (.int (0 : Int32)), .val (.int (0 : Int32)), .val (.int (0 : Int32))] [(.ref kk)])) rfl (hb hby at_434)
  obtain ⟨T15, X15, e15, st15⟩ := getS2 X13 hx hZ hown (host := "") (Or.inl (hw _ (List.mem_of_getElem? (i := 18) rfl))) Via.refl e13 S_FALSE (g := (mkF m 452 #[s0, s1, s2, .val (.int i3), .val (.ref kk), .val (.int (i3 - (48 : Int32))), .val (.int (0 : Int32)), .val (.int (0 : Int32)), .val (.int (0 : Int32)), .val (.int (1 : Int32)), .val (.int (0 : Int32)), .val (.int (0 : Int32)), .val (.int (0 : Int32)), .val (.int (0 : Int32))] [(.ref kk)])) rfl (hb hby at_452)
  obtain ⟨T17, X17, e17, st17⟩ := getS2 X15 hx hZ hown (host := "") (Or.inl (hw _ (List.mem_of_getElem? (i := 20) rfl))) Via.refl e15 S_NULL (g := (mkF m 470 #[s0, s1, s2, .val (.int i3), .val (.ref kk), .val (.int (i3 - (48 : Int32))), .val (.int (0 : Int32)), .val (.int (0 : Int32)), .val (.int (0 : Int32)), .val (.int (1 : Int32)), .val (.int (0 : Int32)), .val (.int (0 : Int32)), .val (.int (0 : Int32)), .val (.int (0 : Int32))] [(.ref kk)])) rfl (hb hby at_470)
  refine ⟨T17, _, #[s0, s1, s2, .val (.int i3), .val (.ref kk), .val (.int (i3 - (48 : Int32))), .val (.int (0 : Int32)), .val (.int (0 : Int32)), .val (.int (0 : Int32)), .val (.int (1 : Int32)), .val (.int (0 : Int32)), .val (.int (0 : Int32)), .val (.int (0 : Int32)), .val (.int (0 : Int32))], X17, N3, fun target kt => ?_⟩
  show Steps p.tables e below (T0.setTop (mkF m 203 #[s0, s1, s2, .val (.int i3), s4, s5, s6, s7, s8, s9, s10, s11, s12, s13] [])) _
  refine XS.iloadN X0.here hx rfl (hb hby at_203) rfl ?_
  show Steps p.tables e below (T0.setTop (mkF m 204 #[s0, s1, s2, .val (.int i3), s4, s5, s6, s7, s8, s9, s10, s11, s12, s13] [(.int i3)])) _
  refine st3 _ ?_
  show Steps p.tables e below (T3.setTop (mkF m 207 #[s0, s1, s2, .val (.int i3), s4, s5, s6, s7, s8, s9, s10, s11, s12, s13] [(.ref kk)])) _
  refine XS.astore X3.here hx rfl (hb hby at_207) rfl rfl (l' := #[s0, s1, s2, .val (.int i3), .val (.ref kk), s5, s6, s7, s8, s9, s10, s11, s12, s13]) (os0_207 hs4) ?_
  show Steps p.tables e below (T3.setTop (mkF m 209 #[s0, s1, s2, .val (.int i3), .val (.ref kk), s5, s6, s7, s8, s9, s10, s11, s12, s13] [])) _
  refine XS.iloadN X3.here hx rfl (hb hby at_209) rfl ?_
  show Steps p.tables e below (T3.setTop (mkF m 210 #[s0, s1, s2, .val (.int i3), .val (.ref kk), s5, s6, s7, s8, s9, s10, s11, s12, s13] [(.int i3)])) _
  refine XS.bipush X3.here hx rfl (hb hby at_210) ?_
  show Steps p.tables e below (T3.setTop (mkF m 212 #[s0, s1, s2, .val (.int i3), .val (.ref kk), s5, s6, s7, s8, s9, s10, s11, s12, s13] [(.int (48 : Int32)), (.int i3)])) _
  refine XS.isub X3.here hx rfl (hb hby at_212) rfl ?_
  show Steps p.tables e below (T3.setTop (mkF m 213 #[s0, s1, s2, .val (.int i3), .val (.ref kk), s5, s6, s7, s8, s9, s10, s11, s12, s13] [(.int (i3 - (48 : Int32)))])) _
  refine XS.istore X3.here hx rfl (hb hby at_213) rfl (l' := #[s0, s1, s2, .val (.int i3), .val (.ref kk), .val (.int (i3 - (48 : Int32))), s6, s7, s8, s9, s10, s11, s12, s13]) (os0_213 hs5) ?_
  show Steps p.tables e below (T3.setTop (mkF m 215 #[s0, s1, s2, .val (.int i3), .val (.ref kk), .val (.int (i3 - (48 : Int32))), s6, s7, s8, s9, s10, s11, s12, s13] [])) _
  refine XS.iloadN X3.here hx rfl (hb hby at_215) rfl ?_
  show Steps p.tables e below (T3.setTop (mkF m 216 #[s0, s1, s2, .val (.int i3), .val (.ref kk), .val (.int (i3 - (48 : Int32))), s6, s7, s8, s9, s10, s11, s12, s13] [(.int i3)])) _
  refine XS.bipush X3.here hx rfl (hb hby at_216) ?_
  show Steps p.tables e below (T3.setTop (mkF m 218 #[s0, s1, s2, .val (.int i3), .val (.ref kk), .val (.int (i3 - (48 : Int32))), s6, s7, s8, s9, s10, s11, s12, s13] [(.int (123 : Int32)), (.int i3)])) _
  refine XS.icmpYes X3.here hx rfl (pc0 := 218) (pc' := 225) rfl (hb hby at_218) rfl (feq hc218).2 (by decide) (by decide) ?_
  show Steps p.tables e below (T3.setTop (mkF m 225 #[s0, s1, s2, .val (.int i3), .val (.ref kk), .val (.int (i3 - (48 : Int32))), s6, s7, s8, s9, s10, s11, s12, s13] [])) _
  refine XS.iconst X3.here hx rfl (hb hby at_225) ?_
  show Steps p.tables e below (T3.setTop (mkF m 226 #[s0, s1, s2, .val (.int i3), .val (.ref kk), .val (.int (i3 - (48 : Int32))), s6, s7, s8, s9, s10, s11, s12, s13] [(.int (0 : Int32))])) _
  refine XS.istore X3.here hx rfl (hb hby at_226) rfl (l' := #[s0, s1, s2, .val (.int i3), .val (.ref kk), .val (.int (i3 - (48 : Int32))), .val (.int (0 : Int32)), s7, s8, s9, s10, s11, s12, s13]) (os0_226 hs6) ?_
  show Steps p.tables e below (T3.setTop (mkF m 228 #[s0, s1, s2, .val (.int i3), .val (.ref kk), .val (.int (i3 - (48 : Int32))), .val (.int (0 : Int32)), s7, s8, s9, s10, s11, s12, s13] [])) _
  refine XS.iloadN X3.here hx rfl (hb hby at_228) rfl ?_
  show Steps p.tables e below (T3.setTop (mkF m 229 #[s0, s1, s2, .val (.int i3), .val (.ref kk), .val (.int (i3 - (48 : Int32))), .val (.int (0 : Int32)), s7, s8, s9, s10, s11, s12, s13] [(.int i3)])) _
  refine XS.bipush X3.here hx rfl (hb hby at_229) ?_
  show Steps p.tables e below (T3.setTop (mkF m 231 #[s0, s1, s2, .val (.int i3), .val (.ref kk), .val (.int (i3 - (48 : Int32))), .val (.int (0 : Int32)), s7, s8, s9, s10, s11, s12, s13] [(.int (91 : Int32)), (.int i3)])) _
  refine XS.icmpYes X3.here hx rfl (pc0 := 231) (pc' := 238) rfl (hb hby at_231) rfl (feq hc231).2 (by decide) (by decide) ?_
  show Steps p.tables e below (T3.setTop (mkF m 238 #[s0, s1, s2, .val (.int i3), .val (.ref kk), .val (.int (i3 - (48 : Int32))), .val (.int (0 : Int32)), s7, s8, s9, s10, s11, s12, s13] [])) _
  refine XS.iconst X3.here hx rfl (hb hby at_238) ?_
  show Steps p.tables e below (T3.setTop (mkF m 239 #[s0, s1, s2, .val (.int i3), .val (.ref kk), .val (.int (i3 - (48 : Int32))), .val (.int (0 : Int32)), s7, s8, s9, s10, s11, s12, s13] [(.int (0 : Int32))])) _
  refine XS.istore X3.here hx rfl (hb hby at_239) rfl (l' := #[s0, s1, s2, .val (.int i3), .val (.ref kk), .val (.int (i3 - (48 : Int32))), .val (.int (0 : Int32)), .val (.int (0 : Int32)), s8, s9, s10, s11, s12, s13]) (os0_239 hs7) ?_
  show Steps p.tables e below (T3.setTop (mkF m 241 #[s0, s1, s2, .val (.int i3), .val (.ref kk), .val (.int (i3 - (48 : Int32))), .val (.int (0 : Int32)), .val (.int (0 : Int32)), s8, s9, s10, s11, s12, s13] [])) _
  refine XS.iloadN X3.here hx rfl (hb hby at_241) rfl ?_
  show Steps p.tables e below (T3.setTop (mkF m 242 #[s0, s1, s2, .val (.int i3), .val (.ref kk), .val (.int (i3 - (48 : Int32))), .val (.int (0 : Int32)), .val (.int (0 : Int32)), s8, s9, s10, s11, s12, s13] [(.int i3)])) _
  refine XS.bipush X3.here hx rfl (hb hby at_242) ?_
  show Steps p.tables e below (T3.setTop (mkF m 244 #[s0, s1, s2, .val (.int i3), .val (.ref kk), .val (.int (i3 - (48 : Int32))), .val (.int (0 : Int32)), .val (.int (0 : Int32)), s8, s9, s10, s11, s12, s13] [(.int (34 : Int32)), (.int i3)])) _
  refine XS.icmpYes X3.here hx rfl (pc0 := 244) (pc' := 251) rfl (hb hby at_244) rfl (feq hc244).2 (by decide) (by decide) ?_
  show Steps p.tables e below (T3.setTop (mkF m 251 #[s0, s1, s2, .val (.int i3), .val (.ref kk), .val (.int (i3 - (48 : Int32))), .val (.int (0 : Int32)), .val (.int (0 : Int32)), s8, s9, s10, s11, s12, s13] [])) _
  refine XS.iconst X3.here hx rfl (hb hby at_251) ?_
  show Steps p.tables e below (T3.setTop (mkF m 252 #[s0, s1, s2, .val (.int i3), .val (.ref kk), .val (.int (i3 - (48 : Int32))), .val (.int (0 : Int32)), .val (.int (0 : Int32)), s8, s9, s10, s11, s12, s13] [(.int (0 : Int32))])) _
  refine XS.istore X3.here hx rfl (hb hby at_252) rfl (l' := #[s0, s1, s2, .val (.int i3), .val (.ref kk), .val (.int (i3 - (48 : Int32))), .val (.int (0 : Int32)), .val (.int (0 : Int32)), .val (.int (0 : Int32)), s9, s10, s11, s12, s13]) (os0_252 hs8) ?_
  show Steps p.tables e below (T3.setTop (mkF m 254 #[s0, s1, s2, .val (.int i3), .val (.ref kk), .val (.int (i3 - (48 : Int32))), .val (.int (0 : Int32)), .val (.int (0 : Int32)), .val (.int (0 : Int32)), s9, s10, s11, s12, s13] [])) _
  refine XS.iloadN X3.here hx rfl (hb hby at_254) rfl ?_
  show Steps p.tables e below (T3.setTop (mkF m 255 #[s0, s1, s2, .val (.int i3), .val (.ref kk), .val (.int (i3 - (48 : Int32))), .val (.int (0 : Int32)), .val (.int (0 : Int32)), .val (.int (0 : Int32)), s9, s10, s11, s12, s13] [(.int i3)])) _
  refine XS.bipush X3.here hx rfl (hb hby at_255) ?_
  show Steps p.tables e below (T3.setTop (mkF m 257 #[s0, s1, s2, .val (.int i3), .val (.ref kk), .val (.int (i3 - (48 : Int32))), .val (.int (0 : Int32)), .val (.int (0 : Int32)), .val (.int (0 : Int32)), s9, s10, s11, s12, s13] [(.int (45 : Int32)), (.int i3)])) _
  refine XS.icmpNo X3.here hx rfl (hb hby at_257) rfl (feq hc257).1 ?_
  show Steps p.tables e below (T3.setTop (mkF m 260 #[s0, s1, s2, .val (.int i3), .val (.ref kk), .val (.int (i3 - (48 : Int32))), .val (.int (0 : Int32)), .val (.int (0 : Int32)), .val (.int (0 : Int32)), s9, s10, s11, s12, s13] [])) _
  refine XS.iload X3.here hx rfl (hb hby at_260) rfl ?_
  show Steps p.tables e below (T3.setTop (mkF m 262 #[s0, s1, s2, .val (.int i3), .val (.ref kk), .val (.int (i3 - (48 : Int32))), .val (.int (0 : Int32)), .val (.int (0 : Int32)), .val (.int (0 : Int32)), s9, s10, s11, s12, s13] [(.int (i3 - (48 : Int32)))])) _
  refine XS.ifNo X3.here hx rfl (hb hby at_262) rfl ((if0 _ _).trans (flt hc262).1) ?_
  show Steps p.tables e below (T3.setTop (mkF m 265 #[s0, s1, s2, .val (.int i3), .val (.ref kk), .val (.int (i3 - (48 : Int32))), .val (.int (0 : Int32)), .val (.int (0 : Int32)), .val (.int (0 : Int32)), s9, s10, s11, s12, s13] [])) _
  refine XS.iload X3.here hx rfl (hb hby at_265) rfl ?_
  show Steps p.tables e below (T3.setTop (mkF m 267 #[s0, s1, s2, .val (.int i3), .val (.ref kk), .val (.int (i3 - (48 : Int32))), .val (.int (0 : Int32)), .val (.int (0 : Int32)), .val (.int (0 : Int32)), s9, s10, s11, s12, s13] [(.int (i3 - (48 : Int32)))])) _
  refine XS.bipush X3.here hx rfl (hb hby at_267) ?_
  show Steps p.tables e below (T3.setTop (mkF m 269 #[s0, s1, s2, .val (.int i3), .val (.ref kk), .val (.int (i3 - (48 : Int32))), .val (.int (0 : Int32)), .val (.int (0 : Int32)), .val (.int (0 : Int32)), s9, s10, s11, s12, s13] [(.int (10 : Int32)), (.int (i3 - (48 : Int32)))])) _
  refine XS.icmpNo X3.here hx rfl (hb hby at_269) rfl (tlt hc269).2.1 ?_
  show Steps p.tables e below (T3.setTop (mkF m 272 #[s0, s1, s2, .val (.int i3), .val (.ref kk), .val (.int (i3 - (48 : Int32))), .val (.int (0 : Int32)), .val (.int (0 : Int32)), .val (.int (0 : Int32)), s9, s10, s11, s12, s13] [])) _
  refine XS.iconst X3.here hx rfl (hb hby at_272) ?_
  show Steps p.tables e below (T3.setTop (mkF m 273 #[s0, s1, s2, .val (.int i3), .val (.ref kk), .val (.int (i3 - (48 : Int32))), .val (.int (0 : Int32)), .val (.int (0 : Int32)), .val (.int (0 : Int32)), s9, s10, s11, s12, s13] [(.int (1 : Int32))])) _
  refine XS.goto X3.here hx rfl (pc0 := 273) (pc' := 277) rfl (hb hby at_273) (by decide) (by decide) ?_
  show Steps p.tables e below (T3.setTop (mkF m 277 #[s0, s1, s2, .val (.int i3), .val (.ref kk), .val (.int (i3 - (48 : Int32))), .val (.int (0 : Int32)), .val (.int (0 : Int32)), .val (.int (0 : Int32)), s9, s10, s11, s12, s13] [(.int (1 : Int32))])) _
  refine XS.istore X3.here hx rfl (hb hby at_277) rfl (l' := #[s0, s1, s2, .val (.int i3), .val (.ref kk), .val (.int (i3 - (48 : Int32))), .val (.int (0 : Int32)), .val (.int (0 : Int32)), .val (.int (0 : Int32)), .val (.int (1 : Int32)), s10, s11, s12, s13]) (os0_277 hs9) ?_
  show Steps p.tables e below (T3.setTop (mkF m 279 #[s0, s1, s2, .val (.int i3), .val (.ref kk), .val (.int (i3 - (48 : Int32))), .val (.int (0 : Int32)), .val (.int (0 : Int32)), .val (.int (0 : Int32)), .val (.int (1 : Int32)), s10, s11, s12, s13] [])) _
  refine XS.iloadN X3.here hx rfl (hb hby at_279) rfl ?_
  show Steps p.tables e below (T3.setTop (mkF m 280 #[s0, s1, s2, .val (.int i3), .val (.ref kk), .val (.int (i3 - (48 : Int32))), .val (.int (0 : Int32)), .val (.int (0 : Int32)), .val (.int (0 : Int32)), .val (.int (1 : Int32)), s10, s11, s12, s13] [(.int i3)])) _
  refine XS.bipush X3.here hx rfl (hb hby at_280) ?_
  show Steps p.tables e below (T3.setTop (mkF m 282 #[s0, s1, s2, .val (.int i3), .val (.ref kk), .val (.int (i3 - (48 : Int32))), .val (.int (0 : Int32)), .val (.int (0 : Int32)), .val (.int (0 : Int32)), .val (.int (1 : Int32)), s10, s11, s12, s13] [(.int (116 : Int32)), (.int i3)])) _
  refine XS.icmpYes X3.here hx rfl (pc0 := 282) (pc' := 289) rfl (hb hby at_282) rfl (feq hc282).2 (by decide) (by decide) ?_
  show Steps p.tables e below (T3.setTop (mkF m 289 #[s0, s1, s2, .val (.int i3), .val (.ref kk), .val (.int (i3 - (48 : Int32))), .val (.int (0 : Int32)), .val (.int (0 : Int32)), .val (.int (0 : Int32)), .val (.int (1 : Int32)), s10, s11, s12, s13] [])) _
  refine XS.iconst X3.here hx rfl (hb hby at_289) ?_
  show Steps p.tables e below (T3.setTop (mkF m 290 #[s0, s1, s2, .val (.int i3), .val (.ref kk), .val (.int (i3 - (48 : Int32))), .val (.int (0 : Int32)), .val (.int (0 : Int32)), .val (.int (0 : Int32)), .val (.int (1 : Int32)), s10, s11, s12, s13] [(.int (0 : Int32))])) _
  refine XS.istore X3.here hx rfl (hb hby at_290) rfl (l' := #[s0, s1, s2, .val (.int i3), .val (.ref kk), .val (.int (i3 - (48 : Int32))), .val (.int (0 : Int32)), .val (.int (0 : Int32)), .val (.int (0 : Int32)), .val (.int (1 : Int32)), .val (.int (0 : Int32)), s11, s12, s13]) (os0_290 hs10) ?_
  show Steps p.tables e below (T3.setTop (mkF m 292 #[s0, s1, s2, .val (.int i3), .val (.ref kk), .val (.int (i3 - (48 : Int32))), .val (.int (0 : Int32)), .val (.int (0 : Int32)), .val (.int (0 : Int32)), .val (.int (1 : Int32)), .val (.int (0 : Int32)), s11, s12, s13] [])) _
  refine XS.iloadN X3.here hx rfl (hb hby at_292) rfl ?_
  show Steps p.tables e below (T3.setTop (mkF m 293 #[s0, s1, s2, .val (.int i3), .val (.ref kk), .val (.int (i3 - (48 : Int32))), .val (.int (0 : Int32)), .val (.int (0 : Int32)), .val (.int (0 : Int32)), .val (.int (1 : Int32)), .val (.int (0 : Int32)), s11, s12, s13] [(.int i3)])) _
  refine XS.bipush X3.here hx rfl (hb hby at_293) ?_
  show Steps p.tables e below (T3.setTop (mkF m 295 #[s0, s1, s2, .val (.int i3), .val (.ref kk), .val (.int (i3 - (48 : Int32))), .val (.int (0 : Int32)), .val (.int (0 : Int32)), .val (.int (0 : Int32)), .val (.int (1 : Int32)), .val (.int (0 : Int32)), s11, s12, s13] [(.int (102 : Int32)), (.int i3)])) _
  refine XS.icmpYes X3.here hx rfl (pc0 := 295) (pc' := 302) rfl (hb hby at_295) rfl (feq hc295).2 (by decide) (by decide) ?_
  show Steps p.tables e below (T3.setTop (mkF m 302 #[s0, s1, s2, .val (.int i3), .val (.ref kk), .val (.int (i3 - (48 : Int32))), .val (.int (0 : Int32)), .val (.int (0 : Int32)), .val (.int (0 : Int32)), .val (.int (1 : Int32)), .val (.int (0 : Int32)), s11, s12, s13] [])) _
  refine XS.iconst X3.here hx rfl (hb hby at_302) ?_
  show Steps p.tables e below (T3.setTop (mkF m 303 #[s0, s1, s2, .val (.int i3), .val (.ref kk), .val (.int (i3 - (48 : Int32))), .val (.int (0 : Int32)), .val (.int (0 : Int32)), .val (.int (0 : Int32)), .val (.int (1 : Int32)), .val (.int (0 : Int32)), s11, s12, s13] [(.int (0 : Int32))])) _
  refine XS.istore X3.here hx rfl (hb hby at_303) rfl (l' := #[s0, s1, s2, .val (.int i3), .val (.ref kk), .val (.int (i3 - (48 : Int32))), .val (.int (0 : Int32)), .val (.int (0 : Int32)), .val (.int (0 : Int32)), .val (.int (1 : Int32)), .val (.int (0 : Int32)), .val (.int (0 : Int32)), s12, s13]) (os0_303 hs11) ?_
  show Steps p.tables e below (T3.setTop (mkF m 305 #[s0, s1, s2, .val (.int i3), .val (.ref kk), .val (.int (i3 - (48 : Int32))), .val (.int (0 : Int32)), .val (.int (0 : Int32)), .val (.int (0 : Int32)), .val (.int (1 : Int32)), .val (.int (0 : Int32)), .val (.int (0 : Int32)), s12, s13] [])) _
  refine XS.iloadN X3.here hx rfl (hb hby at_305) rfl ?_
  show Steps p.tables e below (T3.setTop (mkF m 306 #[s0, s1, s2, .val (.int i3), .val (.ref kk), .val (.int (i3 - (48 : Int32))), .val (.int (0 : Int32)), .val (.int (0 : Int32)), .val (.int (0 : Int32)), .val (.int (1 : Int32)), .val (.int (0 : Int32)), .val (.int (0 : Int32)), s12, s13] [(.int i3)])) _
  refine XS.bipush X3.here hx rfl (hb hby at_306) ?_
  show Steps p.tables e below (T3.setTop (mkF m 308 #[s0, s1, s2, .val (.int i3), .val (.ref kk), .val (.int (i3 - (48 : Int32))), .val (.int (0 : Int32)), .val (.int (0 : Int32)), .val (.int (0 : Int32)), .val (.int (1 : Int32)), .val (.int (0 : Int32)), .val (.int (0 : Int32)), s12, s13] [(.int (110 : Int32)), (.int i3)])) _
  refine XS.icmpYes X3.here hx rfl (pc0 := 308) (pc' := 315) rfl (hb hby at_308) rfl (feq hc308).2 (by decide) (by decide) ?_
  show Steps p.tables e below (T3.setTop (mkF m 315 #[s0, s1, s2, .val (.int i3), .val (.ref kk), .val (.int (i3 - (48 : Int32))), .val (.int (0 : Int32)), .val (.int (0 : Int32)), .val (.int (0 : Int32)), .val (.int (1 : Int32)), .val (.int (0 : Int32)), .val (.int (0 : Int32)), s12, s13] [])) _
  refine XS.iconst X3.here hx rfl (hb hby at_315) ?_
  show Steps p.tables e below (T3.setTop (mkF m 316 #[s0, s1, s2, .val (.int i3), .val (.ref kk), .val (.int (i3 - (48 : Int32))), .val (.int (0 : Int32)), .val (.int (0 : Int32)), .val (.int (0 : Int32)), .val (.int (1 : Int32)), .val (.int (0 : Int32)), .val (.int (0 : Int32)), s12, s13] [(.int (0 : Int32))])) _
  refine XS.istore X3.here hx rfl (hb hby at_316) rfl (l' := #[s0, s1, s2, .val (.int i3), .val (.ref kk), .val (.int (i3 - (48 : Int32))), .val (.int (0 : Int32)), .val (.int (0 : Int32)), .val (.int (0 : Int32)), .val (.int (1 : Int32)), .val (.int (0 : Int32)), .val (.int (0 : Int32)), .val (.int (0 : Int32)), s13]) (os0_316 hs12) ?_
  show Steps p.tables e below (T3.setTop (mkF m 318 #[s0, s1, s2, .val (.int i3), .val (.ref kk), .val (.int (i3 - (48 : Int32))), .val (.int (0 : Int32)), .val (.int (0 : Int32)), .val (.int (0 : Int32)), .val (.int (1 : Int32)), .val (.int (0 : Int32)), .val (.int (0 : Int32)), .val (.int (0 : Int32)), s13] [])) _
  refine XS.iload X3.here hx rfl (hb hby at_318) rfl ?_
  show Steps p.tables e below (T3.setTop (mkF m 320 #[s0, s1, s2, .val (.int i3), .val (.ref kk), .val (.int (i3 - (48 : Int32))), .val (.int (0 : Int32)), .val (.int (0 : Int32)), .val (.int (0 : Int32)), .val (.int (1 : Int32)), .val (.int (0 : Int32)), .val (.int (0 : Int32)), .val (.int (0 : Int32)), s13] [(.int (0 : Int32))])) _
  refine XS.ifNo X3.here hx rfl (hb hby at_320) rfl ((if0 _ _).trans (teq (rfl : (0 : Int32) = (0 : Int32))).2) ?_
  show Steps p.tables e below (T3.setTop (mkF m 323 #[s0, s1, s2, .val (.int i3), .val (.ref kk), .val (.int (i3 - (48 : Int32))), .val (.int (0 : Int32)), .val (.int (0 : Int32)), .val (.int (0 : Int32)), .val (.int (1 : Int32)), .val (.int (0 : Int32)), .val (.int (0 : Int32)), .val (.int (0 : Int32)), s13] [])) _
  refine XS.iload X3.here hx rfl (hb hby at_323) rfl ?_
  show Steps p.tables e below (T3.setTop (mkF m 325 #[s0, s1, s2, .val (.int i3), .val (.ref kk), .val (.int (i3 - (48 : Int32))), .val (.int (0 : Int32)), .val (.int (0 : Int32)), .val (.int (0 : Int32)), .val (.int (1 : Int32)), .val (.int (0 : Int32)), .val (.int (0 : Int32)), .val (.int (0 : Int32)), s13] [(.int (0 : Int32))])) _
  refine XS.ifNo X3.here hx rfl (hb hby at_325) rfl ((if0 _ _).trans (teq (rfl : (0 : Int32) = (0 : Int32))).2) ?_
  show Steps p.tables e below (T3.setTop (mkF m 328 #[s0, s1, s2, .val (.int i3), .val (.ref kk), .val (.int (i3 - (48 : Int32))), .val (.int (0 : Int32)), .val (.int (0 : Int32)), .val (.int (0 : Int32)), .val (.int (1 : Int32)), .val (.int (0 : Int32)), .val (.int (0 : Int32)), .val (.int (0 : Int32)), s13] [])) _
  refine XS.iload X3.here hx rfl (hb hby at_328) rfl ?_
  show Steps p.tables e below (T3.setTop (mkF m 330 #[s0, s1, s2, .val (.int i3), .val (.ref kk), .val (.int (i3 - (48 : Int32))), .val (.int (0 : Int32)), .val (.int (0 : Int32)), .val (.int (0 : Int32)), .val (.int (1 : Int32)), .val (.int (0 : Int32)), .val (.int (0 : Int32)), .val (.int (0 : Int32)), s13] [(.int (0 : Int32))])) _
  refine XS.ifNo X3.here hx rfl (hb hby at_330) rfl ((if0 _ _).trans (teq (rfl : (0 : Int32) = (0 : Int32))).2) ?_
  show Steps p.tables e below (T3.setTop (mkF m 333 #[s0, s1, s2, .val (.int i3), .val (.ref kk), .val (.int (i3 - (48 : Int32))), .val (.int (0 : Int32)), .val (.int (0 : Int32)), .val (.int (0 : Int32)), .val (.int (1 : Int32)), .val (.int (0 : Int32)), .val (.int (0 : Int32)), .val (.int (0 : Int32)), s13] [])) _
  refine XS.iload X3.here hx rfl (hb hby at_333) rfl ?_
  show Steps p.tables e below (T3.setTop (mkF m 335 #[s0, s1, s2, .val (.int i3), .val (.ref kk), .val (.int (i3 - (48 : Int32))), .val (.int (0 : Int32)), .val (.int (0 : Int32)), .val (.int (0 : Int32)), .val (.int (1 : Int32)), .val (.int (0 : Int32)), .val (.int (0 : Int32)), .val (.int (0 : Int32)), s13] [(.int (1 : Int32))])) _
  refine XS.ifYes X3.here hx rfl (pc0 := 335) (pc' := 357) rfl (hb hby at_335) rfl ((if0 _ _).trans (feq hc335).2) (by decide) (by decide) ?_
  show Steps p.tables e below (T3.setTop (mkF m 357 #[s0, s1, s2, .val (.int i3), .val (.ref kk), .val (.int (i3 - (48 : Int32))), .val (.int (0 : Int32)), .val (.int (0 : Int32)), .val (.int (0 : Int32)), .val (.int (1 : Int32)), .val (.int (0 : Int32)), .val (.int (0 : Int32)), .val (.int (0 : Int32)), s13] [])) _
  refine XS.iconst X3.here hx rfl (hb hby at_357) ?_
  show Steps p.tables e below (T3.setTop (mkF m 358 #[s0, s1, s2, .val (.int i3), .val (.ref kk), .val (.int (i3 - (48 : Int32))), .val (.int (0 : Int32)), .val (.int (0 : Int32)), .val (.int (0 : Int32)), .val (.int (1 : Int32)), .val (.int (0 : Int32)), .val (.int (0 : Int32)), .val (.int (0 : Int32)), s13] [(.int (0 : Int32))])) _
  refine XS.istore X3.here hx rfl (hb hby at_358) rfl (l' := #[s0, s1, s2, .val (.int i3), .val (.ref kk), .val (.int (i3 - (48 : Int32))), .val (.int (0 : Int32)), .val (.int (0 : Int32)), .val (.int (0 : Int32)), .val (.int (1 : Int32)), .val (.int (0 : Int32)), .val (.int (0 : Int32)), .val (.int (0 : Int32)), .val (.int (0 : Int32))]) (os0_358 hs13) ?_
  show Steps p.tables e below (T3.setTop (mkF m 360 #[s0, s1, s2, .val (.int i3), .val (.ref kk), .val (.int (i3 - (48 : Int32))), .val (.int (0 : Int32)), .val (.int (0 : Int32)), .val (.int (0 : Int32)), .val (.int (1 : Int32)), .val (.int (0 : Int32)), .val (.int (0 : Int32)), .val (.int (0 : Int32)), .val (.int (0 : Int32))] [])) _
  refine XS.aload X3.here hx rfl (hb hby at_360) rfl rfl ?_
  show Steps p.tables e below (T3.setTop (mkF m 362 #[s0, s1, s2, .val (.int i3), .val (.ref kk), .val (.int (i3 - (48 : Int32))), .val (.int (0 : Int32)), .val (.int (0 : Int32)), .val (.int (0 : Int32)), .val (.int (1 : Int32)), .val (.int (0 : Int32)), .val (.int (0 : Int32)), .val (.int (0 : Int32)), .val (.int (0 : Int32))] [(.ref kk)])) _
  refine st5 _ ?_
  show Steps p.tables e below (T5.setTop (mkF m 365 #[s0, s1, s2, .val (.int i3), .val (.ref kk), .val (.int (i3 - (48 : Int32))), .val (.int (0 : Int32)), .val (.int (0 : Int32)), .val (.int (0 : Int32)), .val (.int (1 : Int32)), .val (.int (0 : Int32)), .val (.int (0 : Int32)), .val (.int (0 : Int32)), .val (.int (0 : Int32))] [(.ref w4), (.ref kk)])) _
  refine Jvm.RoadKit.acmp (g := (mkF m 365 #[s0, s1, s2, .val (.int i3), .val (.ref kk), .val (.int (i3 - (48 : Int32))), .val (.int (0 : Int32)), .val (.int (0 : Int32)), .val (.int (0 : Int32)), .val (.int (1 : Int32)), .val (.int (0 : Int32)), .val (.int (0 : Int32)), .val (.int (0 : Int32)), .val (.int (0 : Int32))] [(.ref w4), (.ref kk)])) X5 hx rfl rfl rfl (pc0 := 365) (pc' := 372) (same := false) rfl (hb hby at_365) rfl (decide_eq_false fun q => ha365 (Value.ref.inj q)) (by decide) (by decide) ?_
  show Steps p.tables e below (T5.setTop (mkF m 372 #[s0, s1, s2, .val (.int i3), .val (.ref kk), .val (.int (i3 - (48 : Int32))), .val (.int (0 : Int32)), .val (.int (0 : Int32)), .val (.int (0 : Int32)), .val (.int (1 : Int32)), .val (.int (0 : Int32)), .val (.int (0 : Int32)), .val (.int (0 : Int32)), .val (.int (0 : Int32))] [])) _
  refine XS.iconst X5.here hx rfl (hb hby at_372) ?_
  show Steps p.tables e below (T5.setTop (mkF m 373 #[s0, s1, s2, .val (.int i3), .val (.ref kk), .val (.int (i3 - (48 : Int32))), .val (.int (0 : Int32)), .val (.int (0 : Int32)), .val (.int (0 : Int32)), .val (.int (1 : Int32)), .val (.int (0 : Int32)), .val (.int (0 : Int32)), .val (.int (0 : Int32)), .val (.int (0 : Int32))] [(.int (0 : Int32))])) _
  refine XS.iload X5.here hx rfl (hb hby at_373) rfl ?_
  show Steps p.tables e below (T5.setTop (mkF m 375 #[s0, s1, s2, .val (.int i3), .val (.ref kk), .val (.int (i3 - (48 : Int32))), .val (.int (0 : Int32)), .val (.int (0 : Int32)), .val (.int (0 : Int32)), .val (.int (1 : Int32)), .val (.int (0 : Int32)), .val (.int (0 : Int32)), .val (.int (0 : Int32)), .val (.int (0 : Int32))] [(.int (0 : Int32)), (.int (0 : Int32))])) _
  refine XS.icmpNo X5.here hx rfl (hb hby at_375) rfl (teq (rfl : (0 : Int32) = (0 : Int32))).2 ?_
  show Steps p.tables e below (T5.setTop (mkF m 378 #[s0, s1, s2, .val (.int i3), .val (.ref kk), .val (.int (i3 - (48 : Int32))), .val (.int (0 : Int32)), .val (.int (0 : Int32)), .val (.int (0 : Int32)), .val (.int (1 : Int32)), .val (.int (0 : Int32)), .val (.int (0 : Int32)), .val (.int (0 : Int32)), .val (.int (0 : Int32))] [])) _
  refine XS.aload X5.here hx rfl (hb hby at_378) rfl rfl ?_
  show Steps p.tables e below (T5.setTop (mkF m 380 #[s0, s1, s2, .val (.int i3), .val (.ref kk), .val (.int (i3 - (48 : Int32))), .val (.int (0 : Int32)), .val (.int (0 : Int32)), .val (.int (0 : Int32)), .val (.int (1 : Int32)), .val (.int (0 : Int32)), .val (.int (0 : Int32)), .val (.int (0 : Int32)), .val (.int (0 : Int32))] [(.ref kk)])) _
  refine st7 _ ?_
  show Steps p.tables e below (T7.setTop (mkF m 383 #[s0, s1, s2, .val (.int i3), .val (.ref kk), .val (.int (i3 - (48 : Int32))), .val (.int (0 : Int32)), .val (.int (0 : Int32)), .val (.int (0 : Int32)), .val (.int (1 : Int32)), .val (.int (0 : Int32)), .val (.int (0 : Int32)), .val (.int (0 : Int32)), .val (.int (0 : Int32))] [(.ref w6), (.ref kk)])) _
  refine Jvm.RoadKit.acmp (g := (mkF m 383 #[s0, s1, s2, .val (.int i3), .val (.ref kk), .val (.int (i3 - (48 : Int32))), .val (.int (0 : Int32)), .val (.int (0 : Int32)), .val (.int (0 : Int32)), .val (.int (1 : Int32)), .val (.int (0 : Int32)), .val (.int (0 : Int32)), .val (.int (0 : Int32)), .val (.int (0 : Int32))] [(.ref w6), (.ref kk)])) X7 hx rfl rfl rfl (pc0 := 383) (pc' := 390) (same := false) rfl (hb hby at_383) rfl (decide_eq_false fun q => ha383 (Value.ref.inj q)) (by decide) (by decide) ?_
  show Steps p.tables e below (T7.setTop (mkF m 390 #[s0, s1, s2, .val (.int i3), .val (.ref kk), .val (.int (i3 - (48 : Int32))), .val (.int (0 : Int32)), .val (.int (0 : Int32)), .val (.int (0 : Int32)), .val (.int (1 : Int32)), .val (.int (0 : Int32)), .val (.int (0 : Int32)), .val (.int (0 : Int32)), .val (.int (0 : Int32))] [])) _
  refine XS.iconst X7.here hx rfl (hb hby at_390) ?_
  show Steps p.tables e below (T7.setTop (mkF m 391 #[s0, s1, s2, .val (.int i3), .val (.ref kk), .val (.int (i3 - (48 : Int32))), .val (.int (0 : Int32)), .val (.int (0 : Int32)), .val (.int (0 : Int32)), .val (.int (1 : Int32)), .val (.int (0 : Int32)), .val (.int (0 : Int32)), .val (.int (0 : Int32)), .val (.int (0 : Int32))] [(.int (0 : Int32))])) _
  refine XS.iload X7.here hx rfl (hb hby at_391) rfl ?_
  show Steps p.tables e below (T7.setTop (mkF m 393 #[s0, s1, s2, .val (.int i3), .val (.ref kk), .val (.int (i3 - (48 : Int32))), .val (.int (0 : Int32)), .val (.int (0 : Int32)), .val (.int (0 : Int32)), .val (.int (1 : Int32)), .val (.int (0 : Int32)), .val (.int (0 : Int32)), .val (.int (0 : Int32)), .val (.int (0 : Int32))] [(.int (0 : Int32)), (.int (0 : Int32))])) _
  refine XS.icmpNo X7.here hx rfl (hb hby at_393) rfl (teq (rfl : (0 : Int32) = (0 : Int32))).2 ?_
  show Steps p.tables e below (T7.setTop (mkF m 396 #[s0, s1, s2, .val (.int i3), .val (.ref kk), .val (.int (i3 - (48 : Int32))), .val (.int (0 : Int32)), .val (.int (0 : Int32)), .val (.int (0 : Int32)), .val (.int (1 : Int32)), .val (.int (0 : Int32)), .val (.int (0 : Int32)), .val (.int (0 : Int32)), .val (.int (0 : Int32))] [])) _
  refine XS.aload X7.here hx rfl (hb hby at_396) rfl rfl ?_
  show Steps p.tables e below (T7.setTop (mkF m 398 #[s0, s1, s2, .val (.int i3), .val (.ref kk), .val (.int (i3 - (48 : Int32))), .val (.int (0 : Int32)), .val (.int (0 : Int32)), .val (.int (0 : Int32)), .val (.int (1 : Int32)), .val (.int (0 : Int32)), .val (.int (0 : Int32)), .val (.int (0 : Int32)), .val (.int (0 : Int32))] [(.ref kk)])) _
  refine st9 _ ?_
  show Steps p.tables e below (T9.setTop (mkF m 401 #[s0, s1, s2, .val (.int i3), .val (.ref kk), .val (.int (i3 - (48 : Int32))), .val (.int (0 : Int32)), .val (.int (0 : Int32)), .val (.int (0 : Int32)), .val (.int (1 : Int32)), .val (.int (0 : Int32)), .val (.int (0 : Int32)), .val (.int (0 : Int32)), .val (.int (0 : Int32))] [(.ref w8), (.ref kk)])) _
  refine Jvm.RoadKit.acmp (g := (mkF m 401 #[s0, s1, s2, .val (.int i3), .val (.ref kk), .val (.int (i3 - (48 : Int32))), .val (.int (0 : Int32)), .val (.int (0 : Int32)), .val (.int (0 : Int32)), .val (.int (1 : Int32)), .val (.int (0 : Int32)), .val (.int (0 : Int32)), .val (.int (0 : Int32)), .val (.int (0 : Int32))] [(.ref w8), (.ref kk)])) X9 hx rfl rfl rfl (pc0 := 401) (pc' := 408) (same := false) rfl (hb hby at_401) rfl (decide_eq_false fun q => ha401 (Value.ref.inj q)) (by decide) (by decide) ?_
  show Steps p.tables e below (T9.setTop (mkF m 408 #[s0, s1, s2, .val (.int i3), .val (.ref kk), .val (.int (i3 - (48 : Int32))), .val (.int (0 : Int32)), .val (.int (0 : Int32)), .val (.int (0 : Int32)), .val (.int (1 : Int32)), .val (.int (0 : Int32)), .val (.int (0 : Int32)), .val (.int (0 : Int32)), .val (.int (0 : Int32))] [])) _
  refine XS.iconst X9.here hx rfl (hb hby at_408) ?_
  show Steps p.tables e below (T9.setTop (mkF m 409 #[s0, s1, s2, .val (.int i3), .val (.ref kk), .val (.int (i3 - (48 : Int32))), .val (.int (0 : Int32)), .val (.int (0 : Int32)), .val (.int (0 : Int32)), .val (.int (1 : Int32)), .val (.int (0 : Int32)), .val (.int (0 : Int32)), .val (.int (0 : Int32)), .val (.int (0 : Int32))] [(.int (0 : Int32))])) _
  refine XS.iload X9.here hx rfl (hb hby at_409) rfl ?_
  show Steps p.tables e below (T9.setTop (mkF m 411 #[s0, s1, s2, .val (.int i3), .val (.ref kk), .val (.int (i3 - (48 : Int32))), .val (.int (0 : Int32)), .val (.int (0 : Int32)), .val (.int (0 : Int32)), .val (.int (1 : Int32)), .val (.int (0 : Int32)), .val (.int (0 : Int32)), .val (.int (0 : Int32)), .val (.int (0 : Int32))] [(.int (0 : Int32)), (.int (0 : Int32))])) _
  refine XS.icmpNo X9.here hx rfl (hb hby at_411) rfl (teq (rfl : (0 : Int32) = (0 : Int32))).2 ?_
  show Steps p.tables e below (T9.setTop (mkF m 414 #[s0, s1, s2, .val (.int i3), .val (.ref kk), .val (.int (i3 - (48 : Int32))), .val (.int (0 : Int32)), .val (.int (0 : Int32)), .val (.int (0 : Int32)), .val (.int (1 : Int32)), .val (.int (0 : Int32)), .val (.int (0 : Int32)), .val (.int (0 : Int32)), .val (.int (0 : Int32))] [])) _
  refine XS.aload X9.here hx rfl (hb hby at_414) rfl rfl ?_
  show Steps p.tables e below (T9.setTop (mkF m 416 #[s0, s1, s2, .val (.int i3), .val (.ref kk), .val (.int (i3 - (48 : Int32))), .val (.int (0 : Int32)), .val (.int (0 : Int32)), .val (.int (0 : Int32)), .val (.int (1 : Int32)), .val (.int (0 : Int32)), .val (.int (0 : Int32)), .val (.int (0 : Int32)), .val (.int (0 : Int32))] [(.ref kk)])) _
  refine st11 _ ?_
  show Steps p.tables e below (T11.setTop (mkF m 419 #[s0, s1, s2, .val (.int i3), .val (.ref kk), .val (.int (i3 - (48 : Int32))), .val (.int (0 : Int32)), .val (.int (0 : Int32)), .val (.int (0 : Int32)), .val (.int (1 : Int32)), .val (.int (0 : Int32)), .val (.int (0 : Int32)), .val (.int (0 : Int32)), .val (.int (0 : Int32))] [(.ref w10), (.ref kk)])) _
  refine Jvm.RoadKit.acmp (g := (mkF m 419 #[s0, s1, s2, .val (.int i3), .val (.ref kk), .val (.int (i3 - (48 : Int32))), .val (.int (0 : Int32)), .val (.int (0 : Int32)), .val (.int (0 : Int32)), .val (.int (1 : Int32)), .val (.int (0 : Int32)), .val (.int (0 : Int32)), .val (.int (0 : Int32)), .val (.int (0 : Int32))] [(.ref w10), (.ref kk)])) X11 hx rfl rfl rfl (pc0 := 419) (pc' := 422) (same := true) rfl (hb hby at_419) rfl (decide_eq_true (congrArg Value.ref ha419)) (by decide) (by decide) ?_
  show Steps p.tables e below (T11.setTop (mkF m 422 #[s0, s1, s2, .val (.int i3), .val (.ref kk), .val (.int (i3 - (48 : Int32))), .val (.int (0 : Int32)), .val (.int (0 : Int32)), .val (.int (0 : Int32)), .val (.int (1 : Int32)), .val (.int (0 : Int32)), .val (.int (0 : Int32)), .val (.int (0 : Int32)), .val (.int (0 : Int32))] [])) _
  refine XS.iconst X11.here hx rfl (hb hby at_422) ?_
  show Steps p.tables e below (T11.setTop (mkF m 423 #[s0, s1, s2, .val (.int i3), .val (.ref kk), .val (.int (i3 - (48 : Int32))), .val (.int (0 : Int32)), .val (.int (0 : Int32)), .val (.int (0 : Int32)), .val (.int (1 : Int32)), .val (.int (0 : Int32)), .val (.int (0 : Int32)), .val (.int (0 : Int32)), .val (.int (0 : Int32))] [(.int (1 : Int32))])) _
  refine XS.goto X11.here hx rfl (pc0 := 423) (pc' := 427) rfl (hb hby at_423) (by decide) (by decide) ?_
  show Steps p.tables e below (T11.setTop (mkF m 427 #[s0, s1, s2, .val (.int i3), .val (.ref kk), .val (.int (i3 - (48 : Int32))), .val (.int (0 : Int32)), .val (.int (0 : Int32)), .val (.int (0 : Int32)), .val (.int (1 : Int32)), .val (.int (0 : Int32)), .val (.int (0 : Int32)), .val (.int (0 : Int32)), .val (.int (0 : Int32))] [(.int (1 : Int32))])) _
  refine XS.iload X11.here hx rfl (hb hby at_427) rfl ?_
  show Steps p.tables e below (T11.setTop (mkF m 429 #[s0, s1, s2, .val (.int i3), .val (.ref kk), .val (.int (i3 - (48 : Int32))), .val (.int (0 : Int32)), .val (.int (0 : Int32)), .val (.int (0 : Int32)), .val (.int (1 : Int32)), .val (.int (0 : Int32)), .val (.int (0 : Int32)), .val (.int (0 : Int32)), .val (.int (0 : Int32))] [(.int (1 : Int32)), (.int (1 : Int32))])) _
  refine XS.icmpNo X11.here hx rfl (hb hby at_429) rfl (teq (rfl : (1 : Int32) = (1 : Int32))).2 ?_
  show Steps p.tables e below (T11.setTop (mkF m 432 #[s0, s1, s2, .val (.int i3), .val (.ref kk), .val (.int (i3 - (48 : Int32))), .val (.int (0 : Int32)), .val (.int (0 : Int32)), .val (.int (0 : Int32)), .val (.int (1 : Int32)), .val (.int (0 : Int32)), .val (.int (0 : Int32)), .val (.int (0 : Int32)), .val (.int (0 : Int32))] [])) _
  refine XS.aload X11.here hx rfl (hb hby at_432) rfl rfl ?_
  show Steps p.tables e below (T11.setTop (mkF m 434 #[s0, s1, s2, .val (.int i3), .val (.ref kk), .val (.int (i3 - (48 : Int32))), .val (.int (0 : Int32)), .val (.int (0 : Int32)), .val (.int (0 : Int32)), .val (.int (1 : Int32)), .val (.int (0 : Int32)), .val (.int (0 : Int32)), .val (.int (0 : Int32)), .val (.int (0 : Int32))] [(.ref kk)])) _
  refine st13 _ ?_
  show Steps p.tables e below (T13.setTop (mkF m 437 #[s0, s1, s2, .val (.int i3), .val (.ref kk), .val (.int (i3 - (48 : Int32))), .val (.int (0 : Int32)), .val (.int (0 : Int32)), .val (.int (0 : Int32)), .val (.int (1 : Int32)), .val (.int (0 : Int32)), .val (.int (0 : Int32)), .val (.int (0 : Int32)), .val (.int (0 : Int32))] [(.ref w12), (.ref kk)])) _
  refine Jvm.RoadKit.acmp (g := (mkF m 437 #[s0, s1, s2, .val (.int i3), .val (.ref kk), .val (.int (i3 - (48 : Int32))), .val (.int (0 : Int32)), .val (.int (0 : Int32)), .val (.int (0 : Int32)), .val (.int (1 : Int32)), .val (.int (0 : Int32)), .val (.int (0 : Int32)), .val (.int (0 : Int32)), .val (.int (0 : Int32))] [(.ref w12), (.ref kk)])) X13 hx rfl rfl rfl (pc0 := 437) (pc' := 444) (same := false) rfl (hb hby at_437) rfl (decide_eq_false fun q => ha437 (Value.ref.inj q)) (by decide) (by decide) ?_
  show Steps p.tables e below (T13.setTop (mkF m 444 #[s0, s1, s2, .val (.int i3), .val (.ref kk), .val (.int (i3 - (48 : Int32))), .val (.int (0 : Int32)), .val (.int (0 : Int32)), .val (.int (0 : Int32)), .val (.int (1 : Int32)), .val (.int (0 : Int32)), .val (.int (0 : Int32)), .val (.int (0 : Int32)), .val (.int (0 : Int32))] [])) _
  refine XS.iconst X13.here hx rfl (hb hby at_444) ?_
  show Steps p.tables e below (T13.setTop (mkF m 445 #[s0, s1, s2, .val (.int i3), .val (.ref kk), .val (.int (i3 - (48 : Int32))), .val (.int (0 : Int32)), .val (.int (0 : Int32)), .val (.int (0 : Int32)), .val (.int (1 : Int32)), .val (.int (0 : Int32)), .val (.int (0 : Int32)), .val (.int (0 : Int32)), .val (.int (0 : Int32))] [(.int (0 : Int32))])) _
  refine XS.iload X13.here hx rfl (hb hby at_445) rfl ?_
  show Steps p.tables e below (T13.setTop (mkF m 447 #[s0, s1, s2, .val (.int i3), .val (.ref kk), .val (.int (i3 - (48 : Int32))), .val (.int (0 : Int32)), .val (.int (0 : Int32)), .val (.int (0 : Int32)), .val (.int (1 : Int32)), .val (.int (0 : Int32)), .val (.int (0 : Int32)), .val (.int (0 : Int32)), .val (.int (0 : Int32))] [(.int (0 : Int32)), (.int (0 : Int32))])) _
  refine XS.icmpNo X13.here hx rfl (hb hby at_447) rfl (teq (rfl : (0 : Int32) = (0 : Int32))).2 ?_
  show Steps p.tables e below (T13.setTop (mkF m 450 #[s0, s1, s2, .val (.int i3), .val (.ref kk), .val (.int (i3 - (48 : Int32))), .val (.int (0 : Int32)), .val (.int (0 : Int32)), .val (.int (0 : Int32)), .val (.int (1 : Int32)), .val (.int (0 : Int32)), .val (.int (0 : Int32)), .val (.int (0 : Int32)), .val (.int (0 : Int32))] [])) _
  refine XS.aload X13.here hx rfl (hb hby at_450) rfl rfl ?_
  show Steps p.tables e below (T13.setTop (mkF m 452 #[s0, s1, s2, .val (.int i3), .val (.ref kk), .val (.int (i3 - (48 : Int32))), .val (.int (0 : Int32)), .val (.int (0 : Int32)), .val (.int (0 : Int32)), .val (.int (1 : Int32)), .val (.int (0 : Int32)), .val (.int (0 : Int32)), .val (.int (0 : Int32)), .val (.int (0 : Int32))] [(.ref kk)])) _
  refine st15 _ ?_
  show Steps p.tables e below (T15.setTop (mkF m 455 #[s0, s1, s2, .val (.int i3), .val (.ref kk), .val (.int (i3 - (48 : Int32))), .val (.int (0 : Int32)), .val (.int (0 : Int32)), .val (.int (0 : Int32)), .val (.int (1 : Int32)), .val (.int (0 : Int32)), .val (.int (0 : Int32)), .val (.int (0 : Int32)), .val (.int (0 : Int32))] [(.ref w14), (.ref kk)])) _
  refine Jvm.RoadKit.acmp (g := (mkF m 455 #[s0, s1, s2, .val (.int i3), .val (.ref kk), .val (.int (i3 - (48 : Int32))), .val (.int (0 : Int32)), .val (.int (0 : Int32)), .val (.int (0 : Int32)), .val (.int (1 : Int32)), .val (.int (0 : Int32)), .val (.int (0 : Int32)), .val (.int (0 : Int32)), .val (.int (0 : Int32))] [(.ref w14), (.ref kk)])) X15 hx rfl rfl rfl (pc0 := 455) (pc' := 462) (same := false) rfl (hb hby at_455) rfl (decide_eq_false fun q => ha455 (Value.ref.inj q)) (by decide) (by decide) ?_
  show Steps p.tables e below (T15.setTop (mkF m 462 #[s0, s1, s2, .val (.int i3), .val (.ref kk), .val (.int (i3 - (48 : Int32))), .val (.int (0 : Int32)), .val (.int (0 : Int32)), .val (.int (0 : Int32)), .val (.int (1 : Int32)), .val (.int (0 : Int32)), .val (.int (0 : Int32)), .val (.int (0 : Int32)), .val (.int (0 : Int32))] [])) _
  refine XS.iconst X15.here hx rfl (hb hby at_462) ?_
  show Steps p.tables e below (T15.setTop (mkF m 463 #[s0, s1, s2, .val (.int i3), .val (.ref kk), .val (.int (i3 - (48 : Int32))), .val (.int (0 : Int32)), .val (.int (0 : Int32)), .val (.int (0 : Int32)), .val (.int (1 : Int32)), .val (.int (0 : Int32)), .val (.int (0 : Int32)), .val (.int (0 : Int32)), .val (.int (0 : Int32))] [(.int (0 : Int32))])) _
  refine XS.iload X15.here hx rfl (hb hby at_463) rfl ?_
  show Steps p.tables e below (T15.setTop (mkF m 465 #[s0, s1, s2, .val (.int i3), .val (.ref kk), .val (.int (i3 - (48 : Int32))), .val (.int (0 : Int32)), .val (.int (0 : Int32)), .val (.int (0 : Int32)), .val (.int (1 : Int32)), .val (.int (0 : Int32)), .val (.int (0 : Int32)), .val (.int (0 : Int32)), .val (.int (0 : Int32))] [(.int (0 : Int32)), (.int (0 : Int32))])) _
  refine XS.icmpNo X15.here hx rfl (hb hby at_465) rfl (teq (rfl : (0 : Int32) = (0 : Int32))).2 ?_
  show Steps p.tables e below (T15.setTop (mkF m 468 #[s0, s1, s2, .val (.int i3), .val (.ref kk), .val (.int (i3 - (48 : Int32))), .val (.int (0 : Int32)), .val (.int (0 : Int32)), .val (.int (0 : Int32)), .val (.int (1 : Int32)), .val (.int (0 : Int32)), .val (.int (0 : Int32)), .val (.int (0 : Int32)), .val (.int (0 : Int32))] [])) _
  refine XS.aload X15.here hx rfl (hb hby at_468) rfl rfl ?_
  show Steps p.tables e below (T15.setTop (mkF m 470 #[s0, s1, s2, .val (.int i3), .val (.ref kk), .val (.int (i3 - (48 : Int32))), .val (.int (0 : Int32)), .val (.int (0 : Int32)), .val (.int (0 : Int32)), .val (.int (1 : Int32)), .val (.int (0 : Int32)), .val (.int (0 : Int32)), .val (.int (0 : Int32)), .val (.int (0 : Int32))] [(.ref kk)])) _
  refine st17 _ ?_
  show Steps p.tables e below (T17.setTop (mkF m 473 #[s0, s1, s2, .val (.int i3), .val (.ref kk), .val (.int (i3 - (48 : Int32))), .val (.int (0 : Int32)), .val (.int (0 : Int32)), .val (.int (0 : Int32)), .val (.int (1 : Int32)), .val (.int (0 : Int32)), .val (.int (0 : Int32)), .val (.int (0 : Int32)), .val (.int (0 : Int32))] [(.ref w16), (.ref kk)])) _
  refine Jvm.RoadKit.acmp (g := (mkF m 473 #[s0, s1, s2, .val (.int i3), .val (.ref kk), .val (.int (i3 - (48 : Int32))), .val (.int (0 : Int32)), .val (.int (0 : Int32)), .val (.int (0 : Int32)), .val (.int (1 : Int32)), .val (.int (0 : Int32)), .val (.int (0 : Int32)), .val (.int (0 : Int32)), .val (.int (0 : Int32))] [(.ref w16), (.ref kk)])) X17 hx rfl rfl rfl (pc0 := 473) (pc' := 480) (same := false) rfl (hb hby at_473) rfl (decide_eq_false fun q => ha473 (Value.ref.inj q)) (by decide) (by decide) ?_
  show Steps p.tables e below (T17.setTop (mkF m 480 #[s0, s1, s2, .val (.int i3), .val (.ref kk), .val (.int (i3 - (48 : Int32))), .val (.int (0 : Int32)), .val (.int (0 : Int32)), .val (.int (0 : Int32)), .val (.int (1 : Int32)), .val (.int (0 : Int32)), .val (.int (0 : Int32)), .val (.int (0 : Int32)), .val (.int (0 : Int32))] [])) _
  refine XS.iconst X17.here hx rfl (hb hby at_480) ?_
  show Steps p.tables e below (T17.setTop (mkF m 481 #[s0, s1, s2, .val (.int i3), .val (.ref kk), .val (.int (i3 - (48 : Int32))), .val (.int (0 : Int32)), .val (.int (0 : Int32)), .val (.int (0 : Int32)), .val (.int (1 : Int32)), .val (.int (0 : Int32)), .val (.int (0 : Int32)), .val (.int (0 : Int32)), .val (.int (0 : Int32))] [(.int (0 : Int32))])) _
  refine XS.iload X17.here hx rfl (hb hby at_481) rfl ?_
  show Steps p.tables e below (T17.setTop (mkF m 483 #[s0, s1, s2, .val (.int i3), .val (.ref kk), .val (.int (i3 - (48 : Int32))), .val (.int (0 : Int32)), .val (.int (0 : Int32)), .val (.int (0 : Int32)), .val (.int (1 : Int32)), .val (.int (0 : Int32)), .val (.int (0 : Int32)), .val (.int (0 : Int32)), .val (.int (0 : Int32))] [(.int (0 : Int32)), (.int (0 : Int32))])) _
  refine XS.icmpNo X17.here hx rfl (hb hby at_483) rfl (teq (rfl : (0 : Int32) = (0 : Int32))).2 ?_
  show Steps p.tables e below (T17.setTop (mkF m 486 #[s0, s1, s2, .val (.int i3), .val (.ref kk), .val (.int (i3 - (48 : Int32))), .val (.int (0 : Int32)), .val (.int (0 : Int32)), .val (.int (0 : Int32)), .val (.int (1 : Int32)), .val (.int (0 : Int32)), .val (.int (0 : Int32)), .val (.int (0 : Int32)), .val (.int (0 : Int32))] [])) _
  refine XS.aload X17.here hx rfl (hb hby at_486) rfl rfl ?_
  show Steps p.tables e below (T17.setTop (mkF m 488 #[s0, s1, s2, .val (.int i3), .val (.ref kk), .val (.int (i3 - (48 : Int32))), .val (.int (0 : Int32)), .val (.int (0 : Int32)), .val (.int (0 : Int32)), .val (.int (1 : Int32)), .val (.int (0 : Int32)), .val (.int (0 : Int32)), .val (.int (0 : Int32)), .val (.int (0 : Int32))] [(.ref kk)])) _
  refine XS.ifnonnullYes X17.here hx rfl (pc0 := 488) (pc' := 495) rfl (hb hby at_488) rfl (by decide) (by decide) ?_
  show Steps p.tables e below (T17.setTop (mkF m 495 #[s0, s1, s2, .val (.int i3), .val (.ref kk), .val (.int (i3 - (48 : Int32))), .val (.int (0 : Int32)), .val (.int (0 : Int32)), .val (.int (0 : Int32)), .val (.int (1 : Int32)), .val (.int (0 : Int32)), .val (.int (0 : Int32)), .val (.int (0 : Int32)), .val (.int (0 : Int32))] [])) _
  refine XS.iconst X17.here hx rfl (hb hby at_495) ?_
  show Steps p.tables e below (T17.setTop (mkF m 496 #[s0, s1, s2, .val (.int i3), .val (.ref kk), .val (.int (i3 - (48 : Int32))), .val (.int (0 : Int32)), .val (.int (0 : Int32)), .val (.int (0 : Int32)), .val (.int (1 : Int32)), .val (.int (0 : Int32)), .val (.int (0 : Int32)), .val (.int (0 : Int32)), .val (.int (0 : Int32))] [(.int (0 : Int32))])) _
  refine XS.iload X17.here hx rfl (hb hby at_496) rfl ?_
  show Steps p.tables e below (T17.setTop (mkF m 498 #[s0, s1, s2, .val (.int i3), .val (.ref kk), .val (.int (i3 - (48 : Int32))), .val (.int (0 : Int32)), .val (.int (0 : Int32)), .val (.int (0 : Int32)), .val (.int (1 : Int32)), .val (.int (0 : Int32)), .val (.int (0 : Int32)), .val (.int (0 : Int32)), .val (.int (0 : Int32))] [(.int (0 : Int32)), (.int (0 : Int32))])) _
  refine XS.icmpNo X17.here hx rfl (hb hby at_498) rfl (teq (rfl : (0 : Int32) = (0 : Int32))).2 ?_
  show Steps p.tables e below (T17.setTop (mkF m 501 #[s0, s1, s2, .val (.int i3), .val (.ref kk), .val (.int (i3 - (48 : Int32))), .val (.int (0 : Int32)), .val (.int (0 : Int32)), .val (.int (0 : Int32)), .val (.int (1 : Int32)), .val (.int (0 : Int32)), .val (.int (0 : Int32)), .val (.int (0 : Int32)), .val (.int (0 : Int32))] [])) _
  refine XS.iconst X17.here hx rfl (hb hby at_501) ?_
  show Steps p.tables e below (T17.setTop (mkF m 502 #[s0, s1, s2, .val (.int i3), .val (.ref kk), .val (.int (i3 - (48 : Int32))), .val (.int (0 : Int32)), .val (.int (0 : Int32)), .val (.int (0 : Int32)), .val (.int (1 : Int32)), .val (.int (0 : Int32)), .val (.int (0 : Int32)), .val (.int (0 : Int32)), .val (.int (0 : Int32))] [(.int (1 : Int32))])) _
  refine XS.goto X17.here hx rfl (pc0 := 502) (pc' := 506) rfl (hb hby at_502) (by decide) (by decide) ?_
  exact kt
set_option maxRecDepth 65536 in
set_option maxHeartbeats 40000000 in
theorem own_segC_tru {p : Program} {l : Launch} {e : Env} {s : State} {m : MethodId} {args : Array Value} {below : List Frame} {meth : Method} {c : Code} {T0 : State} {locs : List Loc} {Z : State} {a0 : Array Value} {h0 : Heap} {n0 : Nat} (s0 : Slot) (s1 : Slot) (s2 : Slot) (i3 : Int32) (s4 : Slot) (s5 : Slot) (s6 : Slot) (s7 : Slot) (s8 : Slot) (s9 : Slot) (s10 : Slot) (s11 : Slot) (s12 : Slot) (s13 : Slot) (w4 : Addr) (w6 : Addr) (w8 : Addr) (w10 : Addr) (w12 : Addr) (w14 : Addr) (w16 : Addr)
    (kk : Addr) (X0 : Stand p l e room_1 s m args below meth c T0 locs 1 30) (hx : p.tables.exec = Jvm.exec) (hZ : Z.Warmed39 s.vm) (hw : ∀ d ∈ tables_1, d.before a0 Z = true) (hby : c.code = code) (hml : c.maxLocals = 14) (hown : s.vm.findClass "com/example/tenkyo/tenkyo/exchange/KindOfPinLaw" = some m.cls) (e0 : T0.heap = h0) (N0 : Fr n0 locs) (hof : MetFree l (⟨"com/example/tenkyo/tenkyo/exchange/Json$Kind", "of", "(C)Lcom/example/tenkyo/tenkyo/exchange/Json$Kind;"⟩ : MethodName) (head1 (Jvm.Cond.code (⟨"com/example/tenkyo/tenkyo/exchange/Json$Kind", "of", "(C)Lcom/example/tenkyo/tenkyo/exchange/Json$Kind;"⟩ : MethodName) prog_14_method_6_code 2 (some (.object "com/example/tenkyo/tenkyo/exchange/Json$Kind")) :: []) ({ frames := 0, cells := 0, slots := 0, locals := 0 } : Room)) (fun a U => a = #[(.int i3)] ∧ Z.Warmed39 U.vm ∧ U.heap = h0) (fun _ _ _ _ _ => True) (fun _ U o U' => ∃ v L, o = .returned v ∧ Qk (.ref kk) h0 n0 v U'.heap L ∧ FrameEnd U o U' L ({ frames := 0, cells := 0, slots := 0, locals := 0 } : Room).cells ({ frames := 0, cells := 0, slots := 0, locals := 0 } : Room).slots)) (hs4 : One s4) (hs5 : One s5) (hs6 : One s6) (hs7 : One s7) (hs8 : One s8) (hs9 : One s9) (hs10 : One s10) (hs11 : One s11) (hs12 : One s12) (hs13 : One s13) (S_OBJECT : Sta Z h0 "com/example/tenkyo/tenkyo/exchange/Json$Kind" "OBJECT" "Lcom/example/tenkyo/tenkyo/exchange/Json$Kind;" (.ref w4)) (S_ARRAY : Sta Z h0 "com/example/tenkyo/tenkyo/exchange/Json$Kind" "ARRAY" "Lcom/example/tenkyo/tenkyo/exchange/Json$Kind;" (.ref w6)) (S_STRING : Sta Z h0 "com/example/tenkyo/tenkyo/exchange/Json$Kind" "STRING" "Lcom/example/tenkyo/tenkyo/exchange/Json$Kind;" (.ref w8)) (S_NUMBER : Sta Z h0 "com/example/tenkyo/tenkyo/exchange/Json$Kind" "NUMBER" "Lcom/example/tenkyo/tenkyo/exchange/Json$Kind;" (.ref w10)) (S_TRUE : Sta Z h0 "com/example/tenkyo/tenkyo/exchange/Json$Kind" "TRUE" "Lcom/example/tenkyo/tenkyo/exchange/Json$Kind;" (.ref w12)) (S_FALSE : Sta Z h0 "com/example/tenkyo/tenkyo/exchange/Json$Kind" "FALSE" "Lcom/example/tenkyo/tenkyo/exchange/Json$Kind;" (.ref w14)) (S_NULL : Sta Z h0 "com/example/tenkyo/tenkyo/exchange/Json$Kind" "NULL" "Lcom/example/tenkyo/tenkyo/exchange/Json$Kind;" (.ref w16)) (hc218 : ¬ (i3 = (123 : Int32))) (hc231 : ¬ (i3 = (91 : Int32))) (hc244 : ¬ (i3 = (34 : Int32))) (hc257 : ¬ (i3 = (45 : Int32))) (hc262 : ¬ ((i3 - (48 : Int32)) < (0 : Int32))) (hc269 : ¬ ((i3 - (48 : Int32)) < (10 : Int32))) (hc282 : i3 = (116 : Int32)) (hc295 : ¬ (i3 = (102 : Int32))) (hc308 : ¬ (i3 = (110 : Int32))) (hc340 : ¬ ((1 : Int32) = (0 : Int32))) (ha365 : ¬ (kk = w4)) (ha383 : ¬ (kk = w6)) (ha401 : ¬ (kk = w8)) (ha419 : ¬ (kk = w10)) (ha437 : kk = w12) (ha455 : ¬ (kk = w14)) (ha473 : ¬ (kk = w16)) :
    ∃ (T' : State) (L' : List Loc) (Ls : Array Slot), Stand p l e room_1 s m args below meth c T' L' 1 30 ∧ Fr n0 L' ∧
      ∀ target, Steps p.tables e below (T'.setTop (mkF m 506 Ls [(.int (1 : Int32))])) target → Steps p.tables e below (T0.setTop (mkF m 203 #[s0, s1, s2, .val (.int i3), s4, s5, s6, s7, s8, s9, s10, s11, s12, s13] [])) target := by
  obtain ⟨_, _, ⟨T3, L3, k3, n3⟩, -, X3, ⟨Lc3, hQ3, l3, y3, z3⟩, st3⟩ := Jvm.LawKit.callS X0 hx (y := (⟨"com/example/tenkyo/tenkyo/exchange/Json$Kind", "of", "(C)Lcom/example/tenkyo/tenkyo/exchange/Json$Kind;"⟩ : MethodName)) hown (mvT hZ (hw _ (List.mem_of_getElem? (i := 3) rfl))) (mvT hZ (hw _ (List.mem_of_getElem? (i := 4) rfl))) (mvT hZ (hw _ (List.mem_of_getElem? (i := 5) rfl))) (mvT hZ (hw _ (List.mem_of_getElem? (i := 6) rfl))) (by decide) (backOf (W := 0) hof hZ (hw _ (List.mem_of_getElem? (i := 6) rfl)) (hw _ (List.mem_of_getElem? (i := 5) rfl)) (by decide) (by decide)) (g := (mkF m 204 #[s0, s1, s2, .val (.int i3), s4, s5, s6, s7, s8, s9, s10, s11, s12, s13] [(.int i3)])) rfl (by rw [hml]; rfl) (argsL := [(.int i3)]) (rest := []) (lenOf pd_0_0 rfl) rfl (by show 2 * 0 + _ ≤ _; exact Nat.le_of_eq rfl) (hb hby at_204) (fun _ _ => ⟨rfl, e0, (by decide : 1 + 0 ≤ _), (by decide : 30 + 0 ≤ _)⟩)
  dsimp only [Pt.U, Pt.locs, Pt.cells, Pt.slots] at X3 l3 y3 z3 st3 hQ3
  subst l3 y3 z3
  obtain ⟨rfl, N3q, e3⟩ := hQ3
  have N3 := Fr.app N0 N3q
  obtain ⟨T5, X5, e5, st5⟩ := getS2 X3 hx hZ hown (host := "") (Or.inl (hw _ (List.mem_of_getElem? (i := 9) rfl))) Via.refl e3 S_OBJECT (g := (mkF m 362 #[s0, s1, s2, .val (.int i3), .val (.ref kk), .val (.int (i3 - (48 : Int32))), .val (.int (0 : Int32)), .val (.int (0 : Int32)), .val (.int (0 : Int32)), .val (.int (0 : Int32)), .val (.int (1 : Int32)), .val (.int (0 : Int32)), .val (.int (0 : Int32)), .val (.int (0 : Int32))] [(.ref kk)])) rfl (hb hby at_362)
  obtain ⟨T7, X7, e7, st7⟩ := getS2 X5 hx hZ hown (host := "") (Or.inl (hw _ (List.mem_of_getElem? (i := 10) rfl))) Via.refl e5 S_ARRAY (g := (mkF m 380 #[s0, s1, s2, .val (.int i3), .val (.ref kk), .val (.int (i3 - (48 : Int32))), .val (.int (0 : Int32)), .val (.int (0 : Int32)), .val (.int (0 : Int32)), .val (.int (0 : Int32)), .val (.int (1 : Int32)), .val (.int (0 : Int32)), .val (.int (0 : Int32)), .val (.int (0 : Int32))] [(.ref kk)])) rfl (hb hby at_380)
  obtain ⟨T9, X9, e9, st9⟩ := getS2 X7 hx hZ hown (host := "") (Or.inl (hw _ (List.mem_of_getElem? (i := 12) rfl))) Via.refl e7 S_STRING (g := (mkF m 398 #[s0, s1, s2, .val (.int i3), .val (.ref kk), .val (.int (i3 - (48 : Int32))), .val (.int (0 : Int32)), .val (.int (0 : Int32)), .val (.int (0 : Int32)), .val (.int (0 : Int32)), .val (.int (1 : Int32)), .val (.int (0 : Int32)), .val (.int (0 : Int32)), .val (.int (0 : Int32))] [(.ref kk)])) rfl (hb hby at_398)
  obtain ⟨T11, X11, e11, st11⟩ := getS2 X9 hx hZ hown (host := "") (Or.inl (hw _ (List.mem_of_getElem? (i := 14) rfl))) Via.refl e9 S_NUMBER (g := (mkF m 416 #[s0, s1, s2, .val (.int i3), .val (.ref kk), .val (.int (i3 - (48 : Int32))), .val (.int (0 : Int32)), .val (.int (0 : Int32)), .val (.int (0 : Int32)), .val (.int (0 : Int32)), .val (.int (1 : Int32)), .val (.int (0 : Int32)), .val (.int (0 : Int32)), .val (.int (0 : Int32))] [(.ref kk)])) rfl (hb hby at_416)
  obtain ⟨T13, X13, e13, st13⟩ := getS2 X11 hx hZ hown (host := "") (Or.inl (hw _ (List.mem_of_getElem? (i := 16) rfl))) Via.refl e11 S_TRUE (g := (mkF m 434 #[s0, s1, s2, .val (.int i3), .val (.ref kk), .val (.int (i3 - (48 : Int32))), .val (.int (0 : Int32)), .val (.int (0 : Int32)), .val (.int (0 : Int32)), .val (.int (0 : Int32)), .val (.int (1 : Int32)), .val (.int (0 : Int32)), .val (.int (0 : Int32)), .val (.int (0 : Int32))] [(.ref kk)])) rfl (hb hby at_434)
  obtain ⟨T15, X15, e15, st15⟩ := getS2 X13 hx hZ hown (host := "") (Or.inl (hw _ (List.mem_of_getElem? (i := 18) rfl))) Via.refl e13 S_FALSE (g := (mkF m 452 #[s0, s1, s2, .val (.int i3), .val (.ref kk), .val (.int (i3 - (48 : Int32))), .val (.int (0 : Int32)), .val (.int (0 : Int32)), .val (.int (0 : Int32)), .val (.int (0 : Int32)), .val (.int (1 : Int32)), .val (.int (0 : Int32)), .val (.int (0 : Int32)), .val (.int (0 : Int32))] [(.ref kk)])) rfl (hb hby at_452)
  obtain ⟨T17, X17, e17, st17⟩ := getS2 X15 hx hZ hown (host := "") (Or.inl (hw _ (List.mem_of_getElem? (i := 20) rfl))) Via.refl e15 S_NULL (g := (mkF m 470 #[s0, s1, s2, .val (.int i3), .val (.ref kk), .val (.int (i3 - (48 : Int32))), .val (.int (0 : Int32)), .val (.int (0 : Int32)), .val (.int (0 : Int32)), .val (.int (0 : Int32)), .val (.int (1 : Int32)), .val (.int (0 : Int32)), .val (.int (0 : Int32)), .val (.int (0 : Int32))] [(.ref kk)])) rfl (hb hby at_470)
  refine ⟨T17, _, #[s0, s1, s2, .val (.int i3), .val (.ref kk), .val (.int (i3 - (48 : Int32))), .val (.int (0 : Int32)), .val (.int (0 : Int32)), .val (.int (0 : Int32)), .val (.int (0 : Int32)), .val (.int (1 : Int32)), .val (.int (0 : Int32)), .val (.int (0 : Int32)), .val (.int (0 : Int32))], X17, N3, fun target kt => ?_⟩
  show Steps p.tables e below (T0.setTop (mkF m 203 #[s0, s1, s2, .val (.int i3), s4, s5, s6, s7, s8, s9, s10, s11, s12, s13] [])) _
  refine XS.iloadN X0.here hx rfl (hb hby at_203) rfl ?_
  show Steps p.tables e below (T0.setTop (mkF m 204 #[s0, s1, s2, .val (.int i3), s4, s5, s6, s7, s8, s9, s10, s11, s12, s13] [(.int i3)])) _
  refine st3 _ ?_
  show Steps p.tables e below (T3.setTop (mkF m 207 #[s0, s1, s2, .val (.int i3), s4, s5, s6, s7, s8, s9, s10, s11, s12, s13] [(.ref kk)])) _
  refine XS.astore X3.here hx rfl (hb hby at_207) rfl rfl (l' := #[s0, s1, s2, .val (.int i3), .val (.ref kk), s5, s6, s7, s8, s9, s10, s11, s12, s13]) (os0_207 hs4) ?_
  show Steps p.tables e below (T3.setTop (mkF m 209 #[s0, s1, s2, .val (.int i3), .val (.ref kk), s5, s6, s7, s8, s9, s10, s11, s12, s13] [])) _
  refine XS.iloadN X3.here hx rfl (hb hby at_209) rfl ?_
  show Steps p.tables e below (T3.setTop (mkF m 210 #[s0, s1, s2, .val (.int i3), .val (.ref kk), s5, s6, s7, s8, s9, s10, s11, s12, s13] [(.int i3)])) _
  refine XS.bipush X3.here hx rfl (hb hby at_210) ?_
  show Steps p.tables e below (T3.setTop (mkF m 212 #[s0, s1, s2, .val (.int i3), .val (.ref kk), s5, s6, s7, s8, s9, s10, s11, s12, s13] [(.int (48 : Int32)), (.int i3)])) _
  refine XS.isub X3.here hx rfl (hb hby at_212) rfl ?_
  show Steps p.tables e below (T3.setTop (mkF m 213 #[s0, s1, s2, .val (.int i3), .val (.ref kk), s5, s6, s7, s8, s9, s10, s11, s12, s13] [(.int (i3 - (48 : Int32)))])) _
  refine XS.istore X3.here hx rfl (hb hby at_213) rfl (l' := #[s0, s1, s2, .val (.int i3), .val (.ref kk), .val (.int (i3 - (48 : Int32))), s6, s7, s8, s9, s10, s11, s12, s13]) (os0_213 hs5) ?_
  show Steps p.tables e below (T3.setTop (mkF m 215 #[s0, s1, s2, .val (.int i3), .val (.ref kk), .val (.int (i3 - (48 : Int32))), s6, s7, s8, s9, s10, s11, s12, s13] [])) _
  refine XS.iloadN X3.here hx rfl (hb hby at_215) rfl ?_
  show Steps p.tables e below (T3.setTop (mkF m 216 #[s0, s1, s2, .val (.int i3), .val (.ref kk), .val (.int (i3 - (48 : Int32))), s6, s7, s8, s9, s10, s11, s12, s13] [(.int i3)])) _
  refine XS.bipush X3.here hx rfl (hb hby at_216) ?_
  show Steps p.tables e below (T3.setTop (mkF m 218 #[s0, s1, s2, .val (.int i3), .val (.ref kk), .val (.int (i3 - (48 : Int32))), s6, s7, s8, s9, s10, s11, s12, s13] [(.int (123 : Int32)), (.int i3)])) _
  refine XS.icmpYes X3.here hx rfl (pc0 := 218) (pc' := 225) rfl (hb hby at_218) rfl (feq hc218).2 (by decide) (by decide) ?_
  show Steps p.tables e below (T3.setTop (mkF m 225 #[s0, s1, s2, .val (.int i3), .val (.ref kk), .val (.int (i3 - (48 : Int32))), s6, s7, s8, s9, s10, s11, s12, s13] [])) _
  refine XS.iconst X3.here hx rfl (hb hby at_225) ?_
  show Steps p.tables e below (T3.setTop (mkF m 226 #[s0, s1, s2, .val (.int i3), .val (.ref kk), .val (.int (i3 - (48 : Int32))), s6, s7, s8, s9, s10, s11, s12, s13] [(.int (0 : Int32))])) _
  refine XS.istore X3.here hx rfl (hb hby at_226) rfl (l' := #[s0, s1, s2, .val (.int i3), .val (.ref kk), .val (.int (i3 - (48 : Int32))), .val (.int (0 : Int32)), s7, s8, s9, s10, s11, s12, s13]) (os0_226 hs6) ?_
  show Steps p.tables e below (T3.setTop (mkF m 228 #[s0, s1, s2, .val (.int i3), .val (.ref kk), .val (.int (i3 - (48 : Int32))), .val (.int (0 : Int32)), s7, s8, s9, s10, s11, s12, s13] [])) _
  refine XS.iloadN X3.here hx rfl (hb hby at_228) rfl ?_
  show Steps p.tables e below (T3.setTop (mkF m 229 #[s0, s1, s2, .val (.int i3), .val (.ref kk), .val (.int (i3 - (48 : Int32))), .val (.int (0 : Int32)), s7, s8, s9, s10, s11, s12, s13] [(.int i3)])) _
  refine XS.bipush X3.here hx rfl (hb hby at_229) ?_
  show Steps p.tables e below (T3.setTop (mkF m 231 #[s0, s1, s2, .val (.int i3), .val (.ref kk), .val (.int (i3 - (48 : Int32))), .val (.int (0 : Int32)), s7, s8, s9, s10, s11, s12, s13] [(.int (91 : Int32)), (.int i3)])) _
  refine XS.icmpYes X3.here hx rfl (pc0 := 231) (pc' := 238) rfl (hb hby at_231) rfl (feq hc231).2 (by decide) (by decide) ?_
  show Steps p.tables e below (T3.setTop (mkF m 238 #[s0, s1, s2, .val (.int i3), .val (.ref kk), .val (.int (i3 - (48 : Int32))), .val (.int (0 : Int32)), s7, s8, s9, s10, s11, s12, s13] [])) _
  refine XS.iconst X3.here hx rfl (hb hby at_238) ?_
  show Steps p.tables e below (T3.setTop (mkF m 239 #[s0, s1, s2, .val (.int i3), .val (.ref kk), .val (.int (i3 - (48 : Int32))), .val (.int (0 : Int32)), s7, s8, s9, s10, s11, s12, s13] [(.int (0 : Int32))])) _
  refine XS.istore X3.here hx rfl (hb hby at_239) rfl (l' := #[s0, s1, s2, .val (.int i3), .val (.ref kk), .val (.int (i3 - (48 : Int32))), .val (.int (0 : Int32)), .val (.int (0 : Int32)), s8, s9, s10, s11, s12, s13]) (os0_239 hs7) ?_
  show Steps p.tables e below (T3.setTop (mkF m 241 #[s0, s1, s2, .val (.int i3), .val (.ref kk), .val (.int (i3 - (48 : Int32))), .val (.int (0 : Int32)), .val (.int (0 : Int32)), s8, s9, s10, s11, s12, s13] [])) _
  refine XS.iloadN X3.here hx rfl (hb hby at_241) rfl ?_
  show Steps p.tables e below (T3.setTop (mkF m 242 #[s0, s1, s2, .val (.int i3), .val (.ref kk), .val (.int (i3 - (48 : Int32))), .val (.int (0 : Int32)), .val (.int (0 : Int32)), s8, s9, s10, s11, s12, s13] [(.int i3)])) _
  refine XS.bipush X3.here hx rfl (hb hby at_242) ?_
  show Steps p.tables e below (T3.setTop (mkF m 244 #[s0, s1, s2, .val (.int i3), .val (.ref kk), .val (.int (i3 - (48 : Int32))), .val (.int (0 : Int32)), .val (.int (0 : Int32)), s8, s9, s10, s11, s12, s13] [(.int (34 : Int32)), (.int i3)])) _
  refine XS.icmpYes X3.here hx rfl (pc0 := 244) (pc' := 251) rfl (hb hby at_244) rfl (feq hc244).2 (by decide) (by decide) ?_
  show Steps p.tables e below (T3.setTop (mkF m 251 #[s0, s1, s2, .val (.int i3), .val (.ref kk), .val (.int (i3 - (48 : Int32))), .val (.int (0 : Int32)), .val (.int (0 : Int32)), s8, s9, s10, s11, s12, s13] [])) _
  refine XS.iconst X3.here hx rfl (hb hby at_251) ?_
  show Steps p.tables e below (T3.setTop (mkF m 252 #[s0, s1, s2, .val (.int i3), .val (.ref kk), .val (.int (i3 - (48 : Int32))), .val (.int (0 : Int32)), .val (.int (0 : Int32)), s8, s9, s10, s11, s12, s13] [(.int (0 : Int32))])) _
  refine XS.istore X3.here hx rfl (hb hby at_252) rfl (l' := #[s0, s1, s2, .val (.int i3), .val (.ref kk), .val (.int (i3 - (48 : Int32))), .val (.int (0 : Int32)), .val (.int (0 : Int32)), .val (.int (0 : Int32)), s9, s10, s11, s12, s13]) (os0_252 hs8) ?_
  show Steps p.tables e below (T3.setTop (mkF m 254 #[s0, s1, s2, .val (.int i3), .val (.ref kk), .val (.int (i3 - (48 : Int32))), .val (.int (0 : Int32)), .val (.int (0 : Int32)), .val (.int (0 : Int32)), s9, s10, s11, s12, s13] [])) _
  refine XS.iloadN X3.here hx rfl (hb hby at_254) rfl ?_
  show Steps p.tables e below (T3.setTop (mkF m 255 #[s0, s1, s2, .val (.int i3), .val (.ref kk), .val (.int (i3 - (48 : Int32))), .val (.int (0 : Int32)), .val (.int (0 : Int32)), .val (.int (0 : Int32)), s9, s10, s11, s12, s13] [(.int i3)])) _
  refine XS.bipush X3.here hx rfl (hb hby at_255) ?_
  show Steps p.tables e below (T3.setTop (mkF m 257 #[s0, s1, s2, .val (.int i3), .val (.ref kk), .val (.int (i3 - (48 : Int32))), .val (.int (0 : Int32)), .val (.int (0 : Int32)), .val (.int (0 : Int32)), s9, s10, s11, s12, s13] [(.int (45 : Int32)), (.int i3)])) _
  refine XS.icmpNo X3.here hx rfl (hb hby at_257) rfl (feq hc257).1 ?_
  show Steps p.tables e below (T3.setTop (mkF m 260 #[s0, s1, s2, .val (.int i3), .val (.ref kk), .val (.int (i3 - (48 : Int32))), .val (.int (0 : Int32)), .val (.int (0 : Int32)), .val (.int (0 : Int32)), s9, s10, s11, s12, s13] [])) _
  refine XS.iload X3.here hx rfl (hb hby at_260) rfl ?_
  show Steps p.tables e below (T3.setTop (mkF m 262 #[s0, s1, s2, .val (.int i3), .val (.ref kk), .val (.int (i3 - (48 : Int32))), .val (.int (0 : Int32)), .val (.int (0 : Int32)), .val (.int (0 : Int32)), s9, s10, s11, s12, s13] [(.int (i3 - (48 : Int32)))])) _
  refine XS.ifNo X3.here hx rfl (hb hby at_262) rfl ((if0 _ _).trans (flt hc262).1) ?_
  show Steps p.tables e below (T3.setTop (mkF m 265 #[s0, s1, s2, .val (.int i3), .val (.ref kk), .val (.int (i3 - (48 : Int32))), .val (.int (0 : Int32)), .val (.int (0 : Int32)), .val (.int (0 : Int32)), s9, s10, s11, s12, s13] [])) _
  refine XS.iload X3.here hx rfl (hb hby at_265) rfl ?_
  show Steps p.tables e below (T3.setTop (mkF m 267 #[s0, s1, s2, .val (.int i3), .val (.ref kk), .val (.int (i3 - (48 : Int32))), .val (.int (0 : Int32)), .val (.int (0 : Int32)), .val (.int (0 : Int32)), s9, s10, s11, s12, s13] [(.int (i3 - (48 : Int32)))])) _
  refine XS.bipush X3.here hx rfl (hb hby at_267) ?_
  show Steps p.tables e below (T3.setTop (mkF m 269 #[s0, s1, s2, .val (.int i3), .val (.ref kk), .val (.int (i3 - (48 : Int32))), .val (.int (0 : Int32)), .val (.int (0 : Int32)), .val (.int (0 : Int32)), s9, s10, s11, s12, s13] [(.int (10 : Int32)), (.int (i3 - (48 : Int32)))])) _
  refine XS.icmpYes X3.here hx rfl (pc0 := 269) (pc' := 276) rfl (hb hby at_269) rfl (flt hc269).2.1 (by decide) (by decide) ?_
  show Steps p.tables e below (T3.setTop (mkF m 276 #[s0, s1, s2, .val (.int i3), .val (.ref kk), .val (.int (i3 - (48 : Int32))), .val (.int (0 : Int32)), .val (.int (0 : Int32)), .val (.int (0 : Int32)), s9, s10, s11, s12, s13] [])) _
  refine XS.iconst X3.here hx rfl (hb hby at_276) ?_
  show Steps p.tables e below (T3.setTop (mkF m 277 #[s0, s1, s2, .val (.int i3), .val (.ref kk), .val (.int (i3 - (48 : Int32))), .val (.int (0 : Int32)), .val (.int (0 : Int32)), .val (.int (0 : Int32)), s9, s10, s11, s12, s13] [(.int (0 : Int32))])) _
  refine XS.istore X3.here hx rfl (hb hby at_277) rfl (l' := #[s0, s1, s2, .val (.int i3), .val (.ref kk), .val (.int (i3 - (48 : Int32))), .val (.int (0 : Int32)), .val (.int (0 : Int32)), .val (.int (0 : Int32)), .val (.int (0 : Int32)), s10, s11, s12, s13]) (os0_277 hs9) ?_
  show Steps p.tables e below (T3.setTop (mkF m 279 #[s0, s1, s2, .val (.int i3), .val (.ref kk), .val (.int (i3 - (48 : Int32))), .val (.int (0 : Int32)), .val (.int (0 : Int32)), .val (.int (0 : Int32)), .val (.int (0 : Int32)), s10, s11, s12, s13] [])) _
  refine XS.iloadN X3.here hx rfl (hb hby at_279) rfl ?_
  show Steps p.tables e below (T3.setTop (mkF m 280 #[s0, s1, s2, .val (.int i3), .val (.ref kk), .val (.int (i3 - (48 : Int32))), .val (.int (0 : Int32)), .val (.int (0 : Int32)), .val (.int (0 : Int32)), .val (.int (0 : Int32)), s10, s11, s12, s13] [(.int i3)])) _
  refine XS.bipush X3.here hx rfl (hb hby at_280) ?_
  show Steps p.tables e below (T3.setTop (mkF m 282 #[s0, s1, s2, .val (.int i3), .val (.ref kk), .val (.int (i3 - (48 : Int32))), .val (.int (0 : Int32)), .val (.int (0 : Int32)), .val (.int (0 : Int32)), .val (.int (0 : Int32)), s10, s11, s12, s13] [(.int (116 : Int32)), (.int i3)])) _
  refine XS.icmpNo X3.here hx rfl (hb hby at_282) rfl (teq hc282).2 ?_
  show Steps p.tables e below (T3.setTop (mkF m 285 #[s0, s1, s2, .val (.int i3), .val (.ref kk), .val (.int (i3 - (48 : Int32))), .val (.int (0 : Int32)), .val (.int (0 : Int32)), .val (.int (0 : Int32)), .val (.int (0 : Int32)), s10, s11, s12, s13] [])) _
  refine XS.iconst X3.here hx rfl (hb hby at_285) ?_
  show Steps p.tables e below (T3.setTop (mkF m 286 #[s0, s1, s2, .val (.int i3), .val (.ref kk), .val (.int (i3 - (48 : Int32))), .val (.int (0 : Int32)), .val (.int (0 : Int32)), .val (.int (0 : Int32)), .val (.int (0 : Int32)), s10, s11, s12, s13] [(.int (1 : Int32))])) _
  refine XS.goto X3.here hx rfl (pc0 := 286) (pc' := 290) rfl (hb hby at_286) (by decide) (by decide) ?_
  show Steps p.tables e below (T3.setTop (mkF m 290 #[s0, s1, s2, .val (.int i3), .val (.ref kk), .val (.int (i3 - (48 : Int32))), .val (.int (0 : Int32)), .val (.int (0 : Int32)), .val (.int (0 : Int32)), .val (.int (0 : Int32)), s10, s11, s12, s13] [(.int (1 : Int32))])) _
  refine XS.istore X3.here hx rfl (hb hby at_290) rfl (l' := #[s0, s1, s2, .val (.int i3), .val (.ref kk), .val (.int (i3 - (48 : Int32))), .val (.int (0 : Int32)), .val (.int (0 : Int32)), .val (.int (0 : Int32)), .val (.int (0 : Int32)), .val (.int (1 : Int32)), s11, s12, s13]) (os0_290 hs10) ?_
  show Steps p.tables e below (T3.setTop (mkF m 292 #[s0, s1, s2, .val (.int i3), .val (.ref kk), .val (.int (i3 - (48 : Int32))), .val (.int (0 : Int32)), .val (.int (0 : Int32)), .val (.int (0 : Int32)), .val (.int (0 : Int32)), .val (.int (1 : Int32)), s11, s12, s13] [])) _
  refine XS.iloadN X3.here hx rfl (hb hby at_292) rfl ?_
  show Steps p.tables e below (T3.setTop (mkF m 293 #[s0, s1, s2, .val (.int i3), .val (.ref kk), .val (.int (i3 - (48 : Int32))), .val (.int (0 : Int32)), .val (.int (0 : Int32)), .val (.int (0 : Int32)), .val (.int (0 : Int32)), .val (.int (1 : Int32)), s11, s12, s13] [(.int i3)])) _
  refine XS.bipush X3.here hx rfl (hb hby at_293) ?_
  show Steps p.tables e below (T3.setTop (mkF m 295 #[s0, s1, s2, .val (.int i3), .val (.ref kk), .val (.int (i3 - (48 : Int32))), .val (.int (0 : Int32)), .val (.int (0 : Int32)), .val (.int (0 : Int32)), .val (.int (0 : Int32)), .val (.int (1 : Int32)), s11, s12, s13] [(.int (102 : Int32)), (.int i3)])) _
  refine XS.icmpYes X3.here hx rfl (pc0 := 295) (pc' := 302) rfl (hb hby at_295) rfl (feq hc295).2 (by decide) (by decide) ?_
  show Steps p.tables e below (T3.setTop (mkF m 302 #[s0, s1, s2, .val (.int i3), .val (.ref kk), .val (.int (i3 - (48 : Int32))), .val (.int (0 : Int32)), .val (.int (0 : Int32)), .val (.int (0 : Int32)), .val (.int (0 : Int32)), .val (.int (1 : Int32)), s11, s12, s13] [])) _
  refine XS.iconst X3.here hx rfl (hb hby at_302) ?_
  show Steps p.tables e below (T3.setTop (mkF m 303 #[s0, s1, s2, .val (.int i3), .val (.ref kk), .val (.int (i3 - (48 : Int32))), .val (.int (0 : Int32)), .val (.int (0 : Int32)), .val (.int (0 : Int32)), .val (.int (0 : Int32)), .val (.int (1 : Int32)), s11, s12, s13] [(.int (0 : Int32))])) _
  refine XS.istore X3.here hx rfl (hb hby at_303) rfl (l' := #[s0, s1, s2, .val (.int i3), .val (.ref kk), .val (.int (i3 - (48 : Int32))), .val (.int (0 : Int32)), .val (.int (0 : Int32)), .val (.int (0 : Int32)), .val (.int (0 : Int32)), .val (.int (1 : Int32)), .val (.int (0 : Int32)), s12, s13]) (os0_303 hs11) ?_
  show Steps p.tables e below (T3.setTop (mkF m 305 #[s0, s1, s2, .val (.int i3), .val (.ref kk), .val (.int (i3 - (48 : Int32))), .val (.int (0 : Int32)), .val (.int (0 : Int32)), .val (.int (0 : Int32)), .val (.int (0 : Int32)), .val (.int (1 : Int32)), .val (.int (0 : Int32)), s12, s13] [])) _
  refine XS.iloadN X3.here hx rfl (hb hby at_305) rfl ?_
  show Steps p.tables e below (T3.setTop (mkF m 306 #[s0, s1, s2, .val (.int i3), .val (.ref kk), .val (.int (i3 - (48 : Int32))), .val (.int (0 : Int32)), .val (.int (0 : Int32)), .val (.int (0 : Int32)), .val (.int (0 : Int32)), .val (.int (1 : Int32)), .val (.int (0 : Int32)), s12, s13] [(.int i3)])) _
  refine XS.bipush X3.here hx rfl (hb hby at_306) ?_
  show Steps p.tables e below (T3.setTop (mkF m 308 #[s0, s1, s2, .val (.int i3), .val (.ref kk), .val (.int (i3 - (48 : Int32))), .val (.int (0 : Int32)), .val (.int (0 : Int32)), .val (.int (0 : Int32)), .val (.int (0 : Int32)), .val (.int (1 : Int32)), .val (.int (0 : Int32)), s12, s13] [(.int (110 : Int32)), (.int i3)])) _
  refine XS.icmpYes X3.here hx rfl (pc0 := 308) (pc' := 315) rfl (hb hby at_308) rfl (feq hc308).2 (by decide) (by decide) ?_
  show Steps p.tables e below (T3.setTop (mkF m 315 #[s0, s1, s2, .val (.int i3), .val (.ref kk), .val (.int (i3 - (48 : Int32))), .val (.int (0 : Int32)), .val (.int (0 : Int32)), .val (.int (0 : Int32)), .val (.int (0 : Int32)), .val (.int (1 : Int32)), .val (.int (0 : Int32)), s12, s13] [])) _
  refine XS.iconst X3.here hx rfl (hb hby at_315) ?_
  show Steps p.tables e below (T3.setTop (mkF m 316 #[s0, s1, s2, .val (.int i3), .val (.ref kk), .val (.int (i3 - (48 : Int32))), .val (.int (0 : Int32)), .val (.int (0 : Int32)), .val (.int (0 : Int32)), .val (.int (0 : Int32)), .val (.int (1 : Int32)), .val (.int (0 : Int32)), s12, s13] [(.int (0 : Int32))])) _
  refine XS.istore X3.here hx rfl (hb hby at_316) rfl (l' := #[s0, s1, s2, .val (.int i3), .val (.ref kk), .val (.int (i3 - (48 : Int32))), .val (.int (0 : Int32)), .val (.int (0 : Int32)), .val (.int (0 : Int32)), .val (.int (0 : Int32)), .val (.int (1 : Int32)), .val (.int (0 : Int32)), .val (.int (0 : Int32)), s13]) (os0_316 hs12) ?_
  show Steps p.tables e below (T3.setTop (mkF m 318 #[s0, s1, s2, .val (.int i3), .val (.ref kk), .val (.int (i3 - (48 : Int32))), .val (.int (0 : Int32)), .val (.int (0 : Int32)), .val (.int (0 : Int32)), .val (.int (0 : Int32)), .val (.int (1 : Int32)), .val (.int (0 : Int32)), .val (.int (0 : Int32)), s13] [])) _
  refine XS.iload X3.here hx rfl (hb hby at_318) rfl ?_
  show Steps p.tables e below (T3.setTop (mkF m 320 #[s0, s1, s2, .val (.int i3), .val (.ref kk), .val (.int (i3 - (48 : Int32))), .val (.int (0 : Int32)), .val (.int (0 : Int32)), .val (.int (0 : Int32)), .val (.int (0 : Int32)), .val (.int (1 : Int32)), .val (.int (0 : Int32)), .val (.int (0 : Int32)), s13] [(.int (0 : Int32))])) _
  refine XS.ifNo X3.here hx rfl (hb hby at_320) rfl ((if0 _ _).trans (teq (rfl : (0 : Int32) = (0 : Int32))).2) ?_
  show Steps p.tables e below (T3.setTop (mkF m 323 #[s0, s1, s2, .val (.int i3), .val (.ref kk), .val (.int (i3 - (48 : Int32))), .val (.int (0 : Int32)), .val (.int (0 : Int32)), .val (.int (0 : Int32)), .val (.int (0 : Int32)), .val (.int (1 : Int32)), .val (.int (0 : Int32)), .val (.int (0 : Int32)), s13] [])) _
  refine XS.iload X3.here hx rfl (hb hby at_323) rfl ?_
  show Steps p.tables e below (T3.setTop (mkF m 325 #[s0, s1, s2, .val (.int i3), .val (.ref kk), .val (.int (i3 - (48 : Int32))), .val (.int (0 : Int32)), .val (.int (0 : Int32)), .val (.int (0 : Int32)), .val (.int (0 : Int32)), .val (.int (1 : Int32)), .val (.int (0 : Int32)), .val (.int (0 : Int32)), s13] [(.int (0 : Int32))])) _
  refine XS.ifNo X3.here hx rfl (hb hby at_325) rfl ((if0 _ _).trans (teq (rfl : (0 : Int32) = (0 : Int32))).2) ?_
  show Steps p.tables e below (T3.setTop (mkF m 328 #[s0, s1, s2, .val (.int i3), .val (.ref kk), .val (.int (i3 - (48 : Int32))), .val (.int (0 : Int32)), .val (.int (0 : Int32)), .val (.int (0 : Int32)), .val (.int (0 : Int32)), .val (.int (1 : Int32)), .val (.int (0 : Int32)), .val (.int (0 : Int32)), s13] [])) _
  refine XS.iload X3.here hx rfl (hb hby at_328) rfl ?_
  show Steps p.tables e below (T3.setTop (mkF m 330 #[s0, s1, s2, .val (.int i3), .val (.ref kk), .val (.int (i3 - (48 : Int32))), .val (.int (0 : Int32)), .val (.int (0 : Int32)), .val (.int (0 : Int32)), .val (.int (0 : Int32)), .val (.int (1 : Int32)), .val (.int (0 : Int32)), .val (.int (0 : Int32)), s13] [(.int (0 : Int32))])) _
  refine XS.ifNo X3.here hx rfl (hb hby at_330) rfl ((if0 _ _).trans (teq (rfl : (0 : Int32) = (0 : Int32))).2) ?_
  show Steps p.tables e below (T3.setTop (mkF m 333 #[s0, s1, s2, .val (.int i3), .val (.ref kk), .val (.int (i3 - (48 : Int32))), .val (.int (0 : Int32)), .val (.int (0 : Int32)), .val (.int (0 : Int32)), .val (.int (0 : Int32)), .val (.int (1 : Int32)), .val (.int (0 : Int32)), .val (.int (0 : Int32)), s13] [])) _
  refine XS.iload X3.here hx rfl (hb hby at_333) rfl ?_
  show Steps p.tables e below (T3.setTop (mkF m 335 #[s0, s1, s2, .val (.int i3), .val (.ref kk), .val (.int (i3 - (48 : Int32))), .val (.int (0 : Int32)), .val (.int (0 : Int32)), .val (.int (0 : Int32)), .val (.int (0 : Int32)), .val (.int (1 : Int32)), .val (.int (0 : Int32)), .val (.int (0 : Int32)), s13] [(.int (0 : Int32))])) _
  refine XS.ifNo X3.here hx rfl (hb hby at_335) rfl ((if0 _ _).trans (teq (rfl : (0 : Int32) = (0 : Int32))).2) ?_
  show Steps p.tables e below (T3.setTop (mkF m 338 #[s0, s1, s2, .val (.int i3), .val (.ref kk), .val (.int (i3 - (48 : Int32))), .val (.int (0 : Int32)), .val (.int (0 : Int32)), .val (.int (0 : Int32)), .val (.int (0 : Int32)), .val (.int (1 : Int32)), .val (.int (0 : Int32)), .val (.int (0 : Int32)), s13] [])) _
  refine XS.iload X3.here hx rfl (hb hby at_338) rfl ?_
  show Steps p.tables e below (T3.setTop (mkF m 340 #[s0, s1, s2, .val (.int i3), .val (.ref kk), .val (.int (i3 - (48 : Int32))), .val (.int (0 : Int32)), .val (.int (0 : Int32)), .val (.int (0 : Int32)), .val (.int (0 : Int32)), .val (.int (1 : Int32)), .val (.int (0 : Int32)), .val (.int (0 : Int32)), s13] [(.int (1 : Int32))])) _
  refine XS.ifYes X3.here hx rfl (pc0 := 340) (pc' := 357) rfl (hb hby at_340) rfl ((if0 _ _).trans (feq hc340).2) (by decide) (by decide) ?_
  show Steps p.tables e below (T3.setTop (mkF m 357 #[s0, s1, s2, .val (.int i3), .val (.ref kk), .val (.int (i3 - (48 : Int32))), .val (.int (0 : Int32)), .val (.int (0 : Int32)), .val (.int (0 : Int32)), .val (.int (0 : Int32)), .val (.int (1 : Int32)), .val (.int (0 : Int32)), .val (.int (0 : Int32)), s13] [])) _
  refine XS.iconst X3.here hx rfl (hb hby at_357) ?_
  show Steps p.tables e below (T3.setTop (mkF m 358 #[s0, s1, s2, .val (.int i3), .val (.ref kk), .val (.int (i3 - (48 : Int32))), .val (.int (0 : Int32)), .val (.int (0 : Int32)), .val (.int (0 : Int32)), .val (.int (0 : Int32)), .val (.int (1 : Int32)), .val (.int (0 : Int32)), .val (.int (0 : Int32)), s13] [(.int (0 : Int32))])) _
  refine XS.istore X3.here hx rfl (hb hby at_358) rfl (l' := #[s0, s1, s2, .val (.int i3), .val (.ref kk), .val (.int (i3 - (48 : Int32))), .val (.int (0 : Int32)), .val (.int (0 : Int32)), .val (.int (0 : Int32)), .val (.int (0 : Int32)), .val (.int (1 : Int32)), .val (.int (0 : Int32)), .val (.int (0 : Int32)), .val (.int (0 : Int32))]) (os0_358 hs13) ?_
  show Steps p.tables e below (T3.setTop (mkF m 360 #[s0, s1, s2, .val (.int i3), .val (.ref kk), .val (.int (i3 - (48 : Int32))), .val (.int (0 : Int32)), .val (.int (0 : Int32)), .val (.int (0 : Int32)), .val (.int (0 : Int32)), .val (.int (1 : Int32)), .val (.int (0 : Int32)), .val (.int (0 : Int32)), .val (.int (0 : Int32))] [])) _
  refine XS.aload X3.here hx rfl (hb hby at_360) rfl rfl ?_
  show Steps p.tables e below (T3.setTop (mkF m 362 #[s0, s1, s2, .val (.int i3), .val (.ref kk), .val (.int (i3 - (48 : Int32))), .val (.int (0 : Int32)), .val (.int (0 : Int32)), .val (.int (0 : Int32)), .val (.int (0 : Int32)), .val (.int (1 : Int32)), .val (.int (0 : Int32)), .val (.int (0 : Int32)), .val (.int (0 : Int32))] [(.ref kk)])) _
  refine st5 _ ?_
  show Steps p.tables e below (T5.setTop (mkF m 365 #[s0, s1, s2, .val (.int i3), .val (.ref kk), .val (.int (i3 - (48 : Int32))), .val (.int (0 : Int32)), .val (.int (0 : Int32)), .val (.int (0 : Int32)), .val (.int (0 : Int32)), .val (.int (1 : Int32)), .val (.int (0 : Int32)), .val (.int (0 : Int32)), .val (.int (0 : Int32))] [(.ref w4), (.ref kk)])) _
  refine Jvm.RoadKit.acmp (g := (mkF m 365 #[s0, s1, s2, .val (.int i3), .val (.ref kk), .val (.int (i3 - (48 : Int32))), .val (.int (0 : Int32)), .val (.int (0 : Int32)), .val (.int (0 : Int32)), .val (.int (0 : Int32)), .val (.int (1 : Int32)), .val (.int (0 : Int32)), .val (.int (0 : Int32)), .val (.int (0 : Int32))] [(.ref w4), (.ref kk)])) X5 hx rfl rfl rfl (pc0 := 365) (pc' := 372) (same := false) rfl (hb hby at_365) rfl (decide_eq_false fun q => ha365 (Value.ref.inj q)) (by decide) (by decide) ?_
  show Steps p.tables e below (T5.setTop (mkF m 372 #[s0, s1, s2, .val (.int i3), .val (.ref kk), .val (.int (i3 - (48 : Int32))), .val (.int (0 : Int32)), .val (.int (0 : Int32)), .val (.int (0 : Int32)), .val (.int (0 : Int32)), .val (.int (1 : Int32)), .val (.int (0 : Int32)), .val (.int (0 : Int32)), .val (.int (0 : Int32))] [])) _
  refine XS.iconst X5.here hx rfl (hb hby at_372) ?_
  show Steps p.tables e below (T5.setTop (mkF m 373 #[s0, s1, s2, .val (.int i3), .val (.ref kk), .val (.int (i3 - (48 : Int32))), .val (.int (0 : Int32)), .val (.int (0 : Int32)), .val (.int (0 : Int32)), .val (.int (0 : Int32)), .val (.int (1 : Int32)), .val (.int (0 : Int32)), .val (.int (0 : Int32)), .val (.int (0 : Int32))] [(.int (0 : Int32))])) _
  refine XS.iload X5.here hx rfl (hb hby at_373) rfl ?_
  show Steps p.tables e below (T5.setTop (mkF m 375 #[s0, s1, s2, .val (.int i3), .val (.ref kk), .val (.int (i3 - (48 : Int32))), .val (.int (0 : Int32)), .val (.int (0 : Int32)), .val (.int (0 : Int32)), .val (.int (0 : Int32)), .val (.int (1 : Int32)), .val (.int (0 : Int32)), .val (.int (0 : Int32)), .val (.int (0 : Int32))] [(.int (0 : Int32)), (.int (0 : Int32))])) _
  refine XS.icmpNo X5.here hx rfl (hb hby at_375) rfl (teq (rfl : (0 : Int32) = (0 : Int32))).2 ?_
  show Steps p.tables e below (T5.setTop (mkF m 378 #[s0, s1, s2, .val (.int i3), .val (.ref kk), .val (.int (i3 - (48 : Int32))), .val (.int (0 : Int32)), .val (.int (0 : Int32)), .val (.int (0 : Int32)), .val (.int (0 : Int32)), .val (.int (1 : Int32)), .val (.int (0 : Int32)), .val (.int (0 : Int32)), .val (.int (0 : Int32))] [])) _
  refine XS.aload X5.here hx rfl (hb hby at_378) rfl rfl ?_
  show Steps p.tables e below (T5.setTop (mkF m 380 #[s0, s1, s2, .val (.int i3), .val (.ref kk), .val (.int (i3 - (48 : Int32))), .val (.int (0 : Int32)), .val (.int (0 : Int32)), .val (.int (0 : Int32)), .val (.int (0 : Int32)), .val (.int (1 : Int32)), .val (.int (0 : Int32)), .val (.int (0 : Int32)), .val (.int (0 : Int32))] [(.ref kk)])) _
  refine st7 _ ?_
  show Steps p.tables e below (T7.setTop (mkF m 383 #[s0, s1, s2, .val (.int i3), .val (.ref kk), .val (.int (i3 - (48 : Int32))), .val (.int (0 : Int32)), .val (.int (0 : Int32)), .val (.int (0 : Int32)), .val (.int (0 : Int32)), .val (.int (1 : Int32)), .val (.int (0 : Int32)), .val (.int (0 : Int32)), .val (.int (0 : Int32))] [(.ref w6), (.ref kk)])) _
  refine Jvm.RoadKit.acmp (g := (mkF m 383 #[s0, s1, s2, .val (.int i3), .val (.ref kk), .val (.int (i3 - (48 : Int32))), .val (.int (0 : Int32)), .val (.int (0 : Int32)), .val (.int (0 : Int32)), .val (.int (0 : Int32)), .val (.int (1 : Int32)), .val (.int (0 : Int32)), .val (.int (0 : Int32)), .val (.int (0 : Int32))] [(.ref w6), (.ref kk)])) X7 hx rfl rfl rfl (pc0 := 383) (pc' := 390) (same := false) rfl (hb hby at_383) rfl (decide_eq_false fun q => ha383 (Value.ref.inj q)) (by decide) (by decide) ?_
  show Steps p.tables e below (T7.setTop (mkF m 390 #[s0, s1, s2, .val (.int i3), .val (.ref kk), .val (.int (i3 - (48 : Int32))), .val (.int (0 : Int32)), .val (.int (0 : Int32)), .val (.int (0 : Int32)), .val (.int (0 : Int32)), .val (.int (1 : Int32)), .val (.int (0 : Int32)), .val (.int (0 : Int32)), .val (.int (0 : Int32))] [])) _
  refine XS.iconst X7.here hx rfl (hb hby at_390) ?_
  show Steps p.tables e below (T7.setTop (mkF m 391 #[s0, s1, s2, .val (.int i3), .val (.ref kk), .val (.int (i3 - (48 : Int32))), .val (.int (0 : Int32)), .val (.int (0 : Int32)), .val (.int (0 : Int32)), .val (.int (0 : Int32)), .val (.int (1 : Int32)), .val (.int (0 : Int32)), .val (.int (0 : Int32)), .val (.int (0 : Int32))] [(.int (0 : Int32))])) _
  refine XS.iload X7.here hx rfl (hb hby at_391) rfl ?_
  show Steps p.tables e below (T7.setTop (mkF m 393 #[s0, s1, s2, .val (.int i3), .val (.ref kk), .val (.int (i3 - (48 : Int32))), .val (.int (0 : Int32)), .val (.int (0 : Int32)), .val (.int (0 : Int32)), .val (.int (0 : Int32)), .val (.int (1 : Int32)), .val (.int (0 : Int32)), .val (.int (0 : Int32)), .val (.int (0 : Int32))] [(.int (0 : Int32)), (.int (0 : Int32))])) _
  refine XS.icmpNo X7.here hx rfl (hb hby at_393) rfl (teq (rfl : (0 : Int32) = (0 : Int32))).2 ?_
  show Steps p.tables e below (T7.setTop (mkF m 396 #[s0, s1, s2, .val (.int i3), .val (.ref kk), .val (.int (i3 - (48 : Int32))), .val (.int (0 : Int32)), .val (.int (0 : Int32)), .val (.int (0 : Int32)), .val (.int (0 : Int32)), .val (.int (1 : Int32)), .val (.int (0 : Int32)), .val (.int (0 : Int32)), .val (.int (0 : Int32))] [])) _
  refine XS.aload X7.here hx rfl (hb hby at_396) rfl rfl ?_
  show Steps p.tables e below (T7.setTop (mkF m 398 #[s0, s1, s2, .val (.int i3), .val (.ref kk), .val (.int (i3 - (48 : Int32))), .val (.int (0 : Int32)), .val (.int (0 : Int32)), .val (.int (0 : Int32)), .val (.int (0 : Int32)), .val (.int (1 : Int32)), .val (.int (0 : Int32)), .val (.int (0 : Int32)), .val (.int (0 : Int32))] [(.ref kk)])) _
  refine st9 _ ?_
  show Steps p.tables e below (T9.setTop (mkF m 401 #[s0, s1, s2, .val (.int i3), .val (.ref kk), .val (.int (i3 - (48 : Int32))), .val (.int (0 : Int32)), .val (.int (0 : Int32)), .val (.int (0 : Int32)), .val (.int (0 : Int32)), .val (.int (1 : Int32)), .val (.int (0 : Int32)), .val (.int (0 : Int32)), .val (.int (0 : Int32))] [(.ref w8), (.ref kk)])) _
  refine Jvm.RoadKit.acmp (g := (mkF m 401 #[s0, s1, s2, .val (.int i3), .val (.ref kk), .val (.int (i3 - (48 : Int32))), .val (.int (0 : Int32)), .val (.int (0 : Int32)), .val (.int (0 : Int32)), .val (.int (0 : Int32)), .val (.int (1 : Int32)), .val (.int (0 : Int32)), .val (.int (0 : Int32)), .val (.int (0 : Int32))] [(.ref w8), (.ref kk)])) X9 hx rfl rfl rfl (pc0 := 401) (pc' := 408) (same := false) rfl (hb hby at_401) rfl (decide_eq_false fun q => ha401 (Value.ref.inj q)) (by decide) (by decide) ?_
  show Steps p.tables e below (T9.setTop (mkF m 408 #[s0, s1, s2, .val (.int i3), .val (.ref kk), .val (.int (i3 - (48 : Int32))), .val (.int (0 : Int32)), .val (.int (0 : Int32)), .val (.int (0 : Int32)), .val (.int (0 : Int32)), .val (.int (1 : Int32)), .val (.int (0 : Int32)), .val (.int (0 : Int32)), .val (.int (0 : Int32))] [])) _
  refine XS.iconst X9.here hx rfl (hb hby at_408) ?_
  show Steps p.tables e below (T9.setTop (mkF m 409 #[s0, s1, s2, .val (.int i3), .val (.ref kk), .val (.int (i3 - (48 : Int32))), .val (.int (0 : Int32)), .val (.int (0 : Int32)), .val (.int (0 : Int32)), .val (.int (0 : Int32)), .val (.int (1 : Int32)), .val (.int (0 : Int32)), .val (.int (0 : Int32)), .val (.int (0 : Int32))] [(.int (0 : Int32))])) _
  refine XS.iload X9.here hx rfl (hb hby at_409) rfl ?_
  show Steps p.tables e below (T9.setTop (mkF m 411 #[s0, s1, s2, .val (.int i3), .val (.ref kk), .val (.int (i3 - (48 : Int32))), .val (.int (0 : Int32)), .val (.int (0 : Int32)), .val (.int (0 : Int32)), .val (.int (0 : Int32)), .val (.int (1 : Int32)), .val (.int (0 : Int32)), .val (.int (0 : Int32)), .val (.int (0 : Int32))] [(.int (0 : Int32)), (.int (0 : Int32))])) _
  refine XS.icmpNo X9.here hx rfl (hb hby at_411) rfl (teq (rfl : (0 : Int32) = (0 : Int32))).2 ?_
  show Steps p.tables e below (T9.setTop (mkF m 414 #[s0, s1, s2, .val (.int i3), .val (.ref kk), .val (.int (i3 - (48 : Int32))), .val (.int (0 : Int32)), .val (.int (0 : Int32)), .val (.int (0 : Int32)), .val (.int (0 : Int32)), .val (.int (1 : Int32)), .val (.int (0 : Int32)), .val (.int (0 : Int32)), .val (.int (0 : Int32))] [])) _
  refine XS.aload X9.here hx rfl (hb hby at_414) rfl rfl ?_
  show Steps p.tables e below (T9.setTop (mkF m 416 #[s0, s1, s2, .val (.int i3), .val (.ref kk), .val (.int (i3 - (48 : Int32))), .val (.int (0 : Int32)), .val (.int (0 : Int32)), .val (.int (0 : Int32)), .val (.int (0 : Int32)), .val (.int (1 : Int32)), .val (.int (0 : Int32)), .val (.int (0 : Int32)), .val (.int (0 : Int32))] [(.ref kk)])) _
  refine st11 _ ?_
  show Steps p.tables e below (T11.setTop (mkF m 419 #[s0, s1, s2, .val (.int i3), .val (.ref kk), .val (.int (i3 - (48 : Int32))), .val (.int (0 : Int32)), .val (.int (0 : Int32)), .val (.int (0 : Int32)), .val (.int (0 : Int32)), .val (.int (1 : Int32)), .val (.int (0 : Int32)), .val (.int (0 : Int32)), .val (.int (0 : Int32))] [(.ref w10), (.ref kk)])) _
  refine Jvm.RoadKit.acmp (g := (mkF m 419 #[s0, s1, s2, .val (.int i3), .val (.ref kk), .val (.int (i3 - (48 : Int32))), .val (.int (0 : Int32)), .val (.int (0 : Int32)), .val (.int (0 : Int32)), .val (.int (0 : Int32)), .val (.int (1 : Int32)), .val (.int (0 : Int32)), .val (.int (0 : Int32)), .val (.int (0 : Int32))] [(.ref w10), (.ref kk)])) X11 hx rfl rfl rfl (pc0 := 419) (pc' := 426) (same := false) rfl (hb hby at_419) rfl (decide_eq_false fun q => ha419 (Value.ref.inj q)) (by decide) (by decide) ?_
  show Steps p.tables e below (T11.setTop (mkF m 426 #[s0, s1, s2, .val (.int i3), .val (.ref kk), .val (.int (i3 - (48 : Int32))), .val (.int (0 : Int32)), .val (.int (0 : Int32)), .val (.int (0 : Int32)), .val (.int (0 : Int32)), .val (.int (1 : Int32)), .val (.int (0 : Int32)), .val (.int (0 : Int32)), .val (.int (0 : Int32))] [])) _
  refine XS.iconst X11.here hx rfl (hb hby at_426) ?_
  show Steps p.tables e below (T11.setTop (mkF m 427 #[s0, s1, s2, .val (.int i3), .val (.ref kk), .val (.int (i3 - (48 : Int32))), .val (.int (0 : Int32)), .val (.int (0 : Int32)), .val (.int (0 : Int32)), .val (.int (0 : Int32)), .val (.int (1 : Int32)), .val (.int (0 : Int32)), .val (.int (0 : Int32)), .val (.int (0 : Int32))] [(.int (0 : Int32))])) _
  refine XS.iload X11.here hx rfl (hb hby at_427) rfl ?_
  show Steps p.tables e below (T11.setTop (mkF m 429 #[s0, s1, s2, .val (.int i3), .val (.ref kk), .val (.int (i3 - (48 : Int32))), .val (.int (0 : Int32)), .val (.int (0 : Int32)), .val (.int (0 : Int32)), .val (.int (0 : Int32)), .val (.int (1 : Int32)), .val (.int (0 : Int32)), .val (.int (0 : Int32)), .val (.int (0 : Int32))] [(.int (0 : Int32)), (.int (0 : Int32))])) _
  refine XS.icmpNo X11.here hx rfl (hb hby at_429) rfl (teq (rfl : (0 : Int32) = (0 : Int32))).2 ?_
  show Steps p.tables e below (T11.setTop (mkF m 432 #[s0, s1, s2, .val (.int i3), .val (.ref kk), .val (.int (i3 - (48 : Int32))), .val (.int (0 : Int32)), .val (.int (0 : Int32)), .val (.int (0 : Int32)), .val (.int (0 : Int32)), .val (.int (1 : Int32)), .val (.int (0 : Int32)), .val (.int (0 : Int32)), .val (.int (0 : Int32))] [])) _
  refine XS.aload X11.here hx rfl (hb hby at_432) rfl rfl ?_
  show Steps p.tables e below (T11.setTop (mkF m 434 #[s0, s1, s2, .val (.int i3), .val (.ref kk), .val (.int (i3 - (48 : Int32))), .val (.int (0 : Int32)), .val (.int (0 : Int32)), .val (.int (0 : Int32)), .val (.int (0 : Int32)), .val (.int (1 : Int32)), .val (.int (0 : Int32)), .val (.int (0 : Int32)), .val (.int (0 : Int32))] [(.ref kk)])) _
  refine st13 _ ?_
  show Steps p.tables e below (T13.setTop (mkF m 437 #[s0, s1, s2, .val (.int i3), .val (.ref kk), .val (.int (i3 - (48 : Int32))), .val (.int (0 : Int32)), .val (.int (0 : Int32)), .val (.int (0 : Int32)), .val (.int (0 : Int32)), .val (.int (1 : Int32)), .val (.int (0 : Int32)), .val (.int (0 : Int32)), .val (.int (0 : Int32))] [(.ref w12), (.ref kk)])) _
  refine Jvm.RoadKit.acmp (g := (mkF m 437 #[s0, s1, s2, .val (.int i3), .val (.ref kk), .val (.int (i3 - (48 : Int32))), .val (.int (0 : Int32)), .val (.int (0 : Int32)), .val (.int (0 : Int32)), .val (.int (0 : Int32)), .val (.int (1 : Int32)), .val (.int (0 : Int32)), .val (.int (0 : Int32)), .val (.int (0 : Int32))] [(.ref w12), (.ref kk)])) X13 hx rfl rfl rfl (pc0 := 437) (pc' := 440) (same := true) rfl (hb hby at_437) rfl (decide_eq_true (congrArg Value.ref ha437)) (by decide) (by decide) ?_
  show Steps p.tables e below (T13.setTop (mkF m 440 #[s0, s1, s2, .val (.int i3), .val (.ref kk), .val (.int (i3 - (48 : Int32))), .val (.int (0 : Int32)), .val (.int (0 : Int32)), .val (.int (0 : Int32)), .val (.int (0 : Int32)), .val (.int (1 : Int32)), .val (.int (0 : Int32)), .val (.int (0 : Int32)), .val (.int (0 : Int32))] [])) _
  refine XS.iconst X13.here hx rfl (hb hby at_440) ?_
  show Steps p.tables e below (T13.setTop (mkF m 441 #[s0, s1, s2, .val (.int i3), .val (.ref kk), .val (.int (i3 - (48 : Int32))), .val (.int (0 : Int32)), .val (.int (0 : Int32)), .val (.int (0 : Int32)), .val (.int (0 : Int32)), .val (.int (1 : Int32)), .val (.int (0 : Int32)), .val (.int (0 : Int32)), .val (.int (0 : Int32))] [(.int (1 : Int32))])) _
  refine XS.goto X13.here hx rfl (pc0 := 441) (pc' := 445) rfl (hb hby at_441) (by decide) (by decide) ?_
  show Steps p.tables e below (T13.setTop (mkF m 445 #[s0, s1, s2, .val (.int i3), .val (.ref kk), .val (.int (i3 - (48 : Int32))), .val (.int (0 : Int32)), .val (.int (0 : Int32)), .val (.int (0 : Int32)), .val (.int (0 : Int32)), .val (.int (1 : Int32)), .val (.int (0 : Int32)), .val (.int (0 : Int32)), .val (.int (0 : Int32))] [(.int (1 : Int32))])) _
  refine XS.iload X13.here hx rfl (hb hby at_445) rfl ?_
  show Steps p.tables e below (T13.setTop (mkF m 447 #[s0, s1, s2, .val (.int i3), .val (.ref kk), .val (.int (i3 - (48 : Int32))), .val (.int (0 : Int32)), .val (.int (0 : Int32)), .val (.int (0 : Int32)), .val (.int (0 : Int32)), .val (.int (1 : Int32)), .val (.int (0 : Int32)), .val (.int (0 : Int32)), .val (.int (0 : Int32))] [(.int (1 : Int32)), (.int (1 : Int32))])) _
  refine XS.icmpNo X13.here hx rfl (hb hby at_447) rfl (teq (rfl : (1 : Int32) = (1 : Int32))).2 ?_
  show Steps p.tables e below (T13.setTop (mkF m 450 #[s0, s1, s2, .val (.int i3), .val (.ref kk), .val (.int (i3 - (48 : Int32))), .val (.int (0 : Int32)), .val (.int (0 : Int32)), .val (.int (0 : Int32)), .val (.int (0 : Int32)), .val (.int (1 : Int32)), .val (.int (0 : Int32)), .val (.int (0 : Int32)), .val (.int (0 : Int32))] [])) _
  refine XS.aload X13.here hx rfl (hb hby at_450) rfl rfl ?_
  show Steps p.tables e below (T13.setTop (mkF m 452 #[s0, s1, s2, .val (.int i3), .val (.ref kk), .val (.int (i3 - (48 : Int32))), .val (.int (0 : Int32)), .val (.int (0 : Int32)), .val (.int (0 : Int32)), .val (.int (0 : Int32)), .val (.int (1 : Int32)), .val (.int (0 : Int32)), .val (.int (0 : Int32)), .val (.int (0 : Int32))] [(.ref kk)])) _
  refine st15 _ ?_
  show Steps p.tables e below (T15.setTop (mkF m 455 #[s0, s1, s2, .val (.int i3), .val (.ref kk), .val (.int (i3 - (48 : Int32))), .val (.int (0 : Int32)), .val (.int (0 : Int32)), .val (.int (0 : Int32)), .val (.int (0 : Int32)), .val (.int (1 : Int32)), .val (.int (0 : Int32)), .val (.int (0 : Int32)), .val (.int (0 : Int32))] [(.ref w14), (.ref kk)])) _
  refine Jvm.RoadKit.acmp (g := (mkF m 455 #[s0, s1, s2, .val (.int i3), .val (.ref kk), .val (.int (i3 - (48 : Int32))), .val (.int (0 : Int32)), .val (.int (0 : Int32)), .val (.int (0 : Int32)), .val (.int (0 : Int32)), .val (.int (1 : Int32)), .val (.int (0 : Int32)), .val (.int (0 : Int32)), .val (.int (0 : Int32))] [(.ref w14), (.ref kk)])) X15 hx rfl rfl rfl (pc0 := 455) (pc' := 462) (same := false) rfl (hb hby at_455) rfl (decide_eq_false fun q => ha455 (Value.ref.inj q)) (by decide) (by decide) ?_
  show Steps p.tables e below (T15.setTop (mkF m 462 #[s0, s1, s2, .val (.int i3), .val (.ref kk), .val (.int (i3 - (48 : Int32))), .val (.int (0 : Int32)), .val (.int (0 : Int32)), .val (.int (0 : Int32)), .val (.int (0 : Int32)), .val (.int (1 : Int32)), .val (.int (0 : Int32)), .val (.int (0 : Int32)), .val (.int (0 : Int32))] [])) _
  refine XS.iconst X15.here hx rfl (hb hby at_462) ?_
  show Steps p.tables e below (T15.setTop (mkF m 463 #[s0, s1, s2, .val (.int i3), .val (.ref kk), .val (.int (i3 - (48 : Int32))), .val (.int (0 : Int32)), .val (.int (0 : Int32)), .val (.int (0 : Int32)), .val (.int (0 : Int32)), .val (.int (1 : Int32)), .val (.int (0 : Int32)), .val (.int (0 : Int32)), .val (.int (0 : Int32))] [(.int (0 : Int32))])) _
  refine XS.iload X15.here hx rfl (hb hby at_463) rfl ?_
  show Steps p.tables e below (T15.setTop (mkF m 465 #[s0, s1, s2, .val (.int i3), .val (.ref kk), .val (.int (i3 - (48 : Int32))), .val (.int (0 : Int32)), .val (.int (0 : Int32)), .val (.int (0 : Int32)), .val (.int (0 : Int32)), .val (.int (1 : Int32)), .val (.int (0 : Int32)), .val (.int (0 : Int32)), .val (.int (0 : Int32))] [(.int (0 : Int32)), (.int (0 : Int32))])) _
  refine XS.icmpNo X15.here hx rfl (hb hby at_465) rfl (teq (rfl : (0 : Int32) = (0 : Int32))).2 ?_
  show Steps p.tables e below (T15.setTop (mkF m 468 #[s0, s1, s2, .val (.int i3), .val (.ref kk), .val (.int (i3 - (48 : Int32))), .val (.int (0 : Int32)), .val (.int (0 : Int32)), .val (.int (0 : Int32)), .val (.int (0 : Int32)), .val (.int (1 : Int32)), .val (.int (0 : Int32)), .val (.int (0 : Int32)), .val (.int (0 : Int32))] [])) _
  refine XS.aload X15.here hx rfl (hb hby at_468) rfl rfl ?_
  show Steps p.tables e below (T15.setTop (mkF m 470 #[s0, s1, s2, .val (.int i3), .val (.ref kk), .val (.int (i3 - (48 : Int32))), .val (.int (0 : Int32)), .val (.int (0 : Int32)), .val (.int (0 : Int32)), .val (.int (0 : Int32)), .val (.int (1 : Int32)), .val (.int (0 : Int32)), .val (.int (0 : Int32)), .val (.int (0 : Int32))] [(.ref kk)])) _
  refine st17 _ ?_
  show Steps p.tables e below (T17.setTop (mkF m 473 #[s0, s1, s2, .val (.int i3), .val (.ref kk), .val (.int (i3 - (48 : Int32))), .val (.int (0 : Int32)), .val (.int (0 : Int32)), .val (.int (0 : Int32)), .val (.int (0 : Int32)), .val (.int (1 : Int32)), .val (.int (0 : Int32)), .val (.int (0 : Int32)), .val (.int (0 : Int32))] [(.ref w16), (.ref kk)])) _
  refine Jvm.RoadKit.acmp (g := (mkF m 473 #[s0, s1, s2, .val (.int i3), .val (.ref kk), .val (.int (i3 - (48 : Int32))), .val (.int (0 : Int32)), .val (.int (0 : Int32)), .val (.int (0 : Int32)), .val (.int (0 : Int32)), .val (.int (1 : Int32)), .val (.int (0 : Int32)), .val (.int (0 : Int32)), .val (.int (0 : Int32))] [(.ref w16), (.ref kk)])) X17 hx rfl rfl rfl (pc0 := 473) (pc' := 480) (same := false) rfl (hb hby at_473) rfl (decide_eq_false fun q => ha473 (Value.ref.inj q)) (by decide) (by decide) ?_
  show Steps p.tables e below (T17.setTop (mkF m 480 #[s0, s1, s2, .val (.int i3), .val (.ref kk), .val (.int (i3 - (48 : Int32))), .val (.int (0 : Int32)), .val (.int (0 : Int32)), .val (.int (0 : Int32)), .val (.int (0 : Int32)), .val (.int (1 : Int32)), .val (.int (0 : Int32)), .val (.int (0 : Int32)), .val (.int (0 : Int32))] [])) _
  refine XS.iconst X17.here hx rfl (hb hby at_480) ?_
  show Steps p.tables e below (T17.setTop (mkF m 481 #[s0, s1, s2, .val (.int i3), .val (.ref kk), .val (.int (i3 - (48 : Int32))), .val (.int (0 : Int32)), .val (.int (0 : Int32)), .val (.int (0 : Int32)), .val (.int (0 : Int32)), .val (.int (1 : Int32)), .val (.int (0 : Int32)), .val (.int (0 : Int32)), .val (.int (0 : Int32))] [(.int (0 : Int32))])) _
  refine XS.iload X17.here hx rfl (hb hby at_481) rfl ?_
  show Steps p.tables e below (T17.setTop (mkF m 483 #[s0, s1, s2, .val (.int i3), .val (.ref kk), .val (.int (i3 - (48 : Int32))), .val (.int (0 : Int32)), .val (.int (0 : Int32)), .val (.int (0 : Int32)), .val (.int (0 : Int32)), .val (.int (1 : Int32)), .val (.int (0 : Int32)), .val (.int (0 : Int32)), .val (.int (0 : Int32))] [(.int (0 : Int32)), (.int (0 : Int32))])) _
  refine XS.icmpNo X17.here hx rfl (hb hby at_483) rfl (teq (rfl : (0 : Int32) = (0 : Int32))).2 ?_
  show Steps p.tables e below (T17.setTop (mkF m 486 #[s0, s1, s2, .val (.int i3), .val (.ref kk), .val (.int (i3 - (48 : Int32))), .val (.int (0 : Int32)), .val (.int (0 : Int32)), .val (.int (0 : Int32)), .val (.int (0 : Int32)), .val (.int (1 : Int32)), .val (.int (0 : Int32)), .val (.int (0 : Int32)), .val (.int (0 : Int32))] [])) _
  refine XS.aload X17.here hx rfl (hb hby at_486) rfl rfl ?_
  show Steps p.tables e below (T17.setTop (mkF m 488 #[s0, s1, s2, .val (.int i3), .val (.ref kk), .val (.int (i3 - (48 : Int32))), .val (.int (0 : Int32)), .val (.int (0 : Int32)), .val (.int (0 : Int32)), .val (.int (0 : Int32)), .val (.int (1 : Int32)), .val (.int (0 : Int32)), .val (.int (0 : Int32)), .val (.int (0 : Int32))] [(.ref kk)])) _
  refine XS.ifnonnullYes X17.here hx rfl (pc0 := 488) (pc' := 495) rfl (hb hby at_488) rfl (by decide) (by decide) ?_
  show Steps p.tables e below (T17.setTop (mkF m 495 #[s0, s1, s2, .val (.int i3), .val (.ref kk), .val (.int (i3 - (48 : Int32))), .val (.int (0 : Int32)), .val (.int (0 : Int32)), .val (.int (0 : Int32)), .val (.int (0 : Int32)), .val (.int (1 : Int32)), .val (.int (0 : Int32)), .val (.int (0 : Int32)), .val (.int (0 : Int32))] [])) _
  refine XS.iconst X17.here hx rfl (hb hby at_495) ?_
  show Steps p.tables e below (T17.setTop (mkF m 496 #[s0, s1, s2, .val (.int i3), .val (.ref kk), .val (.int (i3 - (48 : Int32))), .val (.int (0 : Int32)), .val (.int (0 : Int32)), .val (.int (0 : Int32)), .val (.int (0 : Int32)), .val (.int (1 : Int32)), .val (.int (0 : Int32)), .val (.int (0 : Int32)), .val (.int (0 : Int32))] [(.int (0 : Int32))])) _
  refine XS.iload X17.here hx rfl (hb hby at_496) rfl ?_
  show Steps p.tables e below (T17.setTop (mkF m 498 #[s0, s1, s2, .val (.int i3), .val (.ref kk), .val (.int (i3 - (48 : Int32))), .val (.int (0 : Int32)), .val (.int (0 : Int32)), .val (.int (0 : Int32)), .val (.int (0 : Int32)), .val (.int (1 : Int32)), .val (.int (0 : Int32)), .val (.int (0 : Int32)), .val (.int (0 : Int32))] [(.int (0 : Int32)), (.int (0 : Int32))])) _
  refine XS.icmpNo X17.here hx rfl (hb hby at_498) rfl (teq (rfl : (0 : Int32) = (0 : Int32))).2 ?_
  show Steps p.tables e below (T17.setTop (mkF m 501 #[s0, s1, s2, .val (.int i3), .val (.ref kk), .val (.int (i3 - (48 : Int32))), .val (.int (0 : Int32)), .val (.int (0 : Int32)), .val (.int (0 : Int32)), .val (.int (0 : Int32)), .val (.int (1 : Int32)), .val (.int (0 : Int32)), .val (.int (0 : Int32)), .val (.int (0 : Int32))] [])) _
  refine XS.iconst X17.here hx rfl (hb hby at_501) ?_
  show Steps p.tables e below (T17.setTop (mkF m 502 #[s0, s1, s2, .val (.int i3), .val (.ref kk), .val (.int (i3 - (48 : Int32))), .val (.int (0 : Int32)), .val (.int (0 : Int32)), .val (.int (0 : Int32)), .val (.int (0 : Int32)), .val (.int (1 : Int32)), .val (.int (0 : Int32)), .val (.int (0 : Int32)), .val (.int (0 : Int32))] [(.int (1 : Int32))])) _
  refine XS.goto X17.here hx rfl (pc0 := 502) (pc' := 506) rfl (hb hby at_502) (by decide) (by decide) ?_
  exact kt
set_option maxRecDepth 65536 in
set_option maxHeartbeats 40000000 in
theorem own_segC_fal {p : Program} {l : Launch} {e : Env} {s : State} {m : MethodId} {args : Array Value} {below : List Frame} {meth : Method} {c : Code} {T0 : State} {locs : List Loc} {Z : State} {a0 : Array Value} {h0 : Heap} {n0 : Nat} (s0 : Slot) (s1 : Slot) (s2 : Slot) (i3 : Int32) (s4 : Slot) (s5 : Slot) (s6 : Slot) (s7 : Slot) (s8 : Slot) (s9 : Slot) (s10 : Slot) (s11 : Slot) (s12 : Slot) (s13 : Slot) (w4 : Addr) (w6 : Addr) (w8 : Addr) (w10 : Addr) (w12 : Addr) (w14 : Addr) (w16 : Addr)
    (kk : Addr) (X0 : Stand p l e room_1 s m args below meth c T0 locs 1 30) (hx : p.tables.exec = Jvm.exec) (hZ : Z.Warmed39 s.vm) (hw : ∀ d ∈ tables_1, d.before a0 Z = true) (hby : c.code = code) (hml : c.maxLocals = 14) (hown : s.vm.findClass "com/example/tenkyo/tenkyo/exchange/KindOfPinLaw" = some m.cls) (e0 : T0.heap = h0) (N0 : Fr n0 locs) (hof : MetFree l (⟨"com/example/tenkyo/tenkyo/exchange/Json$Kind", "of", "(C)Lcom/example/tenkyo/tenkyo/exchange/Json$Kind;"⟩ : MethodName) (head1 (Jvm.Cond.code (⟨"com/example/tenkyo/tenkyo/exchange/Json$Kind", "of", "(C)Lcom/example/tenkyo/tenkyo/exchange/Json$Kind;"⟩ : MethodName) prog_14_method_6_code 2 (some (.object "com/example/tenkyo/tenkyo/exchange/Json$Kind")) :: []) ({ frames := 0, cells := 0, slots := 0, locals := 0 } : Room)) (fun a U => a = #[(.int i3)] ∧ Z.Warmed39 U.vm ∧ U.heap = h0) (fun _ _ _ _ _ => True) (fun _ U o U' => ∃ v L, o = .returned v ∧ Qk (.ref kk) h0 n0 v U'.heap L ∧ FrameEnd U o U' L ({ frames := 0, cells := 0, slots := 0, locals := 0 } : Room).cells ({ frames := 0, cells := 0, slots := 0, locals := 0 } : Room).slots)) (hs4 : One s4) (hs5 : One s5) (hs6 : One s6) (hs7 : One s7) (hs8 : One s8) (hs9 : One s9) (hs10 : One s10) (hs11 : One s11) (hs12 : One s12) (hs13 : One s13) (S_OBJECT : Sta Z h0 "com/example/tenkyo/tenkyo/exchange/Json$Kind" "OBJECT" "Lcom/example/tenkyo/tenkyo/exchange/Json$Kind;" (.ref w4)) (S_ARRAY : Sta Z h0 "com/example/tenkyo/tenkyo/exchange/Json$Kind" "ARRAY" "Lcom/example/tenkyo/tenkyo/exchange/Json$Kind;" (.ref w6)) (S_STRING : Sta Z h0 "com/example/tenkyo/tenkyo/exchange/Json$Kind" "STRING" "Lcom/example/tenkyo/tenkyo/exchange/Json$Kind;" (.ref w8)) (S_NUMBER : Sta Z h0 "com/example/tenkyo/tenkyo/exchange/Json$Kind" "NUMBER" "Lcom/example/tenkyo/tenkyo/exchange/Json$Kind;" (.ref w10)) (S_TRUE : Sta Z h0 "com/example/tenkyo/tenkyo/exchange/Json$Kind" "TRUE" "Lcom/example/tenkyo/tenkyo/exchange/Json$Kind;" (.ref w12)) (S_FALSE : Sta Z h0 "com/example/tenkyo/tenkyo/exchange/Json$Kind" "FALSE" "Lcom/example/tenkyo/tenkyo/exchange/Json$Kind;" (.ref w14)) (S_NULL : Sta Z h0 "com/example/tenkyo/tenkyo/exchange/Json$Kind" "NULL" "Lcom/example/tenkyo/tenkyo/exchange/Json$Kind;" (.ref w16)) (hc218 : ¬ (i3 = (123 : Int32))) (hc231 : ¬ (i3 = (91 : Int32))) (hc244 : ¬ (i3 = (34 : Int32))) (hc257 : ¬ (i3 = (45 : Int32))) (hc262 : ¬ ((i3 - (48 : Int32)) < (0 : Int32))) (hc269 : ¬ ((i3 - (48 : Int32)) < (10 : Int32))) (hc282 : ¬ (i3 = (116 : Int32))) (hc295 : i3 = (102 : Int32)) (hc308 : ¬ (i3 = (110 : Int32))) (hc345 : ¬ ((1 : Int32) = (0 : Int32))) (ha365 : ¬ (kk = w4)) (ha383 : ¬ (kk = w6)) (ha401 : ¬ (kk = w8)) (ha419 : ¬ (kk = w10)) (ha437 : ¬ (kk = w12)) (ha455 : kk = w14) (ha473 : ¬ (kk = w16)) :
    ∃ (T' : State) (L' : List Loc) (Ls : Array Slot), Stand p l e room_1 s m args below meth c T' L' 1 30 ∧ Fr n0 L' ∧
      ∀ target, Steps p.tables e below (T'.setTop (mkF m 506 Ls [(.int (1 : Int32))])) target → Steps p.tables e below (T0.setTop (mkF m 203 #[s0, s1, s2, .val (.int i3), s4, s5, s6, s7, s8, s9, s10, s11, s12, s13] [])) target := by
  obtain ⟨_, _, ⟨T3, L3, k3, n3⟩, -, X3, ⟨Lc3, hQ3, l3, y3, z3⟩, st3⟩ := Jvm.LawKit.callS X0 hx (y := (⟨"com/example/tenkyo/tenkyo/exchange/Json$Kind", "of", "(C)Lcom/example/tenkyo/tenkyo/exchange/Json$Kind;"⟩ : MethodName)) hown (mvT hZ (hw _ (List.mem_of_getElem? (i := 3) rfl))) (mvT hZ (hw _ (List.mem_of_getElem? (i := 4) rfl))) (mvT hZ (hw _ (List.mem_of_getElem? (i := 5) rfl))) (mvT hZ (hw _ (List.mem_of_getElem? (i := 6) rfl))) (by decide) (backOf (W := 0) hof hZ (hw _ (List.mem_of_getElem? (i := 6) rfl)) (hw _ (List.mem_of_getElem? (i := 5) rfl)) (by decide) (by decide)) (g := (mkF m 204 #[s0, s1, s2, .val (.int i3), s4, s5, s6, s7, s8, s9, s10, s11, s12, s13] [(.int i3)])) rfl (by rw [hml]; rfl) (argsL := [(.int i3)]) (rest := []) (lenOf pd_0_0 rfl) rfl (by show 2 * 0 + _ ≤ _; exact Nat.le_of_eq rfl) (hb hby at_204) (fun _ _ => ⟨rfl, e0, (by decide : 1 + 0 ≤ _), (by decide : 30 + 0 ≤ _)⟩)
  dsimp only [Pt.U, Pt.locs, Pt.cells, Pt.slots] at X3 l3 y3 z3 st3 hQ3
  subst l3 y3 z3
  obtain ⟨rfl, N3q, e3⟩ := hQ3
  have N3 := Fr.app N0 N3q
  obtain ⟨T5, X5, e5, st5⟩ := getS2 X3 hx hZ hown (host := "") (Or.inl (hw _ (List.mem_of_getElem? (i := 9) rfl))) Via.refl e3 S_OBJECT (g := (mkF m 362 #[s0, s1, s2, .val (.int i3), .val (.ref kk), .val (.int (i3 - (48 : Int32))), .val (.int (0 : Int32)), .val (.int (0 : Int32)), .val (.int (0 : Int32)), .val (.int (0 : Int32)), .val (.int (0 : Int32)), .val (.int (1 : Int32)), .val (.int (0 : Int32)), .val (.int (0 : Int32))] [(.ref kk)])) rfl (hb hby at_362)
  obtain ⟨T7, X7, e7, st7⟩ := getS2 X5 hx hZ hown (host := "") (Or.inl (hw _ (List.mem_of_getElem? (i := 10) rfl))) Via.refl e5 S_ARRAY (g := (mkF m 380 #[s0, s1, s2, .val (.int i3), .val (.ref kk), .val (.int (i3 - (48 : Int32))), .val (.int (0 : Int32)), .val (.int (0 : Int32)), .val (.int (0 : Int32)), .val (.int (0 : Int32)), .val (.int (0 : Int32)), .val (.int (1 : Int32)), .val (.int (0 : Int32)), .val (.int (0 : Int32))] [(.ref kk)])) rfl (hb hby at_380)
  obtain ⟨T9, X9, e9, st9⟩ := getS2 X7 hx hZ hown (host := "") (Or.inl (hw _ (List.mem_of_getElem? (i := 12) rfl))) Via.refl e7 S_STRING (g := (mkF m 398 #[s0, s1, s2, .val (.int i3), .val (.ref kk), .val (.int (i3 - (48 : Int32))), .val (.int (0 : Int32)), .val (.int (0 : Int32)), .val (.int (0 : Int32)), .val (.int (0 : Int32)), .val (.int (0 : Int32)), .val (.int (1 : Int32)), .val (.int (0 : Int32)), .val (.int (0 : Int32))] [(.ref kk)])) rfl (hb hby at_398)
  obtain ⟨T11, X11, e11, st11⟩ := getS2 X9 hx hZ hown (host := "") (Or.inl (hw _ (List.mem_of_getElem? (i := 14) rfl))) Via.refl e9 S_NUMBER (g := (mkF m 416 #[s0, s1, s2, .val (.int i3), .val (.ref kk), .val (.int (i3 - (48 : Int32))), .val (.int (0 : Int32)), .val (.int (0 : Int32)), .val (.int (0 : Int32)), .val (.int (0 : Int32)), .val (.int (0 : Int32)), .val (.int (1 : Int32)), .val (.int (0 : Int32)), .val (.int (0 : Int32))] [(.ref kk)])) rfl (hb hby at_416)
  obtain ⟨T13, X13, e13, st13⟩ := getS2 X11 hx hZ hown (host := "") (Or.inl (hw _ (List.mem_of_getElem? (i := 16) rfl))) Via.refl e11 S_TRUE (g := (mkF m 434 #[s0, s1, s2, .val (.int i3), .val (.ref kk), .val (.int (i3 - (48 : Int32))), .val (.int (0 : Int32)), .val (.int (0 : Int32)), .val (.int (0 : Int32)), .val (.int (0 : Int32)), .val (.int (0 : Int32)), .val (.int (1 : Int32)), .val (.int (0 : Int32)), .val (.int (0 : Int32))] [(.ref kk)])) rfl (hb hby at_434)
  obtain ⟨T15, X15, e15, st15⟩ := getS2 X13 hx hZ hown (host := "") (Or.inl (hw _ (List.mem_of_getElem? (i := 18) rfl))) Via.refl e13 S_FALSE (g := (mkF m 452 #[s0, s1, s2, .val (.int i3), .val (.ref kk), .val (.int (i3 - (48 : Int32))), .val (.int (0 : Int32)), .val (.int (0 : Int32)), .val (.int (0 : Int32)), .val (.int (0 : Int32)), .val (.int (0 : Int32)), .val (.int (1 : Int32)), .val (.int (0 : Int32)), .val (.int (0 : Int32))] [(.ref kk)])) rfl (hb hby at_452)
  obtain ⟨T17, X17, e17, st17⟩ := getS2 X15 hx hZ hown (host := "") (Or.inl (hw _ (List.mem_of_getElem? (i := 20) rfl))) Via.refl e15 S_NULL (g := (mkF m 470 #[s0, s1, s2, .val (.int i3), .val (.ref kk), .val (.int (i3 - (48 : Int32))), .val (.int (0 : Int32)), .val (.int (0 : Int32)), .val (.int (0 : Int32)), .val (.int (0 : Int32)), .val (.int (0 : Int32)), .val (.int (1 : Int32)), .val (.int (0 : Int32)), .val (.int (0 : Int32))] [(.ref kk)])) rfl (hb hby at_470)
  refine ⟨T17, _, #[s0, s1, s2, .val (.int i3), .val (.ref kk), .val (.int (i3 - (48 : Int32))), .val (.int (0 : Int32)), .val (.int (0 : Int32)), .val (.int (0 : Int32)), .val (.int (0 : Int32)), .val (.int (0 : Int32)), .val (.int (1 : Int32)), .val (.int (0 : Int32)), .val (.int (0 : Int32))], X17, N3, fun target kt => ?_⟩
  show Steps p.tables e below (T0.setTop (mkF m 203 #[s0, s1, s2, .val (.int i3), s4, s5, s6, s7, s8, s9, s10, s11, s12, s13] [])) _
  refine XS.iloadN X0.here hx rfl (hb hby at_203) rfl ?_
  show Steps p.tables e below (T0.setTop (mkF m 204 #[s0, s1, s2, .val (.int i3), s4, s5, s6, s7, s8, s9, s10, s11, s12, s13] [(.int i3)])) _
  refine st3 _ ?_
  show Steps p.tables e below (T3.setTop (mkF m 207 #[s0, s1, s2, .val (.int i3), s4, s5, s6, s7, s8, s9, s10, s11, s12, s13] [(.ref kk)])) _
  refine XS.astore X3.here hx rfl (hb hby at_207) rfl rfl (l' := #[s0, s1, s2, .val (.int i3), .val (.ref kk), s5, s6, s7, s8, s9, s10, s11, s12, s13]) (os0_207 hs4) ?_
  show Steps p.tables e below (T3.setTop (mkF m 209 #[s0, s1, s2, .val (.int i3), .val (.ref kk), s5, s6, s7, s8, s9, s10, s11, s12, s13] [])) _
  refine XS.iloadN X3.here hx rfl (hb hby at_209) rfl ?_
  show Steps p.tables e below (T3.setTop (mkF m 210 #[s0, s1, s2, .val (.int i3), .val (.ref kk), s5, s6, s7, s8, s9, s10, s11, s12, s13] [(.int i3)])) _
  refine XS.bipush X3.here hx rfl (hb hby at_210) ?_
  show Steps p.tables e below (T3.setTop (mkF m 212 #[s0, s1, s2, .val (.int i3), .val (.ref kk), s5, s6, s7, s8, s9, s10, s11, s12, s13] [(.int (48 : Int32)), (.int i3)])) _
  refine XS.isub X3.here hx rfl (hb hby at_212) rfl ?_
  show Steps p.tables e below (T3.setTop (mkF m 213 #[s0, s1, s2, .val (.int i3), .val (.ref kk), s5, s6, s7, s8, s9, s10, s11, s12, s13] [(.int (i3 - (48 : Int32)))])) _
  refine XS.istore X3.here hx rfl (hb hby at_213) rfl (l' := #[s0, s1, s2, .val (.int i3), .val (.ref kk), .val (.int (i3 - (48 : Int32))), s6, s7, s8, s9, s10, s11, s12, s13]) (os0_213 hs5) ?_
  show Steps p.tables e below (T3.setTop (mkF m 215 #[s0, s1, s2, .val (.int i3), .val (.ref kk), .val (.int (i3 - (48 : Int32))), s6, s7, s8, s9, s10, s11, s12, s13] [])) _
  refine XS.iloadN X3.here hx rfl (hb hby at_215) rfl ?_
  show Steps p.tables e below (T3.setTop (mkF m 216 #[s0, s1, s2, .val (.int i3), .val (.ref kk), .val (.int (i3 - (48 : Int32))), s6, s7, s8, s9, s10, s11, s12, s13] [(.int i3)])) _
  refine XS.bipush X3.here hx rfl (hb hby at_216) ?_
  show Steps p.tables e below (T3.setTop (mkF m 218 #[s0, s1, s2, .val (.int i3), .val (.ref kk), .val (.int (i3 - (48 : Int32))), s6, s7, s8, s9, s10, s11, s12, s13] [(.int (123 : Int32)), (.int i3)])) _
  refine XS.icmpYes X3.here hx rfl (pc0 := 218) (pc' := 225) rfl (hb hby at_218) rfl (feq hc218).2 (by decide) (by decide) ?_
  show Steps p.tables e below (T3.setTop (mkF m 225 #[s0, s1, s2, .val (.int i3), .val (.ref kk), .val (.int (i3 - (48 : Int32))), s6, s7, s8, s9, s10, s11, s12, s13] [])) _
  refine XS.iconst X3.here hx rfl (hb hby at_225) ?_
  show Steps p.tables e below (T3.setTop (mkF m 226 #[s0, s1, s2, .val (.int i3), .val (.ref kk), .val (.int (i3 - (48 : Int32))), s6, s7, s8, s9, s10, s11, s12, s13] [(.int (0 : Int32))])) _
  refine XS.istore X3.here hx rfl (hb hby at_226) rfl (l' := #[s0, s1, s2, .val (.int i3), .val (.ref kk), .val (.int (i3 - (48 : Int32))), .val (.int (0 : Int32)), s7, s8, s9, s10, s11, s12, s13]) (os0_226 hs6) ?_
  show Steps p.tables e below (T3.setTop (mkF m 228 #[s0, s1, s2, .val (.int i3), .val (.ref kk), .val (.int (i3 - (48 : Int32))), .val (.int (0 : Int32)), s7, s8, s9, s10, s11, s12, s13] [])) _
  refine XS.iloadN X3.here hx rfl (hb hby at_228) rfl ?_
  show Steps p.tables e below (T3.setTop (mkF m 229 #[s0, s1, s2, .val (.int i3), .val (.ref kk), .val (.int (i3 - (48 : Int32))), .val (.int (0 : Int32)), s7, s8, s9, s10, s11, s12, s13] [(.int i3)])) _
  refine XS.bipush X3.here hx rfl (hb hby at_229) ?_
  show Steps p.tables e below (T3.setTop (mkF m 231 #[s0, s1, s2, .val (.int i3), .val (.ref kk), .val (.int (i3 - (48 : Int32))), .val (.int (0 : Int32)), s7, s8, s9, s10, s11, s12, s13] [(.int (91 : Int32)), (.int i3)])) _
  refine XS.icmpYes X3.here hx rfl (pc0 := 231) (pc' := 238) rfl (hb hby at_231) rfl (feq hc231).2 (by decide) (by decide) ?_
  show Steps p.tables e below (T3.setTop (mkF m 238 #[s0, s1, s2, .val (.int i3), .val (.ref kk), .val (.int (i3 - (48 : Int32))), .val (.int (0 : Int32)), s7, s8, s9, s10, s11, s12, s13] [])) _
  refine XS.iconst X3.here hx rfl (hb hby at_238) ?_
  show Steps p.tables e below (T3.setTop (mkF m 239 #[s0, s1, s2, .val (.int i3), .val (.ref kk), .val (.int (i3 - (48 : Int32))), .val (.int (0 : Int32)), s7, s8, s9, s10, s11, s12, s13] [(.int (0 : Int32))])) _
  refine XS.istore X3.here hx rfl (hb hby at_239) rfl (l' := #[s0, s1, s2, .val (.int i3), .val (.ref kk), .val (.int (i3 - (48 : Int32))), .val (.int (0 : Int32)), .val (.int (0 : Int32)), s8, s9, s10, s11, s12, s13]) (os0_239 hs7) ?_
  show Steps p.tables e below (T3.setTop (mkF m 241 #[s0, s1, s2, .val (.int i3), .val (.ref kk), .val (.int (i3 - (48 : Int32))), .val (.int (0 : Int32)), .val (.int (0 : Int32)), s8, s9, s10, s11, s12, s13] [])) _
  refine XS.iloadN X3.here hx rfl (hb hby at_241) rfl ?_
  show Steps p.tables e below (T3.setTop (mkF m 242 #[s0, s1, s2, .val (.int i3), .val (.ref kk), .val (.int (i3 - (48 : Int32))), .val (.int (0 : Int32)), .val (.int (0 : Int32)), s8, s9, s10, s11, s12, s13] [(.int i3)])) _
  refine XS.bipush X3.here hx rfl (hb hby at_242) ?_
  show Steps p.tables e below (T3.setTop (mkF m 244 #[s0, s1, s2, .val (.int i3), .val (.ref kk), .val (.int (i3 - (48 : Int32))), .val (.int (0 : Int32)), .val (.int (0 : Int32)), s8, s9, s10, s11, s12, s13] [(.int (34 : Int32)), (.int i3)])) _
  refine XS.icmpYes X3.here hx rfl (pc0 := 244) (pc' := 251) rfl (hb hby at_244) rfl (feq hc244).2 (by decide) (by decide) ?_
  show Steps p.tables e below (T3.setTop (mkF m 251 #[s0, s1, s2, .val (.int i3), .val (.ref kk), .val (.int (i3 - (48 : Int32))), .val (.int (0 : Int32)), .val (.int (0 : Int32)), s8, s9, s10, s11, s12, s13] [])) _
  refine XS.iconst X3.here hx rfl (hb hby at_251) ?_
  show Steps p.tables e below (T3.setTop (mkF m 252 #[s0, s1, s2, .val (.int i3), .val (.ref kk), .val (.int (i3 - (48 : Int32))), .val (.int (0 : Int32)), .val (.int (0 : Int32)), s8, s9, s10, s11, s12, s13] [(.int (0 : Int32))])) _
  refine XS.istore X3.here hx rfl (hb hby at_252) rfl (l' := #[s0, s1, s2, .val (.int i3), .val (.ref kk), .val (.int (i3 - (48 : Int32))), .val (.int (0 : Int32)), .val (.int (0 : Int32)), .val (.int (0 : Int32)), s9, s10, s11, s12, s13]) (os0_252 hs8) ?_
  show Steps p.tables e below (T3.setTop (mkF m 254 #[s0, s1, s2, .val (.int i3), .val (.ref kk), .val (.int (i3 - (48 : Int32))), .val (.int (0 : Int32)), .val (.int (0 : Int32)), .val (.int (0 : Int32)), s9, s10, s11, s12, s13] [])) _
  refine XS.iloadN X3.here hx rfl (hb hby at_254) rfl ?_
  show Steps p.tables e below (T3.setTop (mkF m 255 #[s0, s1, s2, .val (.int i3), .val (.ref kk), .val (.int (i3 - (48 : Int32))), .val (.int (0 : Int32)), .val (.int (0 : Int32)), .val (.int (0 : Int32)), s9, s10, s11, s12, s13] [(.int i3)])) _
  refine XS.bipush X3.here hx rfl (hb hby at_255) ?_
  show Steps p.tables e below (T3.setTop (mkF m 257 #[s0, s1, s2, .val (.int i3), .val (.ref kk), .val (.int (i3 - (48 : Int32))), .val (.int (0 : Int32)), .val (.int (0 : Int32)), .val (.int (0 : Int32)), s9, s10, s11, s12, s13] [(.int (45 : Int32)), (.int i3)])) _
  refine XS.icmpNo X3.here hx rfl (hb hby at_257) rfl (feq hc257).1 ?_
  show Steps p.tables e below (T3.setTop (mkF m 260 #[s0, s1, s2, .val (.int i3), .val (.ref kk), .val (.int (i3 - (48 : Int32))), .val (.int (0 : Int32)), .val (.int (0 : Int32)), .val (.int (0 : Int32)), s9, s10, s11, s12, s13] [])) _
  refine XS.iload X3.here hx rfl (hb hby at_260) rfl ?_
  show Steps p.tables e below (T3.setTop (mkF m 262 #[s0, s1, s2, .val (.int i3), .val (.ref kk), .val (.int (i3 - (48 : Int32))), .val (.int (0 : Int32)), .val (.int (0 : Int32)), .val (.int (0 : Int32)), s9, s10, s11, s12, s13] [(.int (i3 - (48 : Int32)))])) _
  refine XS.ifNo X3.here hx rfl (hb hby at_262) rfl ((if0 _ _).trans (flt hc262).1) ?_
  show Steps p.tables e below (T3.setTop (mkF m 265 #[s0, s1, s2, .val (.int i3), .val (.ref kk), .val (.int (i3 - (48 : Int32))), .val (.int (0 : Int32)), .val (.int (0 : Int32)), .val (.int (0 : Int32)), s9, s10, s11, s12, s13] [])) _
  refine XS.iload X3.here hx rfl (hb hby at_265) rfl ?_
  show Steps p.tables e below (T3.setTop (mkF m 267 #[s0, s1, s2, .val (.int i3), .val (.ref kk), .val (.int (i3 - (48 : Int32))), .val (.int (0 : Int32)), .val (.int (0 : Int32)), .val (.int (0 : Int32)), s9, s10, s11, s12, s13] [(.int (i3 - (48 : Int32)))])) _
  refine XS.bipush X3.here hx rfl (hb hby at_267) ?_
  show Steps p.tables e below (T3.setTop (mkF m 269 #[s0, s1, s2, .val (.int i3), .val (.ref kk), .val (.int (i3 - (48 : Int32))), .val (.int (0 : Int32)), .val (.int (0 : Int32)), .val (.int (0 : Int32)), s9, s10, s11, s12, s13] [(.int (10 : Int32)), (.int (i3 - (48 : Int32)))])) _
  refine XS.icmpYes X3.here hx rfl (pc0 := 269) (pc' := 276) rfl (hb hby at_269) rfl (flt hc269).2.1 (by decide) (by decide) ?_
  show Steps p.tables e below (T3.setTop (mkF m 276 #[s0, s1, s2, .val (.int i3), .val (.ref kk), .val (.int (i3 - (48 : Int32))), .val (.int (0 : Int32)), .val (.int (0 : Int32)), .val (.int (0 : Int32)), s9, s10, s11, s12, s13] [])) _
  refine XS.iconst X3.here hx rfl (hb hby at_276) ?_
  show Steps p.tables e below (T3.setTop (mkF m 277 #[s0, s1, s2, .val (.int i3), .val (.ref kk), .val (.int (i3 - (48 : Int32))), .val (.int (0 : Int32)), .val (.int (0 : Int32)), .val (.int (0 : Int32)), s9, s10, s11, s12, s13] [(.int (0 : Int32))])) _
  refine XS.istore X3.here hx rfl (hb hby at_277) rfl (l' := #[s0, s1, s2, .val (.int i3), .val (.ref kk), .val (.int (i3 - (48 : Int32))), .val (.int (0 : Int32)), .val (.int (0 : Int32)), .val (.int (0 : Int32)), .val (.int (0 : Int32)), s10, s11, s12, s13]) (os0_277 hs9) ?_
  show Steps p.tables e below (T3.setTop (mkF m 279 #[s0, s1, s2, .val (.int i3), .val (.ref kk), .val (.int (i3 - (48 : Int32))), .val (.int (0 : Int32)), .val (.int (0 : Int32)), .val (.int (0 : Int32)), .val (.int (0 : Int32)), s10, s11, s12, s13] [])) _
  refine XS.iloadN X3.here hx rfl (hb hby at_279) rfl ?_
  show Steps p.tables e below (T3.setTop (mkF m 280 #[s0, s1, s2, .val (.int i3), .val (.ref kk), .val (.int (i3 - (48 : Int32))), .val (.int (0 : Int32)), .val (.int (0 : Int32)), .val (.int (0 : Int32)), .val (.int (0 : Int32)), s10, s11, s12, s13] [(.int i3)])) _
  refine XS.bipush X3.here hx rfl (hb hby at_280) ?_
  show Steps p.tables e below (T3.setTop (mkF m 282 #[s0, s1, s2, .val (.int i3), .val (.ref kk), .val (.int (i3 - (48 : Int32))), .val (.int (0 : Int32)), .val (.int (0 : Int32)), .val (.int (0 : Int32)), .val (.int (0 : Int32)), s10, s11, s12, s13] [(.int (116 : Int32)), (.int i3)])) _
  refine XS.icmpYes X3.here hx rfl (pc0 := 282) (pc' := 289) rfl (hb hby at_282) rfl (feq hc282).2 (by decide) (by decide) ?_
  show Steps p.tables e below (T3.setTop (mkF m 289 #[s0, s1, s2, .val (.int i3), .val (.ref kk), .val (.int (i3 - (48 : Int32))), .val (.int (0 : Int32)), .val (.int (0 : Int32)), .val (.int (0 : Int32)), .val (.int (0 : Int32)), s10, s11, s12, s13] [])) _
  refine XS.iconst X3.here hx rfl (hb hby at_289) ?_
  show Steps p.tables e below (T3.setTop (mkF m 290 #[s0, s1, s2, .val (.int i3), .val (.ref kk), .val (.int (i3 - (48 : Int32))), .val (.int (0 : Int32)), .val (.int (0 : Int32)), .val (.int (0 : Int32)), .val (.int (0 : Int32)), s10, s11, s12, s13] [(.int (0 : Int32))])) _
  refine XS.istore X3.here hx rfl (hb hby at_290) rfl (l' := #[s0, s1, s2, .val (.int i3), .val (.ref kk), .val (.int (i3 - (48 : Int32))), .val (.int (0 : Int32)), .val (.int (0 : Int32)), .val (.int (0 : Int32)), .val (.int (0 : Int32)), .val (.int (0 : Int32)), s11, s12, s13]) (os0_290 hs10) ?_
  show Steps p.tables e below (T3.setTop (mkF m 292 #[s0, s1, s2, .val (.int i3), .val (.ref kk), .val (.int (i3 - (48 : Int32))), .val (.int (0 : Int32)), .val (.int (0 : Int32)), .val (.int (0 : Int32)), .val (.int (0 : Int32)), .val (.int (0 : Int32)), s11, s12, s13] [])) _
  refine XS.iloadN X3.here hx rfl (hb hby at_292) rfl ?_
  show Steps p.tables e below (T3.setTop (mkF m 293 #[s0, s1, s2, .val (.int i3), .val (.ref kk), .val (.int (i3 - (48 : Int32))), .val (.int (0 : Int32)), .val (.int (0 : Int32)), .val (.int (0 : Int32)), .val (.int (0 : Int32)), .val (.int (0 : Int32)), s11, s12, s13] [(.int i3)])) _
  refine XS.bipush X3.here hx rfl (hb hby at_293) ?_
  show Steps p.tables e below (T3.setTop (mkF m 295 #[s0, s1, s2, .val (.int i3), .val (.ref kk), .val (.int (i3 - (48 : Int32))), .val (.int (0 : Int32)), .val (.int (0 : Int32)), .val (.int (0 : Int32)), .val (.int (0 : Int32)), .val (.int (0 : Int32)), s11, s12, s13] [(.int (102 : Int32)), (.int i3)])) _
  refine XS.icmpNo X3.here hx rfl (hb hby at_295) rfl (teq hc295).2 ?_
  show Steps p.tables e below (T3.setTop (mkF m 298 #[s0, s1, s2, .val (.int i3), .val (.ref kk), .val (.int (i3 - (48 : Int32))), .val (.int (0 : Int32)), .val (.int (0 : Int32)), .val (.int (0 : Int32)), .val (.int (0 : Int32)), .val (.int (0 : Int32)), s11, s12, s13] [])) _
  refine XS.iconst X3.here hx rfl (hb hby at_298) ?_
  show Steps p.tables e below (T3.setTop (mkF m 299 #[s0, s1, s2, .val (.int i3), .val (.ref kk), .val (.int (i3 - (48 : Int32))), .val (.int (0 : Int32)), .val (.int (0 : Int32)), .val (.int (0 : Int32)), .val (.int (0 : Int32)), .val (.int (0 : Int32)), s11, s12, s13] [(.int (1 : Int32))])) _
  refine XS.goto X3.here hx rfl (pc0 := 299) (pc' := 303) rfl (hb hby at_299) (by decide) (by decide) ?_
  show Steps p.tables e below (T3.setTop (mkF m 303 #[s0, s1, s2, .val (.int i3), .val (.ref kk), .val (.int (i3 - (48 : Int32))), .val (.int (0 : Int32)), .val (.int (0 : Int32)), .val (.int (0 : Int32)), .val (.int (0 : Int32)), .val (.int (0 : Int32)), s11, s12, s13] [(.int (1 : Int32))])) _
  refine XS.istore X3.here hx rfl (hb hby at_303) rfl (l' := #[s0, s1, s2, .val (.int i3), .val (.ref kk), .val (.int (i3 - (48 : Int32))), .val (.int (0 : Int32)), .val (.int (0 : Int32)), .val (.int (0 : Int32)), .val (.int (0 : Int32)), .val (.int (0 : Int32)), .val (.int (1 : Int32)), s12, s13]) (os0_303 hs11) ?_
  show Steps p.tables e below (T3.setTop (mkF m 305 #[s0, s1, s2, .val (.int i3), .val (.ref kk), .val (.int (i3 - (48 : Int32))), .val (.int (0 : Int32)), .val (.int (0 : Int32)), .val (.int (0 : Int32)), .val (.int (0 : Int32)), .val (.int (0 : Int32)), .val (.int (1 : Int32)), s12, s13] [])) _
  refine XS.iloadN X3.here hx rfl (hb hby at_305) rfl ?_
  show Steps p.tables e below (T3.setTop (mkF m 306 #[s0, s1, s2, .val (.int i3), .val (.ref kk), .val (.int (i3 - (48 : Int32))), .val (.int (0 : Int32)), .val (.int (0 : Int32)), .val (.int (0 : Int32)), .val (.int (0 : Int32)), .val (.int (0 : Int32)), .val (.int (1 : Int32)), s12, s13] [(.int i3)])) _
  refine XS.bipush X3.here hx rfl (hb hby at_306) ?_
  show Steps p.tables e below (T3.setTop (mkF m 308 #[s0, s1, s2, .val (.int i3), .val (.ref kk), .val (.int (i3 - (48 : Int32))), .val (.int (0 : Int32)), .val (.int (0 : Int32)), .val (.int (0 : Int32)), .val (.int (0 : Int32)), .val (.int (0 : Int32)), .val (.int (1 : Int32)), s12, s13] [(.int (110 : Int32)), (.int i3)])) _
  refine XS.icmpYes X3.here hx rfl (pc0 := 308) (pc' := 315) rfl (hb hby at_308) rfl (feq hc308).2 (by decide) (by decide) ?_
  show Steps p.tables e below (T3.setTop (mkF m 315 #[s0, s1, s2, .val (.int i3), .val (.ref kk), .val (.int (i3 - (48 : Int32))), .val (.int (0 : Int32)), .val (.int (0 : Int32)), .val (.int (0 : Int32)), .val (.int (0 : Int32)), .val (.int (0 : Int32)), .val (.int (1 : Int32)), s12, s13] [])) _
  refine XS.iconst X3.here hx rfl (hb hby at_315) ?_
  show Steps p.tables e below (T3.setTop (mkF m 316 #[s0, s1, s2, .val (.int i3), .val (.ref kk), .val (.int (i3 - (48 : Int32))), .val (.int (0 : Int32)), .val (.int (0 : Int32)), .val (.int (0 : Int32)), .val (.int (0 : Int32)), .val (.int (0 : Int32)), .val (.int (1 : Int32)), s12, s13] [(.int (0 : Int32))])) _
  refine XS.istore X3.here hx rfl (hb hby at_316) rfl (l' := #[s0, s1, s2, .val (.int i3), .val (.ref kk), .val (.int (i3 - (48 : Int32))), .val (.int (0 : Int32)), .val (.int (0 : Int32)), .val (.int (0 : Int32)), .val (.int (0 : Int32)), .val (.int (0 : Int32)), .val (.int (1 : Int32)), .val (.int (0 : Int32)), s13]) (os0_316 hs12) ?_
  show Steps p.tables e below (T3.setTop (mkF m 318 #[s0, s1, s2, .val (.int i3), .val (.ref kk), .val (.int (i3 - (48 : Int32))), .val (.int (0 : Int32)), .val (.int (0 : Int32)), .val (.int (0 : Int32)), .val (.int (0 : Int32)), .val (.int (0 : Int32)), .val (.int (1 : Int32)), .val (.int (0 : Int32)), s13] [])) _
  refine XS.iload X3.here hx rfl (hb hby at_318) rfl ?_
  show Steps p.tables e below (T3.setTop (mkF m 320 #[s0, s1, s2, .val (.int i3), .val (.ref kk), .val (.int (i3 - (48 : Int32))), .val (.int (0 : Int32)), .val (.int (0 : Int32)), .val (.int (0 : Int32)), .val (.int (0 : Int32)), .val (.int (0 : Int32)), .val (.int (1 : Int32)), .val (.int (0 : Int32)), s13] [(.int (0 : Int32))])) _
  refine XS.ifNo X3.here hx rfl (hb hby at_320) rfl ((if0 _ _).trans (teq (rfl : (0 : Int32) = (0 : Int32))).2) ?_
  show Steps p.tables e below (T3.setTop (mkF m 323 #[s0, s1, s2, .val (.int i3), .val (.ref kk), .val (.int (i3 - (48 : Int32))), .val (.int (0 : Int32)), .val (.int (0 : Int32)), .val (.int (0 : Int32)), .val (.int (0 : Int32)), .val (.int (0 : Int32)), .val (.int (1 : Int32)), .val (.int (0 : Int32)), s13] [])) _
  refine XS.iload X3.here hx rfl (hb hby at_323) rfl ?_
  show Steps p.tables e below (T3.setTop (mkF m 325 #[s0, s1, s2, .val (.int i3), .val (.ref kk), .val (.int (i3 - (48 : Int32))), .val (.int (0 : Int32)), .val (.int (0 : Int32)), .val (.int (0 : Int32)), .val (.int (0 : Int32)), .val (.int (0 : Int32)), .val (.int (1 : Int32)), .val (.int (0 : Int32)), s13] [(.int (0 : Int32))])) _
  refine XS.ifNo X3.here hx rfl (hb hby at_325) rfl ((if0 _ _).trans (teq (rfl : (0 : Int32) = (0 : Int32))).2) ?_
  show Steps p.tables e below (T3.setTop (mkF m 328 #[s0, s1, s2, .val (.int i3), .val (.ref kk), .val (.int (i3 - (48 : Int32))), .val (.int (0 : Int32)), .val (.int (0 : Int32)), .val (.int (0 : Int32)), .val (.int (0 : Int32)), .val (.int (0 : Int32)), .val (.int (1 : Int32)), .val (.int (0 : Int32)), s13] [])) _
  refine XS.iload X3.here hx rfl (hb hby at_328) rfl ?_
  show Steps p.tables e below (T3.setTop (mkF m 330 #[s0, s1, s2, .val (.int i3), .val (.ref kk), .val (.int (i3 - (48 : Int32))), .val (.int (0 : Int32)), .val (.int (0 : Int32)), .val (.int (0 : Int32)), .val (.int (0 : Int32)), .val (.int (0 : Int32)), .val (.int (1 : Int32)), .val (.int (0 : Int32)), s13] [(.int (0 : Int32))])) _
  refine XS.ifNo X3.here hx rfl (hb hby at_330) rfl ((if0 _ _).trans (teq (rfl : (0 : Int32) = (0 : Int32))).2) ?_
  show Steps p.tables e below (T3.setTop (mkF m 333 #[s0, s1, s2, .val (.int i3), .val (.ref kk), .val (.int (i3 - (48 : Int32))), .val (.int (0 : Int32)), .val (.int (0 : Int32)), .val (.int (0 : Int32)), .val (.int (0 : Int32)), .val (.int (0 : Int32)), .val (.int (1 : Int32)), .val (.int (0 : Int32)), s13] [])) _
  refine XS.iload X3.here hx rfl (hb hby at_333) rfl ?_
  show Steps p.tables e below (T3.setTop (mkF m 335 #[s0, s1, s2, .val (.int i3), .val (.ref kk), .val (.int (i3 - (48 : Int32))), .val (.int (0 : Int32)), .val (.int (0 : Int32)), .val (.int (0 : Int32)), .val (.int (0 : Int32)), .val (.int (0 : Int32)), .val (.int (1 : Int32)), .val (.int (0 : Int32)), s13] [(.int (0 : Int32))])) _
  refine XS.ifNo X3.here hx rfl (hb hby at_335) rfl ((if0 _ _).trans (teq (rfl : (0 : Int32) = (0 : Int32))).2) ?_
  show Steps p.tables e below (T3.setTop (mkF m 338 #[s0, s1, s2, .val (.int i3), .val (.ref kk), .val (.int (i3 - (48 : Int32))), .val (.int (0 : Int32)), .val (.int (0 : Int32)), .val (.int (0 : Int32)), .val (.int (0 : Int32)), .val (.int (0 : Int32)), .val (.int (1 : Int32)), .val (.int (0 : Int32)), s13] [])) _
  refine XS.iload X3.here hx rfl (hb hby at_338) rfl ?_
  show Steps p.tables e below (T3.setTop (mkF m 340 #[s0, s1, s2, .val (.int i3), .val (.ref kk), .val (.int (i3 - (48 : Int32))), .val (.int (0 : Int32)), .val (.int (0 : Int32)), .val (.int (0 : Int32)), .val (.int (0 : Int32)), .val (.int (0 : Int32)), .val (.int (1 : Int32)), .val (.int (0 : Int32)), s13] [(.int (0 : Int32))])) _
  refine XS.ifNo X3.here hx rfl (hb hby at_340) rfl ((if0 _ _).trans (teq (rfl : (0 : Int32) = (0 : Int32))).2) ?_
  show Steps p.tables e below (T3.setTop (mkF m 343 #[s0, s1, s2, .val (.int i3), .val (.ref kk), .val (.int (i3 - (48 : Int32))), .val (.int (0 : Int32)), .val (.int (0 : Int32)), .val (.int (0 : Int32)), .val (.int (0 : Int32)), .val (.int (0 : Int32)), .val (.int (1 : Int32)), .val (.int (0 : Int32)), s13] [])) _
  refine XS.iload X3.here hx rfl (hb hby at_343) rfl ?_
  show Steps p.tables e below (T3.setTop (mkF m 345 #[s0, s1, s2, .val (.int i3), .val (.ref kk), .val (.int (i3 - (48 : Int32))), .val (.int (0 : Int32)), .val (.int (0 : Int32)), .val (.int (0 : Int32)), .val (.int (0 : Int32)), .val (.int (0 : Int32)), .val (.int (1 : Int32)), .val (.int (0 : Int32)), s13] [(.int (1 : Int32))])) _
  refine XS.ifYes X3.here hx rfl (pc0 := 345) (pc' := 357) rfl (hb hby at_345) rfl ((if0 _ _).trans (feq hc345).2) (by decide) (by decide) ?_
  show Steps p.tables e below (T3.setTop (mkF m 357 #[s0, s1, s2, .val (.int i3), .val (.ref kk), .val (.int (i3 - (48 : Int32))), .val (.int (0 : Int32)), .val (.int (0 : Int32)), .val (.int (0 : Int32)), .val (.int (0 : Int32)), .val (.int (0 : Int32)), .val (.int (1 : Int32)), .val (.int (0 : Int32)), s13] [])) _
  refine XS.iconst X3.here hx rfl (hb hby at_357) ?_
  show Steps p.tables e below (T3.setTop (mkF m 358 #[s0, s1, s2, .val (.int i3), .val (.ref kk), .val (.int (i3 - (48 : Int32))), .val (.int (0 : Int32)), .val (.int (0 : Int32)), .val (.int (0 : Int32)), .val (.int (0 : Int32)), .val (.int (0 : Int32)), .val (.int (1 : Int32)), .val (.int (0 : Int32)), s13] [(.int (0 : Int32))])) _
  refine XS.istore X3.here hx rfl (hb hby at_358) rfl (l' := #[s0, s1, s2, .val (.int i3), .val (.ref kk), .val (.int (i3 - (48 : Int32))), .val (.int (0 : Int32)), .val (.int (0 : Int32)), .val (.int (0 : Int32)), .val (.int (0 : Int32)), .val (.int (0 : Int32)), .val (.int (1 : Int32)), .val (.int (0 : Int32)), .val (.int (0 : Int32))]) (os0_358 hs13) ?_
  show Steps p.tables e below (T3.setTop (mkF m 360 #[s0, s1, s2, .val (.int i3), .val (.ref kk), .val (.int (i3 - (48 : Int32))), .val (.int (0 : Int32)), .val (.int (0 : Int32)), .val (.int (0 : Int32)), .val (.int (0 : Int32)), .val (.int (0 : Int32)), .val (.int (1 : Int32)), .val (.int (0 : Int32)), .val (.int (0 : Int32))] [])) _
  refine XS.aload X3.here hx rfl (hb hby at_360) rfl rfl ?_
  show Steps p.tables e below (T3.setTop (mkF m 362 #[s0, s1, s2, .val (.int i3), .val (.ref kk), .val (.int (i3 - (48 : Int32))), .val (.int (0 : Int32)), .val (.int (0 : Int32)), .val (.int (0 : Int32)), .val (.int (0 : Int32)), .val (.int (0 : Int32)), .val (.int (1 : Int32)), .val (.int (0 : Int32)), .val (.int (0 : Int32))] [(.ref kk)])) _
  refine st5 _ ?_
  show Steps p.tables e below (T5.setTop (mkF m 365 #[s0, s1, s2, .val (.int i3), .val (.ref kk), .val (.int (i3 - (48 : Int32))), .val (.int (0 : Int32)), .val (.int (0 : Int32)), .val (.int (0 : Int32)), .val (.int (0 : Int32)), .val (.int (0 : Int32)), .val (.int (1 : Int32)), .val (.int (0 : Int32)), .val (.int (0 : Int32))] [(.ref w4), (.ref kk)])) _
  refine Jvm.RoadKit.acmp (g := (mkF m 365 #[s0, s1, s2, .val (.int i3), .val (.ref kk), .val (.int (i3 - (48 : Int32))), .val (.int (0 : Int32)), .val (.int (0 : Int32)), .val (.int (0 : Int32)), .val (.int (0 : Int32)), .val (.int (0 : Int32)), .val (.int (1 : Int32)), .val (.int (0 : Int32)), .val (.int (0 : Int32))] [(.ref w4), (.ref kk)])) X5 hx rfl rfl rfl (pc0 := 365) (pc' := 372) (same := false) rfl (hb hby at_365) rfl (decide_eq_false fun q => ha365 (Value.ref.inj q)) (by decide) (by decide) ?_
  show Steps p.tables e below (T5.setTop (mkF m 372 #[s0, s1, s2, .val (.int i3), .val (.ref kk), .val (.int (i3 - (48 : Int32))), .val (.int (0 : Int32)), .val (.int (0 : Int32)), .val (.int (0 : Int32)), .val (.int (0 : Int32)), .val (.int (0 : Int32)), .val (.int (1 : Int32)), .val (.int (0 : Int32)), .val (.int (0 : Int32))] [])) _
  refine XS.iconst X5.here hx rfl (hb hby at_372) ?_
  show Steps p.tables e below (T5.setTop (mkF m 373 #[s0, s1, s2, .val (.int i3), .val (.ref kk), .val (.int (i3 - (48 : Int32))), .val (.int (0 : Int32)), .val (.int (0 : Int32)), .val (.int (0 : Int32)), .val (.int (0 : Int32)), .val (.int (0 : Int32)), .val (.int (1 : Int32)), .val (.int (0 : Int32)), .val (.int (0 : Int32))] [(.int (0 : Int32))])) _
  refine XS.iload X5.here hx rfl (hb hby at_373) rfl ?_
  show Steps p.tables e below (T5.setTop (mkF m 375 #[s0, s1, s2, .val (.int i3), .val (.ref kk), .val (.int (i3 - (48 : Int32))), .val (.int (0 : Int32)), .val (.int (0 : Int32)), .val (.int (0 : Int32)), .val (.int (0 : Int32)), .val (.int (0 : Int32)), .val (.int (1 : Int32)), .val (.int (0 : Int32)), .val (.int (0 : Int32))] [(.int (0 : Int32)), (.int (0 : Int32))])) _
  refine XS.icmpNo X5.here hx rfl (hb hby at_375) rfl (teq (rfl : (0 : Int32) = (0 : Int32))).2 ?_
  show Steps p.tables e below (T5.setTop (mkF m 378 #[s0, s1, s2, .val (.int i3), .val (.ref kk), .val (.int (i3 - (48 : Int32))), .val (.int (0 : Int32)), .val (.int (0 : Int32)), .val (.int (0 : Int32)), .val (.int (0 : Int32)), .val (.int (0 : Int32)), .val (.int (1 : Int32)), .val (.int (0 : Int32)), .val (.int (0 : Int32))] [])) _
  refine XS.aload X5.here hx rfl (hb hby at_378) rfl rfl ?_
  show Steps p.tables e below (T5.setTop (mkF m 380 #[s0, s1, s2, .val (.int i3), .val (.ref kk), .val (.int (i3 - (48 : Int32))), .val (.int (0 : Int32)), .val (.int (0 : Int32)), .val (.int (0 : Int32)), .val (.int (0 : Int32)), .val (.int (0 : Int32)), .val (.int (1 : Int32)), .val (.int (0 : Int32)), .val (.int (0 : Int32))] [(.ref kk)])) _
  refine st7 _ ?_
  show Steps p.tables e below (T7.setTop (mkF m 383 #[s0, s1, s2, .val (.int i3), .val (.ref kk), .val (.int (i3 - (48 : Int32))), .val (.int (0 : Int32)), .val (.int (0 : Int32)), .val (.int (0 : Int32)), .val (.int (0 : Int32)), .val (.int (0 : Int32)), .val (.int (1 : Int32)), .val (.int (0 : Int32)), .val (.int (0 : Int32))] [(.ref w6), (.ref kk)])) _
  refine Jvm.RoadKit.acmp (g := (mkF m 383 #[s0, s1, s2, .val (.int i3), .val (.ref kk), .val (.int (i3 - (48 : Int32))), .val (.int (0 : Int32)), .val (.int (0 : Int32)), .val (.int (0 : Int32)), .val (.int (0 : Int32)), .val (.int (0 : Int32)), .val (.int (1 : Int32)), .val (.int (0 : Int32)), .val (.int (0 : Int32))] [(.ref w6), (.ref kk)])) X7 hx rfl rfl rfl (pc0 := 383) (pc' := 390) (same := false) rfl (hb hby at_383) rfl (decide_eq_false fun q => ha383 (Value.ref.inj q)) (by decide) (by decide) ?_
  show Steps p.tables e below (T7.setTop (mkF m 390 #[s0, s1, s2, .val (.int i3), .val (.ref kk), .val (.int (i3 - (48 : Int32))), .val (.int (0 : Int32)), .val (.int (0 : Int32)), .val (.int (0 : Int32)), .val (.int (0 : Int32)), .val (.int (0 : Int32)), .val (.int (1 : Int32)), .val (.int (0 : Int32)), .val (.int (0 : Int32))] [])) _
  refine XS.iconst X7.here hx rfl (hb hby at_390) ?_
  show Steps p.tables e below (T7.setTop (mkF m 391 #[s0, s1, s2, .val (.int i3), .val (.ref kk), .val (.int (i3 - (48 : Int32))), .val (.int (0 : Int32)), .val (.int (0 : Int32)), .val (.int (0 : Int32)), .val (.int (0 : Int32)), .val (.int (0 : Int32)), .val (.int (1 : Int32)), .val (.int (0 : Int32)), .val (.int (0 : Int32))] [(.int (0 : Int32))])) _
  refine XS.iload X7.here hx rfl (hb hby at_391) rfl ?_
  show Steps p.tables e below (T7.setTop (mkF m 393 #[s0, s1, s2, .val (.int i3), .val (.ref kk), .val (.int (i3 - (48 : Int32))), .val (.int (0 : Int32)), .val (.int (0 : Int32)), .val (.int (0 : Int32)), .val (.int (0 : Int32)), .val (.int (0 : Int32)), .val (.int (1 : Int32)), .val (.int (0 : Int32)), .val (.int (0 : Int32))] [(.int (0 : Int32)), (.int (0 : Int32))])) _
  refine XS.icmpNo X7.here hx rfl (hb hby at_393) rfl (teq (rfl : (0 : Int32) = (0 : Int32))).2 ?_
  show Steps p.tables e below (T7.setTop (mkF m 396 #[s0, s1, s2, .val (.int i3), .val (.ref kk), .val (.int (i3 - (48 : Int32))), .val (.int (0 : Int32)), .val (.int (0 : Int32)), .val (.int (0 : Int32)), .val (.int (0 : Int32)), .val (.int (0 : Int32)), .val (.int (1 : Int32)), .val (.int (0 : Int32)), .val (.int (0 : Int32))] [])) _
  refine XS.aload X7.here hx rfl (hb hby at_396) rfl rfl ?_
  show Steps p.tables e below (T7.setTop (mkF m 398 #[s0, s1, s2, .val (.int i3), .val (.ref kk), .val (.int (i3 - (48 : Int32))), .val (.int (0 : Int32)), .val (.int (0 : Int32)), .val (.int (0 : Int32)), .val (.int (0 : Int32)), .val (.int (0 : Int32)), .val (.int (1 : Int32)), .val (.int (0 : Int32)), .val (.int (0 : Int32))] [(.ref kk)])) _
  refine st9 _ ?_
  show Steps p.tables e below (T9.setTop (mkF m 401 #[s0, s1, s2, .val (.int i3), .val (.ref kk), .val (.int (i3 - (48 : Int32))), .val (.int (0 : Int32)), .val (.int (0 : Int32)), .val (.int (0 : Int32)), .val (.int (0 : Int32)), .val (.int (0 : Int32)), .val (.int (1 : Int32)), .val (.int (0 : Int32)), .val (.int (0 : Int32))] [(.ref w8), (.ref kk)])) _
  refine Jvm.RoadKit.acmp (g := (mkF m 401 #[s0, s1, s2, .val (.int i3), .val (.ref kk), .val (.int (i3 - (48 : Int32))), .val (.int (0 : Int32)), .val (.int (0 : Int32)), .val (.int (0 : Int32)), .val (.int (0 : Int32)), .val (.int (0 : Int32)), .val (.int (1 : Int32)), .val (.int (0 : Int32)), .val (.int (0 : Int32))] [(.ref w8), (.ref kk)])) X9 hx rfl rfl rfl (pc0 := 401) (pc' := 408) (same := false) rfl (hb hby at_401) rfl (decide_eq_false fun q => ha401 (Value.ref.inj q)) (by decide) (by decide) ?_
  show Steps p.tables e below (T9.setTop (mkF m 408 #[s0, s1, s2, .val (.int i3), .val (.ref kk), .val (.int (i3 - (48 : Int32))), .val (.int (0 : Int32)), .val (.int (0 : Int32)), .val (.int (0 : Int32)), .val (.int (0 : Int32)), .val (.int (0 : Int32)), .val (.int (1 : Int32)), .val (.int (0 : Int32)), .val (.int (0 : Int32))] [])) _
  refine XS.iconst X9.here hx rfl (hb hby at_408) ?_
  show Steps p.tables e below (T9.setTop (mkF m 409 #[s0, s1, s2, .val (.int i3), .val (.ref kk), .val (.int (i3 - (48 : Int32))), .val (.int (0 : Int32)), .val (.int (0 : Int32)), .val (.int (0 : Int32)), .val (.int (0 : Int32)), .val (.int (0 : Int32)), .val (.int (1 : Int32)), .val (.int (0 : Int32)), .val (.int (0 : Int32))] [(.int (0 : Int32))])) _
  refine XS.iload X9.here hx rfl (hb hby at_409) rfl ?_
  show Steps p.tables e below (T9.setTop (mkF m 411 #[s0, s1, s2, .val (.int i3), .val (.ref kk), .val (.int (i3 - (48 : Int32))), .val (.int (0 : Int32)), .val (.int (0 : Int32)), .val (.int (0 : Int32)), .val (.int (0 : Int32)), .val (.int (0 : Int32)), .val (.int (1 : Int32)), .val (.int (0 : Int32)), .val (.int (0 : Int32))] [(.int (0 : Int32)), (.int (0 : Int32))])) _
  refine XS.icmpNo X9.here hx rfl (hb hby at_411) rfl (teq (rfl : (0 : Int32) = (0 : Int32))).2 ?_
  show Steps p.tables e below (T9.setTop (mkF m 414 #[s0, s1, s2, .val (.int i3), .val (.ref kk), .val (.int (i3 - (48 : Int32))), .val (.int (0 : Int32)), .val (.int (0 : Int32)), .val (.int (0 : Int32)), .val (.int (0 : Int32)), .val (.int (0 : Int32)), .val (.int (1 : Int32)), .val (.int (0 : Int32)), .val (.int (0 : Int32))] [])) _
  refine XS.aload X9.here hx rfl (hb hby at_414) rfl rfl ?_
  show Steps p.tables e below (T9.setTop (mkF m 416 #[s0, s1, s2, .val (.int i3), .val (.ref kk), .val (.int (i3 - (48 : Int32))), .val (.int (0 : Int32)), .val (.int (0 : Int32)), .val (.int (0 : Int32)), .val (.int (0 : Int32)), .val (.int (0 : Int32)), .val (.int (1 : Int32)), .val (.int (0 : Int32)), .val (.int (0 : Int32))] [(.ref kk)])) _
  refine st11 _ ?_
  show Steps p.tables e below (T11.setTop (mkF m 419 #[s0, s1, s2, .val (.int i3), .val (.ref kk), .val (.int (i3 - (48 : Int32))), .val (.int (0 : Int32)), .val (.int (0 : Int32)), .val (.int (0 : Int32)), .val (.int (0 : Int32)), .val (.int (0 : Int32)), .val (.int (1 : Int32)), .val (.int (0 : Int32)), .val (.int (0 : Int32))] [(.ref w10), (.ref kk)])) _
  refine Jvm.RoadKit.acmp (g := (mkF m 419 #[s0, s1, s2, .val (.int i3), .val (.ref kk), .val (.int (i3 - (48 : Int32))), .val (.int (0 : Int32)), .val (.int (0 : Int32)), .val (.int (0 : Int32)), .val (.int (0 : Int32)), .val (.int (0 : Int32)), .val (.int (1 : Int32)), .val (.int (0 : Int32)), .val (.int (0 : Int32))] [(.ref w10), (.ref kk)])) X11 hx rfl rfl rfl (pc0 := 419) (pc' := 426) (same := false) rfl (hb hby at_419) rfl (decide_eq_false fun q => ha419 (Value.ref.inj q)) (by decide) (by decide) ?_
  show Steps p.tables e below (T11.setTop (mkF m 426 #[s0, s1, s2, .val (.int i3), .val (.ref kk), .val (.int (i3 - (48 : Int32))), .val (.int (0 : Int32)), .val (.int (0 : Int32)), .val (.int (0 : Int32)), .val (.int (0 : Int32)), .val (.int (0 : Int32)), .val (.int (1 : Int32)), .val (.int (0 : Int32)), .val (.int (0 : Int32))] [])) _
  refine XS.iconst X11.here hx rfl (hb hby at_426) ?_
  show Steps p.tables e below (T11.setTop (mkF m 427 #[s0, s1, s2, .val (.int i3), .val (.ref kk), .val (.int (i3 - (48 : Int32))), .val (.int (0 : Int32)), .val (.int (0 : Int32)), .val (.int (0 : Int32)), .val (.int (0 : Int32)), .val (.int (0 : Int32)), .val (.int (1 : Int32)), .val (.int (0 : Int32)), .val (.int (0 : Int32))] [(.int (0 : Int32))])) _
  refine XS.iload X11.here hx rfl (hb hby at_427) rfl ?_
  show Steps p.tables e below (T11.setTop (mkF m 429 #[s0, s1, s2, .val (.int i3), .val (.ref kk), .val (.int (i3 - (48 : Int32))), .val (.int (0 : Int32)), .val (.int (0 : Int32)), .val (.int (0 : Int32)), .val (.int (0 : Int32)), .val (.int (0 : Int32)), .val (.int (1 : Int32)), .val (.int (0 : Int32)), .val (.int (0 : Int32))] [(.int (0 : Int32)), (.int (0 : Int32))])) _
  refine XS.icmpNo X11.here hx rfl (hb hby at_429) rfl (teq (rfl : (0 : Int32) = (0 : Int32))).2 ?_
  show Steps p.tables e below (T11.setTop (mkF m 432 #[s0, s1, s2, .val (.int i3), .val (.ref kk), .val (.int (i3 - (48 : Int32))), .val (.int (0 : Int32)), .val (.int (0 : Int32)), .val (.int (0 : Int32)), .val (.int (0 : Int32)), .val (.int (0 : Int32)), .val (.int (1 : Int32)), .val (.int (0 : Int32)), .val (.int (0 : Int32))] [])) _
  refine XS.aload X11.here hx rfl (hb hby at_432) rfl rfl ?_
  show Steps p.tables e below (T11.setTop (mkF m 434 #[s0, s1, s2, .val (.int i3), .val (.ref kk), .val (.int (i3 - (48 : Int32))), .val (.int (0 : Int32)), .val (.int (0 : Int32)), .val (.int (0 : Int32)), .val (.int (0 : Int32)), .val (.int (0 : Int32)), .val (.int (1 : Int32)), .val (.int (0 : Int32)), .val (.int (0 : Int32))] [(.ref kk)])) _
  refine st13 _ ?_
  show Steps p.tables e below (T13.setTop (mkF m 437 #[s0, s1, s2, .val (.int i3), .val (.ref kk), .val (.int (i3 - (48 : Int32))), .val (.int (0 : Int32)), .val (.int (0 : Int32)), .val (.int (0 : Int32)), .val (.int (0 : Int32)), .val (.int (0 : Int32)), .val (.int (1 : Int32)), .val (.int (0 : Int32)), .val (.int (0 : Int32))] [(.ref w12), (.ref kk)])) _
  refine Jvm.RoadKit.acmp (g := (mkF m 437 #[s0, s1, s2, .val (.int i3), .val (.ref kk), .val (.int (i3 - (48 : Int32))), .val (.int (0 : Int32)), .val (.int (0 : Int32)), .val (.int (0 : Int32)), .val (.int (0 : Int32)), .val (.int (0 : Int32)), .val (.int (1 : Int32)), .val (.int (0 : Int32)), .val (.int (0 : Int32))] [(.ref w12), (.ref kk)])) X13 hx rfl rfl rfl (pc0 := 437) (pc' := 444) (same := false) rfl (hb hby at_437) rfl (decide_eq_false fun q => ha437 (Value.ref.inj q)) (by decide) (by decide) ?_
  show Steps p.tables e below (T13.setTop (mkF m 444 #[s0, s1, s2, .val (.int i3), .val (.ref kk), .val (.int (i3 - (48 : Int32))), .val (.int (0 : Int32)), .val (.int (0 : Int32)), .val (.int (0 : Int32)), .val (.int (0 : Int32)), .val (.int (0 : Int32)), .val (.int (1 : Int32)), .val (.int (0 : Int32)), .val (.int (0 : Int32))] [])) _
  refine XS.iconst X13.here hx rfl (hb hby at_444) ?_
  show Steps p.tables e below (T13.setTop (mkF m 445 #[s0, s1, s2, .val (.int i3), .val (.ref kk), .val (.int (i3 - (48 : Int32))), .val (.int (0 : Int32)), .val (.int (0 : Int32)), .val (.int (0 : Int32)), .val (.int (0 : Int32)), .val (.int (0 : Int32)), .val (.int (1 : Int32)), .val (.int (0 : Int32)), .val (.int (0 : Int32))] [(.int (0 : Int32))])) _
  refine XS.iload X13.here hx rfl (hb hby at_445) rfl ?_
  show Steps p.tables e below (T13.setTop (mkF m 447 #[s0, s1, s2, .val (.int i3), .val (.ref kk), .val (.int (i3 - (48 : Int32))), .val (.int (0 : Int32)), .val (.int (0 : Int32)), .val (.int (0 : Int32)), .val (.int (0 : Int32)), .val (.int (0 : Int32)), .val (.int (1 : Int32)), .val (.int (0 : Int32)), .val (.int (0 : Int32))] [(.int (0 : Int32)), (.int (0 : Int32))])) _
  refine XS.icmpNo X13.here hx rfl (hb hby at_447) rfl (teq (rfl : (0 : Int32) = (0 : Int32))).2 ?_
  show Steps p.tables e below (T13.setTop (mkF m 450 #[s0, s1, s2, .val (.int i3), .val (.ref kk), .val (.int (i3 - (48 : Int32))), .val (.int (0 : Int32)), .val (.int (0 : Int32)), .val (.int (0 : Int32)), .val (.int (0 : Int32)), .val (.int (0 : Int32)), .val (.int (1 : Int32)), .val (.int (0 : Int32)), .val (.int (0 : Int32))] [])) _
  refine XS.aload X13.here hx rfl (hb hby at_450) rfl rfl ?_
  show Steps p.tables e below (T13.setTop (mkF m 452 #[s0, s1, s2, .val (.int i3), .val (.ref kk), .val (.int (i3 - (48 : Int32))), .val (.int (0 : Int32)), .val (.int (0 : Int32)), .val (.int (0 : Int32)), .val (.int (0 : Int32)), .val (.int (0 : Int32)), .val (.int (1 : Int32)), .val (.int (0 : Int32)), .val (.int (0 : Int32))] [(.ref kk)])) _
  refine st15 _ ?_
  show Steps p.tables e below (T15.setTop (mkF m 455 #[s0, s1, s2, .val (.int i3), .val (.ref kk), .val (.int (i3 - (48 : Int32))), .val (.int (0 : Int32)), .val (.int (0 : Int32)), .val (.int (0 : Int32)), .val (.int (0 : Int32)), .val (.int (0 : Int32)), .val (.int (1 : Int32)), .val (.int (0 : Int32)), .val (.int (0 : Int32))] [(.ref w14), (.ref kk)])) _
  refine Jvm.RoadKit.acmp (g := (mkF m 455 #[s0, s1, s2, .val (.int i3), .val (.ref kk), .val (.int (i3 - (48 : Int32))), .val (.int (0 : Int32)), .val (.int (0 : Int32)), .val (.int (0 : Int32)), .val (.int (0 : Int32)), .val (.int (0 : Int32)), .val (.int (1 : Int32)), .val (.int (0 : Int32)), .val (.int (0 : Int32))] [(.ref w14), (.ref kk)])) X15 hx rfl rfl rfl (pc0 := 455) (pc' := 458) (same := true) rfl (hb hby at_455) rfl (decide_eq_true (congrArg Value.ref ha455)) (by decide) (by decide) ?_
  show Steps p.tables e below (T15.setTop (mkF m 458 #[s0, s1, s2, .val (.int i3), .val (.ref kk), .val (.int (i3 - (48 : Int32))), .val (.int (0 : Int32)), .val (.int (0 : Int32)), .val (.int (0 : Int32)), .val (.int (0 : Int32)), .val (.int (0 : Int32)), .val (.int (1 : Int32)), .val (.int (0 : Int32)), .val (.int (0 : Int32))] [])) _
  refine XS.iconst X15.here hx rfl (hb hby at_458) ?_
  show Steps p.tables e below (T15.setTop (mkF m 459 #[s0, s1, s2, .val (.int i3), .val (.ref kk), .val (.int (i3 - (48 : Int32))), .val (.int (0 : Int32)), .val (.int (0 : Int32)), .val (.int (0 : Int32)), .val (.int (0 : Int32)), .val (.int (0 : Int32)), .val (.int (1 : Int32)), .val (.int (0 : Int32)), .val (.int (0 : Int32))] [(.int (1 : Int32))])) _
  refine XS.goto X15.here hx rfl (pc0 := 459) (pc' := 463) rfl (hb hby at_459) (by decide) (by decide) ?_
  show Steps p.tables e below (T15.setTop (mkF m 463 #[s0, s1, s2, .val (.int i3), .val (.ref kk), .val (.int (i3 - (48 : Int32))), .val (.int (0 : Int32)), .val (.int (0 : Int32)), .val (.int (0 : Int32)), .val (.int (0 : Int32)), .val (.int (0 : Int32)), .val (.int (1 : Int32)), .val (.int (0 : Int32)), .val (.int (0 : Int32))] [(.int (1 : Int32))])) _
  refine XS.iload X15.here hx rfl (hb hby at_463) rfl ?_
  show Steps p.tables e below (T15.setTop (mkF m 465 #[s0, s1, s2, .val (.int i3), .val (.ref kk), .val (.int (i3 - (48 : Int32))), .val (.int (0 : Int32)), .val (.int (0 : Int32)), .val (.int (0 : Int32)), .val (.int (0 : Int32)), .val (.int (0 : Int32)), .val (.int (1 : Int32)), .val (.int (0 : Int32)), .val (.int (0 : Int32))] [(.int (1 : Int32)), (.int (1 : Int32))])) _
  refine XS.icmpNo X15.here hx rfl (hb hby at_465) rfl (teq (rfl : (1 : Int32) = (1 : Int32))).2 ?_
  show Steps p.tables e below (T15.setTop (mkF m 468 #[s0, s1, s2, .val (.int i3), .val (.ref kk), .val (.int (i3 - (48 : Int32))), .val (.int (0 : Int32)), .val (.int (0 : Int32)), .val (.int (0 : Int32)), .val (.int (0 : Int32)), .val (.int (0 : Int32)), .val (.int (1 : Int32)), .val (.int (0 : Int32)), .val (.int (0 : Int32))] [])) _
  refine XS.aload X15.here hx rfl (hb hby at_468) rfl rfl ?_
  show Steps p.tables e below (T15.setTop (mkF m 470 #[s0, s1, s2, .val (.int i3), .val (.ref kk), .val (.int (i3 - (48 : Int32))), .val (.int (0 : Int32)), .val (.int (0 : Int32)), .val (.int (0 : Int32)), .val (.int (0 : Int32)), .val (.int (0 : Int32)), .val (.int (1 : Int32)), .val (.int (0 : Int32)), .val (.int (0 : Int32))] [(.ref kk)])) _
  refine st17 _ ?_
  show Steps p.tables e below (T17.setTop (mkF m 473 #[s0, s1, s2, .val (.int i3), .val (.ref kk), .val (.int (i3 - (48 : Int32))), .val (.int (0 : Int32)), .val (.int (0 : Int32)), .val (.int (0 : Int32)), .val (.int (0 : Int32)), .val (.int (0 : Int32)), .val (.int (1 : Int32)), .val (.int (0 : Int32)), .val (.int (0 : Int32))] [(.ref w16), (.ref kk)])) _
  refine Jvm.RoadKit.acmp (g := (mkF m 473 #[s0, s1, s2, .val (.int i3), .val (.ref kk), .val (.int (i3 - (48 : Int32))), .val (.int (0 : Int32)), .val (.int (0 : Int32)), .val (.int (0 : Int32)), .val (.int (0 : Int32)), .val (.int (0 : Int32)), .val (.int (1 : Int32)), .val (.int (0 : Int32)), .val (.int (0 : Int32))] [(.ref w16), (.ref kk)])) X17 hx rfl rfl rfl (pc0 := 473) (pc' := 480) (same := false) rfl (hb hby at_473) rfl (decide_eq_false fun q => ha473 (Value.ref.inj q)) (by decide) (by decide) ?_
  show Steps p.tables e below (T17.setTop (mkF m 480 #[s0, s1, s2, .val (.int i3), .val (.ref kk), .val (.int (i3 - (48 : Int32))), .val (.int (0 : Int32)), .val (.int (0 : Int32)), .val (.int (0 : Int32)), .val (.int (0 : Int32)), .val (.int (0 : Int32)), .val (.int (1 : Int32)), .val (.int (0 : Int32)), .val (.int (0 : Int32))] [])) _
  refine XS.iconst X17.here hx rfl (hb hby at_480) ?_
  show Steps p.tables e below (T17.setTop (mkF m 481 #[s0, s1, s2, .val (.int i3), .val (.ref kk), .val (.int (i3 - (48 : Int32))), .val (.int (0 : Int32)), .val (.int (0 : Int32)), .val (.int (0 : Int32)), .val (.int (0 : Int32)), .val (.int (0 : Int32)), .val (.int (1 : Int32)), .val (.int (0 : Int32)), .val (.int (0 : Int32))] [(.int (0 : Int32))])) _
  refine XS.iload X17.here hx rfl (hb hby at_481) rfl ?_
  show Steps p.tables e below (T17.setTop (mkF m 483 #[s0, s1, s2, .val (.int i3), .val (.ref kk), .val (.int (i3 - (48 : Int32))), .val (.int (0 : Int32)), .val (.int (0 : Int32)), .val (.int (0 : Int32)), .val (.int (0 : Int32)), .val (.int (0 : Int32)), .val (.int (1 : Int32)), .val (.int (0 : Int32)), .val (.int (0 : Int32))] [(.int (0 : Int32)), (.int (0 : Int32))])) _
  refine XS.icmpNo X17.here hx rfl (hb hby at_483) rfl (teq (rfl : (0 : Int32) = (0 : Int32))).2 ?_
  show Steps p.tables e below (T17.setTop (mkF m 486 #[s0, s1, s2, .val (.int i3), .val (.ref kk), .val (.int (i3 - (48 : Int32))), .val (.int (0 : Int32)), .val (.int (0 : Int32)), .val (.int (0 : Int32)), .val (.int (0 : Int32)), .val (.int (0 : Int32)), .val (.int (1 : Int32)), .val (.int (0 : Int32)), .val (.int (0 : Int32))] [])) _
  refine XS.aload X17.here hx rfl (hb hby at_486) rfl rfl ?_
  show Steps p.tables e below (T17.setTop (mkF m 488 #[s0, s1, s2, .val (.int i3), .val (.ref kk), .val (.int (i3 - (48 : Int32))), .val (.int (0 : Int32)), .val (.int (0 : Int32)), .val (.int (0 : Int32)), .val (.int (0 : Int32)), .val (.int (0 : Int32)), .val (.int (1 : Int32)), .val (.int (0 : Int32)), .val (.int (0 : Int32))] [(.ref kk)])) _
  refine XS.ifnonnullYes X17.here hx rfl (pc0 := 488) (pc' := 495) rfl (hb hby at_488) rfl (by decide) (by decide) ?_
  show Steps p.tables e below (T17.setTop (mkF m 495 #[s0, s1, s2, .val (.int i3), .val (.ref kk), .val (.int (i3 - (48 : Int32))), .val (.int (0 : Int32)), .val (.int (0 : Int32)), .val (.int (0 : Int32)), .val (.int (0 : Int32)), .val (.int (0 : Int32)), .val (.int (1 : Int32)), .val (.int (0 : Int32)), .val (.int (0 : Int32))] [])) _
  refine XS.iconst X17.here hx rfl (hb hby at_495) ?_
  show Steps p.tables e below (T17.setTop (mkF m 496 #[s0, s1, s2, .val (.int i3), .val (.ref kk), .val (.int (i3 - (48 : Int32))), .val (.int (0 : Int32)), .val (.int (0 : Int32)), .val (.int (0 : Int32)), .val (.int (0 : Int32)), .val (.int (0 : Int32)), .val (.int (1 : Int32)), .val (.int (0 : Int32)), .val (.int (0 : Int32))] [(.int (0 : Int32))])) _
  refine XS.iload X17.here hx rfl (hb hby at_496) rfl ?_
  show Steps p.tables e below (T17.setTop (mkF m 498 #[s0, s1, s2, .val (.int i3), .val (.ref kk), .val (.int (i3 - (48 : Int32))), .val (.int (0 : Int32)), .val (.int (0 : Int32)), .val (.int (0 : Int32)), .val (.int (0 : Int32)), .val (.int (0 : Int32)), .val (.int (1 : Int32)), .val (.int (0 : Int32)), .val (.int (0 : Int32))] [(.int (0 : Int32)), (.int (0 : Int32))])) _
  refine XS.icmpNo X17.here hx rfl (hb hby at_498) rfl (teq (rfl : (0 : Int32) = (0 : Int32))).2 ?_
  show Steps p.tables e below (T17.setTop (mkF m 501 #[s0, s1, s2, .val (.int i3), .val (.ref kk), .val (.int (i3 - (48 : Int32))), .val (.int (0 : Int32)), .val (.int (0 : Int32)), .val (.int (0 : Int32)), .val (.int (0 : Int32)), .val (.int (0 : Int32)), .val (.int (1 : Int32)), .val (.int (0 : Int32)), .val (.int (0 : Int32))] [])) _
  refine XS.iconst X17.here hx rfl (hb hby at_501) ?_
  show Steps p.tables e below (T17.setTop (mkF m 502 #[s0, s1, s2, .val (.int i3), .val (.ref kk), .val (.int (i3 - (48 : Int32))), .val (.int (0 : Int32)), .val (.int (0 : Int32)), .val (.int (0 : Int32)), .val (.int (0 : Int32)), .val (.int (0 : Int32)), .val (.int (1 : Int32)), .val (.int (0 : Int32)), .val (.int (0 : Int32))] [(.int (1 : Int32))])) _
  refine XS.goto X17.here hx rfl (pc0 := 502) (pc' := 506) rfl (hb hby at_502) (by decide) (by decide) ?_
  exact kt
set_option maxRecDepth 65536 in
set_option maxHeartbeats 40000000 in
theorem own_segC_nul {p : Program} {l : Launch} {e : Env} {s : State} {m : MethodId} {args : Array Value} {below : List Frame} {meth : Method} {c : Code} {T0 : State} {locs : List Loc} {Z : State} {a0 : Array Value} {h0 : Heap} {n0 : Nat} (s0 : Slot) (s1 : Slot) (s2 : Slot) (i3 : Int32) (s4 : Slot) (s5 : Slot) (s6 : Slot) (s7 : Slot) (s8 : Slot) (s9 : Slot) (s10 : Slot) (s11 : Slot) (s12 : Slot) (s13 : Slot) (w4 : Addr) (w6 : Addr) (w8 : Addr) (w10 : Addr) (w12 : Addr) (w14 : Addr) (w16 : Addr)
    (kk : Addr) (X0 : Stand p l e room_1 s m args below meth c T0 locs 1 30) (hx : p.tables.exec = Jvm.exec) (hZ : Z.Warmed39 s.vm) (hw : ∀ d ∈ tables_1, d.before a0 Z = true) (hby : c.code = code) (hml : c.maxLocals = 14) (hown : s.vm.findClass "com/example/tenkyo/tenkyo/exchange/KindOfPinLaw" = some m.cls) (e0 : T0.heap = h0) (N0 : Fr n0 locs) (hof : MetFree l (⟨"com/example/tenkyo/tenkyo/exchange/Json$Kind", "of", "(C)Lcom/example/tenkyo/tenkyo/exchange/Json$Kind;"⟩ : MethodName) (head1 (Jvm.Cond.code (⟨"com/example/tenkyo/tenkyo/exchange/Json$Kind", "of", "(C)Lcom/example/tenkyo/tenkyo/exchange/Json$Kind;"⟩ : MethodName) prog_14_method_6_code 2 (some (.object "com/example/tenkyo/tenkyo/exchange/Json$Kind")) :: []) ({ frames := 0, cells := 0, slots := 0, locals := 0 } : Room)) (fun a U => a = #[(.int i3)] ∧ Z.Warmed39 U.vm ∧ U.heap = h0) (fun _ _ _ _ _ => True) (fun _ U o U' => ∃ v L, o = .returned v ∧ Qk (.ref kk) h0 n0 v U'.heap L ∧ FrameEnd U o U' L ({ frames := 0, cells := 0, slots := 0, locals := 0 } : Room).cells ({ frames := 0, cells := 0, slots := 0, locals := 0 } : Room).slots)) (hs4 : One s4) (hs5 : One s5) (hs6 : One s6) (hs7 : One s7) (hs8 : One s8) (hs9 : One s9) (hs10 : One s10) (hs11 : One s11) (hs12 : One s12) (hs13 : One s13) (S_OBJECT : Sta Z h0 "com/example/tenkyo/tenkyo/exchange/Json$Kind" "OBJECT" "Lcom/example/tenkyo/tenkyo/exchange/Json$Kind;" (.ref w4)) (S_ARRAY : Sta Z h0 "com/example/tenkyo/tenkyo/exchange/Json$Kind" "ARRAY" "Lcom/example/tenkyo/tenkyo/exchange/Json$Kind;" (.ref w6)) (S_STRING : Sta Z h0 "com/example/tenkyo/tenkyo/exchange/Json$Kind" "STRING" "Lcom/example/tenkyo/tenkyo/exchange/Json$Kind;" (.ref w8)) (S_NUMBER : Sta Z h0 "com/example/tenkyo/tenkyo/exchange/Json$Kind" "NUMBER" "Lcom/example/tenkyo/tenkyo/exchange/Json$Kind;" (.ref w10)) (S_TRUE : Sta Z h0 "com/example/tenkyo/tenkyo/exchange/Json$Kind" "TRUE" "Lcom/example/tenkyo/tenkyo/exchange/Json$Kind;" (.ref w12)) (S_FALSE : Sta Z h0 "com/example/tenkyo/tenkyo/exchange/Json$Kind" "FALSE" "Lcom/example/tenkyo/tenkyo/exchange/Json$Kind;" (.ref w14)) (S_NULL : Sta Z h0 "com/example/tenkyo/tenkyo/exchange/Json$Kind" "NULL" "Lcom/example/tenkyo/tenkyo/exchange/Json$Kind;" (.ref w16)) (hc218 : ¬ (i3 = (123 : Int32))) (hc231 : ¬ (i3 = (91 : Int32))) (hc244 : ¬ (i3 = (34 : Int32))) (hc257 : ¬ (i3 = (45 : Int32))) (hc262 : ¬ ((i3 - (48 : Int32)) < (0 : Int32))) (hc269 : ¬ ((i3 - (48 : Int32)) < (10 : Int32))) (hc282 : ¬ (i3 = (116 : Int32))) (hc295 : ¬ (i3 = (102 : Int32))) (hc308 : i3 = (110 : Int32)) (hc350 : ¬ ((1 : Int32) = (0 : Int32))) (ha365 : ¬ (kk = w4)) (ha383 : ¬ (kk = w6)) (ha401 : ¬ (kk = w8)) (ha419 : ¬ (kk = w10)) (ha437 : ¬ (kk = w12)) (ha455 : ¬ (kk = w14)) (ha473 : kk = w16) :
    ∃ (T' : State) (L' : List Loc) (Ls : Array Slot), Stand p l e room_1 s m args below meth c T' L' 1 30 ∧ Fr n0 L' ∧
      ∀ target, Steps p.tables e below (T'.setTop (mkF m 506 Ls [(.int (1 : Int32))])) target → Steps p.tables e below (T0.setTop (mkF m 203 #[s0, s1, s2, .val (.int i3), s4, s5, s6, s7, s8, s9, s10, s11, s12, s13] [])) target := by
  obtain ⟨_, _, ⟨T3, L3, k3, n3⟩, -, X3, ⟨Lc3, hQ3, l3, y3, z3⟩, st3⟩ := Jvm.LawKit.callS X0 hx (y := (⟨"com/example/tenkyo/tenkyo/exchange/Json$Kind", "of", "(C)Lcom/example/tenkyo/tenkyo/exchange/Json$Kind;"⟩ : MethodName)) hown (mvT hZ (hw _ (List.mem_of_getElem? (i := 3) rfl))) (mvT hZ (hw _ (List.mem_of_getElem? (i := 4) rfl))) (mvT hZ (hw _ (List.mem_of_getElem? (i := 5) rfl))) (mvT hZ (hw _ (List.mem_of_getElem? (i := 6) rfl))) (by decide) (backOf (W := 0) hof hZ (hw _ (List.mem_of_getElem? (i := 6) rfl)) (hw _ (List.mem_of_getElem? (i := 5) rfl)) (by decide) (by decide)) (g := (mkF m 204 #[s0, s1, s2, .val (.int i3), s4, s5, s6, s7, s8, s9, s10, s11, s12, s13] [(.int i3)])) rfl (by rw [hml]; rfl) (argsL := [(.int i3)]) (rest := []) (lenOf pd_0_0 rfl) rfl (by show 2 * 0 + _ ≤ _; exact Nat.le_of_eq rfl) (hb hby at_204) (fun _ _ => ⟨rfl, e0, (by decide : 1 + 0 ≤ _), (by decide : 30 + 0 ≤ _)⟩)
  dsimp only [Pt.U, Pt.locs, Pt.cells, Pt.slots] at X3 l3 y3 z3 st3 hQ3
  subst l3 y3 z3
  obtain ⟨rfl, N3q, e3⟩ := hQ3
  have N3 := Fr.app N0 N3q
  obtain ⟨T5, X5, e5, st5⟩ := getS2 X3 hx hZ hown (host := "") (Or.inl (hw _ (List.mem_of_getElem? (i := 9) rfl))) Via.refl e3 S_OBJECT (g := (mkF m 362 #[s0, s1, s2, .val (.int i3), .val (.ref kk), .val (.int (i3 - (48 : Int32))), .val (.int (0 : Int32)), .val (.int (0 : Int32)), .val (.int (0 : Int32)), .val (.int (0 : Int32)), .val (.int (0 : Int32)), .val (.int (0 : Int32)), .val (.int (1 : Int32)), .val (.int (0 : Int32))] [(.ref kk)])) rfl (hb hby at_362)
  obtain ⟨T7, X7, e7, st7⟩ := getS2 X5 hx hZ hown (host := "") (Or.inl (hw _ (List.mem_of_getElem? (i := 10) rfl))) Via.refl e5 S_ARRAY (g := (mkF m 380 #[s0, s1, s2, .val (.int i3), .val (.ref kk), .val (.int (i3 - (48 : Int32))), .val (.int (0 : Int32)), .val (.int (0 : Int32)), .val (.int (0 : Int32)), .val (.int (0 : Int32)), .val (.int (0 : Int32)), .val (.int (0 : Int32)), .val (.int (1 : Int32)), .val (.int (0 : Int32))] [(.ref kk)])) rfl (hb hby at_380)
  obtain ⟨T9, X9, e9, st9⟩ := getS2 X7 hx hZ hown (host := "") (Or.inl (hw _ (List.mem_of_getElem? (i := 12) rfl))) Via.refl e7 S_STRING (g := (mkF m 398 #[s0, s1, s2, .val (.int i3), .val (.ref kk), .val (.int (i3 - (48 : Int32))), .val (.int (0 : Int32)), .val (.int (0 : Int32)), .val (.int (0 : Int32)), .val (.int (0 : Int32)), .val (.int (0 : Int32)), .val (.int (0 : Int32)), .val (.int (1 : Int32)), .val (.int (0 : Int32))] [(.ref kk)])) rfl (hb hby at_398)
  obtain ⟨T11, X11, e11, st11⟩ := getS2 X9 hx hZ hown (host := "") (Or.inl (hw _ (List.mem_of_getElem? (i := 14) rfl))) Via.refl e9 S_NUMBER (g := (mkF m 416 #[s0, s1, s2, .val (.int i3), .val (.ref kk), .val (.int (i3 - (48 : Int32))), .val (.int (0 : Int32)), .val (.int (0 : Int32)), .val (.int (0 : Int32)), .val (.int (0 : Int32)), .val (.int (0 : Int32)), .val (.int (0 : Int32)), .val (.int (1 : Int32)), .val (.int (0 : Int32))] [(.ref kk)])) rfl (hb hby at_416)
  obtain ⟨T13, X13, e13, st13⟩ := getS2 X11 hx hZ hown (host := "") (Or.inl (hw _ (List.mem_of_getElem? (i := 16) rfl))) Via.refl e11 S_TRUE (g := (mkF m 434 #[s0, s1, s2, .val (.int i3), .val (.ref kk), .val (.int (i3 - (48 : Int32))), .val (.int (0 : Int32)), .val (.int (0 : Int32)), .val (.int (0 : Int32)), .val (.int (0 : Int32)), .val (.int (0 : Int32)), .val (.int (0 : Int32)), .val (.int (1 : Int32)), .val (.int (0 : Int32))] [(.ref kk)])) rfl (hb hby at_434)
  obtain ⟨T15, X15, e15, st15⟩ := getS2 X13 hx hZ hown (host := "") (Or.inl (hw _ (List.mem_of_getElem? (i := 18) rfl))) Via.refl e13 S_FALSE (g := (mkF m 452 #[s0, s1, s2, .val (.int i3), .val (.ref kk), .val (.int (i3 - (48 : Int32))), .val (.int (0 : Int32)), .val (.int (0 : Int32)), .val (.int (0 : Int32)), .val (.int (0 : Int32)), .val (.int (0 : Int32)), .val (.int (0 : Int32)), .val (.int (1 : Int32)), .val (.int (0 : Int32))] [(.ref kk)])) rfl (hb hby at_452)
  obtain ⟨T17, X17, e17, st17⟩ := getS2 X15 hx hZ hown (host := "") (Or.inl (hw _ (List.mem_of_getElem? (i := 20) rfl))) Via.refl e15 S_NULL (g := (mkF m 470 #[s0, s1, s2, .val (.int i3), .val (.ref kk), .val (.int (i3 - (48 : Int32))), .val (.int (0 : Int32)), .val (.int (0 : Int32)), .val (.int (0 : Int32)), .val (.int (0 : Int32)), .val (.int (0 : Int32)), .val (.int (0 : Int32)), .val (.int (1 : Int32)), .val (.int (0 : Int32))] [(.ref kk)])) rfl (hb hby at_470)
  refine ⟨T17, _, #[s0, s1, s2, .val (.int i3), .val (.ref kk), .val (.int (i3 - (48 : Int32))), .val (.int (0 : Int32)), .val (.int (0 : Int32)), .val (.int (0 : Int32)), .val (.int (0 : Int32)), .val (.int (0 : Int32)), .val (.int (0 : Int32)), .val (.int (1 : Int32)), .val (.int (0 : Int32))], X17, N3, fun target kt => ?_⟩
  show Steps p.tables e below (T0.setTop (mkF m 203 #[s0, s1, s2, .val (.int i3), s4, s5, s6, s7, s8, s9, s10, s11, s12, s13] [])) _
  refine XS.iloadN X0.here hx rfl (hb hby at_203) rfl ?_
  show Steps p.tables e below (T0.setTop (mkF m 204 #[s0, s1, s2, .val (.int i3), s4, s5, s6, s7, s8, s9, s10, s11, s12, s13] [(.int i3)])) _
  refine st3 _ ?_
  show Steps p.tables e below (T3.setTop (mkF m 207 #[s0, s1, s2, .val (.int i3), s4, s5, s6, s7, s8, s9, s10, s11, s12, s13] [(.ref kk)])) _
  refine XS.astore X3.here hx rfl (hb hby at_207) rfl rfl (l' := #[s0, s1, s2, .val (.int i3), .val (.ref kk), s5, s6, s7, s8, s9, s10, s11, s12, s13]) (os0_207 hs4) ?_
  show Steps p.tables e below (T3.setTop (mkF m 209 #[s0, s1, s2, .val (.int i3), .val (.ref kk), s5, s6, s7, s8, s9, s10, s11, s12, s13] [])) _
  refine XS.iloadN X3.here hx rfl (hb hby at_209) rfl ?_
  show Steps p.tables e below (T3.setTop (mkF m 210 #[s0, s1, s2, .val (.int i3), .val (.ref kk), s5, s6, s7, s8, s9, s10, s11, s12, s13] [(.int i3)])) _
  refine XS.bipush X3.here hx rfl (hb hby at_210) ?_
  show Steps p.tables e below (T3.setTop (mkF m 212 #[s0, s1, s2, .val (.int i3), .val (.ref kk), s5, s6, s7, s8, s9, s10, s11, s12, s13] [(.int (48 : Int32)), (.int i3)])) _
  refine XS.isub X3.here hx rfl (hb hby at_212) rfl ?_
  show Steps p.tables e below (T3.setTop (mkF m 213 #[s0, s1, s2, .val (.int i3), .val (.ref kk), s5, s6, s7, s8, s9, s10, s11, s12, s13] [(.int (i3 - (48 : Int32)))])) _
  refine XS.istore X3.here hx rfl (hb hby at_213) rfl (l' := #[s0, s1, s2, .val (.int i3), .val (.ref kk), .val (.int (i3 - (48 : Int32))), s6, s7, s8, s9, s10, s11, s12, s13]) (os0_213 hs5) ?_
  show Steps p.tables e below (T3.setTop (mkF m 215 #[s0, s1, s2, .val (.int i3), .val (.ref kk), .val (.int (i3 - (48 : Int32))), s6, s7, s8, s9, s10, s11, s12, s13] [])) _
  refine XS.iloadN X3.here hx rfl (hb hby at_215) rfl ?_
  show Steps p.tables e below (T3.setTop (mkF m 216 #[s0, s1, s2, .val (.int i3), .val (.ref kk), .val (.int (i3 - (48 : Int32))), s6, s7, s8, s9, s10, s11, s12, s13] [(.int i3)])) _
  refine XS.bipush X3.here hx rfl (hb hby at_216) ?_
  show Steps p.tables e below (T3.setTop (mkF m 218 #[s0, s1, s2, .val (.int i3), .val (.ref kk), .val (.int (i3 - (48 : Int32))), s6, s7, s8, s9, s10, s11, s12, s13] [(.int (123 : Int32)), (.int i3)])) _
  refine XS.icmpYes X3.here hx rfl (pc0 := 218) (pc' := 225) rfl (hb hby at_218) rfl (feq hc218).2 (by decide) (by decide) ?_
  show Steps p.tables e below (T3.setTop (mkF m 225 #[s0, s1, s2, .val (.int i3), .val (.ref kk), .val (.int (i3 - (48 : Int32))), s6, s7, s8, s9, s10, s11, s12, s13] [])) _
  refine XS.iconst X3.here hx rfl (hb hby at_225) ?_
  show Steps p.tables e below (T3.setTop (mkF m 226 #[s0, s1, s2, .val (.int i3), .val (.ref kk), .val (.int (i3 - (48 : Int32))), s6, s7, s8, s9, s10, s11, s12, s13] [(.int (0 : Int32))])) _
  refine XS.istore X3.here hx rfl (hb hby at_226) rfl (l' := #[s0, s1, s2, .val (.int i3), .val (.ref kk), .val (.int (i3 - (48 : Int32))), .val (.int (0 : Int32)), s7, s8, s9, s10, s11, s12, s13]) (os0_226 hs6) ?_
  show Steps p.tables e below (T3.setTop (mkF m 228 #[s0, s1, s2, .val (.int i3), .val (.ref kk), .val (.int (i3 - (48 : Int32))), .val (.int (0 : Int32)), s7, s8, s9, s10, s11, s12, s13] [])) _
  refine XS.iloadN X3.here hx rfl (hb hby at_228) rfl ?_
  show Steps p.tables e below (T3.setTop (mkF m 229 #[s0, s1, s2, .val (.int i3), .val (.ref kk), .val (.int (i3 - (48 : Int32))), .val (.int (0 : Int32)), s7, s8, s9, s10, s11, s12, s13] [(.int i3)])) _
  refine XS.bipush X3.here hx rfl (hb hby at_229) ?_
  show Steps p.tables e below (T3.setTop (mkF m 231 #[s0, s1, s2, .val (.int i3), .val (.ref kk), .val (.int (i3 - (48 : Int32))), .val (.int (0 : Int32)), s7, s8, s9, s10, s11, s12, s13] [(.int (91 : Int32)), (.int i3)])) _
  refine XS.icmpYes X3.here hx rfl (pc0 := 231) (pc' := 238) rfl (hb hby at_231) rfl (feq hc231).2 (by decide) (by decide) ?_
  show Steps p.tables e below (T3.setTop (mkF m 238 #[s0, s1, s2, .val (.int i3), .val (.ref kk), .val (.int (i3 - (48 : Int32))), .val (.int (0 : Int32)), s7, s8, s9, s10, s11, s12, s13] [])) _
  refine XS.iconst X3.here hx rfl (hb hby at_238) ?_
  show Steps p.tables e below (T3.setTop (mkF m 239 #[s0, s1, s2, .val (.int i3), .val (.ref kk), .val (.int (i3 - (48 : Int32))), .val (.int (0 : Int32)), s7, s8, s9, s10, s11, s12, s13] [(.int (0 : Int32))])) _
  refine XS.istore X3.here hx rfl (hb hby at_239) rfl (l' := #[s0, s1, s2, .val (.int i3), .val (.ref kk), .val (.int (i3 - (48 : Int32))), .val (.int (0 : Int32)), .val (.int (0 : Int32)), s8, s9, s10, s11, s12, s13]) (os0_239 hs7) ?_
  show Steps p.tables e below (T3.setTop (mkF m 241 #[s0, s1, s2, .val (.int i3), .val (.ref kk), .val (.int (i3 - (48 : Int32))), .val (.int (0 : Int32)), .val (.int (0 : Int32)), s8, s9, s10, s11, s12, s13] [])) _
  refine XS.iloadN X3.here hx rfl (hb hby at_241) rfl ?_
  show Steps p.tables e below (T3.setTop (mkF m 242 #[s0, s1, s2, .val (.int i3), .val (.ref kk), .val (.int (i3 - (48 : Int32))), .val (.int (0 : Int32)), .val (.int (0 : Int32)), s8, s9, s10, s11, s12, s13] [(.int i3)])) _
  refine XS.bipush X3.here hx rfl (hb hby at_242) ?_
  show Steps p.tables e below (T3.setTop (mkF m 244 #[s0, s1, s2, .val (.int i3), .val (.ref kk), .val (.int (i3 - (48 : Int32))), .val (.int (0 : Int32)), .val (.int (0 : Int32)), s8, s9, s10, s11, s12, s13] [(.int (34 : Int32)), (.int i3)])) _
  refine XS.icmpYes X3.here hx rfl (pc0 := 244) (pc' := 251) rfl (hb hby at_244) rfl (feq hc244).2 (by decide) (by decide) ?_
  show Steps p.tables e below (T3.setTop (mkF m 251 #[s0, s1, s2, .val (.int i3), .val (.ref kk), .val (.int (i3 - (48 : Int32))), .val (.int (0 : Int32)), .val (.int (0 : Int32)), s8, s9, s10, s11, s12, s13] [])) _
  refine XS.iconst X3.here hx rfl (hb hby at_251) ?_
  show Steps p.tables e below (T3.setTop (mkF m 252 #[s0, s1, s2, .val (.int i3), .val (.ref kk), .val (.int (i3 - (48 : Int32))), .val (.int (0 : Int32)), .val (.int (0 : Int32)), s8, s9, s10, s11, s12, s13] [(.int (0 : Int32))])) _
  refine XS.istore X3.here hx rfl (hb hby at_252) rfl (l' := #[s0, s1, s2, .val (.int i3), .val (.ref kk), .val (.int (i3 - (48 : Int32))), .val (.int (0 : Int32)), .val (.int (0 : Int32)), .val (.int (0 : Int32)), s9, s10, s11, s12, s13]) (os0_252 hs8) ?_
  show Steps p.tables e below (T3.setTop (mkF m 254 #[s0, s1, s2, .val (.int i3), .val (.ref kk), .val (.int (i3 - (48 : Int32))), .val (.int (0 : Int32)), .val (.int (0 : Int32)), .val (.int (0 : Int32)), s9, s10, s11, s12, s13] [])) _
  refine XS.iloadN X3.here hx rfl (hb hby at_254) rfl ?_
  show Steps p.tables e below (T3.setTop (mkF m 255 #[s0, s1, s2, .val (.int i3), .val (.ref kk), .val (.int (i3 - (48 : Int32))), .val (.int (0 : Int32)), .val (.int (0 : Int32)), .val (.int (0 : Int32)), s9, s10, s11, s12, s13] [(.int i3)])) _
  refine XS.bipush X3.here hx rfl (hb hby at_255) ?_
  show Steps p.tables e below (T3.setTop (mkF m 257 #[s0, s1, s2, .val (.int i3), .val (.ref kk), .val (.int (i3 - (48 : Int32))), .val (.int (0 : Int32)), .val (.int (0 : Int32)), .val (.int (0 : Int32)), s9, s10, s11, s12, s13] [(.int (45 : Int32)), (.int i3)])) _
  refine XS.icmpNo X3.here hx rfl (hb hby at_257) rfl (feq hc257).1 ?_
  show Steps p.tables e below (T3.setTop (mkF m 260 #[s0, s1, s2, .val (.int i3), .val (.ref kk), .val (.int (i3 - (48 : Int32))), .val (.int (0 : Int32)), .val (.int (0 : Int32)), .val (.int (0 : Int32)), s9, s10, s11, s12, s13] [])) _
  refine XS.iload X3.here hx rfl (hb hby at_260) rfl ?_
  show Steps p.tables e below (T3.setTop (mkF m 262 #[s0, s1, s2, .val (.int i3), .val (.ref kk), .val (.int (i3 - (48 : Int32))), .val (.int (0 : Int32)), .val (.int (0 : Int32)), .val (.int (0 : Int32)), s9, s10, s11, s12, s13] [(.int (i3 - (48 : Int32)))])) _
  refine XS.ifNo X3.here hx rfl (hb hby at_262) rfl ((if0 _ _).trans (flt hc262).1) ?_
  show Steps p.tables e below (T3.setTop (mkF m 265 #[s0, s1, s2, .val (.int i3), .val (.ref kk), .val (.int (i3 - (48 : Int32))), .val (.int (0 : Int32)), .val (.int (0 : Int32)), .val (.int (0 : Int32)), s9, s10, s11, s12, s13] [])) _
  refine XS.iload X3.here hx rfl (hb hby at_265) rfl ?_
  show Steps p.tables e below (T3.setTop (mkF m 267 #[s0, s1, s2, .val (.int i3), .val (.ref kk), .val (.int (i3 - (48 : Int32))), .val (.int (0 : Int32)), .val (.int (0 : Int32)), .val (.int (0 : Int32)), s9, s10, s11, s12, s13] [(.int (i3 - (48 : Int32)))])) _
  refine XS.bipush X3.here hx rfl (hb hby at_267) ?_
  show Steps p.tables e below (T3.setTop (mkF m 269 #[s0, s1, s2, .val (.int i3), .val (.ref kk), .val (.int (i3 - (48 : Int32))), .val (.int (0 : Int32)), .val (.int (0 : Int32)), .val (.int (0 : Int32)), s9, s10, s11, s12, s13] [(.int (10 : Int32)), (.int (i3 - (48 : Int32)))])) _
  refine XS.icmpYes X3.here hx rfl (pc0 := 269) (pc' := 276) rfl (hb hby at_269) rfl (flt hc269).2.1 (by decide) (by decide) ?_
  show Steps p.tables e below (T3.setTop (mkF m 276 #[s0, s1, s2, .val (.int i3), .val (.ref kk), .val (.int (i3 - (48 : Int32))), .val (.int (0 : Int32)), .val (.int (0 : Int32)), .val (.int (0 : Int32)), s9, s10, s11, s12, s13] [])) _
  refine XS.iconst X3.here hx rfl (hb hby at_276) ?_
  show Steps p.tables e below (T3.setTop (mkF m 277 #[s0, s1, s2, .val (.int i3), .val (.ref kk), .val (.int (i3 - (48 : Int32))), .val (.int (0 : Int32)), .val (.int (0 : Int32)), .val (.int (0 : Int32)), s9, s10, s11, s12, s13] [(.int (0 : Int32))])) _
  refine XS.istore X3.here hx rfl (hb hby at_277) rfl (l' := #[s0, s1, s2, .val (.int i3), .val (.ref kk), .val (.int (i3 - (48 : Int32))), .val (.int (0 : Int32)), .val (.int (0 : Int32)), .val (.int (0 : Int32)), .val (.int (0 : Int32)), s10, s11, s12, s13]) (os0_277 hs9) ?_
  show Steps p.tables e below (T3.setTop (mkF m 279 #[s0, s1, s2, .val (.int i3), .val (.ref kk), .val (.int (i3 - (48 : Int32))), .val (.int (0 : Int32)), .val (.int (0 : Int32)), .val (.int (0 : Int32)), .val (.int (0 : Int32)), s10, s11, s12, s13] [])) _
  refine XS.iloadN X3.here hx rfl (hb hby at_279) rfl ?_
  show Steps p.tables e below (T3.setTop (mkF m 280 #[s0, s1, s2, .val (.int i3), .val (.ref kk), .val (.int (i3 - (48 : Int32))), .val (.int (0 : Int32)), .val (.int (0 : Int32)), .val (.int (0 : Int32)), .val (.int (0 : Int32)), s10, s11, s12, s13] [(.int i3)])) _
  refine XS.bipush X3.here hx rfl (hb hby at_280) ?_
  show Steps p.tables e below (T3.setTop (mkF m 282 #[s0, s1, s2, .val (.int i3), .val (.ref kk), .val (.int (i3 - (48 : Int32))), .val (.int (0 : Int32)), .val (.int (0 : Int32)), .val (.int (0 : Int32)), .val (.int (0 : Int32)), s10, s11, s12, s13] [(.int (116 : Int32)), (.int i3)])) _
  refine XS.icmpYes X3.here hx rfl (pc0 := 282) (pc' := 289) rfl (hb hby at_282) rfl (feq hc282).2 (by decide) (by decide) ?_
  show Steps p.tables e below (T3.setTop (mkF m 289 #[s0, s1, s2, .val (.int i3), .val (.ref kk), .val (.int (i3 - (48 : Int32))), .val (.int (0 : Int32)), .val (.int (0 : Int32)), .val (.int (0 : Int32)), .val (.int (0 : Int32)), s10, s11, s12, s13] [])) _
  refine XS.iconst X3.here hx rfl (hb hby at_289) ?_
  show Steps p.tables e below (T3.setTop (mkF m 290 #[s0, s1, s2, .val (.int i3), .val (.ref kk), .val (.int (i3 - (48 : Int32))), .val (.int (0 : Int32)), .val (.int (0 : Int32)), .val (.int (0 : Int32)), .val (.int (0 : Int32)), s10, s11, s12, s13] [(.int (0 : Int32))])) _
  refine XS.istore X3.here hx rfl (hb hby at_290) rfl (l' := #[s0, s1, s2, .val (.int i3), .val (.ref kk), .val (.int (i3 - (48 : Int32))), .val (.int (0 : Int32)), .val (.int (0 : Int32)), .val (.int (0 : Int32)), .val (.int (0 : Int32)), .val (.int (0 : Int32)), s11, s12, s13]) (os0_290 hs10) ?_
  show Steps p.tables e below (T3.setTop (mkF m 292 #[s0, s1, s2, .val (.int i3), .val (.ref kk), .val (.int (i3 - (48 : Int32))), .val (.int (0 : Int32)), .val (.int (0 : Int32)), .val (.int (0 : Int32)), .val (.int (0 : Int32)), .val (.int (0 : Int32)), s11, s12, s13] [])) _
  refine XS.iloadN X3.here hx rfl (hb hby at_292) rfl ?_
  show Steps p.tables e below (T3.setTop (mkF m 293 #[s0, s1, s2, .val (.int i3), .val (.ref kk), .val (.int (i3 - (48 : Int32))), .val (.int (0 : Int32)), .val (.int (0 : Int32)), .val (.int (0 : Int32)), .val (.int (0 : Int32)), .val (.int (0 : Int32)), s11, s12, s13] [(.int i3)])) _
  refine XS.bipush X3.here hx rfl (hb hby at_293) ?_
  show Steps p.tables e below (T3.setTop (mkF m 295 #[s0, s1, s2, .val (.int i3), .val (.ref kk), .val (.int (i3 - (48 : Int32))), .val (.int (0 : Int32)), .val (.int (0 : Int32)), .val (.int (0 : Int32)), .val (.int (0 : Int32)), .val (.int (0 : Int32)), s11, s12, s13] [(.int (102 : Int32)), (.int i3)])) _
  refine XS.icmpYes X3.here hx rfl (pc0 := 295) (pc' := 302) rfl (hb hby at_295) rfl (feq hc295).2 (by decide) (by decide) ?_
  show Steps p.tables e below (T3.setTop (mkF m 302 #[s0, s1, s2, .val (.int i3), .val (.ref kk), .val (.int (i3 - (48 : Int32))), .val (.int (0 : Int32)), .val (.int (0 : Int32)), .val (.int (0 : Int32)), .val (.int (0 : Int32)), .val (.int (0 : Int32)), s11, s12, s13] [])) _
  refine XS.iconst X3.here hx rfl (hb hby at_302) ?_
  show Steps p.tables e below (T3.setTop (mkF m 303 #[s0, s1, s2, .val (.int i3), .val (.ref kk), .val (.int (i3 - (48 : Int32))), .val (.int (0 : Int32)), .val (.int (0 : Int32)), .val (.int (0 : Int32)), .val (.int (0 : Int32)), .val (.int (0 : Int32)), s11, s12, s13] [(.int (0 : Int32))])) _
  refine XS.istore X3.here hx rfl (hb hby at_303) rfl (l' := #[s0, s1, s2, .val (.int i3), .val (.ref kk), .val (.int (i3 - (48 : Int32))), .val (.int (0 : Int32)), .val (.int (0 : Int32)), .val (.int (0 : Int32)), .val (.int (0 : Int32)), .val (.int (0 : Int32)), .val (.int (0 : Int32)), s12, s13]) (os0_303 hs11) ?_
  show Steps p.tables e below (T3.setTop (mkF m 305 #[s0, s1, s2, .val (.int i3), .val (.ref kk), .val (.int (i3 - (48 : Int32))), .val (.int (0 : Int32)), .val (.int (0 : Int32)), .val (.int (0 : Int32)), .val (.int (0 : Int32)), .val (.int (0 : Int32)), .val (.int (0 : Int32)), s12, s13] [])) _
  refine XS.iloadN X3.here hx rfl (hb hby at_305) rfl ?_
  show Steps p.tables e below (T3.setTop (mkF m 306 #[s0, s1, s2, .val (.int i3), .val (.ref kk), .val (.int (i3 - (48 : Int32))), .val (.int (0 : Int32)), .val (.int (0 : Int32)), .val (.int (0 : Int32)), .val (.int (0 : Int32)), .val (.int (0 : Int32)), .val (.int (0 : Int32)), s12, s13] [(.int i3)])) _
  refine XS.bipush X3.here hx rfl (hb hby at_306) ?_
  show Steps p.tables e below (T3.setTop (mkF m 308 #[s0, s1, s2, .val (.int i3), .val (.ref kk), .val (.int (i3 - (48 : Int32))), .val (.int (0 : Int32)), .val (.int (0 : Int32)), .val (.int (0 : Int32)), .val (.int (0 : Int32)), .val (.int (0 : Int32)), .val (.int (0 : Int32)), s12, s13] [(.int (110 : Int32)), (.int i3)])) _
  refine XS.icmpNo X3.here hx rfl (hb hby at_308) rfl (teq hc308).2 ?_
  show Steps p.tables e below (T3.setTop (mkF m 311 #[s0, s1, s2, .val (.int i3), .val (.ref kk), .val (.int (i3 - (48 : Int32))), .val (.int (0 : Int32)), .val (.int (0 : Int32)), .val (.int (0 : Int32)), .val (.int (0 : Int32)), .val (.int (0 : Int32)), .val (.int (0 : Int32)), s12, s13] [])) _
  refine XS.iconst X3.here hx rfl (hb hby at_311) ?_
  show Steps p.tables e below (T3.setTop (mkF m 312 #[s0, s1, s2, .val (.int i3), .val (.ref kk), .val (.int (i3 - (48 : Int32))), .val (.int (0 : Int32)), .val (.int (0 : Int32)), .val (.int (0 : Int32)), .val (.int (0 : Int32)), .val (.int (0 : Int32)), .val (.int (0 : Int32)), s12, s13] [(.int (1 : Int32))])) _
  refine XS.goto X3.here hx rfl (pc0 := 312) (pc' := 316) rfl (hb hby at_312) (by decide) (by decide) ?_
  show Steps p.tables e below (T3.setTop (mkF m 316 #[s0, s1, s2, .val (.int i3), .val (.ref kk), .val (.int (i3 - (48 : Int32))), .val (.int (0 : Int32)), .val (.int (0 : Int32)), .val (.int (0 : Int32)), .val (.int (0 : Int32)), .val (.int (0 : Int32)), .val (.int (0 : Int32)), s12, s13] [(.int (1 : Int32))])) _
  refine XS.istore X3.here hx rfl (hb hby at_316) rfl (l' := #[s0, s1, s2, .val (.int i3), .val (.ref kk), .val (.int (i3 - (48 : Int32))), .val (.int (0 : Int32)), .val (.int (0 : Int32)), .val (.int (0 : Int32)), .val (.int (0 : Int32)), .val (.int (0 : Int32)), .val (.int (0 : Int32)), .val (.int (1 : Int32)), s13]) (os0_316 hs12) ?_
  show Steps p.tables e below (T3.setTop (mkF m 318 #[s0, s1, s2, .val (.int i3), .val (.ref kk), .val (.int (i3 - (48 : Int32))), .val (.int (0 : Int32)), .val (.int (0 : Int32)), .val (.int (0 : Int32)), .val (.int (0 : Int32)), .val (.int (0 : Int32)), .val (.int (0 : Int32)), .val (.int (1 : Int32)), s13] [])) _
  refine XS.iload X3.here hx rfl (hb hby at_318) rfl ?_
  show Steps p.tables e below (T3.setTop (mkF m 320 #[s0, s1, s2, .val (.int i3), .val (.ref kk), .val (.int (i3 - (48 : Int32))), .val (.int (0 : Int32)), .val (.int (0 : Int32)), .val (.int (0 : Int32)), .val (.int (0 : Int32)), .val (.int (0 : Int32)), .val (.int (0 : Int32)), .val (.int (1 : Int32)), s13] [(.int (0 : Int32))])) _
  refine XS.ifNo X3.here hx rfl (hb hby at_320) rfl ((if0 _ _).trans (teq (rfl : (0 : Int32) = (0 : Int32))).2) ?_
  show Steps p.tables e below (T3.setTop (mkF m 323 #[s0, s1, s2, .val (.int i3), .val (.ref kk), .val (.int (i3 - (48 : Int32))), .val (.int (0 : Int32)), .val (.int (0 : Int32)), .val (.int (0 : Int32)), .val (.int (0 : Int32)), .val (.int (0 : Int32)), .val (.int (0 : Int32)), .val (.int (1 : Int32)), s13] [])) _
  refine XS.iload X3.here hx rfl (hb hby at_323) rfl ?_
  show Steps p.tables e below (T3.setTop (mkF m 325 #[s0, s1, s2, .val (.int i3), .val (.ref kk), .val (.int (i3 - (48 : Int32))), .val (.int (0 : Int32)), .val (.int (0 : Int32)), .val (.int (0 : Int32)), .val (.int (0 : Int32)), .val (.int (0 : Int32)), .val (.int (0 : Int32)), .val (.int (1 : Int32)), s13] [(.int (0 : Int32))])) _
  refine XS.ifNo X3.here hx rfl (hb hby at_325) rfl ((if0 _ _).trans (teq (rfl : (0 : Int32) = (0 : Int32))).2) ?_
  show Steps p.tables e below (T3.setTop (mkF m 328 #[s0, s1, s2, .val (.int i3), .val (.ref kk), .val (.int (i3 - (48 : Int32))), .val (.int (0 : Int32)), .val (.int (0 : Int32)), .val (.int (0 : Int32)), .val (.int (0 : Int32)), .val (.int (0 : Int32)), .val (.int (0 : Int32)), .val (.int (1 : Int32)), s13] [])) _
  refine XS.iload X3.here hx rfl (hb hby at_328) rfl ?_
  show Steps p.tables e below (T3.setTop (mkF m 330 #[s0, s1, s2, .val (.int i3), .val (.ref kk), .val (.int (i3 - (48 : Int32))), .val (.int (0 : Int32)), .val (.int (0 : Int32)), .val (.int (0 : Int32)), .val (.int (0 : Int32)), .val (.int (0 : Int32)), .val (.int (0 : Int32)), .val (.int (1 : Int32)), s13] [(.int (0 : Int32))])) _
  refine XS.ifNo X3.here hx rfl (hb hby at_330) rfl ((if0 _ _).trans (teq (rfl : (0 : Int32) = (0 : Int32))).2) ?_
  show Steps p.tables e below (T3.setTop (mkF m 333 #[s0, s1, s2, .val (.int i3), .val (.ref kk), .val (.int (i3 - (48 : Int32))), .val (.int (0 : Int32)), .val (.int (0 : Int32)), .val (.int (0 : Int32)), .val (.int (0 : Int32)), .val (.int (0 : Int32)), .val (.int (0 : Int32)), .val (.int (1 : Int32)), s13] [])) _
  refine XS.iload X3.here hx rfl (hb hby at_333) rfl ?_
  show Steps p.tables e below (T3.setTop (mkF m 335 #[s0, s1, s2, .val (.int i3), .val (.ref kk), .val (.int (i3 - (48 : Int32))), .val (.int (0 : Int32)), .val (.int (0 : Int32)), .val (.int (0 : Int32)), .val (.int (0 : Int32)), .val (.int (0 : Int32)), .val (.int (0 : Int32)), .val (.int (1 : Int32)), s13] [(.int (0 : Int32))])) _
  refine XS.ifNo X3.here hx rfl (hb hby at_335) rfl ((if0 _ _).trans (teq (rfl : (0 : Int32) = (0 : Int32))).2) ?_
  show Steps p.tables e below (T3.setTop (mkF m 338 #[s0, s1, s2, .val (.int i3), .val (.ref kk), .val (.int (i3 - (48 : Int32))), .val (.int (0 : Int32)), .val (.int (0 : Int32)), .val (.int (0 : Int32)), .val (.int (0 : Int32)), .val (.int (0 : Int32)), .val (.int (0 : Int32)), .val (.int (1 : Int32)), s13] [])) _
  refine XS.iload X3.here hx rfl (hb hby at_338) rfl ?_
  show Steps p.tables e below (T3.setTop (mkF m 340 #[s0, s1, s2, .val (.int i3), .val (.ref kk), .val (.int (i3 - (48 : Int32))), .val (.int (0 : Int32)), .val (.int (0 : Int32)), .val (.int (0 : Int32)), .val (.int (0 : Int32)), .val (.int (0 : Int32)), .val (.int (0 : Int32)), .val (.int (1 : Int32)), s13] [(.int (0 : Int32))])) _
  refine XS.ifNo X3.here hx rfl (hb hby at_340) rfl ((if0 _ _).trans (teq (rfl : (0 : Int32) = (0 : Int32))).2) ?_
  show Steps p.tables e below (T3.setTop (mkF m 343 #[s0, s1, s2, .val (.int i3), .val (.ref kk), .val (.int (i3 - (48 : Int32))), .val (.int (0 : Int32)), .val (.int (0 : Int32)), .val (.int (0 : Int32)), .val (.int (0 : Int32)), .val (.int (0 : Int32)), .val (.int (0 : Int32)), .val (.int (1 : Int32)), s13] [])) _
  refine XS.iload X3.here hx rfl (hb hby at_343) rfl ?_
  show Steps p.tables e below (T3.setTop (mkF m 345 #[s0, s1, s2, .val (.int i3), .val (.ref kk), .val (.int (i3 - (48 : Int32))), .val (.int (0 : Int32)), .val (.int (0 : Int32)), .val (.int (0 : Int32)), .val (.int (0 : Int32)), .val (.int (0 : Int32)), .val (.int (0 : Int32)), .val (.int (1 : Int32)), s13] [(.int (0 : Int32))])) _
  refine XS.ifNo X3.here hx rfl (hb hby at_345) rfl ((if0 _ _).trans (teq (rfl : (0 : Int32) = (0 : Int32))).2) ?_
  show Steps p.tables e below (T3.setTop (mkF m 348 #[s0, s1, s2, .val (.int i3), .val (.ref kk), .val (.int (i3 - (48 : Int32))), .val (.int (0 : Int32)), .val (.int (0 : Int32)), .val (.int (0 : Int32)), .val (.int (0 : Int32)), .val (.int (0 : Int32)), .val (.int (0 : Int32)), .val (.int (1 : Int32)), s13] [])) _
  refine XS.iload X3.here hx rfl (hb hby at_348) rfl ?_
  show Steps p.tables e below (T3.setTop (mkF m 350 #[s0, s1, s2, .val (.int i3), .val (.ref kk), .val (.int (i3 - (48 : Int32))), .val (.int (0 : Int32)), .val (.int (0 : Int32)), .val (.int (0 : Int32)), .val (.int (0 : Int32)), .val (.int (0 : Int32)), .val (.int (0 : Int32)), .val (.int (1 : Int32)), s13] [(.int (1 : Int32))])) _
  refine XS.ifYes X3.here hx rfl (pc0 := 350) (pc' := 357) rfl (hb hby at_350) rfl ((if0 _ _).trans (feq hc350).2) (by decide) (by decide) ?_
  show Steps p.tables e below (T3.setTop (mkF m 357 #[s0, s1, s2, .val (.int i3), .val (.ref kk), .val (.int (i3 - (48 : Int32))), .val (.int (0 : Int32)), .val (.int (0 : Int32)), .val (.int (0 : Int32)), .val (.int (0 : Int32)), .val (.int (0 : Int32)), .val (.int (0 : Int32)), .val (.int (1 : Int32)), s13] [])) _
  refine XS.iconst X3.here hx rfl (hb hby at_357) ?_
  show Steps p.tables e below (T3.setTop (mkF m 358 #[s0, s1, s2, .val (.int i3), .val (.ref kk), .val (.int (i3 - (48 : Int32))), .val (.int (0 : Int32)), .val (.int (0 : Int32)), .val (.int (0 : Int32)), .val (.int (0 : Int32)), .val (.int (0 : Int32)), .val (.int (0 : Int32)), .val (.int (1 : Int32)), s13] [(.int (0 : Int32))])) _
  refine XS.istore X3.here hx rfl (hb hby at_358) rfl (l' := #[s0, s1, s2, .val (.int i3), .val (.ref kk), .val (.int (i3 - (48 : Int32))), .val (.int (0 : Int32)), .val (.int (0 : Int32)), .val (.int (0 : Int32)), .val (.int (0 : Int32)), .val (.int (0 : Int32)), .val (.int (0 : Int32)), .val (.int (1 : Int32)), .val (.int (0 : Int32))]) (os0_358 hs13) ?_
  show Steps p.tables e below (T3.setTop (mkF m 360 #[s0, s1, s2, .val (.int i3), .val (.ref kk), .val (.int (i3 - (48 : Int32))), .val (.int (0 : Int32)), .val (.int (0 : Int32)), .val (.int (0 : Int32)), .val (.int (0 : Int32)), .val (.int (0 : Int32)), .val (.int (0 : Int32)), .val (.int (1 : Int32)), .val (.int (0 : Int32))] [])) _
  refine XS.aload X3.here hx rfl (hb hby at_360) rfl rfl ?_
  show Steps p.tables e below (T3.setTop (mkF m 362 #[s0, s1, s2, .val (.int i3), .val (.ref kk), .val (.int (i3 - (48 : Int32))), .val (.int (0 : Int32)), .val (.int (0 : Int32)), .val (.int (0 : Int32)), .val (.int (0 : Int32)), .val (.int (0 : Int32)), .val (.int (0 : Int32)), .val (.int (1 : Int32)), .val (.int (0 : Int32))] [(.ref kk)])) _
  refine st5 _ ?_
  show Steps p.tables e below (T5.setTop (mkF m 365 #[s0, s1, s2, .val (.int i3), .val (.ref kk), .val (.int (i3 - (48 : Int32))), .val (.int (0 : Int32)), .val (.int (0 : Int32)), .val (.int (0 : Int32)), .val (.int (0 : Int32)), .val (.int (0 : Int32)), .val (.int (0 : Int32)), .val (.int (1 : Int32)), .val (.int (0 : Int32))] [(.ref w4), (.ref kk)])) _
  refine Jvm.RoadKit.acmp (g := (mkF m 365 #[s0, s1, s2, .val (.int i3), .val (.ref kk), .val (.int (i3 - (48 : Int32))), .val (.int (0 : Int32)), .val (.int (0 : Int32)), .val (.int (0 : Int32)), .val (.int (0 : Int32)), .val (.int (0 : Int32)), .val (.int (0 : Int32)), .val (.int (1 : Int32)), .val (.int (0 : Int32))] [(.ref w4), (.ref kk)])) X5 hx rfl rfl rfl (pc0 := 365) (pc' := 372) (same := false) rfl (hb hby at_365) rfl (decide_eq_false fun q => ha365 (Value.ref.inj q)) (by decide) (by decide) ?_
  show Steps p.tables e below (T5.setTop (mkF m 372 #[s0, s1, s2, .val (.int i3), .val (.ref kk), .val (.int (i3 - (48 : Int32))), .val (.int (0 : Int32)), .val (.int (0 : Int32)), .val (.int (0 : Int32)), .val (.int (0 : Int32)), .val (.int (0 : Int32)), .val (.int (0 : Int32)), .val (.int (1 : Int32)), .val (.int (0 : Int32))] [])) _
  refine XS.iconst X5.here hx rfl (hb hby at_372) ?_
  show Steps p.tables e below (T5.setTop (mkF m 373 #[s0, s1, s2, .val (.int i3), .val (.ref kk), .val (.int (i3 - (48 : Int32))), .val (.int (0 : Int32)), .val (.int (0 : Int32)), .val (.int (0 : Int32)), .val (.int (0 : Int32)), .val (.int (0 : Int32)), .val (.int (0 : Int32)), .val (.int (1 : Int32)), .val (.int (0 : Int32))] [(.int (0 : Int32))])) _
  refine XS.iload X5.here hx rfl (hb hby at_373) rfl ?_
  show Steps p.tables e below (T5.setTop (mkF m 375 #[s0, s1, s2, .val (.int i3), .val (.ref kk), .val (.int (i3 - (48 : Int32))), .val (.int (0 : Int32)), .val (.int (0 : Int32)), .val (.int (0 : Int32)), .val (.int (0 : Int32)), .val (.int (0 : Int32)), .val (.int (0 : Int32)), .val (.int (1 : Int32)), .val (.int (0 : Int32))] [(.int (0 : Int32)), (.int (0 : Int32))])) _
  refine XS.icmpNo X5.here hx rfl (hb hby at_375) rfl (teq (rfl : (0 : Int32) = (0 : Int32))).2 ?_
  show Steps p.tables e below (T5.setTop (mkF m 378 #[s0, s1, s2, .val (.int i3), .val (.ref kk), .val (.int (i3 - (48 : Int32))), .val (.int (0 : Int32)), .val (.int (0 : Int32)), .val (.int (0 : Int32)), .val (.int (0 : Int32)), .val (.int (0 : Int32)), .val (.int (0 : Int32)), .val (.int (1 : Int32)), .val (.int (0 : Int32))] [])) _
  refine XS.aload X5.here hx rfl (hb hby at_378) rfl rfl ?_
  show Steps p.tables e below (T5.setTop (mkF m 380 #[s0, s1, s2, .val (.int i3), .val (.ref kk), .val (.int (i3 - (48 : Int32))), .val (.int (0 : Int32)), .val (.int (0 : Int32)), .val (.int (0 : Int32)), .val (.int (0 : Int32)), .val (.int (0 : Int32)), .val (.int (0 : Int32)), .val (.int (1 : Int32)), .val (.int (0 : Int32))] [(.ref kk)])) _
  refine st7 _ ?_
  show Steps p.tables e below (T7.setTop (mkF m 383 #[s0, s1, s2, .val (.int i3), .val (.ref kk), .val (.int (i3 - (48 : Int32))), .val (.int (0 : Int32)), .val (.int (0 : Int32)), .val (.int (0 : Int32)), .val (.int (0 : Int32)), .val (.int (0 : Int32)), .val (.int (0 : Int32)), .val (.int (1 : Int32)), .val (.int (0 : Int32))] [(.ref w6), (.ref kk)])) _
  refine Jvm.RoadKit.acmp (g := (mkF m 383 #[s0, s1, s2, .val (.int i3), .val (.ref kk), .val (.int (i3 - (48 : Int32))), .val (.int (0 : Int32)), .val (.int (0 : Int32)), .val (.int (0 : Int32)), .val (.int (0 : Int32)), .val (.int (0 : Int32)), .val (.int (0 : Int32)), .val (.int (1 : Int32)), .val (.int (0 : Int32))] [(.ref w6), (.ref kk)])) X7 hx rfl rfl rfl (pc0 := 383) (pc' := 390) (same := false) rfl (hb hby at_383) rfl (decide_eq_false fun q => ha383 (Value.ref.inj q)) (by decide) (by decide) ?_
  show Steps p.tables e below (T7.setTop (mkF m 390 #[s0, s1, s2, .val (.int i3), .val (.ref kk), .val (.int (i3 - (48 : Int32))), .val (.int (0 : Int32)), .val (.int (0 : Int32)), .val (.int (0 : Int32)), .val (.int (0 : Int32)), .val (.int (0 : Int32)), .val (.int (0 : Int32)), .val (.int (1 : Int32)), .val (.int (0 : Int32))] [])) _
  refine XS.iconst X7.here hx rfl (hb hby at_390) ?_
  show Steps p.tables e below (T7.setTop (mkF m 391 #[s0, s1, s2, .val (.int i3), .val (.ref kk), .val (.int (i3 - (48 : Int32))), .val (.int (0 : Int32)), .val (.int (0 : Int32)), .val (.int (0 : Int32)), .val (.int (0 : Int32)), .val (.int (0 : Int32)), .val (.int (0 : Int32)), .val (.int (1 : Int32)), .val (.int (0 : Int32))] [(.int (0 : Int32))])) _
  refine XS.iload X7.here hx rfl (hb hby at_391) rfl ?_
  show Steps p.tables e below (T7.setTop (mkF m 393 #[s0, s1, s2, .val (.int i3), .val (.ref kk), .val (.int (i3 - (48 : Int32))), .val (.int (0 : Int32)), .val (.int (0 : Int32)), .val (.int (0 : Int32)), .val (.int (0 : Int32)), .val (.int (0 : Int32)), .val (.int (0 : Int32)), .val (.int (1 : Int32)), .val (.int (0 : Int32))] [(.int (0 : Int32)), (.int (0 : Int32))])) _
  refine XS.icmpNo X7.here hx rfl (hb hby at_393) rfl (teq (rfl : (0 : Int32) = (0 : Int32))).2 ?_
  show Steps p.tables e below (T7.setTop (mkF m 396 #[s0, s1, s2, .val (.int i3), .val (.ref kk), .val (.int (i3 - (48 : Int32))), .val (.int (0 : Int32)), .val (.int (0 : Int32)), .val (.int (0 : Int32)), .val (.int (0 : Int32)), .val (.int (0 : Int32)), .val (.int (0 : Int32)), .val (.int (1 : Int32)), .val (.int (0 : Int32))] [])) _
  refine XS.aload X7.here hx rfl (hb hby at_396) rfl rfl ?_
  show Steps p.tables e below (T7.setTop (mkF m 398 #[s0, s1, s2, .val (.int i3), .val (.ref kk), .val (.int (i3 - (48 : Int32))), .val (.int (0 : Int32)), .val (.int (0 : Int32)), .val (.int (0 : Int32)), .val (.int (0 : Int32)), .val (.int (0 : Int32)), .val (.int (0 : Int32)), .val (.int (1 : Int32)), .val (.int (0 : Int32))] [(.ref kk)])) _
  refine st9 _ ?_
  show Steps p.tables e below (T9.setTop (mkF m 401 #[s0, s1, s2, .val (.int i3), .val (.ref kk), .val (.int (i3 - (48 : Int32))), .val (.int (0 : Int32)), .val (.int (0 : Int32)), .val (.int (0 : Int32)), .val (.int (0 : Int32)), .val (.int (0 : Int32)), .val (.int (0 : Int32)), .val (.int (1 : Int32)), .val (.int (0 : Int32))] [(.ref w8), (.ref kk)])) _
  refine Jvm.RoadKit.acmp (g := (mkF m 401 #[s0, s1, s2, .val (.int i3), .val (.ref kk), .val (.int (i3 - (48 : Int32))), .val (.int (0 : Int32)), .val (.int (0 : Int32)), .val (.int (0 : Int32)), .val (.int (0 : Int32)), .val (.int (0 : Int32)), .val (.int (0 : Int32)), .val (.int (1 : Int32)), .val (.int (0 : Int32))] [(.ref w8), (.ref kk)])) X9 hx rfl rfl rfl (pc0 := 401) (pc' := 408) (same := false) rfl (hb hby at_401) rfl (decide_eq_false fun q => ha401 (Value.ref.inj q)) (by decide) (by decide) ?_
  show Steps p.tables e below (T9.setTop (mkF m 408 #[s0, s1, s2, .val (.int i3), .val (.ref kk), .val (.int (i3 - (48 : Int32))), .val (.int (0 : Int32)), .val (.int (0 : Int32)), .val (.int (0 : Int32)), .val (.int (0 : Int32)), .val (.int (0 : Int32)), .val (.int (0 : Int32)), .val (.int (1 : Int32)), .val (.int (0 : Int32))] [])) _
  refine XS.iconst X9.here hx rfl (hb hby at_408) ?_
  show Steps p.tables e below (T9.setTop (mkF m 409 #[s0, s1, s2, .val (.int i3), .val (.ref kk), .val (.int (i3 - (48 : Int32))), .val (.int (0 : Int32)), .val (.int (0 : Int32)), .val (.int (0 : Int32)), .val (.int (0 : Int32)), .val (.int (0 : Int32)), .val (.int (0 : Int32)), .val (.int (1 : Int32)), .val (.int (0 : Int32))] [(.int (0 : Int32))])) _
  refine XS.iload X9.here hx rfl (hb hby at_409) rfl ?_
  show Steps p.tables e below (T9.setTop (mkF m 411 #[s0, s1, s2, .val (.int i3), .val (.ref kk), .val (.int (i3 - (48 : Int32))), .val (.int (0 : Int32)), .val (.int (0 : Int32)), .val (.int (0 : Int32)), .val (.int (0 : Int32)), .val (.int (0 : Int32)), .val (.int (0 : Int32)), .val (.int (1 : Int32)), .val (.int (0 : Int32))] [(.int (0 : Int32)), (.int (0 : Int32))])) _
  refine XS.icmpNo X9.here hx rfl (hb hby at_411) rfl (teq (rfl : (0 : Int32) = (0 : Int32))).2 ?_
  show Steps p.tables e below (T9.setTop (mkF m 414 #[s0, s1, s2, .val (.int i3), .val (.ref kk), .val (.int (i3 - (48 : Int32))), .val (.int (0 : Int32)), .val (.int (0 : Int32)), .val (.int (0 : Int32)), .val (.int (0 : Int32)), .val (.int (0 : Int32)), .val (.int (0 : Int32)), .val (.int (1 : Int32)), .val (.int (0 : Int32))] [])) _
  refine XS.aload X9.here hx rfl (hb hby at_414) rfl rfl ?_
  show Steps p.tables e below (T9.setTop (mkF m 416 #[s0, s1, s2, .val (.int i3), .val (.ref kk), .val (.int (i3 - (48 : Int32))), .val (.int (0 : Int32)), .val (.int (0 : Int32)), .val (.int (0 : Int32)), .val (.int (0 : Int32)), .val (.int (0 : Int32)), .val (.int (0 : Int32)), .val (.int (1 : Int32)), .val (.int (0 : Int32))] [(.ref kk)])) _
  refine st11 _ ?_
  show Steps p.tables e below (T11.setTop (mkF m 419 #[s0, s1, s2, .val (.int i3), .val (.ref kk), .val (.int (i3 - (48 : Int32))), .val (.int (0 : Int32)), .val (.int (0 : Int32)), .val (.int (0 : Int32)), .val (.int (0 : Int32)), .val (.int (0 : Int32)), .val (.int (0 : Int32)), .val (.int (1 : Int32)), .val (.int (0 : Int32))] [(.ref w10), (.ref kk)])) _
  refine Jvm.RoadKit.acmp (g := (mkF m 419 #[s0, s1, s2, .val (.int i3), .val (.ref kk), .val (.int (i3 - (48 : Int32))), .val (.int (0 : Int32)), .val (.int (0 : Int32)), .val (.int (0 : Int32)), .val (.int (0 : Int32)), .val (.int (0 : Int32)), .val (.int (0 : Int32)), .val (.int (1 : Int32)), .val (.int (0 : Int32))] [(.ref w10), (.ref kk)])) X11 hx rfl rfl rfl (pc0 := 419) (pc' := 426) (same := false) rfl (hb hby at_419) rfl (decide_eq_false fun q => ha419 (Value.ref.inj q)) (by decide) (by decide) ?_
  show Steps p.tables e below (T11.setTop (mkF m 426 #[s0, s1, s2, .val (.int i3), .val (.ref kk), .val (.int (i3 - (48 : Int32))), .val (.int (0 : Int32)), .val (.int (0 : Int32)), .val (.int (0 : Int32)), .val (.int (0 : Int32)), .val (.int (0 : Int32)), .val (.int (0 : Int32)), .val (.int (1 : Int32)), .val (.int (0 : Int32))] [])) _
  refine XS.iconst X11.here hx rfl (hb hby at_426) ?_
  show Steps p.tables e below (T11.setTop (mkF m 427 #[s0, s1, s2, .val (.int i3), .val (.ref kk), .val (.int (i3 - (48 : Int32))), .val (.int (0 : Int32)), .val (.int (0 : Int32)), .val (.int (0 : Int32)), .val (.int (0 : Int32)), .val (.int (0 : Int32)), .val (.int (0 : Int32)), .val (.int (1 : Int32)), .val (.int (0 : Int32))] [(.int (0 : Int32))])) _
  refine XS.iload X11.here hx rfl (hb hby at_427) rfl ?_
  show Steps p.tables e below (T11.setTop (mkF m 429 #[s0, s1, s2, .val (.int i3), .val (.ref kk), .val (.int (i3 - (48 : Int32))), .val (.int (0 : Int32)), .val (.int (0 : Int32)), .val (.int (0 : Int32)), .val (.int (0 : Int32)), .val (.int (0 : Int32)), .val (.int (0 : Int32)), .val (.int (1 : Int32)), .val (.int (0 : Int32))] [(.int (0 : Int32)), (.int (0 : Int32))])) _
  refine XS.icmpNo X11.here hx rfl (hb hby at_429) rfl (teq (rfl : (0 : Int32) = (0 : Int32))).2 ?_
  show Steps p.tables e below (T11.setTop (mkF m 432 #[s0, s1, s2, .val (.int i3), .val (.ref kk), .val (.int (i3 - (48 : Int32))), .val (.int (0 : Int32)), .val (.int (0 : Int32)), .val (.int (0 : Int32)), .val (.int (0 : Int32)), .val (.int (0 : Int32)), .val (.int (0 : Int32)), .val (.int (1 : Int32)), .val (.int (0 : Int32))] [])) _
  refine XS.aload X11.here hx rfl (hb hby at_432) rfl rfl ?_
  show Steps p.tables e below (T11.setTop (mkF m 434 #[s0, s1, s2, .val (.int i3), .val (.ref kk), .val (.int (i3 - (48 : Int32))), .val (.int (0 : Int32)), .val (.int (0 : Int32)), .val (.int (0 : Int32)), .val (.int (0 : Int32)), .val (.int (0 : Int32)), .val (.int (0 : Int32)), .val (.int (1 : Int32)), .val (.int (0 : Int32))] [(.ref kk)])) _
  refine st13 _ ?_
  show Steps p.tables e below (T13.setTop (mkF m 437 #[s0, s1, s2, .val (.int i3), .val (.ref kk), .val (.int (i3 - (48 : Int32))), .val (.int (0 : Int32)), .val (.int (0 : Int32)), .val (.int (0 : Int32)), .val (.int (0 : Int32)), .val (.int (0 : Int32)), .val (.int (0 : Int32)), .val (.int (1 : Int32)), .val (.int (0 : Int32))] [(.ref w12), (.ref kk)])) _
  refine Jvm.RoadKit.acmp (g := (mkF m 437 #[s0, s1, s2, .val (.int i3), .val (.ref kk), .val (.int (i3 - (48 : Int32))), .val (.int (0 : Int32)), .val (.int (0 : Int32)), .val (.int (0 : Int32)), .val (.int (0 : Int32)), .val (.int (0 : Int32)), .val (.int (0 : Int32)), .val (.int (1 : Int32)), .val (.int (0 : Int32))] [(.ref w12), (.ref kk)])) X13 hx rfl rfl rfl (pc0 := 437) (pc' := 444) (same := false) rfl (hb hby at_437) rfl (decide_eq_false fun q => ha437 (Value.ref.inj q)) (by decide) (by decide) ?_
  show Steps p.tables e below (T13.setTop (mkF m 444 #[s0, s1, s2, .val (.int i3), .val (.ref kk), .val (.int (i3 - (48 : Int32))), .val (.int (0 : Int32)), .val (.int (0 : Int32)), .val (.int (0 : Int32)), .val (.int (0 : Int32)), .val (.int (0 : Int32)), .val (.int (0 : Int32)), .val (.int (1 : Int32)), .val (.int (0 : Int32))] [])) _
  refine XS.iconst X13.here hx rfl (hb hby at_444) ?_
  show Steps p.tables e below (T13.setTop (mkF m 445 #[s0, s1, s2, .val (.int i3), .val (.ref kk), .val (.int (i3 - (48 : Int32))), .val (.int (0 : Int32)), .val (.int (0 : Int32)), .val (.int (0 : Int32)), .val (.int (0 : Int32)), .val (.int (0 : Int32)), .val (.int (0 : Int32)), .val (.int (1 : Int32)), .val (.int (0 : Int32))] [(.int (0 : Int32))])) _
  refine XS.iload X13.here hx rfl (hb hby at_445) rfl ?_
  show Steps p.tables e below (T13.setTop (mkF m 447 #[s0, s1, s2, .val (.int i3), .val (.ref kk), .val (.int (i3 - (48 : Int32))), .val (.int (0 : Int32)), .val (.int (0 : Int32)), .val (.int (0 : Int32)), .val (.int (0 : Int32)), .val (.int (0 : Int32)), .val (.int (0 : Int32)), .val (.int (1 : Int32)), .val (.int (0 : Int32))] [(.int (0 : Int32)), (.int (0 : Int32))])) _
  refine XS.icmpNo X13.here hx rfl (hb hby at_447) rfl (teq (rfl : (0 : Int32) = (0 : Int32))).2 ?_
  show Steps p.tables e below (T13.setTop (mkF m 450 #[s0, s1, s2, .val (.int i3), .val (.ref kk), .val (.int (i3 - (48 : Int32))), .val (.int (0 : Int32)), .val (.int (0 : Int32)), .val (.int (0 : Int32)), .val (.int (0 : Int32)), .val (.int (0 : Int32)), .val (.int (0 : Int32)), .val (.int (1 : Int32)), .val (.int (0 : Int32))] [])) _
  refine XS.aload X13.here hx rfl (hb hby at_450) rfl rfl ?_
  show Steps p.tables e below (T13.setTop (mkF m 452 #[s0, s1, s2, .val (.int i3), .val (.ref kk), .val (.int (i3 - (48 : Int32))), .val (.int (0 : Int32)), .val (.int (0 : Int32)), .val (.int (0 : Int32)), .val (.int (0 : Int32)), .val (.int (0 : Int32)), .val (.int (0 : Int32)), .val (.int (1 : Int32)), .val (.int (0 : Int32))] [(.ref kk)])) _
  refine st15 _ ?_
  show Steps p.tables e below (T15.setTop (mkF m 455 #[s0, s1, s2, .val (.int i3), .val (.ref kk), .val (.int (i3 - (48 : Int32))), .val (.int (0 : Int32)), .val (.int (0 : Int32)), .val (.int (0 : Int32)), .val (.int (0 : Int32)), .val (.int (0 : Int32)), .val (.int (0 : Int32)), .val (.int (1 : Int32)), .val (.int (0 : Int32))] [(.ref w14), (.ref kk)])) _
  refine Jvm.RoadKit.acmp (g := (mkF m 455 #[s0, s1, s2, .val (.int i3), .val (.ref kk), .val (.int (i3 - (48 : Int32))), .val (.int (0 : Int32)), .val (.int (0 : Int32)), .val (.int (0 : Int32)), .val (.int (0 : Int32)), .val (.int (0 : Int32)), .val (.int (0 : Int32)), .val (.int (1 : Int32)), .val (.int (0 : Int32))] [(.ref w14), (.ref kk)])) X15 hx rfl rfl rfl (pc0 := 455) (pc' := 462) (same := false) rfl (hb hby at_455) rfl (decide_eq_false fun q => ha455 (Value.ref.inj q)) (by decide) (by decide) ?_
  show Steps p.tables e below (T15.setTop (mkF m 462 #[s0, s1, s2, .val (.int i3), .val (.ref kk), .val (.int (i3 - (48 : Int32))), .val (.int (0 : Int32)), .val (.int (0 : Int32)), .val (.int (0 : Int32)), .val (.int (0 : Int32)), .val (.int (0 : Int32)), .val (.int (0 : Int32)), .val (.int (1 : Int32)), .val (.int (0 : Int32))] [])) _
  refine XS.iconst X15.here hx rfl (hb hby at_462) ?_
  show Steps p.tables e below (T15.setTop (mkF m 463 #[s0, s1, s2, .val (.int i3), .val (.ref kk), .val (.int (i3 - (48 : Int32))), .val (.int (0 : Int32)), .val (.int (0 : Int32)), .val (.int (0 : Int32)), .val (.int (0 : Int32)), .val (.int (0 : Int32)), .val (.int (0 : Int32)), .val (.int (1 : Int32)), .val (.int (0 : Int32))] [(.int (0 : Int32))])) _
  refine XS.iload X15.here hx rfl (hb hby at_463) rfl ?_
  show Steps p.tables e below (T15.setTop (mkF m 465 #[s0, s1, s2, .val (.int i3), .val (.ref kk), .val (.int (i3 - (48 : Int32))), .val (.int (0 : Int32)), .val (.int (0 : Int32)), .val (.int (0 : Int32)), .val (.int (0 : Int32)), .val (.int (0 : Int32)), .val (.int (0 : Int32)), .val (.int (1 : Int32)), .val (.int (0 : Int32))] [(.int (0 : Int32)), (.int (0 : Int32))])) _
  refine XS.icmpNo X15.here hx rfl (hb hby at_465) rfl (teq (rfl : (0 : Int32) = (0 : Int32))).2 ?_
  show Steps p.tables e below (T15.setTop (mkF m 468 #[s0, s1, s2, .val (.int i3), .val (.ref kk), .val (.int (i3 - (48 : Int32))), .val (.int (0 : Int32)), .val (.int (0 : Int32)), .val (.int (0 : Int32)), .val (.int (0 : Int32)), .val (.int (0 : Int32)), .val (.int (0 : Int32)), .val (.int (1 : Int32)), .val (.int (0 : Int32))] [])) _
  refine XS.aload X15.here hx rfl (hb hby at_468) rfl rfl ?_
  show Steps p.tables e below (T15.setTop (mkF m 470 #[s0, s1, s2, .val (.int i3), .val (.ref kk), .val (.int (i3 - (48 : Int32))), .val (.int (0 : Int32)), .val (.int (0 : Int32)), .val (.int (0 : Int32)), .val (.int (0 : Int32)), .val (.int (0 : Int32)), .val (.int (0 : Int32)), .val (.int (1 : Int32)), .val (.int (0 : Int32))] [(.ref kk)])) _
  refine st17 _ ?_
  show Steps p.tables e below (T17.setTop (mkF m 473 #[s0, s1, s2, .val (.int i3), .val (.ref kk), .val (.int (i3 - (48 : Int32))), .val (.int (0 : Int32)), .val (.int (0 : Int32)), .val (.int (0 : Int32)), .val (.int (0 : Int32)), .val (.int (0 : Int32)), .val (.int (0 : Int32)), .val (.int (1 : Int32)), .val (.int (0 : Int32))] [(.ref w16), (.ref kk)])) _
  refine Jvm.RoadKit.acmp (g := (mkF m 473 #[s0, s1, s2, .val (.int i3), .val (.ref kk), .val (.int (i3 - (48 : Int32))), .val (.int (0 : Int32)), .val (.int (0 : Int32)), .val (.int (0 : Int32)), .val (.int (0 : Int32)), .val (.int (0 : Int32)), .val (.int (0 : Int32)), .val (.int (1 : Int32)), .val (.int (0 : Int32))] [(.ref w16), (.ref kk)])) X17 hx rfl rfl rfl (pc0 := 473) (pc' := 476) (same := true) rfl (hb hby at_473) rfl (decide_eq_true (congrArg Value.ref ha473)) (by decide) (by decide) ?_
  show Steps p.tables e below (T17.setTop (mkF m 476 #[s0, s1, s2, .val (.int i3), .val (.ref kk), .val (.int (i3 - (48 : Int32))), .val (.int (0 : Int32)), .val (.int (0 : Int32)), .val (.int (0 : Int32)), .val (.int (0 : Int32)), .val (.int (0 : Int32)), .val (.int (0 : Int32)), .val (.int (1 : Int32)), .val (.int (0 : Int32))] [])) _
  refine XS.iconst X17.here hx rfl (hb hby at_476) ?_
  show Steps p.tables e below (T17.setTop (mkF m 477 #[s0, s1, s2, .val (.int i3), .val (.ref kk), .val (.int (i3 - (48 : Int32))), .val (.int (0 : Int32)), .val (.int (0 : Int32)), .val (.int (0 : Int32)), .val (.int (0 : Int32)), .val (.int (0 : Int32)), .val (.int (0 : Int32)), .val (.int (1 : Int32)), .val (.int (0 : Int32))] [(.int (1 : Int32))])) _
  refine XS.goto X17.here hx rfl (pc0 := 477) (pc' := 481) rfl (hb hby at_477) (by decide) (by decide) ?_
  show Steps p.tables e below (T17.setTop (mkF m 481 #[s0, s1, s2, .val (.int i3), .val (.ref kk), .val (.int (i3 - (48 : Int32))), .val (.int (0 : Int32)), .val (.int (0 : Int32)), .val (.int (0 : Int32)), .val (.int (0 : Int32)), .val (.int (0 : Int32)), .val (.int (0 : Int32)), .val (.int (1 : Int32)), .val (.int (0 : Int32))] [(.int (1 : Int32))])) _
  refine XS.iload X17.here hx rfl (hb hby at_481) rfl ?_
  show Steps p.tables e below (T17.setTop (mkF m 483 #[s0, s1, s2, .val (.int i3), .val (.ref kk), .val (.int (i3 - (48 : Int32))), .val (.int (0 : Int32)), .val (.int (0 : Int32)), .val (.int (0 : Int32)), .val (.int (0 : Int32)), .val (.int (0 : Int32)), .val (.int (0 : Int32)), .val (.int (1 : Int32)), .val (.int (0 : Int32))] [(.int (1 : Int32)), (.int (1 : Int32))])) _
  refine XS.icmpNo X17.here hx rfl (hb hby at_483) rfl (teq (rfl : (1 : Int32) = (1 : Int32))).2 ?_
  show Steps p.tables e below (T17.setTop (mkF m 486 #[s0, s1, s2, .val (.int i3), .val (.ref kk), .val (.int (i3 - (48 : Int32))), .val (.int (0 : Int32)), .val (.int (0 : Int32)), .val (.int (0 : Int32)), .val (.int (0 : Int32)), .val (.int (0 : Int32)), .val (.int (0 : Int32)), .val (.int (1 : Int32)), .val (.int (0 : Int32))] [])) _
  refine XS.aload X17.here hx rfl (hb hby at_486) rfl rfl ?_
  show Steps p.tables e below (T17.setTop (mkF m 488 #[s0, s1, s2, .val (.int i3), .val (.ref kk), .val (.int (i3 - (48 : Int32))), .val (.int (0 : Int32)), .val (.int (0 : Int32)), .val (.int (0 : Int32)), .val (.int (0 : Int32)), .val (.int (0 : Int32)), .val (.int (0 : Int32)), .val (.int (1 : Int32)), .val (.int (0 : Int32))] [(.ref kk)])) _
  refine XS.ifnonnullYes X17.here hx rfl (pc0 := 488) (pc' := 495) rfl (hb hby at_488) rfl (by decide) (by decide) ?_
  show Steps p.tables e below (T17.setTop (mkF m 495 #[s0, s1, s2, .val (.int i3), .val (.ref kk), .val (.int (i3 - (48 : Int32))), .val (.int (0 : Int32)), .val (.int (0 : Int32)), .val (.int (0 : Int32)), .val (.int (0 : Int32)), .val (.int (0 : Int32)), .val (.int (0 : Int32)), .val (.int (1 : Int32)), .val (.int (0 : Int32))] [])) _
  refine XS.iconst X17.here hx rfl (hb hby at_495) ?_
  show Steps p.tables e below (T17.setTop (mkF m 496 #[s0, s1, s2, .val (.int i3), .val (.ref kk), .val (.int (i3 - (48 : Int32))), .val (.int (0 : Int32)), .val (.int (0 : Int32)), .val (.int (0 : Int32)), .val (.int (0 : Int32)), .val (.int (0 : Int32)), .val (.int (0 : Int32)), .val (.int (1 : Int32)), .val (.int (0 : Int32))] [(.int (0 : Int32))])) _
  refine XS.iload X17.here hx rfl (hb hby at_496) rfl ?_
  show Steps p.tables e below (T17.setTop (mkF m 498 #[s0, s1, s2, .val (.int i3), .val (.ref kk), .val (.int (i3 - (48 : Int32))), .val (.int (0 : Int32)), .val (.int (0 : Int32)), .val (.int (0 : Int32)), .val (.int (0 : Int32)), .val (.int (0 : Int32)), .val (.int (0 : Int32)), .val (.int (1 : Int32)), .val (.int (0 : Int32))] [(.int (0 : Int32)), (.int (0 : Int32))])) _
  refine XS.icmpNo X17.here hx rfl (hb hby at_498) rfl (teq (rfl : (0 : Int32) = (0 : Int32))).2 ?_
  show Steps p.tables e below (T17.setTop (mkF m 501 #[s0, s1, s2, .val (.int i3), .val (.ref kk), .val (.int (i3 - (48 : Int32))), .val (.int (0 : Int32)), .val (.int (0 : Int32)), .val (.int (0 : Int32)), .val (.int (0 : Int32)), .val (.int (0 : Int32)), .val (.int (0 : Int32)), .val (.int (1 : Int32)), .val (.int (0 : Int32))] [])) _
  refine XS.iconst X17.here hx rfl (hb hby at_501) ?_
  show Steps p.tables e below (T17.setTop (mkF m 502 #[s0, s1, s2, .val (.int i3), .val (.ref kk), .val (.int (i3 - (48 : Int32))), .val (.int (0 : Int32)), .val (.int (0 : Int32)), .val (.int (0 : Int32)), .val (.int (0 : Int32)), .val (.int (0 : Int32)), .val (.int (0 : Int32)), .val (.int (1 : Int32)), .val (.int (0 : Int32))] [(.int (1 : Int32))])) _
  refine XS.goto X17.here hx rfl (pc0 := 502) (pc' := 506) rfl (hb hby at_502) (by decide) (by decide) ?_
  exact kt
set_option maxRecDepth 65536 in
set_option maxHeartbeats 40000000 in
theorem own_segC_lo {p : Program} {l : Launch} {e : Env} {s : State} {m : MethodId} {args : Array Value} {below : List Frame} {meth : Method} {c : Code} {T0 : State} {locs : List Loc} {Z : State} {a0 : Array Value} {h0 : Heap} {n0 : Nat} (s0 : Slot) (s1 : Slot) (s2 : Slot) (i3 : Int32) (s4 : Slot) (s5 : Slot) (s6 : Slot) (s7 : Slot) (s8 : Slot) (s9 : Slot) (s10 : Slot) (s11 : Slot) (s12 : Slot) (s13 : Slot) (w4 : Addr) (w6 : Addr) (w8 : Addr) (w10 : Addr) (w12 : Addr) (w14 : Addr) (w16 : Addr)
    (X0 : Stand p l e room_1 s m args below meth c T0 locs 1 30) (hx : p.tables.exec = Jvm.exec) (hZ : Z.Warmed39 s.vm) (hw : ∀ d ∈ tables_1, d.before a0 Z = true) (hby : c.code = code) (hml : c.maxLocals = 14) (hown : s.vm.findClass "com/example/tenkyo/tenkyo/exchange/KindOfPinLaw" = some m.cls) (e0 : T0.heap = h0) (N0 : Fr n0 locs) (hof : MetFree l (⟨"com/example/tenkyo/tenkyo/exchange/Json$Kind", "of", "(C)Lcom/example/tenkyo/tenkyo/exchange/Json$Kind;"⟩ : MethodName) (head1 (Jvm.Cond.code (⟨"com/example/tenkyo/tenkyo/exchange/Json$Kind", "of", "(C)Lcom/example/tenkyo/tenkyo/exchange/Json$Kind;"⟩ : MethodName) prog_14_method_6_code 2 (some (.object "com/example/tenkyo/tenkyo/exchange/Json$Kind")) :: []) ({ frames := 0, cells := 0, slots := 0, locals := 0 } : Room)) (fun a U => a = #[(.int i3)] ∧ Z.Warmed39 U.vm ∧ U.heap = h0) (fun _ _ _ _ _ => True) (fun _ U o U' => ∃ v L, o = .returned v ∧ Qk .null h0 n0 v U'.heap L ∧ FrameEnd U o U' L ({ frames := 0, cells := 0, slots := 0, locals := 0 } : Room).cells ({ frames := 0, cells := 0, slots := 0, locals := 0 } : Room).slots)) (hs4 : One s4) (hs5 : One s5) (hs6 : One s6) (hs7 : One s7) (hs8 : One s8) (hs9 : One s9) (hs10 : One s10) (hs11 : One s11) (hs12 : One s12) (hs13 : One s13) (S_OBJECT : Sta Z h0 "com/example/tenkyo/tenkyo/exchange/Json$Kind" "OBJECT" "Lcom/example/tenkyo/tenkyo/exchange/Json$Kind;" (.ref w4)) (S_ARRAY : Sta Z h0 "com/example/tenkyo/tenkyo/exchange/Json$Kind" "ARRAY" "Lcom/example/tenkyo/tenkyo/exchange/Json$Kind;" (.ref w6)) (S_STRING : Sta Z h0 "com/example/tenkyo/tenkyo/exchange/Json$Kind" "STRING" "Lcom/example/tenkyo/tenkyo/exchange/Json$Kind;" (.ref w8)) (S_NUMBER : Sta Z h0 "com/example/tenkyo/tenkyo/exchange/Json$Kind" "NUMBER" "Lcom/example/tenkyo/tenkyo/exchange/Json$Kind;" (.ref w10)) (S_TRUE : Sta Z h0 "com/example/tenkyo/tenkyo/exchange/Json$Kind" "TRUE" "Lcom/example/tenkyo/tenkyo/exchange/Json$Kind;" (.ref w12)) (S_FALSE : Sta Z h0 "com/example/tenkyo/tenkyo/exchange/Json$Kind" "FALSE" "Lcom/example/tenkyo/tenkyo/exchange/Json$Kind;" (.ref w14)) (S_NULL : Sta Z h0 "com/example/tenkyo/tenkyo/exchange/Json$Kind" "NULL" "Lcom/example/tenkyo/tenkyo/exchange/Json$Kind;" (.ref w16)) (hc218 : ¬ (i3 = (123 : Int32))) (hc231 : ¬ (i3 = (91 : Int32))) (hc244 : ¬ (i3 = (34 : Int32))) (hc257 : ¬ (i3 = (45 : Int32))) (hc262 : (i3 - (48 : Int32)) < (0 : Int32)) (hc282 : ¬ (i3 = (116 : Int32))) (hc295 : ¬ (i3 = (102 : Int32))) (hc308 : ¬ (i3 = (110 : Int32))) :
    ∃ (T' : State) (L' : List Loc) (Ls : Array Slot), Stand p l e room_1 s m args below meth c T' L' 1 30 ∧ Fr n0 L' ∧
      ∀ target, Steps p.tables e below (T'.setTop (mkF m 506 Ls [(.int (1 : Int32))])) target → Steps p.tables e below (T0.setTop (mkF m 203 #[s0, s1, s2, .val (.int i3), s4, s5, s6, s7, s8, s9, s10, s11, s12, s13] [])) target := by
  obtain ⟨_, _, ⟨T3, L3, k3, n3⟩, -, X3, ⟨Lc3, hQ3, l3, y3, z3⟩, st3⟩ := Jvm.LawKit.callS X0 hx (y := (⟨"com/example/tenkyo/tenkyo/exchange/Json$Kind", "of", "(C)Lcom/example/tenkyo/tenkyo/exchange/Json$Kind;"⟩ : MethodName)) hown (mvT hZ (hw _ (List.mem_of_getElem? (i := 3) rfl))) (mvT hZ (hw _ (List.mem_of_getElem? (i := 4) rfl))) (mvT hZ (hw _ (List.mem_of_getElem? (i := 5) rfl))) (mvT hZ (hw _ (List.mem_of_getElem? (i := 6) rfl))) (by decide) (backOf (W := 0) hof hZ (hw _ (List.mem_of_getElem? (i := 6) rfl)) (hw _ (List.mem_of_getElem? (i := 5) rfl)) (by decide) (by decide)) (g := (mkF m 204 #[s0, s1, s2, .val (.int i3), s4, s5, s6, s7, s8, s9, s10, s11, s12, s13] [(.int i3)])) rfl (by rw [hml]; rfl) (argsL := [(.int i3)]) (rest := []) (lenOf pd_0_0 rfl) rfl (by show 2 * 0 + _ ≤ _; exact Nat.le_of_eq rfl) (hb hby at_204) (fun _ _ => ⟨rfl, e0, (by decide : 1 + 0 ≤ _), (by decide : 30 + 0 ≤ _)⟩)
  dsimp only [Pt.U, Pt.locs, Pt.cells, Pt.slots] at X3 l3 y3 z3 st3 hQ3
  subst l3 y3 z3
  obtain ⟨rfl, N3q, e3⟩ := hQ3
  have N3 := Fr.app N0 N3q
  obtain ⟨T5, X5, e5, st5⟩ := getS2 X3 hx hZ hown (host := "") (Or.inl (hw _ (List.mem_of_getElem? (i := 9) rfl))) Via.refl e3 S_OBJECT (g := (mkF m 362 #[s0, s1, s2, .val (.int i3), .val .null, .val (.int (i3 - (48 : Int32))), .val (.int (0 : Int32)), .val (.int (0 : Int32)), .val (.int (0 : Int32)), .val (.int (0 : Int32)), .val (.int (0 : Int32)), .val (.int (0 : Int32)), .val (.int (0 : Int32)), .val (.int (1 : Int32))] [.null])) rfl (hb hby at_362)
  obtain ⟨T7, X7, e7, st7⟩ := getS2 X5 hx hZ hown (host := "") (Or.inl (hw _ (List.mem_of_getElem? (i := 10) rfl))) Via.refl e5 S_ARRAY (g := (mkF m 380 #[s0, s1, s2, .val (.int i3), .val .null, .val (.int (i3 - (48 : Int32))), .val (.int (0 : Int32)), .val (.int (0 : Int32)), .val (.int (0 : Int32)), .val (.int (0 : Int32)), .val (.int (0 : Int32)), .val (.int (0 : Int32)), .val (.int (0 : Int32)), .val (.int (1 : Int32))] [.null])) rfl (hb hby at_380)
  obtain ⟨T9, X9, e9, st9⟩ := getS2 X7 hx hZ hown (host := "") (Or.inl (hw _ (List.mem_of_getElem? (i := 12) rfl))) Via.refl e7 S_STRING (g := (mkF m 398 #[s0, s1, s2, .val (.int i3), .val .null, .val (.int (i3 - (48 : Int32))), .val (.int (0 : Int32)), .val (.int (0 : Int32)), .val (.int (0 : Int32)), .val (.int (0 : Int32)), .val (.int (0 : Int32)), .val (.int (0 : Int32)), .val (.int (0 : Int32)), .val (.int (1 : Int32))] [.null])) rfl (hb hby at_398)
  obtain ⟨T11, X11, e11, st11⟩ := getS2 X9 hx hZ hown (host := "") (Or.inl (hw _ (List.mem_of_getElem? (i := 14) rfl))) Via.refl e9 S_NUMBER (g := (mkF m 416 #[s0, s1, s2, .val (.int i3), .val .null, .val (.int (i3 - (48 : Int32))), .val (.int (0 : Int32)), .val (.int (0 : Int32)), .val (.int (0 : Int32)), .val (.int (0 : Int32)), .val (.int (0 : Int32)), .val (.int (0 : Int32)), .val (.int (0 : Int32)), .val (.int (1 : Int32))] [.null])) rfl (hb hby at_416)
  obtain ⟨T13, X13, e13, st13⟩ := getS2 X11 hx hZ hown (host := "") (Or.inl (hw _ (List.mem_of_getElem? (i := 16) rfl))) Via.refl e11 S_TRUE (g := (mkF m 434 #[s0, s1, s2, .val (.int i3), .val .null, .val (.int (i3 - (48 : Int32))), .val (.int (0 : Int32)), .val (.int (0 : Int32)), .val (.int (0 : Int32)), .val (.int (0 : Int32)), .val (.int (0 : Int32)), .val (.int (0 : Int32)), .val (.int (0 : Int32)), .val (.int (1 : Int32))] [.null])) rfl (hb hby at_434)
  obtain ⟨T15, X15, e15, st15⟩ := getS2 X13 hx hZ hown (host := "") (Or.inl (hw _ (List.mem_of_getElem? (i := 18) rfl))) Via.refl e13 S_FALSE (g := (mkF m 452 #[s0, s1, s2, .val (.int i3), .val .null, .val (.int (i3 - (48 : Int32))), .val (.int (0 : Int32)), .val (.int (0 : Int32)), .val (.int (0 : Int32)), .val (.int (0 : Int32)), .val (.int (0 : Int32)), .val (.int (0 : Int32)), .val (.int (0 : Int32)), .val (.int (1 : Int32))] [.null])) rfl (hb hby at_452)
  obtain ⟨T17, X17, e17, st17⟩ := getS2 X15 hx hZ hown (host := "") (Or.inl (hw _ (List.mem_of_getElem? (i := 20) rfl))) Via.refl e15 S_NULL (g := (mkF m 470 #[s0, s1, s2, .val (.int i3), .val .null, .val (.int (i3 - (48 : Int32))), .val (.int (0 : Int32)), .val (.int (0 : Int32)), .val (.int (0 : Int32)), .val (.int (0 : Int32)), .val (.int (0 : Int32)), .val (.int (0 : Int32)), .val (.int (0 : Int32)), .val (.int (1 : Int32))] [.null])) rfl (hb hby at_470)
  refine ⟨T17, _, #[s0, s1, s2, .val (.int i3), .val .null, .val (.int (i3 - (48 : Int32))), .val (.int (0 : Int32)), .val (.int (0 : Int32)), .val (.int (0 : Int32)), .val (.int (0 : Int32)), .val (.int (0 : Int32)), .val (.int (0 : Int32)), .val (.int (0 : Int32)), .val (.int (1 : Int32))], X17, N3, fun target kt => ?_⟩
  show Steps p.tables e below (T0.setTop (mkF m 203 #[s0, s1, s2, .val (.int i3), s4, s5, s6, s7, s8, s9, s10, s11, s12, s13] [])) _
  refine XS.iloadN X0.here hx rfl (hb hby at_203) rfl ?_
  show Steps p.tables e below (T0.setTop (mkF m 204 #[s0, s1, s2, .val (.int i3), s4, s5, s6, s7, s8, s9, s10, s11, s12, s13] [(.int i3)])) _
  refine st3 _ ?_
  show Steps p.tables e below (T3.setTop (mkF m 207 #[s0, s1, s2, .val (.int i3), s4, s5, s6, s7, s8, s9, s10, s11, s12, s13] [.null])) _
  refine XS.astore X3.here hx rfl (hb hby at_207) rfl rfl (l' := #[s0, s1, s2, .val (.int i3), .val .null, s5, s6, s7, s8, s9, s10, s11, s12, s13]) (os0_207n hs4) ?_
  show Steps p.tables e below (T3.setTop (mkF m 209 #[s0, s1, s2, .val (.int i3), .val .null, s5, s6, s7, s8, s9, s10, s11, s12, s13] [])) _
  refine XS.iloadN X3.here hx rfl (hb hby at_209) rfl ?_
  show Steps p.tables e below (T3.setTop (mkF m 210 #[s0, s1, s2, .val (.int i3), .val .null, s5, s6, s7, s8, s9, s10, s11, s12, s13] [(.int i3)])) _
  refine XS.bipush X3.here hx rfl (hb hby at_210) ?_
  show Steps p.tables e below (T3.setTop (mkF m 212 #[s0, s1, s2, .val (.int i3), .val .null, s5, s6, s7, s8, s9, s10, s11, s12, s13] [(.int (48 : Int32)), (.int i3)])) _
  refine XS.isub X3.here hx rfl (hb hby at_212) rfl ?_
  show Steps p.tables e below (T3.setTop (mkF m 213 #[s0, s1, s2, .val (.int i3), .val .null, s5, s6, s7, s8, s9, s10, s11, s12, s13] [(.int (i3 - (48 : Int32)))])) _
  refine XS.istore X3.here hx rfl (hb hby at_213) rfl (l' := #[s0, s1, s2, .val (.int i3), .val .null, .val (.int (i3 - (48 : Int32))), s6, s7, s8, s9, s10, s11, s12, s13]) (os0_213 hs5) ?_
  show Steps p.tables e below (T3.setTop (mkF m 215 #[s0, s1, s2, .val (.int i3), .val .null, .val (.int (i3 - (48 : Int32))), s6, s7, s8, s9, s10, s11, s12, s13] [])) _
  refine XS.iloadN X3.here hx rfl (hb hby at_215) rfl ?_
  show Steps p.tables e below (T3.setTop (mkF m 216 #[s0, s1, s2, .val (.int i3), .val .null, .val (.int (i3 - (48 : Int32))), s6, s7, s8, s9, s10, s11, s12, s13] [(.int i3)])) _
  refine XS.bipush X3.here hx rfl (hb hby at_216) ?_
  show Steps p.tables e below (T3.setTop (mkF m 218 #[s0, s1, s2, .val (.int i3), .val .null, .val (.int (i3 - (48 : Int32))), s6, s7, s8, s9, s10, s11, s12, s13] [(.int (123 : Int32)), (.int i3)])) _
  refine XS.icmpYes X3.here hx rfl (pc0 := 218) (pc' := 225) rfl (hb hby at_218) rfl (feq hc218).2 (by decide) (by decide) ?_
  show Steps p.tables e below (T3.setTop (mkF m 225 #[s0, s1, s2, .val (.int i3), .val .null, .val (.int (i3 - (48 : Int32))), s6, s7, s8, s9, s10, s11, s12, s13] [])) _
  refine XS.iconst X3.here hx rfl (hb hby at_225) ?_
  show Steps p.tables e below (T3.setTop (mkF m 226 #[s0, s1, s2, .val (.int i3), .val .null, .val (.int (i3 - (48 : Int32))), s6, s7, s8, s9, s10, s11, s12, s13] [(.int (0 : Int32))])) _
  refine XS.istore X3.here hx rfl (hb hby at_226) rfl (l' := #[s0, s1, s2, .val (.int i3), .val .null, .val (.int (i3 - (48 : Int32))), .val (.int (0 : Int32)), s7, s8, s9, s10, s11, s12, s13]) (os0_226 hs6) ?_
  show Steps p.tables e below (T3.setTop (mkF m 228 #[s0, s1, s2, .val (.int i3), .val .null, .val (.int (i3 - (48 : Int32))), .val (.int (0 : Int32)), s7, s8, s9, s10, s11, s12, s13] [])) _
  refine XS.iloadN X3.here hx rfl (hb hby at_228) rfl ?_
  show Steps p.tables e below (T3.setTop (mkF m 229 #[s0, s1, s2, .val (.int i3), .val .null, .val (.int (i3 - (48 : Int32))), .val (.int (0 : Int32)), s7, s8, s9, s10, s11, s12, s13] [(.int i3)])) _
  refine XS.bipush X3.here hx rfl (hb hby at_229) ?_
  show Steps p.tables e below (T3.setTop (mkF m 231 #[s0, s1, s2, .val (.int i3), .val .null, .val (.int (i3 - (48 : Int32))), .val (.int (0 : Int32)), s7, s8, s9, s10, s11, s12, s13] [(.int (91 : Int32)), (.int i3)])) _
  refine XS.icmpYes X3.here hx rfl (pc0 := 231) (pc' := 238) rfl (hb hby at_231) rfl (feq hc231).2 (by decide) (by decide) ?_
  show Steps p.tables e below (T3.setTop (mkF m 238 #[s0, s1, s2, .val (.int i3), .val .null, .val (.int (i3 - (48 : Int32))), .val (.int (0 : Int32)), s7, s8, s9, s10, s11, s12, s13] [])) _
  refine XS.iconst X3.here hx rfl (hb hby at_238) ?_
  show Steps p.tables e below (T3.setTop (mkF m 239 #[s0, s1, s2, .val (.int i3), .val .null, .val (.int (i3 - (48 : Int32))), .val (.int (0 : Int32)), s7, s8, s9, s10, s11, s12, s13] [(.int (0 : Int32))])) _
  refine XS.istore X3.here hx rfl (hb hby at_239) rfl (l' := #[s0, s1, s2, .val (.int i3), .val .null, .val (.int (i3 - (48 : Int32))), .val (.int (0 : Int32)), .val (.int (0 : Int32)), s8, s9, s10, s11, s12, s13]) (os0_239 hs7) ?_
  show Steps p.tables e below (T3.setTop (mkF m 241 #[s0, s1, s2, .val (.int i3), .val .null, .val (.int (i3 - (48 : Int32))), .val (.int (0 : Int32)), .val (.int (0 : Int32)), s8, s9, s10, s11, s12, s13] [])) _
  refine XS.iloadN X3.here hx rfl (hb hby at_241) rfl ?_
  show Steps p.tables e below (T3.setTop (mkF m 242 #[s0, s1, s2, .val (.int i3), .val .null, .val (.int (i3 - (48 : Int32))), .val (.int (0 : Int32)), .val (.int (0 : Int32)), s8, s9, s10, s11, s12, s13] [(.int i3)])) _
  refine XS.bipush X3.here hx rfl (hb hby at_242) ?_
  show Steps p.tables e below (T3.setTop (mkF m 244 #[s0, s1, s2, .val (.int i3), .val .null, .val (.int (i3 - (48 : Int32))), .val (.int (0 : Int32)), .val (.int (0 : Int32)), s8, s9, s10, s11, s12, s13] [(.int (34 : Int32)), (.int i3)])) _
  refine XS.icmpYes X3.here hx rfl (pc0 := 244) (pc' := 251) rfl (hb hby at_244) rfl (feq hc244).2 (by decide) (by decide) ?_
  show Steps p.tables e below (T3.setTop (mkF m 251 #[s0, s1, s2, .val (.int i3), .val .null, .val (.int (i3 - (48 : Int32))), .val (.int (0 : Int32)), .val (.int (0 : Int32)), s8, s9, s10, s11, s12, s13] [])) _
  refine XS.iconst X3.here hx rfl (hb hby at_251) ?_
  show Steps p.tables e below (T3.setTop (mkF m 252 #[s0, s1, s2, .val (.int i3), .val .null, .val (.int (i3 - (48 : Int32))), .val (.int (0 : Int32)), .val (.int (0 : Int32)), s8, s9, s10, s11, s12, s13] [(.int (0 : Int32))])) _
  refine XS.istore X3.here hx rfl (hb hby at_252) rfl (l' := #[s0, s1, s2, .val (.int i3), .val .null, .val (.int (i3 - (48 : Int32))), .val (.int (0 : Int32)), .val (.int (0 : Int32)), .val (.int (0 : Int32)), s9, s10, s11, s12, s13]) (os0_252 hs8) ?_
  show Steps p.tables e below (T3.setTop (mkF m 254 #[s0, s1, s2, .val (.int i3), .val .null, .val (.int (i3 - (48 : Int32))), .val (.int (0 : Int32)), .val (.int (0 : Int32)), .val (.int (0 : Int32)), s9, s10, s11, s12, s13] [])) _
  refine XS.iloadN X3.here hx rfl (hb hby at_254) rfl ?_
  show Steps p.tables e below (T3.setTop (mkF m 255 #[s0, s1, s2, .val (.int i3), .val .null, .val (.int (i3 - (48 : Int32))), .val (.int (0 : Int32)), .val (.int (0 : Int32)), .val (.int (0 : Int32)), s9, s10, s11, s12, s13] [(.int i3)])) _
  refine XS.bipush X3.here hx rfl (hb hby at_255) ?_
  show Steps p.tables e below (T3.setTop (mkF m 257 #[s0, s1, s2, .val (.int i3), .val .null, .val (.int (i3 - (48 : Int32))), .val (.int (0 : Int32)), .val (.int (0 : Int32)), .val (.int (0 : Int32)), s9, s10, s11, s12, s13] [(.int (45 : Int32)), (.int i3)])) _
  refine XS.icmpNo X3.here hx rfl (hb hby at_257) rfl (feq hc257).1 ?_
  show Steps p.tables e below (T3.setTop (mkF m 260 #[s0, s1, s2, .val (.int i3), .val .null, .val (.int (i3 - (48 : Int32))), .val (.int (0 : Int32)), .val (.int (0 : Int32)), .val (.int (0 : Int32)), s9, s10, s11, s12, s13] [])) _
  refine XS.iload X3.here hx rfl (hb hby at_260) rfl ?_
  show Steps p.tables e below (T3.setTop (mkF m 262 #[s0, s1, s2, .val (.int i3), .val .null, .val (.int (i3 - (48 : Int32))), .val (.int (0 : Int32)), .val (.int (0 : Int32)), .val (.int (0 : Int32)), s9, s10, s11, s12, s13] [(.int (i3 - (48 : Int32)))])) _
  refine XS.ifYes X3.here hx rfl (pc0 := 262) (pc' := 276) rfl (hb hby at_262) rfl ((if0 _ _).trans (tlt hc262).1) (by decide) (by decide) ?_
  show Steps p.tables e below (T3.setTop (mkF m 276 #[s0, s1, s2, .val (.int i3), .val .null, .val (.int (i3 - (48 : Int32))), .val (.int (0 : Int32)), .val (.int (0 : Int32)), .val (.int (0 : Int32)), s9, s10, s11, s12, s13] [])) _
  refine XS.iconst X3.here hx rfl (hb hby at_276) ?_
  show Steps p.tables e below (T3.setTop (mkF m 277 #[s0, s1, s2, .val (.int i3), .val .null, .val (.int (i3 - (48 : Int32))), .val (.int (0 : Int32)), .val (.int (0 : Int32)), .val (.int (0 : Int32)), s9, s10, s11, s12, s13] [(.int (0 : Int32))])) _
  refine XS.istore X3.here hx rfl (hb hby at_277) rfl (l' := #[s0, s1, s2, .val (.int i3), .val .null, .val (.int (i3 - (48 : Int32))), .val (.int (0 : Int32)), .val (.int (0 : Int32)), .val (.int (0 : Int32)), .val (.int (0 : Int32)), s10, s11, s12, s13]) (os0_277 hs9) ?_
  show Steps p.tables e below (T3.setTop (mkF m 279 #[s0, s1, s2, .val (.int i3), .val .null, .val (.int (i3 - (48 : Int32))), .val (.int (0 : Int32)), .val (.int (0 : Int32)), .val (.int (0 : Int32)), .val (.int (0 : Int32)), s10, s11, s12, s13] [])) _
  refine XS.iloadN X3.here hx rfl (hb hby at_279) rfl ?_
  show Steps p.tables e below (T3.setTop (mkF m 280 #[s0, s1, s2, .val (.int i3), .val .null, .val (.int (i3 - (48 : Int32))), .val (.int (0 : Int32)), .val (.int (0 : Int32)), .val (.int (0 : Int32)), .val (.int (0 : Int32)), s10, s11, s12, s13] [(.int i3)])) _
  refine XS.bipush X3.here hx rfl (hb hby at_280) ?_
  show Steps p.tables e below (T3.setTop (mkF m 282 #[s0, s1, s2, .val (.int i3), .val .null, .val (.int (i3 - (48 : Int32))), .val (.int (0 : Int32)), .val (.int (0 : Int32)), .val (.int (0 : Int32)), .val (.int (0 : Int32)), s10, s11, s12, s13] [(.int (116 : Int32)), (.int i3)])) _
  refine XS.icmpYes X3.here hx rfl (pc0 := 282) (pc' := 289) rfl (hb hby at_282) rfl (feq hc282).2 (by decide) (by decide) ?_
  show Steps p.tables e below (T3.setTop (mkF m 289 #[s0, s1, s2, .val (.int i3), .val .null, .val (.int (i3 - (48 : Int32))), .val (.int (0 : Int32)), .val (.int (0 : Int32)), .val (.int (0 : Int32)), .val (.int (0 : Int32)), s10, s11, s12, s13] [])) _
  refine XS.iconst X3.here hx rfl (hb hby at_289) ?_
  show Steps p.tables e below (T3.setTop (mkF m 290 #[s0, s1, s2, .val (.int i3), .val .null, .val (.int (i3 - (48 : Int32))), .val (.int (0 : Int32)), .val (.int (0 : Int32)), .val (.int (0 : Int32)), .val (.int (0 : Int32)), s10, s11, s12, s13] [(.int (0 : Int32))])) _
  refine XS.istore X3.here hx rfl (hb hby at_290) rfl (l' := #[s0, s1, s2, .val (.int i3), .val .null, .val (.int (i3 - (48 : Int32))), .val (.int (0 : Int32)), .val (.int (0 : Int32)), .val (.int (0 : Int32)), .val (.int (0 : Int32)), .val (.int (0 : Int32)), s11, s12, s13]) (os0_290 hs10) ?_
  show Steps p.tables e below (T3.setTop (mkF m 292 #[s0, s1, s2, .val (.int i3), .val .null, .val (.int (i3 - (48 : Int32))), .val (.int (0 : Int32)), .val (.int (0 : Int32)), .val (.int (0 : Int32)), .val (.int (0 : Int32)), .val (.int (0 : Int32)), s11, s12, s13] [])) _
  refine XS.iloadN X3.here hx rfl (hb hby at_292) rfl ?_
  show Steps p.tables e below (T3.setTop (mkF m 293 #[s0, s1, s2, .val (.int i3), .val .null, .val (.int (i3 - (48 : Int32))), .val (.int (0 : Int32)), .val (.int (0 : Int32)), .val (.int (0 : Int32)), .val (.int (0 : Int32)), .val (.int (0 : Int32)), s11, s12, s13] [(.int i3)])) _
  refine XS.bipush X3.here hx rfl (hb hby at_293) ?_
  show Steps p.tables e below (T3.setTop (mkF m 295 #[s0, s1, s2, .val (.int i3), .val .null, .val (.int (i3 - (48 : Int32))), .val (.int (0 : Int32)), .val (.int (0 : Int32)), .val (.int (0 : Int32)), .val (.int (0 : Int32)), .val (.int (0 : Int32)), s11, s12, s13] [(.int (102 : Int32)), (.int i3)])) _
  refine XS.icmpYes X3.here hx rfl (pc0 := 295) (pc' := 302) rfl (hb hby at_295) rfl (feq hc295).2 (by decide) (by decide) ?_
  show Steps p.tables e below (T3.setTop (mkF m 302 #[s0, s1, s2, .val (.int i3), .val .null, .val (.int (i3 - (48 : Int32))), .val (.int (0 : Int32)), .val (.int (0 : Int32)), .val (.int (0 : Int32)), .val (.int (0 : Int32)), .val (.int (0 : Int32)), s11, s12, s13] [])) _
  refine XS.iconst X3.here hx rfl (hb hby at_302) ?_
  show Steps p.tables e below (T3.setTop (mkF m 303 #[s0, s1, s2, .val (.int i3), .val .null, .val (.int (i3 - (48 : Int32))), .val (.int (0 : Int32)), .val (.int (0 : Int32)), .val (.int (0 : Int32)), .val (.int (0 : Int32)), .val (.int (0 : Int32)), s11, s12, s13] [(.int (0 : Int32))])) _
  refine XS.istore X3.here hx rfl (hb hby at_303) rfl (l' := #[s0, s1, s2, .val (.int i3), .val .null, .val (.int (i3 - (48 : Int32))), .val (.int (0 : Int32)), .val (.int (0 : Int32)), .val (.int (0 : Int32)), .val (.int (0 : Int32)), .val (.int (0 : Int32)), .val (.int (0 : Int32)), s12, s13]) (os0_303 hs11) ?_
  show Steps p.tables e below (T3.setTop (mkF m 305 #[s0, s1, s2, .val (.int i3), .val .null, .val (.int (i3 - (48 : Int32))), .val (.int (0 : Int32)), .val (.int (0 : Int32)), .val (.int (0 : Int32)), .val (.int (0 : Int32)), .val (.int (0 : Int32)), .val (.int (0 : Int32)), s12, s13] [])) _
  refine XS.iloadN X3.here hx rfl (hb hby at_305) rfl ?_
  show Steps p.tables e below (T3.setTop (mkF m 306 #[s0, s1, s2, .val (.int i3), .val .null, .val (.int (i3 - (48 : Int32))), .val (.int (0 : Int32)), .val (.int (0 : Int32)), .val (.int (0 : Int32)), .val (.int (0 : Int32)), .val (.int (0 : Int32)), .val (.int (0 : Int32)), s12, s13] [(.int i3)])) _
  refine XS.bipush X3.here hx rfl (hb hby at_306) ?_
  show Steps p.tables e below (T3.setTop (mkF m 308 #[s0, s1, s2, .val (.int i3), .val .null, .val (.int (i3 - (48 : Int32))), .val (.int (0 : Int32)), .val (.int (0 : Int32)), .val (.int (0 : Int32)), .val (.int (0 : Int32)), .val (.int (0 : Int32)), .val (.int (0 : Int32)), s12, s13] [(.int (110 : Int32)), (.int i3)])) _
  refine XS.icmpYes X3.here hx rfl (pc0 := 308) (pc' := 315) rfl (hb hby at_308) rfl (feq hc308).2 (by decide) (by decide) ?_
  show Steps p.tables e below (T3.setTop (mkF m 315 #[s0, s1, s2, .val (.int i3), .val .null, .val (.int (i3 - (48 : Int32))), .val (.int (0 : Int32)), .val (.int (0 : Int32)), .val (.int (0 : Int32)), .val (.int (0 : Int32)), .val (.int (0 : Int32)), .val (.int (0 : Int32)), s12, s13] [])) _
  refine XS.iconst X3.here hx rfl (hb hby at_315) ?_
  show Steps p.tables e below (T3.setTop (mkF m 316 #[s0, s1, s2, .val (.int i3), .val .null, .val (.int (i3 - (48 : Int32))), .val (.int (0 : Int32)), .val (.int (0 : Int32)), .val (.int (0 : Int32)), .val (.int (0 : Int32)), .val (.int (0 : Int32)), .val (.int (0 : Int32)), s12, s13] [(.int (0 : Int32))])) _
  refine XS.istore X3.here hx rfl (hb hby at_316) rfl (l' := #[s0, s1, s2, .val (.int i3), .val .null, .val (.int (i3 - (48 : Int32))), .val (.int (0 : Int32)), .val (.int (0 : Int32)), .val (.int (0 : Int32)), .val (.int (0 : Int32)), .val (.int (0 : Int32)), .val (.int (0 : Int32)), .val (.int (0 : Int32)), s13]) (os0_316 hs12) ?_
  show Steps p.tables e below (T3.setTop (mkF m 318 #[s0, s1, s2, .val (.int i3), .val .null, .val (.int (i3 - (48 : Int32))), .val (.int (0 : Int32)), .val (.int (0 : Int32)), .val (.int (0 : Int32)), .val (.int (0 : Int32)), .val (.int (0 : Int32)), .val (.int (0 : Int32)), .val (.int (0 : Int32)), s13] [])) _
  refine XS.iload X3.here hx rfl (hb hby at_318) rfl ?_
  show Steps p.tables e below (T3.setTop (mkF m 320 #[s0, s1, s2, .val (.int i3), .val .null, .val (.int (i3 - (48 : Int32))), .val (.int (0 : Int32)), .val (.int (0 : Int32)), .val (.int (0 : Int32)), .val (.int (0 : Int32)), .val (.int (0 : Int32)), .val (.int (0 : Int32)), .val (.int (0 : Int32)), s13] [(.int (0 : Int32))])) _
  refine XS.ifNo X3.here hx rfl (hb hby at_320) rfl ((if0 _ _).trans (teq (rfl : (0 : Int32) = (0 : Int32))).2) ?_
  show Steps p.tables e below (T3.setTop (mkF m 323 #[s0, s1, s2, .val (.int i3), .val .null, .val (.int (i3 - (48 : Int32))), .val (.int (0 : Int32)), .val (.int (0 : Int32)), .val (.int (0 : Int32)), .val (.int (0 : Int32)), .val (.int (0 : Int32)), .val (.int (0 : Int32)), .val (.int (0 : Int32)), s13] [])) _
  refine XS.iload X3.here hx rfl (hb hby at_323) rfl ?_
  show Steps p.tables e below (T3.setTop (mkF m 325 #[s0, s1, s2, .val (.int i3), .val .null, .val (.int (i3 - (48 : Int32))), .val (.int (0 : Int32)), .val (.int (0 : Int32)), .val (.int (0 : Int32)), .val (.int (0 : Int32)), .val (.int (0 : Int32)), .val (.int (0 : Int32)), .val (.int (0 : Int32)), s13] [(.int (0 : Int32))])) _
  refine XS.ifNo X3.here hx rfl (hb hby at_325) rfl ((if0 _ _).trans (teq (rfl : (0 : Int32) = (0 : Int32))).2) ?_
  show Steps p.tables e below (T3.setTop (mkF m 328 #[s0, s1, s2, .val (.int i3), .val .null, .val (.int (i3 - (48 : Int32))), .val (.int (0 : Int32)), .val (.int (0 : Int32)), .val (.int (0 : Int32)), .val (.int (0 : Int32)), .val (.int (0 : Int32)), .val (.int (0 : Int32)), .val (.int (0 : Int32)), s13] [])) _
  refine XS.iload X3.here hx rfl (hb hby at_328) rfl ?_
  show Steps p.tables e below (T3.setTop (mkF m 330 #[s0, s1, s2, .val (.int i3), .val .null, .val (.int (i3 - (48 : Int32))), .val (.int (0 : Int32)), .val (.int (0 : Int32)), .val (.int (0 : Int32)), .val (.int (0 : Int32)), .val (.int (0 : Int32)), .val (.int (0 : Int32)), .val (.int (0 : Int32)), s13] [(.int (0 : Int32))])) _
  refine XS.ifNo X3.here hx rfl (hb hby at_330) rfl ((if0 _ _).trans (teq (rfl : (0 : Int32) = (0 : Int32))).2) ?_
  show Steps p.tables e below (T3.setTop (mkF m 333 #[s0, s1, s2, .val (.int i3), .val .null, .val (.int (i3 - (48 : Int32))), .val (.int (0 : Int32)), .val (.int (0 : Int32)), .val (.int (0 : Int32)), .val (.int (0 : Int32)), .val (.int (0 : Int32)), .val (.int (0 : Int32)), .val (.int (0 : Int32)), s13] [])) _
  refine XS.iload X3.here hx rfl (hb hby at_333) rfl ?_
  show Steps p.tables e below (T3.setTop (mkF m 335 #[s0, s1, s2, .val (.int i3), .val .null, .val (.int (i3 - (48 : Int32))), .val (.int (0 : Int32)), .val (.int (0 : Int32)), .val (.int (0 : Int32)), .val (.int (0 : Int32)), .val (.int (0 : Int32)), .val (.int (0 : Int32)), .val (.int (0 : Int32)), s13] [(.int (0 : Int32))])) _
  refine XS.ifNo X3.here hx rfl (hb hby at_335) rfl ((if0 _ _).trans (teq (rfl : (0 : Int32) = (0 : Int32))).2) ?_
  show Steps p.tables e below (T3.setTop (mkF m 338 #[s0, s1, s2, .val (.int i3), .val .null, .val (.int (i3 - (48 : Int32))), .val (.int (0 : Int32)), .val (.int (0 : Int32)), .val (.int (0 : Int32)), .val (.int (0 : Int32)), .val (.int (0 : Int32)), .val (.int (0 : Int32)), .val (.int (0 : Int32)), s13] [])) _
  refine XS.iload X3.here hx rfl (hb hby at_338) rfl ?_
  show Steps p.tables e below (T3.setTop (mkF m 340 #[s0, s1, s2, .val (.int i3), .val .null, .val (.int (i3 - (48 : Int32))), .val (.int (0 : Int32)), .val (.int (0 : Int32)), .val (.int (0 : Int32)), .val (.int (0 : Int32)), .val (.int (0 : Int32)), .val (.int (0 : Int32)), .val (.int (0 : Int32)), s13] [(.int (0 : Int32))])) _
  refine XS.ifNo X3.here hx rfl (hb hby at_340) rfl ((if0 _ _).trans (teq (rfl : (0 : Int32) = (0 : Int32))).2) ?_
  show Steps p.tables e below (T3.setTop (mkF m 343 #[s0, s1, s2, .val (.int i3), .val .null, .val (.int (i3 - (48 : Int32))), .val (.int (0 : Int32)), .val (.int (0 : Int32)), .val (.int (0 : Int32)), .val (.int (0 : Int32)), .val (.int (0 : Int32)), .val (.int (0 : Int32)), .val (.int (0 : Int32)), s13] [])) _
  refine XS.iload X3.here hx rfl (hb hby at_343) rfl ?_
  show Steps p.tables e below (T3.setTop (mkF m 345 #[s0, s1, s2, .val (.int i3), .val .null, .val (.int (i3 - (48 : Int32))), .val (.int (0 : Int32)), .val (.int (0 : Int32)), .val (.int (0 : Int32)), .val (.int (0 : Int32)), .val (.int (0 : Int32)), .val (.int (0 : Int32)), .val (.int (0 : Int32)), s13] [(.int (0 : Int32))])) _
  refine XS.ifNo X3.here hx rfl (hb hby at_345) rfl ((if0 _ _).trans (teq (rfl : (0 : Int32) = (0 : Int32))).2) ?_
  show Steps p.tables e below (T3.setTop (mkF m 348 #[s0, s1, s2, .val (.int i3), .val .null, .val (.int (i3 - (48 : Int32))), .val (.int (0 : Int32)), .val (.int (0 : Int32)), .val (.int (0 : Int32)), .val (.int (0 : Int32)), .val (.int (0 : Int32)), .val (.int (0 : Int32)), .val (.int (0 : Int32)), s13] [])) _
  refine XS.iload X3.here hx rfl (hb hby at_348) rfl ?_
  show Steps p.tables e below (T3.setTop (mkF m 350 #[s0, s1, s2, .val (.int i3), .val .null, .val (.int (i3 - (48 : Int32))), .val (.int (0 : Int32)), .val (.int (0 : Int32)), .val (.int (0 : Int32)), .val (.int (0 : Int32)), .val (.int (0 : Int32)), .val (.int (0 : Int32)), .val (.int (0 : Int32)), s13] [(.int (0 : Int32))])) _
  refine XS.ifNo X3.here hx rfl (hb hby at_350) rfl ((if0 _ _).trans (teq (rfl : (0 : Int32) = (0 : Int32))).2) ?_
  show Steps p.tables e below (T3.setTop (mkF m 353 #[s0, s1, s2, .val (.int i3), .val .null, .val (.int (i3 - (48 : Int32))), .val (.int (0 : Int32)), .val (.int (0 : Int32)), .val (.int (0 : Int32)), .val (.int (0 : Int32)), .val (.int (0 : Int32)), .val (.int (0 : Int32)), .val (.int (0 : Int32)), s13] [])) _
  refine XS.iconst X3.here hx rfl (hb hby at_353) ?_
  show Steps p.tables e below (T3.setTop (mkF m 354 #[s0, s1, s2, .val (.int i3), .val .null, .val (.int (i3 - (48 : Int32))), .val (.int (0 : Int32)), .val (.int (0 : Int32)), .val (.int (0 : Int32)), .val (.int (0 : Int32)), .val (.int (0 : Int32)), .val (.int (0 : Int32)), .val (.int (0 : Int32)), s13] [(.int (1 : Int32))])) _
  refine XS.goto X3.here hx rfl (pc0 := 354) (pc' := 358) rfl (hb hby at_354) (by decide) (by decide) ?_
  show Steps p.tables e below (T3.setTop (mkF m 358 #[s0, s1, s2, .val (.int i3), .val .null, .val (.int (i3 - (48 : Int32))), .val (.int (0 : Int32)), .val (.int (0 : Int32)), .val (.int (0 : Int32)), .val (.int (0 : Int32)), .val (.int (0 : Int32)), .val (.int (0 : Int32)), .val (.int (0 : Int32)), s13] [(.int (1 : Int32))])) _
  refine XS.istore X3.here hx rfl (hb hby at_358) rfl (l' := #[s0, s1, s2, .val (.int i3), .val .null, .val (.int (i3 - (48 : Int32))), .val (.int (0 : Int32)), .val (.int (0 : Int32)), .val (.int (0 : Int32)), .val (.int (0 : Int32)), .val (.int (0 : Int32)), .val (.int (0 : Int32)), .val (.int (0 : Int32)), .val (.int (1 : Int32))]) (os0_358 hs13) ?_
  show Steps p.tables e below (T3.setTop (mkF m 360 #[s0, s1, s2, .val (.int i3), .val .null, .val (.int (i3 - (48 : Int32))), .val (.int (0 : Int32)), .val (.int (0 : Int32)), .val (.int (0 : Int32)), .val (.int (0 : Int32)), .val (.int (0 : Int32)), .val (.int (0 : Int32)), .val (.int (0 : Int32)), .val (.int (1 : Int32))] [])) _
  refine XS.aload X3.here hx rfl (hb hby at_360) rfl rfl ?_
  show Steps p.tables e below (T3.setTop (mkF m 362 #[s0, s1, s2, .val (.int i3), .val .null, .val (.int (i3 - (48 : Int32))), .val (.int (0 : Int32)), .val (.int (0 : Int32)), .val (.int (0 : Int32)), .val (.int (0 : Int32)), .val (.int (0 : Int32)), .val (.int (0 : Int32)), .val (.int (0 : Int32)), .val (.int (1 : Int32))] [.null])) _
  refine st5 _ ?_
  show Steps p.tables e below (T5.setTop (mkF m 365 #[s0, s1, s2, .val (.int i3), .val .null, .val (.int (i3 - (48 : Int32))), .val (.int (0 : Int32)), .val (.int (0 : Int32)), .val (.int (0 : Int32)), .val (.int (0 : Int32)), .val (.int (0 : Int32)), .val (.int (0 : Int32)), .val (.int (0 : Int32)), .val (.int (1 : Int32))] [(.ref w4), .null])) _
  refine Jvm.RoadKit.acmp (g := (mkF m 365 #[s0, s1, s2, .val (.int i3), .val .null, .val (.int (i3 - (48 : Int32))), .val (.int (0 : Int32)), .val (.int (0 : Int32)), .val (.int (0 : Int32)), .val (.int (0 : Int32)), .val (.int (0 : Int32)), .val (.int (0 : Int32)), .val (.int (0 : Int32)), .val (.int (1 : Int32))] [(.ref w4), .null])) X5 hx rfl rfl rfl (pc0 := 365) (pc' := 372) (same := false) rfl (hb hby at_365) rfl (decide_eq_false nofun) (by decide) (by decide) ?_
  show Steps p.tables e below (T5.setTop (mkF m 372 #[s0, s1, s2, .val (.int i3), .val .null, .val (.int (i3 - (48 : Int32))), .val (.int (0 : Int32)), .val (.int (0 : Int32)), .val (.int (0 : Int32)), .val (.int (0 : Int32)), .val (.int (0 : Int32)), .val (.int (0 : Int32)), .val (.int (0 : Int32)), .val (.int (1 : Int32))] [])) _
  refine XS.iconst X5.here hx rfl (hb hby at_372) ?_
  show Steps p.tables e below (T5.setTop (mkF m 373 #[s0, s1, s2, .val (.int i3), .val .null, .val (.int (i3 - (48 : Int32))), .val (.int (0 : Int32)), .val (.int (0 : Int32)), .val (.int (0 : Int32)), .val (.int (0 : Int32)), .val (.int (0 : Int32)), .val (.int (0 : Int32)), .val (.int (0 : Int32)), .val (.int (1 : Int32))] [(.int (0 : Int32))])) _
  refine XS.iload X5.here hx rfl (hb hby at_373) rfl ?_
  show Steps p.tables e below (T5.setTop (mkF m 375 #[s0, s1, s2, .val (.int i3), .val .null, .val (.int (i3 - (48 : Int32))), .val (.int (0 : Int32)), .val (.int (0 : Int32)), .val (.int (0 : Int32)), .val (.int (0 : Int32)), .val (.int (0 : Int32)), .val (.int (0 : Int32)), .val (.int (0 : Int32)), .val (.int (1 : Int32))] [(.int (0 : Int32)), (.int (0 : Int32))])) _
  refine XS.icmpNo X5.here hx rfl (hb hby at_375) rfl (teq (rfl : (0 : Int32) = (0 : Int32))).2 ?_
  show Steps p.tables e below (T5.setTop (mkF m 378 #[s0, s1, s2, .val (.int i3), .val .null, .val (.int (i3 - (48 : Int32))), .val (.int (0 : Int32)), .val (.int (0 : Int32)), .val (.int (0 : Int32)), .val (.int (0 : Int32)), .val (.int (0 : Int32)), .val (.int (0 : Int32)), .val (.int (0 : Int32)), .val (.int (1 : Int32))] [])) _
  refine XS.aload X5.here hx rfl (hb hby at_378) rfl rfl ?_
  show Steps p.tables e below (T5.setTop (mkF m 380 #[s0, s1, s2, .val (.int i3), .val .null, .val (.int (i3 - (48 : Int32))), .val (.int (0 : Int32)), .val (.int (0 : Int32)), .val (.int (0 : Int32)), .val (.int (0 : Int32)), .val (.int (0 : Int32)), .val (.int (0 : Int32)), .val (.int (0 : Int32)), .val (.int (1 : Int32))] [.null])) _
  refine st7 _ ?_
  show Steps p.tables e below (T7.setTop (mkF m 383 #[s0, s1, s2, .val (.int i3), .val .null, .val (.int (i3 - (48 : Int32))), .val (.int (0 : Int32)), .val (.int (0 : Int32)), .val (.int (0 : Int32)), .val (.int (0 : Int32)), .val (.int (0 : Int32)), .val (.int (0 : Int32)), .val (.int (0 : Int32)), .val (.int (1 : Int32))] [(.ref w6), .null])) _
  refine Jvm.RoadKit.acmp (g := (mkF m 383 #[s0, s1, s2, .val (.int i3), .val .null, .val (.int (i3 - (48 : Int32))), .val (.int (0 : Int32)), .val (.int (0 : Int32)), .val (.int (0 : Int32)), .val (.int (0 : Int32)), .val (.int (0 : Int32)), .val (.int (0 : Int32)), .val (.int (0 : Int32)), .val (.int (1 : Int32))] [(.ref w6), .null])) X7 hx rfl rfl rfl (pc0 := 383) (pc' := 390) (same := false) rfl (hb hby at_383) rfl (decide_eq_false nofun) (by decide) (by decide) ?_
  show Steps p.tables e below (T7.setTop (mkF m 390 #[s0, s1, s2, .val (.int i3), .val .null, .val (.int (i3 - (48 : Int32))), .val (.int (0 : Int32)), .val (.int (0 : Int32)), .val (.int (0 : Int32)), .val (.int (0 : Int32)), .val (.int (0 : Int32)), .val (.int (0 : Int32)), .val (.int (0 : Int32)), .val (.int (1 : Int32))] [])) _
  refine XS.iconst X7.here hx rfl (hb hby at_390) ?_
  show Steps p.tables e below (T7.setTop (mkF m 391 #[s0, s1, s2, .val (.int i3), .val .null, .val (.int (i3 - (48 : Int32))), .val (.int (0 : Int32)), .val (.int (0 : Int32)), .val (.int (0 : Int32)), .val (.int (0 : Int32)), .val (.int (0 : Int32)), .val (.int (0 : Int32)), .val (.int (0 : Int32)), .val (.int (1 : Int32))] [(.int (0 : Int32))])) _
  refine XS.iload X7.here hx rfl (hb hby at_391) rfl ?_
  show Steps p.tables e below (T7.setTop (mkF m 393 #[s0, s1, s2, .val (.int i3), .val .null, .val (.int (i3 - (48 : Int32))), .val (.int (0 : Int32)), .val (.int (0 : Int32)), .val (.int (0 : Int32)), .val (.int (0 : Int32)), .val (.int (0 : Int32)), .val (.int (0 : Int32)), .val (.int (0 : Int32)), .val (.int (1 : Int32))] [(.int (0 : Int32)), (.int (0 : Int32))])) _
  refine XS.icmpNo X7.here hx rfl (hb hby at_393) rfl (teq (rfl : (0 : Int32) = (0 : Int32))).2 ?_
  show Steps p.tables e below (T7.setTop (mkF m 396 #[s0, s1, s2, .val (.int i3), .val .null, .val (.int (i3 - (48 : Int32))), .val (.int (0 : Int32)), .val (.int (0 : Int32)), .val (.int (0 : Int32)), .val (.int (0 : Int32)), .val (.int (0 : Int32)), .val (.int (0 : Int32)), .val (.int (0 : Int32)), .val (.int (1 : Int32))] [])) _
  refine XS.aload X7.here hx rfl (hb hby at_396) rfl rfl ?_
  show Steps p.tables e below (T7.setTop (mkF m 398 #[s0, s1, s2, .val (.int i3), .val .null, .val (.int (i3 - (48 : Int32))), .val (.int (0 : Int32)), .val (.int (0 : Int32)), .val (.int (0 : Int32)), .val (.int (0 : Int32)), .val (.int (0 : Int32)), .val (.int (0 : Int32)), .val (.int (0 : Int32)), .val (.int (1 : Int32))] [.null])) _
  refine st9 _ ?_
  show Steps p.tables e below (T9.setTop (mkF m 401 #[s0, s1, s2, .val (.int i3), .val .null, .val (.int (i3 - (48 : Int32))), .val (.int (0 : Int32)), .val (.int (0 : Int32)), .val (.int (0 : Int32)), .val (.int (0 : Int32)), .val (.int (0 : Int32)), .val (.int (0 : Int32)), .val (.int (0 : Int32)), .val (.int (1 : Int32))] [(.ref w8), .null])) _
  refine Jvm.RoadKit.acmp (g := (mkF m 401 #[s0, s1, s2, .val (.int i3), .val .null, .val (.int (i3 - (48 : Int32))), .val (.int (0 : Int32)), .val (.int (0 : Int32)), .val (.int (0 : Int32)), .val (.int (0 : Int32)), .val (.int (0 : Int32)), .val (.int (0 : Int32)), .val (.int (0 : Int32)), .val (.int (1 : Int32))] [(.ref w8), .null])) X9 hx rfl rfl rfl (pc0 := 401) (pc' := 408) (same := false) rfl (hb hby at_401) rfl (decide_eq_false nofun) (by decide) (by decide) ?_
  show Steps p.tables e below (T9.setTop (mkF m 408 #[s0, s1, s2, .val (.int i3), .val .null, .val (.int (i3 - (48 : Int32))), .val (.int (0 : Int32)), .val (.int (0 : Int32)), .val (.int (0 : Int32)), .val (.int (0 : Int32)), .val (.int (0 : Int32)), .val (.int (0 : Int32)), .val (.int (0 : Int32)), .val (.int (1 : Int32))] [])) _
  refine XS.iconst X9.here hx rfl (hb hby at_408) ?_
  show Steps p.tables e below (T9.setTop (mkF m 409 #[s0, s1, s2, .val (.int i3), .val .null, .val (.int (i3 - (48 : Int32))), .val (.int (0 : Int32)), .val (.int (0 : Int32)), .val (.int (0 : Int32)), .val (.int (0 : Int32)), .val (.int (0 : Int32)), .val (.int (0 : Int32)), .val (.int (0 : Int32)), .val (.int (1 : Int32))] [(.int (0 : Int32))])) _
  refine XS.iload X9.here hx rfl (hb hby at_409) rfl ?_
  show Steps p.tables e below (T9.setTop (mkF m 411 #[s0, s1, s2, .val (.int i3), .val .null, .val (.int (i3 - (48 : Int32))), .val (.int (0 : Int32)), .val (.int (0 : Int32)), .val (.int (0 : Int32)), .val (.int (0 : Int32)), .val (.int (0 : Int32)), .val (.int (0 : Int32)), .val (.int (0 : Int32)), .val (.int (1 : Int32))] [(.int (0 : Int32)), (.int (0 : Int32))])) _
  refine XS.icmpNo X9.here hx rfl (hb hby at_411) rfl (teq (rfl : (0 : Int32) = (0 : Int32))).2 ?_
  show Steps p.tables e below (T9.setTop (mkF m 414 #[s0, s1, s2, .val (.int i3), .val .null, .val (.int (i3 - (48 : Int32))), .val (.int (0 : Int32)), .val (.int (0 : Int32)), .val (.int (0 : Int32)), .val (.int (0 : Int32)), .val (.int (0 : Int32)), .val (.int (0 : Int32)), .val (.int (0 : Int32)), .val (.int (1 : Int32))] [])) _
  refine XS.aload X9.here hx rfl (hb hby at_414) rfl rfl ?_
  show Steps p.tables e below (T9.setTop (mkF m 416 #[s0, s1, s2, .val (.int i3), .val .null, .val (.int (i3 - (48 : Int32))), .val (.int (0 : Int32)), .val (.int (0 : Int32)), .val (.int (0 : Int32)), .val (.int (0 : Int32)), .val (.int (0 : Int32)), .val (.int (0 : Int32)), .val (.int (0 : Int32)), .val (.int (1 : Int32))] [.null])) _
  refine st11 _ ?_
  show Steps p.tables e below (T11.setTop (mkF m 419 #[s0, s1, s2, .val (.int i3), .val .null, .val (.int (i3 - (48 : Int32))), .val (.int (0 : Int32)), .val (.int (0 : Int32)), .val (.int (0 : Int32)), .val (.int (0 : Int32)), .val (.int (0 : Int32)), .val (.int (0 : Int32)), .val (.int (0 : Int32)), .val (.int (1 : Int32))] [(.ref w10), .null])) _
  refine Jvm.RoadKit.acmp (g := (mkF m 419 #[s0, s1, s2, .val (.int i3), .val .null, .val (.int (i3 - (48 : Int32))), .val (.int (0 : Int32)), .val (.int (0 : Int32)), .val (.int (0 : Int32)), .val (.int (0 : Int32)), .val (.int (0 : Int32)), .val (.int (0 : Int32)), .val (.int (0 : Int32)), .val (.int (1 : Int32))] [(.ref w10), .null])) X11 hx rfl rfl rfl (pc0 := 419) (pc' := 426) (same := false) rfl (hb hby at_419) rfl (decide_eq_false nofun) (by decide) (by decide) ?_
  show Steps p.tables e below (T11.setTop (mkF m 426 #[s0, s1, s2, .val (.int i3), .val .null, .val (.int (i3 - (48 : Int32))), .val (.int (0 : Int32)), .val (.int (0 : Int32)), .val (.int (0 : Int32)), .val (.int (0 : Int32)), .val (.int (0 : Int32)), .val (.int (0 : Int32)), .val (.int (0 : Int32)), .val (.int (1 : Int32))] [])) _
  refine XS.iconst X11.here hx rfl (hb hby at_426) ?_
  show Steps p.tables e below (T11.setTop (mkF m 427 #[s0, s1, s2, .val (.int i3), .val .null, .val (.int (i3 - (48 : Int32))), .val (.int (0 : Int32)), .val (.int (0 : Int32)), .val (.int (0 : Int32)), .val (.int (0 : Int32)), .val (.int (0 : Int32)), .val (.int (0 : Int32)), .val (.int (0 : Int32)), .val (.int (1 : Int32))] [(.int (0 : Int32))])) _
  refine XS.iload X11.here hx rfl (hb hby at_427) rfl ?_
  show Steps p.tables e below (T11.setTop (mkF m 429 #[s0, s1, s2, .val (.int i3), .val .null, .val (.int (i3 - (48 : Int32))), .val (.int (0 : Int32)), .val (.int (0 : Int32)), .val (.int (0 : Int32)), .val (.int (0 : Int32)), .val (.int (0 : Int32)), .val (.int (0 : Int32)), .val (.int (0 : Int32)), .val (.int (1 : Int32))] [(.int (0 : Int32)), (.int (0 : Int32))])) _
  refine XS.icmpNo X11.here hx rfl (hb hby at_429) rfl (teq (rfl : (0 : Int32) = (0 : Int32))).2 ?_
  show Steps p.tables e below (T11.setTop (mkF m 432 #[s0, s1, s2, .val (.int i3), .val .null, .val (.int (i3 - (48 : Int32))), .val (.int (0 : Int32)), .val (.int (0 : Int32)), .val (.int (0 : Int32)), .val (.int (0 : Int32)), .val (.int (0 : Int32)), .val (.int (0 : Int32)), .val (.int (0 : Int32)), .val (.int (1 : Int32))] [])) _
  refine XS.aload X11.here hx rfl (hb hby at_432) rfl rfl ?_
  show Steps p.tables e below (T11.setTop (mkF m 434 #[s0, s1, s2, .val (.int i3), .val .null, .val (.int (i3 - (48 : Int32))), .val (.int (0 : Int32)), .val (.int (0 : Int32)), .val (.int (0 : Int32)), .val (.int (0 : Int32)), .val (.int (0 : Int32)), .val (.int (0 : Int32)), .val (.int (0 : Int32)), .val (.int (1 : Int32))] [.null])) _
  refine st13 _ ?_
  show Steps p.tables e below (T13.setTop (mkF m 437 #[s0, s1, s2, .val (.int i3), .val .null, .val (.int (i3 - (48 : Int32))), .val (.int (0 : Int32)), .val (.int (0 : Int32)), .val (.int (0 : Int32)), .val (.int (0 : Int32)), .val (.int (0 : Int32)), .val (.int (0 : Int32)), .val (.int (0 : Int32)), .val (.int (1 : Int32))] [(.ref w12), .null])) _
  refine Jvm.RoadKit.acmp (g := (mkF m 437 #[s0, s1, s2, .val (.int i3), .val .null, .val (.int (i3 - (48 : Int32))), .val (.int (0 : Int32)), .val (.int (0 : Int32)), .val (.int (0 : Int32)), .val (.int (0 : Int32)), .val (.int (0 : Int32)), .val (.int (0 : Int32)), .val (.int (0 : Int32)), .val (.int (1 : Int32))] [(.ref w12), .null])) X13 hx rfl rfl rfl (pc0 := 437) (pc' := 444) (same := false) rfl (hb hby at_437) rfl (decide_eq_false nofun) (by decide) (by decide) ?_
  show Steps p.tables e below (T13.setTop (mkF m 444 #[s0, s1, s2, .val (.int i3), .val .null, .val (.int (i3 - (48 : Int32))), .val (.int (0 : Int32)), .val (.int (0 : Int32)), .val (.int (0 : Int32)), .val (.int (0 : Int32)), .val (.int (0 : Int32)), .val (.int (0 : Int32)), .val (.int (0 : Int32)), .val (.int (1 : Int32))] [])) _
  refine XS.iconst X13.here hx rfl (hb hby at_444) ?_
  show Steps p.tables e below (T13.setTop (mkF m 445 #[s0, s1, s2, .val (.int i3), .val .null, .val (.int (i3 - (48 : Int32))), .val (.int (0 : Int32)), .val (.int (0 : Int32)), .val (.int (0 : Int32)), .val (.int (0 : Int32)), .val (.int (0 : Int32)), .val (.int (0 : Int32)), .val (.int (0 : Int32)), .val (.int (1 : Int32))] [(.int (0 : Int32))])) _
  refine XS.iload X13.here hx rfl (hb hby at_445) rfl ?_
  show Steps p.tables e below (T13.setTop (mkF m 447 #[s0, s1, s2, .val (.int i3), .val .null, .val (.int (i3 - (48 : Int32))), .val (.int (0 : Int32)), .val (.int (0 : Int32)), .val (.int (0 : Int32)), .val (.int (0 : Int32)), .val (.int (0 : Int32)), .val (.int (0 : Int32)), .val (.int (0 : Int32)), .val (.int (1 : Int32))] [(.int (0 : Int32)), (.int (0 : Int32))])) _
  refine XS.icmpNo X13.here hx rfl (hb hby at_447) rfl (teq (rfl : (0 : Int32) = (0 : Int32))).2 ?_
  show Steps p.tables e below (T13.setTop (mkF m 450 #[s0, s1, s2, .val (.int i3), .val .null, .val (.int (i3 - (48 : Int32))), .val (.int (0 : Int32)), .val (.int (0 : Int32)), .val (.int (0 : Int32)), .val (.int (0 : Int32)), .val (.int (0 : Int32)), .val (.int (0 : Int32)), .val (.int (0 : Int32)), .val (.int (1 : Int32))] [])) _
  refine XS.aload X13.here hx rfl (hb hby at_450) rfl rfl ?_
  show Steps p.tables e below (T13.setTop (mkF m 452 #[s0, s1, s2, .val (.int i3), .val .null, .val (.int (i3 - (48 : Int32))), .val (.int (0 : Int32)), .val (.int (0 : Int32)), .val (.int (0 : Int32)), .val (.int (0 : Int32)), .val (.int (0 : Int32)), .val (.int (0 : Int32)), .val (.int (0 : Int32)), .val (.int (1 : Int32))] [.null])) _
  refine st15 _ ?_
  show Steps p.tables e below (T15.setTop (mkF m 455 #[s0, s1, s2, .val (.int i3), .val .null, .val (.int (i3 - (48 : Int32))), .val (.int (0 : Int32)), .val (.int (0 : Int32)), .val (.int (0 : Int32)), .val (.int (0 : Int32)), .val (.int (0 : Int32)), .val (.int (0 : Int32)), .val (.int (0 : Int32)), .val (.int (1 : Int32))] [(.ref w14), .null])) _
  refine Jvm.RoadKit.acmp (g := (mkF m 455 #[s0, s1, s2, .val (.int i3), .val .null, .val (.int (i3 - (48 : Int32))), .val (.int (0 : Int32)), .val (.int (0 : Int32)), .val (.int (0 : Int32)), .val (.int (0 : Int32)), .val (.int (0 : Int32)), .val (.int (0 : Int32)), .val (.int (0 : Int32)), .val (.int (1 : Int32))] [(.ref w14), .null])) X15 hx rfl rfl rfl (pc0 := 455) (pc' := 462) (same := false) rfl (hb hby at_455) rfl (decide_eq_false nofun) (by decide) (by decide) ?_
  show Steps p.tables e below (T15.setTop (mkF m 462 #[s0, s1, s2, .val (.int i3), .val .null, .val (.int (i3 - (48 : Int32))), .val (.int (0 : Int32)), .val (.int (0 : Int32)), .val (.int (0 : Int32)), .val (.int (0 : Int32)), .val (.int (0 : Int32)), .val (.int (0 : Int32)), .val (.int (0 : Int32)), .val (.int (1 : Int32))] [])) _
  refine XS.iconst X15.here hx rfl (hb hby at_462) ?_
  show Steps p.tables e below (T15.setTop (mkF m 463 #[s0, s1, s2, .val (.int i3), .val .null, .val (.int (i3 - (48 : Int32))), .val (.int (0 : Int32)), .val (.int (0 : Int32)), .val (.int (0 : Int32)), .val (.int (0 : Int32)), .val (.int (0 : Int32)), .val (.int (0 : Int32)), .val (.int (0 : Int32)), .val (.int (1 : Int32))] [(.int (0 : Int32))])) _
  refine XS.iload X15.here hx rfl (hb hby at_463) rfl ?_
  show Steps p.tables e below (T15.setTop (mkF m 465 #[s0, s1, s2, .val (.int i3), .val .null, .val (.int (i3 - (48 : Int32))), .val (.int (0 : Int32)), .val (.int (0 : Int32)), .val (.int (0 : Int32)), .val (.int (0 : Int32)), .val (.int (0 : Int32)), .val (.int (0 : Int32)), .val (.int (0 : Int32)), .val (.int (1 : Int32))] [(.int (0 : Int32)), (.int (0 : Int32))])) _
  refine XS.icmpNo X15.here hx rfl (hb hby at_465) rfl (teq (rfl : (0 : Int32) = (0 : Int32))).2 ?_
  show Steps p.tables e below (T15.setTop (mkF m 468 #[s0, s1, s2, .val (.int i3), .val .null, .val (.int (i3 - (48 : Int32))), .val (.int (0 : Int32)), .val (.int (0 : Int32)), .val (.int (0 : Int32)), .val (.int (0 : Int32)), .val (.int (0 : Int32)), .val (.int (0 : Int32)), .val (.int (0 : Int32)), .val (.int (1 : Int32))] [])) _
  refine XS.aload X15.here hx rfl (hb hby at_468) rfl rfl ?_
  show Steps p.tables e below (T15.setTop (mkF m 470 #[s0, s1, s2, .val (.int i3), .val .null, .val (.int (i3 - (48 : Int32))), .val (.int (0 : Int32)), .val (.int (0 : Int32)), .val (.int (0 : Int32)), .val (.int (0 : Int32)), .val (.int (0 : Int32)), .val (.int (0 : Int32)), .val (.int (0 : Int32)), .val (.int (1 : Int32))] [.null])) _
  refine st17 _ ?_
  show Steps p.tables e below (T17.setTop (mkF m 473 #[s0, s1, s2, .val (.int i3), .val .null, .val (.int (i3 - (48 : Int32))), .val (.int (0 : Int32)), .val (.int (0 : Int32)), .val (.int (0 : Int32)), .val (.int (0 : Int32)), .val (.int (0 : Int32)), .val (.int (0 : Int32)), .val (.int (0 : Int32)), .val (.int (1 : Int32))] [(.ref w16), .null])) _
  refine Jvm.RoadKit.acmp (g := (mkF m 473 #[s0, s1, s2, .val (.int i3), .val .null, .val (.int (i3 - (48 : Int32))), .val (.int (0 : Int32)), .val (.int (0 : Int32)), .val (.int (0 : Int32)), .val (.int (0 : Int32)), .val (.int (0 : Int32)), .val (.int (0 : Int32)), .val (.int (0 : Int32)), .val (.int (1 : Int32))] [(.ref w16), .null])) X17 hx rfl rfl rfl (pc0 := 473) (pc' := 480) (same := false) rfl (hb hby at_473) rfl (decide_eq_false nofun) (by decide) (by decide) ?_
  show Steps p.tables e below (T17.setTop (mkF m 480 #[s0, s1, s2, .val (.int i3), .val .null, .val (.int (i3 - (48 : Int32))), .val (.int (0 : Int32)), .val (.int (0 : Int32)), .val (.int (0 : Int32)), .val (.int (0 : Int32)), .val (.int (0 : Int32)), .val (.int (0 : Int32)), .val (.int (0 : Int32)), .val (.int (1 : Int32))] [])) _
  refine XS.iconst X17.here hx rfl (hb hby at_480) ?_
  show Steps p.tables e below (T17.setTop (mkF m 481 #[s0, s1, s2, .val (.int i3), .val .null, .val (.int (i3 - (48 : Int32))), .val (.int (0 : Int32)), .val (.int (0 : Int32)), .val (.int (0 : Int32)), .val (.int (0 : Int32)), .val (.int (0 : Int32)), .val (.int (0 : Int32)), .val (.int (0 : Int32)), .val (.int (1 : Int32))] [(.int (0 : Int32))])) _
  refine XS.iload X17.here hx rfl (hb hby at_481) rfl ?_
  show Steps p.tables e below (T17.setTop (mkF m 483 #[s0, s1, s2, .val (.int i3), .val .null, .val (.int (i3 - (48 : Int32))), .val (.int (0 : Int32)), .val (.int (0 : Int32)), .val (.int (0 : Int32)), .val (.int (0 : Int32)), .val (.int (0 : Int32)), .val (.int (0 : Int32)), .val (.int (0 : Int32)), .val (.int (1 : Int32))] [(.int (0 : Int32)), (.int (0 : Int32))])) _
  refine XS.icmpNo X17.here hx rfl (hb hby at_483) rfl (teq (rfl : (0 : Int32) = (0 : Int32))).2 ?_
  show Steps p.tables e below (T17.setTop (mkF m 486 #[s0, s1, s2, .val (.int i3), .val .null, .val (.int (i3 - (48 : Int32))), .val (.int (0 : Int32)), .val (.int (0 : Int32)), .val (.int (0 : Int32)), .val (.int (0 : Int32)), .val (.int (0 : Int32)), .val (.int (0 : Int32)), .val (.int (0 : Int32)), .val (.int (1 : Int32))] [])) _
  refine XS.aload X17.here hx rfl (hb hby at_486) rfl rfl ?_
  show Steps p.tables e below (T17.setTop (mkF m 488 #[s0, s1, s2, .val (.int i3), .val .null, .val (.int (i3 - (48 : Int32))), .val (.int (0 : Int32)), .val (.int (0 : Int32)), .val (.int (0 : Int32)), .val (.int (0 : Int32)), .val (.int (0 : Int32)), .val (.int (0 : Int32)), .val (.int (0 : Int32)), .val (.int (1 : Int32))] [.null])) _
  refine XS.ifnonnullNo X17.here hx rfl (hb hby at_488) rfl ?_
  show Steps p.tables e below (T17.setTop (mkF m 491 #[s0, s1, s2, .val (.int i3), .val .null, .val (.int (i3 - (48 : Int32))), .val (.int (0 : Int32)), .val (.int (0 : Int32)), .val (.int (0 : Int32)), .val (.int (0 : Int32)), .val (.int (0 : Int32)), .val (.int (0 : Int32)), .val (.int (0 : Int32)), .val (.int (1 : Int32))] [])) _
  refine XS.iconst X17.here hx rfl (hb hby at_491) ?_
  show Steps p.tables e below (T17.setTop (mkF m 492 #[s0, s1, s2, .val (.int i3), .val .null, .val (.int (i3 - (48 : Int32))), .val (.int (0 : Int32)), .val (.int (0 : Int32)), .val (.int (0 : Int32)), .val (.int (0 : Int32)), .val (.int (0 : Int32)), .val (.int (0 : Int32)), .val (.int (0 : Int32)), .val (.int (1 : Int32))] [(.int (1 : Int32))])) _
  refine XS.goto X17.here hx rfl (pc0 := 492) (pc' := 496) rfl (hb hby at_492) (by decide) (by decide) ?_
  show Steps p.tables e below (T17.setTop (mkF m 496 #[s0, s1, s2, .val (.int i3), .val .null, .val (.int (i3 - (48 : Int32))), .val (.int (0 : Int32)), .val (.int (0 : Int32)), .val (.int (0 : Int32)), .val (.int (0 : Int32)), .val (.int (0 : Int32)), .val (.int (0 : Int32)), .val (.int (0 : Int32)), .val (.int (1 : Int32))] [(.int (1 : Int32))])) _
  refine XS.iload X17.here hx rfl (hb hby at_496) rfl ?_
  show Steps p.tables e below (T17.setTop (mkF m 498 #[s0, s1, s2, .val (.int i3), .val .null, .val (.int (i3 - (48 : Int32))), .val (.int (0 : Int32)), .val (.int (0 : Int32)), .val (.int (0 : Int32)), .val (.int (0 : Int32)), .val (.int (0 : Int32)), .val (.int (0 : Int32)), .val (.int (0 : Int32)), .val (.int (1 : Int32))] [(.int (1 : Int32)), (.int (1 : Int32))])) _
  refine XS.icmpNo X17.here hx rfl (hb hby at_498) rfl (teq (rfl : (1 : Int32) = (1 : Int32))).2 ?_
  show Steps p.tables e below (T17.setTop (mkF m 501 #[s0, s1, s2, .val (.int i3), .val .null, .val (.int (i3 - (48 : Int32))), .val (.int (0 : Int32)), .val (.int (0 : Int32)), .val (.int (0 : Int32)), .val (.int (0 : Int32)), .val (.int (0 : Int32)), .val (.int (0 : Int32)), .val (.int (0 : Int32)), .val (.int (1 : Int32))] [])) _
  refine XS.iconst X17.here hx rfl (hb hby at_501) ?_
  show Steps p.tables e below (T17.setTop (mkF m 502 #[s0, s1, s2, .val (.int i3), .val .null, .val (.int (i3 - (48 : Int32))), .val (.int (0 : Int32)), .val (.int (0 : Int32)), .val (.int (0 : Int32)), .val (.int (0 : Int32)), .val (.int (0 : Int32)), .val (.int (0 : Int32)), .val (.int (0 : Int32)), .val (.int (1 : Int32))] [(.int (1 : Int32))])) _
  refine XS.goto X17.here hx rfl (pc0 := 502) (pc' := 506) rfl (hb hby at_502) (by decide) (by decide) ?_
  exact kt
set_option maxRecDepth 65536 in
set_option maxHeartbeats 40000000 in
theorem own_segC_hi {p : Program} {l : Launch} {e : Env} {s : State} {m : MethodId} {args : Array Value} {below : List Frame} {meth : Method} {c : Code} {T0 : State} {locs : List Loc} {Z : State} {a0 : Array Value} {h0 : Heap} {n0 : Nat} (s0 : Slot) (s1 : Slot) (s2 : Slot) (i3 : Int32) (s4 : Slot) (s5 : Slot) (s6 : Slot) (s7 : Slot) (s8 : Slot) (s9 : Slot) (s10 : Slot) (s11 : Slot) (s12 : Slot) (s13 : Slot) (w4 : Addr) (w6 : Addr) (w8 : Addr) (w10 : Addr) (w12 : Addr) (w14 : Addr) (w16 : Addr)
    (X0 : Stand p l e room_1 s m args below meth c T0 locs 1 30) (hx : p.tables.exec = Jvm.exec) (hZ : Z.Warmed39 s.vm) (hw : ∀ d ∈ tables_1, d.before a0 Z = true) (hby : c.code = code) (hml : c.maxLocals = 14) (hown : s.vm.findClass "com/example/tenkyo/tenkyo/exchange/KindOfPinLaw" = some m.cls) (e0 : T0.heap = h0) (N0 : Fr n0 locs) (hof : MetFree l (⟨"com/example/tenkyo/tenkyo/exchange/Json$Kind", "of", "(C)Lcom/example/tenkyo/tenkyo/exchange/Json$Kind;"⟩ : MethodName) (head1 (Jvm.Cond.code (⟨"com/example/tenkyo/tenkyo/exchange/Json$Kind", "of", "(C)Lcom/example/tenkyo/tenkyo/exchange/Json$Kind;"⟩ : MethodName) prog_14_method_6_code 2 (some (.object "com/example/tenkyo/tenkyo/exchange/Json$Kind")) :: []) ({ frames := 0, cells := 0, slots := 0, locals := 0 } : Room)) (fun a U => a = #[(.int i3)] ∧ Z.Warmed39 U.vm ∧ U.heap = h0) (fun _ _ _ _ _ => True) (fun _ U o U' => ∃ v L, o = .returned v ∧ Qk .null h0 n0 v U'.heap L ∧ FrameEnd U o U' L ({ frames := 0, cells := 0, slots := 0, locals := 0 } : Room).cells ({ frames := 0, cells := 0, slots := 0, locals := 0 } : Room).slots)) (hs4 : One s4) (hs5 : One s5) (hs6 : One s6) (hs7 : One s7) (hs8 : One s8) (hs9 : One s9) (hs10 : One s10) (hs11 : One s11) (hs12 : One s12) (hs13 : One s13) (S_OBJECT : Sta Z h0 "com/example/tenkyo/tenkyo/exchange/Json$Kind" "OBJECT" "Lcom/example/tenkyo/tenkyo/exchange/Json$Kind;" (.ref w4)) (S_ARRAY : Sta Z h0 "com/example/tenkyo/tenkyo/exchange/Json$Kind" "ARRAY" "Lcom/example/tenkyo/tenkyo/exchange/Json$Kind;" (.ref w6)) (S_STRING : Sta Z h0 "com/example/tenkyo/tenkyo/exchange/Json$Kind" "STRING" "Lcom/example/tenkyo/tenkyo/exchange/Json$Kind;" (.ref w8)) (S_NUMBER : Sta Z h0 "com/example/tenkyo/tenkyo/exchange/Json$Kind" "NUMBER" "Lcom/example/tenkyo/tenkyo/exchange/Json$Kind;" (.ref w10)) (S_TRUE : Sta Z h0 "com/example/tenkyo/tenkyo/exchange/Json$Kind" "TRUE" "Lcom/example/tenkyo/tenkyo/exchange/Json$Kind;" (.ref w12)) (S_FALSE : Sta Z h0 "com/example/tenkyo/tenkyo/exchange/Json$Kind" "FALSE" "Lcom/example/tenkyo/tenkyo/exchange/Json$Kind;" (.ref w14)) (S_NULL : Sta Z h0 "com/example/tenkyo/tenkyo/exchange/Json$Kind" "NULL" "Lcom/example/tenkyo/tenkyo/exchange/Json$Kind;" (.ref w16)) (hc218 : ¬ (i3 = (123 : Int32))) (hc231 : ¬ (i3 = (91 : Int32))) (hc244 : ¬ (i3 = (34 : Int32))) (hc257 : ¬ (i3 = (45 : Int32))) (hc262 : ¬ ((i3 - (48 : Int32)) < (0 : Int32))) (hc269 : ¬ ((i3 - (48 : Int32)) < (10 : Int32))) (hc282 : ¬ (i3 = (116 : Int32))) (hc295 : ¬ (i3 = (102 : Int32))) (hc308 : ¬ (i3 = (110 : Int32))) :
    ∃ (T' : State) (L' : List Loc) (Ls : Array Slot), Stand p l e room_1 s m args below meth c T' L' 1 30 ∧ Fr n0 L' ∧
      ∀ target, Steps p.tables e below (T'.setTop (mkF m 506 Ls [(.int (1 : Int32))])) target → Steps p.tables e below (T0.setTop (mkF m 203 #[s0, s1, s2, .val (.int i3), s4, s5, s6, s7, s8, s9, s10, s11, s12, s13] [])) target := by
  obtain ⟨_, _, ⟨T3, L3, k3, n3⟩, -, X3, ⟨Lc3, hQ3, l3, y3, z3⟩, st3⟩ := Jvm.LawKit.callS X0 hx (y := (⟨"com/example/tenkyo/tenkyo/exchange/Json$Kind", "of", "(C)Lcom/example/tenkyo/tenkyo/exchange/Json$Kind;"⟩ : MethodName)) hown (mvT hZ (hw _ (List.mem_of_getElem? (i := 3) rfl))) (mvT hZ (hw _ (List.mem_of_getElem? (i := 4) rfl))) (mvT hZ (hw _ (List.mem_of_getElem? (i := 5) rfl))) (mvT hZ (hw _ (List.mem_of_getElem? (i := 6) rfl))) (by decide) (backOf (W := 0) hof hZ (hw _ (List.mem_of_getElem? (i := 6) rfl)) (hw _ (List.mem_of_getElem? (i := 5) rfl)) (by decide) (by decide)) (g := (mkF m 204 #[s0, s1, s2, .val (.int i3), s4, s5, s6, s7, s8, s9, s10, s11, s12, s13] [(.int i3)])) rfl (by rw [hml]; rfl) (argsL := [(.int i3)]) (rest := []) (lenOf pd_0_0 rfl) rfl (by show 2 * 0 + _ ≤ _; exact Nat.le_of_eq rfl) (hb hby at_204) (fun _ _ => ⟨rfl, e0, (by decide : 1 + 0 ≤ _), (by decide : 30 + 0 ≤ _)⟩)
  dsimp only [Pt.U, Pt.locs, Pt.cells, Pt.slots] at X3 l3 y3 z3 st3 hQ3
  subst l3 y3 z3
  obtain ⟨rfl, N3q, e3⟩ := hQ3
  have N3 := Fr.app N0 N3q
  obtain ⟨T5, X5, e5, st5⟩ := getS2 X3 hx hZ hown (host := "") (Or.inl (hw _ (List.mem_of_getElem? (i := 9) rfl))) Via.refl e3 S_OBJECT (g := (mkF m 362 #[s0, s1, s2, .val (.int i3), .val .null, .val (.int (i3 - (48 : Int32))), .val (.int (0 : Int32)), .val (.int (0 : Int32)), .val (.int (0 : Int32)), .val (.int (0 : Int32)), .val (.int (0 : Int32)), .val (.int (0 : Int32)), .val (.int (0 : Int32)), .val (.int (1 : Int32))] [.null])) rfl (hb hby at_362)
  obtain ⟨T7, X7, e7, st7⟩ := getS2 X5 hx hZ hown (host := "") (Or.inl (hw _ (List.mem_of_getElem? (i := 10) rfl))) Via.refl e5 S_ARRAY (g := (mkF m 380 #[s0, s1, s2, .val (.int i3), .val .null, .val (.int (i3 - (48 : Int32))), .val (.int (0 : Int32)), .val (.int (0 : Int32)), .val (.int (0 : Int32)), .val (.int (0 : Int32)), .val (.int (0 : Int32)), .val (.int (0 : Int32)), .val (.int (0 : Int32)), .val (.int (1 : Int32))] [.null])) rfl (hb hby at_380)
  obtain ⟨T9, X9, e9, st9⟩ := getS2 X7 hx hZ hown (host := "") (Or.inl (hw _ (List.mem_of_getElem? (i := 12) rfl))) Via.refl e7 S_STRING (g := (mkF m 398 #[s0, s1, s2, .val (.int i3), .val .null, .val (.int (i3 - (48 : Int32))), .val (.int (0 : Int32)), .val (.int (0 : Int32)), .val (.int (0 : Int32)), .val (.int (0 : Int32)), .val (.int (0 : Int32)), .val (.int (0 : Int32)), .val (.int (0 : Int32)), .val (.int (1 : Int32))] [.null])) rfl (hb hby at_398)
  obtain ⟨T11, X11, e11, st11⟩ := getS2 X9 hx hZ hown (host := "") (Or.inl (hw _ (List.mem_of_getElem? (i := 14) rfl))) Via.refl e9 S_NUMBER (g := (mkF m 416 #[s0, s1, s2, .val (.int i3), .val .null, .val (.int (i3 - (48 : Int32))), .val (.int (0 : Int32)), .val (.int (0 : Int32)), .val (.int (0 : Int32)), .val (.int (0 : Int32)), .val (.int (0 : Int32)), .val (.int (0 : Int32)), .val (.int (0 : Int32)), .val (.int (1 : Int32))] [.null])) rfl (hb hby at_416)
  obtain ⟨T13, X13, e13, st13⟩ := getS2 X11 hx hZ hown (host := "") (Or.inl (hw _ (List.mem_of_getElem? (i := 16) rfl))) Via.refl e11 S_TRUE (g := (mkF m 434 #[s0, s1, s2, .val (.int i3), .val .null, .val (.int (i3 - (48 : Int32))), .val (.int (0 : Int32)), .val (.int (0 : Int32)), .val (.int (0 : Int32)), .val (.int (0 : Int32)), .val (.int (0 : Int32)), .val (.int (0 : Int32)), .val (.int (0 : Int32)), .val (.int (1 : Int32))] [.null])) rfl (hb hby at_434)
  obtain ⟨T15, X15, e15, st15⟩ := getS2 X13 hx hZ hown (host := "") (Or.inl (hw _ (List.mem_of_getElem? (i := 18) rfl))) Via.refl e13 S_FALSE (g := (mkF m 452 #[s0, s1, s2, .val (.int i3), .val .null, .val (.int (i3 - (48 : Int32))), .val (.int (0 : Int32)), .val (.int (0 : Int32)), .val (.int (0 : Int32)), .val (.int (0 : Int32)), .val (.int (0 : Int32)), .val (.int (0 : Int32)), .val (.int (0 : Int32)), .val (.int (1 : Int32))] [.null])) rfl (hb hby at_452)
  obtain ⟨T17, X17, e17, st17⟩ := getS2 X15 hx hZ hown (host := "") (Or.inl (hw _ (List.mem_of_getElem? (i := 20) rfl))) Via.refl e15 S_NULL (g := (mkF m 470 #[s0, s1, s2, .val (.int i3), .val .null, .val (.int (i3 - (48 : Int32))), .val (.int (0 : Int32)), .val (.int (0 : Int32)), .val (.int (0 : Int32)), .val (.int (0 : Int32)), .val (.int (0 : Int32)), .val (.int (0 : Int32)), .val (.int (0 : Int32)), .val (.int (1 : Int32))] [.null])) rfl (hb hby at_470)
  refine ⟨T17, _, #[s0, s1, s2, .val (.int i3), .val .null, .val (.int (i3 - (48 : Int32))), .val (.int (0 : Int32)), .val (.int (0 : Int32)), .val (.int (0 : Int32)), .val (.int (0 : Int32)), .val (.int (0 : Int32)), .val (.int (0 : Int32)), .val (.int (0 : Int32)), .val (.int (1 : Int32))], X17, N3, fun target kt => ?_⟩
  show Steps p.tables e below (T0.setTop (mkF m 203 #[s0, s1, s2, .val (.int i3), s4, s5, s6, s7, s8, s9, s10, s11, s12, s13] [])) _
  refine XS.iloadN X0.here hx rfl (hb hby at_203) rfl ?_
  show Steps p.tables e below (T0.setTop (mkF m 204 #[s0, s1, s2, .val (.int i3), s4, s5, s6, s7, s8, s9, s10, s11, s12, s13] [(.int i3)])) _
  refine st3 _ ?_
  show Steps p.tables e below (T3.setTop (mkF m 207 #[s0, s1, s2, .val (.int i3), s4, s5, s6, s7, s8, s9, s10, s11, s12, s13] [.null])) _
  refine XS.astore X3.here hx rfl (hb hby at_207) rfl rfl (l' := #[s0, s1, s2, .val (.int i3), .val .null, s5, s6, s7, s8, s9, s10, s11, s12, s13]) (os0_207n hs4) ?_
  show Steps p.tables e below (T3.setTop (mkF m 209 #[s0, s1, s2, .val (.int i3), .val .null, s5, s6, s7, s8, s9, s10, s11, s12, s13] [])) _
  refine XS.iloadN X3.here hx rfl (hb hby at_209) rfl ?_
  show Steps p.tables e below (T3.setTop (mkF m 210 #[s0, s1, s2, .val (.int i3), .val .null, s5, s6, s7, s8, s9, s10, s11, s12, s13] [(.int i3)])) _
  refine XS.bipush X3.here hx rfl (hb hby at_210) ?_
  show Steps p.tables e below (T3.setTop (mkF m 212 #[s0, s1, s2, .val (.int i3), .val .null, s5, s6, s7, s8, s9, s10, s11, s12, s13] [(.int (48 : Int32)), (.int i3)])) _
  refine XS.isub X3.here hx rfl (hb hby at_212) rfl ?_
  show Steps p.tables e below (T3.setTop (mkF m 213 #[s0, s1, s2, .val (.int i3), .val .null, s5, s6, s7, s8, s9, s10, s11, s12, s13] [(.int (i3 - (48 : Int32)))])) _
  refine XS.istore X3.here hx rfl (hb hby at_213) rfl (l' := #[s0, s1, s2, .val (.int i3), .val .null, .val (.int (i3 - (48 : Int32))), s6, s7, s8, s9, s10, s11, s12, s13]) (os0_213 hs5) ?_
  show Steps p.tables e below (T3.setTop (mkF m 215 #[s0, s1, s2, .val (.int i3), .val .null, .val (.int (i3 - (48 : Int32))), s6, s7, s8, s9, s10, s11, s12, s13] [])) _
  refine XS.iloadN X3.here hx rfl (hb hby at_215) rfl ?_
  show Steps p.tables e below (T3.setTop (mkF m 216 #[s0, s1, s2, .val (.int i3), .val .null, .val (.int (i3 - (48 : Int32))), s6, s7, s8, s9, s10, s11, s12, s13] [(.int i3)])) _
  refine XS.bipush X3.here hx rfl (hb hby at_216) ?_
  show Steps p.tables e below (T3.setTop (mkF m 218 #[s0, s1, s2, .val (.int i3), .val .null, .val (.int (i3 - (48 : Int32))), s6, s7, s8, s9, s10, s11, s12, s13] [(.int (123 : Int32)), (.int i3)])) _
  refine XS.icmpYes X3.here hx rfl (pc0 := 218) (pc' := 225) rfl (hb hby at_218) rfl (feq hc218).2 (by decide) (by decide) ?_
  show Steps p.tables e below (T3.setTop (mkF m 225 #[s0, s1, s2, .val (.int i3), .val .null, .val (.int (i3 - (48 : Int32))), s6, s7, s8, s9, s10, s11, s12, s13] [])) _
  refine XS.iconst X3.here hx rfl (hb hby at_225) ?_
  show Steps p.tables e below (T3.setTop (mkF m 226 #[s0, s1, s2, .val (.int i3), .val .null, .val (.int (i3 - (48 : Int32))), s6, s7, s8, s9, s10, s11, s12, s13] [(.int (0 : Int32))])) _
  refine XS.istore X3.here hx rfl (hb hby at_226) rfl (l' := #[s0, s1, s2, .val (.int i3), .val .null, .val (.int (i3 - (48 : Int32))), .val (.int (0 : Int32)), s7, s8, s9, s10, s11, s12, s13]) (os0_226 hs6) ?_
  show Steps p.tables e below (T3.setTop (mkF m 228 #[s0, s1, s2, .val (.int i3), .val .null, .val (.int (i3 - (48 : Int32))), .val (.int (0 : Int32)), s7, s8, s9, s10, s11, s12, s13] [])) _
  refine XS.iloadN X3.here hx rfl (hb hby at_228) rfl ?_
  show Steps p.tables e below (T3.setTop (mkF m 229 #[s0, s1, s2, .val (.int i3), .val .null, .val (.int (i3 - (48 : Int32))), .val (.int (0 : Int32)), s7, s8, s9, s10, s11, s12, s13] [(.int i3)])) _
  refine XS.bipush X3.here hx rfl (hb hby at_229) ?_
  show Steps p.tables e below (T3.setTop (mkF m 231 #[s0, s1, s2, .val (.int i3), .val .null, .val (.int (i3 - (48 : Int32))), .val (.int (0 : Int32)), s7, s8, s9, s10, s11, s12, s13] [(.int (91 : Int32)), (.int i3)])) _
  refine XS.icmpYes X3.here hx rfl (pc0 := 231) (pc' := 238) rfl (hb hby at_231) rfl (feq hc231).2 (by decide) (by decide) ?_
  show Steps p.tables e below (T3.setTop (mkF m 238 #[s0, s1, s2, .val (.int i3), .val .null, .val (.int (i3 - (48 : Int32))), .val (.int (0 : Int32)), s7, s8, s9, s10, s11, s12, s13] [])) _
  refine XS.iconst X3.here hx rfl (hb hby at_238) ?_
  show Steps p.tables e below (T3.setTop (mkF m 239 #[s0, s1, s2, .val (.int i3), .val .null, .val (.int (i3 - (48 : Int32))), .val (.int (0 : Int32)), s7, s8, s9, s10, s11, s12, s13] [(.int (0 : Int32))])) _
  refine XS.istore X3.here hx rfl (hb hby at_239) rfl (l' := #[s0, s1, s2, .val (.int i3), .val .null, .val (.int (i3 - (48 : Int32))), .val (.int (0 : Int32)), .val (.int (0 : Int32)), s8, s9, s10, s11, s12, s13]) (os0_239 hs7) ?_
  show Steps p.tables e below (T3.setTop (mkF m 241 #[s0, s1, s2, .val (.int i3), .val .null, .val (.int (i3 - (48 : Int32))), .val (.int (0 : Int32)), .val (.int (0 : Int32)), s8, s9, s10, s11, s12, s13] [])) _
  refine XS.iloadN X3.here hx rfl (hb hby at_241) rfl ?_
  show Steps p.tables e below (T3.setTop (mkF m 242 #[s0, s1, s2, .val (.int i3), .val .null, .val (.int (i3 - (48 : Int32))), .val (.int (0 : Int32)), .val (.int (0 : Int32)), s8, s9, s10, s11, s12, s13] [(.int i3)])) _
  refine XS.bipush X3.here hx rfl (hb hby at_242) ?_
  show Steps p.tables e below (T3.setTop (mkF m 244 #[s0, s1, s2, .val (.int i3), .val .null, .val (.int (i3 - (48 : Int32))), .val (.int (0 : Int32)), .val (.int (0 : Int32)), s8, s9, s10, s11, s12, s13] [(.int (34 : Int32)), (.int i3)])) _
  refine XS.icmpYes X3.here hx rfl (pc0 := 244) (pc' := 251) rfl (hb hby at_244) rfl (feq hc244).2 (by decide) (by decide) ?_
  show Steps p.tables e below (T3.setTop (mkF m 251 #[s0, s1, s2, .val (.int i3), .val .null, .val (.int (i3 - (48 : Int32))), .val (.int (0 : Int32)), .val (.int (0 : Int32)), s8, s9, s10, s11, s12, s13] [])) _
  refine XS.iconst X3.here hx rfl (hb hby at_251) ?_
  show Steps p.tables e below (T3.setTop (mkF m 252 #[s0, s1, s2, .val (.int i3), .val .null, .val (.int (i3 - (48 : Int32))), .val (.int (0 : Int32)), .val (.int (0 : Int32)), s8, s9, s10, s11, s12, s13] [(.int (0 : Int32))])) _
  refine XS.istore X3.here hx rfl (hb hby at_252) rfl (l' := #[s0, s1, s2, .val (.int i3), .val .null, .val (.int (i3 - (48 : Int32))), .val (.int (0 : Int32)), .val (.int (0 : Int32)), .val (.int (0 : Int32)), s9, s10, s11, s12, s13]) (os0_252 hs8) ?_
  show Steps p.tables e below (T3.setTop (mkF m 254 #[s0, s1, s2, .val (.int i3), .val .null, .val (.int (i3 - (48 : Int32))), .val (.int (0 : Int32)), .val (.int (0 : Int32)), .val (.int (0 : Int32)), s9, s10, s11, s12, s13] [])) _
  refine XS.iloadN X3.here hx rfl (hb hby at_254) rfl ?_
  show Steps p.tables e below (T3.setTop (mkF m 255 #[s0, s1, s2, .val (.int i3), .val .null, .val (.int (i3 - (48 : Int32))), .val (.int (0 : Int32)), .val (.int (0 : Int32)), .val (.int (0 : Int32)), s9, s10, s11, s12, s13] [(.int i3)])) _
  refine XS.bipush X3.here hx rfl (hb hby at_255) ?_
  show Steps p.tables e below (T3.setTop (mkF m 257 #[s0, s1, s2, .val (.int i3), .val .null, .val (.int (i3 - (48 : Int32))), .val (.int (0 : Int32)), .val (.int (0 : Int32)), .val (.int (0 : Int32)), s9, s10, s11, s12, s13] [(.int (45 : Int32)), (.int i3)])) _
  refine XS.icmpNo X3.here hx rfl (hb hby at_257) rfl (feq hc257).1 ?_
  show Steps p.tables e below (T3.setTop (mkF m 260 #[s0, s1, s2, .val (.int i3), .val .null, .val (.int (i3 - (48 : Int32))), .val (.int (0 : Int32)), .val (.int (0 : Int32)), .val (.int (0 : Int32)), s9, s10, s11, s12, s13] [])) _
  refine XS.iload X3.here hx rfl (hb hby at_260) rfl ?_
  show Steps p.tables e below (T3.setTop (mkF m 262 #[s0, s1, s2, .val (.int i3), .val .null, .val (.int (i3 - (48 : Int32))), .val (.int (0 : Int32)), .val (.int (0 : Int32)), .val (.int (0 : Int32)), s9, s10, s11, s12, s13] [(.int (i3 - (48 : Int32)))])) _
  refine XS.ifNo X3.here hx rfl (hb hby at_262) rfl ((if0 _ _).trans (flt hc262).1) ?_
  show Steps p.tables e below (T3.setTop (mkF m 265 #[s0, s1, s2, .val (.int i3), .val .null, .val (.int (i3 - (48 : Int32))), .val (.int (0 : Int32)), .val (.int (0 : Int32)), .val (.int (0 : Int32)), s9, s10, s11, s12, s13] [])) _
  refine XS.iload X3.here hx rfl (hb hby at_265) rfl ?_
  show Steps p.tables e below (T3.setTop (mkF m 267 #[s0, s1, s2, .val (.int i3), .val .null, .val (.int (i3 - (48 : Int32))), .val (.int (0 : Int32)), .val (.int (0 : Int32)), .val (.int (0 : Int32)), s9, s10, s11, s12, s13] [(.int (i3 - (48 : Int32)))])) _
  refine XS.bipush X3.here hx rfl (hb hby at_267) ?_
  show Steps p.tables e below (T3.setTop (mkF m 269 #[s0, s1, s2, .val (.int i3), .val .null, .val (.int (i3 - (48 : Int32))), .val (.int (0 : Int32)), .val (.int (0 : Int32)), .val (.int (0 : Int32)), s9, s10, s11, s12, s13] [(.int (10 : Int32)), (.int (i3 - (48 : Int32)))])) _
  refine XS.icmpYes X3.here hx rfl (pc0 := 269) (pc' := 276) rfl (hb hby at_269) rfl (flt hc269).2.1 (by decide) (by decide) ?_
  show Steps p.tables e below (T3.setTop (mkF m 276 #[s0, s1, s2, .val (.int i3), .val .null, .val (.int (i3 - (48 : Int32))), .val (.int (0 : Int32)), .val (.int (0 : Int32)), .val (.int (0 : Int32)), s9, s10, s11, s12, s13] [])) _
  refine XS.iconst X3.here hx rfl (hb hby at_276) ?_
  show Steps p.tables e below (T3.setTop (mkF m 277 #[s0, s1, s2, .val (.int i3), .val .null, .val (.int (i3 - (48 : Int32))), .val (.int (0 : Int32)), .val (.int (0 : Int32)), .val (.int (0 : Int32)), s9, s10, s11, s12, s13] [(.int (0 : Int32))])) _
  refine XS.istore X3.here hx rfl (hb hby at_277) rfl (l' := #[s0, s1, s2, .val (.int i3), .val .null, .val (.int (i3 - (48 : Int32))), .val (.int (0 : Int32)), .val (.int (0 : Int32)), .val (.int (0 : Int32)), .val (.int (0 : Int32)), s10, s11, s12, s13]) (os0_277 hs9) ?_
  show Steps p.tables e below (T3.setTop (mkF m 279 #[s0, s1, s2, .val (.int i3), .val .null, .val (.int (i3 - (48 : Int32))), .val (.int (0 : Int32)), .val (.int (0 : Int32)), .val (.int (0 : Int32)), .val (.int (0 : Int32)), s10, s11, s12, s13] [])) _
  refine XS.iloadN X3.here hx rfl (hb hby at_279) rfl ?_
  show Steps p.tables e below (T3.setTop (mkF m 280 #[s0, s1, s2, .val (.int i3), .val .null, .val (.int (i3 - (48 : Int32))), .val (.int (0 : Int32)), .val (.int (0 : Int32)), .val (.int (0 : Int32)), .val (.int (0 : Int32)), s10, s11, s12, s13] [(.int i3)])) _
  refine XS.bipush X3.here hx rfl (hb hby at_280) ?_
  show Steps p.tables e below (T3.setTop (mkF m 282 #[s0, s1, s2, .val (.int i3), .val .null, .val (.int (i3 - (48 : Int32))), .val (.int (0 : Int32)), .val (.int (0 : Int32)), .val (.int (0 : Int32)), .val (.int (0 : Int32)), s10, s11, s12, s13] [(.int (116 : Int32)), (.int i3)])) _
  refine XS.icmpYes X3.here hx rfl (pc0 := 282) (pc' := 289) rfl (hb hby at_282) rfl (feq hc282).2 (by decide) (by decide) ?_
  show Steps p.tables e below (T3.setTop (mkF m 289 #[s0, s1, s2, .val (.int i3), .val .null, .val (.int (i3 - (48 : Int32))), .val (.int (0 : Int32)), .val (.int (0 : Int32)), .val (.int (0 : Int32)), .val (.int (0 : Int32)), s10, s11, s12, s13] [])) _
  refine XS.iconst X3.here hx rfl (hb hby at_289) ?_
  show Steps p.tables e below (T3.setTop (mkF m 290 #[s0, s1, s2, .val (.int i3), .val .null, .val (.int (i3 - (48 : Int32))), .val (.int (0 : Int32)), .val (.int (0 : Int32)), .val (.int (0 : Int32)), .val (.int (0 : Int32)), s10, s11, s12, s13] [(.int (0 : Int32))])) _
  refine XS.istore X3.here hx rfl (hb hby at_290) rfl (l' := #[s0, s1, s2, .val (.int i3), .val .null, .val (.int (i3 - (48 : Int32))), .val (.int (0 : Int32)), .val (.int (0 : Int32)), .val (.int (0 : Int32)), .val (.int (0 : Int32)), .val (.int (0 : Int32)), s11, s12, s13]) (os0_290 hs10) ?_
  show Steps p.tables e below (T3.setTop (mkF m 292 #[s0, s1, s2, .val (.int i3), .val .null, .val (.int (i3 - (48 : Int32))), .val (.int (0 : Int32)), .val (.int (0 : Int32)), .val (.int (0 : Int32)), .val (.int (0 : Int32)), .val (.int (0 : Int32)), s11, s12, s13] [])) _
  refine XS.iloadN X3.here hx rfl (hb hby at_292) rfl ?_
  show Steps p.tables e below (T3.setTop (mkF m 293 #[s0, s1, s2, .val (.int i3), .val .null, .val (.int (i3 - (48 : Int32))), .val (.int (0 : Int32)), .val (.int (0 : Int32)), .val (.int (0 : Int32)), .val (.int (0 : Int32)), .val (.int (0 : Int32)), s11, s12, s13] [(.int i3)])) _
  refine XS.bipush X3.here hx rfl (hb hby at_293) ?_
  show Steps p.tables e below (T3.setTop (mkF m 295 #[s0, s1, s2, .val (.int i3), .val .null, .val (.int (i3 - (48 : Int32))), .val (.int (0 : Int32)), .val (.int (0 : Int32)), .val (.int (0 : Int32)), .val (.int (0 : Int32)), .val (.int (0 : Int32)), s11, s12, s13] [(.int (102 : Int32)), (.int i3)])) _
  refine XS.icmpYes X3.here hx rfl (pc0 := 295) (pc' := 302) rfl (hb hby at_295) rfl (feq hc295).2 (by decide) (by decide) ?_
  show Steps p.tables e below (T3.setTop (mkF m 302 #[s0, s1, s2, .val (.int i3), .val .null, .val (.int (i3 - (48 : Int32))), .val (.int (0 : Int32)), .val (.int (0 : Int32)), .val (.int (0 : Int32)), .val (.int (0 : Int32)), .val (.int (0 : Int32)), s11, s12, s13] [])) _
  refine XS.iconst X3.here hx rfl (hb hby at_302) ?_
  show Steps p.tables e below (T3.setTop (mkF m 303 #[s0, s1, s2, .val (.int i3), .val .null, .val (.int (i3 - (48 : Int32))), .val (.int (0 : Int32)), .val (.int (0 : Int32)), .val (.int (0 : Int32)), .val (.int (0 : Int32)), .val (.int (0 : Int32)), s11, s12, s13] [(.int (0 : Int32))])) _
  refine XS.istore X3.here hx rfl (hb hby at_303) rfl (l' := #[s0, s1, s2, .val (.int i3), .val .null, .val (.int (i3 - (48 : Int32))), .val (.int (0 : Int32)), .val (.int (0 : Int32)), .val (.int (0 : Int32)), .val (.int (0 : Int32)), .val (.int (0 : Int32)), .val (.int (0 : Int32)), s12, s13]) (os0_303 hs11) ?_
  show Steps p.tables e below (T3.setTop (mkF m 305 #[s0, s1, s2, .val (.int i3), .val .null, .val (.int (i3 - (48 : Int32))), .val (.int (0 : Int32)), .val (.int (0 : Int32)), .val (.int (0 : Int32)), .val (.int (0 : Int32)), .val (.int (0 : Int32)), .val (.int (0 : Int32)), s12, s13] [])) _
  refine XS.iloadN X3.here hx rfl (hb hby at_305) rfl ?_
  show Steps p.tables e below (T3.setTop (mkF m 306 #[s0, s1, s2, .val (.int i3), .val .null, .val (.int (i3 - (48 : Int32))), .val (.int (0 : Int32)), .val (.int (0 : Int32)), .val (.int (0 : Int32)), .val (.int (0 : Int32)), .val (.int (0 : Int32)), .val (.int (0 : Int32)), s12, s13] [(.int i3)])) _
  refine XS.bipush X3.here hx rfl (hb hby at_306) ?_
  show Steps p.tables e below (T3.setTop (mkF m 308 #[s0, s1, s2, .val (.int i3), .val .null, .val (.int (i3 - (48 : Int32))), .val (.int (0 : Int32)), .val (.int (0 : Int32)), .val (.int (0 : Int32)), .val (.int (0 : Int32)), .val (.int (0 : Int32)), .val (.int (0 : Int32)), s12, s13] [(.int (110 : Int32)), (.int i3)])) _
  refine XS.icmpYes X3.here hx rfl (pc0 := 308) (pc' := 315) rfl (hb hby at_308) rfl (feq hc308).2 (by decide) (by decide) ?_
  show Steps p.tables e below (T3.setTop (mkF m 315 #[s0, s1, s2, .val (.int i3), .val .null, .val (.int (i3 - (48 : Int32))), .val (.int (0 : Int32)), .val (.int (0 : Int32)), .val (.int (0 : Int32)), .val (.int (0 : Int32)), .val (.int (0 : Int32)), .val (.int (0 : Int32)), s12, s13] [])) _
  refine XS.iconst X3.here hx rfl (hb hby at_315) ?_
  show Steps p.tables e below (T3.setTop (mkF m 316 #[s0, s1, s2, .val (.int i3), .val .null, .val (.int (i3 - (48 : Int32))), .val (.int (0 : Int32)), .val (.int (0 : Int32)), .val (.int (0 : Int32)), .val (.int (0 : Int32)), .val (.int (0 : Int32)), .val (.int (0 : Int32)), s12, s13] [(.int (0 : Int32))])) _
  refine XS.istore X3.here hx rfl (hb hby at_316) rfl (l' := #[s0, s1, s2, .val (.int i3), .val .null, .val (.int (i3 - (48 : Int32))), .val (.int (0 : Int32)), .val (.int (0 : Int32)), .val (.int (0 : Int32)), .val (.int (0 : Int32)), .val (.int (0 : Int32)), .val (.int (0 : Int32)), .val (.int (0 : Int32)), s13]) (os0_316 hs12) ?_
  show Steps p.tables e below (T3.setTop (mkF m 318 #[s0, s1, s2, .val (.int i3), .val .null, .val (.int (i3 - (48 : Int32))), .val (.int (0 : Int32)), .val (.int (0 : Int32)), .val (.int (0 : Int32)), .val (.int (0 : Int32)), .val (.int (0 : Int32)), .val (.int (0 : Int32)), .val (.int (0 : Int32)), s13] [])) _
  refine XS.iload X3.here hx rfl (hb hby at_318) rfl ?_
  show Steps p.tables e below (T3.setTop (mkF m 320 #[s0, s1, s2, .val (.int i3), .val .null, .val (.int (i3 - (48 : Int32))), .val (.int (0 : Int32)), .val (.int (0 : Int32)), .val (.int (0 : Int32)), .val (.int (0 : Int32)), .val (.int (0 : Int32)), .val (.int (0 : Int32)), .val (.int (0 : Int32)), s13] [(.int (0 : Int32))])) _
  refine XS.ifNo X3.here hx rfl (hb hby at_320) rfl ((if0 _ _).trans (teq (rfl : (0 : Int32) = (0 : Int32))).2) ?_
  show Steps p.tables e below (T3.setTop (mkF m 323 #[s0, s1, s2, .val (.int i3), .val .null, .val (.int (i3 - (48 : Int32))), .val (.int (0 : Int32)), .val (.int (0 : Int32)), .val (.int (0 : Int32)), .val (.int (0 : Int32)), .val (.int (0 : Int32)), .val (.int (0 : Int32)), .val (.int (0 : Int32)), s13] [])) _
  refine XS.iload X3.here hx rfl (hb hby at_323) rfl ?_
  show Steps p.tables e below (T3.setTop (mkF m 325 #[s0, s1, s2, .val (.int i3), .val .null, .val (.int (i3 - (48 : Int32))), .val (.int (0 : Int32)), .val (.int (0 : Int32)), .val (.int (0 : Int32)), .val (.int (0 : Int32)), .val (.int (0 : Int32)), .val (.int (0 : Int32)), .val (.int (0 : Int32)), s13] [(.int (0 : Int32))])) _
  refine XS.ifNo X3.here hx rfl (hb hby at_325) rfl ((if0 _ _).trans (teq (rfl : (0 : Int32) = (0 : Int32))).2) ?_
  show Steps p.tables e below (T3.setTop (mkF m 328 #[s0, s1, s2, .val (.int i3), .val .null, .val (.int (i3 - (48 : Int32))), .val (.int (0 : Int32)), .val (.int (0 : Int32)), .val (.int (0 : Int32)), .val (.int (0 : Int32)), .val (.int (0 : Int32)), .val (.int (0 : Int32)), .val (.int (0 : Int32)), s13] [])) _
  refine XS.iload X3.here hx rfl (hb hby at_328) rfl ?_
  show Steps p.tables e below (T3.setTop (mkF m 330 #[s0, s1, s2, .val (.int i3), .val .null, .val (.int (i3 - (48 : Int32))), .val (.int (0 : Int32)), .val (.int (0 : Int32)), .val (.int (0 : Int32)), .val (.int (0 : Int32)), .val (.int (0 : Int32)), .val (.int (0 : Int32)), .val (.int (0 : Int32)), s13] [(.int (0 : Int32))])) _
  refine XS.ifNo X3.here hx rfl (hb hby at_330) rfl ((if0 _ _).trans (teq (rfl : (0 : Int32) = (0 : Int32))).2) ?_
  show Steps p.tables e below (T3.setTop (mkF m 333 #[s0, s1, s2, .val (.int i3), .val .null, .val (.int (i3 - (48 : Int32))), .val (.int (0 : Int32)), .val (.int (0 : Int32)), .val (.int (0 : Int32)), .val (.int (0 : Int32)), .val (.int (0 : Int32)), .val (.int (0 : Int32)), .val (.int (0 : Int32)), s13] [])) _
  refine XS.iload X3.here hx rfl (hb hby at_333) rfl ?_
  show Steps p.tables e below (T3.setTop (mkF m 335 #[s0, s1, s2, .val (.int i3), .val .null, .val (.int (i3 - (48 : Int32))), .val (.int (0 : Int32)), .val (.int (0 : Int32)), .val (.int (0 : Int32)), .val (.int (0 : Int32)), .val (.int (0 : Int32)), .val (.int (0 : Int32)), .val (.int (0 : Int32)), s13] [(.int (0 : Int32))])) _
  refine XS.ifNo X3.here hx rfl (hb hby at_335) rfl ((if0 _ _).trans (teq (rfl : (0 : Int32) = (0 : Int32))).2) ?_
  show Steps p.tables e below (T3.setTop (mkF m 338 #[s0, s1, s2, .val (.int i3), .val .null, .val (.int (i3 - (48 : Int32))), .val (.int (0 : Int32)), .val (.int (0 : Int32)), .val (.int (0 : Int32)), .val (.int (0 : Int32)), .val (.int (0 : Int32)), .val (.int (0 : Int32)), .val (.int (0 : Int32)), s13] [])) _
  refine XS.iload X3.here hx rfl (hb hby at_338) rfl ?_
  show Steps p.tables e below (T3.setTop (mkF m 340 #[s0, s1, s2, .val (.int i3), .val .null, .val (.int (i3 - (48 : Int32))), .val (.int (0 : Int32)), .val (.int (0 : Int32)), .val (.int (0 : Int32)), .val (.int (0 : Int32)), .val (.int (0 : Int32)), .val (.int (0 : Int32)), .val (.int (0 : Int32)), s13] [(.int (0 : Int32))])) _
  refine XS.ifNo X3.here hx rfl (hb hby at_340) rfl ((if0 _ _).trans (teq (rfl : (0 : Int32) = (0 : Int32))).2) ?_
  show Steps p.tables e below (T3.setTop (mkF m 343 #[s0, s1, s2, .val (.int i3), .val .null, .val (.int (i3 - (48 : Int32))), .val (.int (0 : Int32)), .val (.int (0 : Int32)), .val (.int (0 : Int32)), .val (.int (0 : Int32)), .val (.int (0 : Int32)), .val (.int (0 : Int32)), .val (.int (0 : Int32)), s13] [])) _
  refine XS.iload X3.here hx rfl (hb hby at_343) rfl ?_
  show Steps p.tables e below (T3.setTop (mkF m 345 #[s0, s1, s2, .val (.int i3), .val .null, .val (.int (i3 - (48 : Int32))), .val (.int (0 : Int32)), .val (.int (0 : Int32)), .val (.int (0 : Int32)), .val (.int (0 : Int32)), .val (.int (0 : Int32)), .val (.int (0 : Int32)), .val (.int (0 : Int32)), s13] [(.int (0 : Int32))])) _
  refine XS.ifNo X3.here hx rfl (hb hby at_345) rfl ((if0 _ _).trans (teq (rfl : (0 : Int32) = (0 : Int32))).2) ?_
  show Steps p.tables e below (T3.setTop (mkF m 348 #[s0, s1, s2, .val (.int i3), .val .null, .val (.int (i3 - (48 : Int32))), .val (.int (0 : Int32)), .val (.int (0 : Int32)), .val (.int (0 : Int32)), .val (.int (0 : Int32)), .val (.int (0 : Int32)), .val (.int (0 : Int32)), .val (.int (0 : Int32)), s13] [])) _
  refine XS.iload X3.here hx rfl (hb hby at_348) rfl ?_
  show Steps p.tables e below (T3.setTop (mkF m 350 #[s0, s1, s2, .val (.int i3), .val .null, .val (.int (i3 - (48 : Int32))), .val (.int (0 : Int32)), .val (.int (0 : Int32)), .val (.int (0 : Int32)), .val (.int (0 : Int32)), .val (.int (0 : Int32)), .val (.int (0 : Int32)), .val (.int (0 : Int32)), s13] [(.int (0 : Int32))])) _
  refine XS.ifNo X3.here hx rfl (hb hby at_350) rfl ((if0 _ _).trans (teq (rfl : (0 : Int32) = (0 : Int32))).2) ?_
  show Steps p.tables e below (T3.setTop (mkF m 353 #[s0, s1, s2, .val (.int i3), .val .null, .val (.int (i3 - (48 : Int32))), .val (.int (0 : Int32)), .val (.int (0 : Int32)), .val (.int (0 : Int32)), .val (.int (0 : Int32)), .val (.int (0 : Int32)), .val (.int (0 : Int32)), .val (.int (0 : Int32)), s13] [])) _
  refine XS.iconst X3.here hx rfl (hb hby at_353) ?_
  show Steps p.tables e below (T3.setTop (mkF m 354 #[s0, s1, s2, .val (.int i3), .val .null, .val (.int (i3 - (48 : Int32))), .val (.int (0 : Int32)), .val (.int (0 : Int32)), .val (.int (0 : Int32)), .val (.int (0 : Int32)), .val (.int (0 : Int32)), .val (.int (0 : Int32)), .val (.int (0 : Int32)), s13] [(.int (1 : Int32))])) _
  refine XS.goto X3.here hx rfl (pc0 := 354) (pc' := 358) rfl (hb hby at_354) (by decide) (by decide) ?_
  show Steps p.tables e below (T3.setTop (mkF m 358 #[s0, s1, s2, .val (.int i3), .val .null, .val (.int (i3 - (48 : Int32))), .val (.int (0 : Int32)), .val (.int (0 : Int32)), .val (.int (0 : Int32)), .val (.int (0 : Int32)), .val (.int (0 : Int32)), .val (.int (0 : Int32)), .val (.int (0 : Int32)), s13] [(.int (1 : Int32))])) _
  refine XS.istore X3.here hx rfl (hb hby at_358) rfl (l' := #[s0, s1, s2, .val (.int i3), .val .null, .val (.int (i3 - (48 : Int32))), .val (.int (0 : Int32)), .val (.int (0 : Int32)), .val (.int (0 : Int32)), .val (.int (0 : Int32)), .val (.int (0 : Int32)), .val (.int (0 : Int32)), .val (.int (0 : Int32)), .val (.int (1 : Int32))]) (os0_358 hs13) ?_
  show Steps p.tables e below (T3.setTop (mkF m 360 #[s0, s1, s2, .val (.int i3), .val .null, .val (.int (i3 - (48 : Int32))), .val (.int (0 : Int32)), .val (.int (0 : Int32)), .val (.int (0 : Int32)), .val (.int (0 : Int32)), .val (.int (0 : Int32)), .val (.int (0 : Int32)), .val (.int (0 : Int32)), .val (.int (1 : Int32))] [])) _
  refine XS.aload X3.here hx rfl (hb hby at_360) rfl rfl ?_
  show Steps p.tables e below (T3.setTop (mkF m 362 #[s0, s1, s2, .val (.int i3), .val .null, .val (.int (i3 - (48 : Int32))), .val (.int (0 : Int32)), .val (.int (0 : Int32)), .val (.int (0 : Int32)), .val (.int (0 : Int32)), .val (.int (0 : Int32)), .val (.int (0 : Int32)), .val (.int (0 : Int32)), .val (.int (1 : Int32))] [.null])) _
  refine st5 _ ?_
  show Steps p.tables e below (T5.setTop (mkF m 365 #[s0, s1, s2, .val (.int i3), .val .null, .val (.int (i3 - (48 : Int32))), .val (.int (0 : Int32)), .val (.int (0 : Int32)), .val (.int (0 : Int32)), .val (.int (0 : Int32)), .val (.int (0 : Int32)), .val (.int (0 : Int32)), .val (.int (0 : Int32)), .val (.int (1 : Int32))] [(.ref w4), .null])) _
  refine Jvm.RoadKit.acmp (g := (mkF m 365 #[s0, s1, s2, .val (.int i3), .val .null, .val (.int (i3 - (48 : Int32))), .val (.int (0 : Int32)), .val (.int (0 : Int32)), .val (.int (0 : Int32)), .val (.int (0 : Int32)), .val (.int (0 : Int32)), .val (.int (0 : Int32)), .val (.int (0 : Int32)), .val (.int (1 : Int32))] [(.ref w4), .null])) X5 hx rfl rfl rfl (pc0 := 365) (pc' := 372) (same := false) rfl (hb hby at_365) rfl (decide_eq_false nofun) (by decide) (by decide) ?_
  show Steps p.tables e below (T5.setTop (mkF m 372 #[s0, s1, s2, .val (.int i3), .val .null, .val (.int (i3 - (48 : Int32))), .val (.int (0 : Int32)), .val (.int (0 : Int32)), .val (.int (0 : Int32)), .val (.int (0 : Int32)), .val (.int (0 : Int32)), .val (.int (0 : Int32)), .val (.int (0 : Int32)), .val (.int (1 : Int32))] [])) _
  refine XS.iconst X5.here hx rfl (hb hby at_372) ?_
  show Steps p.tables e below (T5.setTop (mkF m 373 #[s0, s1, s2, .val (.int i3), .val .null, .val (.int (i3 - (48 : Int32))), .val (.int (0 : Int32)), .val (.int (0 : Int32)), .val (.int (0 : Int32)), .val (.int (0 : Int32)), .val (.int (0 : Int32)), .val (.int (0 : Int32)), .val (.int (0 : Int32)), .val (.int (1 : Int32))] [(.int (0 : Int32))])) _
  refine XS.iload X5.here hx rfl (hb hby at_373) rfl ?_
  show Steps p.tables e below (T5.setTop (mkF m 375 #[s0, s1, s2, .val (.int i3), .val .null, .val (.int (i3 - (48 : Int32))), .val (.int (0 : Int32)), .val (.int (0 : Int32)), .val (.int (0 : Int32)), .val (.int (0 : Int32)), .val (.int (0 : Int32)), .val (.int (0 : Int32)), .val (.int (0 : Int32)), .val (.int (1 : Int32))] [(.int (0 : Int32)), (.int (0 : Int32))])) _
  refine XS.icmpNo X5.here hx rfl (hb hby at_375) rfl (teq (rfl : (0 : Int32) = (0 : Int32))).2 ?_
  show Steps p.tables e below (T5.setTop (mkF m 378 #[s0, s1, s2, .val (.int i3), .val .null, .val (.int (i3 - (48 : Int32))), .val (.int (0 : Int32)), .val (.int (0 : Int32)), .val (.int (0 : Int32)), .val (.int (0 : Int32)), .val (.int (0 : Int32)), .val (.int (0 : Int32)), .val (.int (0 : Int32)), .val (.int (1 : Int32))] [])) _
  refine XS.aload X5.here hx rfl (hb hby at_378) rfl rfl ?_
  show Steps p.tables e below (T5.setTop (mkF m 380 #[s0, s1, s2, .val (.int i3), .val .null, .val (.int (i3 - (48 : Int32))), .val (.int (0 : Int32)), .val (.int (0 : Int32)), .val (.int (0 : Int32)), .val (.int (0 : Int32)), .val (.int (0 : Int32)), .val (.int (0 : Int32)), .val (.int (0 : Int32)), .val (.int (1 : Int32))] [.null])) _
  refine st7 _ ?_
  show Steps p.tables e below (T7.setTop (mkF m 383 #[s0, s1, s2, .val (.int i3), .val .null, .val (.int (i3 - (48 : Int32))), .val (.int (0 : Int32)), .val (.int (0 : Int32)), .val (.int (0 : Int32)), .val (.int (0 : Int32)), .val (.int (0 : Int32)), .val (.int (0 : Int32)), .val (.int (0 : Int32)), .val (.int (1 : Int32))] [(.ref w6), .null])) _
  refine Jvm.RoadKit.acmp (g := (mkF m 383 #[s0, s1, s2, .val (.int i3), .val .null, .val (.int (i3 - (48 : Int32))), .val (.int (0 : Int32)), .val (.int (0 : Int32)), .val (.int (0 : Int32)), .val (.int (0 : Int32)), .val (.int (0 : Int32)), .val (.int (0 : Int32)), .val (.int (0 : Int32)), .val (.int (1 : Int32))] [(.ref w6), .null])) X7 hx rfl rfl rfl (pc0 := 383) (pc' := 390) (same := false) rfl (hb hby at_383) rfl (decide_eq_false nofun) (by decide) (by decide) ?_
  show Steps p.tables e below (T7.setTop (mkF m 390 #[s0, s1, s2, .val (.int i3), .val .null, .val (.int (i3 - (48 : Int32))), .val (.int (0 : Int32)), .val (.int (0 : Int32)), .val (.int (0 : Int32)), .val (.int (0 : Int32)), .val (.int (0 : Int32)), .val (.int (0 : Int32)), .val (.int (0 : Int32)), .val (.int (1 : Int32))] [])) _
  refine XS.iconst X7.here hx rfl (hb hby at_390) ?_
  show Steps p.tables e below (T7.setTop (mkF m 391 #[s0, s1, s2, .val (.int i3), .val .null, .val (.int (i3 - (48 : Int32))), .val (.int (0 : Int32)), .val (.int (0 : Int32)), .val (.int (0 : Int32)), .val (.int (0 : Int32)), .val (.int (0 : Int32)), .val (.int (0 : Int32)), .val (.int (0 : Int32)), .val (.int (1 : Int32))] [(.int (0 : Int32))])) _
  refine XS.iload X7.here hx rfl (hb hby at_391) rfl ?_
  show Steps p.tables e below (T7.setTop (mkF m 393 #[s0, s1, s2, .val (.int i3), .val .null, .val (.int (i3 - (48 : Int32))), .val (.int (0 : Int32)), .val (.int (0 : Int32)), .val (.int (0 : Int32)), .val (.int (0 : Int32)), .val (.int (0 : Int32)), .val (.int (0 : Int32)), .val (.int (0 : Int32)), .val (.int (1 : Int32))] [(.int (0 : Int32)), (.int (0 : Int32))])) _
  refine XS.icmpNo X7.here hx rfl (hb hby at_393) rfl (teq (rfl : (0 : Int32) = (0 : Int32))).2 ?_
  show Steps p.tables e below (T7.setTop (mkF m 396 #[s0, s1, s2, .val (.int i3), .val .null, .val (.int (i3 - (48 : Int32))), .val (.int (0 : Int32)), .val (.int (0 : Int32)), .val (.int (0 : Int32)), .val (.int (0 : Int32)), .val (.int (0 : Int32)), .val (.int (0 : Int32)), .val (.int (0 : Int32)), .val (.int (1 : Int32))] [])) _
  refine XS.aload X7.here hx rfl (hb hby at_396) rfl rfl ?_
  show Steps p.tables e below (T7.setTop (mkF m 398 #[s0, s1, s2, .val (.int i3), .val .null, .val (.int (i3 - (48 : Int32))), .val (.int (0 : Int32)), .val (.int (0 : Int32)), .val (.int (0 : Int32)), .val (.int (0 : Int32)), .val (.int (0 : Int32)), .val (.int (0 : Int32)), .val (.int (0 : Int32)), .val (.int (1 : Int32))] [.null])) _
  refine st9 _ ?_
  show Steps p.tables e below (T9.setTop (mkF m 401 #[s0, s1, s2, .val (.int i3), .val .null, .val (.int (i3 - (48 : Int32))), .val (.int (0 : Int32)), .val (.int (0 : Int32)), .val (.int (0 : Int32)), .val (.int (0 : Int32)), .val (.int (0 : Int32)), .val (.int (0 : Int32)), .val (.int (0 : Int32)), .val (.int (1 : Int32))] [(.ref w8), .null])) _
  refine Jvm.RoadKit.acmp (g := (mkF m 401 #[s0, s1, s2, .val (.int i3), .val .null, .val (.int (i3 - (48 : Int32))), .val (.int (0 : Int32)), .val (.int (0 : Int32)), .val (.int (0 : Int32)), .val (.int (0 : Int32)), .val (.int (0 : Int32)), .val (.int (0 : Int32)), .val (.int (0 : Int32)), .val (.int (1 : Int32))] [(.ref w8), .null])) X9 hx rfl rfl rfl (pc0 := 401) (pc' := 408) (same := false) rfl (hb hby at_401) rfl (decide_eq_false nofun) (by decide) (by decide) ?_
  show Steps p.tables e below (T9.setTop (mkF m 408 #[s0, s1, s2, .val (.int i3), .val .null, .val (.int (i3 - (48 : Int32))), .val (.int (0 : Int32)), .val (.int (0 : Int32)), .val (.int (0 : Int32)), .val (.int (0 : Int32)), .val (.int (0 : Int32)), .val (.int (0 : Int32)), .val (.int (0 : Int32)), .val (.int (1 : Int32))] [])) _
  refine XS.iconst X9.here hx rfl (hb hby at_408) ?_
  show Steps p.tables e below (T9.setTop (mkF m 409 #[s0, s1, s2, .val (.int i3), .val .null, .val (.int (i3 - (48 : Int32))), .val (.int (0 : Int32)), .val (.int (0 : Int32)), .val (.int (0 : Int32)), .val (.int (0 : Int32)), .val (.int (0 : Int32)), .val (.int (0 : Int32)), .val (.int (0 : Int32)), .val (.int (1 : Int32))] [(.int (0 : Int32))])) _
  refine XS.iload X9.here hx rfl (hb hby at_409) rfl ?_
  show Steps p.tables e below (T9.setTop (mkF m 411 #[s0, s1, s2, .val (.int i3), .val .null, .val (.int (i3 - (48 : Int32))), .val (.int (0 : Int32)), .val (.int (0 : Int32)), .val (.int (0 : Int32)), .val (.int (0 : Int32)), .val (.int (0 : Int32)), .val (.int (0 : Int32)), .val (.int (0 : Int32)), .val (.int (1 : Int32))] [(.int (0 : Int32)), (.int (0 : Int32))])) _
  refine XS.icmpNo X9.here hx rfl (hb hby at_411) rfl (teq (rfl : (0 : Int32) = (0 : Int32))).2 ?_
  show Steps p.tables e below (T9.setTop (mkF m 414 #[s0, s1, s2, .val (.int i3), .val .null, .val (.int (i3 - (48 : Int32))), .val (.int (0 : Int32)), .val (.int (0 : Int32)), .val (.int (0 : Int32)), .val (.int (0 : Int32)), .val (.int (0 : Int32)), .val (.int (0 : Int32)), .val (.int (0 : Int32)), .val (.int (1 : Int32))] [])) _
  refine XS.aload X9.here hx rfl (hb hby at_414) rfl rfl ?_
  show Steps p.tables e below (T9.setTop (mkF m 416 #[s0, s1, s2, .val (.int i3), .val .null, .val (.int (i3 - (48 : Int32))), .val (.int (0 : Int32)), .val (.int (0 : Int32)), .val (.int (0 : Int32)), .val (.int (0 : Int32)), .val (.int (0 : Int32)), .val (.int (0 : Int32)), .val (.int (0 : Int32)), .val (.int (1 : Int32))] [.null])) _
  refine st11 _ ?_
  show Steps p.tables e below (T11.setTop (mkF m 419 #[s0, s1, s2, .val (.int i3), .val .null, .val (.int (i3 - (48 : Int32))), .val (.int (0 : Int32)), .val (.int (0 : Int32)), .val (.int (0 : Int32)), .val (.int (0 : Int32)), .val (.int (0 : Int32)), .val (.int (0 : Int32)), .val (.int (0 : Int32)), .val (.int (1 : Int32))] [(.ref w10), .null])) _
  refine Jvm.RoadKit.acmp (g := (mkF m 419 #[s0, s1, s2, .val (.int i3), .val .null, .val (.int (i3 - (48 : Int32))), .val (.int (0 : Int32)), .val (.int (0 : Int32)), .val (.int (0 : Int32)), .val (.int (0 : Int32)), .val (.int (0 : Int32)), .val (.int (0 : Int32)), .val (.int (0 : Int32)), .val (.int (1 : Int32))] [(.ref w10), .null])) X11 hx rfl rfl rfl (pc0 := 419) (pc' := 426) (same := false) rfl (hb hby at_419) rfl (decide_eq_false nofun) (by decide) (by decide) ?_
  show Steps p.tables e below (T11.setTop (mkF m 426 #[s0, s1, s2, .val (.int i3), .val .null, .val (.int (i3 - (48 : Int32))), .val (.int (0 : Int32)), .val (.int (0 : Int32)), .val (.int (0 : Int32)), .val (.int (0 : Int32)), .val (.int (0 : Int32)), .val (.int (0 : Int32)), .val (.int (0 : Int32)), .val (.int (1 : Int32))] [])) _
  refine XS.iconst X11.here hx rfl (hb hby at_426) ?_
  show Steps p.tables e below (T11.setTop (mkF m 427 #[s0, s1, s2, .val (.int i3), .val .null, .val (.int (i3 - (48 : Int32))), .val (.int (0 : Int32)), .val (.int (0 : Int32)), .val (.int (0 : Int32)), .val (.int (0 : Int32)), .val (.int (0 : Int32)), .val (.int (0 : Int32)), .val (.int (0 : Int32)), .val (.int (1 : Int32))] [(.int (0 : Int32))])) _
  refine XS.iload X11.here hx rfl (hb hby at_427) rfl ?_
  show Steps p.tables e below (T11.setTop (mkF m 429 #[s0, s1, s2, .val (.int i3), .val .null, .val (.int (i3 - (48 : Int32))), .val (.int (0 : Int32)), .val (.int (0 : Int32)), .val (.int (0 : Int32)), .val (.int (0 : Int32)), .val (.int (0 : Int32)), .val (.int (0 : Int32)), .val (.int (0 : Int32)), .val (.int (1 : Int32))] [(.int (0 : Int32)), (.int (0 : Int32))])) _
  refine XS.icmpNo X11.here hx rfl (hb hby at_429) rfl (teq (rfl : (0 : Int32) = (0 : Int32))).2 ?_
  show Steps p.tables e below (T11.setTop (mkF m 432 #[s0, s1, s2, .val (.int i3), .val .null, .val (.int (i3 - (48 : Int32))), .val (.int (0 : Int32)), .val (.int (0 : Int32)), .val (.int (0 : Int32)), .val (.int (0 : Int32)), .val (.int (0 : Int32)), .val (.int (0 : Int32)), .val (.int (0 : Int32)), .val (.int (1 : Int32))] [])) _
  refine XS.aload X11.here hx rfl (hb hby at_432) rfl rfl ?_
  show Steps p.tables e below (T11.setTop (mkF m 434 #[s0, s1, s2, .val (.int i3), .val .null, .val (.int (i3 - (48 : Int32))), .val (.int (0 : Int32)), .val (.int (0 : Int32)), .val (.int (0 : Int32)), .val (.int (0 : Int32)), .val (.int (0 : Int32)), .val (.int (0 : Int32)), .val (.int (0 : Int32)), .val (.int (1 : Int32))] [.null])) _
  refine st13 _ ?_
  show Steps p.tables e below (T13.setTop (mkF m 437 #[s0, s1, s2, .val (.int i3), .val .null, .val (.int (i3 - (48 : Int32))), .val (.int (0 : Int32)), .val (.int (0 : Int32)), .val (.int (0 : Int32)), .val (.int (0 : Int32)), .val (.int (0 : Int32)), .val (.int (0 : Int32)), .val (.int (0 : Int32)), .val (.int (1 : Int32))] [(.ref w12), .null])) _
  refine Jvm.RoadKit.acmp (g := (mkF m 437 #[s0, s1, s2, .val (.int i3), .val .null, .val (.int (i3 - (48 : Int32))), .val (.int (0 : Int32)), .val (.int (0 : Int32)), .val (.int (0 : Int32)), .val (.int (0 : Int32)), .val (.int (0 : Int32)), .val (.int (0 : Int32)), .val (.int (0 : Int32)), .val (.int (1 : Int32))] [(.ref w12), .null])) X13 hx rfl rfl rfl (pc0 := 437) (pc' := 444) (same := false) rfl (hb hby at_437) rfl (decide_eq_false nofun) (by decide) (by decide) ?_
  show Steps p.tables e below (T13.setTop (mkF m 444 #[s0, s1, s2, .val (.int i3), .val .null, .val (.int (i3 - (48 : Int32))), .val (.int (0 : Int32)), .val (.int (0 : Int32)), .val (.int (0 : Int32)), .val (.int (0 : Int32)), .val (.int (0 : Int32)), .val (.int (0 : Int32)), .val (.int (0 : Int32)), .val (.int (1 : Int32))] [])) _
  refine XS.iconst X13.here hx rfl (hb hby at_444) ?_
  show Steps p.tables e below (T13.setTop (mkF m 445 #[s0, s1, s2, .val (.int i3), .val .null, .val (.int (i3 - (48 : Int32))), .val (.int (0 : Int32)), .val (.int (0 : Int32)), .val (.int (0 : Int32)), .val (.int (0 : Int32)), .val (.int (0 : Int32)), .val (.int (0 : Int32)), .val (.int (0 : Int32)), .val (.int (1 : Int32))] [(.int (0 : Int32))])) _
  refine XS.iload X13.here hx rfl (hb hby at_445) rfl ?_
  show Steps p.tables e below (T13.setTop (mkF m 447 #[s0, s1, s2, .val (.int i3), .val .null, .val (.int (i3 - (48 : Int32))), .val (.int (0 : Int32)), .val (.int (0 : Int32)), .val (.int (0 : Int32)), .val (.int (0 : Int32)), .val (.int (0 : Int32)), .val (.int (0 : Int32)), .val (.int (0 : Int32)), .val (.int (1 : Int32))] [(.int (0 : Int32)), (.int (0 : Int32))])) _
  refine XS.icmpNo X13.here hx rfl (hb hby at_447) rfl (teq (rfl : (0 : Int32) = (0 : Int32))).2 ?_
  show Steps p.tables e below (T13.setTop (mkF m 450 #[s0, s1, s2, .val (.int i3), .val .null, .val (.int (i3 - (48 : Int32))), .val (.int (0 : Int32)), .val (.int (0 : Int32)), .val (.int (0 : Int32)), .val (.int (0 : Int32)), .val (.int (0 : Int32)), .val (.int (0 : Int32)), .val (.int (0 : Int32)), .val (.int (1 : Int32))] [])) _
  refine XS.aload X13.here hx rfl (hb hby at_450) rfl rfl ?_
  show Steps p.tables e below (T13.setTop (mkF m 452 #[s0, s1, s2, .val (.int i3), .val .null, .val (.int (i3 - (48 : Int32))), .val (.int (0 : Int32)), .val (.int (0 : Int32)), .val (.int (0 : Int32)), .val (.int (0 : Int32)), .val (.int (0 : Int32)), .val (.int (0 : Int32)), .val (.int (0 : Int32)), .val (.int (1 : Int32))] [.null])) _
  refine st15 _ ?_
  show Steps p.tables e below (T15.setTop (mkF m 455 #[s0, s1, s2, .val (.int i3), .val .null, .val (.int (i3 - (48 : Int32))), .val (.int (0 : Int32)), .val (.int (0 : Int32)), .val (.int (0 : Int32)), .val (.int (0 : Int32)), .val (.int (0 : Int32)), .val (.int (0 : Int32)), .val (.int (0 : Int32)), .val (.int (1 : Int32))] [(.ref w14), .null])) _
  refine Jvm.RoadKit.acmp (g := (mkF m 455 #[s0, s1, s2, .val (.int i3), .val .null, .val (.int (i3 - (48 : Int32))), .val (.int (0 : Int32)), .val (.int (0 : Int32)), .val (.int (0 : Int32)), .val (.int (0 : Int32)), .val (.int (0 : Int32)), .val (.int (0 : Int32)), .val (.int (0 : Int32)), .val (.int (1 : Int32))] [(.ref w14), .null])) X15 hx rfl rfl rfl (pc0 := 455) (pc' := 462) (same := false) rfl (hb hby at_455) rfl (decide_eq_false nofun) (by decide) (by decide) ?_
  show Steps p.tables e below (T15.setTop (mkF m 462 #[s0, s1, s2, .val (.int i3), .val .null, .val (.int (i3 - (48 : Int32))), .val (.int (0 : Int32)), .val (.int (0 : Int32)), .val (.int (0 : Int32)), .val (.int (0 : Int32)), .val (.int (0 : Int32)), .val (.int (0 : Int32)), .val (.int (0 : Int32)), .val (.int (1 : Int32))] [])) _
  refine XS.iconst X15.here hx rfl (hb hby at_462) ?_
  show Steps p.tables e below (T15.setTop (mkF m 463 #[s0, s1, s2, .val (.int i3), .val .null, .val (.int (i3 - (48 : Int32))), .val (.int (0 : Int32)), .val (.int (0 : Int32)), .val (.int (0 : Int32)), .val (.int (0 : Int32)), .val (.int (0 : Int32)), .val (.int (0 : Int32)), .val (.int (0 : Int32)), .val (.int (1 : Int32))] [(.int (0 : Int32))])) _
  refine XS.iload X15.here hx rfl (hb hby at_463) rfl ?_
  show Steps p.tables e below (T15.setTop (mkF m 465 #[s0, s1, s2, .val (.int i3), .val .null, .val (.int (i3 - (48 : Int32))), .val (.int (0 : Int32)), .val (.int (0 : Int32)), .val (.int (0 : Int32)), .val (.int (0 : Int32)), .val (.int (0 : Int32)), .val (.int (0 : Int32)), .val (.int (0 : Int32)), .val (.int (1 : Int32))] [(.int (0 : Int32)), (.int (0 : Int32))])) _
  refine XS.icmpNo X15.here hx rfl (hb hby at_465) rfl (teq (rfl : (0 : Int32) = (0 : Int32))).2 ?_
  show Steps p.tables e below (T15.setTop (mkF m 468 #[s0, s1, s2, .val (.int i3), .val .null, .val (.int (i3 - (48 : Int32))), .val (.int (0 : Int32)), .val (.int (0 : Int32)), .val (.int (0 : Int32)), .val (.int (0 : Int32)), .val (.int (0 : Int32)), .val (.int (0 : Int32)), .val (.int (0 : Int32)), .val (.int (1 : Int32))] [])) _
  refine XS.aload X15.here hx rfl (hb hby at_468) rfl rfl ?_
  show Steps p.tables e below (T15.setTop (mkF m 470 #[s0, s1, s2, .val (.int i3), .val .null, .val (.int (i3 - (48 : Int32))), .val (.int (0 : Int32)), .val (.int (0 : Int32)), .val (.int (0 : Int32)), .val (.int (0 : Int32)), .val (.int (0 : Int32)), .val (.int (0 : Int32)), .val (.int (0 : Int32)), .val (.int (1 : Int32))] [.null])) _
  refine st17 _ ?_
  show Steps p.tables e below (T17.setTop (mkF m 473 #[s0, s1, s2, .val (.int i3), .val .null, .val (.int (i3 - (48 : Int32))), .val (.int (0 : Int32)), .val (.int (0 : Int32)), .val (.int (0 : Int32)), .val (.int (0 : Int32)), .val (.int (0 : Int32)), .val (.int (0 : Int32)), .val (.int (0 : Int32)), .val (.int (1 : Int32))] [(.ref w16), .null])) _
  refine Jvm.RoadKit.acmp (g := (mkF m 473 #[s0, s1, s2, .val (.int i3), .val .null, .val (.int (i3 - (48 : Int32))), .val (.int (0 : Int32)), .val (.int (0 : Int32)), .val (.int (0 : Int32)), .val (.int (0 : Int32)), .val (.int (0 : Int32)), .val (.int (0 : Int32)), .val (.int (0 : Int32)), .val (.int (1 : Int32))] [(.ref w16), .null])) X17 hx rfl rfl rfl (pc0 := 473) (pc' := 480) (same := false) rfl (hb hby at_473) rfl (decide_eq_false nofun) (by decide) (by decide) ?_
  show Steps p.tables e below (T17.setTop (mkF m 480 #[s0, s1, s2, .val (.int i3), .val .null, .val (.int (i3 - (48 : Int32))), .val (.int (0 : Int32)), .val (.int (0 : Int32)), .val (.int (0 : Int32)), .val (.int (0 : Int32)), .val (.int (0 : Int32)), .val (.int (0 : Int32)), .val (.int (0 : Int32)), .val (.int (1 : Int32))] [])) _
  refine XS.iconst X17.here hx rfl (hb hby at_480) ?_
  show Steps p.tables e below (T17.setTop (mkF m 481 #[s0, s1, s2, .val (.int i3), .val .null, .val (.int (i3 - (48 : Int32))), .val (.int (0 : Int32)), .val (.int (0 : Int32)), .val (.int (0 : Int32)), .val (.int (0 : Int32)), .val (.int (0 : Int32)), .val (.int (0 : Int32)), .val (.int (0 : Int32)), .val (.int (1 : Int32))] [(.int (0 : Int32))])) _
  refine XS.iload X17.here hx rfl (hb hby at_481) rfl ?_
  show Steps p.tables e below (T17.setTop (mkF m 483 #[s0, s1, s2, .val (.int i3), .val .null, .val (.int (i3 - (48 : Int32))), .val (.int (0 : Int32)), .val (.int (0 : Int32)), .val (.int (0 : Int32)), .val (.int (0 : Int32)), .val (.int (0 : Int32)), .val (.int (0 : Int32)), .val (.int (0 : Int32)), .val (.int (1 : Int32))] [(.int (0 : Int32)), (.int (0 : Int32))])) _
  refine XS.icmpNo X17.here hx rfl (hb hby at_483) rfl (teq (rfl : (0 : Int32) = (0 : Int32))).2 ?_
  show Steps p.tables e below (T17.setTop (mkF m 486 #[s0, s1, s2, .val (.int i3), .val .null, .val (.int (i3 - (48 : Int32))), .val (.int (0 : Int32)), .val (.int (0 : Int32)), .val (.int (0 : Int32)), .val (.int (0 : Int32)), .val (.int (0 : Int32)), .val (.int (0 : Int32)), .val (.int (0 : Int32)), .val (.int (1 : Int32))] [])) _
  refine XS.aload X17.here hx rfl (hb hby at_486) rfl rfl ?_
  show Steps p.tables e below (T17.setTop (mkF m 488 #[s0, s1, s2, .val (.int i3), .val .null, .val (.int (i3 - (48 : Int32))), .val (.int (0 : Int32)), .val (.int (0 : Int32)), .val (.int (0 : Int32)), .val (.int (0 : Int32)), .val (.int (0 : Int32)), .val (.int (0 : Int32)), .val (.int (0 : Int32)), .val (.int (1 : Int32))] [.null])) _
  refine XS.ifnonnullNo X17.here hx rfl (hb hby at_488) rfl ?_
  show Steps p.tables e below (T17.setTop (mkF m 491 #[s0, s1, s2, .val (.int i3), .val .null, .val (.int (i3 - (48 : Int32))), .val (.int (0 : Int32)), .val (.int (0 : Int32)), .val (.int (0 : Int32)), .val (.int (0 : Int32)), .val (.int (0 : Int32)), .val (.int (0 : Int32)), .val (.int (0 : Int32)), .val (.int (1 : Int32))] [])) _
  refine XS.iconst X17.here hx rfl (hb hby at_491) ?_
  show Steps p.tables e below (T17.setTop (mkF m 492 #[s0, s1, s2, .val (.int i3), .val .null, .val (.int (i3 - (48 : Int32))), .val (.int (0 : Int32)), .val (.int (0 : Int32)), .val (.int (0 : Int32)), .val (.int (0 : Int32)), .val (.int (0 : Int32)), .val (.int (0 : Int32)), .val (.int (0 : Int32)), .val (.int (1 : Int32))] [(.int (1 : Int32))])) _
  refine XS.goto X17.here hx rfl (pc0 := 492) (pc' := 496) rfl (hb hby at_492) (by decide) (by decide) ?_
  show Steps p.tables e below (T17.setTop (mkF m 496 #[s0, s1, s2, .val (.int i3), .val .null, .val (.int (i3 - (48 : Int32))), .val (.int (0 : Int32)), .val (.int (0 : Int32)), .val (.int (0 : Int32)), .val (.int (0 : Int32)), .val (.int (0 : Int32)), .val (.int (0 : Int32)), .val (.int (0 : Int32)), .val (.int (1 : Int32))] [(.int (1 : Int32))])) _
  refine XS.iload X17.here hx rfl (hb hby at_496) rfl ?_
  show Steps p.tables e below (T17.setTop (mkF m 498 #[s0, s1, s2, .val (.int i3), .val .null, .val (.int (i3 - (48 : Int32))), .val (.int (0 : Int32)), .val (.int (0 : Int32)), .val (.int (0 : Int32)), .val (.int (0 : Int32)), .val (.int (0 : Int32)), .val (.int (0 : Int32)), .val (.int (0 : Int32)), .val (.int (1 : Int32))] [(.int (1 : Int32)), (.int (1 : Int32))])) _
  refine XS.icmpNo X17.here hx rfl (hb hby at_498) rfl (teq (rfl : (1 : Int32) = (1 : Int32))).2 ?_
  show Steps p.tables e below (T17.setTop (mkF m 501 #[s0, s1, s2, .val (.int i3), .val .null, .val (.int (i3 - (48 : Int32))), .val (.int (0 : Int32)), .val (.int (0 : Int32)), .val (.int (0 : Int32)), .val (.int (0 : Int32)), .val (.int (0 : Int32)), .val (.int (0 : Int32)), .val (.int (0 : Int32)), .val (.int (1 : Int32))] [])) _
  refine XS.iconst X17.here hx rfl (hb hby at_501) ?_
  show Steps p.tables e below (T17.setTop (mkF m 502 #[s0, s1, s2, .val (.int i3), .val .null, .val (.int (i3 - (48 : Int32))), .val (.int (0 : Int32)), .val (.int (0 : Int32)), .val (.int (0 : Int32)), .val (.int (0 : Int32)), .val (.int (0 : Int32)), .val (.int (0 : Int32)), .val (.int (0 : Int32)), .val (.int (1 : Int32))] [(.int (1 : Int32))])) _
  refine XS.goto X17.here hx rfl (pc0 := 502) (pc' := 506) rfl (hb hby at_502) (by decide) (by decide) ?_
  exact kt
def Q0 (n0 : Nat) (v : Option Value) (h : Heap) (L : List Loc) : Prop := v = some (.int (1 : Int32)) ∧ Fr n0 L
theorem own_mod30 (x : Int32) : ¬ ((x &&& (2147483647 : Int32)) - ((x &&& (2147483647 : Int32)) / (30 : Int32)) * (30 : Int32)) < 0 ∧ ((x &&& (2147483647 : Int32)) - ((x &&& (2147483647 : Int32)) / (30 : Int32)) * (30 : Int32)) < (30 : Int32) := by
  have hm : (x &&& (2147483647 : Int32)).toInt = x.toInt % 2 ^ 31 := Jvm.Kit.i32_mask x _ (k := 31) (by decide) (by decide)
  generalize (x &&& (2147483647 : Int32)) = n at *
  have h5 : (30 : Int32).toInt = 30 := by decide
  have d : (n / (30 : Int32)).toInt = n.toInt / 30 := by rw [Jvm.Kit.i32_div (by omega), h5, Int.tdiv_eq_ediv_of_nonneg (by omega)]
  have e : (n / (30 : Int32) * (30 : Int32)).toInt = n.toInt / 30 * 30 := by rw [Jvm.Kit.i32_mul (by rw [d, h5]; omega) (by rw [d, h5]; omega), d, h5]
  have f : (n - n / (30 : Int32) * (30 : Int32)).toInt = n.toInt - n.toInt / 30 * 30 := by rw [Jvm.Kit.i32_sub (by omega) (by omega), e]
  have z0 : (0 : Int32).toInt = 0 := by decide
  rw [Int32.lt_iff_toInt_lt, Int32.lt_iff_toInt_lt, f, z0, h5]
  omega
theorem own_char (x : Int32) : 0 ≤ ((x &&& (65535 : Int32)).toUInt32.toUInt16.toUInt32.toInt32).toInt ∧ ((x &&& (65535 : Int32)).toUInt32.toUInt16.toUInt32.toInt32).toInt ≤ 65535 := by
  generalize (x &&& (65535 : Int32)).toUInt32.toUInt16 = u
  have h : u.toNat < 65536 := u.toNat_lt
  have e : (u.toUInt32.toInt32).toInt = (u.toNat : Int) := by
    have e1 : u.toUInt32.toInt32 = Int32.ofNat u.toNat := by
      apply Int32.toBitVec_inj.mp
      apply BitVec.eq_of_toNat_eq
      simp
    rw [e1]
    exact Int32.toInt_ofNat_of_lt (by omega)
  omega
theorem own_fits_char {v : Value} (h : fits .char v = true) : ∃ w : Int32, v = .int w ∧ 0 ≤ w.toInt ∧ w.toInt ≤ 65535 := by
  cases v with
  | int w =>
    have q : (decide (0 ≤ w) && decide (w ≤ 65535)) = true := h
    rw [Bool.and_eq_true, decide_eq_true_eq, decide_eq_true_eq, Int32.le_iff_toInt_le, Int32.le_iff_toInt_le] at q
    exact ⟨w, rfl, q.1, q.2⟩
  | _ => exact Bool.noConfusion (show false = true from h)
theorem pn_0 : plainName "com/example/tenkyo/tenkyo/exchange/KindOfPinLaw" = true := by first | (simp [plainName, overriddenIn]; done) | decide +kernel
theorem ef_0 (m : MethodId) (x0 : Int32) (x1 : Int32) : entryFrame m #[(.int x0), (.int x1)] maxLocals = mkF m 0 #[.val (.int x0), .val (.int x1), .unset, .unset, .unset, .unset, .unset, .unset, .unset, .unset, .unset, .unset, .unset, .unset] [] := by first | (simp [entryFrame, mkF, argsToLocals, Value.category, maxLocals]; done) | rfl
set_option maxRecDepth 65536 in
set_option maxHeartbeats 40000000 in
theorem rm0 (l : Launch) (Z : State) (a0 : Array Value) (hw : ∀ d ∈ tables_1, d.before a0 Z = true) (ws : List Jvm.Cond) (p1 p2 : Int32) (a_OBJECT a_ARRAY a_STRING a_NUMBER a_TRUE a_FALSE a_NULL : Addr) (h0 : Heap) (n0 : Nat) (Z0 : n0 ≤ h0.size) (S_OBJECT : Sta Z h0 "com/example/tenkyo/tenkyo/exchange/Json$Kind" "OBJECT" "Lcom/example/tenkyo/tenkyo/exchange/Json$Kind;" (.ref a_OBJECT)) (S_ARRAY : Sta Z h0 "com/example/tenkyo/tenkyo/exchange/Json$Kind" "ARRAY" "Lcom/example/tenkyo/tenkyo/exchange/Json$Kind;" (.ref a_ARRAY)) (S_STRING : Sta Z h0 "com/example/tenkyo/tenkyo/exchange/Json$Kind" "STRING" "Lcom/example/tenkyo/tenkyo/exchange/Json$Kind;" (.ref a_STRING)) (S_NUMBER : Sta Z h0 "com/example/tenkyo/tenkyo/exchange/Json$Kind" "NUMBER" "Lcom/example/tenkyo/tenkyo/exchange/Json$Kind;" (.ref a_NUMBER)) (S_TRUE : Sta Z h0 "com/example/tenkyo/tenkyo/exchange/Json$Kind" "TRUE" "Lcom/example/tenkyo/tenkyo/exchange/Json$Kind;" (.ref a_TRUE)) (S_FALSE : Sta Z h0 "com/example/tenkyo/tenkyo/exchange/Json$Kind" "FALSE" "Lcom/example/tenkyo/tenkyo/exchange/Json$Kind;" (.ref a_FALSE)) (S_NULL : Sta Z h0 "com/example/tenkyo/tenkyo/exchange/Json$Kind" "NULL" "Lcom/example/tenkyo/tenkyo/exchange/Json$Kind;" (.ref a_NULL)) (F_OBJECT : Fld Z h0 a_OBJECT "java/lang/Enum" "ordinal" "I" (.int (0 : Int32))) (F_ARRAY : Fld Z h0 a_ARRAY "java/lang/Enum" "ordinal" "I" (.int (1 : Int32))) (F_STRING : Fld Z h0 a_STRING "java/lang/Enum" "ordinal" "I" (.int (2 : Int32))) (F_NUMBER : Fld Z h0 a_NUMBER "java/lang/Enum" "ordinal" "I" (.int (3 : Int32))) (F_TRUE : Fld Z h0 a_TRUE "java/lang/Enum" "ordinal" "I" (.int (4 : Int32))) (F_FALSE : Fld Z h0 a_FALSE "java/lang/Enum" "ordinal" "I" (.int (5 : Int32))) (F_NULL : Fld Z h0 a_NULL "java/lang/Enum" "ordinal" "I" (.int (6 : Int32))) :
    MetFree l x (head1 (Jvm.Cond.code x code maxLocals ret :: ws) room_1) (fun a U => a = #[(.int p1), (.int p2)] ∧ Z.Warmed39 U.vm ∧ U.heap = h0) (fun _ _ _ _ _ => True) (fun _ U o U' => ∃ v L, o = .returned v ∧ Q0 n0 v U'.heap L ∧ FrameEnd U o U' L room_1.cells room_1.slots) := by
  refine MetFree.of_bodySF (plainFor_of_name pn_0) hisR ?_
  intro p e s m args below meth c s₁ Bd hml0 hP hK
  obtain ⟨rfl, hZ, hh⟩ := hP
  have hx := Bd.exec
  have hby := Bd.bytes
  have hml : c.maxLocals = 14 := hml0
  have hown : s.vm.findClass "com/example/tenkyo/tenkyo/exchange/KindOfPinLaw" = some m.cls := findClass_of_methodNamed Bd.named
  have X0 : Stand p l e room_1 s m #[(.int p1), (.int p2)] below meth c s₁ [] 0 0 := Stand.of_body Bd
  have e0 : s₁.heap = h0 := by rw [← hh, Bd.state]; rfl
  have pre0 : ∀ t, Steps p.tables e below (s₁.setTop (mkF m 0 #[.val (.int p1), .val (.int p2), .unset, .unset, .unset, .unset, .unset, .unset, .unset, .unset, .unset, .unset, .unset, .unset] [])) t → Steps p.tables e below (s₁.setTop (entryFrame m #[(.int p1), (.int p2)] maxLocals)) t := fun t k => castTop (ef_0 m p1 p2) k
  obtain ⟨T1, h1, L1, b, k1, vs, X1, e1, N1, K1, V1, stA⟩ := own_segA _ _ _ .unset .unset .unset .unset .unset .unset .unset .unset .unset .unset .unset X0 hx hZ hw hby hml hown e0 Z0 One.u
  obtain ⟨ch, T2, hlo, hhi, X2, e2, stB⟩ : ∃ (ch : Int32) (T2 : State), 0 ≤ ch.toInt ∧ ch.toInt ≤ 65535 ∧ Stand p l e room_1 s m #[(.int p1), (.int p2)] below meth c T2 L1 1 30 ∧ T2.heap = h1 ∧ ∀ target, Steps p.tables e below (T2.setTop (mkF m 203 #[.val (.int p1), .val (.int p2), .val (.ref b), .val (.int ch), .unset, .unset, .unset, .unset, .unset, .unset, .unset, .unset, .unset, .unset] [])) target → Steps p.tables e below (T1.setTop (mkF m 178 #[.val (.int p1), .val (.int p2), .val (.ref b), .unset, .unset, .unset, .unset, .unset, .unset, .unset, .unset, .unset, .unset, .unset] [])) target := by
    by_cases cm : (p2 &&& (1 : Int32)) = (0 : Int32)
    · obtain ⟨T2, X2, e2, st⟩ := own_segB2 p1 p2 (.val (.ref b)) .unset .unset .unset .unset .unset .unset .unset .unset .unset .unset .unset X1 hx hZ hw hby hml hown e1 One.u cm
      exact ⟨_, T2, (own_char p1).1, (own_char p1).2, X2, e2, st⟩
    · obtain ⟨cl, Ar, q1, S1, N2, H, G⟩ := V1
      obtain ⟨r1, r2⟩ := own_mod30 p1
      have hin : ¬ (((p1 &&& (2147483647 : Int32)) - ((p1 &&& (2147483647 : Int32)) / (30 : Int32)) * (30 : Int32)) < 0 ∨ cl.slots.size ≤ ((p1 &&& (2147483647 : Int32)) - ((p1 &&& (2147483647 : Int32)) / (30 : Int32)) * (30 : Int32)).toNatClampNeg) := inb_of S1 ⟨r1, r2⟩
      have hg := G _ (Nat.lt_of_not_le fun y => hin (Or.inr y))
      have hh1 := H _ (Nat.lt_of_not_le fun y => hin (Or.inr y))
      obtain ⟨w, hw1, hw2, hw3⟩ := own_fits_char hg
      rw [hw1] at hh1
      obtain ⟨T2, X2, e2, st⟩ := own_segB1 p1 p2 b .unset .unset .unset .unset .unset .unset .unset .unset .unset .unset .unset cl (30 : Int32) w X1 hx hZ hw hby hml hown e1 Ar S1 N2 hin hh1 One.u cm (by decide)
      exact ⟨w, T2, hw2, hw3, X2, e2, st⟩
  have S1_OBJECT := own_sta_keep S_OBJECT K1
  have S1_ARRAY := own_sta_keep S_ARRAY K1
  have S1_STRING := own_sta_keep S_STRING K1
  have S1_NUMBER := own_sta_keep S_NUMBER K1
  have S1_TRUE := own_sta_keep S_TRUE K1
  have S1_FALSE := own_sta_keep S_FALSE K1
  have S1_NULL := own_sta_keep S_NULL K1
  have Z1 : n0 ≤ h1.size := Nat.le_trans Z0 K1.1
  have fin : ∃ (T' : State) (L' : List Loc) (Ls : Array Slot), Stand p l e room_1 s m #[(.int p1), (.int p2)] below meth c T' L' 1 30 ∧ Fr n0 L' ∧ ∀ target, Steps p.tables e below (T'.setTop (mkF m 506 Ls [(.int (1 : Int32))])) target → Steps p.tables e below (T2.setTop (mkF m 203 #[.val (.int p1), .val (.int p2), .val (.ref b), .val (.int ch), .unset, .unset, .unset, .unset, .unset, .unset, .unset, .unset, .unset, .unset] [])) target := by
    by_cases hch : ch = (123 : Int32)
    · exact own_segC_obj (.val (.int p1)) (.val (.int p2)) (.val (.ref b)) ch .unset .unset .unset .unset .unset .unset .unset .unset .unset .unset a_OBJECT a_ARRAY a_STRING a_NUMBER a_TRUE a_FALSE a_NULL a_OBJECT X2 hx hZ hw hby hml hown e2 N1 (rm1_obj l Z a0 hw [] ch a_OBJECT h1 n0 Z1 S1_OBJECT (by rw [hch]; first | done | decide)) One.u One.u One.u One.u One.u One.u One.u One.u One.u One.u S1_OBJECT S1_ARRAY S1_STRING S1_NUMBER S1_TRUE S1_FALSE S1_NULL (by rw [hch]; first | done | decide) (by rw [hch]; first | done | decide) (by rw [hch]; first | done | decide) (by rw [hch]; first | done | decide) (by rw [hch]; first | done | decide) (by rw [hch]; first | done | decide) (by rw [hch]; first | done | decide) (by rw [hch]; first | done | decide) (by rw [hch]; first | done | decide) (by decide) rfl (own_ne F_OBJECT F_ARRAY (by decide)) (own_ne F_OBJECT F_STRING (by decide)) (own_ne F_OBJECT F_NUMBER (by decide)) (own_ne F_OBJECT F_TRUE (by decide)) (own_ne F_OBJECT F_FALSE (by decide)) (own_ne F_OBJECT F_NULL (by decide))
    have n_obj := hch
    clear hch
    by_cases hch : ch = (91 : Int32)
    · exact own_segC_arr (.val (.int p1)) (.val (.int p2)) (.val (.ref b)) ch .unset .unset .unset .unset .unset .unset .unset .unset .unset .unset a_OBJECT a_ARRAY a_STRING a_NUMBER a_TRUE a_FALSE a_NULL a_ARRAY X2 hx hZ hw hby hml hown e2 N1 (rm1_arr l Z a0 hw [] ch a_ARRAY h1 n0 Z1 S1_ARRAY (by rw [hch]; first | done | decide) (by rw [hch]; first | done | decide)) One.u One.u One.u One.u One.u One.u One.u One.u One.u One.u S1_OBJECT S1_ARRAY S1_STRING S1_NUMBER S1_TRUE S1_FALSE S1_NULL (by rw [hch]; first | done | decide) (by rw [hch]; first | done | decide) (by rw [hch]; first | done | decide) (by rw [hch]; first | done | decide) (by rw [hch]; first | done | decide) (by rw [hch]; first | done | decide) (by rw [hch]; first | done | decide) (by rw [hch]; first | done | decide) (by rw [hch]; first | done | decide) (by decide) (own_ne F_ARRAY F_OBJECT (by decide)) rfl (own_ne F_ARRAY F_STRING (by decide)) (own_ne F_ARRAY F_NUMBER (by decide)) (own_ne F_ARRAY F_TRUE (by decide)) (own_ne F_ARRAY F_FALSE (by decide)) (own_ne F_ARRAY F_NULL (by decide))
    have n_arr := hch
    clear hch
    by_cases hch : ch = (34 : Int32)
    · exact own_segC_str (.val (.int p1)) (.val (.int p2)) (.val (.ref b)) ch .unset .unset .unset .unset .unset .unset .unset .unset .unset .unset a_OBJECT a_ARRAY a_STRING a_NUMBER a_TRUE a_FALSE a_NULL a_STRING X2 hx hZ hw hby hml hown e2 N1 (rm1_str l Z a0 hw [] ch a_STRING h1 n0 Z1 S1_STRING (by rw [hch]; first | done | decide) (by rw [hch]; first | done | decide) (by rw [hch]; first | done | decide)) One.u One.u One.u One.u One.u One.u One.u One.u One.u One.u S1_OBJECT S1_ARRAY S1_STRING S1_NUMBER S1_TRUE S1_FALSE S1_NULL (by rw [hch]; first | done | decide) (by rw [hch]; first | done | decide) (by rw [hch]; first | done | decide) (by rw [hch]; first | done | decide) (by rw [hch]; first | done | decide) (by rw [hch]; first | done | decide) (by rw [hch]; first | done | decide) (by rw [hch]; first | done | decide) (by decide) (own_ne F_STRING F_OBJECT (by decide)) (own_ne F_STRING F_ARRAY (by decide)) rfl (own_ne F_STRING F_NUMBER (by decide)) (own_ne F_STRING F_TRUE (by decide)) (own_ne F_STRING F_FALSE (by decide)) (own_ne F_STRING F_NULL (by decide))
    have n_str := hch
    clear hch
    by_cases hch : ch = (45 : Int32)
    · exact own_segC_neg (.val (.int p1)) (.val (.int p2)) (.val (.ref b)) ch .unset .unset .unset .unset .unset .unset .unset .unset .unset .unset a_OBJECT a_ARRAY a_STRING a_NUMBER a_TRUE a_FALSE a_NULL a_NUMBER X2 hx hZ hw hby hml hown e2 N1 (rm1_neg l Z a0 hw [] ch a_NUMBER h1 n0 Z1 S1_NUMBER (by rw [hch]; first | done | decide) (by rw [hch]; first | done | decide) (by rw [hch]; first | done | decide) (by rw [hch]; first | done | decide)) One.u One.u One.u One.u One.u One.u One.u One.u One.u One.u S1_OBJECT S1_ARRAY S1_STRING S1_NUMBER S1_TRUE S1_FALSE S1_NULL (by rw [hch]; first | done | decide) (by rw [hch]; first | done | decide) (by rw [hch]; first | done | decide) (by rw [hch]; first | done | decide) (by rw [hch]; first | done | decide) (by rw [hch]; first | done | decide) (by rw [hch]; first | done | decide) (by decide) (own_ne F_NUMBER F_OBJECT (by decide)) (own_ne F_NUMBER F_ARRAY (by decide)) (own_ne F_NUMBER F_STRING (by decide)) rfl (own_ne F_NUMBER F_TRUE (by decide)) (own_ne F_NUMBER F_FALSE (by decide)) (own_ne F_NUMBER F_NULL (by decide))
    have n_neg := hch
    clear hch
    by_cases hch : ch = (116 : Int32)
    · exact own_segC_tru (.val (.int p1)) (.val (.int p2)) (.val (.ref b)) ch .unset .unset .unset .unset .unset .unset .unset .unset .unset .unset a_OBJECT a_ARRAY a_STRING a_NUMBER a_TRUE a_FALSE a_NULL a_TRUE X2 hx hZ hw hby hml hown e2 N1 (rm1_tru l Z a0 hw [] ch a_TRUE h1 n0 Z1 S1_TRUE (by rw [hch]; first | done | decide) (by rw [hch]; first | done | decide) (by rw [hch]; first | done | decide) (by rw [hch]; first | done | decide) (by rw [hch]; first | done | decide) (by rw [hch]; first | done | decide) (by rw [hch]; first | done | decide)) One.u One.u One.u One.u One.u One.u One.u One.u One.u One.u S1_OBJECT S1_ARRAY S1_STRING S1_NUMBER S1_TRUE S1_FALSE S1_NULL (by rw [hch]; first | done | decide) (by rw [hch]; first | done | decide) (by rw [hch]; first | done | decide) (by rw [hch]; first | done | decide) (by rw [hch]; first | done | decide) (by rw [hch]; first | done | decide) (by rw [hch]; first | done | decide) (by rw [hch]; first | done | decide) (by rw [hch]; first | done | decide) (by decide) (own_ne F_TRUE F_OBJECT (by decide)) (own_ne F_TRUE F_ARRAY (by decide)) (own_ne F_TRUE F_STRING (by decide)) (own_ne F_TRUE F_NUMBER (by decide)) rfl (own_ne F_TRUE F_FALSE (by decide)) (own_ne F_TRUE F_NULL (by decide))
    have n_tru := hch
    clear hch
    by_cases hch : ch = (102 : Int32)
    · exact own_segC_fal (.val (.int p1)) (.val (.int p2)) (.val (.ref b)) ch .unset .unset .unset .unset .unset .unset .unset .unset .unset .unset a_OBJECT a_ARRAY a_STRING a_NUMBER a_TRUE a_FALSE a_NULL a_FALSE X2 hx hZ hw hby hml hown e2 N1 (rm1_fal l Z a0 hw [] ch a_FALSE h1 n0 Z1 S1_FALSE (by rw [hch]; first | done | decide) (by rw [hch]; first | done | decide) (by rw [hch]; first | done | decide) (by rw [hch]; first | done | decide) (by rw [hch]; first | done | decide) (by rw [hch]; first | done | decide) (by rw [hch]; first | done | decide) (by rw [hch]; first | done | decide)) One.u One.u One.u One.u One.u One.u One.u One.u One.u One.u S1_OBJECT S1_ARRAY S1_STRING S1_NUMBER S1_TRUE S1_FALSE S1_NULL (by rw [hch]; first | done | decide) (by rw [hch]; first | done | decide) (by rw [hch]; first | done | decide) (by rw [hch]; first | done | decide) (by rw [hch]; first | done | decide) (by rw [hch]; first | done | decide) (by rw [hch]; first | done | decide) (by rw [hch]; first | done | decide) (by rw [hch]; first | done | decide) (by decide) (own_ne F_FALSE F_OBJECT (by decide)) (own_ne F_FALSE F_ARRAY (by decide)) (own_ne F_FALSE F_STRING (by decide)) (own_ne F_FALSE F_NUMBER (by decide)) (own_ne F_FALSE F_TRUE (by decide)) rfl (own_ne F_FALSE F_NULL (by decide))
    have n_fal := hch
    clear hch
    by_cases hch : ch = (110 : Int32)
    · exact own_segC_nul (.val (.int p1)) (.val (.int p2)) (.val (.ref b)) ch .unset .unset .unset .unset .unset .unset .unset .unset .unset .unset a_OBJECT a_ARRAY a_STRING a_NUMBER a_TRUE a_FALSE a_NULL a_NULL X2 hx hZ hw hby hml hown e2 N1 (rm1_nul l Z a0 hw [] ch a_NULL h1 n0 Z1 S1_NULL (by rw [hch]; first | done | decide) (by rw [hch]; first | done | decide) (by rw [hch]; first | done | decide) (by rw [hch]; first | done | decide) (by rw [hch]; first | done | decide) (by rw [hch]; first | done | decide) (by rw [hch]; first | done | decide) (by rw [hch]; first | done | decide) (by rw [hch]; first | done | decide)) One.u One.u One.u One.u One.u One.u One.u One.u One.u One.u S1_OBJECT S1_ARRAY S1_STRING S1_NUMBER S1_TRUE S1_FALSE S1_NULL (by rw [hch]; first | done | decide) (by rw [hch]; first | done | decide) (by rw [hch]; first | done | decide) (by rw [hch]; first | done | decide) (by rw [hch]; first | done | decide) (by rw [hch]; first | done | decide) (by rw [hch]; first | done | decide) (by rw [hch]; first | done | decide) (by rw [hch]; first | done | decide) (by decide) (own_ne F_NULL F_OBJECT (by decide)) (own_ne F_NULL F_ARRAY (by decide)) (own_ne F_NULL F_STRING (by decide)) (own_ne F_NULL F_NUMBER (by decide)) (own_ne F_NULL F_TRUE (by decide)) (own_ne F_NULL F_FALSE (by decide)) rfl
    have n_nul := hch
    clear hch
    have q48 : (48 : Int32).toInt = 48 := by decide
    have q57 : (57 : Int32).toInt = 57 := by decide
    have q0 : (0 : Int32).toInt = 0 := by decide
    have q10 : (10 : Int32).toInt = 10 := by decide
    have dd : (ch - (48 : Int32)).toInt = ch.toInt - 48 := by rw [Jvm.Kit.i32_sub (by omega) (by omega), q48]
    by_cases r1 : ch.toInt < 48
    · exact own_segC_lo (.val (.int p1)) (.val (.int p2)) (.val (.ref b)) ch .unset .unset .unset .unset .unset .unset .unset .unset .unset .unset a_OBJECT a_ARRAY a_STRING a_NUMBER a_TRUE a_FALSE a_NULL X2 hx hZ hw hby hml hown e2 N1 (rm1_lo l Z a0 hw [] ch h1 n0 Z1 n_obj n_arr n_str n_neg (by simp only [Int32.lt_iff_toInt_lt, dd, q48, q57, q0, q10]; omega) n_tru n_fal n_nul) One.u One.u One.u One.u One.u One.u One.u One.u One.u One.u S1_OBJECT S1_ARRAY S1_STRING S1_NUMBER S1_TRUE S1_FALSE S1_NULL n_obj n_arr n_str n_neg (by simp only [Int32.lt_iff_toInt_lt, dd, q48, q57, q0, q10]; omega) n_tru n_fal n_nul
    by_cases r2 : 57 < ch.toInt
    · exact own_segC_hi (.val (.int p1)) (.val (.int p2)) (.val (.ref b)) ch .unset .unset .unset .unset .unset .unset .unset .unset .unset .unset a_OBJECT a_ARRAY a_STRING a_NUMBER a_TRUE a_FALSE a_NULL X2 hx hZ hw hby hml hown e2 N1 (rm1_hi l Z a0 hw [] ch h1 n0 Z1 n_obj n_arr n_str n_neg (by simp only [Int32.lt_iff_toInt_lt, dd, q48, q57, q0, q10]; omega) (by simp only [Int32.lt_iff_toInt_lt, dd, q48, q57, q0, q10]; omega) n_tru n_fal n_nul) One.u One.u One.u One.u One.u One.u One.u One.u One.u One.u S1_OBJECT S1_ARRAY S1_STRING S1_NUMBER S1_TRUE S1_FALSE S1_NULL n_obj n_arr n_str n_neg (by simp only [Int32.lt_iff_toInt_lt, dd, q48, q57, q0, q10]; omega) (by simp only [Int32.lt_iff_toInt_lt, dd, q48, q57, q0, q10]; omega) n_tru n_fal n_nul
    exact own_segC_dig (.val (.int p1)) (.val (.int p2)) (.val (.ref b)) ch .unset .unset .unset .unset .unset .unset .unset .unset .unset .unset a_OBJECT a_ARRAY a_STRING a_NUMBER a_TRUE a_FALSE a_NULL a_NUMBER X2 hx hZ hw hby hml hown e2 N1 (rm1_dig l Z a0 hw [] ch a_NUMBER h1 n0 Z1 S1_NUMBER n_obj n_arr n_str n_neg (by simp only [Int32.lt_iff_toInt_lt, dd, q48, q57, q0, q10]; omega) (by simp only [Int32.lt_iff_toInt_lt, dd, q48, q57, q0, q10]; omega)) One.u One.u One.u One.u One.u One.u One.u One.u One.u One.u S1_OBJECT S1_ARRAY S1_STRING S1_NUMBER S1_TRUE S1_FALSE S1_NULL n_obj n_arr n_str n_neg (by simp only [Int32.lt_iff_toInt_lt, dd, q48, q57, q0, q10]; omega) (by simp only [Int32.lt_iff_toInt_lt, dd, q48, q57, q0, q10]; omega) n_tru n_fal n_nul (by decide) (own_ne F_NUMBER F_OBJECT (by decide)) (own_ne F_NUMBER F_ARRAY (by decide)) (own_ne F_NUMBER F_STRING (by decide)) rfl (own_ne F_NUMBER F_TRUE (by decide)) (own_ne F_NUMBER F_FALSE (by decide)) (own_ne F_NUMBER F_NULL (by decide))
  obtain ⟨T3, L3, Ls, X3, N3, stC⟩ := fin
  obtain ⟨fs, hr, hrun, hended, hW, hsame⟩ := X3.leave (v := some (.int (1 : Int32))) (fun h => by rw [Bd.returns] at h; cases h)
  refine ⟨_, _, pre0 _ (stA _ (stB _ (stC _ ?_))), hrun, hended, _, _, rfl, ?_, ⟨_, rfl⟩, hW, hsame.mono (by decide) (by decide)⟩
  · exact retN X3 hx (t := .boolean) Bd.returns (by simp) (hb hby at_506) hr
  · exact ⟨rfl, N3⟩
set_option maxRecDepth 65536 in
set_option maxHeartbeats 40000000 in
theorem comes_1 {Post : Tables → Env → Array Value → State → Outcome → State → Prop} (hpost : ∀ tb e args s v u, (limb_1_1.after args s (.returned v) u = true ∧ limb_1_2.after args s (.returned v) u = true ∧ True) → FrameEnd s (.returned v) u (Jvm.fieldLocs frame_1_writes args s ++ Jvm.arrayLocs frame_1_arrays args s ++ Jvm.staticLocs frame_1_statics s) 16 128 → Post tb e args s (.returned v) u) :
    ArmFor flags0 classFile x code maxLocals ret World_1 tables_1 room_1 Calls_1 rest_1 Pre_1 Post := by
  intro l hfl _ _ p e ha hc hk s m args below hf hA hF happ hP
  obtain ⟨hcalls, hrest, hpre⟩ := hP
  obtain ⟨-, -, -, hnamed, -, -, -, hat⟩ := (Spec.applies_iff hf).mp happ
  obtain ⟨hg, hn⟩ := and_e (Cond.before_iff.mp (show (Jvm.Cond.and given_1 narrow_1).before args s = true from hpre))
  obtain ⟨g50, g51⟩ := and_e hg
  obtain ⟨g52, g53⟩ := and_e g51
  obtain ⟨w0, w1, rfl⟩ : ∃ w0 w1 : Value, args = #[w0, w1] := by
    have hs : args.size = 2 := by simpa [Cond.value, given_1] using g50
    obtain ⟨L⟩ := args
    match L, hs with
    | [w0, w1], _ => exact ⟨w0, w1, rfl⟩
  have hw := fun d (hd : d ∈ tables_1) => atoms_spec (ws := Jvm.Cond.code x code maxLocals ret :: tables_1) hat d (List.mem_cons_of_mem _ hd)
  have hfit : Fit s := fun {y c} hc i hi => by
    obtain ⟨ha, rfl⟩ := Array.getElem?_eq_some_iff.mp hc
    have q := List.all_eq_true.mp ((Array.all_eq_true_iff_forall_mem.mp hF) _ (Array.getElem_mem ha)) i (List.mem_range.mpr hi)
    simpa [Array.getElem?_eq_getElem hi] using q
  obtain ⟨i0, ei0⟩ := is_v g52
  obtain rfl : w0 = (.int i0) := Option.some.inj ei0
  obtain ⟨i1, ei1⟩ := is_v g53
  obtain rfl : w1 = (.int i1) := Option.some.inj ei1
  obtain ⟨nr0, hn⟩ := and_e hn
  obtain ⟨nr1, hn⟩ := and_e hn
  obtain ⟨nr2, hn⟩ := and_e hn
  obtain ⟨nr3, hn⟩ := and_e hn
  obtain ⟨nr4, hn⟩ := and_e hn
  obtain ⟨nr5, hn⟩ := and_e hn
  obtain ⟨nr6, hn⟩ := and_e hn
  obtain ⟨nr7, hn⟩ := and_e hn
  obtain ⟨nr8, hn⟩ := and_e hn
  obtain ⟨nr9, hn⟩ := and_e hn
  obtain ⟨nr10, hn⟩ := and_e hn
  obtain ⟨nr11, hn⟩ := and_e hn
  obtain ⟨nr12, hn⟩ := and_e hn
  have nr13 := hn
  obtain ⟨a_OBJECT, ev_OBJECT⟩ := exa_v nr0
  have E_OBJECT : Exa s s.heap a_OBJECT "com/example/tenkyo/tenkyo/exchange/Json$Kind" := Exa.start ev_OBJECT nr0
  have S_OBJECT : Sta s s.heap "com/example/tenkyo/tenkyo/exchange/Json$Kind" "OBJECT" "Lcom/example/tenkyo/tenkyo/exchange/Json$Kind;" (.ref a_OBJECT) := Sta.start ev_OBJECT (Or.inr ⟨(hw _ (List.mem_of_getElem? (i := 5) rfl)), (hw _ (List.mem_of_getElem? (i := 8) rfl))⟩)
  obtain ⟨a_ARRAY, ev_ARRAY⟩ := exa_v nr1
  have E_ARRAY : Exa s s.heap a_ARRAY "com/example/tenkyo/tenkyo/exchange/Json$Kind" := Exa.start ev_ARRAY nr1
  have S_ARRAY : Sta s s.heap "com/example/tenkyo/tenkyo/exchange/Json$Kind" "ARRAY" "Lcom/example/tenkyo/tenkyo/exchange/Json$Kind;" (.ref a_ARRAY) := Sta.start ev_ARRAY (Or.inr ⟨(hw _ (List.mem_of_getElem? (i := 5) rfl)), (hw _ (List.mem_of_getElem? (i := 11) rfl))⟩)
  obtain ⟨a_STRING, ev_STRING⟩ := exa_v nr4
  have E_STRING : Exa s s.heap a_STRING "com/example/tenkyo/tenkyo/exchange/Json$Kind" := Exa.start ev_STRING nr4
  have S_STRING : Sta s s.heap "com/example/tenkyo/tenkyo/exchange/Json$Kind" "STRING" "Lcom/example/tenkyo/tenkyo/exchange/Json$Kind;" (.ref a_STRING) := Sta.start ev_STRING (Or.inr ⟨(hw _ (List.mem_of_getElem? (i := 5) rfl)), (hw _ (List.mem_of_getElem? (i := 13) rfl))⟩)
  obtain ⟨a_NUMBER, ev_NUMBER⟩ := exa_v nr6
  have E_NUMBER : Exa s s.heap a_NUMBER "com/example/tenkyo/tenkyo/exchange/Json$Kind" := Exa.start ev_NUMBER nr6
  have S_NUMBER : Sta s s.heap "com/example/tenkyo/tenkyo/exchange/Json$Kind" "NUMBER" "Lcom/example/tenkyo/tenkyo/exchange/Json$Kind;" (.ref a_NUMBER) := Sta.start ev_NUMBER (Or.inr ⟨(hw _ (List.mem_of_getElem? (i := 5) rfl)), (hw _ (List.mem_of_getElem? (i := 15) rfl))⟩)
  obtain ⟨a_TRUE, ev_TRUE⟩ := exa_v nr8
  have E_TRUE : Exa s s.heap a_TRUE "com/example/tenkyo/tenkyo/exchange/Json$Kind" := Exa.start ev_TRUE nr8
  have S_TRUE : Sta s s.heap "com/example/tenkyo/tenkyo/exchange/Json$Kind" "TRUE" "Lcom/example/tenkyo/tenkyo/exchange/Json$Kind;" (.ref a_TRUE) := Sta.start ev_TRUE (Or.inr ⟨(hw _ (List.mem_of_getElem? (i := 5) rfl)), (hw _ (List.mem_of_getElem? (i := 17) rfl))⟩)
  obtain ⟨a_FALSE, ev_FALSE⟩ := exa_v nr10
  have E_FALSE : Exa s s.heap a_FALSE "com/example/tenkyo/tenkyo/exchange/Json$Kind" := Exa.start ev_FALSE nr10
  have S_FALSE : Sta s s.heap "com/example/tenkyo/tenkyo/exchange/Json$Kind" "FALSE" "Lcom/example/tenkyo/tenkyo/exchange/Json$Kind;" (.ref a_FALSE) := Sta.start ev_FALSE (Or.inr ⟨(hw _ (List.mem_of_getElem? (i := 5) rfl)), (hw _ (List.mem_of_getElem? (i := 19) rfl))⟩)
  obtain ⟨a_NULL, ev_NULL⟩ := exa_v nr12
  have E_NULL : Exa s s.heap a_NULL "com/example/tenkyo/tenkyo/exchange/Json$Kind" := Exa.start ev_NULL nr12
  have S_NULL : Sta s s.heap "com/example/tenkyo/tenkyo/exchange/Json$Kind" "NULL" "Lcom/example/tenkyo/tenkyo/exchange/Json$Kind;" (.ref a_NULL) := Sta.start ev_NULL (Or.inr ⟨(hw _ (List.mem_of_getElem? (i := 5) rfl)), (hw _ (List.mem_of_getElem? (i := 21) rfl))⟩)
  have F_OBJECT_ordinal : Fld s s.heap a_OBJECT "java/lang/Enum" "ordinal" "I" (.int (0 : Int32)) := Fld.start (own_fld ev_OBJECT nr2)
  have F_ARRAY_ordinal : Fld s s.heap a_ARRAY "java/lang/Enum" "ordinal" "I" (.int (1 : Int32)) := Fld.start (own_fld ev_ARRAY nr3)
  have F_STRING_ordinal : Fld s s.heap a_STRING "java/lang/Enum" "ordinal" "I" (.int (2 : Int32)) := Fld.start (own_fld ev_STRING nr5)
  have F_NUMBER_ordinal : Fld s s.heap a_NUMBER "java/lang/Enum" "ordinal" "I" (.int (3 : Int32)) := Fld.start (own_fld ev_NUMBER nr7)
  have F_TRUE_ordinal : Fld s s.heap a_TRUE "java/lang/Enum" "ordinal" "I" (.int (4 : Int32)) := Fld.start (own_fld ev_TRUE nr9)
  have F_FALSE_ordinal : Fld s s.heap a_FALSE "java/lang/Enum" "ordinal" "I" (.int (5 : Int32)) := Fld.start (own_fld ev_FALSE nr11)
  have F_NULL_ordinal : Fld s s.heap a_NULL "java/lang/Enum" "ordinal" "I" (.int (6 : Int32)) := Fld.start (own_fld ev_NULL nr13)
  have R : MetFree l x (head1 (Jvm.Cond.code x code maxLocals ret :: tables_1) room_1) (fun a U => a = #[.int i0, .int i1] ∧ s.Warmed39 U.vm ∧ U.heap = s.heap) (fun _ _ _ _ _ => True) (fun _ U o U' => ∃ v L, o = .returned v ∧ Q0 s.heap.size v U'.heap L ∧ FrameEnd U o U' L room_1.cells room_1.slots) := rm0 l s _ hw tables_1 i0 i1 a_OBJECT a_ARRAY a_STRING a_NUMBER a_TRUE a_FALSE a_NULL s.heap s.heap.size (Nat.le_refl _) S_OBJECT S_ARRAY S_STRING S_NUMBER S_TRUE S_FALSE S_NULL F_OBJECT_ordinal F_ARRAY_ordinal F_STRING_ordinal F_NUMBER_ordinal F_TRUE_ordinal F_FALSE_ordinal F_NULL_ordinal
  obtain ⟨n, o, h1, h2, h3, _, L, rfl, ⟨rfl, N⟩, hq⟩ := R p e ha hc hk s m _ below hf ((Spec.applies_iff_loose hf).mp happ).1 ⟨rfl, State.Warmed39.refl s, rfl⟩ trivial
  refine ⟨n, _, h1, h2, h3, hpost _ _ _ _ _ _ ⟨Cond.after_iff.mpr rfl, Cond.after_iff.mpr (eq_i res_at (Term.int_eval (1)) rfl), trivial⟩ ⟨hq.1, hq.2.1, (hq.2.2.sift fun y hy => Or.inr (N y hy)).mono (by decide) (by decide)⟩⟩
theorem main_1_1 : Claimed_1_1 := comes_1 fun _ _ _ _ _ _ h hF => ⟨h.1, hF⟩
theorem main_1_2 : Claimed_1_2 := comes_1 fun _ _ _ _ _ _ h hF => ⟨h.2.1, hF⟩
end Jvm.Pilot.@@N@@
namespace Jvm.Pilot.@@N@@
open Jvm Jvm.ClassFile Sem Op Lib Jvm.Free Jvm.Stand Jvm.Pilot.@@N@@.Jvm.D
/-! MADE BY PROGRAM (witnessworld.py) out of the Statement's table words and the real class files: 14 classes; the members and pool entries that the words name. The judged class is class 1, her method 1. -/
namespace start1
open Jvm.ClassFile
def u (s : String) : CpInfo := .utf8 (stringToUtf16 s)
/-- a pool by its gaps: so many unusable entries, then the entry; so many at the end -/
def gap : Nat → List CpInfo → List CpInfo
  | 0, r => r
  | n + 1, r => .unusable :: gap n r
def poolList (es : List (Nat × CpInfo)) (last : Nat) : List CpInfo := es.foldr (fun e r => gap e.1 (e.2 :: r)) (gap last [])
def pool (es : List (Nat × CpInfo)) (last : Nat) : Array CpInfo := ⟨poolList es last⟩
def fileOf (pool : Array CpInfo) (this : Nat) (attrs : Array Attribute := #[]) (ms : Array MethodInfo := #[]) (fl : Nat := 33) (sup : Nat := 0) (ifs : Array Nat := #[]) (fds : Array FieldInfo := #[]) : ClassFile where
  minorVersion := 0
  majorVersion := 65
  constantPool := pool
  accessFlags := fl
  thisClass := this
  superClass := sup
  interfaces := ifs
  fields := fds
  methods := ms
  attributes := attrs
def plain (name : String) (sup : Option ClassId) : Class where
  name := name
  kind := .ordinary
  loader := none
  accessFlags := 33
  super := sup
  interfaces := #[]
  cf := none
  fields := #[]
  methods := #[]
  instanceTypes := #[]
  staticTypes := #[]
  resolved := #[]
  callSites := []
  init := .initialized
  statics := none
  mirror := none

def pool0 : Array CpInfo := pool [(5, u "<init>"), (0, u "()V"), (1, .class_ 10), (1, u "java/lang/Object")] 113

def k0m0 : Method := { name := "<init>", desc := "()V", sig := { parameters := [], returnType := none }, accessFlags := 1, code := none }
/-- java/lang/Object -/
def k0 : Class := { plain "java/lang/Object" none with
  accessFlags := 33
  interfaces := #[]
  cf := some (fileOf pool0 8 #[] #[{ accessFlags := 1, nameIndex := 5, descriptorIndex := 6, attributes := #[] }] 33 0 #[] #[])
  fields := #[]
  methods := #[k0m0]
  instanceTypes := #[]
  staticTypes := #[]
  resolved := Array.replicate 124 none
  statics := none }

def pool1 : Array CpInfo := pool [(2, .class_ 4), (1, u "java/lang/Object"), (0, u "<init>"), (0, u "()V"), (0, .integer 65535), (0, .integer 2147483647), (0, .methodref 10 11), (0, .class_ 12), (0, .nameAndType 13 14), (0, u "com/example/tenkyo/tenkyo/exchange/Json$Kind"), (0, u "of"), (0, u "(C)Lcom/example/tenkyo/tenkyo/exchange/Json$Kind;"), (0, .fieldref 10 16), (0, .nameAndType 17 18), (0, u "OBJECT"), (0, u "Lcom/example/tenkyo/tenkyo/exchange/Json$Kind;"), (0, .fieldref 10 20), (0, .nameAndType 21 18), (0, u "ARRAY"), (0, .fieldref 10 23), (0, .nameAndType 24 18), (0, u "STRING"), (0, .fieldref 10 26), (0, .nameAndType 27 18), (0, u "NUMBER"), (0, .fieldref 10 29), (0, .nameAndType 30 18), (0, u "TRUE"), (0, .fieldref 10 32), (0, .nameAndType 33 18), (0, u "FALSE"), (0, .fieldref 10 35), (0, .nameAndType 36 18), (0, u "NULL"), (0, .class_ 38), (0, u "com/example/tenkyo/tenkyo/exchange/KindOfPinLaw"), (2, u "law"), (0, u "(II)Z")] 9

def k1m0 : Method := { name := "<init>", desc := "()V", sig := { parameters := [], returnType := none }, accessFlags := 1, code := none }
def k1c1 : Code := { maxStack := 4, maxLocals := 14, code := code, exceptionTable := #[], attributes := #[] }
def k1m1 : Method := { name := "law", desc := "(II)Z", sig := { parameters := [.int, .int], returnType := some .boolean }, accessFlags := 9, code := some k1c1 }
/-- com/example/tenkyo/tenkyo/exchange/KindOfPinLaw -/
def k1 : Class := { plain "com/example/tenkyo/tenkyo/exchange/KindOfPinLaw" (some 0) with
  accessFlags := 49
  interfaces := #[]
  cf := some (fileOf pool1 37 #[] #[{ accessFlags := 1, nameIndex := 5, descriptorIndex := 6, attributes := #[] }, { accessFlags := 9, nameIndex := 41, descriptorIndex := 42, attributes := #[] }] 49 2 #[] #[])
  fields := #[]
  methods := #[k1m0, k1m1]
  instanceTypes := #[]
  staticTypes := #[]
  resolved := Array.replicate 52 none
  statics := none }

def pool2 : Array CpInfo := pool [(1, .class_ 2), (0, u "java/lang/constant/Constable"), (0, .class_ 4), (0, u "java/lang/Object")] 6

/-- java/lang/constant/Constable -/
def k2 : Class := { plain "java/lang/constant/Constable" (some 0) with
  accessFlags := 1537
  interfaces := #[]
  cf := some (fileOf pool2 1 #[] #[] 1537 3 #[] #[])
  fields := #[]
  methods := #[]
  instanceTypes := #[]
  staticTypes := #[]
  resolved := Array.replicate 11 none
  statics := none }

def pool3 : Array CpInfo := pool [(1, .class_ 2), (0, u "java/lang/Comparable"), (0, .class_ 4), (0, u "java/lang/Object")] 7

/-- java/lang/Comparable -/
def k3 : Class := { plain "java/lang/Comparable" (some 0) with
  accessFlags := 1537
  interfaces := #[]
  cf := some (fileOf pool3 1 #[] #[] 1537 3 #[] #[])
  fields := #[]
  methods := #[]
  instanceTypes := #[]
  staticTypes := #[]
  resolved := Array.replicate 12 none
  statics := none }

def pool4 : Array CpInfo := pool [(1, .class_ 2), (0, u "java/io/Serializable"), (0, .class_ 4), (0, u "java/lang/Object")] 2

/-- java/io/Serializable -/
def k4 : Class := { plain "java/io/Serializable" (some 0) with
  accessFlags := 1537
  interfaces := #[]
  cf := some (fileOf pool4 1 #[] #[] 1537 3 #[] #[])
  fields := #[]
  methods := #[]
  instanceTypes := #[]
  staticTypes := #[]
  resolved := Array.replicate 7 none
  statics := none }

def pool5 : Array CpInfo := pool [(2, .class_ 4), (1, u "java/lang/Enum"), (0, u "name"), (0, u "Ljava/lang/String;"), (2, u "ordinal"), (0, u "I"), (1, .class_ 14), (1, u "java/lang/Object"), (4, u "hash"), (86, .class_ 108), (1, u "java/lang/Enum$EnumDesc"), (2, .class_ 112), (0, u "java/lang/constant/Constable"), (0, .class_ 114), (0, u "java/lang/Comparable"), (0, .class_ 116), (0, u "java/io/Serializable")] 87

/-- java/lang/Enum -/
def k5 : Class := { plain "java/lang/Enum" (some 0) with
  accessFlags := 1057
  interfaces := #[2, 3, 4]
  cf := some (fileOf pool5 2 #[.nestMembers #[106]] #[] 1057 12 #[111, 113, 115] #[{ accessFlags := 18, nameIndex := 5, descriptorIndex := 6, attributes := #[] }, { accessFlags := 18, nameIndex := 9, descriptorIndex := 10, attributes := #[] }, { accessFlags := 2, nameIndex := 19, descriptorIndex := 10, attributes := #[] }])
  fields := #[{ name := "name", type := (.object "java/lang/String"), accessFlags := 18, slot := 0, constantValue := 0 }, { name := "ordinal", type := .int, accessFlags := 18, slot := 1, constantValue := 0 }, { name := "hash", type := .int, accessFlags := 2, slot := 2, constantValue := 0 }]
  methods := #[]
  instanceTypes := #[(.object "java/lang/String"), .int, .int]
  staticTypes := #[]
  resolved := Array.replicate 204 none
  statics := none }

def pool6 : Array CpInfo := pool [(1, .class_ 2), (0, u "com/example/tenkyo/tenkyo/exchange/Json$Kind"), (0, .fieldref 1 4), (0, .nameAndType 5 6), (0, u "OBJECT"), (0, u "Lcom/example/tenkyo/tenkyo/exchange/Json$Kind;"), (0, .fieldref 1 8), (0, .nameAndType 9 6), (0, u "ARRAY"), (0, .fieldref 1 11), (0, .nameAndType 12 6), (0, u "STRING"), (0, .fieldref 1 14), (0, .nameAndType 15 6), (0, u "NUMBER"), (0, .fieldref 1 17), (0, .nameAndType 18 6), (0, u "TRUE"), (0, .fieldref 1 20), (0, .nameAndType 21 6), (0, u "FALSE"), (0, .fieldref 1 23), (0, .nameAndType 24 6), (0, u "NULL"), (2, u "$VALUES"), (0, u "[Lcom/example/tenkyo/tenkyo/exchange/Json$Kind;"), (6, .class_ 37), (1, u "java/lang/Enum"), (8, u "phrase"), (0, u "Ljava/lang/String;"), (2, u "word"), (39, u "of"), (0, u "(C)Lcom/example/tenkyo/tenkyo/exchange/Json$Kind;"), (7, .class_ 100), (0, u "com/example/tenkyo/tenkyo/exchange/Json")] 2

def k6c0 : Code := { maxStack := 2, maxLocals := 2, code := prog_14_method_6_code, exceptionTable := #[], attributes := #[] }
def k6m0 : Method := { name := "of", desc := "(C)Lcom/example/tenkyo/tenkyo/exchange/Json$Kind;", sig := { parameters := [.char], returnType := some (.object "com/example/tenkyo/tenkyo/exchange/Json$Kind") }, accessFlags := 8, code := some k6c0 }
/-- com/example/tenkyo/tenkyo/exchange/Json$Kind -/
def k6 : Class := { plain "com/example/tenkyo/tenkyo/exchange/Json$Kind" (some 5) with
  accessFlags := 16432
  interfaces := #[]
  cf := some (fileOf pool6 1 #[.nestHost 99] #[{ accessFlags := 8, nameIndex := 90, descriptorIndex := 91, attributes := #[] }] 16432 35 #[] #[{ accessFlags := 16409, nameIndex := 5, descriptorIndex := 6, attributes := #[] }, { accessFlags := 16409, nameIndex := 9, descriptorIndex := 6, attributes := #[] }, { accessFlags := 16409, nameIndex := 12, descriptorIndex := 6, attributes := #[] }, { accessFlags := 16409, nameIndex := 15, descriptorIndex := 6, attributes := #[] }, { accessFlags := 16409, nameIndex := 18, descriptorIndex := 6, attributes := #[] }, { accessFlags := 16409, nameIndex := 21, descriptorIndex := 6, attributes := #[] }, { accessFlags := 16409, nameIndex := 24, descriptorIndex := 6, attributes := #[] }, { accessFlags := 18, nameIndex := 46, descriptorIndex := 47, attributes := #[] }, { accessFlags := 18, nameIndex := 50, descriptorIndex := 47, attributes := #[] }, { accessFlags := 4122, nameIndex := 27, descriptorIndex := 28, attributes := #[] }])
  fields := #[{ name := "OBJECT", type := (.object "com/example/tenkyo/tenkyo/exchange/Json$Kind"), accessFlags := 16409, slot := 0, constantValue := 0 }, { name := "ARRAY", type := (.object "com/example/tenkyo/tenkyo/exchange/Json$Kind"), accessFlags := 16409, slot := 1, constantValue := 0 }, { name := "STRING", type := (.object "com/example/tenkyo/tenkyo/exchange/Json$Kind"), accessFlags := 16409, slot := 2, constantValue := 0 }, { name := "NUMBER", type := (.object "com/example/tenkyo/tenkyo/exchange/Json$Kind"), accessFlags := 16409, slot := 3, constantValue := 0 }, { name := "TRUE", type := (.object "com/example/tenkyo/tenkyo/exchange/Json$Kind"), accessFlags := 16409, slot := 4, constantValue := 0 }, { name := "FALSE", type := (.object "com/example/tenkyo/tenkyo/exchange/Json$Kind"), accessFlags := 16409, slot := 5, constantValue := 0 }, { name := "NULL", type := (.object "com/example/tenkyo/tenkyo/exchange/Json$Kind"), accessFlags := 16409, slot := 6, constantValue := 0 }, { name := "phrase", type := (.object "java/lang/String"), accessFlags := 18, slot := 3, constantValue := 0 }, { name := "word", type := (.object "java/lang/String"), accessFlags := 18, slot := 4, constantValue := 0 }, { name := "$VALUES", type := (.array (.object "com/example/tenkyo/tenkyo/exchange/Json$Kind")), accessFlags := 4122, slot := 7, constantValue := 0 }]
  methods := #[k6m0]
  instanceTypes := #[(.object "java/lang/String"), .int, .int, (.object "java/lang/String"), (.object "java/lang/String")]
  staticTypes := #[(.object "com/example/tenkyo/tenkyo/exchange/Json$Kind"), (.object "com/example/tenkyo/tenkyo/exchange/Json$Kind"), (.object "com/example/tenkyo/tenkyo/exchange/Json$Kind"), (.object "com/example/tenkyo/tenkyo/exchange/Json$Kind"), (.object "com/example/tenkyo/tenkyo/exchange/Json$Kind"), (.object "com/example/tenkyo/tenkyo/exchange/Json$Kind"), (.object "com/example/tenkyo/tenkyo/exchange/Json$Kind"), (.array (.object "com/example/tenkyo/tenkyo/exchange/Json$Kind"))]
  resolved := Array.replicate 103 none
  statics := some 0 }

def pool7 : Array CpInfo := pool [(1, u "java/lang/Cloneable"), (0, .class_ 1), (0, u "java/lang/Object"), (0, .class_ 3)] 3

/-- java/lang/Cloneable -/
def k7 : Class := { plain "java/lang/Cloneable" (some 0) with
  accessFlags := 1537
  interfaces := #[]
  cf := some (fileOf pool7 2 #[] #[] 1537 4 #[] #[])
  fields := #[]
  methods := #[]
  instanceTypes := #[]
  staticTypes := #[]
  resolved := Array.replicate 8 none
  statics := none }

/-- the primitive byte -/
def k8 : Class := { plain "byte" none with kind := .primitive 'B', accessFlags := 0x411 }
/-- [B -/
def k9 : Class := { plain "[B" (some 0) with kind := .array 8 .byte, interfaces := #[7, 4], accessFlags := 1041 }

/-- the primitive char -/
def k10 : Class := { plain "char" none with kind := .primitive 'C', accessFlags := 0x411 }
/-- [C -/
def k11 : Class := { plain "[C" (some 0) with kind := .array 10 .char, interfaces := #[7, 4], accessFlags := 1041 }

/-- the primitive int -/
def k12 : Class := { plain "int" none with kind := .primitive 'I', accessFlags := 0x411 }
/-- [I -/
def k13 : Class := { plain "[I" (some 0) with kind := .array 12 .int, interfaces := #[7, 4], accessFlags := 1041 }

def heap : Heap := #[{ cls := 6, slots := #[.ref 1, .ref 2, .ref 3, .ref 4, .ref 5, .ref 6, .ref 7, .null], vm := .statics 6 },
  { cls := 6, slots := #[.null, .int 0, .int 0, .null, .null], vm := .none },
  { cls := 6, slots := #[.null, .int 1, .int 0, .null, .null], vm := .none },
  { cls := 6, slots := #[.null, .int 2, .int 0, .null, .null], vm := .none },
  { cls := 6, slots := #[.null, .int 3, .int 0, .null, .null], vm := .none },
  { cls := 6, slots := #[.null, .int 4, .int 0, .null, .null], vm := .none },
  { cls := 6, slots := #[.null, .int 5, .int 0, .null, .null], vm := .none },
  { cls := 6, slots := #[.null, .int 6, .int 0, .null, .null], vm := .none }]
def classes : Array Class := #[k0, k1, k2, k3, k4, k5, k6, k7, k8, k9, k10, k11, k12, k13]
def interned : List (Array UInt16 × Addr) := []
def slotsUsed : Nat := 43
def theMethod : MethodId := ⟨1, 1⟩
def args0 : Array Value := #[.int 1, .int 2]
def aboutOver (below : List Frame) : State where
  vm := { classes := classes, interned := interned.toArray }
  heap := heap
  slotsUsed := slotsUsed
  threads := #[{ frames := .invoking theMethod args0 :: below }]
def below0 : List Frame := [.native { method := ⟨0, 0⟩, args := #[] }]
def about1 : State := aboutOver below0
def p0 : Program := .bare "" "" ""
def e0 : Env := launch0.env 0 0 0
theorem w_frames : about1.frames = Frame.invoking theMethod args0 :: below0 := rfl
set_option maxRecDepth 65536 in
theorem w_args : argsFit about1.vm theMethod args0 = true := by decide +kernel
set_option maxRecDepth 65536 in
theorem w_heap : heapFits about1 = true := by decide +kernel
set_option maxRecDepth 65536 in
theorem w_runnable : about1.curStatus? = some .runnable := by decide +kernel
set_option maxRecDepth 65536 in
theorem w_alone : about1.alone = true := by decide +kernel
set_option maxRecDepth 65536 in
theorem w_named : about1.methodNamed? x = some theMethod := by decide +kernel
set_option maxRecDepth 65536 in
theorem w_hears : about1.hears theMethod below0 = true := by decide +kernel
set_option maxRecDepth 65536 in
theorem w_ripe : about1.ripe theMethod args0 below0 = true := by decide +kernel
theorem w_running : about1.status = .running := rfl
set_option maxRecDepth 65536 in
theorem w_room : about1.hasRoom e0.platform room_1 = true :=
  launch0.hasRoom_least _ room_1 (by decide +kernel) (by decide +kernel) (by decide +kernel) (by decide +kernel) (by decide +kernel) (by decide +kernel)
theorem allAtoms_all (ts : List Jvm.Cond) (a : Array Jvm.Value) (st : Jvm.State) : (allAtoms ts).before a st = ts.all (fun c => c.before a st) := by
  induction ts with
  | nil => rfl
  | cons c t ih =>
    show (Jvm.Cond.and c (allAtoms t)).before a st = _
    rw [Jvm.Cond.before_and, ih, List.all_cons]
def words1 : List Jvm.Cond := Jvm.Cond.code x code maxLocals ret :: tables_1
/-- a 'code' word, met by the world's own term for the bytes: nothing is compared byte by byte -/
theorem code_word {y : MethodName} {bytes : ByteArray} {mx : Nat} {rt : Option FieldType} {a : Array Value} {s : State} {m : MethodId} {meth : Method} {c : Code} (h1 : s.methodNamed? y = some m) (h2 : s.vm.method? m = some meth) (h3 : meth.code = some c) (h4 : c.code = bytes)
    (h5 : (c.maxLocals == mx && c.exceptionTable.isEmpty && decide (c.maxStack ≤ mostOperands) && decide (meth.sig.returnType = rt) && !meth.locks && decide (parseMethodDescriptor y.desc = some meth.sig)) = true) : (Jvm.Cond.code y bytes mx rt).before a s = true := by
  simp only [Bool.and_eq_true, beq_iff_eq, Bool.not_eq_true', decide_eq_true_eq] at h5
  obtain ⟨⟨⟨⟨⟨g1, g2⟩, g3⟩, g4⟩, g5⟩, g6⟩ := h5
  simp [Cond.before, Cond.holds, Cond.value, h1, h2, h3, h4, g1, g2, g3, g4, g5, g6]
def isCode : Jvm.Cond → Bool
  | .code _ _ _ _ => true
  | _ => false
theorem all_split {L : List Jvm.Cond} {P : Jvm.Cond → Bool} (h1 : L.all (fun c => isCode c || P c) = true) (h2 : ∀ c ∈ L.filter isCode, P c = true) : L.all P = true := by
  refine List.all_eq_true.mpr fun c hc => ?_
  have h := List.all_eq_true.mp h1 c hc
  rcases Bool.eq_false_or_eq_true (isCode c) with hi | hi
  · exact h2 c (List.mem_filter.mpr ⟨hc, hi⟩)
  · simpa [hi] using h
set_option maxRecDepth 65536 in
theorem w_c0 : (Jvm.Cond.code x code maxLocals ret).before args0 about1 = true := code_word (m := ⟨1, 1⟩) (meth := k1m1) (c := k1c1) (by decide +kernel) rfl rfl rfl (by decide +kernel)
set_option maxRecDepth 65536 in
theorem w_c1 : (Jvm.Cond.code ({ cls := "com/example/tenkyo/tenkyo/exchange/Json$Kind", name := "of", desc := "(C)Lcom/example/tenkyo/tenkyo/exchange/Json$Kind;" } : Jvm.MethodName) prog_14_method_6_code (2 : Nat) (Option.some (Jvm.ClassFile.FieldType.object "com/example/tenkyo/tenkyo/exchange/Json$Kind"))).before args0 about1 = true := code_word (m := ⟨6, 0⟩) (meth := k6m0) (c := k6c0) (by decide +kernel) rfl rfl rfl (by decide +kernel)
def codes1 : List Jvm.Cond := [Jvm.Cond.code x code maxLocals ret, Jvm.Cond.code ({ cls := "com/example/tenkyo/tenkyo/exchange/Json$Kind", name := "of", desc := "(C)Lcom/example/tenkyo/tenkyo/exchange/Json$Kind;" } : Jvm.MethodName) prog_14_method_6_code (2 : Nat) (Option.some (Jvm.ClassFile.FieldType.object "com/example/tenkyo/tenkyo/exchange/Json$Kind"))]
set_option maxRecDepth 65536 in
theorem codes_eq : words1.filter isCode = codes1 := rfl
theorem w_codes : ∀ c ∈ words1.filter isCode, c.before args0 about1 = true := by
  rw [codes_eq]
  intro c hc
  simp only [codes1, List.mem_cons, List.not_mem_nil, or_false] at hc
  rcases hc with rfl | rfl
  · exact w_c0
  · exact w_c1
set_option maxRecDepth 65536 in
theorem w_t1 : (words1.take 24).all (fun c => isCode c || c.before args0 about1) = true := by decide +kernel
set_option maxRecDepth 65536 in
theorem w_t2 : (words1.drop 24).all (fun c => isCode c || c.before args0 about1) = true := by decide +kernel
theorem w_tables : (allAtoms (Jvm.Cond.code x code maxLocals ret :: tables_1)).before args0 about1 = true := by
  rw [allAtoms_all]
  show words1.all (fun c => c.before args0 about1) = true
  refine all_split ?_ w_codes
  rw [← List.take_append_drop 24 words1, List.all_append, w_t1, w_t2]
  rfl
set_option maxRecDepth 65536 in
theorem w_case : (Jvm.Cond.and given_1 narrow_1).before args0 about1 = true := by decide +kernel
theorem w_applies : (headSpec (Jvm.Cond.code x code maxLocals ret :: tables_1) room_1).applies x e0.platform about1 = true :=
  (Spec.applies_iff w_frames).mpr ⟨w_running, w_runnable, w_alone, w_named, w_hears, w_ripe, w_room, w_tables⟩
theorem atStart : AtStart classFile x code maxLocals ret World_1 tables_1 room_1 Calls_1 rest_1 Pre_1 launch0 p0 e0 about1 theMethod args0 below0 :=
  ⟨lists_1, trivial, launch0.admits_env _ _ _, launch0.least_env, fairChoices_fair.cas, fairChoices_fair.clock, w_frames, w_args, w_heap, w_applies, trivial, trivial, w_case⟩
end start1
theorem witness_1 : WitnessClaimed_1 := ⟨start1.p0, start1.e0, start1.about1, start1.theMethod, start1.args0, start1.below0, start1.atStart⟩
end Jvm.Pilot.@@N@@
