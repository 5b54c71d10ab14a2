import JvmDerived
import JvmDerived.Pilot.@@N@@Statement
import JvmDerived.Pilot.@@N@@Code
set_option linter.unusedVariables false
set_option linter.unusedSimpArgs false
@@BLOCK:NumsL.lean.txt@@
namespace Jvm.RoadKit
open Sem ClassFile Op Lib Jvm.Stand Jvm.Free Jvm.LawKit
section New
variable {p : Program} {l : Launch} {e : Env} {R : Room} {s : State} {m : MethodId} {args : Array Value} {below : List Frame} {meth : Method} {c : Code} {T : State} {locs : List Loc} {cells slots : Nat}
theorem retI (X : Stand p l e R s m args below meth c T locs cells slots) (hx : p.tables.exec = Jvm.exec) {pc : Nat} {Ls : Array Slot} {z : Int32} {rest : List Value} (hret : meth.sig.returnType = some .int) (hd : decode c.code pc = .ok (.ireturn, 1)) {fs : List Frame}
    (hl : ∀ (f : JFrame) (acts : List Action), f.method = m → f.locked = none → f.entered = [] → (doReturn e (T.setTop f) acts (some (.int z))).1 = T.setFrames fs) : Steps p.tables e below (T.setTop (mkF m pc Ls (.int z :: rest))) (T.setFrames fs) := by
  have hm' : T.vm.method? m = some meth := X.method'
  have hn : narrow .int (.int z) = .int z := rfl
  show Steps p.tables e below (T.setTop { method := m, pc := pc, locals := Ls, stack := _ :: rest, locked := none }) _
  jvm_step X.here [X.here.top, hx, hd, hm', hret, hn]
  first | (intro acts; rw [hl _ acts rfl rfl rfl]) | rw [hl _ _ rfl rfl rfl]
  exact Steps.refl _
end New
end Jvm.RoadKit
namespace Jvm.Pilot.@@N@@
open Jvm Jvm.ClassFile Sem Op Lib Jvm.Free Jvm.Stand Jvm.LawKit Jvm.RoadKit Bundle Jvm.Pilot.@@N@@.Jvm.D
theorem own_fld {args : Array Value} {s : State} {t : Term} {C n d : String} {k : Int32} {a : Addr} (ht : t.eval args s none [] s = some (.ref a)) (h : (Cond.eq (.field t C n d) (.int k)).value args s none s [] = some true) : s.fieldOf? a C n d = some (.int k) := by
  cases hf : s.fieldOf? a C n d with
  | none => simp [Cond.value, Term.eval, ht, hf] at h
  | some v => cases v <;> simp [Cond.value, Term.eval, ht, hf] at h ⊢; exact h
theorem own_fld_inj {Z : State} {h : Heap} {a : Addr} {C n d : String} {v w : Value} (F : Fld Z h a C n d v) (G : Fld Z h a C n d w) : v = w := by
  obtain ⟨cell, cf, k, i, f, h1, h2, -, -, -, -, h7⟩ := F
  obtain ⟨cell', cf', k', i', f', g1, g2, -, -, -, -, g7⟩ := G
  cases h1.symm.trans g1
  cases h2.symm.trans g2
  exact Option.some.inj (h7.symm.trans g7)
theorem own_ne {Z : State} {h : Heap} {a b : Addr} {C n d : String} {i j : Int32} (F : Fld Z h a C n d (.int i)) (G : Fld Z h b C n d (.int j)) (hij : i ≠ j) : a ≠ b := fun e => by
  subst e
  exact hij (Value.int.inj (own_fld_inj F G))
def own_bits (q : Int64) : Int64 := ((q.toUInt64 >>> ((3 : Int32) &&& 0x3f).toInt64.toUInt64).toInt64) + (if q &&& (7 : Int64) = (0 : Int64) then (0 : Int64) else (1 : Int64))
def own_cnts (q : Int64) : Int64 := ((q.toUInt64 >>> ((1 : Int32) &&& 0x3f).toInt64.toUInt64).toInt64) + (q &&& (1 : Int64))
def own_len (q : Int64) (w : Int32) : Int64 := ((q + (w.toInt64)) - (1 : Int64)) / (w.toInt64)
def Q1 (r : Int64) (h0 : Heap) (n0 : Nat) (v : Option Value) (h : Heap) (L : List Loc) : Prop := v = some (.long r) ∧ Fr n0 L ∧ h = h0
theorem d1_0 : decode method_3_code 0 = .ok (.lload_n 0, 1) := by decide +kernel
theorem d1_1 : decode method_3_code 1 = .ok (.iconst 3, 1) := by decide +kernel
theorem d1_2 : decode method_3_code 2 = .ok (.lushr, 1) := by decide +kernel
theorem d1_3 : decode method_3_code 3 = .ok (.lload_n 0, 1) := by decide +kernel
theorem d1_4 : decode method_3_code 4 = .ok (.ldc2_w 36, 3) := by decide +kernel
theorem d1_7 : decode method_3_code 7 = .ok (.land, 1) := by decide +kernel
theorem d1_8 : decode method_3_code 8 = .ok (.lconst 0, 1) := by decide +kernel
theorem d1_9 : decode method_3_code 9 = .ok (.lcmp, 1) := by decide +kernel
theorem d1_10 : decode method_3_code 10 = .ok (.ifCond .eq 7, 3) := by decide +kernel
theorem d1_17 : decode method_3_code 17 = .ok (.lconst 0, 1) := by decide +kernel
theorem d1_18 : decode method_3_code 18 = .ok (.ladd, 1) := by decide +kernel
theorem d1_19 : decode method_3_code 19 = .ok (.lreturn, 1) := by decide +kernel
theorem pn_1 : plainName "com/example/gauze_filter/gauzefilter/form/FilterTypeArrayLengthPinLaw" = true := by first | (simp [plainName, overriddenIn]; done) | decide +kernel
theorem ef_1 (m : MethodId) (x0 : Int64) : entryFrame m #[(.long x0)] 2 = mkF m 0 #[.val (.long x0), .second] [] := by first | (simp [entryFrame, mkF, argsToLocals, Value.category]; done) | rfl
set_option maxRecDepth 65536 in
set_option maxHeartbeats 40000000 in
theorem rm1_t (l : Launch) (Z : State) (a0 : Array Value) (hw : ∀ d ∈ tables_1, d.before a0 Z = true) (ws : List Jvm.Cond) (q1 : Int64) (h0 : Heap) (n0 : Nat) (Z0 : n0 ≤ h0.size) (hc10 : (lcmpW (q1 &&& (7 : Int64)) (0 : Int64)) = (0 : Int32)) :
    MetFree l (⟨"com/example/gauze_filter/gauzefilter/form/FilterTypeArrayLengthPinLaw", "bytesOfBits", "(J)J"⟩ : MethodName) (head1 (Jvm.Cond.code (⟨"com/example/gauze_filter/gauzefilter/form/FilterTypeArrayLengthPinLaw", "bytesOfBits", "(J)J"⟩ : MethodName) method_3_code 2 (some .long) :: ws) ({ frames := 0, cells := 0, slots := 0, locals := 0 } : Room)) (fun a U => a = #[(.long q1)] ∧ Z.Warmed39 U.vm ∧ U.heap = h0) (fun _ _ _ _ _ => True) (fun _ U o U' => ∃ v L, o = .returned v ∧ Q1 (((q1.toUInt64 >>> ((3 : Int32) &&& 0x3f).toInt64.toUInt64).toInt64) + (0 : Int64)) h0 n0 v U'.heap L ∧ FrameEnd U o U' L ({ frames := 0, cells := 0, slots := 0, locals := 0 } : Room).cells ({ frames := 0, cells := 0, slots := 0, locals := 0 } : Room).slots) := by
  refine MetFree.of_bodySF (plainFor_of_name pn_1) hisR ?_
  intro p e s m args below meth c s₁ Bd hml0 hP hK
  obtain ⟨rfl, hZ, hh⟩ := hP
  have hx := Bd.exec
  have hby := Bd.bytes
  have hml : c.maxLocals = 2 := hml0
  have hown : s.vm.findClass "com/example/gauze_filter/gauzefilter/form/FilterTypeArrayLengthPinLaw" = some m.cls := findClass_of_methodNamed Bd.named
  have hnm := (name_of_methodNamed Bd.named Bd.method).1
  have X0 : Stand p l e ({ frames := 0, cells := 0, slots := 0, locals := 0 } : Room) s m #[(.long q1)] below meth c s₁ [] 0 0 := Stand.of_body Bd
  have e0 : s₁.heap = h0 := by rw [← hh, Bd.state]; rfl
  have N0 := Fr.nil n0
  have pre0 : ∀ t, Steps p.tables e below (s₁.setTop (mkF m 0 #[.val (.long q1), .second] [])) t → Steps p.tables e below (s₁.setTop (entryFrame m #[(.long q1)] 2)) t := fun t k => castTop (ef_1 m q1) k

  obtain ⟨fs, hr, hrun, hended, hW, hsame⟩ := X0.leave (v := some (.long (((q1.toUInt64 >>> ((3 : Int32) &&& 0x3f).toInt64.toUInt64).toInt64) + (0 : Int64)))) (fun h => by rw [Bd.returns] at h; cases h)
  refine ⟨_, _, pre0 _ ?_, hrun, hended, _, _, rfl, ?_, ⟨_, rfl⟩, hW, hsame.mono (by decide) (by decide)⟩
  · show Steps p.tables e below (s₁.setTop (mkF m 0 #[.val (.long q1), .second] [])) _
    refine XS.lloadN X0.here hx rfl (hb hby d1_0) rfl ?_
    show Steps p.tables e below (s₁.setTop (mkF m 1 #[.val (.long q1), .second] [(.long q1)])) _
    refine XS.iconst X0.here hx rfl (hb hby d1_1) ?_
    show Steps p.tables e below (s₁.setTop (mkF m 2 #[.val (.long q1), .second] [(.int (3 : Int32)), (.long q1)])) _
    refine XS.lushr X0.here hx rfl (hb hby d1_2) rfl ?_
    show Steps p.tables e below (s₁.setTop (mkF m 3 #[.val (.long q1), .second] [(.long ((q1.toUInt64 >>> ((3 : Int32) &&& 0x3f).toInt64.toUInt64).toInt64))])) _
    refine XS.lloadN X0.here hx rfl (hb hby d1_3) rfl ?_
    show Steps p.tables e below (s₁.setTop (mkF m 4 #[.val (.long q1), .second] [(.long q1), (.long ((q1.toUInt64 >>> ((3 : Int32) &&& 0x3f).toInt64.toUInt64).toInt64))])) _
    refine X0.ldc2Long hx hown (mvT hZ (hw _ (List.mem_of_getElem? (i := 8) rfl))) (g := (mkF m 4 #[.val (.long q1), .second] [(.long q1), (.long ((q1.toUInt64 >>> ((3 : Int32) &&& 0x3f).toInt64.toUInt64).toInt64))])) rfl (hb hby d1_4) _ ?_
    show Steps p.tables e below (s₁.setTop (mkF m 7 #[.val (.long q1), .second] [(.long (7 : Int64)), (.long q1), (.long ((q1.toUInt64 >>> ((3 : Int32) &&& 0x3f).toInt64.toUInt64).toInt64))])) _
    refine XS.land X0.here hx rfl (hb hby d1_7) rfl ?_
    show Steps p.tables e below (s₁.setTop (mkF m 8 #[.val (.long q1), .second] [(.long (q1 &&& (7 : Int64))), (.long ((q1.toUInt64 >>> ((3 : Int32) &&& 0x3f).toInt64.toUInt64).toInt64))])) _
    refine XS.lconst X0.here hx rfl (hb hby d1_8) ?_
    show Steps p.tables e below (s₁.setTop (mkF m 9 #[.val (.long q1), .second] [(.long (0 : Int64)), (.long (q1 &&& (7 : Int64))), (.long ((q1.toUInt64 >>> ((3 : Int32) &&& 0x3f).toInt64.toUInt64).toInt64))])) _
    refine XS.lcmp X0.here hx rfl (hb hby d1_9) rfl ?_
    show Steps p.tables e below (s₁.setTop (mkF m 10 #[.val (.long q1), .second] [(.int (lcmpW (q1 &&& (7 : Int64)) (0 : Int64))), (.long ((q1.toUInt64 >>> ((3 : Int32) &&& 0x3f).toInt64.toUInt64).toInt64))])) _
    refine XS.ifYes X0.here hx rfl (pc0 := 10) (pc' := 17) rfl (hb hby d1_10) rfl ((if0 _ _).trans (teq hc10).1) (by decide) (by decide) ?_
    show Steps p.tables e below (s₁.setTop (mkF m 17 #[.val (.long q1), .second] [(.long ((q1.toUInt64 >>> ((3 : Int32) &&& 0x3f).toInt64.toUInt64).toInt64))])) _
    refine XS.lconst X0.here hx rfl (hb hby d1_17) ?_
    show Steps p.tables e below (s₁.setTop (mkF m 18 #[.val (.long q1), .second] [(.long (0 : Int64)), (.long ((q1.toUInt64 >>> ((3 : Int32) &&& 0x3f).toInt64.toUInt64).toInt64))])) _
    refine XS.ladd X0.here hx rfl (hb hby d1_18) rfl ?_
    show Steps p.tables e below (s₁.setTop (mkF m 19 #[.val (.long q1), .second] [(.long (((q1.toUInt64 >>> ((3 : Int32) &&& 0x3f).toInt64.toUInt64).toInt64) + (0 : Int64)))])) _
    exact X0.lreturnOut hx Bd.returns (hb hby d1_19) hr
  · show Q1 (((q1.toUInt64 >>> ((3 : Int32) &&& 0x3f).toInt64.toUInt64).toInt64) + (0 : Int64)) h0 n0 _ s₁.heap _
    rw [e0]
    exact ⟨rfl, N0, rfl⟩
theorem d1_13 : decode method_3_code 13 = .ok (.lconst 1, 1) := by decide +kernel
theorem d1_14 : decode method_3_code 14 = .ok (.goto 4, 3) := by decide +kernel
set_option maxRecDepth 65536 in
set_option maxHeartbeats 40000000 in
theorem rm1_f (l : Launch) (Z : State) (a0 : Array Value) (hw : ∀ d ∈ tables_1, d.before a0 Z = true) (ws : List Jvm.Cond) (q1 : Int64) (h0 : Heap) (n0 : Nat) (Z0 : n0 ≤ h0.size) (hc10 : ¬ ((lcmpW (q1 &&& (7 : Int64)) (0 : Int64)) = (0 : Int32))) :
    MetFree l (⟨"com/example/gauze_filter/gauzefilter/form/FilterTypeArrayLengthPinLaw", "bytesOfBits", "(J)J"⟩ : MethodName) (head1 (Jvm.Cond.code (⟨"com/example/gauze_filter/gauzefilter/form/FilterTypeArrayLengthPinLaw", "bytesOfBits", "(J)J"⟩ : MethodName) method_3_code 2 (some .long) :: ws) ({ frames := 0, cells := 0, slots := 0, locals := 0 } : Room)) (fun a U => a = #[(.long q1)] ∧ Z.Warmed39 U.vm ∧ U.heap = h0) (fun _ _ _ _ _ => True) (fun _ U o U' => ∃ v L, o = .returned v ∧ Q1 (((q1.toUInt64 >>> ((3 : Int32) &&& 0x3f).toInt64.toUInt64).toInt64) + (1 : Int64)) h0 n0 v U'.heap L ∧ FrameEnd U o U' L ({ frames := 0, cells := 0, slots := 0, locals := 0 } : Room).cells ({ frames := 0, cells := 0, slots := 0, locals := 0 } : Room).slots) := by
  refine MetFree.of_bodySF (plainFor_of_name pn_1) hisR ?_
  intro p e s m args below meth c s₁ Bd hml0 hP hK
  obtain ⟨rfl, hZ, hh⟩ := hP
  have hx := Bd.exec
  have hby := Bd.bytes
  have hml : c.maxLocals = 2 := hml0
  have hown : s.vm.findClass "com/example/gauze_filter/gauzefilter/form/FilterTypeArrayLengthPinLaw" = some m.cls := findClass_of_methodNamed Bd.named
  have hnm := (name_of_methodNamed Bd.named Bd.method).1
  have X0 : Stand p l e ({ frames := 0, cells := 0, slots := 0, locals := 0 } : Room) s m #[(.long q1)] below meth c s₁ [] 0 0 := Stand.of_body Bd
  have e0 : s₁.heap = h0 := by rw [← hh, Bd.state]; rfl
  have N0 := Fr.nil n0
  have pre0 : ∀ t, Steps p.tables e below (s₁.setTop (mkF m 0 #[.val (.long q1), .second] [])) t → Steps p.tables e below (s₁.setTop (entryFrame m #[(.long q1)] 2)) t := fun t k => castTop (ef_1 m q1) k

  obtain ⟨fs, hr, hrun, hended, hW, hsame⟩ := X0.leave (v := some (.long (((q1.toUInt64 >>> ((3 : Int32) &&& 0x3f).toInt64.toUInt64).toInt64) + (1 : Int64)))) (fun h => by rw [Bd.returns] at h; cases h)
  refine ⟨_, _, pre0 _ ?_, hrun, hended, _, _, rfl, ?_, ⟨_, rfl⟩, hW, hsame.mono (by decide) (by decide)⟩
  · show Steps p.tables e below (s₁.setTop (mkF m 0 #[.val (.long q1), .second] [])) _
    refine XS.lloadN X0.here hx rfl (hb hby d1_0) rfl ?_
    show Steps p.tables e below (s₁.setTop (mkF m 1 #[.val (.long q1), .second] [(.long q1)])) _
    refine XS.iconst X0.here hx rfl (hb hby d1_1) ?_
    show Steps p.tables e below (s₁.setTop (mkF m 2 #[.val (.long q1), .second] [(.int (3 : Int32)), (.long q1)])) _
    refine XS.lushr X0.here hx rfl (hb hby d1_2) rfl ?_
    show Steps p.tables e below (s₁.setTop (mkF m 3 #[.val (.long q1), .second] [(.long ((q1.toUInt64 >>> ((3 : Int32) &&& 0x3f).toInt64.toUInt64).toInt64))])) _
    refine XS.lloadN X0.here hx rfl (hb hby d1_3) rfl ?_
    show Steps p.tables e below (s₁.setTop (mkF m 4 #[.val (.long q1), .second] [(.long q1), (.long ((q1.toUInt64 >>> ((3 : Int32) &&& 0x3f).toInt64.toUInt64).toInt64))])) _
    refine X0.ldc2Long hx hown (mvT hZ (hw _ (List.mem_of_getElem? (i := 8) rfl))) (g := (mkF m 4 #[.val (.long q1), .second] [(.long q1), (.long ((q1.toUInt64 >>> ((3 : Int32) &&& 0x3f).toInt64.toUInt64).toInt64))])) rfl (hb hby d1_4) _ ?_
    show Steps p.tables e below (s₁.setTop (mkF m 7 #[.val (.long q1), .second] [(.long (7 : Int64)), (.long q1), (.long ((q1.toUInt64 >>> ((3 : Int32) &&& 0x3f).toInt64.toUInt64).toInt64))])) _
    refine XS.land X0.here hx rfl (hb hby d1_7) rfl ?_
    show Steps p.tables e below (s₁.setTop (mkF m 8 #[.val (.long q1), .second] [(.long (q1 &&& (7 : Int64))), (.long ((q1.toUInt64 >>> ((3 : Int32) &&& 0x3f).toInt64.toUInt64).toInt64))])) _
    refine XS.lconst X0.here hx rfl (hb hby d1_8) ?_
    show Steps p.tables e below (s₁.setTop (mkF m 9 #[.val (.long q1), .second] [(.long (0 : Int64)), (.long (q1 &&& (7 : Int64))), (.long ((q1.toUInt64 >>> ((3 : Int32) &&& 0x3f).toInt64.toUInt64).toInt64))])) _
    refine XS.lcmp X0.here hx rfl (hb hby d1_9) rfl ?_
    show Steps p.tables e below (s₁.setTop (mkF m 10 #[.val (.long q1), .second] [(.int (lcmpW (q1 &&& (7 : Int64)) (0 : Int64))), (.long ((q1.toUInt64 >>> ((3 : Int32) &&& 0x3f).toInt64.toUInt64).toInt64))])) _
    refine XS.ifNo X0.here hx rfl (hb hby d1_10) rfl ((if0 _ _).trans (feq hc10).1) ?_
    show Steps p.tables e below (s₁.setTop (mkF m 13 #[.val (.long q1), .second] [(.long ((q1.toUInt64 >>> ((3 : Int32) &&& 0x3f).toInt64.toUInt64).toInt64))])) _
    refine XS.lconst X0.here hx rfl (hb hby d1_13) ?_
    show Steps p.tables e below (s₁.setTop (mkF m 14 #[.val (.long q1), .second] [(.long (1 : Int64)), (.long ((q1.toUInt64 >>> ((3 : Int32) &&& 0x3f).toInt64.toUInt64).toInt64))])) _
    refine XS.goto X0.here hx rfl (pc0 := 14) (pc' := 18) rfl (hb hby d1_14) (by decide) (by decide) ?_
    show Steps p.tables e below (s₁.setTop (mkF m 18 #[.val (.long q1), .second] [(.long (1 : Int64)), (.long ((q1.toUInt64 >>> ((3 : Int32) &&& 0x3f).toInt64.toUInt64).toInt64))])) _
    refine XS.ladd X0.here hx rfl (hb hby d1_18) rfl ?_
    show Steps p.tables e below (s₁.setTop (mkF m 19 #[.val (.long q1), .second] [(.long (((q1.toUInt64 >>> ((3 : Int32) &&& 0x3f).toInt64.toUInt64).toInt64) + (1 : Int64)))])) _
    exact X0.lreturnOut hx Bd.returns (hb hby d1_19) hr
  · show Q1 (((q1.toUInt64 >>> ((3 : Int32) &&& 0x3f).toInt64.toUInt64).toInt64) + (1 : Int64)) h0 n0 _ s₁.heap _
    rw [e0]
    exact ⟨rfl, N0, rfl⟩
theorem rm1 (l : Launch) (Z : State) (a0 : Array Value) (hw : ∀ d ∈ tables_1, d.before a0 Z = true) (ws : List Jvm.Cond) (q1 : Int64) (h0 : Heap) (n0 : Nat) (Z0 : n0 ≤ h0.size) (r : Int64) (hr : own_bits q1 = r) :
    MetFree l (⟨"com/example/gauze_filter/gauzefilter/form/FilterTypeArrayLengthPinLaw", "bytesOfBits", "(J)J"⟩ : MethodName) (head1 (Jvm.Cond.code (⟨"com/example/gauze_filter/gauzefilter/form/FilterTypeArrayLengthPinLaw", "bytesOfBits", "(J)J"⟩ : MethodName) method_3_code 2 (some .long) :: ws) ({ frames := 0, cells := 0, slots := 0, locals := 0 } : Room)) (fun a U => a = #[(.long q1)] ∧ Z.Warmed39 U.vm ∧ U.heap = h0) (fun _ _ _ _ _ => True) (fun _ U o U' => ∃ v L, o = .returned v ∧ Q1 r h0 n0 v U'.heap L ∧ FrameEnd U o U' L ({ frames := 0, cells := 0, slots := 0, locals := 0 } : Room).cells ({ frames := 0, cells := 0, slots := 0, locals := 0 } : Room).slots) := by
  subst hr
  unfold own_bits
  by_cases c1 : q1 &&& (7 : Int64) = (0 : Int64)
  · rw [if_pos c1]
    exact rm1_t l Z a0 hw ws q1 h0 n0 Z0 ((lw_eq _ _).mpr c1)
  · rw [if_neg c1]
    exact rm1_f l Z a0 hw ws q1 h0 n0 Z0 (fun h => c1 ((lw_eq _ _).mp h))
theorem d2_0 : decode prog_10_method_7_code 0 = .ok (.lload_n 1, 1) := by decide +kernel
theorem d2_1 : decode prog_10_method_7_code 1 = .ok (.aload_n 0, 1) := by decide +kernel
theorem d2_2 : decode prog_10_method_7_code 2 = .ok (.getfield 46, 3) := by decide +kernel
theorem d2_5 : decode prog_10_method_7_code 5 = .ok (.i2l, 1) := by decide +kernel
theorem d2_6 : decode prog_10_method_7_code 6 = .ok (.ladd, 1) := by decide +kernel
theorem d2_7 : decode prog_10_method_7_code 7 = .ok (.lconst 1, 1) := by decide +kernel
theorem d2_8 : decode prog_10_method_7_code 8 = .ok (.lsub, 1) := by decide +kernel
theorem d2_9 : decode prog_10_method_7_code 9 = .ok (.aload_n 0, 1) := by decide +kernel
theorem d2_10 : decode prog_10_method_7_code 10 = .ok (.getfield 46, 3) := by decide +kernel
theorem d2_13 : decode prog_10_method_7_code 13 = .ok (.i2l, 1) := by decide +kernel
theorem d2_14 : decode prog_10_method_7_code 14 = .ok (.ldiv, 1) := by decide +kernel
theorem d2_15 : decode prog_10_method_7_code 15 = .ok (.lreturn, 1) := by decide +kernel
theorem pn_2 : plainName "com/example/gauze_filter/gauzefilter/form/FilterType" = true := by first | (simp [plainName, overriddenIn]; done) | decide +kernel
theorem ef_2 (m : MethodId) (x0 : Addr) (x1 : Int64) : entryFrame m #[(.ref x0), (.long x1)] 3 = mkF m 0 #[.val (.ref x0), .val (.long x1), .second] [] := by first | (simp [entryFrame, mkF, argsToLocals, Value.category]; done) | rfl
set_option maxRecDepth 65536 in
set_option maxHeartbeats 40000000 in
theorem rm2 (l : Launch) (Z : State) (a0 : Array Value) (hw : ∀ d ∈ tables_1, d.before a0 Z = true) (ws : List Jvm.Cond) (a1 : Addr) (q2 : Int64) (w3 : Int32) (h0 : Heap) (n0 : Nat) (Z0 : n0 ≤ h0.size) (F_cellsPerByte_a1 : Fld Z h0 a1 "com/example/gauze_filter/gauzefilter/form/FilterType" "cellsPerByte" "I" (.int w3)) (hnz14 : ¬ ((w3.toInt64) = (0 : Int64))) :
    MetFree l (⟨"com/example/gauze_filter/gauzefilter/form/FilterType", "arrayLength", "(J)J"⟩ : MethodName) (head1 (Jvm.Cond.code (⟨"com/example/gauze_filter/gauzefilter/form/FilterType", "arrayLength", "(J)J"⟩ : MethodName) prog_10_method_7_code 3 (some .long) :: ws) ({ frames := 0, cells := 0, slots := 0, locals := 0 } : Room)) (fun a U => a = #[(.ref a1), (.long q2)] ∧ Z.Warmed39 U.vm ∧ U.heap = h0) (fun _ _ _ _ _ => True) (fun _ U o U' => ∃ v L, o = .returned v ∧ Q1 (own_len q2 w3) h0 n0 v U'.heap L ∧ FrameEnd U o U' L ({ frames := 0, cells := 0, slots := 0, locals := 0 } : Room).cells ({ frames := 0, cells := 0, slots := 0, locals := 0 } : Room).slots) := by
  refine MetFree.of_bodySF (plainFor_of_name pn_2) hisR ?_
  intro p e s m args below meth c s₁ Bd hml0 hP hK
  obtain ⟨rfl, hZ, hh⟩ := hP
  have hx := Bd.exec
  have hby := Bd.bytes
  have hml : c.maxLocals = 3 := hml0
  have hown : s.vm.findClass "com/example/gauze_filter/gauzefilter/form/FilterType" = some m.cls := findClass_of_methodNamed Bd.named
  have hnm := (name_of_methodNamed Bd.named Bd.method).1
  have X0 : Stand p l e ({ frames := 0, cells := 0, slots := 0, locals := 0 } : Room) s m #[(.ref a1), (.long q2)] below meth c s₁ [] 0 0 := Stand.of_body Bd
  have e0 : s₁.heap = h0 := by rw [← hh, Bd.state]; rfl
  have N0 := Fr.nil n0
  have pre0 : ∀ t, Steps p.tables e below (s₁.setTop (mkF m 0 #[.val (.ref a1), .val (.long q2), .second] [])) t → Steps p.tables e below (s₁.setTop (entryFrame m #[(.ref a1), (.long q2)] 3)) t := fun t k => castTop (ef_2 m a1 q2) k
  obtain ⟨T4, X4, e4, st4⟩ := getF X0 hx hZ hown (host := "") (Or.inl (hw _ (List.mem_of_getElem? (i := 14) rfl))) Via.refl e0 F_cellsPerByte_a1 (g := (mkF m 2 #[.val (.ref a1), .val (.long q2), .second] [(.ref a1), (.long q2)])) rfl rfl (hb hby d2_2)
  obtain ⟨T5, X5, e5, st5⟩ := getF X4 hx hZ hown (host := "") (Or.inl (hw _ (List.mem_of_getElem? (i := 14) rfl))) Via.refl e4 F_cellsPerByte_a1 (g := (mkF m 10 #[.val (.ref a1), .val (.long q2), .second] [(.ref a1), (.long ((q2 + (w3.toInt64)) - (1 : Int64)))])) rfl rfl (hb hby d2_10)
  obtain ⟨fs, hr, hrun, hended, hW, hsame⟩ := X5.leave (v := some (.long (((q2 + (w3.toInt64)) - (1 : Int64)) / (w3.toInt64)))) (fun h => by rw [Bd.returns] at h; cases h)
  refine ⟨_, _, pre0 _ ?_, hrun, hended, _, _, rfl, ?_, ⟨_, rfl⟩, hW, hsame.mono (by decide) (by decide)⟩
  · show Steps p.tables e below (s₁.setTop (mkF m 0 #[.val (.ref a1), .val (.long q2), .second] [])) _
    refine XS.lloadN X0.here hx rfl (hb hby d2_0) rfl ?_
    show Steps p.tables e below (s₁.setTop (mkF m 1 #[.val (.ref a1), .val (.long q2), .second] [(.long q2)])) _
    refine XS.aloadN X0.here hx rfl (hb hby d2_1) rfl rfl ?_
    show Steps p.tables e below (s₁.setTop (mkF m 2 #[.val (.ref a1), .val (.long q2), .second] [(.ref a1), (.long q2)])) _
    refine st4 _ ?_
    show Steps p.tables e below (T4.setTop (mkF m 5 #[.val (.ref a1), .val (.long q2), .second] [(.int w3), (.long q2)])) _
    refine XS.i2l X4.here hx rfl (hb hby d2_5) rfl ?_
    show Steps p.tables e below (T4.setTop (mkF m 6 #[.val (.ref a1), .val (.long q2), .second] [(.long (w3.toInt64)), (.long q2)])) _
    refine XS.ladd X4.here hx rfl (hb hby d2_6) rfl ?_
    show Steps p.tables e below (T4.setTop (mkF m 7 #[.val (.ref a1), .val (.long q2), .second] [(.long (q2 + (w3.toInt64)))])) _
    refine XS.lconst X4.here hx rfl (hb hby d2_7) ?_
    show Steps p.tables e below (T4.setTop (mkF m 8 #[.val (.ref a1), .val (.long q2), .second] [(.long (1 : Int64)), (.long (q2 + (w3.toInt64)))])) _
    refine XS.lsub X4.here hx rfl (hb hby d2_8) rfl ?_
    show Steps p.tables e below (T4.setTop (mkF m 9 #[.val (.ref a1), .val (.long q2), .second] [(.long ((q2 + (w3.toInt64)) - (1 : Int64)))])) _
    refine XS.aloadN X4.here hx rfl (hb hby d2_9) rfl rfl ?_
    show Steps p.tables e below (T4.setTop (mkF m 10 #[.val (.ref a1), .val (.long q2), .second] [(.ref a1), (.long ((q2 + (w3.toInt64)) - (1 : Int64)))])) _
    refine st5 _ ?_
    show Steps p.tables e below (T5.setTop (mkF m 13 #[.val (.ref a1), .val (.long q2), .second] [(.int w3), (.long ((q2 + (w3.toInt64)) - (1 : Int64)))])) _
    refine XS.i2l X5.here hx rfl (hb hby d2_13) rfl ?_
    show Steps p.tables e below (T5.setTop (mkF m 14 #[.val (.ref a1), .val (.long q2), .second] [(.long (w3.toInt64)), (.long ((q2 + (w3.toInt64)) - (1 : Int64)))])) _
    refine XS.ldiv X5.here hx rfl (hb hby d2_14) rfl hnz14 ?_
    show Steps p.tables e below (T5.setTop (mkF m 15 #[.val (.ref a1), .val (.long q2), .second] [(.long (((q2 + (w3.toInt64)) - (1 : Int64)) / (w3.toInt64)))])) _
    exact X5.lreturnOut hx Bd.returns (hb hby d2_15) hr
  · show Q1 (own_len q2 w3) h0 n0 _ T5.heap _
    rw [e5]
    exact ⟨rfl, N0, rfl⟩
theorem d3_0 : decode method_4_code 0 = .ok (.lload_n 0, 1) := by decide +kernel
theorem d3_1 : decode method_4_code 1 = .ok (.iconst 1, 1) := by decide +kernel
theorem d3_2 : decode method_4_code 2 = .ok (.lushr, 1) := by decide +kernel
theorem d3_3 : decode method_4_code 3 = .ok (.lload_n 0, 1) := by decide +kernel
theorem d3_4 : decode method_4_code 4 = .ok (.lconst 1, 1) := by decide +kernel
theorem d3_5 : decode method_4_code 5 = .ok (.land, 1) := by decide +kernel
theorem d3_6 : decode method_4_code 6 = .ok (.ladd, 1) := by decide +kernel
theorem d3_7 : decode method_4_code 7 = .ok (.lreturn, 1) := by decide +kernel
theorem pn_3 : plainName "com/example/gauze_filter/gauzefilter/form/FilterTypeArrayLengthPinLaw" = true := by first | (simp [plainName, overriddenIn]; done) | decide +kernel
theorem ef_3 (m : MethodId) (x0 : Int64) : entryFrame m #[(.long x0)] 2 = mkF m 0 #[.val (.long x0), .second] [] := by first | (simp [entryFrame, mkF, argsToLocals, Value.category]; done) | rfl
set_option maxRecDepth 65536 in
set_option maxHeartbeats 40000000 in
theorem rm3 (l : Launch) (Z : State) (a0 : Array Value) (hw : ∀ d ∈ tables_1, d.before a0 Z = true) (ws : List Jvm.Cond) (q1 : Int64) (h0 : Heap) (n0 : Nat) (Z0 : n0 ≤ h0.size) :
    MetFree l (⟨"com/example/gauze_filter/gauzefilter/form/FilterTypeArrayLengthPinLaw", "bytesOfCounters", "(J)J"⟩ : MethodName) (head1 (Jvm.Cond.code (⟨"com/example/gauze_filter/gauzefilter/form/FilterTypeArrayLengthPinLaw", "bytesOfCounters", "(J)J"⟩ : MethodName) method_4_code 2 (some .long) :: ws) ({ frames := 0, cells := 0, slots := 0, locals := 0 } : Room)) (fun a U => a = #[(.long q1)] ∧ Z.Warmed39 U.vm ∧ U.heap = h0) (fun _ _ _ _ _ => True) (fun _ U o U' => ∃ v L, o = .returned v ∧ Q1 (own_cnts q1) h0 n0 v U'.heap L ∧ FrameEnd U o U' L ({ frames := 0, cells := 0, slots := 0, locals := 0 } : Room).cells ({ frames := 0, cells := 0, slots := 0, locals := 0 } : Room).slots) := by
  refine MetFree.of_bodySF (plainFor_of_name pn_3) hisR ?_
  intro p e s m args below meth c s₁ Bd hml0 hP hK
  obtain ⟨rfl, hZ, hh⟩ := hP
  have hx := Bd.exec
  have hby := Bd.bytes
  have hml : c.maxLocals = 2 := hml0
  have hown : s.vm.findClass "com/example/gauze_filter/gauzefilter/form/FilterTypeArrayLengthPinLaw" = some m.cls := findClass_of_methodNamed Bd.named
  have hnm := (name_of_methodNamed Bd.named Bd.method).1
  have X0 : Stand p l e ({ frames := 0, cells := 0, slots := 0, locals := 0 } : Room) s m #[(.long q1)] below meth c s₁ [] 0 0 := Stand.of_body Bd
  have e0 : s₁.heap = h0 := by rw [← hh, Bd.state]; rfl
  have N0 := Fr.nil n0
  have pre0 : ∀ t, Steps p.tables e below (s₁.setTop (mkF m 0 #[.val (.long q1), .second] [])) t → Steps p.tables e below (s₁.setTop (entryFrame m #[(.long q1)] 2)) t := fun t k => castTop (ef_3 m q1) k

  obtain ⟨fs, hr, hrun, hended, hW, hsame⟩ := X0.leave (v := some (.long (((q1.toUInt64 >>> ((1 : Int32) &&& 0x3f).toInt64.toUInt64).toInt64) + (q1 &&& (1 : Int64))))) (fun h => by rw [Bd.returns] at h; cases h)
  refine ⟨_, _, pre0 _ ?_, hrun, hended, _, _, rfl, ?_, ⟨_, rfl⟩, hW, hsame.mono (by decide) (by decide)⟩
  · show Steps p.tables e below (s₁.setTop (mkF m 0 #[.val (.long q1), .second] [])) _
    refine XS.lloadN X0.here hx rfl (hb hby d3_0) rfl ?_
    show Steps p.tables e below (s₁.setTop (mkF m 1 #[.val (.long q1), .second] [(.long q1)])) _
    refine XS.iconst X0.here hx rfl (hb hby d3_1) ?_
    show Steps p.tables e below (s₁.setTop (mkF m 2 #[.val (.long q1), .second] [(.int (1 : Int32)), (.long q1)])) _
    refine XS.lushr X0.here hx rfl (hb hby d3_2) rfl ?_
    show Steps p.tables e below (s₁.setTop (mkF m 3 #[.val (.long q1), .second] [(.long ((q1.toUInt64 >>> ((1 : Int32) &&& 0x3f).toInt64.toUInt64).toInt64))])) _
    refine XS.lloadN X0.here hx rfl (hb hby d3_3) rfl ?_
    show Steps p.tables e below (s₁.setTop (mkF m 4 #[.val (.long q1), .second] [(.long q1), (.long ((q1.toUInt64 >>> ((1 : Int32) &&& 0x3f).toInt64.toUInt64).toInt64))])) _
    refine XS.lconst X0.here hx rfl (hb hby d3_4) ?_
    show Steps p.tables e below (s₁.setTop (mkF m 5 #[.val (.long q1), .second] [(.long (1 : Int64)), (.long q1), (.long ((q1.toUInt64 >>> ((1 : Int32) &&& 0x3f).toInt64.toUInt64).toInt64))])) _
    refine XS.land X0.here hx rfl (hb hby d3_5) rfl ?_
    show Steps p.tables e below (s₁.setTop (mkF m 6 #[.val (.long q1), .second] [(.long (q1 &&& (1 : Int64))), (.long ((q1.toUInt64 >>> ((1 : Int32) &&& 0x3f).toInt64.toUInt64).toInt64))])) _
    refine XS.ladd X0.here hx rfl (hb hby d3_6) rfl ?_
    show Steps p.tables e below (s₁.setTop (mkF m 7 #[.val (.long q1), .second] [(.long (((q1.toUInt64 >>> ((1 : Int32) &&& 0x3f).toInt64.toUInt64).toInt64) + (q1 &&& (1 : Int64))))])) _
    exact X0.lreturnOut hx Bd.returns (hb hby d3_7) hr
  · show Q1 (own_cnts q1) h0 n0 _ s₁.heap _
    rw [e0]
    exact ⟨rfl, N0, rfl⟩
def Q0 (n0 : Nat) (v : Option Value) (h : Heap) (L : List Loc) : Prop := v = some (.int (1 : Int32)) ∧ Fr n0 L
theorem pn_0 : plainName "com/example/gauze_filter/gauzefilter/form/FilterTypeArrayLengthPinLaw" = true := by first | (simp [plainName, overriddenIn]; done) | decide +kernel
theorem pd_0_0 : parseMethodDescriptor "(J)J" = some ⟨[.long], some .long⟩ := by decide +kernel
theorem ef_0 (m : MethodId) (x0 : Int32) (x1 : Int64) : entryFrame m #[(.int x0), (.long x1)] maxLocals = mkF m 0 #[.val (.int x0), .val (.long x1), .second, .unset, .unset, .unset, .unset, .unset, .unset] [] := by first | (simp [entryFrame, mkF, argsToLocals, Value.category, maxLocals]; done) | rfl
set_option maxRecDepth 65536 in
set_option maxHeartbeats 40000000 in
theorem rm0_ff (l : Launch) (Z : State) (a0 : Array Value) (hw : ∀ d ∈ tables_1, d.before a0 Z = true) (ws : List Jvm.Cond) (p1 : Int32) (q2 : Int64) (w3 : Addr) (h0 : Heap) (n0 : Nat) (Z0 : n0 ≤ h0.size) (Fc : Fld Z h0 w3 "com/example/gauze_filter/gauzefilter/form/FilterType" "cellsPerByte" "I" (.int (8 : Int32))) (hAB : own_bits (q2 &&& (4611686018427387903 : Int64)) = own_len (q2 &&& (4611686018427387903 : Int64)) (8 : Int32)) (S_BLOOM : Sta Z h0 "com/example/gauze_filter/gauzefilter/form/FilterType" "BLOOM" "Lcom/example/gauze_filter/gauzefilter/form/FilterType;" (.ref w3)) (E_w3 : Exa Z h0 w3 "com/example/gauze_filter/gauzefilter/form/FilterType") (hc13 : (p1 &&& (3 : Int32)) = (0 : Int32)) :
    MetFree l x (head1 (Jvm.Cond.code x code maxLocals ret :: ws) room_1) (fun a U => a = #[(.int p1), (.long q2)] ∧ Z.Warmed39 U.vm ∧ U.heap = h0) (fun _ _ _ _ _ => True) (fun _ U o U' => ∃ v L, o = .returned v ∧ Q0 n0 v U'.heap L ∧ FrameEnd U o U' L room_1.cells room_1.slots) := by
  refine MetFree.of_bodySF (plainFor_of_name pn_0) hisR ?_
  intro p e s m args below meth c s₁ Bd hml0 hP hK
  obtain ⟨rfl, hZ, hh⟩ := hP
  have hx := Bd.exec
  have hby := Bd.bytes
  have hml : c.maxLocals = 9 := hml0
  have hown : s.vm.findClass "com/example/gauze_filter/gauzefilter/form/FilterTypeArrayLengthPinLaw" = some m.cls := findClass_of_methodNamed Bd.named
  have hnm := (name_of_methodNamed Bd.named Bd.method).1
  have X0 : Stand p l e room_1 s m #[(.int p1), (.long q2)] below meth c s₁ [] 0 0 := Stand.of_body Bd
  have e0 : s₁.heap = h0 := by rw [← hh, Bd.state]; rfl
  have N0 := Fr.nil n0
  have pre0 : ∀ t, Steps p.tables e below (s₁.setTop (mkF m 0 #[.val (.int p1), .val (.long q2), .second, .unset, .unset, .unset, .unset, .unset, .unset] [])) t → Steps p.tables e below (s₁.setTop (entryFrame m #[(.int p1), (.long q2)] maxLocals)) t := fun t k => castTop (ef_0 m p1 q2) k
  obtain ⟨T4, X4, e4, st4⟩ := getS2 X0 hx hZ hown (host := "") (Or.inl (hw _ (List.mem_of_getElem? (i := 1) rfl))) Via.refl e0 S_BLOOM (g := (mkF m 16 #[.val (.int p1), .val (.long q2), .second, .val (.long (q2 &&& (4611686018427387903 : Int64))), .second, .val (.int (p1 &&& (3 : Int32))), .unset, .unset, .unset] [])) rfl (hb hby at_16)
  obtain ⟨_, _, ⟨T5, L5, k5, n5⟩, -, X5, ⟨Lc5, hQ5, l5, y5, z5⟩, st5⟩ := Jvm.LawKit.callS X4 hx (y := (⟨"com/example/gauze_filter/gauzefilter/form/FilterTypeArrayLengthPinLaw", "bytesOfBits", "(J)J"⟩ : MethodName)) hown (mvT hZ (hw _ (List.mem_of_getElem? (i := 4) rfl))) (mvT hZ (hw _ (List.mem_of_getElem? (i := 5) rfl))) (mvT hZ (hw _ (List.mem_of_getElem? (i := 6) rfl))) (mvT hZ (hw _ (List.mem_of_getElem? (i := 7) rfl))) (by decide) (backOf (W := 0) (rm1 l Z a0 hw [] (q2 &&& (4611686018427387903 : Int64)) h0 n0 Z0 (own_len (q2 &&& (4611686018427387903 : Int64)) (8 : Int32)) hAB) hZ (hw _ (List.mem_of_getElem? (i := 7) rfl)) (hw _ (List.mem_of_getElem? (i := 6) rfl)) (by decide) (by decide)) (g := (mkF m 22 #[.val (.int p1), .val (.long q2), .second, .val (.long (q2 &&& (4611686018427387903 : Int64))), .second, .val (.int (p1 &&& (3 : Int32))), .val (.ref w3), .unset, .unset] [(.long (q2 &&& (4611686018427387903 : Int64)))])) rfl (by rw [hml]; rfl) (argsL := [(.long (q2 &&& (4611686018427387903 : Int64)))]) (rest := []) (lenOf pd_0_0 rfl) rfl (by show 2 * 0 + _ ≤ _; exact Nat.le_of_eq rfl) (hb hby at_22) (fun _ _ => ⟨rfl, e4, (by decide : 0 + 0 ≤ _), (by decide : 0 + 0 ≤ _)⟩)
  dsimp only [Pt.U, Pt.locs, Pt.cells, Pt.slots] at X5 l5 y5 z5 st5 hQ5
  subst l5 y5 z5
  obtain ⟨rfl, N5q, e5⟩ := hQ5
  have N5 := Fr.app N0 N5q
  obtain ⟨cq6, kq6, q6a, q6b, q6c⟩ := isOf hZ e5 E_w3
  obtain ⟨_, _, ⟨T6, L6, k6, n6⟩, -, X6, ⟨Lc6, hQ6, l6, y6, z6⟩, st6⟩ := X5.virtualBack hx (y := (⟨"com/example/gauze_filter/gauzefilter/form/FilterType", "arrayLength", "(J)J"⟩ : MethodName)) (z := (⟨"com/example/gauze_filter/gauzefilter/form/FilterType", "arrayLength", "(J)J"⟩ : MethodName)) hown (mvT hZ (hw _ (List.mem_of_getElem? (i := 9) rfl))) (mvT hZ (hw _ (List.mem_of_getElem? (i := 10) rfl))) (notFace_of_selects (args := #[]) (mvT hZ (hw _ (List.mem_of_getElem? (i := 12) rfl)))) (mvT hZ (hw _ (List.mem_of_getElem? (i := 12) rfl))) (mvT hZ (hw _ (List.mem_of_getElem? (i := 11) rfl))) (by decide) (backOf (W := 0) (rm2 l Z a0 hw [] w3 (q2 &&& (4611686018427387903 : Int64)) (8 : Int32) h0 n0 Z0 Fc (by decide)) hZ (hw _ (List.mem_of_getElem? (i := 13) rfl)) (hw _ (List.mem_of_getElem? (i := 2) rfl)) (by decide) (by decide)) q6a q6c (g := (mkF m 84 #[.val (.int p1), .val (.long q2), .second, .val (.long (q2 &&& (4611686018427387903 : Int64))), .second, .val (.int (p1 &&& (3 : Int32))), .val (.ref w3), .val (.long (own_len (q2 &&& (4611686018427387903 : Int64)) (8 : Int32))), .second] [(.long (q2 &&& (4611686018427387903 : Int64))), (.ref w3)])) rfl (by rw [hml]; rfl) (Steps.refl _) (argsL := [(.long (q2 &&& (4611686018427387903 : Int64)))]) (rest := []) (lenOf pd_0_0 rfl) rfl (by show 2 * 0 + _ ≤ _; exact Nat.le_of_eq rfl) (hb hby at_84) (fun _ _ => ⟨rfl, e5, (by decide : 0 + 0 ≤ _), (by decide : 0 + 0 ≤ _)⟩)
  dsimp only [Pt.U, Pt.locs, Pt.cells, Pt.slots] at X6 l6 y6 z6 st6 hQ6
  subst l6 y6 z6
  obtain ⟨rfl, N6q, e6⟩ := hQ6
  have N6 := Fr.app N5 N6q
  obtain ⟨fs, hr, hrun, hended, hW, hsame⟩ := X6.leave (v := some (.int (1 : Int32))) (fun h => by rw [Bd.returns] at h; cases h)
  refine ⟨_, _, pre0 _ ?_, hrun, hended, _, _, rfl, ?_, ⟨_, rfl⟩, hW, hsame.mono (by decide) (by decide)⟩
  · show Steps p.tables e below (s₁.setTop (mkF m 0 #[.val (.int p1), .val (.long q2), .second, .unset, .unset, .unset, .unset, .unset, .unset] [])) _
    refine XS.lloadN X0.here hx rfl (hb hby at_0) rfl ?_
    show Steps p.tables e below (s₁.setTop (mkF m 1 #[.val (.int p1), .val (.long q2), .second, .unset, .unset, .unset, .unset, .unset, .unset] [(.long q2)])) _
    refine X0.ldc2Long hx hown (mvT hZ (hw _ (List.mem_of_getElem? (i := 0) rfl))) (g := (mkF m 1 #[.val (.int p1), .val (.long q2), .second, .unset, .unset, .unset, .unset, .unset, .unset] [(.long q2)])) rfl (hb hby at_1) _ ?_
    show Steps p.tables e below (s₁.setTop (mkF m 4 #[.val (.int p1), .val (.long q2), .second, .unset, .unset, .unset, .unset, .unset, .unset] [(.long (4611686018427387903 : Int64)), (.long q2)])) _
    refine XS.land X0.here hx rfl (hb hby at_4) rfl ?_
    show Steps p.tables e below (s₁.setTop (mkF m 5 #[.val (.int p1), .val (.long q2), .second, .unset, .unset, .unset, .unset, .unset, .unset] [(.long (q2 &&& (4611686018427387903 : Int64)))])) _
    refine XS.lstoreN X0.here hx rfl (hb hby at_5) rfl (l' := #[.val (.int p1), .val (.long q2), .second, .val (.long (q2 &&& (4611686018427387903 : Int64))), .second, .unset, .unset, .unset, .unset]) rfl ?_
    show Steps p.tables e below (s₁.setTop (mkF m 6 #[.val (.int p1), .val (.long q2), .second, .val (.long (q2 &&& (4611686018427387903 : Int64))), .second, .unset, .unset, .unset, .unset] [])) _
    refine XS.iloadN X0.here hx rfl (hb hby at_6) rfl ?_
    show Steps p.tables e below (s₁.setTop (mkF m 7 #[.val (.int p1), .val (.long q2), .second, .val (.long (q2 &&& (4611686018427387903 : Int64))), .second, .unset, .unset, .unset, .unset] [(.int p1)])) _
    refine XS.iconst X0.here hx rfl (hb hby at_7) ?_
    show Steps p.tables e below (s₁.setTop (mkF m 8 #[.val (.int p1), .val (.long q2), .second, .val (.long (q2 &&& (4611686018427387903 : Int64))), .second, .unset, .unset, .unset, .unset] [(.int (3 : Int32)), (.int p1)])) _
    refine XS.iand X0.here hx rfl (hb hby at_8) rfl ?_
    show Steps p.tables e below (s₁.setTop (mkF m 9 #[.val (.int p1), .val (.long q2), .second, .val (.long (q2 &&& (4611686018427387903 : Int64))), .second, .unset, .unset, .unset, .unset] [(.int (p1 &&& (3 : Int32)))])) _
    refine XS.istore X0.here hx rfl (hb hby at_9) rfl (l' := #[.val (.int p1), .val (.long q2), .second, .val (.long (q2 &&& (4611686018427387903 : Int64))), .second, .val (.int (p1 &&& (3 : Int32))), .unset, .unset, .unset]) rfl ?_
    show Steps p.tables e below (s₁.setTop (mkF m 11 #[.val (.int p1), .val (.long q2), .second, .val (.long (q2 &&& (4611686018427387903 : Int64))), .second, .val (.int (p1 &&& (3 : Int32))), .unset, .unset, .unset] [])) _
    refine XS.iload X0.here hx rfl (hb hby at_11) rfl ?_
    show Steps p.tables e below (s₁.setTop (mkF m 13 #[.val (.int p1), .val (.long q2), .second, .val (.long (q2 &&& (4611686018427387903 : Int64))), .second, .val (.int (p1 &&& (3 : Int32))), .unset, .unset, .unset] [(.int (p1 &&& (3 : Int32)))])) _
    refine XS.ifNo X0.here hx rfl (hb hby at_13) rfl ((if0 _ _).trans (teq hc13).2) ?_
    show Steps p.tables e below (s₁.setTop (mkF m 16 #[.val (.int p1), .val (.long q2), .second, .val (.long (q2 &&& (4611686018427387903 : Int64))), .second, .val (.int (p1 &&& (3 : Int32))), .unset, .unset, .unset] [])) _
    refine st4 _ ?_
    show Steps p.tables e below (T4.setTop (mkF m 19 #[.val (.int p1), .val (.long q2), .second, .val (.long (q2 &&& (4611686018427387903 : Int64))), .second, .val (.int (p1 &&& (3 : Int32))), .unset, .unset, .unset] [(.ref w3)])) _
    refine XS.astore X4.here hx rfl (hb hby at_19) rfl rfl (l' := #[.val (.int p1), .val (.long q2), .second, .val (.long (q2 &&& (4611686018427387903 : Int64))), .second, .val (.int (p1 &&& (3 : Int32))), .val (.ref w3), .unset, .unset]) rfl ?_
    show Steps p.tables e below (T4.setTop (mkF m 21 #[.val (.int p1), .val (.long q2), .second, .val (.long (q2 &&& (4611686018427387903 : Int64))), .second, .val (.int (p1 &&& (3 : Int32))), .val (.ref w3), .unset, .unset] [])) _
    refine XS.lloadN X4.here hx rfl (hb hby at_21) rfl ?_
    show Steps p.tables e below (T4.setTop (mkF m 22 #[.val (.int p1), .val (.long q2), .second, .val (.long (q2 &&& (4611686018427387903 : Int64))), .second, .val (.int (p1 &&& (3 : Int32))), .val (.ref w3), .unset, .unset] [(.long (q2 &&& (4611686018427387903 : Int64)))])) _
    refine st5 _ ?_
    show Steps p.tables e below (T5.setTop (mkF m 25 #[.val (.int p1), .val (.long q2), .second, .val (.long (q2 &&& (4611686018427387903 : Int64))), .second, .val (.int (p1 &&& (3 : Int32))), .val (.ref w3), .unset, .unset] [(.long (own_len (q2 &&& (4611686018427387903 : Int64)) (8 : Int32)))])) _
    refine XS.lstore X5.here hx rfl (hb hby at_25) rfl (l' := #[.val (.int p1), .val (.long q2), .second, .val (.long (q2 &&& (4611686018427387903 : Int64))), .second, .val (.int (p1 &&& (3 : Int32))), .val (.ref w3), .val (.long (own_len (q2 &&& (4611686018427387903 : Int64)) (8 : Int32))), .second]) rfl ?_
    show Steps p.tables e below (T5.setTop (mkF m 27 #[.val (.int p1), .val (.long q2), .second, .val (.long (q2 &&& (4611686018427387903 : Int64))), .second, .val (.int (p1 &&& (3 : Int32))), .val (.ref w3), .val (.long (own_len (q2 &&& (4611686018427387903 : Int64)) (8 : Int32))), .second] [])) _
    refine XS.goto X5.here hx rfl (pc0 := 27) (pc' := 81) rfl (hb hby at_27) (by decide) (by decide) ?_
    show Steps p.tables e below (T5.setTop (mkF m 81 #[.val (.int p1), .val (.long q2), .second, .val (.long (q2 &&& (4611686018427387903 : Int64))), .second, .val (.int (p1 &&& (3 : Int32))), .val (.ref w3), .val (.long (own_len (q2 &&& (4611686018427387903 : Int64)) (8 : Int32))), .second] [])) _
    refine XS.aload X5.here hx rfl (hb hby at_81) rfl rfl ?_
    show Steps p.tables e below (T5.setTop (mkF m 83 #[.val (.int p1), .val (.long q2), .second, .val (.long (q2 &&& (4611686018427387903 : Int64))), .second, .val (.int (p1 &&& (3 : Int32))), .val (.ref w3), .val (.long (own_len (q2 &&& (4611686018427387903 : Int64)) (8 : Int32))), .second] [(.ref w3)])) _
    refine XS.lloadN X5.here hx rfl (hb hby at_83) rfl ?_
    show Steps p.tables e below (T5.setTop (mkF m 84 #[.val (.int p1), .val (.long q2), .second, .val (.long (q2 &&& (4611686018427387903 : Int64))), .second, .val (.int (p1 &&& (3 : Int32))), .val (.ref w3), .val (.long (own_len (q2 &&& (4611686018427387903 : Int64)) (8 : Int32))), .second] [(.long (q2 &&& (4611686018427387903 : Int64))), (.ref w3)])) _
    refine st6.trans ?_
    show Steps p.tables e below (T6.setTop (mkF m 87 #[.val (.int p1), .val (.long q2), .second, .val (.long (q2 &&& (4611686018427387903 : Int64))), .second, .val (.int (p1 &&& (3 : Int32))), .val (.ref w3), .val (.long (own_len (q2 &&& (4611686018427387903 : Int64)) (8 : Int32))), .second] [(.long (own_len (q2 &&& (4611686018427387903 : Int64)) (8 : Int32)))])) _
    refine XS.lload X6.here hx rfl (hb hby at_87) rfl ?_
    show Steps p.tables e below (T6.setTop (mkF m 89 #[.val (.int p1), .val (.long q2), .second, .val (.long (q2 &&& (4611686018427387903 : Int64))), .second, .val (.int (p1 &&& (3 : Int32))), .val (.ref w3), .val (.long (own_len (q2 &&& (4611686018427387903 : Int64)) (8 : Int32))), .second] [(.long (own_len (q2 &&& (4611686018427387903 : Int64)) (8 : Int32))), (.long (own_len (q2 &&& (4611686018427387903 : Int64)) (8 : Int32)))])) _
    refine XS.lcmp X6.here hx rfl (hb hby at_89) rfl ?_
    show Steps p.tables e below (T6.setTop (mkF m 90 #[.val (.int p1), .val (.long q2), .second, .val (.long (q2 &&& (4611686018427387903 : Int64))), .second, .val (.int (p1 &&& (3 : Int32))), .val (.ref w3), .val (.long (own_len (q2 &&& (4611686018427387903 : Int64)) (8 : Int32))), .second] [(.int (lcmpW (own_len (q2 &&& (4611686018427387903 : Int64)) (8 : Int32)) (own_len (q2 &&& (4611686018427387903 : Int64)) (8 : Int32))))])) _
    refine XS.ifNo X6.here hx rfl (hb hby at_90) rfl ((if0 _ _).trans (teq ((lw_eq _ _).mpr rfl : (lcmpW (own_len (q2 &&& (4611686018427387903 : Int64)) (8 : Int32)) (own_len (q2 &&& (4611686018427387903 : Int64)) (8 : Int32))) = (0 : Int32))).2) ?_
    show Steps p.tables e below (T6.setTop (mkF m 93 #[.val (.int p1), .val (.long q2), .second, .val (.long (q2 &&& (4611686018427387903 : Int64))), .second, .val (.int (p1 &&& (3 : Int32))), .val (.ref w3), .val (.long (own_len (q2 &&& (4611686018427387903 : Int64)) (8 : Int32))), .second] [])) _
    refine XS.iconst X6.here hx rfl (hb hby at_93) ?_
    show Steps p.tables e below (T6.setTop (mkF m 94 #[.val (.int p1), .val (.long q2), .second, .val (.long (q2 &&& (4611686018427387903 : Int64))), .second, .val (.int (p1 &&& (3 : Int32))), .val (.ref w3), .val (.long (own_len (q2 &&& (4611686018427387903 : Int64)) (8 : Int32))), .second] [(.int (1 : Int32))])) _
    refine XS.goto X6.here hx rfl (pc0 := 94) (pc' := 98) rfl (hb hby at_94) (by decide) (by decide) ?_
    show Steps p.tables e below (T6.setTop (mkF m 98 #[.val (.int p1), .val (.long q2), .second, .val (.long (q2 &&& (4611686018427387903 : Int64))), .second, .val (.int (p1 &&& (3 : Int32))), .val (.ref w3), .val (.long (own_len (q2 &&& (4611686018427387903 : Int64)) (8 : Int32))), .second] [(.int (1 : Int32))])) _
    exact retN X6 hx (t := .boolean) Bd.returns (by simp) (hb hby at_98) hr
  · show Q0 n0 _ T6.heap _
    exact ⟨rfl, N6⟩
theorem rm3' (l : Launch) (Z : State) (a0 : Array Value) (hw : ∀ d ∈ tables_1, d.before a0 Z = true) (ws : List Jvm.Cond) (q1 : Int64) (h0 : Heap) (n0 : Nat) (Z0 : n0 ≤ h0.size) (r : Int64) (hr : own_cnts q1 = r) :
    MetFree l (⟨"com/example/gauze_filter/gauzefilter/form/FilterTypeArrayLengthPinLaw", "bytesOfCounters", "(J)J"⟩ : MethodName) (head1 (Jvm.Cond.code (⟨"com/example/gauze_filter/gauzefilter/form/FilterTypeArrayLengthPinLaw", "bytesOfCounters", "(J)J"⟩ : MethodName) method_4_code 2 (some .long) :: ws) ({ frames := 0, cells := 0, slots := 0, locals := 0 } : Room)) (fun a U => a = #[(.long q1)] ∧ Z.Warmed39 U.vm ∧ U.heap = h0) (fun _ _ _ _ _ => True) (fun _ U o U' => ∃ v L, o = .returned v ∧ Q1 r h0 n0 v U'.heap L ∧ FrameEnd U o U' L ({ frames := 0, cells := 0, slots := 0, locals := 0 } : Room).cells ({ frames := 0, cells := 0, slots := 0, locals := 0 } : Room).slots) := by
  subst hr
  exact rm3 l Z a0 hw ws q1 h0 n0 Z0
set_option maxRecDepth 65536 in
set_option maxHeartbeats 40000000 in
theorem rm0_tff (l : Launch) (Z : State) (a0 : Array Value) (hw : ∀ d ∈ tables_1, d.before a0 Z = true) (ws : List Jvm.Cond) (p1 : Int32) (q2 : Int64) (w3 : Addr) (h0 : Heap) (n0 : Nat) (Z0 : n0 ≤ h0.size) (Fc : Fld Z h0 w3 "com/example/gauze_filter/gauzefilter/form/FilterType" "cellsPerByte" "I" (.int (2 : Int32))) (hAB : own_cnts (q2 &&& (4611686018427387903 : Int64)) = own_len (q2 &&& (4611686018427387903 : Int64)) (2 : Int32)) (S_COUNTING : Sta Z h0 "com/example/gauze_filter/gauzefilter/form/FilterType" "COUNTING" "Lcom/example/gauze_filter/gauzefilter/form/FilterType;" (.ref w3)) (E_w3 : Exa Z h0 w3 "com/example/gauze_filter/gauzefilter/form/FilterType") (hc13 : ¬ ((p1 &&& (3 : Int32)) = (0 : Int32))) (hc33 : (p1 &&& (3 : Int32)) = (1 : Int32)) :
    MetFree l x (head1 (Jvm.Cond.code x code maxLocals ret :: ws) room_1) (fun a U => a = #[(.int p1), (.long q2)] ∧ Z.Warmed39 U.vm ∧ U.heap = h0) (fun _ _ _ _ _ => True) (fun _ U o U' => ∃ v L, o = .returned v ∧ Q0 n0 v U'.heap L ∧ FrameEnd U o U' L room_1.cells room_1.slots) := by
  refine MetFree.of_bodySF (plainFor_of_name pn_0) hisR ?_
  intro p e s m args below meth c s₁ Bd hml0 hP hK
  obtain ⟨rfl, hZ, hh⟩ := hP
  have hx := Bd.exec
  have hby := Bd.bytes
  have hml : c.maxLocals = 9 := hml0
  have hown : s.vm.findClass "com/example/gauze_filter/gauzefilter/form/FilterTypeArrayLengthPinLaw" = some m.cls := findClass_of_methodNamed Bd.named
  have hnm := (name_of_methodNamed Bd.named Bd.method).1
  have X0 : Stand p l e room_1 s m #[(.int p1), (.long q2)] below meth c s₁ [] 0 0 := Stand.of_body Bd
  have e0 : s₁.heap = h0 := by rw [← hh, Bd.state]; rfl
  have N0 := Fr.nil n0
  have pre0 : ∀ t, Steps p.tables e below (s₁.setTop (mkF m 0 #[.val (.int p1), .val (.long q2), .second, .unset, .unset, .unset, .unset, .unset, .unset] [])) t → Steps p.tables e below (s₁.setTop (entryFrame m #[(.int p1), (.long q2)] maxLocals)) t := fun t k => castTop (ef_0 m p1 q2) k
  obtain ⟨T4, X4, e4, st4⟩ := getS2 X0 hx hZ hown (host := "") (Or.inl (hw _ (List.mem_of_getElem? (i := 16) rfl))) Via.refl e0 S_COUNTING (g := (mkF m 36 #[.val (.int p1), .val (.long q2), .second, .val (.long (q2 &&& (4611686018427387903 : Int64))), .second, .val (.int (p1 &&& (3 : Int32))), .unset, .unset, .unset] [])) rfl (hb hby at_36)
  obtain ⟨_, _, ⟨T5, L5, k5, n5⟩, -, X5, ⟨Lc5, hQ5, l5, y5, z5⟩, st5⟩ := Jvm.LawKit.callS X4 hx (y := (⟨"com/example/gauze_filter/gauzefilter/form/FilterTypeArrayLengthPinLaw", "bytesOfCounters", "(J)J"⟩ : MethodName)) hown (mvT hZ (hw _ (List.mem_of_getElem? (i := 18) rfl))) (mvT hZ (hw _ (List.mem_of_getElem? (i := 19) rfl))) (mvT hZ (hw _ (List.mem_of_getElem? (i := 6) rfl))) (mvT hZ (hw _ (List.mem_of_getElem? (i := 20) rfl))) (by decide) (backOf (W := 0) (rm3' l Z a0 hw [] (q2 &&& (4611686018427387903 : Int64)) h0 n0 Z0 (own_len (q2 &&& (4611686018427387903 : Int64)) (2 : Int32)) hAB) hZ (hw _ (List.mem_of_getElem? (i := 20) rfl)) (hw _ (List.mem_of_getElem? (i := 6) rfl)) (by decide) (by decide)) (g := (mkF m 42 #[.val (.int p1), .val (.long q2), .second, .val (.long (q2 &&& (4611686018427387903 : Int64))), .second, .val (.int (p1 &&& (3 : Int32))), .val (.ref w3), .unset, .unset] [(.long (q2 &&& (4611686018427387903 : Int64)))])) rfl (by rw [hml]; rfl) (argsL := [(.long (q2 &&& (4611686018427387903 : Int64)))]) (rest := []) (lenOf pd_0_0 rfl) rfl (by show 2 * 0 + _ ≤ _; exact Nat.le_of_eq rfl) (hb hby at_42) (fun _ _ => ⟨rfl, e4, (by decide : 0 + 0 ≤ _), (by decide : 0 + 0 ≤ _)⟩)
  dsimp only [Pt.U, Pt.locs, Pt.cells, Pt.slots] at X5 l5 y5 z5 st5 hQ5
  subst l5 y5 z5
  obtain ⟨rfl, N5q, e5⟩ := hQ5
  have N5 := Fr.app N0 N5q
  obtain ⟨cq6, kq6, q6a, q6b, q6c⟩ := isOf hZ e5 E_w3
  obtain ⟨_, _, ⟨T6, L6, k6, n6⟩, -, X6, ⟨Lc6, hQ6, l6, y6, z6⟩, st6⟩ := X5.virtualBack hx (y := (⟨"com/example/gauze_filter/gauzefilter/form/FilterType", "arrayLength", "(J)J"⟩ : MethodName)) (z := (⟨"com/example/gauze_filter/gauzefilter/form/FilterType", "arrayLength", "(J)J"⟩ : MethodName)) hown (mvT hZ (hw _ (List.mem_of_getElem? (i := 9) rfl))) (mvT hZ (hw _ (List.mem_of_getElem? (i := 10) rfl))) (notFace_of_selects (args := #[]) (mvT hZ (hw _ (List.mem_of_getElem? (i := 12) rfl)))) (mvT hZ (hw _ (List.mem_of_getElem? (i := 12) rfl))) (mvT hZ (hw _ (List.mem_of_getElem? (i := 11) rfl))) (by decide) (backOf (W := 0) (rm2 l Z a0 hw [] w3 (q2 &&& (4611686018427387903 : Int64)) (2 : Int32) h0 n0 Z0 Fc (by decide)) hZ (hw _ (List.mem_of_getElem? (i := 13) rfl)) (hw _ (List.mem_of_getElem? (i := 2) rfl)) (by decide) (by decide)) q6a q6c (g := (mkF m 84 #[.val (.int p1), .val (.long q2), .second, .val (.long (q2 &&& (4611686018427387903 : Int64))), .second, .val (.int (p1 &&& (3 : Int32))), .val (.ref w3), .val (.long (own_len (q2 &&& (4611686018427387903 : Int64)) (2 : Int32))), .second] [(.long (q2 &&& (4611686018427387903 : Int64))), (.ref w3)])) rfl (by rw [hml]; rfl) (Steps.refl _) (argsL := [(.long (q2 &&& (4611686018427387903 : Int64)))]) (rest := []) (lenOf pd_0_0 rfl) rfl (by show 2 * 0 + _ ≤ _; exact Nat.le_of_eq rfl) (hb hby at_84) (fun _ _ => ⟨rfl, e5, (by decide : 0 + 0 ≤ _), (by decide : 0 + 0 ≤ _)⟩)
  dsimp only [Pt.U, Pt.locs, Pt.cells, Pt.slots] at X6 l6 y6 z6 st6 hQ6
  subst l6 y6 z6
  obtain ⟨rfl, N6q, e6⟩ := hQ6
  have N6 := Fr.app N5 N6q
  obtain ⟨fs, hr, hrun, hended, hW, hsame⟩ := X6.leave (v := some (.int (1 : Int32))) (fun h => by rw [Bd.returns] at h; cases h)
  refine ⟨_, _, pre0 _ ?_, hrun, hended, _, _, rfl, ?_, ⟨_, rfl⟩, hW, hsame.mono (by decide) (by decide)⟩
  · show Steps p.tables e below (s₁.setTop (mkF m 0 #[.val (.int p1), .val (.long q2), .second, .unset, .unset, .unset, .unset, .unset, .unset] [])) _
    refine XS.lloadN X0.here hx rfl (hb hby at_0) rfl ?_
    show Steps p.tables e below (s₁.setTop (mkF m 1 #[.val (.int p1), .val (.long q2), .second, .unset, .unset, .unset, .unset, .unset, .unset] [(.long q2)])) _
    refine X0.ldc2Long hx hown (mvT hZ (hw _ (List.mem_of_getElem? (i := 0) rfl))) (g := (mkF m 1 #[.val (.int p1), .val (.long q2), .second, .unset, .unset, .unset, .unset, .unset, .unset] [(.long q2)])) rfl (hb hby at_1) _ ?_
    show Steps p.tables e below (s₁.setTop (mkF m 4 #[.val (.int p1), .val (.long q2), .second, .unset, .unset, .unset, .unset, .unset, .unset] [(.long (4611686018427387903 : Int64)), (.long q2)])) _
    refine XS.land X0.here hx rfl (hb hby at_4) rfl ?_
    show Steps p.tables e below (s₁.setTop (mkF m 5 #[.val (.int p1), .val (.long q2), .second, .unset, .unset, .unset, .unset, .unset, .unset] [(.long (q2 &&& (4611686018427387903 : Int64)))])) _
    refine XS.lstoreN X0.here hx rfl (hb hby at_5) rfl (l' := #[.val (.int p1), .val (.long q2), .second, .val (.long (q2 &&& (4611686018427387903 : Int64))), .second, .unset, .unset, .unset, .unset]) rfl ?_
    show Steps p.tables e below (s₁.setTop (mkF m 6 #[.val (.int p1), .val (.long q2), .second, .val (.long (q2 &&& (4611686018427387903 : Int64))), .second, .unset, .unset, .unset, .unset] [])) _
    refine XS.iloadN X0.here hx rfl (hb hby at_6) rfl ?_
    show Steps p.tables e below (s₁.setTop (mkF m 7 #[.val (.int p1), .val (.long q2), .second, .val (.long (q2 &&& (4611686018427387903 : Int64))), .second, .unset, .unset, .unset, .unset] [(.int p1)])) _
    refine XS.iconst X0.here hx rfl (hb hby at_7) ?_
    show Steps p.tables e below (s₁.setTop (mkF m 8 #[.val (.int p1), .val (.long q2), .second, .val (.long (q2 &&& (4611686018427387903 : Int64))), .second, .unset, .unset, .unset, .unset] [(.int (3 : Int32)), (.int p1)])) _
    refine XS.iand X0.here hx rfl (hb hby at_8) rfl ?_
    show Steps p.tables e below (s₁.setTop (mkF m 9 #[.val (.int p1), .val (.long q2), .second, .val (.long (q2 &&& (4611686018427387903 : Int64))), .second, .unset, .unset, .unset, .unset] [(.int (p1 &&& (3 : Int32)))])) _
    refine XS.istore X0.here hx rfl (hb hby at_9) rfl (l' := #[.val (.int p1), .val (.long q2), .second, .val (.long (q2 &&& (4611686018427387903 : Int64))), .second, .val (.int (p1 &&& (3 : Int32))), .unset, .unset, .unset]) rfl ?_
    show Steps p.tables e below (s₁.setTop (mkF m 11 #[.val (.int p1), .val (.long q2), .second, .val (.long (q2 &&& (4611686018427387903 : Int64))), .second, .val (.int (p1 &&& (3 : Int32))), .unset, .unset, .unset] [])) _
    refine XS.iload X0.here hx rfl (hb hby at_11) rfl ?_
    show Steps p.tables e below (s₁.setTop (mkF m 13 #[.val (.int p1), .val (.long q2), .second, .val (.long (q2 &&& (4611686018427387903 : Int64))), .second, .val (.int (p1 &&& (3 : Int32))), .unset, .unset, .unset] [(.int (p1 &&& (3 : Int32)))])) _
    refine XS.ifYes X0.here hx rfl (pc0 := 13) (pc' := 30) rfl (hb hby at_13) rfl ((if0 _ _).trans (feq hc13).2) (by decide) (by decide) ?_
    show Steps p.tables e below (s₁.setTop (mkF m 30 #[.val (.int p1), .val (.long q2), .second, .val (.long (q2 &&& (4611686018427387903 : Int64))), .second, .val (.int (p1 &&& (3 : Int32))), .unset, .unset, .unset] [])) _
    refine XS.iload X0.here hx rfl (hb hby at_30) rfl ?_
    show Steps p.tables e below (s₁.setTop (mkF m 32 #[.val (.int p1), .val (.long q2), .second, .val (.long (q2 &&& (4611686018427387903 : Int64))), .second, .val (.int (p1 &&& (3 : Int32))), .unset, .unset, .unset] [(.int (p1 &&& (3 : Int32)))])) _
    refine XS.iconst X0.here hx rfl (hb hby at_32) ?_
    show Steps p.tables e below (s₁.setTop (mkF m 33 #[.val (.int p1), .val (.long q2), .second, .val (.long (q2 &&& (4611686018427387903 : Int64))), .second, .val (.int (p1 &&& (3 : Int32))), .unset, .unset, .unset] [(.int (1 : Int32)), (.int (p1 &&& (3 : Int32)))])) _
    refine XS.icmpNo X0.here hx rfl (hb hby at_33) rfl (teq hc33).2 ?_
    show Steps p.tables e below (s₁.setTop (mkF m 36 #[.val (.int p1), .val (.long q2), .second, .val (.long (q2 &&& (4611686018427387903 : Int64))), .second, .val (.int (p1 &&& (3 : Int32))), .unset, .unset, .unset] [])) _
    refine st4 _ ?_
    show Steps p.tables e below (T4.setTop (mkF m 39 #[.val (.int p1), .val (.long q2), .second, .val (.long (q2 &&& (4611686018427387903 : Int64))), .second, .val (.int (p1 &&& (3 : Int32))), .unset, .unset, .unset] [(.ref w3)])) _
    refine XS.astore X4.here hx rfl (hb hby at_39) rfl rfl (l' := #[.val (.int p1), .val (.long q2), .second, .val (.long (q2 &&& (4611686018427387903 : Int64))), .second, .val (.int (p1 &&& (3 : Int32))), .val (.ref w3), .unset, .unset]) rfl ?_
    show Steps p.tables e below (T4.setTop (mkF m 41 #[.val (.int p1), .val (.long q2), .second, .val (.long (q2 &&& (4611686018427387903 : Int64))), .second, .val (.int (p1 &&& (3 : Int32))), .val (.ref w3), .unset, .unset] [])) _
    refine XS.lloadN X4.here hx rfl (hb hby at_41) rfl ?_
    show Steps p.tables e below (T4.setTop (mkF m 42 #[.val (.int p1), .val (.long q2), .second, .val (.long (q2 &&& (4611686018427387903 : Int64))), .second, .val (.int (p1 &&& (3 : Int32))), .val (.ref w3), .unset, .unset] [(.long (q2 &&& (4611686018427387903 : Int64)))])) _
    refine st5 _ ?_
    show Steps p.tables e below (T5.setTop (mkF m 45 #[.val (.int p1), .val (.long q2), .second, .val (.long (q2 &&& (4611686018427387903 : Int64))), .second, .val (.int (p1 &&& (3 : Int32))), .val (.ref w3), .unset, .unset] [(.long (own_len (q2 &&& (4611686018427387903 : Int64)) (2 : Int32)))])) _
    refine XS.lstore X5.here hx rfl (hb hby at_45) rfl (l' := #[.val (.int p1), .val (.long q2), .second, .val (.long (q2 &&& (4611686018427387903 : Int64))), .second, .val (.int (p1 &&& (3 : Int32))), .val (.ref w3), .val (.long (own_len (q2 &&& (4611686018427387903 : Int64)) (2 : Int32))), .second]) rfl ?_
    show Steps p.tables e below (T5.setTop (mkF m 47 #[.val (.int p1), .val (.long q2), .second, .val (.long (q2 &&& (4611686018427387903 : Int64))), .second, .val (.int (p1 &&& (3 : Int32))), .val (.ref w3), .val (.long (own_len (q2 &&& (4611686018427387903 : Int64)) (2 : Int32))), .second] [])) _
    refine XS.goto X5.here hx rfl (pc0 := 47) (pc' := 81) rfl (hb hby at_47) (by decide) (by decide) ?_
    show Steps p.tables e below (T5.setTop (mkF m 81 #[.val (.int p1), .val (.long q2), .second, .val (.long (q2 &&& (4611686018427387903 : Int64))), .second, .val (.int (p1 &&& (3 : Int32))), .val (.ref w3), .val (.long (own_len (q2 &&& (4611686018427387903 : Int64)) (2 : Int32))), .second] [])) _
    refine XS.aload X5.here hx rfl (hb hby at_81) rfl rfl ?_
    show Steps p.tables e below (T5.setTop (mkF m 83 #[.val (.int p1), .val (.long q2), .second, .val (.long (q2 &&& (4611686018427387903 : Int64))), .second, .val (.int (p1 &&& (3 : Int32))), .val (.ref w3), .val (.long (own_len (q2 &&& (4611686018427387903 : Int64)) (2 : Int32))), .second] [(.ref w3)])) _
    refine XS.lloadN X5.here hx rfl (hb hby at_83) rfl ?_
    show Steps p.tables e below (T5.setTop (mkF m 84 #[.val (.int p1), .val (.long q2), .second, .val (.long (q2 &&& (4611686018427387903 : Int64))), .second, .val (.int (p1 &&& (3 : Int32))), .val (.ref w3), .val (.long (own_len (q2 &&& (4611686018427387903 : Int64)) (2 : Int32))), .second] [(.long (q2 &&& (4611686018427387903 : Int64))), (.ref w3)])) _
    refine st6.trans ?_
    show Steps p.tables e below (T6.setTop (mkF m 87 #[.val (.int p1), .val (.long q2), .second, .val (.long (q2 &&& (4611686018427387903 : Int64))), .second, .val (.int (p1 &&& (3 : Int32))), .val (.ref w3), .val (.long (own_len (q2 &&& (4611686018427387903 : Int64)) (2 : Int32))), .second] [(.long (own_len (q2 &&& (4611686018427387903 : Int64)) (2 : Int32)))])) _
    refine XS.lload X6.here hx rfl (hb hby at_87) rfl ?_
    show Steps p.tables e below (T6.setTop (mkF m 89 #[.val (.int p1), .val (.long q2), .second, .val (.long (q2 &&& (4611686018427387903 : Int64))), .second, .val (.int (p1 &&& (3 : Int32))), .val (.ref w3), .val (.long (own_len (q2 &&& (4611686018427387903 : Int64)) (2 : Int32))), .second] [(.long (own_len (q2 &&& (4611686018427387903 : Int64)) (2 : Int32))), (.long (own_len (q2 &&& (4611686018427387903 : Int64)) (2 : Int32)))])) _
    refine XS.lcmp X6.here hx rfl (hb hby at_89) rfl ?_
    show Steps p.tables e below (T6.setTop (mkF m 90 #[.val (.int p1), .val (.long q2), .second, .val (.long (q2 &&& (4611686018427387903 : Int64))), .second, .val (.int (p1 &&& (3 : Int32))), .val (.ref w3), .val (.long (own_len (q2 &&& (4611686018427387903 : Int64)) (2 : Int32))), .second] [(.int (lcmpW (own_len (q2 &&& (4611686018427387903 : Int64)) (2 : Int32)) (own_len (q2 &&& (4611686018427387903 : Int64)) (2 : Int32))))])) _
    refine XS.ifNo X6.here hx rfl (hb hby at_90) rfl ((if0 _ _).trans (teq ((lw_eq _ _).mpr rfl : (lcmpW (own_len (q2 &&& (4611686018427387903 : Int64)) (2 : Int32)) (own_len (q2 &&& (4611686018427387903 : Int64)) (2 : Int32))) = (0 : Int32))).2) ?_
    show Steps p.tables e below (T6.setTop (mkF m 93 #[.val (.int p1), .val (.long q2), .second, .val (.long (q2 &&& (4611686018427387903 : Int64))), .second, .val (.int (p1 &&& (3 : Int32))), .val (.ref w3), .val (.long (own_len (q2 &&& (4611686018427387903 : Int64)) (2 : Int32))), .second] [])) _
    refine XS.iconst X6.here hx rfl (hb hby at_93) ?_
    show Steps p.tables e below (T6.setTop (mkF m 94 #[.val (.int p1), .val (.long q2), .second, .val (.long (q2 &&& (4611686018427387903 : Int64))), .second, .val (.int (p1 &&& (3 : Int32))), .val (.ref w3), .val (.long (own_len (q2 &&& (4611686018427387903 : Int64)) (2 : Int32))), .second] [(.int (1 : Int32))])) _
    refine XS.goto X6.here hx rfl (pc0 := 94) (pc' := 98) rfl (hb hby at_94) (by decide) (by decide) ?_
    show Steps p.tables e below (T6.setTop (mkF m 98 #[.val (.int p1), .val (.long q2), .second, .val (.long (q2 &&& (4611686018427387903 : Int64))), .second, .val (.int (p1 &&& (3 : Int32))), .val (.ref w3), .val (.long (own_len (q2 &&& (4611686018427387903 : Int64)) (2 : Int32))), .second] [(.int (1 : Int32))])) _
    exact retN X6 hx (t := .boolean) Bd.returns (by simp) (hb hby at_98) hr
  · show Q0 n0 _ T6.heap _
    exact ⟨rfl, N6⟩
set_option maxRecDepth 65536 in
set_option maxHeartbeats 40000000 in
theorem rm0_ttff (l : Launch) (Z : State) (a0 : Array Value) (hw : ∀ d ∈ tables_1, d.before a0 Z = true) (ws : List Jvm.Cond) (p1 : Int32) (q2 : Int64) (w3 : Addr) (h0 : Heap) (n0 : Nat) (Z0 : n0 ≤ h0.size) (Fc : Fld Z h0 w3 "com/example/gauze_filter/gauzefilter/form/FilterType" "cellsPerByte" "I" (.int (8 : Int32))) (hAB : own_bits (q2 &&& (4611686018427387903 : Int64)) = own_len (q2 &&& (4611686018427387903 : Int64)) (8 : Int32)) (S_SCALABLE : Sta Z h0 "com/example/gauze_filter/gauzefilter/form/FilterType" "SCALABLE" "Lcom/example/gauze_filter/gauzefilter/form/FilterType;" (.ref w3)) (E_w3 : Exa Z h0 w3 "com/example/gauze_filter/gauzefilter/form/FilterType") (hc13 : ¬ ((p1 &&& (3 : Int32)) = (0 : Int32))) (hc33 : ¬ ((p1 &&& (3 : Int32)) = (1 : Int32))) (hc53 : (p1 &&& (3 : Int32)) = (2 : Int32)) :
    MetFree l x (head1 (Jvm.Cond.code x code maxLocals ret :: ws) room_1) (fun a U => a = #[(.int p1), (.long q2)] ∧ Z.Warmed39 U.vm ∧ U.heap = h0) (fun _ _ _ _ _ => True) (fun _ U o U' => ∃ v L, o = .returned v ∧ Q0 n0 v U'.heap L ∧ FrameEnd U o U' L room_1.cells room_1.slots) := by
  refine MetFree.of_bodySF (plainFor_of_name pn_0) hisR ?_
  intro p e s m args below meth c s₁ Bd hml0 hP hK
  obtain ⟨rfl, hZ, hh⟩ := hP
  have hx := Bd.exec
  have hby := Bd.bytes
  have hml : c.maxLocals = 9 := hml0
  have hown : s.vm.findClass "com/example/gauze_filter/gauzefilter/form/FilterTypeArrayLengthPinLaw" = some m.cls := findClass_of_methodNamed Bd.named
  have hnm := (name_of_methodNamed Bd.named Bd.method).1
  have X0 : Stand p l e room_1 s m #[(.int p1), (.long q2)] below meth c s₁ [] 0 0 := Stand.of_body Bd
  have e0 : s₁.heap = h0 := by rw [← hh, Bd.state]; rfl
  have N0 := Fr.nil n0
  have pre0 : ∀ t, Steps p.tables e below (s₁.setTop (mkF m 0 #[.val (.int p1), .val (.long q2), .second, .unset, .unset, .unset, .unset, .unset, .unset] [])) t → Steps p.tables e below (s₁.setTop (entryFrame m #[(.int p1), (.long q2)] maxLocals)) t := fun t k => castTop (ef_0 m p1 q2) k
  obtain ⟨T4, X4, e4, st4⟩ := getS2 X0 hx hZ hown (host := "") (Or.inl (hw _ (List.mem_of_getElem? (i := 21) rfl))) Via.refl e0 S_SCALABLE (g := (mkF m 56 #[.val (.int p1), .val (.long q2), .second, .val (.long (q2 &&& (4611686018427387903 : Int64))), .second, .val (.int (p1 &&& (3 : Int32))), .unset, .unset, .unset] [])) rfl (hb hby at_56)
  obtain ⟨_, _, ⟨T5, L5, k5, n5⟩, -, X5, ⟨Lc5, hQ5, l5, y5, z5⟩, st5⟩ := Jvm.LawKit.callS X4 hx (y := (⟨"com/example/gauze_filter/gauzefilter/form/FilterTypeArrayLengthPinLaw", "bytesOfBits", "(J)J"⟩ : MethodName)) hown (mvT hZ (hw _ (List.mem_of_getElem? (i := 4) rfl))) (mvT hZ (hw _ (List.mem_of_getElem? (i := 5) rfl))) (mvT hZ (hw _ (List.mem_of_getElem? (i := 6) rfl))) (mvT hZ (hw _ (List.mem_of_getElem? (i := 7) rfl))) (by decide) (backOf (W := 0) (rm1 l Z a0 hw [] (q2 &&& (4611686018427387903 : Int64)) h0 n0 Z0 (own_len (q2 &&& (4611686018427387903 : Int64)) (8 : Int32)) hAB) hZ (hw _ (List.mem_of_getElem? (i := 7) rfl)) (hw _ (List.mem_of_getElem? (i := 6) rfl)) (by decide) (by decide)) (g := (mkF m 62 #[.val (.int p1), .val (.long q2), .second, .val (.long (q2 &&& (4611686018427387903 : Int64))), .second, .val (.int (p1 &&& (3 : Int32))), .val (.ref w3), .unset, .unset] [(.long (q2 &&& (4611686018427387903 : Int64)))])) rfl (by rw [hml]; rfl) (argsL := [(.long (q2 &&& (4611686018427387903 : Int64)))]) (rest := []) (lenOf pd_0_0 rfl) rfl (by show 2 * 0 + _ ≤ _; exact Nat.le_of_eq rfl) (hb hby at_62) (fun _ _ => ⟨rfl, e4, (by decide : 0 + 0 ≤ _), (by decide : 0 + 0 ≤ _)⟩)
  dsimp only [Pt.U, Pt.locs, Pt.cells, Pt.slots] at X5 l5 y5 z5 st5 hQ5
  subst l5 y5 z5
  obtain ⟨rfl, N5q, e5⟩ := hQ5
  have N5 := Fr.app N0 N5q
  obtain ⟨cq6, kq6, q6a, q6b, q6c⟩ := isOf hZ e5 E_w3
  obtain ⟨_, _, ⟨T6, L6, k6, n6⟩, -, X6, ⟨Lc6, hQ6, l6, y6, z6⟩, st6⟩ := X5.virtualBack hx (y := (⟨"com/example/gauze_filter/gauzefilter/form/FilterType", "arrayLength", "(J)J"⟩ : MethodName)) (z := (⟨"com/example/gauze_filter/gauzefilter/form/FilterType", "arrayLength", "(J)J"⟩ : MethodName)) hown (mvT hZ (hw _ (List.mem_of_getElem? (i := 9) rfl))) (mvT hZ (hw _ (List.mem_of_getElem? (i := 10) rfl))) (notFace_of_selects (args := #[]) (mvT hZ (hw _ (List.mem_of_getElem? (i := 12) rfl)))) (mvT hZ (hw _ (List.mem_of_getElem? (i := 12) rfl))) (mvT hZ (hw _ (List.mem_of_getElem? (i := 11) rfl))) (by decide) (backOf (W := 0) (rm2 l Z a0 hw [] w3 (q2 &&& (4611686018427387903 : Int64)) (8 : Int32) h0 n0 Z0 Fc (by decide)) hZ (hw _ (List.mem_of_getElem? (i := 13) rfl)) (hw _ (List.mem_of_getElem? (i := 2) rfl)) (by decide) (by decide)) q6a q6c (g := (mkF m 84 #[.val (.int p1), .val (.long q2), .second, .val (.long (q2 &&& (4611686018427387903 : Int64))), .second, .val (.int (p1 &&& (3 : Int32))), .val (.ref w3), .val (.long (own_len (q2 &&& (4611686018427387903 : Int64)) (8 : Int32))), .second] [(.long (q2 &&& (4611686018427387903 : Int64))), (.ref w3)])) rfl (by rw [hml]; rfl) (Steps.refl _) (argsL := [(.long (q2 &&& (4611686018427387903 : Int64)))]) (rest := []) (lenOf pd_0_0 rfl) rfl (by show 2 * 0 + _ ≤ _; exact Nat.le_of_eq rfl) (hb hby at_84) (fun _ _ => ⟨rfl, e5, (by decide : 0 + 0 ≤ _), (by decide : 0 + 0 ≤ _)⟩)
  dsimp only [Pt.U, Pt.locs, Pt.cells, Pt.slots] at X6 l6 y6 z6 st6 hQ6
  subst l6 y6 z6
  obtain ⟨rfl, N6q, e6⟩ := hQ6
  have N6 := Fr.app N5 N6q
  obtain ⟨fs, hr, hrun, hended, hW, hsame⟩ := X6.leave (v := some (.int (1 : Int32))) (fun h => by rw [Bd.returns] at h; cases h)
  refine ⟨_, _, pre0 _ ?_, hrun, hended, _, _, rfl, ?_, ⟨_, rfl⟩, hW, hsame.mono (by decide) (by decide)⟩
  · show Steps p.tables e below (s₁.setTop (mkF m 0 #[.val (.int p1), .val (.long q2), .second, .unset, .unset, .unset, .unset, .unset, .unset] [])) _
    refine XS.lloadN X0.here hx rfl (hb hby at_0) rfl ?_
    show Steps p.tables e below (s₁.setTop (mkF m 1 #[.val (.int p1), .val (.long q2), .second, .unset, .unset, .unset, .unset, .unset, .unset] [(.long q2)])) _
    refine X0.ldc2Long hx hown (mvT hZ (hw _ (List.mem_of_getElem? (i := 0) rfl))) (g := (mkF m 1 #[.val (.int p1), .val (.long q2), .second, .unset, .unset, .unset, .unset, .unset, .unset] [(.long q2)])) rfl (hb hby at_1) _ ?_
    show Steps p.tables e below (s₁.setTop (mkF m 4 #[.val (.int p1), .val (.long q2), .second, .unset, .unset, .unset, .unset, .unset, .unset] [(.long (4611686018427387903 : Int64)), (.long q2)])) _
    refine XS.land X0.here hx rfl (hb hby at_4) rfl ?_
    show Steps p.tables e below (s₁.setTop (mkF m 5 #[.val (.int p1), .val (.long q2), .second, .unset, .unset, .unset, .unset, .unset, .unset] [(.long (q2 &&& (4611686018427387903 : Int64)))])) _
    refine XS.lstoreN X0.here hx rfl (hb hby at_5) rfl (l' := #[.val (.int p1), .val (.long q2), .second, .val (.long (q2 &&& (4611686018427387903 : Int64))), .second, .unset, .unset, .unset, .unset]) rfl ?_
    show Steps p.tables e below (s₁.setTop (mkF m 6 #[.val (.int p1), .val (.long q2), .second, .val (.long (q2 &&& (4611686018427387903 : Int64))), .second, .unset, .unset, .unset, .unset] [])) _
    refine XS.iloadN X0.here hx rfl (hb hby at_6) rfl ?_
    show Steps p.tables e below (s₁.setTop (mkF m 7 #[.val (.int p1), .val (.long q2), .second, .val (.long (q2 &&& (4611686018427387903 : Int64))), .second, .unset, .unset, .unset, .unset] [(.int p1)])) _
    refine XS.iconst X0.here hx rfl (hb hby at_7) ?_
    show Steps p.tables e below (s₁.setTop (mkF m 8 #[.val (.int p1), .val (.long q2), .second, .val (.long (q2 &&& (4611686018427387903 : Int64))), .second, .unset, .unset, .unset, .unset] [(.int (3 : Int32)), (.int p1)])) _
    refine XS.iand X0.here hx rfl (hb hby at_8) rfl ?_
    show Steps p.tables e below (s₁.setTop (mkF m 9 #[.val (.int p1), .val (.long q2), .second, .val (.long (q2 &&& (4611686018427387903 : Int64))), .second, .unset, .unset, .unset, .unset] [(.int (p1 &&& (3 : Int32)))])) _
    refine XS.istore X0.here hx rfl (hb hby at_9) rfl (l' := #[.val (.int p1), .val (.long q2), .second, .val (.long (q2 &&& (4611686018427387903 : Int64))), .second, .val (.int (p1 &&& (3 : Int32))), .unset, .unset, .unset]) rfl ?_
    show Steps p.tables e below (s₁.setTop (mkF m 11 #[.val (.int p1), .val (.long q2), .second, .val (.long (q2 &&& (4611686018427387903 : Int64))), .second, .val (.int (p1 &&& (3 : Int32))), .unset, .unset, .unset] [])) _
    refine XS.iload X0.here hx rfl (hb hby at_11) rfl ?_
    show Steps p.tables e below (s₁.setTop (mkF m 13 #[.val (.int p1), .val (.long q2), .second, .val (.long (q2 &&& (4611686018427387903 : Int64))), .second, .val (.int (p1 &&& (3 : Int32))), .unset, .unset, .unset] [(.int (p1 &&& (3 : Int32)))])) _
    refine XS.ifYes X0.here hx rfl (pc0 := 13) (pc' := 30) rfl (hb hby at_13) rfl ((if0 _ _).trans (feq hc13).2) (by decide) (by decide) ?_
    show Steps p.tables e below (s₁.setTop (mkF m 30 #[.val (.int p1), .val (.long q2), .second, .val (.long (q2 &&& (4611686018427387903 : Int64))), .second, .val (.int (p1 &&& (3 : Int32))), .unset, .unset, .unset] [])) _
    refine XS.iload X0.here hx rfl (hb hby at_30) rfl ?_
    show Steps p.tables e below (s₁.setTop (mkF m 32 #[.val (.int p1), .val (.long q2), .second, .val (.long (q2 &&& (4611686018427387903 : Int64))), .second, .val (.int (p1 &&& (3 : Int32))), .unset, .unset, .unset] [(.int (p1 &&& (3 : Int32)))])) _
    refine XS.iconst X0.here hx rfl (hb hby at_32) ?_
    show Steps p.tables e below (s₁.setTop (mkF m 33 #[.val (.int p1), .val (.long q2), .second, .val (.long (q2 &&& (4611686018427387903 : Int64))), .second, .val (.int (p1 &&& (3 : Int32))), .unset, .unset, .unset] [(.int (1 : Int32)), (.int (p1 &&& (3 : Int32)))])) _
    refine XS.icmpYes X0.here hx rfl (pc0 := 33) (pc' := 50) rfl (hb hby at_33) rfl (feq hc33).2 (by decide) (by decide) ?_
    show Steps p.tables e below (s₁.setTop (mkF m 50 #[.val (.int p1), .val (.long q2), .second, .val (.long (q2 &&& (4611686018427387903 : Int64))), .second, .val (.int (p1 &&& (3 : Int32))), .unset, .unset, .unset] [])) _
    refine XS.iload X0.here hx rfl (hb hby at_50) rfl ?_
    show Steps p.tables e below (s₁.setTop (mkF m 52 #[.val (.int p1), .val (.long q2), .second, .val (.long (q2 &&& (4611686018427387903 : Int64))), .second, .val (.int (p1 &&& (3 : Int32))), .unset, .unset, .unset] [(.int (p1 &&& (3 : Int32)))])) _
    refine XS.iconst X0.here hx rfl (hb hby at_52) ?_
    show Steps p.tables e below (s₁.setTop (mkF m 53 #[.val (.int p1), .val (.long q2), .second, .val (.long (q2 &&& (4611686018427387903 : Int64))), .second, .val (.int (p1 &&& (3 : Int32))), .unset, .unset, .unset] [(.int (2 : Int32)), (.int (p1 &&& (3 : Int32)))])) _
    refine XS.icmpNo X0.here hx rfl (hb hby at_53) rfl (teq hc53).2 ?_
    show Steps p.tables e below (s₁.setTop (mkF m 56 #[.val (.int p1), .val (.long q2), .second, .val (.long (q2 &&& (4611686018427387903 : Int64))), .second, .val (.int (p1 &&& (3 : Int32))), .unset, .unset, .unset] [])) _
    refine st4 _ ?_
    show Steps p.tables e below (T4.setTop (mkF m 59 #[.val (.int p1), .val (.long q2), .second, .val (.long (q2 &&& (4611686018427387903 : Int64))), .second, .val (.int (p1 &&& (3 : Int32))), .unset, .unset, .unset] [(.ref w3)])) _
    refine XS.astore X4.here hx rfl (hb hby at_59) rfl rfl (l' := #[.val (.int p1), .val (.long q2), .second, .val (.long (q2 &&& (4611686018427387903 : Int64))), .second, .val (.int (p1 &&& (3 : Int32))), .val (.ref w3), .unset, .unset]) rfl ?_
    show Steps p.tables e below (T4.setTop (mkF m 61 #[.val (.int p1), .val (.long q2), .second, .val (.long (q2 &&& (4611686018427387903 : Int64))), .second, .val (.int (p1 &&& (3 : Int32))), .val (.ref w3), .unset, .unset] [])) _
    refine XS.lloadN X4.here hx rfl (hb hby at_61) rfl ?_
    show Steps p.tables e below (T4.setTop (mkF m 62 #[.val (.int p1), .val (.long q2), .second, .val (.long (q2 &&& (4611686018427387903 : Int64))), .second, .val (.int (p1 &&& (3 : Int32))), .val (.ref w3), .unset, .unset] [(.long (q2 &&& (4611686018427387903 : Int64)))])) _
    refine st5 _ ?_
    show Steps p.tables e below (T5.setTop (mkF m 65 #[.val (.int p1), .val (.long q2), .second, .val (.long (q2 &&& (4611686018427387903 : Int64))), .second, .val (.int (p1 &&& (3 : Int32))), .val (.ref w3), .unset, .unset] [(.long (own_len (q2 &&& (4611686018427387903 : Int64)) (8 : Int32)))])) _
    refine XS.lstore X5.here hx rfl (hb hby at_65) rfl (l' := #[.val (.int p1), .val (.long q2), .second, .val (.long (q2 &&& (4611686018427387903 : Int64))), .second, .val (.int (p1 &&& (3 : Int32))), .val (.ref w3), .val (.long (own_len (q2 &&& (4611686018427387903 : Int64)) (8 : Int32))), .second]) rfl ?_
    show Steps p.tables e below (T5.setTop (mkF m 67 #[.val (.int p1), .val (.long q2), .second, .val (.long (q2 &&& (4611686018427387903 : Int64))), .second, .val (.int (p1 &&& (3 : Int32))), .val (.ref w3), .val (.long (own_len (q2 &&& (4611686018427387903 : Int64)) (8 : Int32))), .second] [])) _
    refine XS.goto X5.here hx rfl (pc0 := 67) (pc' := 81) rfl (hb hby at_67) (by decide) (by decide) ?_
    show Steps p.tables e below (T5.setTop (mkF m 81 #[.val (.int p1), .val (.long q2), .second, .val (.long (q2 &&& (4611686018427387903 : Int64))), .second, .val (.int (p1 &&& (3 : Int32))), .val (.ref w3), .val (.long (own_len (q2 &&& (4611686018427387903 : Int64)) (8 : Int32))), .second] [])) _
    refine XS.aload X5.here hx rfl (hb hby at_81) rfl rfl ?_
    show Steps p.tables e below (T5.setTop (mkF m 83 #[.val (.int p1), .val (.long q2), .second, .val (.long (q2 &&& (4611686018427387903 : Int64))), .second, .val (.int (p1 &&& (3 : Int32))), .val (.ref w3), .val (.long (own_len (q2 &&& (4611686018427387903 : Int64)) (8 : Int32))), .second] [(.ref w3)])) _
    refine XS.lloadN X5.here hx rfl (hb hby at_83) rfl ?_
    show Steps p.tables e below (T5.setTop (mkF m 84 #[.val (.int p1), .val (.long q2), .second, .val (.long (q2 &&& (4611686018427387903 : Int64))), .second, .val (.int (p1 &&& (3 : Int32))), .val (.ref w3), .val (.long (own_len (q2 &&& (4611686018427387903 : Int64)) (8 : Int32))), .second] [(.long (q2 &&& (4611686018427387903 : Int64))), (.ref w3)])) _
    refine st6.trans ?_
    show Steps p.tables e below (T6.setTop (mkF m 87 #[.val (.int p1), .val (.long q2), .second, .val (.long (q2 &&& (4611686018427387903 : Int64))), .second, .val (.int (p1 &&& (3 : Int32))), .val (.ref w3), .val (.long (own_len (q2 &&& (4611686018427387903 : Int64)) (8 : Int32))), .second] [(.long (own_len (q2 &&& (4611686018427387903 : Int64)) (8 : Int32)))])) _
    refine XS.lload X6.here hx rfl (hb hby at_87) rfl ?_
    show Steps p.tables e below (T6.setTop (mkF m 89 #[.val (.int p1), .val (.long q2), .second, .val (.long (q2 &&& (4611686018427387903 : Int64))), .second, .val (.int (p1 &&& (3 : Int32))), .val (.ref w3), .val (.long (own_len (q2 &&& (4611686018427387903 : Int64)) (8 : Int32))), .second] [(.long (own_len (q2 &&& (4611686018427387903 : Int64)) (8 : Int32))), (.long (own_len (q2 &&& (4611686018427387903 : Int64)) (8 : Int32)))])) _
    refine XS.lcmp X6.here hx rfl (hb hby at_89) rfl ?_
    show Steps p.tables e below (T6.setTop (mkF m 90 #[.val (.int p1), .val (.long q2), .second, .val (.long (q2 &&& (4611686018427387903 : Int64))), .second, .val (.int (p1 &&& (3 : Int32))), .val (.ref w3), .val (.long (own_len (q2 &&& (4611686018427387903 : Int64)) (8 : Int32))), .second] [(.int (lcmpW (own_len (q2 &&& (4611686018427387903 : Int64)) (8 : Int32)) (own_len (q2 &&& (4611686018427387903 : Int64)) (8 : Int32))))])) _
    refine XS.ifNo X6.here hx rfl (hb hby at_90) rfl ((if0 _ _).trans (teq ((lw_eq _ _).mpr rfl : (lcmpW (own_len (q2 &&& (4611686018427387903 : Int64)) (8 : Int32)) (own_len (q2 &&& (4611686018427387903 : Int64)) (8 : Int32))) = (0 : Int32))).2) ?_
    show Steps p.tables e below (T6.setTop (mkF m 93 #[.val (.int p1), .val (.long q2), .second, .val (.long (q2 &&& (4611686018427387903 : Int64))), .second, .val (.int (p1 &&& (3 : Int32))), .val (.ref w3), .val (.long (own_len (q2 &&& (4611686018427387903 : Int64)) (8 : Int32))), .second] [])) _
    refine XS.iconst X6.here hx rfl (hb hby at_93) ?_
    show Steps p.tables e below (T6.setTop (mkF m 94 #[.val (.int p1), .val (.long q2), .second, .val (.long (q2 &&& (4611686018427387903 : Int64))), .second, .val (.int (p1 &&& (3 : Int32))), .val (.ref w3), .val (.long (own_len (q2 &&& (4611686018427387903 : Int64)) (8 : Int32))), .second] [(.int (1 : Int32))])) _
    refine XS.goto X6.here hx rfl (pc0 := 94) (pc' := 98) rfl (hb hby at_94) (by decide) (by decide) ?_
    show Steps p.tables e below (T6.setTop (mkF m 98 #[.val (.int p1), .val (.long q2), .second, .val (.long (q2 &&& (4611686018427387903 : Int64))), .second, .val (.int (p1 &&& (3 : Int32))), .val (.ref w3), .val (.long (own_len (q2 &&& (4611686018427387903 : Int64)) (8 : Int32))), .second] [(.int (1 : Int32))])) _
    exact retN X6 hx (t := .boolean) Bd.returns (by simp) (hb hby at_98) hr
  · show Q0 n0 _ T6.heap _
    exact ⟨rfl, N6⟩
set_option maxRecDepth 65536 in
set_option maxHeartbeats 40000000 in
theorem rm0_tttf (l : Launch) (Z : State) (a0 : Array Value) (hw : ∀ d ∈ tables_1, d.before a0 Z = true) (ws : List Jvm.Cond) (p1 : Int32) (q2 : Int64) (w3 : Addr) (h0 : Heap) (n0 : Nat) (Z0 : n0 ≤ h0.size) (Fc : Fld Z h0 w3 "com/example/gauze_filter/gauzefilter/form/FilterType" "cellsPerByte" "I" (.int (8 : Int32))) (hAB : own_bits (q2 &&& (4611686018427387903 : Int64)) = own_len (q2 &&& (4611686018427387903 : Int64)) (8 : Int32)) (S_COMPRESSED : Sta Z h0 "com/example/gauze_filter/gauzefilter/form/FilterType" "COMPRESSED" "Lcom/example/gauze_filter/gauzefilter/form/FilterType;" (.ref w3)) (E_w3 : Exa Z h0 w3 "com/example/gauze_filter/gauzefilter/form/FilterType") (hc13 : ¬ ((p1 &&& (3 : Int32)) = (0 : Int32))) (hc33 : ¬ ((p1 &&& (3 : Int32)) = (1 : Int32))) (hc53 : ¬ ((p1 &&& (3 : Int32)) = (2 : Int32))) :
    MetFree l x (head1 (Jvm.Cond.code x code maxLocals ret :: ws) room_1) (fun a U => a = #[(.int p1), (.long q2)] ∧ Z.Warmed39 U.vm ∧ U.heap = h0) (fun _ _ _ _ _ => True) (fun _ U o U' => ∃ v L, o = .returned v ∧ Q0 n0 v U'.heap L ∧ FrameEnd U o U' L room_1.cells room_1.slots) := by
  refine MetFree.of_bodySF (plainFor_of_name pn_0) hisR ?_
  intro p e s m args below meth c s₁ Bd hml0 hP hK
  obtain ⟨rfl, hZ, hh⟩ := hP
  have hx := Bd.exec
  have hby := Bd.bytes
  have hml : c.maxLocals = 9 := hml0
  have hown : s.vm.findClass "com/example/gauze_filter/gauzefilter/form/FilterTypeArrayLengthPinLaw" = some m.cls := findClass_of_methodNamed Bd.named
  have hnm := (name_of_methodNamed Bd.named Bd.method).1
  have X0 : Stand p l e room_1 s m #[(.int p1), (.long q2)] below meth c s₁ [] 0 0 := Stand.of_body Bd
  have e0 : s₁.heap = h0 := by rw [← hh, Bd.state]; rfl
  have N0 := Fr.nil n0
  have pre0 : ∀ t, Steps p.tables e below (s₁.setTop (mkF m 0 #[.val (.int p1), .val (.long q2), .second, .unset, .unset, .unset, .unset, .unset, .unset] [])) t → Steps p.tables e below (s₁.setTop (entryFrame m #[(.int p1), (.long q2)] maxLocals)) t := fun t k => castTop (ef_0 m p1 q2) k
  obtain ⟨T4, X4, e4, st4⟩ := getS2 X0 hx hZ hown (host := "") (Or.inl (hw _ (List.mem_of_getElem? (i := 23) rfl))) Via.refl e0 S_COMPRESSED (g := (mkF m 70 #[.val (.int p1), .val (.long q2), .second, .val (.long (q2 &&& (4611686018427387903 : Int64))), .second, .val (.int (p1 &&& (3 : Int32))), .unset, .unset, .unset] [])) rfl (hb hby at_70)
  obtain ⟨_, _, ⟨T5, L5, k5, n5⟩, -, X5, ⟨Lc5, hQ5, l5, y5, z5⟩, st5⟩ := Jvm.LawKit.callS X4 hx (y := (⟨"com/example/gauze_filter/gauzefilter/form/FilterTypeArrayLengthPinLaw", "bytesOfBits", "(J)J"⟩ : MethodName)) hown (mvT hZ (hw _ (List.mem_of_getElem? (i := 4) rfl))) (mvT hZ (hw _ (List.mem_of_getElem? (i := 5) rfl))) (mvT hZ (hw _ (List.mem_of_getElem? (i := 6) rfl))) (mvT hZ (hw _ (List.mem_of_getElem? (i := 7) rfl))) (by decide) (backOf (W := 0) (rm1 l Z a0 hw [] (q2 &&& (4611686018427387903 : Int64)) h0 n0 Z0 (own_len (q2 &&& (4611686018427387903 : Int64)) (8 : Int32)) hAB) hZ (hw _ (List.mem_of_getElem? (i := 7) rfl)) (hw _ (List.mem_of_getElem? (i := 6) rfl)) (by decide) (by decide)) (g := (mkF m 76 #[.val (.int p1), .val (.long q2), .second, .val (.long (q2 &&& (4611686018427387903 : Int64))), .second, .val (.int (p1 &&& (3 : Int32))), .val (.ref w3), .unset, .unset] [(.long (q2 &&& (4611686018427387903 : Int64)))])) rfl (by rw [hml]; rfl) (argsL := [(.long (q2 &&& (4611686018427387903 : Int64)))]) (rest := []) (lenOf pd_0_0 rfl) rfl (by show 2 * 0 + _ ≤ _; exact Nat.le_of_eq rfl) (hb hby at_76) (fun _ _ => ⟨rfl, e4, (by decide : 0 + 0 ≤ _), (by decide : 0 + 0 ≤ _)⟩)
  dsimp only [Pt.U, Pt.locs, Pt.cells, Pt.slots] at X5 l5 y5 z5 st5 hQ5
  subst l5 y5 z5
  obtain ⟨rfl, N5q, e5⟩ := hQ5
  have N5 := Fr.app N0 N5q
  obtain ⟨cq6, kq6, q6a, q6b, q6c⟩ := isOf hZ e5 E_w3
  obtain ⟨_, _, ⟨T6, L6, k6, n6⟩, -, X6, ⟨Lc6, hQ6, l6, y6, z6⟩, st6⟩ := X5.virtualBack hx (y := (⟨"com/example/gauze_filter/gauzefilter/form/FilterType", "arrayLength", "(J)J"⟩ : MethodName)) (z := (⟨"com/example/gauze_filter/gauzefilter/form/FilterType", "arrayLength", "(J)J"⟩ : MethodName)) hown (mvT hZ (hw _ (List.mem_of_getElem? (i := 9) rfl))) (mvT hZ (hw _ (List.mem_of_getElem? (i := 10) rfl))) (notFace_of_selects (args := #[]) (mvT hZ (hw _ (List.mem_of_getElem? (i := 12) rfl)))) (mvT hZ (hw _ (List.mem_of_getElem? (i := 12) rfl))) (mvT hZ (hw _ (List.mem_of_getElem? (i := 11) rfl))) (by decide) (backOf (W := 0) (rm2 l Z a0 hw [] w3 (q2 &&& (4611686018427387903 : Int64)) (8 : Int32) h0 n0 Z0 Fc (by decide)) hZ (hw _ (List.mem_of_getElem? (i := 13) rfl)) (hw _ (List.mem_of_getElem? (i := 2) rfl)) (by decide) (by decide)) q6a q6c (g := (mkF m 84 #[.val (.int p1), .val (.long q2), .second, .val (.long (q2 &&& (4611686018427387903 : Int64))), .second, .val (.int (p1 &&& (3 : Int32))), .val (.ref w3), .val (.long (own_len (q2 &&& (4611686018427387903 : Int64)) (8 : Int32))), .second] [(.long (q2 &&& (4611686018427387903 : Int64))), (.ref w3)])) rfl (by rw [hml]; rfl) (Steps.refl _) (argsL := [(.long (q2 &&& (4611686018427387903 : Int64)))]) (rest := []) (lenOf pd_0_0 rfl) rfl (by show 2 * 0 + _ ≤ _; exact Nat.le_of_eq rfl) (hb hby at_84) (fun _ _ => ⟨rfl, e5, (by decide : 0 + 0 ≤ _), (by decide : 0 + 0 ≤ _)⟩)
  dsimp only [Pt.U, Pt.locs, Pt.cells, Pt.slots] at X6 l6 y6 z6 st6 hQ6
  subst l6 y6 z6
  obtain ⟨rfl, N6q, e6⟩ := hQ6
  have N6 := Fr.app N5 N6q
  obtain ⟨fs, hr, hrun, hended, hW, hsame⟩ := X6.leave (v := some (.int (1 : Int32))) (fun h => by rw [Bd.returns] at h; cases h)
  refine ⟨_, _, pre0 _ ?_, hrun, hended, _, _, rfl, ?_, ⟨_, rfl⟩, hW, hsame.mono (by decide) (by decide)⟩
  · show Steps p.tables e below (s₁.setTop (mkF m 0 #[.val (.int p1), .val (.long q2), .second, .unset, .unset, .unset, .unset, .unset, .unset] [])) _
    refine XS.lloadN X0.here hx rfl (hb hby at_0) rfl ?_
    show Steps p.tables e below (s₁.setTop (mkF m 1 #[.val (.int p1), .val (.long q2), .second, .unset, .unset, .unset, .unset, .unset, .unset] [(.long q2)])) _
    refine X0.ldc2Long hx hown (mvT hZ (hw _ (List.mem_of_getElem? (i := 0) rfl))) (g := (mkF m 1 #[.val (.int p1), .val (.long q2), .second, .unset, .unset, .unset, .unset, .unset, .unset] [(.long q2)])) rfl (hb hby at_1) _ ?_
    show Steps p.tables e below (s₁.setTop (mkF m 4 #[.val (.int p1), .val (.long q2), .second, .unset, .unset, .unset, .unset, .unset, .unset] [(.long (4611686018427387903 : Int64)), (.long q2)])) _
    refine XS.land X0.here hx rfl (hb hby at_4) rfl ?_
    show Steps p.tables e below (s₁.setTop (mkF m 5 #[.val (.int p1), .val (.long q2), .second, .unset, .unset, .unset, .unset, .unset, .unset] [(.long (q2 &&& (4611686018427387903 : Int64)))])) _
    refine XS.lstoreN X0.here hx rfl (hb hby at_5) rfl (l' := #[.val (.int p1), .val (.long q2), .second, .val (.long (q2 &&& (4611686018427387903 : Int64))), .second, .unset, .unset, .unset, .unset]) rfl ?_
    show Steps p.tables e below (s₁.setTop (mkF m 6 #[.val (.int p1), .val (.long q2), .second, .val (.long (q2 &&& (4611686018427387903 : Int64))), .second, .unset, .unset, .unset, .unset] [])) _
    refine XS.iloadN X0.here hx rfl (hb hby at_6) rfl ?_
    show Steps p.tables e below (s₁.setTop (mkF m 7 #[.val (.int p1), .val (.long q2), .second, .val (.long (q2 &&& (4611686018427387903 : Int64))), .second, .unset, .unset, .unset, .unset] [(.int p1)])) _
    refine XS.iconst X0.here hx rfl (hb hby at_7) ?_
    show Steps p.tables e below (s₁.setTop (mkF m 8 #[.val (.int p1), .val (.long q2), .second, .val (.long (q2 &&& (4611686018427387903 : Int64))), .second, .unset, .unset, .unset, .unset] [(.int (3 : Int32)), (.int p1)])) _
    refine XS.iand X0.here hx rfl (hb hby at_8) rfl ?_
    show Steps p.tables e below (s₁.setTop (mkF m 9 #[.val (.int p1), .val (.long q2), .second, .val (.long (q2 &&& (4611686018427387903 : Int64))), .second, .unset, .unset, .unset, .unset] [(.int (p1 &&& (3 : Int32)))])) _
    refine XS.istore X0.here hx rfl (hb hby at_9) rfl (l' := #[.val (.int p1), .val (.long q2), .second, .val (.long (q2 &&& (4611686018427387903 : Int64))), .second, .val (.int (p1 &&& (3 : Int32))), .unset, .unset, .unset]) rfl ?_
    show Steps p.tables e below (s₁.setTop (mkF m 11 #[.val (.int p1), .val (.long q2), .second, .val (.long (q2 &&& (4611686018427387903 : Int64))), .second, .val (.int (p1 &&& (3 : Int32))), .unset, .unset, .unset] [])) _
    refine XS.iload X0.here hx rfl (hb hby at_11) rfl ?_
    show Steps p.tables e below (s₁.setTop (mkF m 13 #[.val (.int p1), .val (.long q2), .second, .val (.long (q2 &&& (4611686018427387903 : Int64))), .second, .val (.int (p1 &&& (3 : Int32))), .unset, .unset, .unset] [(.int (p1 &&& (3 : Int32)))])) _
    refine XS.ifYes X0.here hx rfl (pc0 := 13) (pc' := 30) rfl (hb hby at_13) rfl ((if0 _ _).trans (feq hc13).2) (by decide) (by decide) ?_
    show Steps p.tables e below (s₁.setTop (mkF m 30 #[.val (.int p1), .val (.long q2), .second, .val (.long (q2 &&& (4611686018427387903 : Int64))), .second, .val (.int (p1 &&& (3 : Int32))), .unset, .unset, .unset] [])) _
    refine XS.iload X0.here hx rfl (hb hby at_30) rfl ?_
    show Steps p.tables e below (s₁.setTop (mkF m 32 #[.val (.int p1), .val (.long q2), .second, .val (.long (q2 &&& (4611686018427387903 : Int64))), .second, .val (.int (p1 &&& (3 : Int32))), .unset, .unset, .unset] [(.int (p1 &&& (3 : Int32)))])) _
    refine XS.iconst X0.here hx rfl (hb hby at_32) ?_
    show Steps p.tables e below (s₁.setTop (mkF m 33 #[.val (.int p1), .val (.long q2), .second, .val (.long (q2 &&& (4611686018427387903 : Int64))), .second, .val (.int (p1 &&& (3 : Int32))), .unset, .unset, .unset] [(.int (1 : Int32)), (.int (p1 &&& (3 : Int32)))])) _
    refine XS.icmpYes X0.here hx rfl (pc0 := 33) (pc' := 50) rfl (hb hby at_33) rfl (feq hc33).2 (by decide) (by decide) ?_
    show Steps p.tables e below (s₁.setTop (mkF m 50 #[.val (.int p1), .val (.long q2), .second, .val (.long (q2 &&& (4611686018427387903 : Int64))), .second, .val (.int (p1 &&& (3 : Int32))), .unset, .unset, .unset] [])) _
    refine XS.iload X0.here hx rfl (hb hby at_50) rfl ?_
    show Steps p.tables e below (s₁.setTop (mkF m 52 #[.val (.int p1), .val (.long q2), .second, .val (.long (q2 &&& (4611686018427387903 : Int64))), .second, .val (.int (p1 &&& (3 : Int32))), .unset, .unset, .unset] [(.int (p1 &&& (3 : Int32)))])) _
    refine XS.iconst X0.here hx rfl (hb hby at_52) ?_
    show Steps p.tables e below (s₁.setTop (mkF m 53 #[.val (.int p1), .val (.long q2), .second, .val (.long (q2 &&& (4611686018427387903 : Int64))), .second, .val (.int (p1 &&& (3 : Int32))), .unset, .unset, .unset] [(.int (2 : Int32)), (.int (p1 &&& (3 : Int32)))])) _
    refine XS.icmpYes X0.here hx rfl (pc0 := 53) (pc' := 70) rfl (hb hby at_53) rfl (feq hc53).2 (by decide) (by decide) ?_
    show Steps p.tables e below (s₁.setTop (mkF m 70 #[.val (.int p1), .val (.long q2), .second, .val (.long (q2 &&& (4611686018427387903 : Int64))), .second, .val (.int (p1 &&& (3 : Int32))), .unset, .unset, .unset] [])) _
    refine st4 _ ?_
    show Steps p.tables e below (T4.setTop (mkF m 73 #[.val (.int p1), .val (.long q2), .second, .val (.long (q2 &&& (4611686018427387903 : Int64))), .second, .val (.int (p1 &&& (3 : Int32))), .unset, .unset, .unset] [(.ref w3)])) _
    refine XS.astore X4.here hx rfl (hb hby at_73) rfl rfl (l' := #[.val (.int p1), .val (.long q2), .second, .val (.long (q2 &&& (4611686018427387903 : Int64))), .second, .val (.int (p1 &&& (3 : Int32))), .val (.ref w3), .unset, .unset]) rfl ?_
    show Steps p.tables e below (T4.setTop (mkF m 75 #[.val (.int p1), .val (.long q2), .second, .val (.long (q2 &&& (4611686018427387903 : Int64))), .second, .val (.int (p1 &&& (3 : Int32))), .val (.ref w3), .unset, .unset] [])) _
    refine XS.lloadN X4.here hx rfl (hb hby at_75) rfl ?_
    show Steps p.tables e below (T4.setTop (mkF m 76 #[.val (.int p1), .val (.long q2), .second, .val (.long (q2 &&& (4611686018427387903 : Int64))), .second, .val (.int (p1 &&& (3 : Int32))), .val (.ref w3), .unset, .unset] [(.long (q2 &&& (4611686018427387903 : Int64)))])) _
    refine st5 _ ?_
    show Steps p.tables e below (T5.setTop (mkF m 79 #[.val (.int p1), .val (.long q2), .second, .val (.long (q2 &&& (4611686018427387903 : Int64))), .second, .val (.int (p1 &&& (3 : Int32))), .val (.ref w3), .unset, .unset] [(.long (own_len (q2 &&& (4611686018427387903 : Int64)) (8 : Int32)))])) _
    refine XS.lstore X5.here hx rfl (hb hby at_79) rfl (l' := #[.val (.int p1), .val (.long q2), .second, .val (.long (q2 &&& (4611686018427387903 : Int64))), .second, .val (.int (p1 &&& (3 : Int32))), .val (.ref w3), .val (.long (own_len (q2 &&& (4611686018427387903 : Int64)) (8 : Int32))), .second]) rfl ?_
    show Steps p.tables e below (T5.setTop (mkF m 81 #[.val (.int p1), .val (.long q2), .second, .val (.long (q2 &&& (4611686018427387903 : Int64))), .second, .val (.int (p1 &&& (3 : Int32))), .val (.ref w3), .val (.long (own_len (q2 &&& (4611686018427387903 : Int64)) (8 : Int32))), .second] [])) _
    refine XS.aload X5.here hx rfl (hb hby at_81) rfl rfl ?_
    show Steps p.tables e below (T5.setTop (mkF m 83 #[.val (.int p1), .val (.long q2), .second, .val (.long (q2 &&& (4611686018427387903 : Int64))), .second, .val (.int (p1 &&& (3 : Int32))), .val (.ref w3), .val (.long (own_len (q2 &&& (4611686018427387903 : Int64)) (8 : Int32))), .second] [(.ref w3)])) _
    refine XS.lloadN X5.here hx rfl (hb hby at_83) rfl ?_
    show Steps p.tables e below (T5.setTop (mkF m 84 #[.val (.int p1), .val (.long q2), .second, .val (.long (q2 &&& (4611686018427387903 : Int64))), .second, .val (.int (p1 &&& (3 : Int32))), .val (.ref w3), .val (.long (own_len (q2 &&& (4611686018427387903 : Int64)) (8 : Int32))), .second] [(.long (q2 &&& (4611686018427387903 : Int64))), (.ref w3)])) _
    refine st6.trans ?_
    show Steps p.tables e below (T6.setTop (mkF m 87 #[.val (.int p1), .val (.long q2), .second, .val (.long (q2 &&& (4611686018427387903 : Int64))), .second, .val (.int (p1 &&& (3 : Int32))), .val (.ref w3), .val (.long (own_len (q2 &&& (4611686018427387903 : Int64)) (8 : Int32))), .second] [(.long (own_len (q2 &&& (4611686018427387903 : Int64)) (8 : Int32)))])) _
    refine XS.lload X6.here hx rfl (hb hby at_87) rfl ?_
    show Steps p.tables e below (T6.setTop (mkF m 89 #[.val (.int p1), .val (.long q2), .second, .val (.long (q2 &&& (4611686018427387903 : Int64))), .second, .val (.int (p1 &&& (3 : Int32))), .val (.ref w3), .val (.long (own_len (q2 &&& (4611686018427387903 : Int64)) (8 : Int32))), .second] [(.long (own_len (q2 &&& (4611686018427387903 : Int64)) (8 : Int32))), (.long (own_len (q2 &&& (4611686018427387903 : Int64)) (8 : Int32)))])) _
    refine XS.lcmp X6.here hx rfl (hb hby at_89) rfl ?_
    show Steps p.tables e below (T6.setTop (mkF m 90 #[.val (.int p1), .val (.long q2), .second, .val (.long (q2 &&& (4611686018427387903 : Int64))), .second, .val (.int (p1 &&& (3 : Int32))), .val (.ref w3), .val (.long (own_len (q2 &&& (4611686018427387903 : Int64)) (8 : Int32))), .second] [(.int (lcmpW (own_len (q2 &&& (4611686018427387903 : Int64)) (8 : Int32)) (own_len (q2 &&& (4611686018427387903 : Int64)) (8 : Int32))))])) _
    refine XS.ifNo X6.here hx rfl (hb hby at_90) rfl ((if0 _ _).trans (teq ((lw_eq _ _).mpr rfl : (lcmpW (own_len (q2 &&& (4611686018427387903 : Int64)) (8 : Int32)) (own_len (q2 &&& (4611686018427387903 : Int64)) (8 : Int32))) = (0 : Int32))).2) ?_
    show Steps p.tables e below (T6.setTop (mkF m 93 #[.val (.int p1), .val (.long q2), .second, .val (.long (q2 &&& (4611686018427387903 : Int64))), .second, .val (.int (p1 &&& (3 : Int32))), .val (.ref w3), .val (.long (own_len (q2 &&& (4611686018427387903 : Int64)) (8 : Int32))), .second] [])) _
    refine XS.iconst X6.here hx rfl (hb hby at_93) ?_
    show Steps p.tables e below (T6.setTop (mkF m 94 #[.val (.int p1), .val (.long q2), .second, .val (.long (q2 &&& (4611686018427387903 : Int64))), .second, .val (.int (p1 &&& (3 : Int32))), .val (.ref w3), .val (.long (own_len (q2 &&& (4611686018427387903 : Int64)) (8 : Int32))), .second] [(.int (1 : Int32))])) _
    refine XS.goto X6.here hx rfl (pc0 := 94) (pc' := 98) rfl (hb hby at_94) (by decide) (by decide) ?_
    show Steps p.tables e below (T6.setTop (mkF m 98 #[.val (.int p1), .val (.long q2), .second, .val (.long (q2 &&& (4611686018427387903 : Int64))), .second, .val (.int (p1 &&& (3 : Int32))), .val (.ref w3), .val (.long (own_len (q2 &&& (4611686018427387903 : Int64)) (8 : Int32))), .second] [(.int (1 : Int32))])) _
    exact retN X6 hx (t := .boolean) Bd.returns (by simp) (hb hby at_98) hr
  · show Q0 n0 _ T6.heap _
    exact ⟨rfl, N6⟩
theorem own_mask62 (x : Int64) : (x &&& (4611686018427387903 : Int64)).toInt = x.toInt % 2 ^ 62 := Jvm.Kit.i64_mask x _ (k := 62) (by decide) (by decide)
theorem own_len_toInt {n : Int64} {w : Int32} {k : Int} (hw : w.toInt64.toInt = k) (k1 : 1 ≤ k) (k2 : k ≤ 8) (h0 : 0 ≤ n.toInt) (h1 : n.toInt < 2 ^ 62) : (own_len n w).toInt = (n.toInt + k - 1) / k := by
  unfold own_len
  have o1 : (1 : Int64).toInt = 1 := by decide
  have a1 : (n + w.toInt64).toInt = n.toInt + k := by rw [Jvm.Kit.i64_add (by omega) (by omega), hw]
  have a2 : (n + w.toInt64 - (1 : Int64)).toInt = n.toInt + k - 1 := by rw [Jvm.Kit.i64_sub (by omega) (by omega), a1, o1]
  rw [Jvm.Kit.i64_div (by omega), a2, hw, Int.tdiv_eq_ediv_of_nonneg (by omega)]
theorem own_bits_eq (x : Int64) : own_bits (x &&& (4611686018427387903 : Int64)) = own_len (x &&& (4611686018427387903 : Int64)) (8 : Int32) := by
  have hm := own_mask62 x
  generalize (x &&& (4611686018427387903 : Int64)) = n at *
  have h0 : 0 ≤ n.toInt := by omega
  have h1 : n.toInt < 2 ^ 62 := by omega
  apply Int64.toInt_inj.mp
  rw [own_len_toInt (k := 8) (by decide) (by omega) (by omega) h0 h1]
  have e1 : ((n.toUInt64 >>> ((3 : Int32) &&& 0x3f).toInt64.toUInt64).toInt64).toInt = n.toInt / 2 ^ 3 := Jvm.Kit.i64_lushr (Jvm.Kit.i64_nonneg.mpr h0) (by decide) (by decide)
  have e2 : (n &&& (7 : Int64)).toInt = n.toInt % 2 ^ 3 := Jvm.Kit.i64_mask n 7 (k := 3) (by decide) (by decide)
  have z0 : (0 : Int64).toInt = 0 := by decide
  have z1 : (1 : Int64).toInt = 1 := by decide
  unfold own_bits
  by_cases c : n &&& (7 : Int64) = (0 : Int64)
  · rw [if_pos c, Jvm.Kit.i64_add (by omega) (by omega), e1, z0]
    have c' := congrArg Int64.toInt c
    rw [e2, z0] at c'
    omega
  · rw [if_neg c, Jvm.Kit.i64_add (by omega) (by omega), e1, z1]
    have c' : n.toInt % 2 ^ 3 ≠ 0 := fun h => c (Int64.toInt_inj.mp (by rw [e2, z0]; exact h))
    omega
theorem own_cnts_eq (x : Int64) : own_cnts (x &&& (4611686018427387903 : Int64)) = own_len (x &&& (4611686018427387903 : Int64)) (2 : Int32) := by
  have hm := own_mask62 x
  generalize (x &&& (4611686018427387903 : Int64)) = n at *
  have h0 : 0 ≤ n.toInt := by omega
  have h1 : n.toInt < 2 ^ 62 := by omega
  apply Int64.toInt_inj.mp
  rw [own_len_toInt (k := 2) (by decide) (by omega) (by omega) h0 h1]
  have e1 : ((n.toUInt64 >>> ((1 : Int32) &&& 0x3f).toInt64.toUInt64).toInt64).toInt = n.toInt / 2 ^ 1 := Jvm.Kit.i64_lushr (Jvm.Kit.i64_nonneg.mpr h0) (by decide) (by decide)
  have e2 : (n &&& (1 : Int64)).toInt = n.toInt % 2 ^ 1 := Jvm.Kit.i64_mask n 1 (k := 1) (by decide) (by decide)
  unfold own_cnts
  rw [Jvm.Kit.i64_add (by omega) (by omega), e1, e2]
  omega
set_option maxRecDepth 65536 in
set_option maxHeartbeats 40000000 in
theorem comes_1 {Post : Tables → Env → Array Value → State → Outcome → State → Prop} (hpost : ∀ tb e args s v u, (limb_1_1.after args s (.returned v) u = true ∧ limb_1_2.after args s (.returned v) u = true ∧ True) → FrameEnd s (.returned v) u (Jvm.fieldLocs frame_1_writes args s ++ Jvm.arrayLocs frame_1_arrays args s ++ Jvm.staticLocs frame_1_statics s) 0 0 → Post tb e args s (.returned v) u) :
    ArmFor flags0 classFile x code maxLocals ret World_1 tables_1 room_1 Calls_1 rest_1 Pre_1 Post := by
  intro l hfl _ _ p e ha hc hk s m args below hf hA hF happ hP
  obtain ⟨hcalls, hrest, hpre⟩ := hP
  obtain ⟨-, -, -, hnamed, -, -, -, hat⟩ := (Spec.applies_iff hf).mp happ
  obtain ⟨hg, hn⟩ := and_e (Cond.before_iff.mp (show (Jvm.Cond.and given_1 narrow_1).before args s = true from hpre))
  obtain ⟨g7, g8⟩ := and_e hg
  obtain ⟨g9, g10⟩ := and_e g8
  obtain ⟨w0, w1, rfl⟩ : ∃ w0 w1 : Value, args = #[w0, w1] := by
    have hs : args.size = 2 := by simpa [Cond.value, given_1] using g7
    obtain ⟨L⟩ := args
    match L, hs with
    | [w0, w1], _ => exact ⟨w0, w1, rfl⟩
  have hw := fun d (hd : d ∈ tables_1) => atoms_spec (ws := Jvm.Cond.code x code maxLocals ret :: tables_1) hat d (List.mem_cons_of_mem _ hd)
  have hfit : Fit s := fun {y c} hc i hi => by
    obtain ⟨ha, rfl⟩ := Array.getElem?_eq_some_iff.mp hc
    have q := List.all_eq_true.mp ((Array.all_eq_true_iff_forall_mem.mp hF) _ (Array.getElem_mem ha)) i (List.mem_range.mpr hi)
    simpa [Array.getElem?_eq_getElem hi] using q
  obtain ⟨i0, ei0⟩ := is_v g9
  obtain rfl : w0 = (.int i0) := Option.some.inj ei0
  obtain ⟨i1, ei1⟩ := isL_v g10
  obtain rfl : w1 = (.long i1) := Option.some.inj ei1
  obtain ⟨nr0, hn⟩ := and_e hn
  obtain ⟨nr1, hn⟩ := and_e hn
  obtain ⟨nr2, hn⟩ := and_e hn
  obtain ⟨nr3, hn⟩ := and_e hn
  obtain ⟨nr4, hn⟩ := and_e hn
  obtain ⟨nr5, hn⟩ := and_e hn
  obtain ⟨nr6, hn⟩ := and_e hn
  have nr7 := hn
  obtain ⟨a_BLOOM, ev_BLOOM⟩ := exa_v nr0
  have E_BLOOM : Exa s s.heap a_BLOOM "com/example/gauze_filter/gauzefilter/form/FilterType" := Exa.start ev_BLOOM nr0
  have S_BLOOM : Sta s s.heap "com/example/gauze_filter/gauzefilter/form/FilterType" "BLOOM" "Lcom/example/gauze_filter/gauzefilter/form/FilterType;" (.ref a_BLOOM) := Sta.start ev_BLOOM (Or.inr ⟨(hw _ (List.mem_of_getElem? (i := 2) rfl)), (hw _ (List.mem_of_getElem? (i := 3) rfl))⟩)
  obtain ⟨a_COUNTING, ev_COUNTING⟩ := exa_v nr2
  have E_COUNTING : Exa s s.heap a_COUNTING "com/example/gauze_filter/gauzefilter/form/FilterType" := Exa.start ev_COUNTING nr2
  have S_COUNTING : Sta s s.heap "com/example/gauze_filter/gauzefilter/form/FilterType" "COUNTING" "Lcom/example/gauze_filter/gauzefilter/form/FilterType;" (.ref a_COUNTING) := Sta.start ev_COUNTING (Or.inr ⟨(hw _ (List.mem_of_getElem? (i := 2) rfl)), (hw _ (List.mem_of_getElem? (i := 17) rfl))⟩)
  obtain ⟨a_SCALABLE, ev_SCALABLE⟩ := exa_v nr4
  have E_SCALABLE : Exa s s.heap a_SCALABLE "com/example/gauze_filter/gauzefilter/form/FilterType" := Exa.start ev_SCALABLE nr4
  have S_SCALABLE : Sta s s.heap "com/example/gauze_filter/gauzefilter/form/FilterType" "SCALABLE" "Lcom/example/gauze_filter/gauzefilter/form/FilterType;" (.ref a_SCALABLE) := Sta.start ev_SCALABLE (Or.inr ⟨(hw _ (List.mem_of_getElem? (i := 2) rfl)), (hw _ (List.mem_of_getElem? (i := 22) rfl))⟩)
  obtain ⟨a_COMPRESSED, ev_COMPRESSED⟩ := exa_v nr6
  have E_COMPRESSED : Exa s s.heap a_COMPRESSED "com/example/gauze_filter/gauzefilter/form/FilterType" := Exa.start ev_COMPRESSED nr6
  have S_COMPRESSED : Sta s s.heap "com/example/gauze_filter/gauzefilter/form/FilterType" "COMPRESSED" "Lcom/example/gauze_filter/gauzefilter/form/FilterType;" (.ref a_COMPRESSED) := Sta.start ev_COMPRESSED (Or.inr ⟨(hw _ (List.mem_of_getElem? (i := 2) rfl)), (hw _ (List.mem_of_getElem? (i := 24) rfl))⟩)
  have F_BLOOM_cellsPerByte : Fld s s.heap a_BLOOM "com/example/gauze_filter/gauzefilter/form/FilterType" "cellsPerByte" "I" (.int (8 : Int32)) := Fld.start (own_fld ev_BLOOM nr1)
  have F_COUNTING_cellsPerByte : Fld s s.heap a_COUNTING "com/example/gauze_filter/gauzefilter/form/FilterType" "cellsPerByte" "I" (.int (2 : Int32)) := Fld.start (own_fld ev_COUNTING nr3)
  have F_SCALABLE_cellsPerByte : Fld s s.heap a_SCALABLE "com/example/gauze_filter/gauzefilter/form/FilterType" "cellsPerByte" "I" (.int (8 : Int32)) := Fld.start (own_fld ev_SCALABLE nr5)
  have F_COMPRESSED_cellsPerByte : Fld s s.heap a_COMPRESSED "com/example/gauze_filter/gauzefilter/form/FilterType" "cellsPerByte" "I" (.int (8 : Int32)) := Fld.start (own_fld ev_COMPRESSED nr7)
  have R : MetFree l x (head1 (Jvm.Cond.code x code maxLocals ret :: tables_1) room_1) (fun a U => a = #[.int i0, .long i1] ∧ s.Warmed39 U.vm ∧ U.heap = s.heap) (fun _ _ _ _ _ => True) (fun _ U o U' => ∃ v L, o = .returned v ∧ Q0 s.heap.size v U'.heap L ∧ FrameEnd U o U' L room_1.cells room_1.slots) := by
    by_cases c0 : (i0 &&& (3 : Int32)) = (0 : Int32)
    · exact rm0_ff l s _ hw tables_1 i0 i1 a_BLOOM s.heap s.heap.size (Nat.le_refl _) F_BLOOM_cellsPerByte (own_bits_eq i1) S_BLOOM E_BLOOM c0
    by_cases c1 : (i0 &&& (3 : Int32)) = (1 : Int32)
    · exact rm0_tff l s _ hw tables_1 i0 i1 a_COUNTING s.heap s.heap.size (Nat.le_refl _) F_COUNTING_cellsPerByte (own_cnts_eq i1) S_COUNTING E_COUNTING c0 c1
    by_cases c2 : (i0 &&& (3 : Int32)) = (2 : Int32)
    · exact rm0_ttff l s _ hw tables_1 i0 i1 a_SCALABLE s.heap s.heap.size (Nat.le_refl _) F_SCALABLE_cellsPerByte (own_bits_eq i1) S_SCALABLE E_SCALABLE c0 c1 c2
    exact rm0_tttf l s _ hw tables_1 i0 i1 a_COMPRESSED s.heap s.heap.size (Nat.le_refl _) F_COMPRESSED_cellsPerByte (own_bits_eq i1) S_COMPRESSED E_COMPRESSED c0 c1 c2
  obtain ⟨n, o, h1, h2, h3, _, L, rfl, ⟨rfl, N⟩, hq⟩ := R p e ha hc hk s m _ below hf ((Spec.applies_iff_loose hf).mp happ).1 ⟨rfl, State.Warmed39.refl s, rfl⟩ trivial
  refine ⟨n, _, h1, h2, h3, hpost _ _ _ _ _ _ ⟨Cond.after_iff.mpr rfl, Cond.after_iff.mpr (eq_i res_at (Term.int_eval (1)) rfl), trivial⟩ ⟨hq.1, hq.2.1, (hq.2.2.sift fun y hy => Or.inr (N y hy)).mono (by decide) (by decide)⟩⟩
theorem main_1_1 : Claimed_1_1 := comes_1 fun _ _ _ _ _ _ h hF => ⟨h.1, hF⟩
theorem main_1_2 : Claimed_1_2 := comes_1 fun _ _ _ _ _ _ h hF => ⟨h.2.1, hF⟩
end Jvm.Pilot.@@N@@
namespace Jvm.Pilot.@@N@@
open Jvm Jvm.ClassFile Sem Op Lib Jvm.Free Jvm.Stand Jvm.Pilot.@@N@@.Jvm.D
/-! MADE BY PROGRAM (witnessworld.py) out of the Statement's table words and the real class files: 12 classes; the members and pool entries that the words name. The judged class is class 1, her method 1. -/
namespace start1
open Jvm.ClassFile
def u (s : String) : CpInfo := .utf8 (stringToUtf16 s)
/-- a pool by its gaps: so many unusable entries, then the entry; so many at the end -/
def gap : Nat → List CpInfo → List CpInfo
  | 0, r => r
  | n + 1, r => .unusable :: gap n r
def poolList (es : List (Nat × CpInfo)) (last : Nat) : List CpInfo := es.foldr (fun e r => gap e.1 (e.2 :: r)) (gap last [])
def pool (es : List (Nat × CpInfo)) (last : Nat) : Array CpInfo := ⟨poolList es last⟩
def fileOf (pool : Array CpInfo) (this : Nat) (attrs : Array Attribute := #[]) (ms : Array MethodInfo := #[]) (fl : Nat := 33) (sup : Nat := 0) (ifs : Array Nat := #[]) (fds : Array FieldInfo := #[]) : ClassFile where
  minorVersion := 0
  majorVersion := 65
  constantPool := pool
  accessFlags := fl
  thisClass := this
  superClass := sup
  interfaces := ifs
  fields := fds
  methods := ms
  attributes := attrs
def plain (name : String) (sup : Option ClassId) : Class where
  name := name
  kind := .ordinary
  loader := none
  accessFlags := 33
  super := sup
  interfaces := #[]
  cf := none
  fields := #[]
  methods := #[]
  instanceTypes := #[]
  staticTypes := #[]
  resolved := #[]
  callSites := []
  init := .initialized
  statics := none
  mirror := none

def pool0 : Array CpInfo := pool [(5, u "<init>"), (0, u "()V"), (1, .class_ 10), (1, u "java/lang/Object")] 113

def k0m0 : Method := { name := "<init>", desc := "()V", sig := { parameters := [], returnType := none }, accessFlags := 1, code := none }
/-- java/lang/Object -/
def k0 : Class := { plain "java/lang/Object" none with
  accessFlags := 33
  interfaces := #[]
  cf := some (fileOf pool0 8 #[] #[{ accessFlags := 1, nameIndex := 5, descriptorIndex := 6, attributes := #[] }] 33 0 #[] #[])
  fields := #[]
  methods := #[k0m0]
  instanceTypes := #[]
  staticTypes := #[]
  resolved := Array.replicate 124 none
  statics := none }

def pool1 : Array CpInfo := pool [(2, .class_ 4), (1, u "java/lang/Object"), (0, u "<init>"), (0, u "()V"), (0, .long 4611686018427387903), (1, .fieldref 10 11), (0, .class_ 12), (0, .nameAndType 13 14), (0, u "com/example/gauze_filter/gauzefilter/form/FilterType"), (0, u "BLOOM"), (0, u "Lcom/example/gauze_filter/gauzefilter/form/FilterType;"), (0, .methodref 16 17), (0, .class_ 18), (0, .nameAndType 19 20), (0, u "com/example/gauze_filter/gauzefilter/form/FilterTypeArrayLengthPinLaw"), (0, u "bytesOfBits"), (0, u "(J)J"), (0, .fieldref 10 22), (0, .nameAndType 23 14), (0, u "COUNTING"), (0, .methodref 16 25), (0, .nameAndType 26 20), (0, u "bytesOfCounters"), (0, .fieldref 10 28), (0, .nameAndType 29 14), (0, u "SCALABLE"), (0, .fieldref 10 31), (0, .nameAndType 32 14), (0, u "COMPRESSED"), (0, .methodref 10 34), (0, .nameAndType 35 20), (0, u "arrayLength"), (0, .long 7), (3, u "law"), (0, u "(IJ)Z")] 3

def k1m0 : Method := { name := "<init>", desc := "()V", sig := { parameters := [], returnType := none }, accessFlags := 1, code := none }
def k1c1 : Code := { maxStack := 4, maxLocals := 9, code := code, exceptionTable := #[], attributes := #[] }
def k1m1 : Method := { name := "law", desc := "(IJ)Z", sig := { parameters := [.int, .long], returnType := some .boolean }, accessFlags := 9, code := some k1c1 }
def k1c2 : Code := { maxStack := 6, maxLocals := 2, code := method_3_code, exceptionTable := #[], attributes := #[] }
def k1m2 : Method := { name := "bytesOfBits", desc := "(J)J", sig := { parameters := [.long], returnType := some .long }, accessFlags := 10, code := some k1c2 }
def k1c3 : Code := { maxStack := 6, maxLocals := 2, code := method_4_code, exceptionTable := #[], attributes := #[] }
def k1m3 : Method := { name := "bytesOfCounters", desc := "(J)J", sig := { parameters := [.long], returnType := some .long }, accessFlags := 10, code := some k1c3 }
/-- com/example/gauze_filter/gauzefilter/form/FilterTypeArrayLengthPinLaw -/
def k1 : Class := { plain "com/example/gauze_filter/gauzefilter/form/FilterTypeArrayLengthPinLaw" (some 0) with
  accessFlags := 49
  interfaces := #[]
  cf := some (fileOf pool1 16 #[] #[{ accessFlags := 1, nameIndex := 5, descriptorIndex := 6, attributes := #[] }, { accessFlags := 9, nameIndex := 40, descriptorIndex := 41, attributes := #[] }, { accessFlags := 10, nameIndex := 19, descriptorIndex := 20, attributes := #[] }, { accessFlags := 10, nameIndex := 26, descriptorIndex := 20, attributes := #[] }] 49 2 #[] #[])
  fields := #[]
  methods := #[k1m0, k1m1, k1m2, k1m3]
  instanceTypes := #[]
  staticTypes := #[]
  resolved := Array.replicate 45 none
  statics := none }

def pool2 : Array CpInfo := pool [(1, .class_ 2), (0, u "java/lang/constant/Constable"), (0, .class_ 4), (0, u "java/lang/Object")] 6

/-- java/lang/constant/Constable -/
def k2 : Class := { plain "java/lang/constant/Constable" (some 0) with
  accessFlags := 1537
  interfaces := #[]
  cf := some (fileOf pool2 1 #[] #[] 1537 3 #[] #[])
  fields := #[]
  methods := #[]
  instanceTypes := #[]
  staticTypes := #[]
  resolved := Array.replicate 11 none
  statics := none }

def pool3 : Array CpInfo := pool [(1, .class_ 2), (0, u "java/lang/Comparable"), (0, .class_ 4), (0, u "java/lang/Object")] 7

/-- java/lang/Comparable -/
def k3 : Class := { plain "java/lang/Comparable" (some 0) with
  accessFlags := 1537
  interfaces := #[]
  cf := some (fileOf pool3 1 #[] #[] 1537 3 #[] #[])
  fields := #[]
  methods := #[]
  instanceTypes := #[]
  staticTypes := #[]
  resolved := Array.replicate 12 none
  statics := none }

def pool4 : Array CpInfo := pool [(1, .class_ 2), (0, u "java/io/Serializable"), (0, .class_ 4), (0, u "java/lang/Object")] 2

/-- java/io/Serializable -/
def k4 : Class := { plain "java/io/Serializable" (some 0) with
  accessFlags := 1537
  interfaces := #[]
  cf := some (fileOf pool4 1 #[] #[] 1537 3 #[] #[])
  fields := #[]
  methods := #[]
  instanceTypes := #[]
  staticTypes := #[]
  resolved := Array.replicate 7 none
  statics := none }

def pool5 : Array CpInfo := pool [(2, .class_ 4), (1, u "java/lang/Enum"), (0, u "name"), (0, u "Ljava/lang/String;"), (2, u "ordinal"), (0, u "I"), (1, .class_ 14), (1, u "java/lang/Object"), (4, u "hash"), (86, .class_ 108), (1, u "java/lang/Enum$EnumDesc"), (2, .class_ 112), (0, u "java/lang/constant/Constable"), (0, .class_ 114), (0, u "java/lang/Comparable"), (0, .class_ 116), (0, u "java/io/Serializable")] 87

/-- java/lang/Enum -/
def k5 : Class := { plain "java/lang/Enum" (some 0) with
  accessFlags := 1057
  interfaces := #[2, 3, 4]
  cf := some (fileOf pool5 2 #[.nestMembers #[106]] #[] 1057 12 #[111, 113, 115] #[{ accessFlags := 18, nameIndex := 5, descriptorIndex := 6, attributes := #[] }, { accessFlags := 18, nameIndex := 9, descriptorIndex := 10, attributes := #[] }, { accessFlags := 2, nameIndex := 19, descriptorIndex := 10, attributes := #[] }])
  fields := #[{ name := "name", type := (.object "java/lang/String"), accessFlags := 18, slot := 0, constantValue := 0 }, { name := "ordinal", type := .int, accessFlags := 18, slot := 1, constantValue := 0 }, { name := "hash", type := .int, accessFlags := 2, slot := 2, constantValue := 0 }]
  methods := #[]
  instanceTypes := #[(.object "java/lang/String"), .int, .int]
  staticTypes := #[]
  resolved := Array.replicate 204 none
  statics := none }

def pool6 : Array CpInfo := pool [(1, .class_ 2), (0, u "com/example/gauze_filter/gauzefilter/form/FilterType"), (2, u "BLOOM"), (0, u "Lcom/example/gauze_filter/gauzefilter/form/FilterType;"), (2, u "COUNTING"), (2, u "SCALABLE"), (2, u "COMPRESSED"), (2, u "$VALUES"), (0, u "[Lcom/example/gauze_filter/gauzefilter/form/FilterType;"), (6, .class_ 28), (1, u "java/lang/Enum"), (8, u "code"), (0, u "I"), (2, u "description"), (0, u "Ljava/lang/String;"), (2, u "cell"), (0, .fieldref 1 47), (0, .nameAndType 48 38), (0, u "cellsPerByte"), (2, u "maxCellCount"), (0, u "J"), (51, u "arrayLength"), (0, u "(J)J")] 21

def k6c0 : Code := { maxStack := 4, maxLocals := 3, code := prog_10_method_7_code, exceptionTable := #[], attributes := #[] }
def k6m0 : Method := { name := "arrayLength", desc := "(J)J", sig := { parameters := [.long], returnType := some .long }, accessFlags := 1, code := some k6c0 }
/-- com/example/gauze_filter/gauzefilter/form/FilterType -/
def k6 : Class := { plain "com/example/gauze_filter/gauzefilter/form/FilterType" (some 5) with
  accessFlags := 16433
  interfaces := #[]
  cf := some (fileOf pool6 1 #[] #[{ accessFlags := 1, nameIndex := 104, descriptorIndex := 105, attributes := #[] }] 16433 26 #[] #[{ accessFlags := 16409, nameIndex := 5, descriptorIndex := 6, attributes := #[] }, { accessFlags := 16409, nameIndex := 9, descriptorIndex := 6, attributes := #[] }, { accessFlags := 16409, nameIndex := 12, descriptorIndex := 6, attributes := #[] }, { accessFlags := 16409, nameIndex := 15, descriptorIndex := 6, attributes := #[] }, { accessFlags := 18, nameIndex := 37, descriptorIndex := 38, attributes := #[] }, { accessFlags := 18, nameIndex := 41, descriptorIndex := 42, attributes := #[] }, { accessFlags := 18, nameIndex := 45, descriptorIndex := 42, attributes := #[] }, { accessFlags := 18, nameIndex := 48, descriptorIndex := 38, attributes := #[] }, { accessFlags := 18, nameIndex := 51, descriptorIndex := 52, attributes := #[] }, { accessFlags := 4122, nameIndex := 18, descriptorIndex := 19, attributes := #[] }])
  fields := #[{ name := "BLOOM", type := (.object "com/example/gauze_filter/gauzefilter/form/FilterType"), accessFlags := 16409, slot := 0, constantValue := 0 }, { name := "COUNTING", type := (.object "com/example/gauze_filter/gauzefilter/form/FilterType"), accessFlags := 16409, slot := 1, constantValue := 0 }, { name := "SCALABLE", type := (.object "com/example/gauze_filter/gauzefilter/form/FilterType"), accessFlags := 16409, slot := 2, constantValue := 0 }, { name := "COMPRESSED", type := (.object "com/example/gauze_filter/gauzefilter/form/FilterType"), accessFlags := 16409, slot := 3, constantValue := 0 }, { name := "code", type := .int, accessFlags := 18, slot := 3, constantValue := 0 }, { name := "description", type := (.object "java/lang/String"), accessFlags := 18, slot := 4, constantValue := 0 }, { name := "cell", type := (.object "java/lang/String"), accessFlags := 18, slot := 5, constantValue := 0 }, { name := "cellsPerByte", type := .int, accessFlags := 18, slot := 6, constantValue := 0 }, { name := "maxCellCount", type := .long, accessFlags := 18, slot := 7, constantValue := 0 }, { name := "$VALUES", type := (.array (.object "com/example/gauze_filter/gauzefilter/form/FilterType")), accessFlags := 4122, slot := 4, constantValue := 0 }]
  methods := #[k6m0]
  instanceTypes := #[(.object "java/lang/String"), .int, .int, .int, (.object "java/lang/String"), (.object "java/lang/String"), .int, .long]
  staticTypes := #[(.object "com/example/gauze_filter/gauzefilter/form/FilterType"), (.object "com/example/gauze_filter/gauzefilter/form/FilterType"), (.object "com/example/gauze_filter/gauzefilter/form/FilterType"), (.object "com/example/gauze_filter/gauzefilter/form/FilterType"), (.array (.object "com/example/gauze_filter/gauzefilter/form/FilterType"))]
  resolved := Array.replicate 127 none
  statics := some 0 }

def pool7 : Array CpInfo := pool [(1, u "java/lang/Cloneable"), (0, .class_ 1), (0, u "java/lang/Object"), (0, .class_ 3)] 3

/-- java/lang/Cloneable -/
def k7 : Class := { plain "java/lang/Cloneable" (some 0) with
  accessFlags := 1537
  interfaces := #[]
  cf := some (fileOf pool7 2 #[] #[] 1537 4 #[] #[])
  fields := #[]
  methods := #[]
  instanceTypes := #[]
  staticTypes := #[]
  resolved := Array.replicate 8 none
  statics := none }

/-- the primitive byte -/
def k8 : Class := { plain "byte" none with kind := .primitive 'B', accessFlags := 0x411 }
/-- [B -/
def k9 : Class := { plain "[B" (some 0) with kind := .array 8 .byte, interfaces := #[7, 4], accessFlags := 1041 }

/-- the primitive int -/
def k10 : Class := { plain "int" none with kind := .primitive 'I', accessFlags := 0x411 }
/-- [I -/
def k11 : Class := { plain "[I" (some 0) with kind := .array 10 .int, interfaces := #[7, 4], accessFlags := 1041 }

def heap : Heap := #[{ cls := 6, slots := #[.ref 1, .ref 2, .ref 3, .ref 4, .null], vm := .statics 6 },
  { cls := 6, slots := #[.null, .int 0, .int 0, .int 1, .null, .null, .int 8, .long 0], vm := .none },
  { cls := 6, slots := #[.null, .int 1, .int 0, .int 1, .null, .null, .int 2, .long 0], vm := .none },
  { cls := 6, slots := #[.null, .int 2, .int 0, .int 1, .null, .null, .int 8, .long 0], vm := .none },
  { cls := 6, slots := #[.null, .int 3, .int 0, .int 1, .null, .null, .int 8, .long 0], vm := .none }]
def classes : Array Class := #[k0, k1, k2, k3, k4, k5, k6, k7, k8, k9, k10, k11]
def interned : List (Array UInt16 × Addr) := []
def slotsUsed : Nat := 37
def theMethod : MethodId := ⟨1, 1⟩
def args0 : Array Value := #[.int 1, .long 9]
def aboutOver (below : List Frame) : State where
  vm := { classes := classes, interned := interned.toArray }
  heap := heap
  slotsUsed := slotsUsed
  threads := #[{ frames := .invoking theMethod args0 :: below }]
def below0 : List Frame := [.native { method := ⟨0, 0⟩, args := #[] }]
def about1 : State := aboutOver below0
def p0 : Program := .bare "" "" ""
def e0 : Env := launch0.env 0 0 0
theorem w_frames : about1.frames = Frame.invoking theMethod args0 :: below0 := rfl
set_option maxRecDepth 65536 in
theorem w_args : argsFit about1.vm theMethod args0 = true := by decide +kernel
set_option maxRecDepth 65536 in
theorem w_heap : heapFits about1 = true := by decide +kernel
set_option maxRecDepth 65536 in
theorem w_runnable : about1.curStatus? = some .runnable := by decide +kernel
set_option maxRecDepth 65536 in
theorem w_alone : about1.alone = true := by decide +kernel
set_option maxRecDepth 65536 in
theorem w_named : about1.methodNamed? x = some theMethod := by decide +kernel
set_option maxRecDepth 65536 in
theorem w_hears : about1.hears theMethod below0 = true := by decide +kernel
set_option maxRecDepth 65536 in
theorem w_ripe : about1.ripe theMethod args0 below0 = true := by decide +kernel
theorem w_running : about1.status = .running := rfl
set_option maxRecDepth 65536 in
theorem w_room : about1.hasRoom e0.platform room_1 = true :=
  launch0.hasRoom_least _ room_1 (by decide +kernel) (by decide +kernel) (by decide +kernel) (by decide +kernel) (by decide +kernel) (by decide +kernel)
theorem allAtoms_all (ts : List Jvm.Cond) (a : Array Jvm.Value) (st : Jvm.State) : (allAtoms ts).before a st = ts.all (fun c => c.before a st) := by
  induction ts with
  | nil => rfl
  | cons c t ih =>
    show (Jvm.Cond.and c (allAtoms t)).before a st = _
    rw [Jvm.Cond.before_and, ih, List.all_cons]
def words1 : List Jvm.Cond := Jvm.Cond.code x code maxLocals ret :: tables_1
/-- a 'code' word, met by the world's own term for the bytes: nothing is compared byte by byte -/
theorem code_word {y : MethodName} {bytes : ByteArray} {mx : Nat} {rt : Option FieldType} {a : Array Value} {s : State} {m : MethodId} {meth : Method} {c : Code} (h1 : s.methodNamed? y = some m) (h2 : s.vm.method? m = some meth) (h3 : meth.code = some c) (h4 : c.code = bytes)
    (h5 : (c.maxLocals == mx && c.exceptionTable.isEmpty && decide (c.maxStack ≤ mostOperands) && decide (meth.sig.returnType = rt) && !meth.locks && decide (parseMethodDescriptor y.desc = some meth.sig)) = true) : (Jvm.Cond.code y bytes mx rt).before a s = true := by
  simp only [Bool.and_eq_true, beq_iff_eq, Bool.not_eq_true', decide_eq_true_eq] at h5
  obtain ⟨⟨⟨⟨⟨g1, g2⟩, g3⟩, g4⟩, g5⟩, g6⟩ := h5
  simp [Cond.before, Cond.holds, Cond.value, h1, h2, h3, h4, g1, g2, g3, g4, g5, g6]
def isCode : Jvm.Cond → Bool
  | .code _ _ _ _ => true
  | _ => false
theorem all_split {L : List Jvm.Cond} {P : Jvm.Cond → Bool} (h1 : L.all (fun c => isCode c || P c) = true) (h2 : ∀ c ∈ L.filter isCode, P c = true) : L.all P = true := by
  refine List.all_eq_true.mpr fun c hc => ?_
  have h := List.all_eq_true.mp h1 c hc
  rcases Bool.eq_false_or_eq_true (isCode c) with hi | hi
  · exact h2 c (List.mem_filter.mpr ⟨hc, hi⟩)
  · simpa [hi] using h
set_option maxRecDepth 65536 in
theorem w_c0 : (Jvm.Cond.code x code maxLocals ret).before args0 about1 = true := code_word (m := ⟨1, 1⟩) (meth := k1m1) (c := k1c1) (by decide +kernel) rfl rfl rfl (by decide +kernel)
set_option maxRecDepth 65536 in
theorem w_c1 : (Jvm.Cond.code ({ cls := "com/example/gauze_filter/gauzefilter/form/FilterTypeArrayLengthPinLaw", name := "bytesOfBits", desc := "(J)J" } : Jvm.MethodName) method_3_code (2 : Nat) (Option.some Jvm.ClassFile.FieldType.long)).before args0 about1 = true := code_word (m := ⟨1, 2⟩) (meth := k1m2) (c := k1c2) (by decide +kernel) rfl rfl rfl (by decide +kernel)
set_option maxRecDepth 65536 in
theorem w_c2 : (Jvm.Cond.code ({ cls := "com/example/gauze_filter/gauzefilter/form/FilterType", name := "arrayLength", desc := "(J)J" } : Jvm.MethodName) prog_10_method_7_code (3 : Nat) (Option.some Jvm.ClassFile.FieldType.long)).before args0 about1 = true := code_word (m := ⟨6, 0⟩) (meth := k6m0) (c := k6c0) (by decide +kernel) rfl rfl rfl (by decide +kernel)
set_option maxRecDepth 65536 in
theorem w_c3 : (Jvm.Cond.code ({ cls := "com/example/gauze_filter/gauzefilter/form/FilterTypeArrayLengthPinLaw", name := "bytesOfCounters", desc := "(J)J" } : Jvm.MethodName) method_4_code (2 : Nat) (Option.some Jvm.ClassFile.FieldType.long)).before args0 about1 = true := code_word (m := ⟨1, 3⟩) (meth := k1m3) (c := k1c3) (by decide +kernel) rfl rfl rfl (by decide +kernel)
def codes1 : List Jvm.Cond := [Jvm.Cond.code x code maxLocals ret, Jvm.Cond.code ({ cls := "com/example/gauze_filter/gauzefilter/form/FilterTypeArrayLengthPinLaw", name := "bytesOfBits", desc := "(J)J" } : Jvm.MethodName) method_3_code (2 : Nat) (Option.some Jvm.ClassFile.FieldType.long), Jvm.Cond.code ({ cls := "com/example/gauze_filter/gauzefilter/form/FilterType", name := "arrayLength", desc := "(J)J" } : Jvm.MethodName) prog_10_method_7_code (3 : Nat) (Option.some Jvm.ClassFile.FieldType.long), Jvm.Cond.code ({ cls := "com/example/gauze_filter/gauzefilter/form/FilterTypeArrayLengthPinLaw", name := "bytesOfCounters", desc := "(J)J" } : Jvm.MethodName) method_4_code (2 : Nat) (Option.some Jvm.ClassFile.FieldType.long)]
set_option maxRecDepth 65536 in
theorem codes_eq : words1.filter isCode = codes1 := rfl
theorem w_codes : ∀ c ∈ words1.filter isCode, c.before args0 about1 = true := by
  rw [codes_eq]
  intro c hc
  simp only [codes1, List.mem_cons, List.not_mem_nil, or_false] at hc
  rcases hc with rfl | rfl | rfl | rfl
  · exact w_c0
  · exact w_c1
  · exact w_c2
  · exact w_c3
set_option maxRecDepth 65536 in
theorem w_t1 : (words1.take 24).all (fun c => isCode c || c.before args0 about1) = true := by decide +kernel
set_option maxRecDepth 65536 in
theorem w_t2 : (words1.drop 24).all (fun c => isCode c || c.before args0 about1) = true := by decide +kernel
theorem w_tables : (allAtoms (Jvm.Cond.code x code maxLocals ret :: tables_1)).before args0 about1 = true := by
  rw [allAtoms_all]
  show words1.all (fun c => c.before args0 about1) = true
  refine all_split ?_ w_codes
  rw [← List.take_append_drop 24 words1, List.all_append, w_t1, w_t2]
  rfl
set_option maxRecDepth 65536 in
theorem w_case : (Jvm.Cond.and given_1 narrow_1).before args0 about1 = true := by decide +kernel
theorem w_applies : (headSpec (Jvm.Cond.code x code maxLocals ret :: tables_1) room_1).applies x e0.platform about1 = true :=
  (Spec.applies_iff w_frames).mpr ⟨w_running, w_runnable, w_alone, w_named, w_hears, w_ripe, w_room, w_tables⟩
theorem atStart : AtStart classFile x code maxLocals ret World_1 tables_1 room_1 Calls_1 rest_1 Pre_1 launch0 p0 e0 about1 theMethod args0 below0 :=
  ⟨lists_1, trivial, launch0.admits_env _ _ _, launch0.least_env, fairChoices_fair.cas, fairChoices_fair.clock, w_frames, w_args, w_heap, w_applies, trivial, trivial, w_case⟩
end start1
theorem witness_1 : WitnessClaimed_1 := ⟨start1.p0, start1.e0, start1.about1, start1.theMethod, start1.args0, start1.below0, start1.atStart⟩
end Jvm.Pilot.@@N@@
