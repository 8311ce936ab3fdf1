import JvmDerived
import JvmDerived.Pilot.@@N@@Statement
import JvmDerived.Pilot.@@N@@Code
set_option linter.unusedVariables false
set_option linter.unusedSimpArgs false
namespace Jvm.RoadKit
open Sem ClassFile Op Lib Jvm.Stand Jvm.Free Jvm.LawKit
section New
variable {p : Program} {l : Launch} {e : Env} {R : Room} {s : State} {m : MethodId} {args : Array Value} {below : List Frame} {meth : Method} {c : Code} {T : State} {locs : List Loc} {cells slots : Nat}
theorem retI (X : Stand p l e R s m args below meth c T locs cells slots) (hx : p.tables.exec = Jvm.exec) {pc : Nat} {Ls : Array Slot} {z : Int32} {rest : List Value} (hret : meth.sig.returnType = some .int) (hd : decode c.code pc = .ok (.ireturn, 1)) {fs : List Frame}
    (hl : ∀ (f : JFrame) (acts : List Action), f.method = m → f.locked = none → f.entered = [] → (doReturn e (T.setTop f) acts (some (.int z))).1 = T.setFrames fs) : Steps p.tables e below (T.setTop (mkF m pc Ls (.int z :: rest))) (T.setFrames fs) := by
  have hm' : T.vm.method? m = some meth := X.method'
  have hn : narrow .int (.int z) = .int z := rfl
  show Steps p.tables e below (T.setTop { method := m, pc := pc, locals := Ls, stack := _ :: rest, locked := none }) _
  jvm_step X.here [X.here.top, hx, hd, hm', hret, hn]
  first | (intro acts; rw [hl _ acts rfl rfl rfl]) | rw [hl _ _ rfl rfl rfl]
  exact Steps.refl _
end New
end Jvm.RoadKit
namespace Jvm.Pilot.@@N@@
open Jvm Jvm.ClassFile Sem Op Lib Jvm.Free Jvm.Stand Jvm.LawKit Jvm.RoadKit Bundle Jvm.Pilot.@@N@@.Jvm.D

theorem d1_0 : decode prog_22_method_8_code 0 = .ok (.lload_n 0, 1) := by decide +kernel
theorem d1_1 : decode prog_22_method_8_code 1 = .ok (.ldc2_w 60, 3) := by decide +kernel
theorem d1_4 : decode prog_22_method_8_code 4 = .ok (.lcmp, 1) := by decide +kernel
theorem d1_5 : decode prog_22_method_8_code 5 = .ok (.ifCond .le 15, 3) := by decide +kernel
theorem d1_8 : decode prog_22_method_8_code 8 = .ok (.lload_n 0, 1) := by decide +kernel
theorem d1_9 : decode prog_22_method_8_code 9 = .ok (.ldc2_w 62, 3) := by decide +kernel
theorem d1_12 : decode prog_22_method_8_code 12 = .ok (.lcmp, 1) := by decide +kernel
theorem d1_13 : decode prog_22_method_8_code 13 = .ok (.ifCond .gt 7, 3) := by decide +kernel
theorem d1_16 : decode prog_22_method_8_code 16 = .ok (.iconst 1, 1) := by decide +kernel
theorem d1_17 : decode prog_22_method_8_code 17 = .ok (.goto 4, 3) := by decide +kernel
theorem d1_20 : decode prog_22_method_8_code 20 = .ok (.iconst 0, 1) := by decide +kernel
theorem d1_21 : decode prog_22_method_8_code 21 = .ok (.ireturn, 1) := by decide +kernel
theorem pn_0 : plainName "com/example/hollin/hollin/lang/IntegerVectorFitsPinLaw" = true := by first | (simp [plainName, overriddenIn]; done) | decide +kernel
theorem pn_1 : plainName "com/example/hollin/hollin/lang/IntegerVector" = true := by first | (simp [plainName, overriddenIn]; done) | decide +kernel
theorem pd_1 : parseMethodDescriptor "(J)Z" = some ⟨[.long], some .boolean⟩ := by decide +kernel
theorem ef_0 (m : MethodId) (x0 : Int64) (x1 : Int32) : entryFrame m #[(.long x0), (.int x1)] 8 = mkF m 0 #[.val (.long x0), .second, .val (.int x1), .unset, .unset, .unset, .unset, .unset] [] := by first | (simp [entryFrame, mkF, argsToLocals, Value.category]; done) | rfl
theorem ef_1 (m : MethodId) (x0 : Int64) : entryFrame m #[(.long x0)] 2 = mkF m 0 #[.val (.long x0), .second] [] := by first | (simp [entryFrame, mkF, argsToLocals, Value.category]; done) | rfl
/-! plain -/
def own_fits (v : Int64) : Int32 := if (-2147483648 : Int64) < v ∧ ¬ (2147483647 : Int64) < v then 1 else 0
theorem own_fits01 (v : Int64) : own_fits v = 0 ∨ own_fits v = 1 := by unfold own_fits; split <;> simp
theorem own_nar (v : Int64) : nar .boolean (own_fits v) = own_fits v := by rcases own_fits01 v with h | h <;> rw [h] <;> rfl
theorem own_round (v : Int64) : v.toInt32.toInt64 = v ↔ (-2147483648 ≤ v.toInt ∧ v.toInt < 2147483648) := by
  have h1 := v.toInt32.toInt_lt; have h2 := v.toInt32.le_toInt
  have e1 : v.toInt32.toInt64.toInt = v.toInt32.toInt := Int32.toInt_toInt64 _
  have e2 : v.toInt32.toInt = v.toInt.bmod (2 ^ 32) := Int64.toInt_toInt32 v
  constructor
  · intro h
    rw [h] at e1
    omega
  · intro h
    have e3 : v.toInt.bmod (2 ^ 32) = v.toInt := Int.bmod_eq_of_le (by omega) (by omega)
    apply Int64.toInt_inj.mp
    rw [e1, e2, e3]
theorem own_law (v : Int64) : own_fits v = if v.toInt32.toInt64 = v ∧ ¬ v.toInt32 = (-2147483648 : Int32) then 1 else 0 := by
  have c1 : (-2147483648 : Int64).toInt = -2147483648 := by decide
  have c2 : (2147483647 : Int64).toInt = 2147483647 := by decide
  have c3 : (-2147483648 : Int32).toInt = -2147483648 := by decide
  have e2 : v.toInt32.toInt = v.toInt.bmod (2 ^ 32) := Int64.toInt_toInt32 v
  have hr := own_round v
  by_cases h : v.toInt32.toInt64 = v
  · have hb := hr.mp h
    have e3 : v.toInt.bmod (2 ^ 32) = v.toInt := Int.bmod_eq_of_le (by omega) (by omega)
    have hm : v.toInt32 = (-2147483648 : Int32) ↔ v.toInt = -2147483648 := by rw [← Int32.toInt_inj, c3, e2, e3]
    simp only [own_fits, Int64.lt_iff_toInt_lt, c1, c2, h, hm, true_and]
    by_cases hq : v.toInt = -2147483648
    · rw [if_neg (by omega), if_neg (by omega)]
    · rw [if_pos (by omega), if_pos hq]
  · have hb : ¬ (-2147483648 ≤ v.toInt ∧ v.toInt < 2147483648) := fun q => h (hr.mpr q)
    simp only [own_fits, Int64.lt_iff_toInt_lt, c1, c2, h, false_and, if_false]
    rw [if_neg (by omega)]

def Q1 (z : Int32) (h0 : Heap) (n0 : Nat) (v : Option Value) (h : Heap) (L : List Loc) : Prop := v = some (.int z) ∧ Fr n0 L ∧ h = h0
set_option maxRecDepth 65536 in
set_option maxHeartbeats 40000000 in
theorem rm1 (l : Launch) (Z : State) (a0 : Array Value) (hw : ∀ d ∈ tables_1, d.before a0 Z = true) (ws : List Jvm.Cond) (p1 : Int64) (h0 : Heap) (n0 : Nat) (Z0 : n0 ≤ h0.size) :
    MetFree l (⟨"com/example/hollin/hollin/lang/IntegerVector", "fits", "(J)Z"⟩ : MethodName) (head1 (Jvm.Cond.code (⟨"com/example/hollin/hollin/lang/IntegerVector", "fits", "(J)Z"⟩ : MethodName) prog_22_method_8_code 2 (some .boolean) :: ws) ({ frames := 0, cells := 0, slots := 0, locals := 0 } : Room)) (fun a U => a = #[(.long p1)] ∧ Z.Warmed39 U.vm ∧ U.heap = h0) (fun _ _ _ _ _ => True) (fun _ U o U' => ∃ v L, o = .returned v ∧ Q1 (own_fits p1) h0 n0 v U'.heap L ∧ FrameEnd U o U' L ({ frames := 0, cells := 0, slots := 0, locals := 0 } : Room).cells ({ frames := 0, cells := 0, slots := 0, locals := 0 } : Room).slots) := by
  refine MetFree.of_bodySF (plainFor_of_name pn_1) hisR ?_
  intro p e s m args below meth c s₁ Bd hml0 hP hK
  obtain ⟨rfl, hZ, hh⟩ := hP
  have hx := Bd.exec
  have hby := Bd.bytes
  have hml : c.maxLocals = 2 := hml0
  have hown : s.vm.findClass "com/example/hollin/hollin/lang/IntegerVector" = some m.cls := findClass_of_methodNamed Bd.named
  have hnm := (name_of_methodNamed Bd.named Bd.method).1
  have X0 : Stand p l e ({ frames := 0, cells := 0, slots := 0, locals := 0 } : Room) s m #[(.long p1)] below meth c s₁ [] 0 0 := Stand.of_body Bd
  have e0 : s₁.heap = h0 := by rw [← hh, Bd.state]; rfl
  have N0 := Fr.nil n0
  have pre0 : ∀ t, Steps p.tables e below (s₁.setTop (mkF m 0 #[.val (.long p1), .second] [])) t → Steps p.tables e below (s₁.setTop (entryFrame m #[(.long p1)] 2)) t := fun t kt0 => castTop (ef_1 m p1) kt0

  suffices hs : ∀ t, Steps p.tables e below (s₁.setTop (mkF m 21 #[.val (.long p1), .second] [(.int (own_fits p1))])) t → Steps p.tables e below (s₁.setTop (mkF m 0 #[.val (.long p1), .second] [])) t by
    obtain ⟨fs, hr, hrun, hended, hW, hsame⟩ := X0.leave (v := some (.int (nar .boolean (own_fits p1)))) (fun h => by rw [Bd.returns] at h; cases h)
    refine ⟨_, _, pre0 _ (hs _ (retN X0 hx (t := .boolean) Bd.returns (by simp) (hb hby d1_21) hr)), hrun, hended, _, _, rfl, ?_, ⟨_, rfl⟩, hW, hsame.mono (by decide) (by decide)⟩
    show Q1 (own_fits p1) h0 n0 _ s₁.heap _
    rw [e0]
    exact ⟨by rw [own_nar], N0, rfl⟩
  intro t kt
  by_cases h1 : (-2147483648 : Int64) < p1
  · have hc5 : (0 : Int32) < lcmpW p1 (-2147483648 : Int64) := (lw_gt _ _).mpr h1
    by_cases h2 : (2147483647 : Int64) < p1
    · have hc13 : (0 : Int32) < lcmpW p1 (2147483647 : Int64) := (lw_gt _ _).mpr h2
      have ew : own_fits p1 = 0 := by simp [own_fits, h1, h2]
      rw [ew] at kt
      show Steps p.tables e below (s₁.setTop (mkF m 0 #[.val (.long p1), .second] [])) _
      refine XS.lloadN X0.here hx rfl (hb hby d1_0) rfl ?_
      show Steps p.tables e below (s₁.setTop (mkF m 1 #[.val (.long p1), .second] [(.long p1)])) _
      refine X0.ldc2J hx hown (mvT hZ (hw _ (List.mem_of_getElem? (i := 5) rfl))) rfl (hb hby d1_1) ?_
      show Steps p.tables e below (s₁.setTop (mkF m 4 #[.val (.long p1), .second] [(.long (-2147483648 : Int64)), (.long p1)])) _
      refine XS.lcmp X0.here hx rfl (hb hby d1_4) rfl ?_
      show Steps p.tables e below (s₁.setTop (mkF m 5 #[.val (.long p1), .second] [(.int (lcmpW p1 (-2147483648 : Int64)))])) _
      refine XS.ifNo X0.here hx rfl (hb hby d1_5) rfl ((if0 _ _).trans (tlt hc5).2.2.2) ?_
      show Steps p.tables e below (s₁.setTop (mkF m 8 #[.val (.long p1), .second] [])) _
      refine XS.lloadN X0.here hx rfl (hb hby d1_8) rfl ?_
      show Steps p.tables e below (s₁.setTop (mkF m 9 #[.val (.long p1), .second] [(.long p1)])) _
      refine X0.ldc2J hx hown (mvT hZ (hw _ (List.mem_of_getElem? (i := 6) rfl))) rfl (hb hby d1_9) ?_
      show Steps p.tables e below (s₁.setTop (mkF m 12 #[.val (.long p1), .second] [(.long (2147483647 : Int64)), (.long p1)])) _
      refine XS.lcmp X0.here hx rfl (hb hby d1_12) rfl ?_
      show Steps p.tables e below (s₁.setTop (mkF m 13 #[.val (.long p1), .second] [(.int (lcmpW p1 (2147483647 : Int64)))])) _
      refine XS.ifYes X0.here hx rfl (pc0 := 13) (pc' := 20) rfl (hb hby d1_13) rfl ((if0 _ _).trans (tlt hc13).2.2.1) (by decide) (by decide) ?_
      show Steps p.tables e below (s₁.setTop (mkF m 20 #[.val (.long p1), .second] [])) _
      refine XS.iconst X0.here hx rfl (hb hby d1_20) ?_
      exact kt
    · have hc13 : ¬ ((0 : Int32) < lcmpW p1 (2147483647 : Int64)) := fun q => h2 ((lw_gt _ _).mp q)
      have ew : own_fits p1 = 1 := by simp [own_fits, h1, h2]
      rw [ew] at kt
      show Steps p.tables e below (s₁.setTop (mkF m 0 #[.val (.long p1), .second] [])) _
      refine XS.lloadN X0.here hx rfl (hb hby d1_0) rfl ?_
      show Steps p.tables e below (s₁.setTop (mkF m 1 #[.val (.long p1), .second] [(.long p1)])) _
      refine X0.ldc2J hx hown (mvT hZ (hw _ (List.mem_of_getElem? (i := 5) rfl))) rfl (hb hby d1_1) ?_
      show Steps p.tables e below (s₁.setTop (mkF m 4 #[.val (.long p1), .second] [(.long (-2147483648 : Int64)), (.long p1)])) _
      refine XS.lcmp X0.here hx rfl (hb hby d1_4) rfl ?_
      show Steps p.tables e below (s₁.setTop (mkF m 5 #[.val (.long p1), .second] [(.int (lcmpW p1 (-2147483648 : Int64)))])) _
      refine XS.ifNo X0.here hx rfl (hb hby d1_5) rfl ((if0 _ _).trans (tlt hc5).2.2.2) ?_
      show Steps p.tables e below (s₁.setTop (mkF m 8 #[.val (.long p1), .second] [])) _
      refine XS.lloadN X0.here hx rfl (hb hby d1_8) rfl ?_
      show Steps p.tables e below (s₁.setTop (mkF m 9 #[.val (.long p1), .second] [(.long p1)])) _
      refine X0.ldc2J hx hown (mvT hZ (hw _ (List.mem_of_getElem? (i := 6) rfl))) rfl (hb hby d1_9) ?_
      show Steps p.tables e below (s₁.setTop (mkF m 12 #[.val (.long p1), .second] [(.long (2147483647 : Int64)), (.long p1)])) _
      refine XS.lcmp X0.here hx rfl (hb hby d1_12) rfl ?_
      show Steps p.tables e below (s₁.setTop (mkF m 13 #[.val (.long p1), .second] [(.int (lcmpW p1 (2147483647 : Int64)))])) _
      refine XS.ifNo X0.here hx rfl (hb hby d1_13) rfl ((if0 _ _).trans (flt hc13).2.2.1) ?_
      show Steps p.tables e below (s₁.setTop (mkF m 16 #[.val (.long p1), .second] [])) _
      refine XS.iconst X0.here hx rfl (hb hby d1_16) ?_
      show Steps p.tables e below (s₁.setTop (mkF m 17 #[.val (.long p1), .second] [(.int (1 : Int32))])) _
      refine XS.goto X0.here hx rfl (pc0 := 17) (pc' := 21) rfl (hb hby d1_17) (by decide) (by decide) ?_
      exact kt
  · have hc5 : ¬ ((0 : Int32) < lcmpW p1 (-2147483648 : Int64)) := fun q => h1 ((lw_gt _ _).mp q)
    have ew : own_fits p1 = 0 := by simp [own_fits, h1]
    rw [ew] at kt
    show Steps p.tables e below (s₁.setTop (mkF m 0 #[.val (.long p1), .second] [])) _
    refine XS.lloadN X0.here hx rfl (hb hby d1_0) rfl ?_
    show Steps p.tables e below (s₁.setTop (mkF m 1 #[.val (.long p1), .second] [(.long p1)])) _
    refine X0.ldc2J hx hown (mvT hZ (hw _ (List.mem_of_getElem? (i := 5) rfl))) rfl (hb hby d1_1) ?_
    show Steps p.tables e below (s₁.setTop (mkF m 4 #[.val (.long p1), .second] [(.long (-2147483648 : Int64)), (.long p1)])) _
    refine XS.lcmp X0.here hx rfl (hb hby d1_4) rfl ?_
    show Steps p.tables e below (s₁.setTop (mkF m 5 #[.val (.long p1), .second] [(.int (lcmpW p1 (-2147483648 : Int64)))])) _
    refine XS.ifYes X0.here hx rfl (pc0 := 5) (pc' := 20) rfl (hb hby d1_5) rfl ((if0 _ _).trans (flt hc5).2.2.2) (by decide) (by decide) ?_
    show Steps p.tables e below (s₁.setTop (mkF m 20 #[.val (.long p1), .second] [])) _
    refine XS.iconst X0.here hx rfl (hb hby d1_20) ?_
    exact kt
def own_Ld (p : Program) (e : Env) (below : List Frame) (T : State) (g : JFrame) (T' : State) (g' : JFrame) : Prop := ∀ target, Steps p.tables e below (T'.setTop g') target → Steps p.tables e below (T.setTop g) target
section Law
variable {p : Program} {l : Launch} {e : Env} {R : Room} {s : State} {m : MethodId} {args : Array Value} {below : List Frame} {meth : Method} {c : Code} {T0 : State} {locs : List Loc} {cells slots : Nat} {Z : State} {a0 : Array Value}
set_option maxRecDepth 65536 in
set_option maxHeartbeats 40000000 in
theorem own_s1 (X0 : Stand p l e R s m args below meth c T0 locs cells slots) (hx : p.tables.exec = Jvm.exec) (hZ : Z.Warmed39 s.vm) (hw : ∀ d ∈ tables_1, d.before a0 Z = true) (hby : c.code = code) (hown : s.vm.findClass "com/example/hollin/hollin/lang/IntegerVectorFitsPinLaw" = some m.cls) (v : Int64) (k : Int32) : ∃ x : Int64, own_Ld p e below T0 (mkF m 0 #[.val (.long v), .second, .val (.int k), .unset, .unset, .unset, .unset, .unset] []) T0 (mkF m 24 #[.val (.long v), .second, .val (.int k), .val (.long x), .second, .unset, .unset, .unset] []) := by
  by_cases hc : (k &&& (1 : Int32)) = (0 : Int32)
  · refine ⟨v, fun t kt => ?_⟩
    show Steps p.tables e below (T0.setTop (mkF m 0 #[.val (.long v), .second, .val (.int k), .unset, .unset, .unset, .unset, .unset] [])) _
    refine XS.iloadN X0.here hx rfl (hb hby at_0) rfl ?_
    show Steps p.tables e below (T0.setTop (mkF m 1 #[.val (.long v), .second, .val (.int k), .unset, .unset, .unset, .unset, .unset] [(.int k)])) _
    refine XS.iconst X0.here hx rfl (hb hby at_1) ?_
    show Steps p.tables e below (T0.setTop (mkF m 2 #[.val (.long v), .second, .val (.int k), .unset, .unset, .unset, .unset, .unset] [(.int (1 : Int32)), (.int k)])) _
    refine XS.iand X0.here hx rfl (hb hby at_2) rfl ?_
    show Steps p.tables e below (T0.setTop (mkF m 3 #[.val (.long v), .second, .val (.int k), .unset, .unset, .unset, .unset, .unset] [(.int (k &&& (1 : Int32)))])) _
    refine XS.ifNo X0.here hx rfl (hb hby at_3) rfl ((if0 _ _).trans (teq hc).2) ?_
    show Steps p.tables e below (T0.setTop (mkF m 6 #[.val (.long v), .second, .val (.int k), .unset, .unset, .unset, .unset, .unset] [])) _
    refine XS.lloadN X0.here hx rfl (hb hby at_6) rfl ?_
    show Steps p.tables e below (T0.setTop (mkF m 7 #[.val (.long v), .second, .val (.int k), .unset, .unset, .unset, .unset, .unset] [(.long v)])) _
    refine XS.lstoreN X0.here hx rfl (hb hby at_7) rfl (l' := #[.val (.long v), .second, .val (.int k), .val (.long v), .second, .unset, .unset, .unset]) rfl ?_
    show Steps p.tables e below (T0.setTop (mkF m 8 #[.val (.long v), .second, .val (.int k), .val (.long v), .second, .unset, .unset, .unset] [])) _
    refine XS.goto X0.here hx rfl (pc0 := 8) (pc' := 24) rfl (hb hby at_8) (by decide) (by decide) ?_
    exact kt
  · refine ⟨((((((v).toInt32)).toInt64) + ((((k >>> ((1 : Int32) &&& 31)) &&& (3 : Int32))).toInt64)) - (1 : Int64)), fun t kt => ?_⟩
    show Steps p.tables e below (T0.setTop (mkF m 0 #[.val (.long v), .second, .val (.int k), .unset, .unset, .unset, .unset, .unset] [])) _
    refine XS.iloadN X0.here hx rfl (hb hby at_0) rfl ?_
    show Steps p.tables e below (T0.setTop (mkF m 1 #[.val (.long v), .second, .val (.int k), .unset, .unset, .unset, .unset, .unset] [(.int k)])) _
    refine XS.iconst X0.here hx rfl (hb hby at_1) ?_
    show Steps p.tables e below (T0.setTop (mkF m 2 #[.val (.long v), .second, .val (.int k), .unset, .unset, .unset, .unset, .unset] [(.int (1 : Int32)), (.int k)])) _
    refine XS.iand X0.here hx rfl (hb hby at_2) rfl ?_
    show Steps p.tables e below (T0.setTop (mkF m 3 #[.val (.long v), .second, .val (.int k), .unset, .unset, .unset, .unset, .unset] [(.int (k &&& (1 : Int32)))])) _
    refine XS.ifYes X0.here hx rfl (pc0 := 3) (pc' := 11) rfl (hb hby at_3) rfl ((if0 _ _).trans (feq hc).2) (by decide) (by decide) ?_
    show Steps p.tables e below (T0.setTop (mkF m 11 #[.val (.long v), .second, .val (.int k), .unset, .unset, .unset, .unset, .unset] [])) _
    refine XS.lloadN X0.here hx rfl (hb hby at_11) rfl ?_
    show Steps p.tables e below (T0.setTop (mkF m 12 #[.val (.long v), .second, .val (.int k), .unset, .unset, .unset, .unset, .unset] [(.long v)])) _
    refine XS.l2i X0.here hx rfl (hb hby at_12) rfl ?_
    show Steps p.tables e below (T0.setTop (mkF m 13 #[.val (.long v), .second, .val (.int k), .unset, .unset, .unset, .unset, .unset] [(.int ((v).toInt32))])) _
    refine XS.i2l X0.here hx rfl (hb hby at_13) rfl ?_
    show Steps p.tables e below (T0.setTop (mkF m 14 #[.val (.long v), .second, .val (.int k), .unset, .unset, .unset, .unset, .unset] [(.long ((((v).toInt32)).toInt64))])) _
    refine XS.iloadN X0.here hx rfl (hb hby at_14) rfl ?_
    show Steps p.tables e below (T0.setTop (mkF m 15 #[.val (.long v), .second, .val (.int k), .unset, .unset, .unset, .unset, .unset] [(.int k), (.long ((((v).toInt32)).toInt64))])) _
    refine XS.iconst X0.here hx rfl (hb hby at_15) ?_
    show Steps p.tables e below (T0.setTop (mkF m 16 #[.val (.long v), .second, .val (.int k), .unset, .unset, .unset, .unset, .unset] [(.int (1 : Int32)), (.int k), (.long ((((v).toInt32)).toInt64))])) _
    refine XS.ishr X0.here hx rfl (hb hby at_16) rfl ?_
    show Steps p.tables e below (T0.setTop (mkF m 17 #[.val (.long v), .second, .val (.int k), .unset, .unset, .unset, .unset, .unset] [(.int (k >>> ((1 : Int32) &&& 31))), (.long ((((v).toInt32)).toInt64))])) _
    refine XS.iconst X0.here hx rfl (hb hby at_17) ?_
    show Steps p.tables e below (T0.setTop (mkF m 18 #[.val (.long v), .second, .val (.int k), .unset, .unset, .unset, .unset, .unset] [(.int (3 : Int32)), (.int (k >>> ((1 : Int32) &&& 31))), (.long ((((v).toInt32)).toInt64))])) _
    refine XS.iand X0.here hx rfl (hb hby at_18) rfl ?_
    show Steps p.tables e below (T0.setTop (mkF m 19 #[.val (.long v), .second, .val (.int k), .unset, .unset, .unset, .unset, .unset] [(.int ((k >>> ((1 : Int32) &&& 31)) &&& (3 : Int32))), (.long ((((v).toInt32)).toInt64))])) _
    refine XS.i2l X0.here hx rfl (hb hby at_19) rfl ?_
    show Steps p.tables e below (T0.setTop (mkF m 20 #[.val (.long v), .second, .val (.int k), .unset, .unset, .unset, .unset, .unset] [(.long ((((k >>> ((1 : Int32) &&& 31)) &&& (3 : Int32))).toInt64)), (.long ((((v).toInt32)).toInt64))])) _
    refine XS.ladd X0.here hx rfl (hb hby at_20) rfl ?_
    show Steps p.tables e below (T0.setTop (mkF m 21 #[.val (.long v), .second, .val (.int k), .unset, .unset, .unset, .unset, .unset] [(.long (((((v).toInt32)).toInt64) + ((((k >>> ((1 : Int32) &&& 31)) &&& (3 : Int32))).toInt64)))])) _
    refine XS.lconst X0.here hx rfl (hb hby at_21) ?_
    show Steps p.tables e below (T0.setTop (mkF m 22 #[.val (.long v), .second, .val (.int k), .unset, .unset, .unset, .unset, .unset] [(.long (1 : Int64)), (.long (((((v).toInt32)).toInt64) + ((((k >>> ((1 : Int32) &&& 31)) &&& (3 : Int32))).toInt64)))])) _
    refine XS.lsub X0.here hx rfl (hb hby at_22) rfl ?_
    show Steps p.tables e below (T0.setTop (mkF m 23 #[.val (.long v), .second, .val (.int k), .unset, .unset, .unset, .unset, .unset] [(.long ((((((v).toInt32)).toInt64) + ((((k >>> ((1 : Int32) &&& 31)) &&& (3 : Int32))).toInt64)) - (1 : Int64)))])) _
    refine XS.lstoreN X0.here hx rfl (hb hby at_23) rfl (l' := #[.val (.long v), .second, .val (.int k), .val (.long ((((((v).toInt32)).toInt64) + ((((k >>> ((1 : Int32) &&& 31)) &&& (3 : Int32))).toInt64)) - (1 : Int64))), .second, .unset, .unset, .unset]) rfl ?_
    exact kt
set_option maxRecDepth 65536 in
set_option maxHeartbeats 40000000 in
theorem own_s2 (X0 : Stand p l e R s m args below meth c T0 locs cells slots) (hx : p.tables.exec = Jvm.exec) (hZ : Z.Warmed39 s.vm) (hw : ∀ d ∈ tables_1, d.before a0 Z = true) (hby : c.code = code) (hown : s.vm.findClass "com/example/hollin/hollin/lang/IntegerVectorFitsPinLaw" = some m.cls) (v : Int64) (k : Int32) (x : Int64) : own_Ld p e below T0 (mkF m 24 #[.val (.long v), .second, .val (.int k), .val (.long x), .second, .unset, .unset, .unset] []) T0 (mkF m 39 #[.val (.long v), .second, .val (.int k), .val (.long x), .second, .val (.int (if x.toInt32.toInt64 = x then 1 else 0)), .unset, .unset] []) := by
  intro t kt
  by_cases hq : x.toInt32.toInt64 = x
  · have hc : lcmpW x.toInt32.toInt64 x = (0 : Int32) := (lw_eq _ _).mpr hq
    rw [if_pos hq] at kt
    show Steps p.tables e below (T0.setTop (mkF m 24 #[.val (.long v), .second, .val (.int k), .val (.long x), .second, .unset, .unset, .unset] [])) _
    refine XS.lloadN X0.here hx rfl (hb hby at_24) rfl ?_
    show Steps p.tables e below (T0.setTop (mkF m 25 #[.val (.long v), .second, .val (.int k), .val (.long x), .second, .unset, .unset, .unset] [(.long x)])) _
    refine XS.l2i X0.here hx rfl (hb hby at_25) rfl ?_
    show Steps p.tables e below (T0.setTop (mkF m 26 #[.val (.long v), .second, .val (.int k), .val (.long x), .second, .unset, .unset, .unset] [(.int ((x).toInt32))])) _
    refine XS.i2l X0.here hx rfl (hb hby at_26) rfl ?_
    show Steps p.tables e below (T0.setTop (mkF m 27 #[.val (.long v), .second, .val (.int k), .val (.long x), .second, .unset, .unset, .unset] [(.long ((((x).toInt32)).toInt64))])) _
    refine XS.lloadN X0.here hx rfl (hb hby at_27) rfl ?_
    show Steps p.tables e below (T0.setTop (mkF m 28 #[.val (.long v), .second, .val (.int k), .val (.long x), .second, .unset, .unset, .unset] [(.long x), (.long ((((x).toInt32)).toInt64))])) _
    refine XS.lcmp X0.here hx rfl (hb hby at_28) rfl ?_
    show Steps p.tables e below (T0.setTop (mkF m 29 #[.val (.long v), .second, .val (.int k), .val (.long x), .second, .unset, .unset, .unset] [(.int (lcmpW ((((x).toInt32)).toInt64) x))])) _
    refine XS.ifNo X0.here hx rfl (hb hby at_29) rfl ((if0 _ _).trans (teq hc).2) ?_
    show Steps p.tables e below (T0.setTop (mkF m 32 #[.val (.long v), .second, .val (.int k), .val (.long x), .second, .unset, .unset, .unset] [])) _
    refine XS.iconst X0.here hx rfl (hb hby at_32) ?_
    show Steps p.tables e below (T0.setTop (mkF m 33 #[.val (.long v), .second, .val (.int k), .val (.long x), .second, .unset, .unset, .unset] [(.int (1 : Int32))])) _
    refine XS.goto X0.here hx rfl (pc0 := 33) (pc' := 37) rfl (hb hby at_33) (by decide) (by decide) ?_
    show Steps p.tables e below (T0.setTop (mkF m 37 #[.val (.long v), .second, .val (.int k), .val (.long x), .second, .unset, .unset, .unset] [(.int (1 : Int32))])) _
    refine XS.istore X0.here hx rfl (hb hby at_37) rfl (l' := #[.val (.long v), .second, .val (.int k), .val (.long x), .second, .val (.int (1 : Int32)), .unset, .unset]) rfl ?_
    exact kt
  · have hc : ¬ (lcmpW x.toInt32.toInt64 x = (0 : Int32)) := fun q => hq ((lw_eq _ _).mp q)
    rw [if_neg hq] at kt
    show Steps p.tables e below (T0.setTop (mkF m 24 #[.val (.long v), .second, .val (.int k), .val (.long x), .second, .unset, .unset, .unset] [])) _
    refine XS.lloadN X0.here hx rfl (hb hby at_24) rfl ?_
    show Steps p.tables e below (T0.setTop (mkF m 25 #[.val (.long v), .second, .val (.int k), .val (.long x), .second, .unset, .unset, .unset] [(.long x)])) _
    refine XS.l2i X0.here hx rfl (hb hby at_25) rfl ?_
    show Steps p.tables e below (T0.setTop (mkF m 26 #[.val (.long v), .second, .val (.int k), .val (.long x), .second, .unset, .unset, .unset] [(.int ((x).toInt32))])) _
    refine XS.i2l X0.here hx rfl (hb hby at_26) rfl ?_
    show Steps p.tables e below (T0.setTop (mkF m 27 #[.val (.long v), .second, .val (.int k), .val (.long x), .second, .unset, .unset, .unset] [(.long ((((x).toInt32)).toInt64))])) _
    refine XS.lloadN X0.here hx rfl (hb hby at_27) rfl ?_
    show Steps p.tables e below (T0.setTop (mkF m 28 #[.val (.long v), .second, .val (.int k), .val (.long x), .second, .unset, .unset, .unset] [(.long x), (.long ((((x).toInt32)).toInt64))])) _
    refine XS.lcmp X0.here hx rfl (hb hby at_28) rfl ?_
    show Steps p.tables e below (T0.setTop (mkF m 29 #[.val (.long v), .second, .val (.int k), .val (.long x), .second, .unset, .unset, .unset] [(.int (lcmpW ((((x).toInt32)).toInt64) x))])) _
    refine XS.ifYes X0.here hx rfl (pc0 := 29) (pc' := 36) rfl (hb hby at_29) rfl ((if0 _ _).trans (feq hc).2) (by decide) (by decide) ?_
    show Steps p.tables e below (T0.setTop (mkF m 36 #[.val (.long v), .second, .val (.int k), .val (.long x), .second, .unset, .unset, .unset] [])) _
    refine XS.iconst X0.here hx rfl (hb hby at_36) ?_
    show Steps p.tables e below (T0.setTop (mkF m 37 #[.val (.long v), .second, .val (.int k), .val (.long x), .second, .unset, .unset, .unset] [(.int (0 : Int32))])) _
    refine XS.istore X0.here hx rfl (hb hby at_37) rfl (l' := #[.val (.long v), .second, .val (.int k), .val (.long x), .second, .val (.int (0 : Int32)), .unset, .unset]) rfl ?_
    exact kt
set_option maxRecDepth 65536 in
set_option maxHeartbeats 40000000 in
theorem own_s3 (X0 : Stand p l e R s m args below meth c T0 locs cells slots) (hx : p.tables.exec = Jvm.exec) (hZ : Z.Warmed39 s.vm) (hw : ∀ d ∈ tables_1, d.before a0 Z = true) (hby : c.code = code) (hown : s.vm.findClass "com/example/hollin/hollin/lang/IntegerVectorFitsPinLaw" = some m.cls) (v : Int64) (k : Int32) (x : Int64) (i5 : Int32) : own_Ld p e below T0 (mkF m 39 #[.val (.long v), .second, .val (.int k), .val (.long x), .second, .val (.int i5), .unset, .unset] []) T0 (mkF m 53 #[.val (.long v), .second, .val (.int k), .val (.long x), .second, .val (.int i5), .val (.int (if x.toInt32 = (-2147483648 : Int32) then 0 else 1)), .unset] []) := by
  intro t kt
  by_cases hq : x.toInt32 = (-2147483648 : Int32)
  · rw [if_pos hq] at kt
    show Steps p.tables e below (T0.setTop (mkF m 39 #[.val (.long v), .second, .val (.int k), .val (.long x), .second, .val (.int i5), .unset, .unset] [])) _
    refine XS.lloadN X0.here hx rfl (hb hby at_39) rfl ?_
    show Steps p.tables e below (T0.setTop (mkF m 40 #[.val (.long v), .second, .val (.int k), .val (.long x), .second, .val (.int i5), .unset, .unset] [(.long x)])) _
    refine XS.l2i X0.here hx rfl (hb hby at_40) rfl ?_
    show Steps p.tables e below (T0.setTop (mkF m 41 #[.val (.long v), .second, .val (.int k), .val (.long x), .second, .val (.int i5), .unset, .unset] [(.int ((x).toInt32))])) _
    refine X0.ldcI hx hown (mvT hZ (hw _ (List.mem_of_getElem? (i := 0) rfl))) rfl (hb hby at_41) ?_
    show Steps p.tables e below (T0.setTop (mkF m 43 #[.val (.long v), .second, .val (.int k), .val (.long x), .second, .val (.int i5), .unset, .unset] [(.int (-2147483648 : Int32)), (.int ((x).toInt32))])) _
    refine XS.icmpYes X0.here hx rfl (pc0 := 43) (pc' := 50) rfl (hb hby at_43) rfl (teq hq).1 (by decide) (by decide) ?_
    show Steps p.tables e below (T0.setTop (mkF m 50 #[.val (.long v), .second, .val (.int k), .val (.long x), .second, .val (.int i5), .unset, .unset] [])) _
    refine XS.iconst X0.here hx rfl (hb hby at_50) ?_
    show Steps p.tables e below (T0.setTop (mkF m 51 #[.val (.long v), .second, .val (.int k), .val (.long x), .second, .val (.int i5), .unset, .unset] [(.int (0 : Int32))])) _
    refine XS.istore X0.here hx rfl (hb hby at_51) rfl (l' := #[.val (.long v), .second, .val (.int k), .val (.long x), .second, .val (.int i5), .val (.int (0 : Int32)), .unset]) rfl ?_
    exact kt
  · rw [if_neg hq] at kt
    show Steps p.tables e below (T0.setTop (mkF m 39 #[.val (.long v), .second, .val (.int k), .val (.long x), .second, .val (.int i5), .unset, .unset] [])) _
    refine XS.lloadN X0.here hx rfl (hb hby at_39) rfl ?_
    show Steps p.tables e below (T0.setTop (mkF m 40 #[.val (.long v), .second, .val (.int k), .val (.long x), .second, .val (.int i5), .unset, .unset] [(.long x)])) _
    refine XS.l2i X0.here hx rfl (hb hby at_40) rfl ?_
    show Steps p.tables e below (T0.setTop (mkF m 41 #[.val (.long v), .second, .val (.int k), .val (.long x), .second, .val (.int i5), .unset, .unset] [(.int ((x).toInt32))])) _
    refine X0.ldcI hx hown (mvT hZ (hw _ (List.mem_of_getElem? (i := 0) rfl))) rfl (hb hby at_41) ?_
    show Steps p.tables e below (T0.setTop (mkF m 43 #[.val (.long v), .second, .val (.int k), .val (.long x), .second, .val (.int i5), .unset, .unset] [(.int (-2147483648 : Int32)), (.int ((x).toInt32))])) _
    refine XS.icmpNo X0.here hx rfl (hb hby at_43) rfl (feq hq).1 ?_
    show Steps p.tables e below (T0.setTop (mkF m 46 #[.val (.long v), .second, .val (.int k), .val (.long x), .second, .val (.int i5), .unset, .unset] [])) _
    refine XS.iconst X0.here hx rfl (hb hby at_46) ?_
    show Steps p.tables e below (T0.setTop (mkF m 47 #[.val (.long v), .second, .val (.int k), .val (.long x), .second, .val (.int i5), .unset, .unset] [(.int (1 : Int32))])) _
    refine XS.goto X0.here hx rfl (pc0 := 47) (pc' := 51) rfl (hb hby at_47) (by decide) (by decide) ?_
    show Steps p.tables e below (T0.setTop (mkF m 51 #[.val (.long v), .second, .val (.int k), .val (.long x), .second, .val (.int i5), .unset, .unset] [(.int (1 : Int32))])) _
    refine XS.istore X0.here hx rfl (hb hby at_51) rfl (l' := #[.val (.long v), .second, .val (.int k), .val (.long x), .second, .val (.int i5), .val (.int (1 : Int32)), .unset]) rfl ?_
    exact kt
set_option maxRecDepth 65536 in
set_option maxHeartbeats 40000000 in
theorem own_s4 (X0 : Stand p l e R s m args below meth c T0 locs cells slots) (hx : p.tables.exec = Jvm.exec) (hZ : Z.Warmed39 s.vm) (hw : ∀ d ∈ tables_1, d.before a0 Z = true) (hby : c.code = code) (hown : s.vm.findClass "com/example/hollin/hollin/lang/IntegerVectorFitsPinLaw" = some m.cls) (v : Int64) (k : Int32) (x : Int64) (i5 i6 : Int32) : own_Ld p e below T0 (mkF m 53 #[.val (.long v), .second, .val (.int k), .val (.long x), .second, .val (.int i5), .val (.int i6), .unset] []) T0 (mkF m 70 #[.val (.long v), .second, .val (.int k), .val (.long x), .second, .val (.int i5), .val (.int i6), .val (.int (if i5 = (0 : Int32) then 0 else if i6 = (0 : Int32) then 0 else 1))] []) := by
  intro t kt
  by_cases h5 : i5 = (0 : Int32)
  · rw [if_pos h5] at kt
    show Steps p.tables e below (T0.setTop (mkF m 53 #[.val (.long v), .second, .val (.int k), .val (.long x), .second, .val (.int i5), .val (.int i6), .unset] [])) _
    refine XS.iload X0.here hx rfl (hb hby at_53) rfl ?_
    show Steps p.tables e below (T0.setTop (mkF m 55 #[.val (.long v), .second, .val (.int k), .val (.long x), .second, .val (.int i5), .val (.int i6), .unset] [(.int i5)])) _
    refine XS.ifYes X0.here hx rfl (pc0 := 55) (pc' := 67) rfl (hb hby at_55) rfl ((if0 _ _).trans (teq h5).1) (by decide) (by decide) ?_
    show Steps p.tables e below (T0.setTop (mkF m 67 #[.val (.long v), .second, .val (.int k), .val (.long x), .second, .val (.int i5), .val (.int i6), .unset] [])) _
    refine XS.iconst X0.here hx rfl (hb hby at_67) ?_
    show Steps p.tables e below (T0.setTop (mkF m 68 #[.val (.long v), .second, .val (.int k), .val (.long x), .second, .val (.int i5), .val (.int i6), .unset] [(.int (0 : Int32))])) _
    refine XS.istore X0.here hx rfl (hb hby at_68) rfl (l' := #[.val (.long v), .second, .val (.int k), .val (.long x), .second, .val (.int i5), .val (.int i6), .val (.int (0 : Int32))]) rfl ?_
    exact kt
  · rw [if_neg h5] at kt
    by_cases h6 : i6 = (0 : Int32)
    · rw [if_pos h6] at kt
      show Steps p.tables e below (T0.setTop (mkF m 53 #[.val (.long v), .second, .val (.int k), .val (.long x), .second, .val (.int i5), .val (.int i6), .unset] [])) _
      refine XS.iload X0.here hx rfl (hb hby at_53) rfl ?_
      show Steps p.tables e below (T0.setTop (mkF m 55 #[.val (.long v), .second, .val (.int k), .val (.long x), .second, .val (.int i5), .val (.int i6), .unset] [(.int i5)])) _
      refine XS.ifNo X0.here hx rfl (hb hby at_55) rfl ((if0 _ _).trans (feq h5).1) ?_
      show Steps p.tables e below (T0.setTop (mkF m 58 #[.val (.long v), .second, .val (.int k), .val (.long x), .second, .val (.int i5), .val (.int i6), .unset] [])) _
      refine XS.iload X0.here hx rfl (hb hby at_58) rfl ?_
      show Steps p.tables e below (T0.setTop (mkF m 60 #[.val (.long v), .second, .val (.int k), .val (.long x), .second, .val (.int i5), .val (.int i6), .unset] [(.int i6)])) _
      refine XS.ifYes X0.here hx rfl (pc0 := 60) (pc' := 67) rfl (hb hby at_60) rfl ((if0 _ _).trans (teq h6).1) (by decide) (by decide) ?_
      show Steps p.tables e below (T0.setTop (mkF m 67 #[.val (.long v), .second, .val (.int k), .val (.long x), .second, .val (.int i5), .val (.int i6), .unset] [])) _
      refine XS.iconst X0.here hx rfl (hb hby at_67) ?_
      show Steps p.tables e below (T0.setTop (mkF m 68 #[.val (.long v), .second, .val (.int k), .val (.long x), .second, .val (.int i5), .val (.int i6), .unset] [(.int (0 : Int32))])) _
      refine XS.istore X0.here hx rfl (hb hby at_68) rfl (l' := #[.val (.long v), .second, .val (.int k), .val (.long x), .second, .val (.int i5), .val (.int i6), .val (.int (0 : Int32))]) rfl ?_
      exact kt
    · rw [if_neg h6] at kt
      show Steps p.tables e below (T0.setTop (mkF m 53 #[.val (.long v), .second, .val (.int k), .val (.long x), .second, .val (.int i5), .val (.int i6), .unset] [])) _
      refine XS.iload X0.here hx rfl (hb hby at_53) rfl ?_
      show Steps p.tables e below (T0.setTop (mkF m 55 #[.val (.long v), .second, .val (.int k), .val (.long x), .second, .val (.int i5), .val (.int i6), .unset] [(.int i5)])) _
      refine XS.ifNo X0.here hx rfl (hb hby at_55) rfl ((if0 _ _).trans (feq h5).1) ?_
      show Steps p.tables e below (T0.setTop (mkF m 58 #[.val (.long v), .second, .val (.int k), .val (.long x), .second, .val (.int i5), .val (.int i6), .unset] [])) _
      refine XS.iload X0.here hx rfl (hb hby at_58) rfl ?_
      show Steps p.tables e below (T0.setTop (mkF m 60 #[.val (.long v), .second, .val (.int k), .val (.long x), .second, .val (.int i5), .val (.int i6), .unset] [(.int i6)])) _
      refine XS.ifNo X0.here hx rfl (hb hby at_60) rfl ((if0 _ _).trans (feq h6).1) ?_
      show Steps p.tables e below (T0.setTop (mkF m 63 #[.val (.long v), .second, .val (.int k), .val (.long x), .second, .val (.int i5), .val (.int i6), .unset] [])) _
      refine XS.iconst X0.here hx rfl (hb hby at_63) ?_
      show Steps p.tables e below (T0.setTop (mkF m 64 #[.val (.long v), .second, .val (.int k), .val (.long x), .second, .val (.int i5), .val (.int i6), .unset] [(.int (1 : Int32))])) _
      refine XS.goto X0.here hx rfl (pc0 := 64) (pc' := 68) rfl (hb hby at_64) (by decide) (by decide) ?_
      show Steps p.tables e below (T0.setTop (mkF m 68 #[.val (.long v), .second, .val (.int k), .val (.long x), .second, .val (.int i5), .val (.int i6), .unset] [(.int (1 : Int32))])) _
      refine XS.istore X0.here hx rfl (hb hby at_68) rfl (l' := #[.val (.long v), .second, .val (.int k), .val (.long x), .second, .val (.int i5), .val (.int i6), .val (.int (1 : Int32))]) rfl ?_
      exact kt
end Law
def Q0 (h0 : Heap) (n0 : Nat) (v : Option Value) (h : Heap) (L : List Loc) : Prop := v = some (.int 1) ∧ Fr n0 L
set_option maxRecDepth 65536 in
set_option maxHeartbeats 40000000 in
theorem rm0 (l : Launch) (Z : State) (a0 : Array Value) (hw : ∀ d ∈ tables_1, d.before a0 Z = true) (ws : List Jvm.Cond) (v : Int64) (k : Int32) (h0 : Heap) (n0 : Nat) (Z0 : n0 ≤ h0.size) :
    MetFree l x (head1 (Jvm.Cond.code x code 8 ret :: ws) room_1) (fun a U => a = #[(.long v), (.int k)] ∧ Z.Warmed39 U.vm ∧ U.heap = h0) (fun _ _ _ _ _ => True) (fun _ U o U' => ∃ v L, o = .returned v ∧ Q0  h0 n0 v U'.heap L ∧ FrameEnd U o U' L room_1.cells room_1.slots) := by
  refine MetFree.of_bodySF (plainFor_of_name pn_0) hisR ?_
  intro p e s m args below meth c s₁ Bd hml0 hP hK
  obtain ⟨rfl, hZ, hh⟩ := hP
  have hx := Bd.exec
  have hby := Bd.bytes
  have hml : c.maxLocals = 8 := hml0
  have hown : s.vm.findClass "com/example/hollin/hollin/lang/IntegerVectorFitsPinLaw" = some m.cls := findClass_of_methodNamed Bd.named
  have hnm := (name_of_methodNamed Bd.named Bd.method).1
  have X0 : Stand p l e room_1 s m #[(.long v), (.int k)] below meth c s₁ [] 0 0 := Stand.of_body Bd
  have e0 : s₁.heap = h0 := by rw [← hh, Bd.state]; rfl
  have N0 := Fr.nil n0
  have pre0 : ∀ t, Steps p.tables e below (s₁.setTop (mkF m 0 #[.val (.long v), .second, .val (.int k), .unset, .unset, .unset, .unset, .unset] [])) t → Steps p.tables e below (s₁.setTop (entryFrame m #[(.long v), (.int k)] 8)) t := fun t kt0 => castTop (ef_0 m v k) kt0

  obtain ⟨x, st1⟩ := own_s1 X0 hx hZ hw hby hown v k
  have st2 := own_s2 X0 hx hZ hw hby hown v k x
  obtain ⟨i5, h5⟩ : ∃ z : Int32, (if x.toInt32.toInt64 = x then (1 : Int32) else 0) = z := ⟨_, rfl⟩
  rw [h5] at st2
  have st3 := own_s3 X0 hx hZ hw hby hown v k x i5
  obtain ⟨i6, h6⟩ : ∃ z : Int32, (if x.toInt32 = (-2147483648 : Int32) then (0 : Int32) else 1) = z := ⟨_, rfl⟩
  rw [h6] at st3
  have st4 := own_s4 X0 hx hZ hw hby hown v k x i5 i6
  obtain ⟨i7, h7⟩ : ∃ z : Int32, (if i5 = (0 : Int32) then (0 : Int32) else if i6 = (0 : Int32) then 0 else 1) = z := ⟨_, rfl⟩
  rw [h7] at st4
  have heq : own_fits x = i7 := by
    rw [own_law, ← h7, ← h5, ← h6]
    by_cases q1 : x.toInt32.toInt64 = x <;> by_cases q2 : x.toInt32 = (-2147483648 : Int32) <;> simp [q1, q2]
  obtain ⟨_, _, ⟨T4, L4, k4, n4⟩, -, X4, ⟨Lc4, hQ4, l4, y4, z4⟩, st5⟩ := Jvm.LawKit.callS X0 hx (y := (⟨"com/example/hollin/hollin/lang/IntegerVector", "fits", "(J)Z"⟩ : MethodName)) hown (mvT hZ (hw _ (List.mem_of_getElem? (i := 1) rfl))) (mvT hZ (hw _ (List.mem_of_getElem? (i := 2) rfl))) (mvT hZ (hw _ (List.mem_of_getElem? (i := 3) rfl))) (mvT hZ (hw _ (List.mem_of_getElem? (i := 4) rfl))) (by decide) (backOf (W := 8) (rm1 l Z a0 hw [] x h0 n0 Z0) hZ (hw _ (List.mem_of_getElem? (i := 4) rfl)) (hw _ (List.mem_of_getElem? (i := 3) rfl)) (by decide) (by decide)) (g := (mkF m 71 #[.val (.long v), .second, .val (.int k), .val (.long x), .second, .val (.int i5), .val (.int i6), .val (.int i7)] [(.long x)])) rfl (by rw [hml]; rfl) (argsL := [(.long x)]) (rest := []) (lenOf pd_1 rfl) rfl (by show 2 * 0 + _ ≤ _; decide) (hb hby at_71) (fun _ _ => ⟨rfl, e0, (by decide : 0 + 0 ≤ _), (by decide : 0 + 0 ≤ _)⟩)
  dsimp only [Pt.U, Pt.locs, Pt.cells, Pt.slots] at X4 l4 y4 z4 st5 hQ4
  subst l4 y4 z4
  obtain ⟨rfl, N4q, e4⟩ := hQ4
  obtain ⟨fs, hr, hrun, hended, hW, hsame⟩ := X4.leave (v := some (.int (1 : Int32))) (fun h => by rw [Bd.returns] at h; cases h)
  refine ⟨_, _, pre0 _ ?_, hrun, hended, _, _, rfl, ?_, ⟨_, rfl⟩, hW, hsame.mono (by decide) (by decide)⟩
  rotate_left
  · show Q0 h0 n0 _ T4.heap _
    exact ⟨rfl, Fr.app N0 N4q⟩
  refine st1 _ ?_
  refine st2 _ ?_
  refine st3 _ ?_
  refine st4 _ ?_
  show Steps p.tables e below (s₁.setTop (mkF m 70 #[.val (.long v), .second, .val (.int k), .val (.long x), .second, .val (.int i5), .val (.int i6), .val (.int i7)] [])) _
  refine XS.lloadN X0.here hx rfl (hb hby at_70) rfl ?_
  show Steps p.tables e below (s₁.setTop (mkF m 71 #[.val (.long v), .second, .val (.int k), .val (.long x), .second, .val (.int i5), .val (.int i6), .val (.int i7)] [(.long x)])) _
  refine st5 _ ?_
  show Steps p.tables e below (T4.setTop (mkF m 74 #[.val (.long v), .second, .val (.int k), .val (.long x), .second, .val (.int i5), .val (.int i6), .val (.int i7)] [(.int (own_fits x))])) _
  refine XS.iload X4.here hx rfl (hb hby at_74) rfl ?_
  show Steps p.tables e below (T4.setTop (mkF m 76 #[.val (.long v), .second, .val (.int k), .val (.long x), .second, .val (.int i5), .val (.int i6), .val (.int i7)] [(.int i7), (.int (own_fits x))])) _
  refine XS.icmpNo X4.here hx rfl (hb hby at_76) rfl (teq heq).2 ?_
  show Steps p.tables e below (T4.setTop (mkF m 79 #[.val (.long v), .second, .val (.int k), .val (.long x), .second, .val (.int i5), .val (.int i6), .val (.int i7)] [])) _
  refine XS.iconst X4.here hx rfl (hb hby at_79) ?_
  show Steps p.tables e below (T4.setTop (mkF m 80 #[.val (.long v), .second, .val (.int k), .val (.long x), .second, .val (.int i5), .val (.int i6), .val (.int i7)] [(.int (1 : Int32))])) _
  refine XS.goto X4.here hx rfl (pc0 := 80) (pc' := 84) rfl (hb hby at_80) (by decide) (by decide) ?_
  show Steps p.tables e below (T4.setTop (mkF m 84 #[.val (.long v), .second, .val (.int k), .val (.long x), .second, .val (.int i5), .val (.int i6), .val (.int i7)] [(.int (1 : Int32))])) _
  exact retN X4 hx (t := .boolean) Bd.returns (by simp) (hb hby at_84) hr
set_option maxRecDepth 65536 in
set_option maxHeartbeats 40000000 in
theorem comes_1 {Post : Tables → Env → Array Value → State → Outcome → State → Prop} (hpost : ∀ tb e args s v u, (limb_1_1.after args s (.returned v) u = true ∧ limb_1_2.after args s (.returned v) u = true ∧ True) → FrameEnd s (.returned v) u (Jvm.fieldLocs frame_1_writes args s ++ Jvm.arrayLocs frame_1_arrays args s ++ Jvm.staticLocs frame_1_statics s) 0 0 → Post tb e args s (.returned v) u) :
    ArmFor flags0 classFile x code maxLocals ret World_1 tables_1 room_1 Calls_1 rest_1 Pre_1 Post := by
  intro l hfl _ _ p e ha hc hk s m args below hf hA hF happ hP
  obtain ⟨hcalls, hrest, hpre⟩ := hP
  obtain ⟨-, -, -, hnamed, -, -, -, hat⟩ := (Spec.applies_iff hf).mp happ
  obtain ⟨hg, hn⟩ := and_e (Cond.before_iff.mp (show (Jvm.Cond.and given_1 narrow_1).before args s = true from hpre))
  obtain ⟨h1, h2⟩ := and_e hg
  obtain ⟨h3, h4⟩ := and_e h2
  obtain ⟨w0, w1, rfl⟩ : ∃ w0 w1 : Value, args = #[w0, w1] := by
    have hs : args.size = 2 := by simpa [Cond.value, given_1] using h1
    obtain ⟨L⟩ := args
    match L, hs with
    | [w0, w1], _ => exact ⟨w0, w1, rfl⟩
  have hw := fun d (hd : d ∈ tables_1) => atoms_spec (ws := Jvm.Cond.code x code maxLocals ret :: tables_1) hat d (List.mem_cons_of_mem _ hd)
  obtain ⟨i5, e5⟩ := is_v h4
  obtain rfl : w1 = (.int i5) := Option.some.inj e5
  obtain ⟨i6, e6⟩ : ∃ j : Int64, w0 = .long j := by
    have q : (Jvm.Cond.isLong (Jvm.Term.arg 0)).before #[w0, .int i5] s = true := Cond.before_iff.mpr h3
    cases w0 <;> simp [Cond.before, Cond.holds, Cond.value, Term.eval] at q
    exact ⟨_, rfl⟩
  subst e6
  obtain ⟨n, o, h1, h2, h3, _, L, rfl, ⟨rfl, N⟩, hq⟩ := rm0 l s _ hw tables_1 i6 i5 s.heap s.heap.size (Nat.le_refl _) p e ha hc hk s m _ below hf ((Spec.applies_iff_loose hf).mp happ).1 ⟨rfl, State.Warmed39.refl s, rfl⟩ trivial
  refine ⟨n, _, h1, h2, h3, hpost _ _ _ _ _ _ ⟨Cond.after_iff.mpr rfl, Cond.after_iff.mpr (eq_i res_at (Term.int_eval (1)) rfl), trivial⟩ ⟨hq.1, hq.2.1, (hq.2.2.sift fun y hy => Or.inr (N y hy)).mono (by decide) (by decide)⟩⟩
theorem main_1_1 : Claimed_1_1 := comes_1 fun _ _ _ _ _ _ h hF => ⟨h.1, hF⟩
theorem main_1_2 : Claimed_1_2 := comes_1 fun _ _ _ _ _ _ h hF => ⟨h.2.1, hF⟩
end Jvm.Pilot.@@N@@
namespace Jvm.Pilot.@@N@@
open Jvm Jvm.ClassFile Sem Op Lib Jvm.Free Jvm.Stand Jvm.Pilot.@@N@@.Jvm.D
/-! MADE BY PROGRAM (witnessworld.py) out of the Statement's table words and the real class files: 12 classes; the members and pool entries that the words name. The judged class is class 1, her method 1. -/
namespace start1
open Jvm.ClassFile
def u (s : String) : CpInfo := .utf8 (stringToUtf16 s)
/-- a pool by its gaps: so many unusable entries, then the entry; so many at the end -/
def gap : Nat → List CpInfo → List CpInfo
  | 0, r => r
  | n + 1, r => .unusable :: gap n r
def poolList (es : List (Nat × CpInfo)) (last : Nat) : List CpInfo := es.foldr (fun e r => gap e.1 (e.2 :: r)) (gap last [])
def pool (es : List (Nat × CpInfo)) (last : Nat) : Array CpInfo := ⟨poolList es last⟩
def fileOf (pool : Array CpInfo) (this : Nat) (attrs : Array Attribute := #[]) (ms : Array MethodInfo := #[]) (fl : Nat := 33) (sup : Nat := 0) (ifs : Array Nat := #[]) (fds : Array FieldInfo := #[]) : ClassFile where
  minorVersion := 0
  majorVersion := 65
  constantPool := pool
  accessFlags := fl
  thisClass := this
  superClass := sup
  interfaces := ifs
  fields := fds
  methods := ms
  attributes := attrs
def plain (name : String) (sup : Option ClassId) : Class where
  name := name
  kind := .ordinary
  loader := none
  accessFlags := 33
  super := sup
  interfaces := #[]
  cf := none
  fields := #[]
  methods := #[]
  instanceTypes := #[]
  staticTypes := #[]
  resolved := #[]
  callSites := []
  init := .initialized
  statics := none
  mirror := none

def pool0 : Array CpInfo := pool [(5, u "<init>"), (0, u "()V"), (1, .class_ 10), (1, u "java/lang/Object")] 113

def k0m0 : Method := { name := "<init>", desc := "()V", sig := { parameters := [], returnType := none }, accessFlags := 1, code := none }
/-- java/lang/Object -/
def k0 : Class := { plain "java/lang/Object" none with
  accessFlags := 33
  interfaces := #[]
  cf := some (fileOf pool0 8 #[] #[{ accessFlags := 1, nameIndex := 5, descriptorIndex := 6, attributes := #[] }] 33 0 #[] #[])
  fields := #[]
  methods := #[k0m0]
  instanceTypes := #[]
  staticTypes := #[]
  resolved := Array.replicate 124 none
  statics := none }

def pool1 : Array CpInfo := pool [(2, .class_ 4), (1, u "java/lang/Object"), (0, u "<init>"), (0, u "()V"), (2, .integer 2147483648), (0, .methodref 11 12), (0, .class_ 13), (0, .nameAndType 14 15), (0, u "com/example/hollin/hollin/lang/IntegerVector"), (0, u "fits"), (0, u "(J)Z"), (0, .class_ 17), (0, u "com/example/hollin/hollin/lang/IntegerVectorFitsPinLaw"), (2, u "law"), (0, u "(JI)Z")] 3

def k1m0 : Method := { name := "<init>", desc := "()V", sig := { parameters := [], returnType := none }, accessFlags := 2, code := none }
def k1c1 : Code := { maxStack := 4, maxLocals := 8, code := code, exceptionTable := #[], attributes := #[] }
def k1m1 : Method := { name := "law", desc := "(JI)Z", sig := { parameters := [.long, .int], returnType := some .boolean }, accessFlags := 9, code := some k1c1 }
/-- com/example/hollin/hollin/lang/IntegerVectorFitsPinLaw -/
def k1 : Class := { plain "com/example/hollin/hollin/lang/IntegerVectorFitsPinLaw" (some 0) with
  accessFlags := 49
  interfaces := #[]
  cf := some (fileOf pool1 16 #[] #[{ accessFlags := 2, nameIndex := 5, descriptorIndex := 6, attributes := #[] }, { accessFlags := 9, nameIndex := 20, descriptorIndex := 21, attributes := #[] }] 49 2 #[] #[])
  fields := #[]
  methods := #[k1m0, k1m1]
  instanceTypes := #[]
  staticTypes := #[]
  resolved := Array.replicate 25 none
  statics := none }

def pool2 : Array CpInfo := pool [(2, .class_ 4), (1, u "java/lang/Object"), (0, u "<init>"), (0, u "()V"), (0, .class_ 8), (0, u "com/example/hollin/hollin/lang/RObject")] 6

def k2m0 : Method := { name := "<init>", desc := "()V", sig := { parameters := [], returnType := none }, accessFlags := 1, code := none }
/-- com/example/hollin/hollin/lang/RObject -/
def k2 : Class := { plain "com/example/hollin/hollin/lang/RObject" (some 0) with
  accessFlags := 1057
  interfaces := #[]
  cf := some (fileOf pool2 7 #[] #[{ accessFlags := 1, nameIndex := 5, descriptorIndex := 6, attributes := #[] }] 1057 2 #[] #[])
  fields := #[]
  methods := #[k2m0]
  instanceTypes := #[]
  staticTypes := #[]
  resolved := Array.replicate 15 none
  statics := none }

def pool3 : Array CpInfo := pool [(4, .class_ 6), (1, u "com/example/hollin/hollin/lang/RObject"), (2, .class_ 10), (0, u "com/example/hollin/hollin/lang/Vector"), (2, u "holders"), (0, u "B"), (2, u "attributes"), (0, u "Lcom/example/hollin/hollin/lang/Attributes;"), (9, u "leases"), (0, u "S"), (79, u "NO_HOLDER"), (2, u "ONE_HOLDER"), (1, u "SHARED"), (1, u "MINIMUM_GROWTH"), (0, u "J"), (0, u "MAX_CAPACITY"), (0, u "I")] 33

/-- com/example/hollin/hollin/lang/Vector -/
def k3 : Class := { plain "com/example/hollin/hollin/lang/Vector" (some 2) with
  accessFlags := 1057
  interfaces := #[]
  cf := some (fileOf pool3 9 #[] #[] 1057 4 #[] #[{ accessFlags := 26, nameIndex := 109, descriptorIndex := 14, attributes := #[] }, { accessFlags := 26, nameIndex := 112, descriptorIndex := 14, attributes := #[] }, { accessFlags := 26, nameIndex := 114, descriptorIndex := 14, attributes := #[] }, { accessFlags := 26, nameIndex := 116, descriptorIndex := 117, attributes := #[] }, { accessFlags := 26, nameIndex := 118, descriptorIndex := 119, attributes := #[] }, { accessFlags := 18, nameIndex := 17, descriptorIndex := 18, attributes := #[] }, { accessFlags := 2, nameIndex := 13, descriptorIndex := 14, attributes := #[] }, { accessFlags := 2, nameIndex := 28, descriptorIndex := 29, attributes := #[] }])
  fields := #[{ name := "NO_HOLDER", type := .byte, accessFlags := 26, slot := 0, constantValue := 0 }, { name := "ONE_HOLDER", type := .byte, accessFlags := 26, slot := 1, constantValue := 0 }, { name := "SHARED", type := .byte, accessFlags := 26, slot := 2, constantValue := 0 }, { name := "MINIMUM_GROWTH", type := .long, accessFlags := 26, slot := 3, constantValue := 0 }, { name := "MAX_CAPACITY", type := .int, accessFlags := 26, slot := 4, constantValue := 0 }, { name := "attributes", type := (.object "com/example/hollin/hollin/lang/Attributes"), accessFlags := 18, slot := 0, constantValue := 0 }, { name := "holders", type := .byte, accessFlags := 2, slot := 1, constantValue := 0 }, { name := "leases", type := .short, accessFlags := 2, slot := 2, constantValue := 0 }]
  methods := #[]
  instanceTypes := #[(.object "com/example/hollin/hollin/lang/Attributes"), .byte, .short]
  staticTypes := #[.byte, .byte, .byte, .long, .int]
  resolved := Array.replicate 153 none
  statics := none }

def pool4 : Array CpInfo := pool [(2, .class_ 4), (1, u "com/example/hollin/hollin/lang/Vector"), (3, .class_ 10), (1, u "com/example/hollin/hollin/lang/AtomicVector")] 22

/-- com/example/hollin/hollin/lang/AtomicVector -/
def k4 : Class := { plain "com/example/hollin/hollin/lang/AtomicVector" (some 3) with
  accessFlags := 1057
  interfaces := #[]
  cf := some (fileOf pool4 8 #[] #[] 1057 2 #[] #[])
  fields := #[]
  methods := #[]
  instanceTypes := #[(.object "com/example/hollin/hollin/lang/Attributes"), .byte, .short]
  staticTypes := #[]
  resolved := Array.replicate 33 none
  statics := none }

def pool5 : Array CpInfo := pool [(10, .class_ 12), (1, u "com/example/hollin/hollin/lang/IntegerVector"), (9, .class_ 24), (1, u "com/example/hollin/hollin/lang/AtomicVector"), (3, u "values"), (0, u "[I"), (2, u "length"), (0, u "I"), (2, u "first"), (2, u "step"), (5, u "fits"), (0, u "(J)Z"), (13, .long 18446744071562067968), (1, .long 2147483647), (64, u "NA")] 29

def k5c0 : Code := { maxStack := 4, maxLocals := 2, code := prog_22_method_8_code, exceptionTable := #[], attributes := #[] }
def k5m0 : Method := { name := "fits", desc := "(J)Z", sig := { parameters := [.long], returnType := some .boolean }, accessFlags := 9, code := some k5c0 }
/-- com/example/hollin/hollin/lang/IntegerVector -/
def k5 : Class := { plain "com/example/hollin/hollin/lang/IntegerVector" (some 4) with
  accessFlags := 49
  interfaces := #[]
  cf := some (fileOf pool5 10 #[] #[{ accessFlags := 9, nameIndex := 45, descriptorIndex := 46, attributes := #[] }] 49 22 #[] #[{ accessFlags := 25, nameIndex := 127, descriptorIndex := 33, attributes := #[] }, { accessFlags := 2, nameIndex := 28, descriptorIndex := 29, attributes := #[] }, { accessFlags := 2, nameIndex := 32, descriptorIndex := 33, attributes := #[] }, { accessFlags := 18, nameIndex := 36, descriptorIndex := 33, attributes := #[] }, { accessFlags := 18, nameIndex := 39, descriptorIndex := 33, attributes := #[] }])
  fields := #[{ name := "NA", type := .int, accessFlags := 25, slot := 0, constantValue := 0 }, { name := "values", type := (.array .int), accessFlags := 2, slot := 3, constantValue := 0 }, { name := "length", type := .int, accessFlags := 2, slot := 4, constantValue := 0 }, { name := "first", type := .int, accessFlags := 18, slot := 5, constantValue := 0 }, { name := "step", type := .int, accessFlags := 18, slot := 6, constantValue := 0 }]
  methods := #[k5m0]
  instanceTypes := #[(.object "com/example/hollin/hollin/lang/Attributes"), .byte, .short, (.array .int), .int, .int, .int]
  staticTypes := #[.int]
  resolved := Array.replicate 157 none
  statics := none }

def pool6 : Array CpInfo := pool [(1, u "java/lang/Cloneable"), (0, .class_ 1), (0, u "java/lang/Object"), (0, .class_ 3)] 3

/-- java/lang/Cloneable -/
def k6 : Class := { plain "java/lang/Cloneable" (some 0) with
  accessFlags := 1537
  interfaces := #[]
  cf := some (fileOf pool6 2 #[] #[] 1537 4 #[] #[])
  fields := #[]
  methods := #[]
  instanceTypes := #[]
  staticTypes := #[]
  resolved := Array.replicate 8 none
  statics := none }

def pool7 : Array CpInfo := pool [(1, u "java/io/Serializable"), (0, .class_ 1), (0, u "java/lang/Object"), (0, .class_ 3)] 3

/-- java/io/Serializable -/
def k7 : Class := { plain "java/io/Serializable" (some 0) with
  accessFlags := 1537
  interfaces := #[]
  cf := some (fileOf pool7 2 #[] #[] 1537 4 #[] #[])
  fields := #[]
  methods := #[]
  instanceTypes := #[]
  staticTypes := #[]
  resolved := Array.replicate 8 none
  statics := none }

/-- the primitive byte -/
def k8 : Class := { plain "byte" none with kind := .primitive 'B', accessFlags := 0x411 }
/-- [B -/
def k9 : Class := { plain "[B" (some 0) with kind := .array 8 .byte, interfaces := #[6, 7], accessFlags := 1041 }

/-- the primitive int -/
def k10 : Class := { plain "int" none with kind := .primitive 'I', accessFlags := 0x411 }
/-- [I -/
def k11 : Class := { plain "[I" (some 0) with kind := .array 10 .int, interfaces := #[6, 7], accessFlags := 1041 }

def heap : Heap := #[]
def classes : Array Class := #[k0, k1, k2, k3, k4, k5, k6, k7, k8, k9, k10, k11]
def interned : List (Array UInt16 × Addr) := []
def slotsUsed : Nat := 0
def theMethod : MethodId := ⟨1, 1⟩
def args0 : Array Value := #[.long 5, .int 3]
def aboutOver (below : List Frame) : State where
  vm := { classes := classes, interned := interned.toArray }
  heap := heap
  slotsUsed := slotsUsed
  threads := #[{ frames := .invoking theMethod args0 :: below }]
def below0 : List Frame := [.native { method := ⟨0, 0⟩, args := #[] }]
def about1 : State := aboutOver below0
def p0 : Program := .bare "" "" ""
def e0 : Env := launch0.env 0 0 0
theorem w_frames : about1.frames = Frame.invoking theMethod args0 :: below0 := rfl
set_option maxRecDepth 65536 in
theorem w_args : argsFit about1.vm theMethod args0 = true := by decide +kernel
set_option maxRecDepth 65536 in
theorem w_heap : heapFits about1 = true := by decide +kernel
set_option maxRecDepth 65536 in
theorem w_runnable : about1.curStatus? = some .runnable := by decide +kernel
set_option maxRecDepth 65536 in
theorem w_alone : about1.alone = true := by decide +kernel
set_option maxRecDepth 65536 in
theorem w_named : about1.methodNamed? x = some theMethod := by decide +kernel
set_option maxRecDepth 65536 in
theorem w_hears : about1.hears theMethod below0 = true := by decide +kernel
set_option maxRecDepth 65536 in
theorem w_ripe : about1.ripe theMethod args0 below0 = true := by decide +kernel
theorem w_running : about1.status = .running := rfl
set_option maxRecDepth 65536 in
theorem w_room : about1.hasRoom e0.platform room_1 = true :=
  launch0.hasRoom_least _ room_1 (by decide +kernel) (by decide +kernel) (by decide +kernel) (by decide +kernel) (by decide +kernel) (by decide +kernel)
theorem allAtoms_all (ts : List Jvm.Cond) (a : Array Jvm.Value) (st : Jvm.State) : (allAtoms ts).before a st = ts.all (fun c => c.before a st) := by
  induction ts with
  | nil => rfl
  | cons c t ih =>
    show (Jvm.Cond.and c (allAtoms t)).before a st = _
    rw [Jvm.Cond.before_and, ih, List.all_cons]
def words1 : List Jvm.Cond := Jvm.Cond.code x code maxLocals ret :: tables_1
/-- a 'code' word, met by the world's own term for the bytes: nothing is compared byte by byte -/
theorem code_word {y : MethodName} {bytes : ByteArray} {mx : Nat} {rt : Option FieldType} {a : Array Value} {s : State} {m : MethodId} {meth : Method} {c : Code} (h1 : s.methodNamed? y = some m) (h2 : s.vm.method? m = some meth) (h3 : meth.code = some c) (h4 : c.code = bytes)
    (h5 : (c.maxLocals == mx && c.exceptionTable.isEmpty && decide (c.maxStack ≤ mostOperands) && decide (meth.sig.returnType = rt) && !meth.locks && decide (parseMethodDescriptor y.desc = some meth.sig)) = true) : (Jvm.Cond.code y bytes mx rt).before a s = true := by
  simp only [Bool.and_eq_true, beq_iff_eq, Bool.not_eq_true', decide_eq_true_eq] at h5
  obtain ⟨⟨⟨⟨⟨g1, g2⟩, g3⟩, g4⟩, g5⟩, g6⟩ := h5
  simp [Cond.before, Cond.holds, Cond.value, h1, h2, h3, h4, g1, g2, g3, g4, g5, g6]
def isCode : Jvm.Cond → Bool
  | .code _ _ _ _ => true
  | _ => false
theorem all_split {L : List Jvm.Cond} {P : Jvm.Cond → Bool} (h1 : L.all (fun c => isCode c || P c) = true) (h2 : ∀ c ∈ L.filter isCode, P c = true) : L.all P = true := by
  refine List.all_eq_true.mpr fun c hc => ?_
  have h := List.all_eq_true.mp h1 c hc
  rcases Bool.eq_false_or_eq_true (isCode c) with hi | hi
  · exact h2 c (List.mem_filter.mpr ⟨hc, hi⟩)
  · simpa [hi] using h
set_option maxRecDepth 65536 in
theorem w_c0 : (Jvm.Cond.code x code maxLocals ret).before args0 about1 = true := code_word (m := ⟨1, 1⟩) (meth := k1m1) (c := k1c1) (by decide +kernel) rfl rfl rfl (by decide +kernel)
set_option maxRecDepth 65536 in
theorem w_c1 : (Jvm.Cond.code ({ cls := "com/example/hollin/hollin/lang/IntegerVector", name := "fits", desc := "(J)Z" } : Jvm.MethodName) prog_22_method_8_code (2 : Nat) (Option.some Jvm.ClassFile.FieldType.boolean)).before args0 about1 = true := code_word (m := ⟨5, 0⟩) (meth := k5m0) (c := k5c0) (by decide +kernel) rfl rfl rfl (by decide +kernel)
def codes1 : List Jvm.Cond := [Jvm.Cond.code x code maxLocals ret, Jvm.Cond.code ({ cls := "com/example/hollin/hollin/lang/IntegerVector", name := "fits", desc := "(J)Z" } : Jvm.MethodName) prog_22_method_8_code (2 : Nat) (Option.some Jvm.ClassFile.FieldType.boolean)]
set_option maxRecDepth 65536 in
theorem codes_eq : words1.filter isCode = codes1 := rfl
theorem w_codes : ∀ c ∈ words1.filter isCode, c.before args0 about1 = true := by
  rw [codes_eq]
  intro c hc
  simp only [codes1, List.mem_cons, List.not_mem_nil, or_false] at hc
  rcases hc with rfl | rfl
  · exact w_c0
  · exact w_c1
set_option maxRecDepth 65536 in
theorem w_t1 : words1.all (fun c => isCode c || c.before args0 about1) = true := by decide +kernel
theorem w_tables : (allAtoms (Jvm.Cond.code x code maxLocals ret :: tables_1)).before args0 about1 = true := by
  rw [allAtoms_all]
  show words1.all (fun c => c.before args0 about1) = true
  refine all_split ?_ w_codes
  rw [w_t1]
set_option maxRecDepth 65536 in
theorem w_case : (Jvm.Cond.and given_1 narrow_1).before args0 about1 = true := by decide +kernel
theorem w_applies : (headSpec (Jvm.Cond.code x code maxLocals ret :: tables_1) room_1).applies x e0.platform about1 = true :=
  (Spec.applies_iff w_frames).mpr ⟨w_running, w_runnable, w_alone, w_named, w_hears, w_ripe, w_room, w_tables⟩
theorem atStart : AtStart classFile x code maxLocals ret World_1 tables_1 room_1 Calls_1 rest_1 Pre_1 launch0 p0 e0 about1 theMethod args0 below0 :=
  ⟨lists_1, trivial, launch0.admits_env _ _ _, launch0.least_env, fairChoices_fair.cas, fairChoices_fair.clock, w_frames, w_args, w_heap, w_applies, trivial, trivial, w_case⟩
end start1
theorem witness_1 : WitnessClaimed_1 := ⟨start1.p0, start1.e0, start1.about1, start1.theMethod, start1.args0, start1.below0, start1.atStart⟩
end Jvm.Pilot.@@N@@
