import JvmDerived
import JvmDerived.Pilot.@@N@@Statement
import JvmDerived.Pilot.@@N@@Code
set_option linter.unusedVariables false
set_option linter.unusedSimpArgs false
@@BLOCK:NumsL.lean.txt@@
namespace Jvm.RoadKit
open Sem ClassFile Op Lib Jvm.Stand Jvm.Free Jvm.LawKit
section New
variable {p : Program} {l : Launch} {e : Env} {R : Room} {s : State} {m : MethodId} {args : Array Value} {below : List Frame} {meth : Method} {c : Code} {T : State} {locs : List Loc} {cells slots : Nat}
theorem retI (X : Stand p l e R s m args below meth c T locs cells slots) (hx : p.tables.exec = Jvm.exec) {pc : Nat} {Ls : Array Slot} {z : Int32} {rest : List Value} (hret : meth.sig.returnType = some .int) (hd : decode c.code pc = .ok (.ireturn, 1)) {fs : List Frame}
    (hl : ∀ (f : JFrame) (acts : List Action), f.method = m → f.locked = none → f.entered = [] → (doReturn e (T.setTop f) acts (some (.int z))).1 = T.setFrames fs) : Steps p.tables e below (T.setTop (mkF m pc Ls (.int z :: rest))) (T.setFrames fs) := by
  have hm' : T.vm.method? m = some meth := X.method'
  have hn : narrow .int (.int z) = .int z := rfl
  show Steps p.tables e below (T.setTop { method := m, pc := pc, locals := Ls, stack := _ :: rest, locked := none }) _
  jvm_step X.here [X.here.top, hx, hd, hm', hret, hn]
  first | (intro acts; rw [hl _ acts rfl rfl rfl]) | rw [hl _ _ rfl rfl rfl]
  exact Steps.refl _
end New
end Jvm.RoadKit
namespace Jvm.Pilot.@@N@@
open Jvm Jvm.ClassFile Sem Op Lib Jvm.Free Jvm.Stand Jvm.LawKit Jvm.RoadKit Bundle Jvm.Pilot.@@N@@.Jvm.D

theorem d1_0 : decode prog_24_method_5_code 0 = .ok (.iload_n 0, 1) := by decide +kernel
theorem d1_1 : decode prog_24_method_5_code 1 = .ok (.iconst 1, 1) := by decide +kernel
theorem d1_2 : decode prog_24_method_5_code 2 = .ok (.if_icmp .ne 7, 3) := by decide +kernel
theorem d1_5 : decode prog_24_method_5_code 5 = .ok (.getstatic 31, 3) := by decide +kernel
theorem d1_8 : decode prog_24_method_5_code 8 = .ok (.areturn, 1) := by decide +kernel
theorem d1_9 : decode prog_24_method_5_code 9 = .ok (.iload_n 0, 1) := by decide +kernel
theorem d1_10 : decode prog_24_method_5_code 10 = .ok (.ifCond .ne 9, 3) := by decide +kernel
theorem d1_13 : decode prog_24_method_5_code 13 = .ok (.getstatic 35, 3) := by decide +kernel
theorem d1_16 : decode prog_24_method_5_code 16 = .ok (.goto 6, 3) := by decide +kernel
theorem d1_19 : decode prog_24_method_5_code 19 = .ok (.getstatic 38, 3) := by decide +kernel
theorem d1_22 : decode prog_24_method_5_code 22 = .ok (.areturn, 1) := by decide +kernel
theorem d2_0 : decode prog_24_method_7_code 0 = .ok (.aload_n 0, 1) := by decide +kernel
theorem d2_1 : decode prog_24_method_7_code 1 = .ok (.getfield 27, 3) := by decide +kernel
theorem d2_4 : decode prog_24_method_7_code 4 = .ok (.ireturn, 1) := by decide +kernel
theorem d3_0 : decode prog_24_method_6_code 0 = .ok (.aload_n 0, 1) := by decide +kernel
theorem d3_1 : decode prog_24_method_6_code 1 = .ok (.getfield 23, 3) := by decide +kernel
theorem d3_4 : decode prog_24_method_6_code 4 = .ok (.iload_n 1, 1) := by decide +kernel
theorem d3_5 : decode prog_24_method_6_code 5 = .ok (.iaload, 1) := by decide +kernel
theorem d3_6 : decode prog_24_method_6_code 6 = .ok (.ireturn, 1) := by decide +kernel
theorem d4_0 : decode prog_24_method_8_code 0 = .ok (.aload_n 0, 1) := by decide +kernel
theorem d4_1 : decode prog_24_method_8_code 1 = .ok (.getfield 23, 3) := by decide +kernel
theorem d4_4 : decode prog_24_method_8_code 4 = .ok (.iload_n 1, 1) := by decide +kernel
theorem d4_5 : decode prog_24_method_8_code 5 = .ok (.iaload, 1) := by decide +kernel
theorem d4_6 : decode prog_24_method_8_code 6 = .ok (.ldc 41, 2) := by decide +kernel
theorem d4_8 : decode prog_24_method_8_code 8 = .ok (.if_icmp .ne 7, 3) := by decide +kernel
theorem d4_11 : decode prog_24_method_8_code 11 = .ok (.iconst 1, 1) := by decide +kernel
theorem d4_12 : decode prog_24_method_8_code 12 = .ok (.goto 4, 3) := by decide +kernel
theorem d4_15 : decode prog_24_method_8_code 15 = .ok (.iconst 0, 1) := by decide +kernel
theorem d4_16 : decode prog_24_method_8_code 16 = .ok (.ireturn, 1) := by decide +kernel
theorem d5_0 : decode prog_24_method_15_code 0 = .ok (.getstatic 70, 3) := by decide +kernel
theorem d5_3 : decode prog_24_method_15_code 3 = .ok (.areturn, 1) := by decide +kernel
theorem pn_0 : plainName "com/example/hollin/hollin/lang/LogicalVectorOfValuePinLaw" = true := by first | (simp [plainName, overriddenIn]; done) | decide +kernel
theorem pn_1 : plainName "com/example/hollin/hollin/lang/LogicalVector" = true := by first | (simp [plainName, overriddenIn]; done) | decide +kernel
theorem pd_of : parseMethodDescriptor "(I)Lcom/example/hollin/hollin/lang/LogicalVector;" = some ⟨[.int], some (.object "com/example/hollin/hollin/lang/LogicalVector")⟩ := by decide +kernel
theorem pd_len : parseMethodDescriptor "()I" = some ⟨[], some .int⟩ := by decide +kernel
theorem pd_get : parseMethodDescriptor "(I)I" = some ⟨[.int], some .int⟩ := by decide +kernel
theorem pd_na : parseMethodDescriptor "(I)Z" = some ⟨[.int], some .boolean⟩ := by decide +kernel
theorem pd_ty : parseMethodDescriptor "()Lcom/example/hollin/hollin/lang/RType;" = some ⟨[], some (.object "com/example/hollin/hollin/lang/RType")⟩ := by decide +kernel
theorem ef_0 (m : MethodId) (x0 : Int32) : entryFrame m #[(.int x0)] 5 = mkF m 0 #[.val (.int x0), .unset, .unset, .unset, .unset] [] := by first | (simp [entryFrame, mkF, argsToLocals, Value.category]; done) | rfl
theorem ef_1 (m : MethodId) (x0 : Int32) : entryFrame m #[(.int x0)] 1 = mkF m 0 #[.val (.int x0)] [] := by first | (simp [entryFrame, mkF, argsToLocals, Value.category]; done) | rfl
theorem ef_2 (m : MethodId) (x0 : Addr) : entryFrame m #[(.ref x0)] 1 = mkF m 0 #[.val (.ref x0)] [] := by first | (simp [entryFrame, mkF, argsToLocals, Value.category]; done) | rfl
theorem ef_3 (m : MethodId) (x0 : Addr) (x1 : Int32) : entryFrame m #[(.ref x0), (.int x1)] 2 = mkF m 0 #[.val (.ref x0), .val (.int x1)] [] := by first | (simp [entryFrame, mkF, argsToLocals, Value.category]; done) | rfl
/-! plain -/
def own_sel (v : Int32) (aT aF aN : Addr) : Addr := if v = 1 then aT else if v = 0 then aF else aN
def own_na (v : Int32) : Int32 := if v = (-2147483648 : Int32) then 1 else 0
theorem own_nar_na (v : Int32) : nar .boolean (own_na v) = own_na v := by unfold own_na; split <;> rfl
theorem own_k3 (x : Int32) : ((x &&& (2147483647 : Int32)) - ((x &&& (2147483647 : Int32)) / (3 : Int32)) * (3 : Int32)) = (0 : Int32) ∨ ((x &&& (2147483647 : Int32)) - ((x &&& (2147483647 : Int32)) / (3 : Int32)) * (3 : Int32)) = (1 : Int32) ∨ ((x &&& (2147483647 : Int32)) - ((x &&& (2147483647 : Int32)) / (3 : Int32)) * (3 : Int32)) = (2 : Int32) := by
  have e := Jvm.Kit.i32_mask x (2147483647 : Int32) (k := 31) (by decide) (by decide)
  have h0 : 0 ≤ (x &&& (2147483647 : Int32)).toInt := by omega
  rw [irem_eq_mod]
  have e2 := Jvm.Kit.i32_rem_nonneg (x := x &&& (2147483647 : Int32)) (y := (3 : Int32)) h0
  have e3 : (3 : Int32).toInt = 3 := by decide
  have z0 : (0 : Int32).toInt = 0 := by decide
  have z1 : (1 : Int32).toInt = 1 := by decide
  have z2 : (2 : Int32).toInt = 2 := by decide
  rw [e3] at e2
  simp only [← Int32.toInt_inj, z0, z1, z2, e2]
  omega
def own_LV (Z : State) (h : Heap) (a : Addr) (v : Int32) : Prop := Exa Z h a "com/example/hollin/hollin/lang/LogicalVector" ∧ Fld Z h a "com/example/hollin/hollin/lang/LogicalVector" "length" "I" (.int 1) ∧ ∃ (b : Addr) (cl : Cell), Fld Z h a "com/example/hollin/hollin/lang/LogicalVector" "values" "[I" (.ref b) ∧ Arr Z h b cl .int ∧ ¬ ((0 : Int32) < 0 ∨ cl.slots.size ≤ (0 : Int32).toNatClampNeg) ∧ cl.slots[(0 : Int32).toNatClampNeg]? = some (.int v)
def own_Ld (p : Program) (e : Env) (below : List Frame) (T : State) (g : JFrame) (T' : State) (g' : JFrame) : Prop := ∀ target, Steps p.tables e below (T'.setTop g') target → Steps p.tables e below (T.setTop g) target

def QV (w : Value) (h0 : Heap) (n0 : Nat) (v : Option Value) (h : Heap) (L : List Loc) : Prop := v = some w ∧ Fr n0 L ∧ h = h0
set_option maxRecDepth 65536 in
set_option maxHeartbeats 40000000 in
theorem rm1 (l : Launch) (Z : State) (a0 : Array Value) (hw : ∀ d ∈ tables_1, d.before a0 Z = true) (ws : List Jvm.Cond) (p1 : Int32) (aT aF aN : Addr) (h0 : Heap) (n0 : Nat) (Z0 : n0 ≤ h0.size) (ST : Sta Z h0 "com/example/hollin/hollin/lang/LogicalVector" "TRUE" "Lcom/example/hollin/hollin/lang/LogicalVector;" (.ref aT)) (SF : Sta Z h0 "com/example/hollin/hollin/lang/LogicalVector" "FALSE" "Lcom/example/hollin/hollin/lang/LogicalVector;" (.ref aF)) (SN : Sta Z h0 "com/example/hollin/hollin/lang/LogicalVector" "NA" "Lcom/example/hollin/hollin/lang/LogicalVector;" (.ref aN)) :
    MetFree l (⟨"com/example/hollin/hollin/lang/LogicalVector", "ofValue", "(I)Lcom/example/hollin/hollin/lang/LogicalVector;"⟩ : MethodName) (head1 (Jvm.Cond.code (⟨"com/example/hollin/hollin/lang/LogicalVector", "ofValue", "(I)Lcom/example/hollin/hollin/lang/LogicalVector;"⟩ : MethodName) prog_24_method_5_code 1 (some (.object "com/example/hollin/hollin/lang/LogicalVector")) :: ws) ({ frames := 0, cells := 0, slots := 0, locals := 0 } : Room)) (fun a U => a = #[(.int p1)] ∧ Z.Warmed39 U.vm ∧ U.heap = h0) (fun _ _ _ _ _ => True) (fun _ U o U' => ∃ v L, o = .returned v ∧ QV (.ref (own_sel p1 aT aF aN)) h0 n0 v U'.heap L ∧ FrameEnd U o U' L ({ frames := 0, cells := 0, slots := 0, locals := 0 } : Room).cells ({ frames := 0, cells := 0, slots := 0, locals := 0 } : Room).slots) := by
  refine MetFree.of_bodySF (plainFor_of_name pn_1) hisR ?_
  intro p e s m args below meth c s₁ Bd hml0 hP hK
  obtain ⟨rfl, hZ, hh⟩ := hP
  have hx := Bd.exec
  have hby := Bd.bytes
  have hml : c.maxLocals = 1 := hml0
  have hown : s.vm.findClass "com/example/hollin/hollin/lang/LogicalVector" = some m.cls := findClass_of_methodNamed Bd.named
  have hnm := (name_of_methodNamed Bd.named Bd.method).1
  have X0 : Stand p l e ({ frames := 0, cells := 0, slots := 0, locals := 0 } : Room) s m #[(.int p1)] below meth c s₁ [] 0 0 := Stand.of_body Bd
  have e0 : s₁.heap = h0 := by rw [← hh, Bd.state]; rfl
  have N0 := Fr.nil n0
  have pre0 : ∀ t, Steps p.tables e below (s₁.setTop (mkF m 0 #[.val (.int p1)] [])) t → Steps p.tables e below (s₁.setTop (entryFrame m #[(.int p1)] 1)) t := fun t kt0 => castTop (ef_1 m p1) kt0

  by_cases h1 : p1 = (1 : Int32)
  · skip
    have es : own_sel p1 aT aF aN = aT := by simp [own_sel, h1]
    rw [es]
    obtain ⟨T1, X1, e1, st1⟩ := getS (host := "") X0 hx hZ hown (hw _ (List.mem_of_getElem? (i := 7) rfl)) Via.refl e0 ST (g := (mkF m 5 #[.val (.int p1)] [])) rfl (hb hby d1_5)
    obtain ⟨fs, hr, hrun, hended, hW, hsame⟩ := X1.leave (v := some (.ref aT)) (fun h => by rw [Bd.returns] at h; cases h)
    refine ⟨_, _, pre0 _ ?_, hrun, hended, _, _, rfl, ?_, ⟨_, rfl⟩, hW, hsame.mono (by decide) (by decide)⟩
    · skip
      show Steps p.tables e below (s₁.setTop (mkF m 0 #[.val (.int p1)] [])) _
      refine XS.iloadN X0.here hx rfl (hb hby d1_0) rfl ?_
      show Steps p.tables e below (s₁.setTop (mkF m 1 #[.val (.int p1)] [(.int p1)])) _
      refine XS.iconst X0.here hx rfl (hb hby d1_1) ?_
      show Steps p.tables e below (s₁.setTop (mkF m 2 #[.val (.int p1)] [(.int (1 : Int32)), (.int p1)])) _
      refine XS.icmpNo X0.here hx rfl (hb hby d1_2) rfl (teq h1).2 ?_
      show Steps p.tables e below (s₁.setTop (mkF m 5 #[.val (.int p1)] [])) _
      refine st1 _ ?_
      show Steps p.tables e below (T1.setTop (mkF m 8 #[.val (.int p1)] [(.ref aT)])) _
      jvm_step X1.here [X1.here.top, hx, (hb hby d1_8), X1.method', Bd.returns, Value.isRef, FieldType.isReference]
      first | (intro acts; rw [hr _ acts rfl rfl rfl]) | rw [hr _ _ rfl rfl rfl]
      exact Steps.refl _
    · show QV _ h0 n0 _ T1.heap _
      rw [e1]
      exact ⟨rfl, N0, rfl⟩
  · by_cases hz : p1 = (0 : Int32)
    · skip
      have es : own_sel p1 aT aF aN = aF := by simp [own_sel, hz]
      rw [es]
      obtain ⟨T1, X1, e1, st1⟩ := getS (host := "") X0 hx hZ hown (hw _ (List.mem_of_getElem? (i := 43) rfl)) Via.refl e0 SF (g := (mkF m 13 #[.val (.int p1)] [])) rfl (hb hby d1_13)
      obtain ⟨fs, hr, hrun, hended, hW, hsame⟩ := X1.leave (v := some (.ref aF)) (fun h => by rw [Bd.returns] at h; cases h)
      refine ⟨_, _, pre0 _ ?_, hrun, hended, _, _, rfl, ?_, ⟨_, rfl⟩, hW, hsame.mono (by decide) (by decide)⟩
      · skip
        show Steps p.tables e below (s₁.setTop (mkF m 0 #[.val (.int p1)] [])) _
        refine XS.iloadN X0.here hx rfl (hb hby d1_0) rfl ?_
        show Steps p.tables e below (s₁.setTop (mkF m 1 #[.val (.int p1)] [(.int p1)])) _
        refine XS.iconst X0.here hx rfl (hb hby d1_1) ?_
        show Steps p.tables e below (s₁.setTop (mkF m 2 #[.val (.int p1)] [(.int (1 : Int32)), (.int p1)])) _
        refine XS.icmpYes X0.here hx rfl (pc0 := 2) (pc' := 9) rfl (hb hby d1_2) rfl (feq h1).2 (by decide) (by decide) ?_
        show Steps p.tables e below (s₁.setTop (mkF m 9 #[.val (.int p1)] [])) _
        refine XS.iloadN X0.here hx rfl (hb hby d1_9) rfl ?_
        show Steps p.tables e below (s₁.setTop (mkF m 10 #[.val (.int p1)] [(.int p1)])) _
        refine XS.ifNo X0.here hx rfl (hb hby d1_10) rfl ((if0 _ _).trans (teq hz).2) ?_
        show Steps p.tables e below (s₁.setTop (mkF m 13 #[.val (.int p1)] [])) _
        refine st1 _ ?_
        show Steps p.tables e below (T1.setTop (mkF m 16 #[.val (.int p1)] [(.ref aF)])) _
        refine XS.goto X1.here hx rfl (pc0 := 16) (pc' := 22) rfl (hb hby d1_16) (by decide) (by decide) ?_
        show Steps p.tables e below (T1.setTop (mkF m 22 #[.val (.int p1)] [(.ref aF)])) _
        jvm_step X1.here [X1.here.top, hx, (hb hby d1_22), X1.method', Bd.returns, Value.isRef, FieldType.isReference]
        first | (intro acts; rw [hr _ acts rfl rfl rfl]) | rw [hr _ _ rfl rfl rfl]
        exact Steps.refl _
      · show QV _ h0 n0 _ T1.heap _
        rw [e1]
        exact ⟨rfl, N0, rfl⟩
    · skip
      have es : own_sel p1 aT aF aN = aN := by simp [own_sel, h1, hz]
      rw [es]
      obtain ⟨T1, X1, e1, st1⟩ := getS (host := "") X0 hx hZ hown (hw _ (List.mem_of_getElem? (i := 40) rfl)) Via.refl e0 SN (g := (mkF m 19 #[.val (.int p1)] [])) rfl (hb hby d1_19)
      obtain ⟨fs, hr, hrun, hended, hW, hsame⟩ := X1.leave (v := some (.ref aN)) (fun h => by rw [Bd.returns] at h; cases h)
      refine ⟨_, _, pre0 _ ?_, hrun, hended, _, _, rfl, ?_, ⟨_, rfl⟩, hW, hsame.mono (by decide) (by decide)⟩
      · skip
        show Steps p.tables e below (s₁.setTop (mkF m 0 #[.val (.int p1)] [])) _
        refine XS.iloadN X0.here hx rfl (hb hby d1_0) rfl ?_
        show Steps p.tables e below (s₁.setTop (mkF m 1 #[.val (.int p1)] [(.int p1)])) _
        refine XS.iconst X0.here hx rfl (hb hby d1_1) ?_
        show Steps p.tables e below (s₁.setTop (mkF m 2 #[.val (.int p1)] [(.int (1 : Int32)), (.int p1)])) _
        refine XS.icmpYes X0.here hx rfl (pc0 := 2) (pc' := 9) rfl (hb hby d1_2) rfl (feq h1).2 (by decide) (by decide) ?_
        show Steps p.tables e below (s₁.setTop (mkF m 9 #[.val (.int p1)] [])) _
        refine XS.iloadN X0.here hx rfl (hb hby d1_9) rfl ?_
        show Steps p.tables e below (s₁.setTop (mkF m 10 #[.val (.int p1)] [(.int p1)])) _
        refine XS.ifYes X0.here hx rfl (pc0 := 10) (pc' := 19) rfl (hb hby d1_10) rfl ((if0 _ _).trans (feq hz).2) (by decide) (by decide) ?_
        show Steps p.tables e below (s₁.setTop (mkF m 19 #[.val (.int p1)] [])) _
        refine st1 _ ?_
        show Steps p.tables e below (T1.setTop (mkF m 22 #[.val (.int p1)] [(.ref aN)])) _
        jvm_step X1.here [X1.here.top, hx, (hb hby d1_22), X1.method', Bd.returns, Value.isRef, FieldType.isReference]
        first | (intro acts; rw [hr _ acts rfl rfl rfl]) | rw [hr _ _ rfl rfl rfl]
        exact Steps.refl _
      · show QV _ h0 n0 _ T1.heap _
        rw [e1]
        exact ⟨rfl, N0, rfl⟩
set_option maxRecDepth 65536 in
set_option maxHeartbeats 40000000 in
theorem rm2 (l : Launch) (Z : State) (a0 : Array Value) (hw : ∀ d ∈ tables_1, d.before a0 Z = true) (ws : List Jvm.Cond) (a1 : Addr) (h0 : Heap) (n0 : Nat) (Z0 : n0 ≤ h0.size) (F : Fld Z h0 a1 "com/example/hollin/hollin/lang/LogicalVector" "length" "I" (.int 1)) :
    MetFree l (⟨"com/example/hollin/hollin/lang/LogicalVector", "length", "()I"⟩ : MethodName) (head1 (Jvm.Cond.code (⟨"com/example/hollin/hollin/lang/LogicalVector", "length", "()I"⟩ : MethodName) prog_24_method_7_code 1 (some .int) :: ws) ({ frames := 0, cells := 0, slots := 0, locals := 0 } : Room)) (fun a U => a = #[(.ref a1)] ∧ Z.Warmed39 U.vm ∧ U.heap = h0) (fun _ _ _ _ _ => True) (fun _ U o U' => ∃ v L, o = .returned v ∧ QV (.int 1) h0 n0 v U'.heap L ∧ FrameEnd U o U' L ({ frames := 0, cells := 0, slots := 0, locals := 0 } : Room).cells ({ frames := 0, cells := 0, slots := 0, locals := 0 } : Room).slots) := by
  refine MetFree.of_bodySF (plainFor_of_name pn_1) hisR ?_
  intro p e s m args below meth c s₁ Bd hml0 hP hK
  obtain ⟨rfl, hZ, hh⟩ := hP
  have hx := Bd.exec
  have hby := Bd.bytes
  have hml : c.maxLocals = 1 := hml0
  have hown : s.vm.findClass "com/example/hollin/hollin/lang/LogicalVector" = some m.cls := findClass_of_methodNamed Bd.named
  have hnm := (name_of_methodNamed Bd.named Bd.method).1
  have X0 : Stand p l e ({ frames := 0, cells := 0, slots := 0, locals := 0 } : Room) s m #[(.ref a1)] below meth c s₁ [] 0 0 := Stand.of_body Bd
  have e0 : s₁.heap = h0 := by rw [← hh, Bd.state]; rfl
  have N0 := Fr.nil n0
  have pre0 : ∀ t, Steps p.tables e below (s₁.setTop (mkF m 0 #[.val (.ref a1)] [])) t → Steps p.tables e below (s₁.setTop (entryFrame m #[(.ref a1)] 1)) t := fun t kt0 => castTop (ef_2 m a1) kt0

  obtain ⟨T3, X3, e3, st3⟩ := getF X0 hx hZ hown (host := "") (Or.inl (hw _ (List.mem_of_getElem? (i := 13) rfl))) Via.refl e0 F (g := (mkF m 1 #[.val (.ref a1)] [(.ref a1)])) rfl rfl (hb hby d2_1)
  obtain ⟨fs, hr, hrun, hended, hW, hsame⟩ := X3.leave (v := some (.int 1)) (fun h => by rw [Bd.returns] at h; cases h)
  refine ⟨_, _, pre0 _ ?_, hrun, hended, _, _, rfl, ?_, ⟨_, rfl⟩, hW, hsame.mono (by decide) (by decide)⟩
  · show Steps p.tables e below (s₁.setTop (mkF m 0 #[.val (.ref a1)] [])) _
    refine XS.aloadN X0.here hx rfl (hb hby d2_0) rfl rfl ?_
    show Steps p.tables e below (s₁.setTop (mkF m 1 #[.val (.ref a1)] [(.ref a1)])) _
    refine st3 _ ?_
    show Steps p.tables e below (T3.setTop (mkF m 4 #[.val (.ref a1)] [(.int 1)])) _
    exact retI X3 hx Bd.returns (hb hby d2_4) hr
  · show QV _ h0 n0 _ T3.heap _
    rw [e3]
    exact ⟨rfl, N0, rfl⟩
set_option maxRecDepth 65536 in
set_option maxHeartbeats 40000000 in
theorem rm3 (l : Launch) (Z : State) (a0 : Array Value) (hw : ∀ d ∈ tables_1, d.before a0 Z = true) (ws : List Jvm.Cond) (a1 b : Addr) (cl : Cell) (vv : Int32) (h0 : Heap) (n0 : Nat) (Z0 : n0 ≤ h0.size) (F : Fld Z h0 a1 "com/example/hollin/hollin/lang/LogicalVector" "values" "[I" (.ref b)) (Ar : Arr Z h0 b cl .int) (hin : ¬ ((0 : Int32) < 0 ∨ cl.slots.size ≤ (0 : Int32).toNatClampNeg)) (hat : cl.slots[(0 : Int32).toNatClampNeg]? = some (.int vv)) :
    MetFree l (⟨"com/example/hollin/hollin/lang/LogicalVector", "get", "(I)I"⟩ : MethodName) (head1 (Jvm.Cond.code (⟨"com/example/hollin/hollin/lang/LogicalVector", "get", "(I)I"⟩ : MethodName) prog_24_method_6_code 2 (some .int) :: ws) ({ frames := 0, cells := 0, slots := 0, locals := 0 } : Room)) (fun a U => a = #[(.ref a1), (.int (0 : Int32))] ∧ Z.Warmed39 U.vm ∧ U.heap = h0) (fun _ _ _ _ _ => True) (fun _ U o U' => ∃ v L, o = .returned v ∧ QV (.int vv) h0 n0 v U'.heap L ∧ FrameEnd U o U' L ({ frames := 0, cells := 0, slots := 0, locals := 0 } : Room).cells ({ frames := 0, cells := 0, slots := 0, locals := 0 } : Room).slots) := by
  refine MetFree.of_bodySF (plainFor_of_name pn_1) hisR ?_
  intro p e s m args below meth c s₁ Bd hml0 hP hK
  obtain ⟨rfl, hZ, hh⟩ := hP
  have hx := Bd.exec
  have hby := Bd.bytes
  have hml : c.maxLocals = 2 := hml0
  have hown : s.vm.findClass "com/example/hollin/hollin/lang/LogicalVector" = some m.cls := findClass_of_methodNamed Bd.named
  have hnm := (name_of_methodNamed Bd.named Bd.method).1
  have X0 : Stand p l e ({ frames := 0, cells := 0, slots := 0, locals := 0 } : Room) s m #[(.ref a1), (.int (0 : Int32))] below meth c s₁ [] 0 0 := Stand.of_body Bd
  have e0 : s₁.heap = h0 := by rw [← hh, Bd.state]; rfl
  have N0 := Fr.nil n0
  have pre0 : ∀ t, Steps p.tables e below (s₁.setTop (mkF m 0 #[.val (.ref a1), .val (.int (0 : Int32))] [])) t → Steps p.tables e below (s₁.setTop (entryFrame m #[(.ref a1), (.int (0 : Int32))] 2)) t := fun t kt0 => castTop (ef_3 m a1 (0 : Int32)) kt0

  obtain ⟨T3, X3, e3, st3⟩ := getF X0 hx hZ hown (host := "") (Or.inl (hw _ (List.mem_of_getElem? (i := 20) rfl))) Via.refl e0 F (g := (mkF m 1 #[.val (.ref a1), .val (.int (0 : Int32))] [(.ref a1)])) rfl rfl (hb hby d3_1)
  have pre1 : ∀ t, Steps p.tables e below (T3.setTop (mkF m 6 #[.val (.ref a1), .val (.int (0 : Int32))] [(.int vv)])) t → Steps p.tables e below (s₁.setTop (mkF m 0 #[.val (.ref a1), .val (.int (0 : Int32))] [])) t := by
    intro t kt
    show Steps p.tables e below (s₁.setTop (mkF m 0 #[.val (.ref a1), .val (.int (0 : Int32))] [])) _
    refine XS.aloadN X0.here hx rfl (hb hby d3_0) rfl rfl ?_
    show Steps p.tables e below (s₁.setTop (mkF m 1 #[.val (.ref a1), .val (.int (0 : Int32))] [(.ref a1)])) _
    refine st3 _ ?_
    show Steps p.tables e below (T3.setTop (mkF m 4 #[.val (.ref a1), .val (.int (0 : Int32))] [(.ref b)])) _
    refine XS.iloadN X3.here hx rfl (hb hby d3_4) rfl ?_
    show Steps p.tables e below (T3.setTop (mkF m 5 #[.val (.ref a1), .val (.int (0 : Int32))] [(.int (0 : Int32)), (.ref b)])) _
    refine X3.iaload hx (j := (0 : Int32)) (v := (.int vv)) (by rw [e3]; exact Ar.1) (State.isArrayOf_alike hZ.alike Ar.2.1) Ar.2.2 hin hat (g := (mkF m 5 #[.val (.ref a1), .val (.int (0 : Int32))] [(.int (0 : Int32)), (.ref b)])) rfl rfl (hb hby d3_5) _ ?_
    exact kt
  obtain ⟨fs, hr, hrun, hended, hW, hsame⟩ := X3.leave (v := some (.int vv)) (fun h => by rw [Bd.returns] at h; cases h)
  refine ⟨_, _, pre0 _ (pre1 _ (retI X3 hx Bd.returns (hb hby d3_6) hr)), hrun, hended, _, _, rfl, ?_, ⟨_, rfl⟩, hW, hsame.mono (by decide) (by decide)⟩
  show QV _ h0 n0 _ T3.heap _
  rw [e3]
  exact ⟨rfl, N0, rfl⟩
set_option maxRecDepth 65536 in
set_option maxHeartbeats 40000000 in
theorem rm4 (l : Launch) (Z : State) (a0 : Array Value) (hw : ∀ d ∈ tables_1, d.before a0 Z = true) (ws : List Jvm.Cond) (a1 b : Addr) (cl : Cell) (vv : Int32) (h0 : Heap) (n0 : Nat) (Z0 : n0 ≤ h0.size) (F : Fld Z h0 a1 "com/example/hollin/hollin/lang/LogicalVector" "values" "[I" (.ref b)) (Ar : Arr Z h0 b cl .int) (hin : ¬ ((0 : Int32) < 0 ∨ cl.slots.size ≤ (0 : Int32).toNatClampNeg)) (hat : cl.slots[(0 : Int32).toNatClampNeg]? = some (.int vv)) :
    MetFree l (⟨"com/example/hollin/hollin/lang/LogicalVector", "isNA", "(I)Z"⟩ : MethodName) (head1 (Jvm.Cond.code (⟨"com/example/hollin/hollin/lang/LogicalVector", "isNA", "(I)Z"⟩ : MethodName) prog_24_method_8_code 2 (some .boolean) :: ws) ({ frames := 0, cells := 0, slots := 0, locals := 0 } : Room)) (fun a U => a = #[(.ref a1), (.int (0 : Int32))] ∧ Z.Warmed39 U.vm ∧ U.heap = h0) (fun _ _ _ _ _ => True) (fun _ U o U' => ∃ v L, o = .returned v ∧ QV (.int (own_na vv)) h0 n0 v U'.heap L ∧ FrameEnd U o U' L ({ frames := 0, cells := 0, slots := 0, locals := 0 } : Room).cells ({ frames := 0, cells := 0, slots := 0, locals := 0 } : Room).slots) := by
  refine MetFree.of_bodySF (plainFor_of_name pn_1) hisR ?_
  intro p e s m args below meth c s₁ Bd hml0 hP hK
  obtain ⟨rfl, hZ, hh⟩ := hP
  have hx := Bd.exec
  have hby := Bd.bytes
  have hml : c.maxLocals = 2 := hml0
  have hown : s.vm.findClass "com/example/hollin/hollin/lang/LogicalVector" = some m.cls := findClass_of_methodNamed Bd.named
  have hnm := (name_of_methodNamed Bd.named Bd.method).1
  have X0 : Stand p l e ({ frames := 0, cells := 0, slots := 0, locals := 0 } : Room) s m #[(.ref a1), (.int (0 : Int32))] below meth c s₁ [] 0 0 := Stand.of_body Bd
  have e0 : s₁.heap = h0 := by rw [← hh, Bd.state]; rfl
  have N0 := Fr.nil n0
  have pre0 : ∀ t, Steps p.tables e below (s₁.setTop (mkF m 0 #[.val (.ref a1), .val (.int (0 : Int32))] [])) t → Steps p.tables e below (s₁.setTop (entryFrame m #[(.ref a1), (.int (0 : Int32))] 2)) t := fun t kt0 => castTop (ef_3 m a1 (0 : Int32)) kt0

  obtain ⟨T3, X3, e3, st3⟩ := getF X0 hx hZ hown (host := "") (Or.inl (hw _ (List.mem_of_getElem? (i := 20) rfl))) Via.refl e0 F (g := (mkF m 1 #[.val (.ref a1), .val (.int (0 : Int32))] [(.ref a1)])) rfl rfl (hb hby d4_1)
  have pre1 : ∀ t, Steps p.tables e below (T3.setTop (mkF m 6 #[.val (.ref a1), .val (.int (0 : Int32))] [(.int vv)])) t → Steps p.tables e below (s₁.setTop (mkF m 0 #[.val (.ref a1), .val (.int (0 : Int32))] [])) t := by
    intro t kt
    show Steps p.tables e below (s₁.setTop (mkF m 0 #[.val (.ref a1), .val (.int (0 : Int32))] [])) _
    refine XS.aloadN X0.here hx rfl (hb hby d4_0) rfl rfl ?_
    show Steps p.tables e below (s₁.setTop (mkF m 1 #[.val (.ref a1), .val (.int (0 : Int32))] [(.ref a1)])) _
    refine st3 _ ?_
    show Steps p.tables e below (T3.setTop (mkF m 4 #[.val (.ref a1), .val (.int (0 : Int32))] [(.ref b)])) _
    refine XS.iloadN X3.here hx rfl (hb hby d4_4) rfl ?_
    show Steps p.tables e below (T3.setTop (mkF m 5 #[.val (.ref a1), .val (.int (0 : Int32))] [(.int (0 : Int32)), (.ref b)])) _
    refine X3.iaload hx (j := (0 : Int32)) (v := (.int vv)) (by rw [e3]; exact Ar.1) (State.isArrayOf_alike hZ.alike Ar.2.1) Ar.2.2 hin hat (g := (mkF m 5 #[.val (.ref a1), .val (.int (0 : Int32))] [(.int (0 : Int32)), (.ref b)])) rfl rfl (hb hby d4_5) _ ?_
    exact kt
  suffices hs : ∀ t, Steps p.tables e below (T3.setTop (mkF m 16 #[.val (.ref a1), .val (.int (0 : Int32))] [(.int (own_na vv))])) t → Steps p.tables e below (T3.setTop (mkF m 6 #[.val (.ref a1), .val (.int (0 : Int32))] [(.int vv)])) t by
    obtain ⟨fs, hr, hrun, hended, hW, hsame⟩ := X3.leave (v := some (.int (nar .boolean (own_na vv)))) (fun h => by rw [Bd.returns] at h; cases h)
    refine ⟨_, _, pre0 _ (pre1 _ (hs _ (retN X3 hx (t := .boolean) Bd.returns (by simp) (hb hby d4_16) hr))), hrun, hended, _, _, rfl, ?_, ⟨_, rfl⟩, hW, hsame.mono (by decide) (by decide)⟩
    show QV _ h0 n0 _ T3.heap _
    rw [e3]
    exact ⟨by rw [own_nar_na], N0, rfl⟩
  intro t kt
  by_cases hc : vv = (-2147483648 : Int32)
  · have ew : own_na vv = 1 := by simp [own_na, hc]
    rw [ew] at kt
    show Steps p.tables e below (T3.setTop (mkF m 6 #[.val (.ref a1), .val (.int (0 : Int32))] [(.int vv)])) _
    refine X3.ldcI hx hown (mvT hZ (hw _ (List.mem_of_getElem? (i := 27) rfl))) rfl (hb hby d4_6) ?_
    show Steps p.tables e below (T3.setTop (mkF m 8 #[.val (.ref a1), .val (.int (0 : Int32))] [(.int (-2147483648 : Int32)), (.int vv)])) _
    refine XS.icmpNo X3.here hx rfl (hb hby d4_8) rfl (teq hc).2 ?_
    show Steps p.tables e below (T3.setTop (mkF m 11 #[.val (.ref a1), .val (.int (0 : Int32))] [])) _
    refine XS.iconst X3.here hx rfl (hb hby d4_11) ?_
    show Steps p.tables e below (T3.setTop (mkF m 12 #[.val (.ref a1), .val (.int (0 : Int32))] [(.int (1 : Int32))])) _
    refine XS.goto X3.here hx rfl (pc0 := 12) (pc' := 16) rfl (hb hby d4_12) (by decide) (by decide) ?_
    exact kt
  · have ew : own_na vv = 0 := by simp [own_na, hc]
    rw [ew] at kt
    show Steps p.tables e below (T3.setTop (mkF m 6 #[.val (.ref a1), .val (.int (0 : Int32))] [(.int vv)])) _
    refine X3.ldcI hx hown (mvT hZ (hw _ (List.mem_of_getElem? (i := 27) rfl))) rfl (hb hby d4_6) ?_
    show Steps p.tables e below (T3.setTop (mkF m 8 #[.val (.ref a1), .val (.int (0 : Int32))] [(.int (-2147483648 : Int32)), (.int vv)])) _
    refine XS.icmpYes X3.here hx rfl (pc0 := 8) (pc' := 15) rfl (hb hby d4_8) rfl (feq hc).2 (by decide) (by decide) ?_
    show Steps p.tables e below (T3.setTop (mkF m 15 #[.val (.ref a1), .val (.int (0 : Int32))] [])) _
    refine XS.iconst X3.here hx rfl (hb hby d4_15) ?_
    exact kt
set_option maxRecDepth 65536 in
set_option maxHeartbeats 40000000 in
theorem rm5 (l : Launch) (Z : State) (a0 : Array Value) (hw : ∀ d ∈ tables_1, d.before a0 Z = true) (ws : List Jvm.Cond) (a1 aR : Addr) (h0 : Heap) (n0 : Nat) (Z0 : n0 ≤ h0.size) (SR : Sta Z h0 "com/example/hollin/hollin/lang/RType" "LOGICAL" "Lcom/example/hollin/hollin/lang/RType;" (.ref aR)) :
    MetFree l (⟨"com/example/hollin/hollin/lang/LogicalVector", "type", "()Lcom/example/hollin/hollin/lang/RType;"⟩ : MethodName) (head1 (Jvm.Cond.code (⟨"com/example/hollin/hollin/lang/LogicalVector", "type", "()Lcom/example/hollin/hollin/lang/RType;"⟩ : MethodName) prog_24_method_15_code 1 (some (.object "com/example/hollin/hollin/lang/RType")) :: ws) ({ frames := 0, cells := 0, slots := 0, locals := 0 } : Room)) (fun a U => a = #[(.ref a1)] ∧ Z.Warmed39 U.vm ∧ U.heap = h0) (fun _ _ _ _ _ => True) (fun _ U o U' => ∃ v L, o = .returned v ∧ QV (.ref aR) h0 n0 v U'.heap L ∧ FrameEnd U o U' L ({ frames := 0, cells := 0, slots := 0, locals := 0 } : Room).cells ({ frames := 0, cells := 0, slots := 0, locals := 0 } : Room).slots) := by
  refine MetFree.of_bodySF (plainFor_of_name pn_1) hisR ?_
  intro p e s m args below meth c s₁ Bd hml0 hP hK
  obtain ⟨rfl, hZ, hh⟩ := hP
  have hx := Bd.exec
  have hby := Bd.bytes
  have hml : c.maxLocals = 1 := hml0
  have hown : s.vm.findClass "com/example/hollin/hollin/lang/LogicalVector" = some m.cls := findClass_of_methodNamed Bd.named
  have hnm := (name_of_methodNamed Bd.named Bd.method).1
  have X0 : Stand p l e ({ frames := 0, cells := 0, slots := 0, locals := 0 } : Room) s m #[(.ref a1)] below meth c s₁ [] 0 0 := Stand.of_body Bd
  have e0 : s₁.heap = h0 := by rw [← hh, Bd.state]; rfl
  have N0 := Fr.nil n0
  have pre0 : ∀ t, Steps p.tables e below (s₁.setTop (mkF m 0 #[.val (.ref a1)] [])) t → Steps p.tables e below (s₁.setTop (entryFrame m #[(.ref a1)] 1)) t := fun t kt0 => castTop (ef_2 m a1) kt0

  obtain ⟨T1, X1, e1, st1⟩ := getS (host := "") X0 hx hZ hown (hw _ (List.mem_of_getElem? (i := 33) rfl)) Via.refl e0 SR (g := (mkF m 0 #[.val (.ref a1)] [])) rfl (hb hby d5_0)
  obtain ⟨fs, hr, hrun, hended, hW, hsame⟩ := X1.leave (v := some (.ref aR)) (fun h => by rw [Bd.returns] at h; cases h)
  refine ⟨_, _, pre0 _ ?_, hrun, hended, _, _, rfl, ?_, ⟨_, rfl⟩, hW, hsame.mono (by decide) (by decide)⟩
  · refine st1 _ ?_
    show Steps p.tables e below (T1.setTop (mkF m 3 #[.val (.ref a1)] [(.ref aR)])) _
    jvm_step X1.here [X1.here.top, hx, (hb hby d5_3), X1.method', Bd.returns, Value.isRef, FieldType.isReference]
    first | (intro acts; rw [hr _ acts rfl rfl rfl]) | rw [hr _ _ rfl rfl rfl]
    exact Steps.refl _
  · show QV _ h0 n0 _ T1.heap _
    rw [e1]
    exact ⟨rfl, N0, rfl⟩
/-! the law's own road -/
def own_W (p : Program) (l : Launch) (e : Env) (s : State) (m : MethodId) (args : Array Value) (below : List Frame) (meth : Method) (c : Code) (n0 : Nat) (T : State) (h : Heap) : Prop := ∃ locs : List Loc, Stand p l e room_1 s m args below meth c T locs 0 0 ∧ T.heap = h ∧ Fr n0 locs
section Law
variable {p : Program} {l : Launch} {e : Env} {s : State} {m : MethodId} {args : Array Value} {below : List Frame} {meth : Method} {c : Code} {T0 : State} {Z : State} {a0 : Array Value} {h0 : Heap} {n0 : Nat}

set_option maxRecDepth 65536 in
set_option maxHeartbeats 40000000 in
theorem own_of (W0 : own_W p l e s m args below meth c n0 T0 h0) (hx : p.tables.exec = Jvm.exec) (hZ : Z.Warmed39 s.vm) (hw : ∀ d ∈ tables_1, d.before a0 Z = true) (hby : c.code = code) (hml : c.maxLocals = 5) (hown : s.vm.findClass "com/example/hollin/hollin/lang/LogicalVectorOfValuePinLaw" = some m.cls) (Z0 : n0 ≤ h0.size) {q : Nat} {Ls : Array Slot} (hL : Ls.size = 5) (p1 : Int32) (aT aF aN : Addr) (ST : Sta Z h0 "com/example/hollin/hollin/lang/LogicalVector" "TRUE" "Lcom/example/hollin/hollin/lang/LogicalVector;" (.ref aT)) (SF : Sta Z h0 "com/example/hollin/hollin/lang/LogicalVector" "FALSE" "Lcom/example/hollin/hollin/lang/LogicalVector;" (.ref aF)) (SN : Sta Z h0 "com/example/hollin/hollin/lang/LogicalVector" "NA" "Lcom/example/hollin/hollin/lang/LogicalVector;" (.ref aN)) (rest : List Value) (hrest : (rest.map fun v => v.category).sum ≤ 8) (hd : decode code q = .ok (.invokestatic 23, 3)) :
    ∃ (T' : State), own_W p l e s m args below meth c n0 T' h0 ∧ own_Ld p e below T0 (mkF m q Ls (.int p1 :: rest)) T' (mkF m (q + 3) Ls (.ref (own_sel p1 aT aF aN) :: rest)) := by
  obtain ⟨locs, X0, e0, N0⟩ := W0
  obtain ⟨_, _, ⟨T4, L4, k4, n4⟩, -, X4, ⟨Lc4, hQ4, l4, y4, z4⟩, st4⟩ := Jvm.LawKit.callS X0 hx (y := (⟨"com/example/hollin/hollin/lang/LogicalVector", "ofValue", "(I)Lcom/example/hollin/hollin/lang/LogicalVector;"⟩ : MethodName)) hown (mvT hZ (hw _ (List.mem_of_getElem? (i := 4) rfl))) (mvT hZ (hw _ (List.mem_of_getElem? (i := 5) rfl))) (mvT hZ (hw _ (List.mem_of_getElem? (i := 2) rfl))) (mvT hZ (hw _ (List.mem_of_getElem? (i := 6) rfl))) (by decide) (backOf (W := 8) (rm1 l Z a0 hw [] p1 aT aF aN h0 n0 Z0 ST SF SN) hZ (hw _ (List.mem_of_getElem? (i := 6) rfl)) (hw _ (List.mem_of_getElem? (i := 2) rfl)) (by decide) (by decide)) (g := (mkF m q Ls (.int p1 :: rest))) rfl (by rw [hml]; exact hL) (argsL := [(.int p1)]) (rest := rest) (lenOf pd_of rfl) rfl (by show 2 * 0 + _ ≤ _; omega) (hb hby hd) (fun _ _ => ⟨rfl, e0, (by decide : 0 + 0 ≤ _), (by decide : 0 + 0 ≤ _)⟩)
  dsimp only [Pt.U, Pt.locs, Pt.cells, Pt.slots] at X4 l4 y4 z4 st4 hQ4
  subst l4 y4 z4
  obtain ⟨rfl, N4q, e4⟩ := hQ4
  exact ⟨T4, ⟨_, X4, e4, Fr.app N0 N4q⟩, fun t k => st4 t k⟩
set_option maxRecDepth 65536 in
set_option maxHeartbeats 40000000 in
theorem own_gs (W0 : own_W p l e s m args below meth c n0 T0 h0) (hx : p.tables.exec = Jvm.exec) (hZ : Z.Warmed39 s.vm) (hw : ∀ d ∈ tables_1, d.before a0 Z = true) (hby : c.code = code) (hml : c.maxLocals = 5) (hown : s.vm.findClass "com/example/hollin/hollin/lang/LogicalVectorOfValuePinLaw" = some m.cls) (Z0 : n0 ≤ h0.size) {q : Nat} {Ls : Array Slot} {C f d : String} {idx : Nat} (a : Addr) (SA : Sta Z h0 C f d (.ref a)) (wl : (Cond.fieldLink "com/example/hollin/hollin/lang/LogicalVectorOfValuePinLaw" idx C f d).before a0 Z = true) (rest : List Value) (hd : decode code q = .ok (.getstatic idx, 3)) :
    ∃ (T' : State), own_W p l e s m args below meth c n0 T' h0 ∧ own_Ld p e below T0 (mkF m q Ls rest) T' (mkF m (q + 3) Ls (.ref a :: rest)) := by
  obtain ⟨locs, X0, e0, N0⟩ := W0
  obtain ⟨T1, X1, e1, st1⟩ := getS (host := "") X0 hx hZ hown wl Via.refl e0 SA (g := (mkF m q Ls rest)) rfl (hb hby hd)
  exact ⟨T1, ⟨_, X1, e1, N0⟩, fun t k => st1 t k⟩
set_option maxRecDepth 65536 in
set_option maxHeartbeats 40000000 in
theorem own_len (W0 : own_W p l e s m args below meth c n0 T0 h0) (hx : p.tables.exec = Jvm.exec) (hZ : Z.Warmed39 s.vm) (hw : ∀ d ∈ tables_1, d.before a0 Z = true) (hby : c.code = code) (hml : c.maxLocals = 5) (hown : s.vm.findClass "com/example/hollin/hollin/lang/LogicalVectorOfValuePinLaw" = some m.cls) (Z0 : n0 ≤ h0.size) {q : Nat} {Ls : Array Slot} (hL : Ls.size = 5) (a1 : Addr) (E0 : Exa Z h0 a1 "com/example/hollin/hollin/lang/LogicalVector") (F : Fld Z h0 a1 "com/example/hollin/hollin/lang/LogicalVector" "length" "I" (.int 1)) (rest : List Value) (hrest : (rest.map fun v => v.category).sum ≤ 8) (hd : decode code q = .ok (.invokevirtual 27, 3)) :
    ∃ (T' : State), own_W p l e s m args below meth c n0 T' h0 ∧ own_Ld p e below T0 (mkF m q Ls (.ref a1 :: rest)) T' (mkF m (q + 3) Ls (.int 1 :: rest)) := by
  obtain ⟨locs, X0, e0, N0⟩ := W0
  obtain ⟨cq3, kq3, q3a, q3b, q3c⟩ := isOf hZ e0 E0
  obtain ⟨_, _, ⟨T4, L4, k4, n4⟩, -, X4, ⟨Lc4, hQ4, l4, y4, z4⟩, st4⟩ := X0.virtualBack hx (y := (⟨"com/example/hollin/hollin/lang/LogicalVector", "length", "()I"⟩ : MethodName)) (z := (⟨"com/example/hollin/hollin/lang/LogicalVector", "length", "()I"⟩ : MethodName)) hown (mvT hZ (hw _ (List.mem_of_getElem? (i := 8) rfl))) (mvT hZ (hw _ (List.mem_of_getElem? (i := 9) rfl))) (notFace_of_selects (args := #[]) (mvT hZ (hw _ (List.mem_of_getElem? (i := 11) rfl)))) (mvT hZ (hw _ (List.mem_of_getElem? (i := 11) rfl))) (mvT hZ (hw _ (List.mem_of_getElem? (i := 10) rfl))) (by decide) (backOf (W := 8) (rm2 l Z a0 hw [] a1 h0 n0 Z0 F) hZ (hw _ (List.mem_of_getElem? (i := 12) rfl)) (hw _ (List.mem_of_getElem? (i := 2) rfl)) (by decide) (by decide)) q3a q3c (g := (mkF m q Ls (.ref a1 :: rest))) rfl (by rw [hml]; exact hL) (Steps.refl _) (argsL := []) (rest := rest) (lenOf pd_len rfl) rfl (by show 2 * 0 + _ ≤ _; omega) (hb hby hd) (fun _ _ => ⟨rfl, e0, (by decide : 0 + 0 ≤ _), (by decide : 0 + 0 ≤ _)⟩)
  dsimp only [Pt.U, Pt.locs, Pt.cells, Pt.slots] at X4 l4 y4 z4 st4 hQ4
  subst l4 y4 z4
  obtain ⟨rfl, N4q, e4⟩ := hQ4
  exact ⟨T4, ⟨_, X4, e4, Fr.app N0 N4q⟩, fun t k => st4.trans k⟩
set_option maxRecDepth 65536 in
set_option maxHeartbeats 40000000 in
theorem own_get (W0 : own_W p l e s m args below meth c n0 T0 h0) (hx : p.tables.exec = Jvm.exec) (hZ : Z.Warmed39 s.vm) (hw : ∀ d ∈ tables_1, d.before a0 Z = true) (hby : c.code = code) (hml : c.maxLocals = 5) (hown : s.vm.findClass "com/example/hollin/hollin/lang/LogicalVectorOfValuePinLaw" = some m.cls) (Z0 : n0 ≤ h0.size) {q : Nat} {Ls : Array Slot} (hL : Ls.size = 5) (a1 : Addr) (E0 : Exa Z h0 a1 "com/example/hollin/hollin/lang/LogicalVector") (b : Addr) (cl : Cell) (vv : Int32) (F : Fld Z h0 a1 "com/example/hollin/hollin/lang/LogicalVector" "values" "[I" (.ref b)) (Ar : Arr Z h0 b cl .int) (hin : ¬ ((0 : Int32) < 0 ∨ cl.slots.size ≤ (0 : Int32).toNatClampNeg)) (hat : cl.slots[(0 : Int32).toNatClampNeg]? = some (.int vv)) (rest : List Value) (hrest : (rest.map fun v => v.category).sum ≤ 8) (hd : decode code q = .ok (.invokevirtual 31, 3)) :
    ∃ (T' : State), own_W p l e s m args below meth c n0 T' h0 ∧ own_Ld p e below T0 (mkF m q Ls (.int (0 : Int32) :: .ref a1 :: rest)) T' (mkF m (q + 3) Ls (.int vv :: rest)) := by
  obtain ⟨locs, X0, e0, N0⟩ := W0
  obtain ⟨cq3, kq3, q3a, q3b, q3c⟩ := isOf hZ e0 E0
  obtain ⟨_, _, ⟨T4, L4, k4, n4⟩, -, X4, ⟨Lc4, hQ4, l4, y4, z4⟩, st4⟩ := X0.virtualBack hx (y := (⟨"com/example/hollin/hollin/lang/LogicalVector", "get", "(I)I"⟩ : MethodName)) (z := (⟨"com/example/hollin/hollin/lang/LogicalVector", "get", "(I)I"⟩ : MethodName)) hown (mvT hZ (hw _ (List.mem_of_getElem? (i := 15) rfl))) (mvT hZ (hw _ (List.mem_of_getElem? (i := 16) rfl))) (notFace_of_selects (args := #[]) (mvT hZ (hw _ (List.mem_of_getElem? (i := 18) rfl)))) (mvT hZ (hw _ (List.mem_of_getElem? (i := 18) rfl))) (mvT hZ (hw _ (List.mem_of_getElem? (i := 17) rfl))) (by decide) (backOf (W := 8) (rm3 l Z a0 hw [] a1 b cl vv h0 n0 Z0 F Ar hin hat) hZ (hw _ (List.mem_of_getElem? (i := 19) rfl)) (hw _ (List.mem_of_getElem? (i := 2) rfl)) (by decide) (by decide)) q3a q3c (g := (mkF m q Ls (.int (0 : Int32) :: .ref a1 :: rest))) rfl (by rw [hml]; exact hL) (Steps.refl _) (argsL := [(.int (0 : Int32))]) (rest := rest) (lenOf pd_get rfl) rfl (by show 2 * 0 + _ ≤ _; omega) (hb hby hd) (fun _ _ => ⟨rfl, e0, (by decide : 0 + 0 ≤ _), (by decide : 0 + 0 ≤ _)⟩)
  dsimp only [Pt.U, Pt.locs, Pt.cells, Pt.slots] at X4 l4 y4 z4 st4 hQ4
  subst l4 y4 z4
  obtain ⟨rfl, N4q, e4⟩ := hQ4
  exact ⟨T4, ⟨_, X4, e4, Fr.app N0 N4q⟩, fun t k => st4.trans k⟩
set_option maxRecDepth 65536 in
set_option maxHeartbeats 40000000 in
theorem own_isNA (W0 : own_W p l e s m args below meth c n0 T0 h0) (hx : p.tables.exec = Jvm.exec) (hZ : Z.Warmed39 s.vm) (hw : ∀ d ∈ tables_1, d.before a0 Z = true) (hby : c.code = code) (hml : c.maxLocals = 5) (hown : s.vm.findClass "com/example/hollin/hollin/lang/LogicalVectorOfValuePinLaw" = some m.cls) (Z0 : n0 ≤ h0.size) {q : Nat} {Ls : Array Slot} (hL : Ls.size = 5) (a1 : Addr) (E0 : Exa Z h0 a1 "com/example/hollin/hollin/lang/LogicalVector") (b : Addr) (cl : Cell) (vv : Int32) (F : Fld Z h0 a1 "com/example/hollin/hollin/lang/LogicalVector" "values" "[I" (.ref b)) (Ar : Arr Z h0 b cl .int) (hin : ¬ ((0 : Int32) < 0 ∨ cl.slots.size ≤ (0 : Int32).toNatClampNeg)) (hat : cl.slots[(0 : Int32).toNatClampNeg]? = some (.int vv)) (rest : List Value) (hrest : (rest.map fun v => v.category).sum ≤ 8) (hd : decode code q = .ok (.invokevirtual 35, 3)) :
    ∃ (T' : State), own_W p l e s m args below meth c n0 T' h0 ∧ own_Ld p e below T0 (mkF m q Ls (.int (0 : Int32) :: .ref a1 :: rest)) T' (mkF m (q + 3) Ls (.int (own_na vv) :: rest)) := by
  obtain ⟨locs, X0, e0, N0⟩ := W0
  obtain ⟨cq3, kq3, q3a, q3b, q3c⟩ := isOf hZ e0 E0
  obtain ⟨_, _, ⟨T4, L4, k4, n4⟩, -, X4, ⟨Lc4, hQ4, l4, y4, z4⟩, st4⟩ := X0.virtualBack hx (y := (⟨"com/example/hollin/hollin/lang/LogicalVector", "isNA", "(I)Z"⟩ : MethodName)) (z := (⟨"com/example/hollin/hollin/lang/LogicalVector", "isNA", "(I)Z"⟩ : MethodName)) hown (mvT hZ (hw _ (List.mem_of_getElem? (i := 22) rfl))) (mvT hZ (hw _ (List.mem_of_getElem? (i := 23) rfl))) (notFace_of_selects (args := #[]) (mvT hZ (hw _ (List.mem_of_getElem? (i := 25) rfl)))) (mvT hZ (hw _ (List.mem_of_getElem? (i := 25) rfl))) (mvT hZ (hw _ (List.mem_of_getElem? (i := 24) rfl))) (by decide) (backOf (W := 8) (rm4 l Z a0 hw [] a1 b cl vv h0 n0 Z0 F Ar hin hat) hZ (hw _ (List.mem_of_getElem? (i := 26) rfl)) (hw _ (List.mem_of_getElem? (i := 2) rfl)) (by decide) (by decide)) q3a q3c (g := (mkF m q Ls (.int (0 : Int32) :: .ref a1 :: rest))) rfl (by rw [hml]; exact hL) (Steps.refl _) (argsL := [(.int (0 : Int32))]) (rest := rest) (lenOf pd_na rfl) rfl (by show 2 * 0 + _ ≤ _; omega) (hb hby hd) (fun _ _ => ⟨rfl, e0, (by decide : 0 + 0 ≤ _), (by decide : 0 + 0 ≤ _)⟩)
  dsimp only [Pt.U, Pt.locs, Pt.cells, Pt.slots] at X4 l4 y4 z4 st4 hQ4
  subst l4 y4 z4
  obtain ⟨rfl, N4q, e4⟩ := hQ4
  exact ⟨T4, ⟨_, X4, e4, Fr.app N0 N4q⟩, fun t k => st4.trans k⟩
set_option maxRecDepth 65536 in
set_option maxHeartbeats 40000000 in
theorem own_type (W0 : own_W p l e s m args below meth c n0 T0 h0) (hx : p.tables.exec = Jvm.exec) (hZ : Z.Warmed39 s.vm) (hw : ∀ d ∈ tables_1, d.before a0 Z = true) (hby : c.code = code) (hml : c.maxLocals = 5) (hown : s.vm.findClass "com/example/hollin/hollin/lang/LogicalVectorOfValuePinLaw" = some m.cls) (Z0 : n0 ≤ h0.size) {q : Nat} {Ls : Array Slot} (hL : Ls.size = 5) (a1 : Addr) (E0 : Exa Z h0 a1 "com/example/hollin/hollin/lang/LogicalVector") (aR : Addr) (SR : Sta Z h0 "com/example/hollin/hollin/lang/RType" "LOGICAL" "Lcom/example/hollin/hollin/lang/RType;" (.ref aR)) (rest : List Value) (hrest : (rest.map fun v => v.category).sum ≤ 8) (hd : decode code q = .ok (.invokevirtual 39, 3)) :
    ∃ (T' : State), own_W p l e s m args below meth c n0 T' h0 ∧ own_Ld p e below T0 (mkF m q Ls (.ref a1 :: rest)) T' (mkF m (q + 3) Ls (.ref aR :: rest)) := by
  obtain ⟨locs, X0, e0, N0⟩ := W0
  obtain ⟨cq3, kq3, q3a, q3b, q3c⟩ := isOf hZ e0 E0
  obtain ⟨_, _, ⟨T4, L4, k4, n4⟩, -, X4, ⟨Lc4, hQ4, l4, y4, z4⟩, st4⟩ := X0.virtualBack hx (y := (⟨"com/example/hollin/hollin/lang/LogicalVector", "type", "()Lcom/example/hollin/hollin/lang/RType;"⟩ : MethodName)) (z := (⟨"com/example/hollin/hollin/lang/LogicalVector", "type", "()Lcom/example/hollin/hollin/lang/RType;"⟩ : MethodName)) hown (mvT hZ (hw _ (List.mem_of_getElem? (i := 28) rfl))) (mvT hZ (hw _ (List.mem_of_getElem? (i := 29) rfl))) (notFace_of_selects (args := #[]) (mvT hZ (hw _ (List.mem_of_getElem? (i := 31) rfl)))) (mvT hZ (hw _ (List.mem_of_getElem? (i := 31) rfl))) (mvT hZ (hw _ (List.mem_of_getElem? (i := 30) rfl))) (by decide) (backOf (W := 8) (rm5 l Z a0 hw [] a1 aR h0 n0 Z0 SR) hZ (hw _ (List.mem_of_getElem? (i := 32) rfl)) (hw _ (List.mem_of_getElem? (i := 2) rfl)) (by decide) (by decide)) q3a q3c (g := (mkF m q Ls (.ref a1 :: rest))) rfl (by rw [hml]; exact hL) (Steps.refl _) (argsL := []) (rest := rest) (lenOf pd_ty rfl) rfl (by show 2 * 0 + _ ≤ _; omega) (hb hby hd) (fun _ _ => ⟨rfl, e0, (by decide : 0 + 0 ≤ _), (by decide : 0 + 0 ≤ _)⟩)
  dsimp only [Pt.U, Pt.locs, Pt.cells, Pt.slots] at X4 l4 y4 z4 st4 hQ4
  subst l4 y4 z4
  obtain ⟨rfl, N4q, e4⟩ := hQ4
  exact ⟨T4, ⟨_, X4, e4, Fr.app N0 N4q⟩, fun t k => st4.trans k⟩
set_option maxRecDepth 65536 in
set_option maxHeartbeats 40000000 in
theorem own_tail (W0 : own_W p l e s m args below meth c n0 T0 h0) (hx : p.tables.exec = Jvm.exec) (hZ : Z.Warmed39 s.vm) (hw : ∀ d ∈ tables_1, d.before a0 Z = true) (hby : c.code = code) (hml : c.maxLocals = 5) (hown : s.vm.findClass "com/example/hollin/hollin/lang/LogicalVectorOfValuePinLaw" = some m.cls) (Z0 : n0 ≤ h0.size) (x0 k v : Int32) (a aT aF aN aR : Addr) (hsel : own_sel v aT aF aN = a) (LV : own_LV Z h0 a v) (hna : own_na v = if k = (2 : Int32) then 1 else 0) (ST : Sta Z h0 "com/example/hollin/hollin/lang/LogicalVector" "TRUE" "Lcom/example/hollin/hollin/lang/LogicalVector;" (.ref aT)) (SF : Sta Z h0 "com/example/hollin/hollin/lang/LogicalVector" "FALSE" "Lcom/example/hollin/hollin/lang/LogicalVector;" (.ref aF)) (SN : Sta Z h0 "com/example/hollin/hollin/lang/LogicalVector" "NA" "Lcom/example/hollin/hollin/lang/LogicalVector;" (.ref aN)) (SR : Sta Z h0 "com/example/hollin/hollin/lang/RType" "LOGICAL" "Lcom/example/hollin/hollin/lang/RType;" (.ref aR)) :
    ∃ (T' : State), own_W p l e s m args below meth c n0 T' h0 ∧ own_Ld p e below T0 (mkF m 52 #[.val (.int x0), .val (.int k), .val (.int v), .val (.ref a), .unset] []) T' (mkF m 126 #[.val (.int x0), .val (.int k), .val (.int v), .val (.ref a), .val (.ref a)] [(.int (1 : Int32))]) := by
  obtain ⟨EX, FL, b, cl, FV, Ar, hin, hat⟩ := LV
  obtain ⟨T1, W1, st1⟩ := own_of W0 hx hZ hw hby hml hown Z0 (q := 53) (Ls := #[.val (.int x0), .val (.int k), .val (.int v), .val (.ref a), .unset]) rfl v aT aF aN ST SF SN [] (Nat.le_of_ble_eq_true rfl) at_53
  rw [hsel] at st1
  obtain ⟨T2, W2, st2⟩ := own_len W1 hx hZ hw hby hml hown Z0 (q := 68) (Ls := #[.val (.int x0), .val (.int k), .val (.int v), .val (.ref a), .val (.ref a)]) rfl a EX FL [] (Nat.le_of_ble_eq_true rfl) at_68
  obtain ⟨T3, W3, st3⟩ := own_get W2 hx hZ hw hby hml hown Z0 (q := 80) (Ls := #[.val (.int x0), .val (.int k), .val (.int v), .val (.ref a), .val (.ref a)]) rfl a EX b cl v FV Ar hin hat [] (Nat.le_of_ble_eq_true rfl) at_80
  obtain ⟨T4, W4, st4⟩ := own_isNA W3 hx hZ hw hby hml hown Z0 (q := 92) (Ls := #[.val (.int x0), .val (.int k), .val (.int v), .val (.ref a), .val (.ref a)]) rfl a EX b cl v FV Ar hin hat [] (Nat.le_of_ble_eq_true rfl) at_92
  obtain ⟨T5, W5, st5⟩ := own_type W4 hx hZ hw hby hml hown Z0 (q := 112) (Ls := #[.val (.int x0), .val (.int k), .val (.int v), .val (.ref a), .val (.ref a)]) rfl a EX aR SR [] (Nat.le_of_ble_eq_true rfl) at_112
  obtain ⟨T6, W6, st6⟩ := own_gs W5 hx hZ hw hby hml hown Z0 (q := 115) (Ls := #[.val (.int x0), .val (.int k), .val (.int v), .val (.ref a), .val (.ref a)]) aR SR (hw _ (List.mem_of_getElem? (i := 36) rfl)) [(.ref aR)] at_115
  refine ⟨T6, W6, fun t kt => ?_⟩
  obtain ⟨u0, X0, e0, N0⟩ := W0
  obtain ⟨u1, X1, e1, N1⟩ := W1
  obtain ⟨u2, X2, e2, N2⟩ := W2
  obtain ⟨u3, X3, e3, N3⟩ := W3
  obtain ⟨u4, X4, e4, N4⟩ := W4
  obtain ⟨u5, X5, e5, N5⟩ := W5
  obtain ⟨u6, X6, e6, N6⟩ := W6
  show Steps p.tables e below (T0.setTop (mkF m 52 #[.val (.int x0), .val (.int k), .val (.int v), .val (.ref a), .unset] [])) _
  refine XS.iloadN X0.here hx rfl (hb hby at_52) rfl ?_
  show Steps p.tables e below (T0.setTop (mkF m 53 #[.val (.int x0), .val (.int k), .val (.int v), .val (.ref a), .unset] [(.int v)])) _
  refine st1 _ ?_
  show Steps p.tables e below (T1.setTop (mkF m 56 #[.val (.int x0), .val (.int k), .val (.int v), .val (.ref a), .unset] [(.ref a)])) _
  refine XS.astore X1.here hx rfl (hb hby at_56) rfl rfl (l' := #[.val (.int x0), .val (.int k), .val (.int v), .val (.ref a), .val (.ref a)]) rfl ?_
  show Steps p.tables e below (T1.setTop (mkF m 58 #[.val (.int x0), .val (.int k), .val (.int v), .val (.ref a), .val (.ref a)] [])) _
  refine XS.aload X1.here hx rfl (hb hby at_58) rfl rfl ?_
  show Steps p.tables e below (T1.setTop (mkF m 60 #[.val (.int x0), .val (.int k), .val (.int v), .val (.ref a), .val (.ref a)] [(.ref a)])) _
  refine XS.aloadN X1.here hx rfl (hb hby at_60) rfl rfl ?_
  show Steps p.tables e below (T1.setTop (mkF m 61 #[.val (.int x0), .val (.int k), .val (.int v), .val (.ref a), .val (.ref a)] [(.ref a), (.ref a)])) _
  refine XS.acmpYes X1.here hx rfl (pc0 := 61) (pc' := 66) rfl (hb hby at_61) rfl (by simp [if_acmp.holds]) (by decide) (by decide) ?_
  show Steps p.tables e below (T1.setTop (mkF m 66 #[.val (.int x0), .val (.int k), .val (.int v), .val (.ref a), .val (.ref a)] [])) _
  refine XS.aload X1.here hx rfl (hb hby at_66) rfl rfl ?_
  show Steps p.tables e below (T1.setTop (mkF m 68 #[.val (.int x0), .val (.int k), .val (.int v), .val (.ref a), .val (.ref a)] [(.ref a)])) _
  refine st2 _ ?_
  show Steps p.tables e below (T2.setTop (mkF m 71 #[.val (.int x0), .val (.int k), .val (.int v), .val (.ref a), .val (.ref a)] [(.int (1 : Int32))])) _
  refine XS.iconst X2.here hx rfl (hb hby at_71) ?_
  show Steps p.tables e below (T2.setTop (mkF m 72 #[.val (.int x0), .val (.int k), .val (.int v), .val (.ref a), .val (.ref a)] [(.int (1 : Int32)), (.int (1 : Int32))])) _
  refine XS.icmpYes X2.here hx rfl (pc0 := 72) (pc' := 77) rfl (hb hby at_72) rfl (teq (rfl : (1 : Int32) = (1 : Int32))).1 (by decide) (by decide) ?_
  show Steps p.tables e below (T2.setTop (mkF m 77 #[.val (.int x0), .val (.int k), .val (.int v), .val (.ref a), .val (.ref a)] [])) _
  refine XS.aload X2.here hx rfl (hb hby at_77) rfl rfl ?_
  show Steps p.tables e below (T2.setTop (mkF m 79 #[.val (.int x0), .val (.int k), .val (.int v), .val (.ref a), .val (.ref a)] [(.ref a)])) _
  refine XS.iconst X2.here hx rfl (hb hby at_79) ?_
  show Steps p.tables e below (T2.setTop (mkF m 80 #[.val (.int x0), .val (.int k), .val (.int v), .val (.ref a), .val (.ref a)] [(.int (0 : Int32)), (.ref a)])) _
  refine st3 _ ?_
  show Steps p.tables e below (T3.setTop (mkF m 83 #[.val (.int x0), .val (.int k), .val (.int v), .val (.ref a), .val (.ref a)] [(.int v)])) _
  refine XS.iloadN X3.here hx rfl (hb hby at_83) rfl ?_
  show Steps p.tables e below (T3.setTop (mkF m 84 #[.val (.int x0), .val (.int k), .val (.int v), .val (.ref a), .val (.ref a)] [(.int v), (.int v)])) _
  refine XS.icmpYes X3.here hx rfl (pc0 := 84) (pc' := 89) rfl (hb hby at_84) rfl (teq (rfl : v = v)).1 (by decide) (by decide) ?_
  show Steps p.tables e below (T3.setTop (mkF m 89 #[.val (.int x0), .val (.int k), .val (.int v), .val (.ref a), .val (.ref a)] [])) _
  refine XS.aload X3.here hx rfl (hb hby at_89) rfl rfl ?_
  show Steps p.tables e below (T3.setTop (mkF m 91 #[.val (.int x0), .val (.int k), .val (.int v), .val (.ref a), .val (.ref a)] [(.ref a)])) _
  refine XS.iconst X3.here hx rfl (hb hby at_91) ?_
  show Steps p.tables e below (T3.setTop (mkF m 92 #[.val (.int x0), .val (.int k), .val (.int v), .val (.ref a), .val (.ref a)] [(.int (0 : Int32)), (.ref a)])) _
  refine st4 _ ?_
  have kt5 : Steps p.tables e below (T4.setTop (mkF m 110 #[.val (.int x0), .val (.int k), .val (.int v), .val (.ref a), .val (.ref a)] [])) t := by
    show Steps p.tables e below (T4.setTop (mkF m 110 #[.val (.int x0), .val (.int k), .val (.int v), .val (.ref a), .val (.ref a)] [])) _
    refine XS.aload X4.here hx rfl (hb hby at_110) rfl rfl ?_
    show Steps p.tables e below (T4.setTop (mkF m 112 #[.val (.int x0), .val (.int k), .val (.int v), .val (.ref a), .val (.ref a)] [(.ref a)])) _
    refine st5 _ ?_
    show Steps p.tables e below (T5.setTop (mkF m 115 #[.val (.int x0), .val (.int k), .val (.int v), .val (.ref a), .val (.ref a)] [(.ref aR)])) _
    refine st6 _ ?_
    show Steps p.tables e below (T6.setTop (mkF m 118 #[.val (.int x0), .val (.int k), .val (.int v), .val (.ref a), .val (.ref a)] [(.ref aR), (.ref aR)])) _
    refine XS.acmpNo X6.here hx rfl (hb hby at_118) rfl (by simp [if_acmp.holds]) ?_
    show Steps p.tables e below (T6.setTop (mkF m 121 #[.val (.int x0), .val (.int k), .val (.int v), .val (.ref a), .val (.ref a)] [])) _
    refine XS.iconst X6.here hx rfl (hb hby at_121) ?_
    show Steps p.tables e below (T6.setTop (mkF m 122 #[.val (.int x0), .val (.int k), .val (.int v), .val (.ref a), .val (.ref a)] [(.int (1 : Int32))])) _
    refine XS.goto X6.here hx rfl (pc0 := 122) (pc' := 126) rfl (hb hby at_122) (by decide) (by decide) ?_
    exact kt
  by_cases h2 : k = (2 : Int32)
  · rw [if_pos h2] at hna
    show Steps p.tables e below (T4.setTop (mkF m 95 #[.val (.int x0), .val (.int k), .val (.int v), .val (.ref a), .val (.ref a)] [(.int (own_na v))])) _
    refine XS.iloadN X4.here hx rfl (hb hby at_95) rfl ?_
    show Steps p.tables e below (T4.setTop (mkF m 96 #[.val (.int x0), .val (.int k), .val (.int v), .val (.ref a), .val (.ref a)] [(.int k), (.int (own_na v))])) _
    refine XS.iconst X4.here hx rfl (hb hby at_96) ?_
    show Steps p.tables e below (T4.setTop (mkF m 97 #[.val (.int x0), .val (.int k), .val (.int v), .val (.ref a), .val (.ref a)] [(.int (2 : Int32)), (.int k), (.int (own_na v))])) _
    refine XS.icmpNo X4.here hx rfl (hb hby at_97) rfl (teq h2).2 ?_
    show Steps p.tables e below (T4.setTop (mkF m 100 #[.val (.int x0), .val (.int k), .val (.int v), .val (.ref a), .val (.ref a)] [(.int (own_na v))])) _
    refine XS.iconst X4.here hx rfl (hb hby at_100) ?_
    show Steps p.tables e below (T4.setTop (mkF m 101 #[.val (.int x0), .val (.int k), .val (.int v), .val (.ref a), .val (.ref a)] [(.int (1 : Int32)), (.int (own_na v))])) _
    refine XS.goto X4.here hx rfl (pc0 := 101) (pc' := 105) rfl (hb hby at_101) (by decide) (by decide) ?_
    show Steps p.tables e below (T4.setTop (mkF m 105 #[.val (.int x0), .val (.int k), .val (.int v), .val (.ref a), .val (.ref a)] [(.int (1 : Int32)), (.int (own_na v))])) _
    refine XS.icmpYes X4.here hx rfl (pc0 := 105) (pc' := 110) rfl (hb hby at_105) rfl (teq hna).1 (by decide) (by decide) ?_
    exact kt5
  · rw [if_neg h2] at hna
    show Steps p.tables e below (T4.setTop (mkF m 95 #[.val (.int x0), .val (.int k), .val (.int v), .val (.ref a), .val (.ref a)] [(.int (own_na v))])) _
    refine XS.iloadN X4.here hx rfl (hb hby at_95) rfl ?_
    show Steps p.tables e below (T4.setTop (mkF m 96 #[.val (.int x0), .val (.int k), .val (.int v), .val (.ref a), .val (.ref a)] [(.int k), (.int (own_na v))])) _
    refine XS.iconst X4.here hx rfl (hb hby at_96) ?_
    show Steps p.tables e below (T4.setTop (mkF m 97 #[.val (.int x0), .val (.int k), .val (.int v), .val (.ref a), .val (.ref a)] [(.int (2 : Int32)), (.int k), (.int (own_na v))])) _
    refine XS.icmpYes X4.here hx rfl (pc0 := 97) (pc' := 104) rfl (hb hby at_97) rfl (feq h2).2 (by decide) (by decide) ?_
    show Steps p.tables e below (T4.setTop (mkF m 104 #[.val (.int x0), .val (.int k), .val (.int v), .val (.ref a), .val (.ref a)] [(.int (own_na v))])) _
    refine XS.iconst X4.here hx rfl (hb hby at_104) ?_
    show Steps p.tables e below (T4.setTop (mkF m 105 #[.val (.int x0), .val (.int k), .val (.int v), .val (.ref a), .val (.ref a)] [(.int (0 : Int32)), (.int (own_na v))])) _
    refine XS.icmpYes X4.here hx rfl (pc0 := 105) (pc' := 110) rfl (hb hby at_105) rfl (teq hna).1 (by decide) (by decide) ?_
    exact kt5
set_option maxRecDepth 65536 in
set_option maxHeartbeats 40000000 in
theorem own_h0 (W0 : own_W p l e s m args below meth c n0 T0 h0) (hx : p.tables.exec = Jvm.exec) (hZ : Z.Warmed39 s.vm) (hw : ∀ d ∈ tables_1, d.before a0 Z = true) (hby : c.code = code) (hml : c.maxLocals = 5) (hown : s.vm.findClass "com/example/hollin/hollin/lang/LogicalVectorOfValuePinLaw" = some m.cls) (Z0 : n0 ≤ h0.size) (x0 : Int32) (a : Addr) (SA : Sta Z h0 "com/example/hollin/hollin/lang/LogicalVector" "TRUE" "Lcom/example/hollin/hollin/lang/LogicalVector;" (.ref a)) :
    ∃ (T' : State), own_W p l e s m args below meth c n0 T' h0 ∧ own_Ld p e below T0 (mkF m 7 #[.val (.int x0), .val (.int (0 : Int32)), .unset, .unset, .unset] []) T' (mkF m 52 #[.val (.int x0), .val (.int (0 : Int32)), .val (.int (1 : Int32)), .val (.ref a), .unset] []) := by
  obtain ⟨T1, W1, st1⟩ := own_gs W0 hx hZ hw hby hml hown Z0 (q := 31) (Ls := #[.val (.int x0), .val (.int (0 : Int32)), .val (.int (1 : Int32)), .unset, .unset]) a SA (hw _ (List.mem_of_getElem? (i := 1) rfl)) [] at_31
  refine ⟨T1, W1, fun t kt => ?_⟩
  obtain ⟨u0, X0, e0, N0⟩ := W0
  obtain ⟨u1, X1, e1, N1⟩ := W1
  show Steps p.tables e below (T0.setTop (mkF m 7 #[.val (.int x0), .val (.int (0 : Int32)), .unset, .unset, .unset] [])) _
  refine XS.iloadN X0.here hx rfl (hb hby at_7) rfl ?_
  show Steps p.tables e below (T0.setTop (mkF m 8 #[.val (.int x0), .val (.int (0 : Int32)), .unset, .unset, .unset] [(.int (0 : Int32))])) _
  refine XS.ifNo X0.here hx rfl (hb hby at_8) rfl ((if0 _ _).trans (teq (rfl : (0 : Int32) = (0 : Int32))).2) ?_
  show Steps p.tables e below (T0.setTop (mkF m 11 #[.val (.int x0), .val (.int (0 : Int32)), .unset, .unset, .unset] [])) _
  refine XS.iconst X0.here hx rfl (hb hby at_11) ?_
  show Steps p.tables e below (T0.setTop (mkF m 12 #[.val (.int x0), .val (.int (0 : Int32)), .unset, .unset, .unset] [(.int (1 : Int32))])) _
  refine XS.goto X0.here hx rfl (pc0 := 12) (pc' := 26) rfl (hb hby at_12) (by decide) (by decide) ?_
  show Steps p.tables e below (T0.setTop (mkF m 26 #[.val (.int x0), .val (.int (0 : Int32)), .unset, .unset, .unset] [(.int (1 : Int32))])) _
  refine XS.istoreN X0.here hx rfl (hb hby at_26) rfl (l' := #[.val (.int x0), .val (.int (0 : Int32)), .val (.int (1 : Int32)), .unset, .unset]) rfl ?_
  show Steps p.tables e below (T0.setTop (mkF m 27 #[.val (.int x0), .val (.int (0 : Int32)), .val (.int (1 : Int32)), .unset, .unset] [])) _
  refine XS.iloadN X0.here hx rfl (hb hby at_27) rfl ?_
  show Steps p.tables e below (T0.setTop (mkF m 28 #[.val (.int x0), .val (.int (0 : Int32)), .val (.int (1 : Int32)), .unset, .unset] [(.int (0 : Int32))])) _
  refine XS.ifNo X0.here hx rfl (hb hby at_28) rfl ((if0 _ _).trans (teq (rfl : (0 : Int32) = (0 : Int32))).2) ?_
  show Steps p.tables e below (T0.setTop (mkF m 31 #[.val (.int x0), .val (.int (0 : Int32)), .val (.int (1 : Int32)), .unset, .unset] [])) _
  refine st1 _ ?_
  show Steps p.tables e below (T1.setTop (mkF m 34 #[.val (.int x0), .val (.int (0 : Int32)), .val (.int (1 : Int32)), .unset, .unset] [(.ref a)])) _
  refine XS.goto X1.here hx rfl (pc0 := 34) (pc' := 51) rfl (hb hby at_34) (by decide) (by decide) ?_
  show Steps p.tables e below (T1.setTop (mkF m 51 #[.val (.int x0), .val (.int (0 : Int32)), .val (.int (1 : Int32)), .unset, .unset] [(.ref a)])) _
  refine XS.astoreN X1.here hx rfl (hb hby at_51) rfl rfl (l' := #[.val (.int x0), .val (.int (0 : Int32)), .val (.int (1 : Int32)), .val (.ref a), .unset]) rfl ?_
  exact kt
set_option maxRecDepth 65536 in
set_option maxHeartbeats 40000000 in
theorem own_h1 (W0 : own_W p l e s m args below meth c n0 T0 h0) (hx : p.tables.exec = Jvm.exec) (hZ : Z.Warmed39 s.vm) (hw : ∀ d ∈ tables_1, d.before a0 Z = true) (hby : c.code = code) (hml : c.maxLocals = 5) (hown : s.vm.findClass "com/example/hollin/hollin/lang/LogicalVectorOfValuePinLaw" = some m.cls) (Z0 : n0 ≤ h0.size) (x0 : Int32) (a : Addr) (SA : Sta Z h0 "com/example/hollin/hollin/lang/LogicalVector" "FALSE" "Lcom/example/hollin/hollin/lang/LogicalVector;" (.ref a)) :
    ∃ (T' : State), own_W p l e s m args below meth c n0 T' h0 ∧ own_Ld p e below T0 (mkF m 7 #[.val (.int x0), .val (.int (1 : Int32)), .unset, .unset, .unset] []) T' (mkF m 52 #[.val (.int x0), .val (.int (1 : Int32)), .val (.int (0 : Int32)), .val (.ref a), .unset] []) := by
  obtain ⟨T1, W1, st1⟩ := own_gs W0 hx hZ hw hby hml hown Z0 (q := 42) (Ls := #[.val (.int x0), .val (.int (1 : Int32)), .val (.int (0 : Int32)), .unset, .unset]) a SA (hw _ (List.mem_of_getElem? (i := 41) rfl)) [] at_42
  refine ⟨T1, W1, fun t kt => ?_⟩
  obtain ⟨u0, X0, e0, N0⟩ := W0
  obtain ⟨u1, X1, e1, N1⟩ := W1
  show Steps p.tables e below (T0.setTop (mkF m 7 #[.val (.int x0), .val (.int (1 : Int32)), .unset, .unset, .unset] [])) _
  refine XS.iloadN X0.here hx rfl (hb hby at_7) rfl ?_
  show Steps p.tables e below (T0.setTop (mkF m 8 #[.val (.int x0), .val (.int (1 : Int32)), .unset, .unset, .unset] [(.int (1 : Int32))])) _
  refine XS.ifYes X0.here hx rfl (pc0 := 8) (pc' := 15) rfl (hb hby at_8) rfl ((if0 _ _).trans (feq (by decide : ¬ ((1 : Int32) = (0 : Int32)))).2) (by decide) (by decide) ?_
  show Steps p.tables e below (T0.setTop (mkF m 15 #[.val (.int x0), .val (.int (1 : Int32)), .unset, .unset, .unset] [])) _
  refine XS.iloadN X0.here hx rfl (hb hby at_15) rfl ?_
  show Steps p.tables e below (T0.setTop (mkF m 16 #[.val (.int x0), .val (.int (1 : Int32)), .unset, .unset, .unset] [(.int (1 : Int32))])) _
  refine XS.iconst X0.here hx rfl (hb hby at_16) ?_
  show Steps p.tables e below (T0.setTop (mkF m 17 #[.val (.int x0), .val (.int (1 : Int32)), .unset, .unset, .unset] [(.int (1 : Int32)), (.int (1 : Int32))])) _
  refine XS.icmpNo X0.here hx rfl (hb hby at_17) rfl (teq (rfl : (1 : Int32) = (1 : Int32))).2 ?_
  show Steps p.tables e below (T0.setTop (mkF m 20 #[.val (.int x0), .val (.int (1 : Int32)), .unset, .unset, .unset] [])) _
  refine XS.iconst X0.here hx rfl (hb hby at_20) ?_
  show Steps p.tables e below (T0.setTop (mkF m 21 #[.val (.int x0), .val (.int (1 : Int32)), .unset, .unset, .unset] [(.int (0 : Int32))])) _
  refine XS.goto X0.here hx rfl (pc0 := 21) (pc' := 26) rfl (hb hby at_21) (by decide) (by decide) ?_
  show Steps p.tables e below (T0.setTop (mkF m 26 #[.val (.int x0), .val (.int (1 : Int32)), .unset, .unset, .unset] [(.int (0 : Int32))])) _
  refine XS.istoreN X0.here hx rfl (hb hby at_26) rfl (l' := #[.val (.int x0), .val (.int (1 : Int32)), .val (.int (0 : Int32)), .unset, .unset]) rfl ?_
  show Steps p.tables e below (T0.setTop (mkF m 27 #[.val (.int x0), .val (.int (1 : Int32)), .val (.int (0 : Int32)), .unset, .unset] [])) _
  refine XS.iloadN X0.here hx rfl (hb hby at_27) rfl ?_
  show Steps p.tables e below (T0.setTop (mkF m 28 #[.val (.int x0), .val (.int (1 : Int32)), .val (.int (0 : Int32)), .unset, .unset] [(.int (1 : Int32))])) _
  refine XS.ifYes X0.here hx rfl (pc0 := 28) (pc' := 37) rfl (hb hby at_28) rfl ((if0 _ _).trans (feq (by decide : ¬ ((1 : Int32) = (0 : Int32)))).2) (by decide) (by decide) ?_
  show Steps p.tables e below (T0.setTop (mkF m 37 #[.val (.int x0), .val (.int (1 : Int32)), .val (.int (0 : Int32)), .unset, .unset] [])) _
  refine XS.iloadN X0.here hx rfl (hb hby at_37) rfl ?_
  show Steps p.tables e below (T0.setTop (mkF m 38 #[.val (.int x0), .val (.int (1 : Int32)), .val (.int (0 : Int32)), .unset, .unset] [(.int (1 : Int32))])) _
  refine XS.iconst X0.here hx rfl (hb hby at_38) ?_
  show Steps p.tables e below (T0.setTop (mkF m 39 #[.val (.int x0), .val (.int (1 : Int32)), .val (.int (0 : Int32)), .unset, .unset] [(.int (1 : Int32)), (.int (1 : Int32))])) _
  refine XS.icmpNo X0.here hx rfl (hb hby at_39) rfl (teq (rfl : (1 : Int32) = (1 : Int32))).2 ?_
  show Steps p.tables e below (T0.setTop (mkF m 42 #[.val (.int x0), .val (.int (1 : Int32)), .val (.int (0 : Int32)), .unset, .unset] [])) _
  refine st1 _ ?_
  show Steps p.tables e below (T1.setTop (mkF m 45 #[.val (.int x0), .val (.int (1 : Int32)), .val (.int (0 : Int32)), .unset, .unset] [(.ref a)])) _
  refine XS.goto X1.here hx rfl (pc0 := 45) (pc' := 51) rfl (hb hby at_45) (by decide) (by decide) ?_
  show Steps p.tables e below (T1.setTop (mkF m 51 #[.val (.int x0), .val (.int (1 : Int32)), .val (.int (0 : Int32)), .unset, .unset] [(.ref a)])) _
  refine XS.astoreN X1.here hx rfl (hb hby at_51) rfl rfl (l' := #[.val (.int x0), .val (.int (1 : Int32)), .val (.int (0 : Int32)), .val (.ref a), .unset]) rfl ?_
  exact kt
set_option maxRecDepth 65536 in
set_option maxHeartbeats 40000000 in
theorem own_h2 (W0 : own_W p l e s m args below meth c n0 T0 h0) (hx : p.tables.exec = Jvm.exec) (hZ : Z.Warmed39 s.vm) (hw : ∀ d ∈ tables_1, d.before a0 Z = true) (hby : c.code = code) (hml : c.maxLocals = 5) (hown : s.vm.findClass "com/example/hollin/hollin/lang/LogicalVectorOfValuePinLaw" = some m.cls) (Z0 : n0 ≤ h0.size) (x0 : Int32) (a : Addr) (SA : Sta Z h0 "com/example/hollin/hollin/lang/LogicalVector" "NA" "Lcom/example/hollin/hollin/lang/LogicalVector;" (.ref a)) :
    ∃ (T' : State), own_W p l e s m args below meth c n0 T' h0 ∧ own_Ld p e below T0 (mkF m 7 #[.val (.int x0), .val (.int (2 : Int32)), .unset, .unset, .unset] []) T' (mkF m 52 #[.val (.int x0), .val (.int (2 : Int32)), .val (.int (-2147483648 : Int32)), .val (.ref a), .unset] []) := by
  obtain ⟨T1, W1, st1⟩ := own_gs W0 hx hZ hw hby hml hown Z0 (q := 48) (Ls := #[.val (.int x0), .val (.int (2 : Int32)), .val (.int (-2147483648 : Int32)), .unset, .unset]) a SA (hw _ (List.mem_of_getElem? (i := 38) rfl)) [] at_48
  refine ⟨T1, W1, fun t kt => ?_⟩
  obtain ⟨u0, X0, e0, N0⟩ := W0
  obtain ⟨u1, X1, e1, N1⟩ := W1
  show Steps p.tables e below (T0.setTop (mkF m 7 #[.val (.int x0), .val (.int (2 : Int32)), .unset, .unset, .unset] [])) _
  refine XS.iloadN X0.here hx rfl (hb hby at_7) rfl ?_
  show Steps p.tables e below (T0.setTop (mkF m 8 #[.val (.int x0), .val (.int (2 : Int32)), .unset, .unset, .unset] [(.int (2 : Int32))])) _
  refine XS.ifYes X0.here hx rfl (pc0 := 8) (pc' := 15) rfl (hb hby at_8) rfl ((if0 _ _).trans (feq (by decide : ¬ ((2 : Int32) = (0 : Int32)))).2) (by decide) (by decide) ?_
  show Steps p.tables e below (T0.setTop (mkF m 15 #[.val (.int x0), .val (.int (2 : Int32)), .unset, .unset, .unset] [])) _
  refine XS.iloadN X0.here hx rfl (hb hby at_15) rfl ?_
  show Steps p.tables e below (T0.setTop (mkF m 16 #[.val (.int x0), .val (.int (2 : Int32)), .unset, .unset, .unset] [(.int (2 : Int32))])) _
  refine XS.iconst X0.here hx rfl (hb hby at_16) ?_
  show Steps p.tables e below (T0.setTop (mkF m 17 #[.val (.int x0), .val (.int (2 : Int32)), .unset, .unset, .unset] [(.int (1 : Int32)), (.int (2 : Int32))])) _
  refine XS.icmpYes X0.here hx rfl (pc0 := 17) (pc' := 24) rfl (hb hby at_17) rfl (feq (by decide : ¬ ((2 : Int32) = (1 : Int32)))).2 (by decide) (by decide) ?_
  show Steps p.tables e below (T0.setTop (mkF m 24 #[.val (.int x0), .val (.int (2 : Int32)), .unset, .unset, .unset] [])) _
  refine X0.ldcI hx hown (mvT hZ (hw _ (List.mem_of_getElem? (i := 37) rfl))) rfl (hb hby at_24) ?_
  show Steps p.tables e below (T0.setTop (mkF m 26 #[.val (.int x0), .val (.int (2 : Int32)), .unset, .unset, .unset] [(.int (-2147483648 : Int32))])) _
  refine XS.istoreN X0.here hx rfl (hb hby at_26) rfl (l' := #[.val (.int x0), .val (.int (2 : Int32)), .val (.int (-2147483648 : Int32)), .unset, .unset]) rfl ?_
  show Steps p.tables e below (T0.setTop (mkF m 27 #[.val (.int x0), .val (.int (2 : Int32)), .val (.int (-2147483648 : Int32)), .unset, .unset] [])) _
  refine XS.iloadN X0.here hx rfl (hb hby at_27) rfl ?_
  show Steps p.tables e below (T0.setTop (mkF m 28 #[.val (.int x0), .val (.int (2 : Int32)), .val (.int (-2147483648 : Int32)), .unset, .unset] [(.int (2 : Int32))])) _
  refine XS.ifYes X0.here hx rfl (pc0 := 28) (pc' := 37) rfl (hb hby at_28) rfl ((if0 _ _).trans (feq (by decide : ¬ ((2 : Int32) = (0 : Int32)))).2) (by decide) (by decide) ?_
  show Steps p.tables e below (T0.setTop (mkF m 37 #[.val (.int x0), .val (.int (2 : Int32)), .val (.int (-2147483648 : Int32)), .unset, .unset] [])) _
  refine XS.iloadN X0.here hx rfl (hb hby at_37) rfl ?_
  show Steps p.tables e below (T0.setTop (mkF m 38 #[.val (.int x0), .val (.int (2 : Int32)), .val (.int (-2147483648 : Int32)), .unset, .unset] [(.int (2 : Int32))])) _
  refine XS.iconst X0.here hx rfl (hb hby at_38) ?_
  show Steps p.tables e below (T0.setTop (mkF m 39 #[.val (.int x0), .val (.int (2 : Int32)), .val (.int (-2147483648 : Int32)), .unset, .unset] [(.int (1 : Int32)), (.int (2 : Int32))])) _
  refine XS.icmpYes X0.here hx rfl (pc0 := 39) (pc' := 48) rfl (hb hby at_39) rfl (feq (by decide : ¬ ((2 : Int32) = (1 : Int32)))).2 (by decide) (by decide) ?_
  show Steps p.tables e below (T0.setTop (mkF m 48 #[.val (.int x0), .val (.int (2 : Int32)), .val (.int (-2147483648 : Int32)), .unset, .unset] [])) _
  refine st1 _ ?_
  show Steps p.tables e below (T1.setTop (mkF m 51 #[.val (.int x0), .val (.int (2 : Int32)), .val (.int (-2147483648 : Int32)), .unset, .unset] [(.ref a)])) _
  refine XS.astoreN X1.here hx rfl (hb hby at_51) rfl rfl (l' := #[.val (.int x0), .val (.int (2 : Int32)), .val (.int (-2147483648 : Int32)), .val (.ref a), .unset]) rfl ?_
  exact kt
end Law
def Q0 (h0 : Heap) (n0 : Nat) (v : Option Value) (h : Heap) (L : List Loc) : Prop := v = some (.int 1) ∧ Fr n0 L
set_option maxRecDepth 65536 in
set_option maxHeartbeats 40000000 in
theorem rm0 (l : Launch) (Z : State) (a0 : Array Value) (hw : ∀ d ∈ tables_1, d.before a0 Z = true) (ws : List Jvm.Cond) (x0 : Int32) (aT aF aN aR : Addr) (h0 : Heap) (n0 : Nat) (Z0 : n0 ≤ h0.size) (ST : Sta Z h0 "com/example/hollin/hollin/lang/LogicalVector" "TRUE" "Lcom/example/hollin/hollin/lang/LogicalVector;" (.ref aT)) (SF : Sta Z h0 "com/example/hollin/hollin/lang/LogicalVector" "FALSE" "Lcom/example/hollin/hollin/lang/LogicalVector;" (.ref aF)) (SN : Sta Z h0 "com/example/hollin/hollin/lang/LogicalVector" "NA" "Lcom/example/hollin/hollin/lang/LogicalVector;" (.ref aN)) (SR : Sta Z h0 "com/example/hollin/hollin/lang/RType" "LOGICAL" "Lcom/example/hollin/hollin/lang/RType;" (.ref aR)) (VT : own_LV Z h0 aT 1) (VF : own_LV Z h0 aF 0) (VN : own_LV Z h0 aN (-2147483648 : Int32)) :
    MetFree l x (head1 (Jvm.Cond.code x code 5 ret :: ws) room_1) (fun a U => a = #[(.int x0)] ∧ Z.Warmed39 U.vm ∧ U.heap = h0) (fun _ _ _ _ _ => True) (fun _ U o U' => ∃ v L, o = .returned v ∧ Q0  h0 n0 v U'.heap L ∧ FrameEnd U o U' L room_1.cells room_1.slots) := by
  refine MetFree.of_bodySF (plainFor_of_name pn_0) hisR ?_
  intro p e s m args below meth c s₁ Bd hml0 hP hK
  obtain ⟨rfl, hZ, hh⟩ := hP
  have hx := Bd.exec
  have hby := Bd.bytes
  have hml : c.maxLocals = 5 := hml0
  have hown : s.vm.findClass "com/example/hollin/hollin/lang/LogicalVectorOfValuePinLaw" = some m.cls := findClass_of_methodNamed Bd.named
  have hnm := (name_of_methodNamed Bd.named Bd.method).1
  have X0 : Stand p l e room_1 s m #[(.int x0)] below meth c s₁ [] 0 0 := Stand.of_body Bd
  have e0 : s₁.heap = h0 := by rw [← hh, Bd.state]; rfl
  have N0 := Fr.nil n0
  have pre0 : ∀ t, Steps p.tables e below (s₁.setTop (mkF m 0 #[.val (.int x0), .unset, .unset, .unset, .unset] [])) t → Steps p.tables e below (s₁.setTop (entryFrame m #[(.int x0)] 5)) t := fun t kt0 => castTop (ef_0 m x0) kt0

  have W0 : own_W p l e s m #[(.int x0)] below meth c n0 s₁ h0 := ⟨[], X0, e0, N0⟩
  have hk3 := own_k3 x0
  obtain ⟨k, hk⟩ : ∃ k : Int32, ((x0 &&& (2147483647 : Int32)) - ((x0 &&& (2147483647 : Int32)) / (3 : Int32)) * (3 : Int32)) = k := ⟨_, rfl⟩
  rw [hk] at hk3
  have hmid : ∃ (T' : State) (v : Int32) (a : Addr), own_W p l e s m #[(.int x0)] below meth c n0 T' h0 ∧ own_Ld p e below s₁ (mkF m 7 #[.val (.int x0), .val (.int k), .unset, .unset, .unset] []) T' (mkF m 126 #[.val (.int x0), .val (.int k), .val (.int v), .val (.ref a), .val (.ref a)] [(.int (1 : Int32))]) := by
    rcases hk3 with rfl | rfl | rfl
    · obtain ⟨T1, W1, st1⟩ := own_h0 W0 hx hZ hw hby hml hown Z0 x0 aT ST
      obtain ⟨T2, W2, st2⟩ := own_tail W1 hx hZ hw hby hml hown Z0 x0 (0 : Int32) (1 : Int32) aT aT aF aN aR (by simp [own_sel]) VT (by decide) ST SF SN SR
      exact ⟨T2, _, _, W2, fun t kt => st1 t (st2 t kt)⟩
    · obtain ⟨T1, W1, st1⟩ := own_h1 W0 hx hZ hw hby hml hown Z0 x0 aF SF
      obtain ⟨T2, W2, st2⟩ := own_tail W1 hx hZ hw hby hml hown Z0 x0 (1 : Int32) (0 : Int32) aF aT aF aN aR (by simp [own_sel]) VF (by decide) ST SF SN SR
      exact ⟨T2, _, _, W2, fun t kt => st1 t (st2 t kt)⟩
    · obtain ⟨T1, W1, st1⟩ := own_h2 W0 hx hZ hw hby hml hown Z0 x0 aN SN
      obtain ⟨T2, W2, st2⟩ := own_tail W1 hx hZ hw hby hml hown Z0 x0 (2 : Int32) (-2147483648 : Int32) aN aT aF aN aR (by simp [own_sel]) VN (by decide) ST SF SN SR
      exact ⟨T2, _, _, W2, fun t kt => st1 t (st2 t kt)⟩
  obtain ⟨T', v, a, ⟨lE, XE, eE, NE⟩, st⟩ := hmid
  obtain ⟨fs, hr, hrun, hended, hW, hsame⟩ := XE.leave (v := some (.int (1 : Int32))) (fun h => by rw [Bd.returns] at h; cases h)
  refine ⟨_, _, pre0 _ ?_, hrun, hended, _, _, rfl, ?_, ⟨_, rfl⟩, hW, hsame.mono (by decide) (by decide)⟩
  rotate_left
  · show Q0 h0 n0 _ T'.heap _
    exact ⟨rfl, NE⟩
  show Steps p.tables e below (s₁.setTop (mkF m 0 #[.val (.int x0), .unset, .unset, .unset, .unset] [])) _
  refine XS.iloadN X0.here hx rfl (hb hby at_0) rfl ?_
  show Steps p.tables e below (s₁.setTop (mkF m 1 #[.val (.int x0), .unset, .unset, .unset, .unset] [(.int x0)])) _
  refine X0.ldcI hx hown (mvT hZ (hw _ (List.mem_of_getElem? (i := 0) rfl))) rfl (hb hby at_1) ?_
  show Steps p.tables e below (s₁.setTop (mkF m 3 #[.val (.int x0), .unset, .unset, .unset, .unset] [(.int (2147483647 : Int32)), (.int x0)])) _
  refine XS.iand X0.here hx rfl (hb hby at_3) rfl ?_
  show Steps p.tables e below (s₁.setTop (mkF m 4 #[.val (.int x0), .unset, .unset, .unset, .unset] [(.int (x0 &&& (2147483647 : Int32)))])) _
  refine XS.iconst X0.here hx rfl (hb hby at_4) ?_
  show Steps p.tables e below (s₁.setTop (mkF m 5 #[.val (.int x0), .unset, .unset, .unset, .unset] [(.int (3 : Int32)), (.int (x0 &&& (2147483647 : Int32)))])) _
  refine XS.irem X0.here hx rfl (hb hby at_5) rfl (by decide) ?_
  show Steps p.tables e below (s₁.setTop (mkF m 6 #[.val (.int x0), .unset, .unset, .unset, .unset] [(.int ((x0 &&& (2147483647 : Int32)) - ((x0 &&& (2147483647 : Int32)) / (3 : Int32)) * (3 : Int32)))])) _
  rw [hk]
  show Steps p.tables e below (s₁.setTop (mkF m 6 #[.val (.int x0), .unset, .unset, .unset, .unset] [(.int k)])) _
  refine XS.istoreN X0.here hx rfl (hb hby at_6) rfl (l' := #[.val (.int x0), .val (.int k), .unset, .unset, .unset]) rfl ?_
  refine st _ ?_
  exact retN XE hx (t := .boolean) Bd.returns (by simp) (hb hby at_126) hr
theorem own_eqi {args : Array Value} {s : State} {t : Term} {n : Int32} (h : (Cond.eq t (.int n)).value args s none s [] = some true) : t.eval args s none [] s = some (.int n) := by
  obtain ⟨a, b, ea, eb, -, kin⟩ := cmp_v (Or.inl h)
  cases eb
  obtain ⟨z, rfl⟩ := kin
  have q := h
  simp [Cond.value, ea, Term.eval] at q
  rw [ea, q]
theorem own_start {args : Array Value} {s : State} {f : String} {v : Int32} (c1 : (Cond.exactly (Term.static "com/example/hollin/hollin/lang/LogicalVector" f "Lcom/example/hollin/hollin/lang/LogicalVector;") "com/example/hollin/hollin/lang/LogicalVector").value args s none s [] = some true) (c2 : (Cond.eq (Term.field (Term.static "com/example/hollin/hollin/lang/LogicalVector" f "Lcom/example/hollin/hollin/lang/LogicalVector;") "com/example/hollin/hollin/lang/LogicalVector" "length" "I") (.int 1)).value args s none s [] = some true)
    (c3 : (Cond.arrayOf (Term.field (Term.static "com/example/hollin/hollin/lang/LogicalVector" f "Lcom/example/hollin/hollin/lang/LogicalVector;") "com/example/hollin/hollin/lang/LogicalVector" "values" "[I") .int).value args s none s [] = some true) (c4 : (Cond.eq (Term.elem (Term.field (Term.static "com/example/hollin/hollin/lang/LogicalVector" f "Lcom/example/hollin/hollin/lang/LogicalVector;") "com/example/hollin/hollin/lang/LogicalVector" "values" "[I") (.int 0)) (.int v)).value args s none s [] = some true)
    (w1 : (Cond.initialized "com/example/hollin/hollin/lang/LogicalVector").before args s = true) (w2 : (Cond.laysStatic "com/example/hollin/hollin/lang/LogicalVector" f "Lcom/example/hollin/hollin/lang/LogicalVector;").before args s = true) : ∃ a : Addr, Sta s s.heap "com/example/hollin/hollin/lang/LogicalVector" f "Lcom/example/hollin/hollin/lang/LogicalVector;" (.ref a) ∧ own_LV s s.heap a v := by
  obtain ⟨a, ev⟩ := exa_v c1
  have f1 := own_eqi c2
  rw [fld_at ev] at f1
  obtain ⟨b, eb⟩ := arr_v c3
  have f2 := eb
  rw [fld_at ev] at f2
  obtain ⟨cl, Ar⟩ := Arr.start eb c3
  obtain ⟨hin, hat⟩ := elem_in (own_eqi c4) eb rfl Ar.1
  exact ⟨a, Sta.start ev (Or.inr ⟨w1, w2⟩), Exa.start ev c1, Fld.start f1, b, cl, Fld.start f2, Ar, hin, hat⟩
set_option maxRecDepth 65536 in
set_option maxHeartbeats 40000000 in
theorem comes_1 {Post : Tables → Env → Array Value → State → Outcome → State → Prop} (hpost : ∀ tb e args s v u, (limb_1_1.after args s (.returned v) u = true ∧ limb_1_2.after args s (.returned v) u = true ∧ True) → FrameEnd s (.returned v) u (Jvm.fieldLocs frame_1_writes args s ++ Jvm.arrayLocs frame_1_arrays args s ++ Jvm.staticLocs frame_1_statics s) 0 0 → Post tb e args s (.returned v) u) :
    ArmFor flags0 classFile x code maxLocals ret World_1 tables_1 room_1 Calls_1 rest_1 Pre_1 Post := by
  intro l hfl _ _ p e ha hc hk s m args below hf hA hF happ hP
  obtain ⟨hcalls, hrest, hpre⟩ := hP
  obtain ⟨-, -, -, hnamed, -, -, -, hat⟩ := (Spec.applies_iff hf).mp happ
  obtain ⟨hg, hn⟩ := and_e (Cond.before_iff.mp (show (Jvm.Cond.and given_1 narrow_1).before args s = true from hpre))
  obtain ⟨h1, h2⟩ := and_e hg
  obtain ⟨w0, rfl⟩ : ∃ w0 : Value, args = #[w0] := by
    have hs : args.size = 1 := by simpa [Cond.value, given_1] using h1
    obtain ⟨L⟩ := args
    match L, hs with
    | [w0], _ => exact ⟨w0, rfl⟩
  have hw := fun d (hd : d ∈ tables_1) => atoms_spec (ws := Jvm.Cond.code x code maxLocals ret :: tables_1) hat d (List.mem_cons_of_mem _ hd)
  obtain ⟨i4, e3⟩ := is_v h2
  obtain rfl : w0 = (.int i4) := Option.some.inj e3
  obtain ⟨t1, hn⟩ := and_e hn
  obtain ⟨t2, hn⟩ := and_e hn
  obtain ⟨t3, hn⟩ := and_e hn
  obtain ⟨t4, hn⟩ := and_e hn
  obtain ⟨t5, hn⟩ := and_e hn
  obtain ⟨r1, hn⟩ := and_e hn
  obtain ⟨n1, hn⟩ := and_e hn
  obtain ⟨n2, hn⟩ := and_e hn
  obtain ⟨n3, hn⟩ := and_e hn
  obtain ⟨n4, hn⟩ := and_e hn
  obtain ⟨n5, hn⟩ := and_e hn
  obtain ⟨f1, hn⟩ := and_e hn
  obtain ⟨f2, hn⟩ := and_e hn
  obtain ⟨f3, hn⟩ := and_e hn
  obtain ⟨f4, f5⟩ := and_e hn
  obtain ⟨aT, ST, VT⟩ := own_start t1 t2 t3 t5 (hw _ (List.mem_of_getElem? (i := 2) rfl)) (hw _ (List.mem_of_getElem? (i := 3) rfl))
  obtain ⟨aN, SN, VN⟩ := own_start n1 n2 n3 n5 (hw _ (List.mem_of_getElem? (i := 2) rfl)) (hw _ (List.mem_of_getElem? (i := 39) rfl))
  obtain ⟨aF, SF, VF⟩ := own_start f1 f2 f3 f5 (hw _ (List.mem_of_getElem? (i := 2) rfl)) (hw _ (List.mem_of_getElem? (i := 42) rfl))
  obtain ⟨aR, er⟩ := exa_v r1
  have SR := Sta.start er (Or.inr ⟨(hw _ (List.mem_of_getElem? (i := 34) rfl)), (hw _ (List.mem_of_getElem? (i := 35) rfl))⟩)
  obtain ⟨n, o, h1, h2, h3, _, L, rfl, ⟨rfl, N⟩, hq⟩ := rm0 l s _ hw tables_1 i4 aT aF aN aR s.heap s.heap.size (Nat.le_refl _) ST SF SN SR VT VF VN p e ha hc hk s m _ below hf ((Spec.applies_iff_loose hf).mp happ).1 ⟨rfl, State.Warmed39.refl s, rfl⟩ trivial
  refine ⟨n, _, h1, h2, h3, hpost _ _ _ _ _ _ ⟨Cond.after_iff.mpr rfl, Cond.after_iff.mpr (eq_i res_at (Term.int_eval (1)) rfl), trivial⟩ ⟨hq.1, hq.2.1, (hq.2.2.sift fun y hy => Or.inr (N y hy)).mono (by decide) (by decide)⟩⟩
theorem main_1_1 : Claimed_1_1 := comes_1 fun _ _ _ _ _ _ h hF => ⟨h.1, hF⟩
theorem main_1_2 : Claimed_1_2 := comes_1 fun _ _ _ _ _ _ h hF => ⟨h.2.1, hF⟩
end Jvm.Pilot.@@N@@
namespace Jvm.Pilot.@@N@@
open Jvm Jvm.ClassFile Sem Op Lib Jvm.Free Jvm.Stand Jvm.Pilot.@@N@@.Jvm.D
/-! MADE BY PROGRAM (witnessworld.py) out of the Statement's table words and the real class files: 16 classes; the members and pool entries that the words name. The judged class is class 1, her method 1. -/
namespace start1
open Jvm.ClassFile
def u (s : String) : CpInfo := .utf8 (stringToUtf16 s)
/-- a pool by its gaps: so many unusable entries, then the entry; so many at the end -/
def gap : Nat → List CpInfo → List CpInfo
  | 0, r => r
  | n + 1, r => .unusable :: gap n r
def poolList (es : List (Nat × CpInfo)) (last : Nat) : List CpInfo := es.foldr (fun e r => gap e.1 (e.2 :: r)) (gap last [])
def pool (es : List (Nat × CpInfo)) (last : Nat) : Array CpInfo := ⟨poolList es last⟩
def fileOf (pool : Array CpInfo) (this : Nat) (attrs : Array Attribute := #[]) (ms : Array MethodInfo := #[]) (fl : Nat := 33) (sup : Nat := 0) (ifs : Array Nat := #[]) (fds : Array FieldInfo := #[]) : ClassFile where
  minorVersion := 0
  majorVersion := 65
  constantPool := pool
  accessFlags := fl
  thisClass := this
  superClass := sup
  interfaces := ifs
  fields := fds
  methods := ms
  attributes := attrs
def plain (name : String) (sup : Option ClassId) : Class where
  name := name
  kind := .ordinary
  loader := none
  accessFlags := 33
  super := sup
  interfaces := #[]
  cf := none
  fields := #[]
  methods := #[]
  instanceTypes := #[]
  staticTypes := #[]
  resolved := #[]
  callSites := []
  init := .initialized
  statics := none
  mirror := none

def pool0 : Array CpInfo := pool [(5, u "<init>"), (0, u "()V"), (1, .class_ 10), (1, u "java/lang/Object")] 113

def k0m0 : Method := { name := "<init>", desc := "()V", sig := { parameters := [], returnType := none }, accessFlags := 1, code := none }
/-- java/lang/Object -/
def k0 : Class := { plain "java/lang/Object" none with
  accessFlags := 33
  interfaces := #[]
  cf := some (fileOf pool0 8 #[] #[{ accessFlags := 1, nameIndex := 5, descriptorIndex := 6, attributes := #[] }] 33 0 #[] #[])
  fields := #[]
  methods := #[k0m0]
  instanceTypes := #[]
  staticTypes := #[]
  resolved := Array.replicate 124 none
  statics := none }

def pool1 : Array CpInfo := pool [(2, .class_ 4), (1, u "java/lang/Object"), (0, u "<init>"), (0, u "()V"), (0, .integer 2147483647), (2, .integer 2147483648), (0, .fieldref 12 13), (0, .class_ 14), (0, .nameAndType 15 16), (0, u "com/example/hollin/hollin/lang/LogicalVector"), (0, u "TRUE"), (0, u "Lcom/example/hollin/hollin/lang/LogicalVector;"), (0, .fieldref 12 18), (0, .nameAndType 19 16), (0, u "FALSE"), (0, .fieldref 12 21), (0, .nameAndType 22 16), (0, u "NA"), (0, .methodref 12 24), (0, .nameAndType 25 26), (0, u "ofValue"), (0, u "(I)Lcom/example/hollin/hollin/lang/LogicalVector;"), (0, .methodref 12 28), (0, .nameAndType 29 30), (0, u "length"), (0, u "()I"), (0, .methodref 12 32), (0, .nameAndType 33 34), (0, u "get"), (0, u "(I)I"), (0, .methodref 12 36), (0, .nameAndType 37 38), (0, u "isNA"), (0, u "(I)Z"), (0, .methodref 12 40), (0, .nameAndType 41 42), (0, u "type"), (0, u "()Lcom/example/hollin/hollin/lang/RType;"), (0, .fieldref 44 45), (0, .class_ 46), (0, .nameAndType 47 48), (0, u "com/example/hollin/hollin/lang/RType"), (0, u "LOGICAL"), (0, u "Lcom/example/hollin/hollin/lang/RType;"), (0, .class_ 50), (0, u "com/example/hollin/hollin/lang/LogicalVectorOfValuePinLaw"), (2, u "law")] 3

def k1m0 : Method := { name := "<init>", desc := "()V", sig := { parameters := [], returnType := none }, accessFlags := 1, code := none }
def k1c1 : Code := { maxStack := 3, maxLocals := 5, code := code, exceptionTable := #[], attributes := #[] }
def k1m1 : Method := { name := "law", desc := "(I)Z", sig := { parameters := [.int], returnType := some .boolean }, accessFlags := 9, code := some k1c1 }
/-- com/example/hollin/hollin/lang/LogicalVectorOfValuePinLaw -/
def k1 : Class := { plain "com/example/hollin/hollin/lang/LogicalVectorOfValuePinLaw" (some 0) with
  accessFlags := 49
  interfaces := #[]
  cf := some (fileOf pool1 49 #[] #[{ accessFlags := 1, nameIndex := 5, descriptorIndex := 6, attributes := #[] }, { accessFlags := 9, nameIndex := 53, descriptorIndex := 38, attributes := #[] }] 49 2 #[] #[])
  fields := #[]
  methods := #[k1m0, k1m1]
  instanceTypes := #[]
  staticTypes := #[]
  resolved := Array.replicate 57 none
  statics := none }

def pool2 : Array CpInfo := pool [(2, .class_ 4), (1, u "java/lang/Object"), (0, u "<init>"), (0, u "()V"), (0, .class_ 8), (0, u "com/example/hollin/hollin/lang/RObject")] 6

def k2m0 : Method := { name := "<init>", desc := "()V", sig := { parameters := [], returnType := none }, accessFlags := 1, code := none }
/-- com/example/hollin/hollin/lang/RObject -/
def k2 : Class := { plain "com/example/hollin/hollin/lang/RObject" (some 0) with
  accessFlags := 1057
  interfaces := #[]
  cf := some (fileOf pool2 7 #[] #[{ accessFlags := 1, nameIndex := 5, descriptorIndex := 6, attributes := #[] }] 1057 2 #[] #[])
  fields := #[]
  methods := #[k2m0]
  instanceTypes := #[]
  staticTypes := #[]
  resolved := Array.replicate 15 none
  statics := none }

def pool3 : Array CpInfo := pool [(4, .class_ 6), (1, u "com/example/hollin/hollin/lang/RObject"), (2, .class_ 10), (0, u "com/example/hollin/hollin/lang/Vector"), (2, u "holders"), (0, u "B"), (2, u "attributes"), (0, u "Lcom/example/hollin/hollin/lang/Attributes;"), (9, u "leases"), (0, u "S"), (79, u "NO_HOLDER"), (2, u "ONE_HOLDER"), (1, u "SHARED"), (1, u "MINIMUM_GROWTH"), (0, u "J"), (0, u "MAX_CAPACITY"), (0, u "I")] 33

/-- com/example/hollin/hollin/lang/Vector -/
def k3 : Class := { plain "com/example/hollin/hollin/lang/Vector" (some 2) with
  accessFlags := 1057
  interfaces := #[]
  cf := some (fileOf pool3 9 #[] #[] 1057 4 #[] #[{ accessFlags := 26, nameIndex := 109, descriptorIndex := 14, attributes := #[] }, { accessFlags := 26, nameIndex := 112, descriptorIndex := 14, attributes := #[] }, { accessFlags := 26, nameIndex := 114, descriptorIndex := 14, attributes := #[] }, { accessFlags := 26, nameIndex := 116, descriptorIndex := 117, attributes := #[] }, { accessFlags := 26, nameIndex := 118, descriptorIndex := 119, attributes := #[] }, { accessFlags := 18, nameIndex := 17, descriptorIndex := 18, attributes := #[] }, { accessFlags := 2, nameIndex := 13, descriptorIndex := 14, attributes := #[] }, { accessFlags := 2, nameIndex := 28, descriptorIndex := 29, attributes := #[] }])
  fields := #[{ name := "NO_HOLDER", type := .byte, accessFlags := 26, slot := 0, constantValue := 0 }, { name := "ONE_HOLDER", type := .byte, accessFlags := 26, slot := 1, constantValue := 0 }, { name := "SHARED", type := .byte, accessFlags := 26, slot := 2, constantValue := 0 }, { name := "MINIMUM_GROWTH", type := .long, accessFlags := 26, slot := 3, constantValue := 0 }, { name := "MAX_CAPACITY", type := .int, accessFlags := 26, slot := 4, constantValue := 0 }, { name := "attributes", type := (.object "com/example/hollin/hollin/lang/Attributes"), accessFlags := 18, slot := 0, constantValue := 0 }, { name := "holders", type := .byte, accessFlags := 2, slot := 1, constantValue := 0 }, { name := "leases", type := .short, accessFlags := 2, slot := 2, constantValue := 0 }]
  methods := #[]
  instanceTypes := #[(.object "com/example/hollin/hollin/lang/Attributes"), .byte, .short]
  staticTypes := #[.byte, .byte, .byte, .long, .int]
  resolved := Array.replicate 153 none
  statics := none }

def pool4 : Array CpInfo := pool [(2, .class_ 4), (1, u "com/example/hollin/hollin/lang/Vector"), (3, .class_ 10), (1, u "com/example/hollin/hollin/lang/AtomicVector")] 22

/-- com/example/hollin/hollin/lang/AtomicVector -/
def k4 : Class := { plain "com/example/hollin/hollin/lang/AtomicVector" (some 3) with
  accessFlags := 1057
  interfaces := #[]
  cf := some (fileOf pool4 8 #[] #[] 1057 2 #[] #[])
  fields := #[]
  methods := #[]
  instanceTypes := #[(.object "com/example/hollin/hollin/lang/Attributes"), .byte, .short]
  staticTypes := #[]
  resolved := Array.replicate 33 none
  statics := none }

def pool5 : Array CpInfo := pool [(10, .class_ 12), (1, u "com/example/hollin/hollin/lang/LogicalVector"), (6, .class_ 21), (1, u "com/example/hollin/hollin/lang/AtomicVector"), (1, .fieldref 10 24), (0, .nameAndType 25 26), (0, u "values"), (0, u "[I"), (0, .fieldref 10 28), (0, .nameAndType 29 30), (0, u "length"), (0, u "I"), (0, .fieldref 10 32), (0, .nameAndType 33 34), (0, u "TRUE"), (0, u "Lcom/example/hollin/hollin/lang/LogicalVector;"), (0, .fieldref 10 36), (0, .nameAndType 37 34), (0, u "FALSE"), (0, .fieldref 10 39), (0, .nameAndType 40 34), (0, u "NA"), (0, .integer 2147483648), (27, u "(I)I"), (0, .fieldref 71 72), (0, .class_ 73), (0, .nameAndType 74 75), (0, u "com/example/hollin/hollin/lang/RType"), (0, u "LOGICAL"), (0, u "Lcom/example/hollin/hollin/lang/RType;"), (3, u "(I)Lcom/example/hollin/hollin/lang/LogicalVector;"), (12, u "TRUE_VALUE"), (2, u "FALSE_VALUE"), (1, u "NA_VALUE"), (5, u "ofValue"), (0, u "get"), (0, u "()I"), (0, u "isNA"), (0, u "(I)Z"), (5, u "type"), (0, u "()Lcom/example/hollin/hollin/lang/RType;")] 11

def k5c0 : Code := { maxStack := 2, maxLocals := 1, code := prog_24_method_5_code, exceptionTable := #[], attributes := #[] }
def k5m0 : Method := { name := "ofValue", desc := "(I)Lcom/example/hollin/hollin/lang/LogicalVector;", sig := { parameters := [.int], returnType := some (.object "com/example/hollin/hollin/lang/LogicalVector") }, accessFlags := 9, code := some k5c0 }
def k5c1 : Code := { maxStack := 2, maxLocals := 2, code := prog_24_method_6_code, exceptionTable := #[], attributes := #[] }
def k5m1 : Method := { name := "get", desc := "(I)I", sig := { parameters := [.int], returnType := some .int }, accessFlags := 1, code := some k5c1 }
def k5c2 : Code := { maxStack := 1, maxLocals := 1, code := prog_24_method_7_code, exceptionTable := #[], attributes := #[] }
def k5m2 : Method := { name := "length", desc := "()I", sig := { parameters := [], returnType := some .int }, accessFlags := 1, code := some k5c2 }
def k5c3 : Code := { maxStack := 2, maxLocals := 2, code := prog_24_method_8_code, exceptionTable := #[], attributes := #[] }
def k5m3 : Method := { name := "isNA", desc := "(I)Z", sig := { parameters := [.int], returnType := some .boolean }, accessFlags := 1, code := some k5c3 }
def k5c4 : Code := { maxStack := 1, maxLocals := 1, code := prog_24_method_15_code, exceptionTable := #[], attributes := #[] }
def k5m4 : Method := { name := "type", desc := "()Lcom/example/hollin/hollin/lang/RType;", sig := { parameters := [], returnType := some (.object "com/example/hollin/hollin/lang/RType") }, accessFlags := 1, code := some k5c4 }
/-- com/example/hollin/hollin/lang/LogicalVector -/
def k5 : Class := { plain "com/example/hollin/hollin/lang/LogicalVector" (some 4) with
  accessFlags := 49
  interfaces := #[]
  cf := some (fileOf pool5 10 #[] #[{ accessFlags := 9, nameIndex := 103, descriptorIndex := 79, attributes := #[] }, { accessFlags := 1, nameIndex := 104, descriptorIndex := 69, attributes := #[] }, { accessFlags := 1, nameIndex := 29, descriptorIndex := 105, attributes := #[] }, { accessFlags := 1, nameIndex := 106, descriptorIndex := 107, attributes := #[] }, { accessFlags := 1, nameIndex := 113, descriptorIndex := 114, attributes := #[] }] 49 19 #[] #[{ accessFlags := 25, nameIndex := 92, descriptorIndex := 30, attributes := #[] }, { accessFlags := 25, nameIndex := 95, descriptorIndex := 30, attributes := #[] }, { accessFlags := 25, nameIndex := 97, descriptorIndex := 30, attributes := #[] }, { accessFlags := 25, nameIndex := 33, descriptorIndex := 34, attributes := #[] }, { accessFlags := 25, nameIndex := 37, descriptorIndex := 34, attributes := #[] }, { accessFlags := 25, nameIndex := 40, descriptorIndex := 34, attributes := #[] }, { accessFlags := 2, nameIndex := 25, descriptorIndex := 26, attributes := #[] }, { accessFlags := 2, nameIndex := 29, descriptorIndex := 30, attributes := #[] }])
  fields := #[{ name := "TRUE_VALUE", type := .int, accessFlags := 25, slot := 0, constantValue := 0 }, { name := "FALSE_VALUE", type := .int, accessFlags := 25, slot := 1, constantValue := 0 }, { name := "NA_VALUE", type := .int, accessFlags := 25, slot := 2, constantValue := 0 }, { name := "TRUE", type := (.object "com/example/hollin/hollin/lang/LogicalVector"), accessFlags := 25, slot := 3, constantValue := 0 }, { name := "FALSE", type := (.object "com/example/hollin/hollin/lang/LogicalVector"), accessFlags := 25, slot := 4, constantValue := 0 }, { name := "NA", type := (.object "com/example/hollin/hollin/lang/LogicalVector"), accessFlags := 25, slot := 5, constantValue := 0 }, { name := "values", type := (.array .int), accessFlags := 2, slot := 3, constantValue := 0 }, { name := "length", type := .int, accessFlags := 2, slot := 4, constantValue := 0 }]
  methods := #[k5m0, k5m1, k5m2, k5m3, k5m4]
  instanceTypes := #[(.object "com/example/hollin/hollin/lang/Attributes"), .byte, .short, (.array .int), .int]
  staticTypes := #[.int, .int, .int, (.object "com/example/hollin/hollin/lang/LogicalVector"), (.object "com/example/hollin/hollin/lang/LogicalVector"), (.object "com/example/hollin/hollin/lang/LogicalVector")]
  resolved := Array.replicate 126 none
  statics := some 0 }

def pool6 : Array CpInfo := pool [(1, .class_ 2), (0, u "java/lang/constant/Constable"), (0, .class_ 4), (0, u "java/lang/Object")] 6

/-- java/lang/constant/Constable -/
def k6 : Class := { plain "java/lang/constant/Constable" (some 0) with
  accessFlags := 1537
  interfaces := #[]
  cf := some (fileOf pool6 1 #[] #[] 1537 3 #[] #[])
  fields := #[]
  methods := #[]
  instanceTypes := #[]
  staticTypes := #[]
  resolved := Array.replicate 11 none
  statics := none }

def pool7 : Array CpInfo := pool [(1, .class_ 2), (0, u "java/lang/Comparable"), (0, .class_ 4), (0, u "java/lang/Object")] 7

/-- java/lang/Comparable -/
def k7 : Class := { plain "java/lang/Comparable" (some 0) with
  accessFlags := 1537
  interfaces := #[]
  cf := some (fileOf pool7 1 #[] #[] 1537 3 #[] #[])
  fields := #[]
  methods := #[]
  instanceTypes := #[]
  staticTypes := #[]
  resolved := Array.replicate 12 none
  statics := none }

def pool8 : Array CpInfo := pool [(1, .class_ 2), (0, u "java/io/Serializable"), (0, .class_ 4), (0, u "java/lang/Object")] 2

/-- java/io/Serializable -/
def k8 : Class := { plain "java/io/Serializable" (some 0) with
  accessFlags := 1537
  interfaces := #[]
  cf := some (fileOf pool8 1 #[] #[] 1537 3 #[] #[])
  fields := #[]
  methods := #[]
  instanceTypes := #[]
  staticTypes := #[]
  resolved := Array.replicate 7 none
  statics := none }

def pool9 : Array CpInfo := pool [(2, .class_ 4), (1, u "java/lang/Enum"), (0, u "name"), (0, u "Ljava/lang/String;"), (2, u "ordinal"), (0, u "I"), (1, .class_ 14), (1, u "java/lang/Object"), (4, u "hash"), (86, .class_ 108), (1, u "java/lang/Enum$EnumDesc"), (2, .class_ 112), (0, u "java/lang/constant/Constable"), (0, .class_ 114), (0, u "java/lang/Comparable"), (0, .class_ 116), (0, u "java/io/Serializable")] 87

/-- java/lang/Enum -/
def k9 : Class := { plain "java/lang/Enum" (some 0) with
  accessFlags := 1057
  interfaces := #[6, 7, 8]
  cf := some (fileOf pool9 2 #[.nestMembers #[106]] #[] 1057 12 #[111, 113, 115] #[{ accessFlags := 18, nameIndex := 5, descriptorIndex := 6, attributes := #[] }, { accessFlags := 18, nameIndex := 9, descriptorIndex := 10, attributes := #[] }, { accessFlags := 2, nameIndex := 19, descriptorIndex := 10, attributes := #[] }])
  fields := #[{ name := "name", type := (.object "java/lang/String"), accessFlags := 18, slot := 0, constantValue := 0 }, { name := "ordinal", type := .int, accessFlags := 18, slot := 1, constantValue := 0 }, { name := "hash", type := .int, accessFlags := 2, slot := 2, constantValue := 0 }]
  methods := #[]
  instanceTypes := #[(.object "java/lang/String"), .int, .int]
  staticTypes := #[]
  resolved := Array.replicate 204 none
  statics := none }

def pool10 : Array CpInfo := pool [(1, .class_ 2), (0, u "com/example/hollin/hollin/lang/RType"), (2, u "NULL"), (0, u "Lcom/example/hollin/hollin/lang/RType;"), (2, u "SYMBOL"), (2, u "PAIRLIST"), (2, u "CLOSURE"), (2, u "ENVIRONMENT"), (2, u "EXTERNALPTR"), (2, u "PROMISE"), (2, u "LANGUAGE"), (2, u "SPECIAL"), (2, u "BUILTIN"), (2, u "LOGICAL"), (2, u "INTEGER"), (2, u "DOUBLE"), (2, u "CHARACTER"), (2, u "LIST"), (2, u "$VALUES"), (0, u "[Lcom/example/hollin/hollin/lang/RType;"), (6, .class_ 61), (1, u "java/lang/Enum"), (8, u "typeName"), (0, u "Ljava/lang/String;"), (2, u "className")] 71

/-- com/example/hollin/hollin/lang/RType -/
def k10 : Class := { plain "com/example/hollin/hollin/lang/RType" (some 9) with
  accessFlags := 16433
  interfaces := #[]
  cf := some (fileOf pool10 1 #[] #[] 16433 59 #[] #[{ accessFlags := 16409, nameIndex := 5, descriptorIndex := 6, attributes := #[] }, { accessFlags := 16409, nameIndex := 9, descriptorIndex := 6, attributes := #[] }, { accessFlags := 16409, nameIndex := 12, descriptorIndex := 6, attributes := #[] }, { accessFlags := 16409, nameIndex := 15, descriptorIndex := 6, attributes := #[] }, { accessFlags := 16409, nameIndex := 18, descriptorIndex := 6, attributes := #[] }, { accessFlags := 16409, nameIndex := 21, descriptorIndex := 6, attributes := #[] }, { accessFlags := 16409, nameIndex := 24, descriptorIndex := 6, attributes := #[] }, { accessFlags := 16409, nameIndex := 27, descriptorIndex := 6, attributes := #[] }, { accessFlags := 16409, nameIndex := 30, descriptorIndex := 6, attributes := #[] }, { accessFlags := 16409, nameIndex := 33, descriptorIndex := 6, attributes := #[] }, { accessFlags := 16409, nameIndex := 36, descriptorIndex := 6, attributes := #[] }, { accessFlags := 16409, nameIndex := 39, descriptorIndex := 6, attributes := #[] }, { accessFlags := 16409, nameIndex := 42, descriptorIndex := 6, attributes := #[] }, { accessFlags := 16409, nameIndex := 45, descriptorIndex := 6, attributes := #[] }, { accessFlags := 16409, nameIndex := 48, descriptorIndex := 6, attributes := #[] }, { accessFlags := 18, nameIndex := 70, descriptorIndex := 71, attributes := #[] }, { accessFlags := 18, nameIndex := 74, descriptorIndex := 71, attributes := #[] }, { accessFlags := 4122, nameIndex := 51, descriptorIndex := 52, attributes := #[] }])
  fields := #[{ name := "NULL", type := (.object "com/example/hollin/hollin/lang/RType"), accessFlags := 16409, slot := 0, constantValue := 0 }, { name := "SYMBOL", type := (.object "com/example/hollin/hollin/lang/RType"), accessFlags := 16409, slot := 1, constantValue := 0 }, { name := "PAIRLIST", type := (.object "com/example/hollin/hollin/lang/RType"), accessFlags := 16409, slot := 2, constantValue := 0 }, { name := "CLOSURE", type := (.object "com/example/hollin/hollin/lang/RType"), accessFlags := 16409, slot := 3, constantValue := 0 }, { name := "ENVIRONMENT", type := (.object "com/example/hollin/hollin/lang/RType"), accessFlags := 16409, slot := 4, constantValue := 0 }, { name := "EXTERNALPTR", type := (.object "com/example/hollin/hollin/lang/RType"), accessFlags := 16409, slot := 5, constantValue := 0 }, { name := "PROMISE", type := (.object "com/example/hollin/hollin/lang/RType"), accessFlags := 16409, slot := 6, constantValue := 0 }, { name := "LANGUAGE", type := (.object "com/example/hollin/hollin/lang/RType"), accessFlags := 16409, slot := 7, constantValue := 0 }, { name := "SPECIAL", type := (.object "com/example/hollin/hollin/lang/RType"), accessFlags := 16409, slot := 8, constantValue := 0 }, { name := "BUILTIN", type := (.object "com/example/hollin/hollin/lang/RType"), accessFlags := 16409, slot := 9, constantValue := 0 }, { name := "LOGICAL", type := (.object "com/example/hollin/hollin/lang/RType"), accessFlags := 16409, slot := 10, constantValue := 0 }, { name := "INTEGER", type := (.object "com/example/hollin/hollin/lang/RType"), accessFlags := 16409, slot := 11, constantValue := 0 }, { name := "DOUBLE", type := (.object "com/example/hollin/hollin/lang/RType"), accessFlags := 16409, slot := 12, constantValue := 0 }, { name := "CHARACTER", type := (.object "com/example/hollin/hollin/lang/RType"), accessFlags := 16409, slot := 13, constantValue := 0 }, { name := "LIST", type := (.object "com/example/hollin/hollin/lang/RType"), accessFlags := 16409, slot := 14, constantValue := 0 }, { name := "typeName", type := (.object "java/lang/String"), accessFlags := 18, slot := 3, constantValue := 0 }, { name := "className", type := (.object "java/lang/String"), accessFlags := 18, slot := 4, constantValue := 0 }, { name := "$VALUES", type := (.array (.object "com/example/hollin/hollin/lang/RType")), accessFlags := 4122, slot := 15, constantValue := 0 }]
  methods := #[]
  instanceTypes := #[(.object "java/lang/String"), .int, .int, (.object "java/lang/String"), (.object "java/lang/String")]
  staticTypes := #[(.object "com/example/hollin/hollin/lang/RType"), (.object "com/example/hollin/hollin/lang/RType"), (.object "com/example/hollin/hollin/lang/RType"), (.object "com/example/hollin/hollin/lang/RType"), (.object "com/example/hollin/hollin/lang/RType"), (.object "com/example/hollin/hollin/lang/RType"), (.object "com/example/hollin/hollin/lang/RType"), (.object "com/example/hollin/hollin/lang/RType"), (.object "com/example/hollin/hollin/lang/RType"), (.object "com/example/hollin/hollin/lang/RType"), (.object "com/example/hollin/hollin/lang/RType"), (.object "com/example/hollin/hollin/lang/RType"), (.object "com/example/hollin/hollin/lang/RType"), (.object "com/example/hollin/hollin/lang/RType"), (.object "com/example/hollin/hollin/lang/RType"), (.array (.object "com/example/hollin/hollin/lang/RType"))]
  resolved := Array.replicate 146 none
  statics := some 1 }

def pool11 : Array CpInfo := pool [(1, u "java/lang/Cloneable"), (0, .class_ 1), (0, u "java/lang/Object"), (0, .class_ 3)] 3

/-- java/lang/Cloneable -/
def k11 : Class := { plain "java/lang/Cloneable" (some 0) with
  accessFlags := 1537
  interfaces := #[]
  cf := some (fileOf pool11 2 #[] #[] 1537 4 #[] #[])
  fields := #[]
  methods := #[]
  instanceTypes := #[]
  staticTypes := #[]
  resolved := Array.replicate 8 none
  statics := none }

/-- the primitive byte -/
def k12 : Class := { plain "byte" none with kind := .primitive 'B', accessFlags := 0x411 }
/-- [B -/
def k13 : Class := { plain "[B" (some 0) with kind := .array 12 .byte, interfaces := #[11, 8], accessFlags := 1041 }

/-- the primitive int -/
def k14 : Class := { plain "int" none with kind := .primitive 'I', accessFlags := 0x411 }
/-- [I -/
def k15 : Class := { plain "[I" (some 0) with kind := .array 14 .int, interfaces := #[11, 8], accessFlags := 1041 }

def heap : Heap := #[{ cls := 5, slots := #[.int 0, .int 0, .int 0, .ref 5, .ref 6, .ref 7], vm := .statics 5 },
  { cls := 10, slots := #[.null, .null, .null, .null, .null, .null, .null, .null, .null, .null, .ref 8, .null, .null, .null, .null, .null], vm := .statics 10 },
  { cls := 15, slots := #[.int 1], vm := .none },
  { cls := 15, slots := #[.int 0], vm := .none },
  { cls := 15, slots := #[.int (-2147483648)], vm := .none },
  { cls := 5, slots := #[.null, .int 0, .int 0, .ref 2, .int 1], vm := .none },
  { cls := 5, slots := #[.null, .int 0, .int 0, .ref 3, .int 1], vm := .none },
  { cls := 5, slots := #[.null, .int 0, .int 0, .ref 4, .int 1], vm := .none },
  { cls := 10, slots := #[.null, .int 10, .int 0, .null, .null], vm := .none }]
def classes : Array Class := #[k0, k1, k2, k3, k4, k5, k6, k7, k8, k9, k10, k11, k12, k13, k14, k15]
def interned : List (Array UInt16 × Addr) := []
def slotsUsed : Nat := 45
def theMethod : MethodId := ⟨1, 1⟩
def args0 : Array Value := #[.int 5]
def aboutOver (below : List Frame) : State where
  vm := { classes := classes, interned := interned.toArray }
  heap := heap
  slotsUsed := slotsUsed
  threads := #[{ frames := .invoking theMethod args0 :: below }]
def below0 : List Frame := [.native { method := ⟨0, 0⟩, args := #[] }]
def about1 : State := aboutOver below0
def p0 : Program := .bare "" "" ""
def e0 : Env := launch0.env 0 0 0
theorem w_frames : about1.frames = Frame.invoking theMethod args0 :: below0 := rfl
set_option maxRecDepth 65536 in
theorem w_args : argsFit about1.vm theMethod args0 = true := by decide +kernel
set_option maxRecDepth 65536 in
theorem w_heap : heapFits about1 = true := by decide +kernel
set_option maxRecDepth 65536 in
theorem w_runnable : about1.curStatus? = some .runnable := by decide +kernel
set_option maxRecDepth 65536 in
theorem w_alone : about1.alone = true := by decide +kernel
set_option maxRecDepth 65536 in
theorem w_named : about1.methodNamed? x = some theMethod := by decide +kernel
set_option maxRecDepth 65536 in
theorem w_hears : about1.hears theMethod below0 = true := by decide +kernel
set_option maxRecDepth 65536 in
theorem w_ripe : about1.ripe theMethod args0 below0 = true := by decide +kernel
theorem w_running : about1.status = .running := rfl
set_option maxRecDepth 65536 in
theorem w_room : about1.hasRoom e0.platform room_1 = true :=
  launch0.hasRoom_least _ room_1 (by decide +kernel) (by decide +kernel) (by decide +kernel) (by decide +kernel) (by decide +kernel) (by decide +kernel)
theorem allAtoms_all (ts : List Jvm.Cond) (a : Array Jvm.Value) (st : Jvm.State) : (allAtoms ts).before a st = ts.all (fun c => c.before a st) := by
  induction ts with
  | nil => rfl
  | cons c t ih =>
    show (Jvm.Cond.and c (allAtoms t)).before a st = _
    rw [Jvm.Cond.before_and, ih, List.all_cons]
def words1 : List Jvm.Cond := Jvm.Cond.code x code maxLocals ret :: tables_1
/-- a 'code' word, met by the world's own term for the bytes: nothing is compared byte by byte -/
theorem code_word {y : MethodName} {bytes : ByteArray} {mx : Nat} {rt : Option FieldType} {a : Array Value} {s : State} {m : MethodId} {meth : Method} {c : Code} (h1 : s.methodNamed? y = some m) (h2 : s.vm.method? m = some meth) (h3 : meth.code = some c) (h4 : c.code = bytes)
    (h5 : (c.maxLocals == mx && c.exceptionTable.isEmpty && decide (c.maxStack ≤ mostOperands) && decide (meth.sig.returnType = rt) && !meth.locks && decide (parseMethodDescriptor y.desc = some meth.sig)) = true) : (Jvm.Cond.code y bytes mx rt).before a s = true := by
  simp only [Bool.and_eq_true, beq_iff_eq, Bool.not_eq_true', decide_eq_true_eq] at h5
  obtain ⟨⟨⟨⟨⟨g1, g2⟩, g3⟩, g4⟩, g5⟩, g6⟩ := h5
  simp [Cond.before, Cond.holds, Cond.value, h1, h2, h3, h4, g1, g2, g3, g4, g5, g6]
def isCode : Jvm.Cond → Bool
  | .code _ _ _ _ => true
  | _ => false
theorem all_split {L : List Jvm.Cond} {P : Jvm.Cond → Bool} (h1 : L.all (fun c => isCode c || P c) = true) (h2 : ∀ c ∈ L.filter isCode, P c = true) : L.all P = true := by
  refine List.all_eq_true.mpr fun c hc => ?_
  have h := List.all_eq_true.mp h1 c hc
  rcases Bool.eq_false_or_eq_true (isCode c) with hi | hi
  · exact h2 c (List.mem_filter.mpr ⟨hc, hi⟩)
  · simpa [hi] using h
set_option maxRecDepth 65536 in
theorem w_c0 : (Jvm.Cond.code x code maxLocals ret).before args0 about1 = true := code_word (m := ⟨1, 1⟩) (meth := k1m1) (c := k1c1) (by decide +kernel) rfl rfl rfl (by decide +kernel)
set_option maxRecDepth 65536 in
theorem w_c1 : (Jvm.Cond.code ({ cls := "com/example/hollin/hollin/lang/LogicalVector", name := "ofValue", desc := "(I)Lcom/example/hollin/hollin/lang/LogicalVector;" } : Jvm.MethodName) prog_24_method_5_code (1 : Nat) (Option.some (Jvm.ClassFile.FieldType.object "com/example/hollin/hollin/lang/LogicalVector"))).before args0 about1 = true := code_word (m := ⟨5, 0⟩) (meth := k5m0) (c := k5c0) (by decide +kernel) rfl rfl rfl (by decide +kernel)
set_option maxRecDepth 65536 in
theorem w_c2 : (Jvm.Cond.code ({ cls := "com/example/hollin/hollin/lang/LogicalVector", name := "length", desc := "()I" } : Jvm.MethodName) prog_24_method_7_code (1 : Nat) (Option.some Jvm.ClassFile.FieldType.int)).before args0 about1 = true := code_word (m := ⟨5, 2⟩) (meth := k5m2) (c := k5c2) (by decide +kernel) rfl rfl rfl (by decide +kernel)
set_option maxRecDepth 65536 in
theorem w_c3 : (Jvm.Cond.code ({ cls := "com/example/hollin/hollin/lang/LogicalVector", name := "get", desc := "(I)I" } : Jvm.MethodName) prog_24_method_6_code (2 : Nat) (Option.some Jvm.ClassFile.FieldType.int)).before args0 about1 = true := code_word (m := ⟨5, 1⟩) (meth := k5m1) (c := k5c1) (by decide +kernel) rfl rfl rfl (by decide +kernel)
set_option maxRecDepth 65536 in
theorem w_c4 : (Jvm.Cond.code ({ cls := "com/example/hollin/hollin/lang/LogicalVector", name := "isNA", desc := "(I)Z" } : Jvm.MethodName) prog_24_method_8_code (2 : Nat) (Option.some Jvm.ClassFile.FieldType.boolean)).before args0 about1 = true := code_word (m := ⟨5, 3⟩) (meth := k5m3) (c := k5c3) (by decide +kernel) rfl rfl rfl (by decide +kernel)
set_option maxRecDepth 65536 in
theorem w_c5 : (Jvm.Cond.code ({ cls := "com/example/hollin/hollin/lang/LogicalVector", name := "type", desc := "()Lcom/example/hollin/hollin/lang/RType;" } : Jvm.MethodName) prog_24_method_15_code (1 : Nat) (Option.some (Jvm.ClassFile.FieldType.object "com/example/hollin/hollin/lang/RType"))).before args0 about1 = true := code_word (m := ⟨5, 4⟩) (meth := k5m4) (c := k5c4) (by decide +kernel) rfl rfl rfl (by decide +kernel)
def codes1 : List Jvm.Cond := [Jvm.Cond.code x code maxLocals ret, Jvm.Cond.code ({ cls := "com/example/hollin/hollin/lang/LogicalVector", name := "ofValue", desc := "(I)Lcom/example/hollin/hollin/lang/LogicalVector;" } : Jvm.MethodName) prog_24_method_5_code (1 : Nat) (Option.some (Jvm.ClassFile.FieldType.object "com/example/hollin/hollin/lang/LogicalVector")), Jvm.Cond.code ({ cls := "com/example/hollin/hollin/lang/LogicalVector", name := "length", desc := "()I" } : Jvm.MethodName) prog_24_method_7_code (1 : Nat) (Option.some Jvm.ClassFile.FieldType.int), Jvm.Cond.code ({ cls := "com/example/hollin/hollin/lang/LogicalVector", name := "get", desc := "(I)I" } : Jvm.MethodName) prog_24_method_6_code (2 : Nat) (Option.some Jvm.ClassFile.FieldType.int), Jvm.Cond.code ({ cls := "com/example/hollin/hollin/lang/LogicalVector", name := "isNA", desc := "(I)Z" } : Jvm.MethodName) prog_24_method_8_code (2 : Nat) (Option.some Jvm.ClassFile.FieldType.boolean), Jvm.Cond.code ({ cls := "com/example/hollin/hollin/lang/LogicalVector", name := "type", desc := "()Lcom/example/hollin/hollin/lang/RType;" } : Jvm.MethodName) prog_24_method_15_code (1 : Nat) (Option.some (Jvm.ClassFile.FieldType.object "com/example/hollin/hollin/lang/RType"))]
set_option maxRecDepth 65536 in
theorem codes_eq : words1.filter isCode = codes1 := rfl
theorem w_codes : ∀ c ∈ words1.filter isCode, c.before args0 about1 = true := by
  rw [codes_eq]
  intro c hc
  simp only [codes1, List.mem_cons, List.not_mem_nil, or_false] at hc
  rcases hc with rfl | rfl | rfl | rfl | rfl | rfl
  · exact w_c0
  · exact w_c1
  · exact w_c2
  · exact w_c3
  · exact w_c4
  · exact w_c5
set_option maxRecDepth 65536 in
theorem w_t1 : (words1.take 24).all (fun c => isCode c || c.before args0 about1) = true := by decide +kernel
set_option maxRecDepth 65536 in
theorem w_t2 : (words1.drop 24).all (fun c => isCode c || c.before args0 about1) = true := by decide +kernel
theorem w_tables : (allAtoms (Jvm.Cond.code x code maxLocals ret :: tables_1)).before args0 about1 = true := by
  rw [allAtoms_all]
  show words1.all (fun c => c.before args0 about1) = true
  refine all_split ?_ w_codes
  rw [← List.take_append_drop 24 words1, List.all_append, w_t1, w_t2]
  rfl
set_option maxRecDepth 65536 in
theorem w_case : (Jvm.Cond.and given_1 narrow_1).before args0 about1 = true := by decide +kernel
theorem w_applies : (headSpec (Jvm.Cond.code x code maxLocals ret :: tables_1) room_1).applies x e0.platform about1 = true :=
  (Spec.applies_iff w_frames).mpr ⟨w_running, w_runnable, w_alone, w_named, w_hears, w_ripe, w_room, w_tables⟩
theorem atStart : AtStart classFile x code maxLocals ret World_1 tables_1 room_1 Calls_1 rest_1 Pre_1 launch0 p0 e0 about1 theMethod args0 below0 :=
  ⟨lists_1, trivial, launch0.admits_env _ _ _, launch0.least_env, fairChoices_fair.cas, fairChoices_fair.clock, w_frames, w_args, w_heap, w_applies, trivial, trivial, w_case⟩
end start1
theorem witness_1 : WitnessClaimed_1 := ⟨start1.p0, start1.e0, start1.about1, start1.theMethod, start1.args0, start1.below0, start1.atStart⟩
end Jvm.Pilot.@@N@@
