import JvmDerived
import JvmDerived.Pilot.@@N@@Statement
import JvmDerived.Pilot.@@N@@Code
set_option linter.unusedVariables false
set_option linter.unusedSimpArgs false
@@BLOCK:NumsL.lean.txt@@
namespace Jvm.RoadKit
open Sem ClassFile Op Lib Jvm.Stand Jvm.Free Jvm.LawKit
section New
variable {p : Program} {l : Launch} {e : Env} {R : Room} {s : State} {m : MethodId} {args : Array Value} {below : List Frame} {meth : Method} {c : Code} {T : State} {locs : List Loc} {cells slots : Nat}
theorem retI (X : Stand p l e R s m args below meth c T locs cells slots) (hx : p.tables.exec = Jvm.exec) {pc : Nat} {Ls : Array Slot} {z : Int32} {rest : List Value} (hret : meth.sig.returnType = some .int) (hd : decode c.code pc = .ok (.ireturn, 1)) {fs : List Frame}
    (hl : ∀ (f : JFrame) (acts : List Action), f.method = m → f.locked = none → f.entered = [] → (doReturn e (T.setTop f) acts (some (.int z))).1 = T.setFrames fs) : Steps p.tables e below (T.setTop (mkF m pc Ls (.int z :: rest))) (T.setFrames fs) := by
  have hm' : T.vm.method? m = some meth := X.method'
  have hn : narrow .int (.int z) = .int z := rfl
  show Steps p.tables e below (T.setTop { method := m, pc := pc, locals := Ls, stack := _ :: rest, locked := none }) _
  jvm_step X.here [X.here.top, hx, hd, hm', hret, hn]
  first | (intro acts; rw [hl _ acts rfl rfl rfl]) | rw [hl _ _ rfl rfl rfl]
  exact Steps.refl _
end New
end Jvm.RoadKit
namespace Jvm.Pilot.@@N@@
open Jvm Jvm.ClassFile Sem Op Lib Jvm.Free Jvm.Stand Jvm.LawKit Jvm.RoadKit Bundle Jvm.Pilot.@@N@@.Jvm.D

theorem d1_0 : decode method_2_code 0 = .ok (.iload_n 0, 1) := by decide +kernel
theorem d1_1 : decode method_2_code 1 = .ok (.bipush 16, 2) := by decide +kernel
theorem d1_3 : decode method_2_code 3 = .ok (.iushr, 1) := by decide +kernel
theorem d1_4 : decode method_2_code 4 = .ok (.bipush 7, 2) := by decide +kernel
theorem d1_6 : decode method_2_code 6 = .ok (.iand, 1) := by decide +kernel
theorem d1_7 : decode method_2_code 7 = .ok (.istore_n 1, 1) := by decide +kernel
theorem d1_8 : decode method_2_code 8 = .ok (.iload_n 1, 1) := by decide +kernel
theorem d1_9 : decode method_2_code 9 = .ok (.ifCond .ne 6, 3) := by decide +kernel
theorem d1_12 : decode method_2_code 12 = .ok (.bipush 32, 2) := by decide +kernel
theorem d1_14 : decode method_2_code 14 = .ok (.ireturn, 1) := by decide +kernel
theorem d1_15 : decode method_2_code 15 = .ok (.iload_n 1, 1) := by decide +kernel
theorem d1_16 : decode method_2_code 16 = .ok (.iconst 1, 1) := by decide +kernel
theorem d1_17 : decode method_2_code 17 = .ok (.if_icmp .ne 6, 3) := by decide +kernel
theorem d1_20 : decode method_2_code 20 = .ok (.bipush 9, 2) := by decide +kernel
theorem d1_22 : decode method_2_code 22 = .ok (.ireturn, 1) := by decide +kernel
theorem d1_23 : decode method_2_code 23 = .ok (.iload_n 1, 1) := by decide +kernel
theorem d1_24 : decode method_2_code 24 = .ok (.iconst 2, 1) := by decide +kernel
theorem d1_25 : decode method_2_code 25 = .ok (.if_icmp .ne 6, 3) := by decide +kernel
theorem d1_28 : decode method_2_code 28 = .ok (.bipush 10, 2) := by decide +kernel
theorem d1_30 : decode method_2_code 30 = .ok (.ireturn, 1) := by decide +kernel
theorem d1_31 : decode method_2_code 31 = .ok (.iload_n 1, 1) := by decide +kernel
theorem d1_32 : decode method_2_code 32 = .ok (.iconst 3, 1) := by decide +kernel
theorem d1_33 : decode method_2_code 33 = .ok (.if_icmp .ne 6, 3) := by decide +kernel
theorem d1_36 : decode method_2_code 36 = .ok (.bipush 13, 2) := by decide +kernel
theorem d1_38 : decode method_2_code 38 = .ok (.ireturn, 1) := by decide +kernel
theorem d1_39 : decode method_2_code 39 = .ok (.iload_n 0, 1) := by decide +kernel
theorem d1_40 : decode method_2_code 40 = .ok (.i2c, 1) := by decide +kernel
theorem d1_41 : decode method_2_code 41 = .ok (.ireturn, 1) := by decide +kernel
theorem d2_0 : decode jdk_29_method_69_code 0 = .ok (.iload_n 0, 1) := by decide +kernel
theorem d2_1 : decode jdk_29_method_69_code 1 = .ok (.iload_n 1, 1) := by decide +kernel
theorem d2_2 : decode jdk_29_method_69_code 2 = .ok (.if_icmp .gt 7, 3) := by decide +kernel
theorem d2_5 : decode jdk_29_method_69_code 5 = .ok (.iload_n 0, 1) := by decide +kernel
theorem d2_6 : decode jdk_29_method_69_code 6 = .ok (.goto 4, 3) := by decide +kernel
theorem d2_9 : decode jdk_29_method_69_code 9 = .ok (.iload_n 1, 1) := by decide +kernel
theorem d2_10 : decode jdk_29_method_69_code 10 = .ok (.ireturn, 1) := by decide +kernel
theorem d5_0 : decode prog_475_method_22_code 0 = .ok (.iload_n 1, 1) := by decide +kernel
theorem d5_1 : decode prog_475_method_22_code 1 = .ok (.istore_n 2, 1) := by decide +kernel
theorem d5_2 : decode prog_475_method_22_code 2 = .ok (.iload_n 2, 1) := by decide +kernel
theorem d5_3 : decode prog_475_method_22_code 3 = .ok (.aload_n 0, 1) := by decide +kernel
theorem d5_4 : decode prog_475_method_22_code 4 = .ok (.invokevirtual 72, 3) := by decide +kernel
theorem d5_7 : decode prog_475_method_22_code 7 = .ok (.if_icmp .ge 21, 3) := by decide +kernel
theorem d5_10 : decode prog_475_method_22_code 10 = .ok (.aload_n 0, 1) := by decide +kernel
theorem d5_11 : decode prog_475_method_22_code 11 = .ok (.invokevirtual 68, 3) := by decide +kernel
theorem d5_14 : decode prog_475_method_22_code 14 = .ok (.iload_n 2, 1) := by decide +kernel
theorem d5_15 : decode prog_475_method_22_code 15 = .ok (.caload, 1) := by decide +kernel
theorem d5_16 : decode prog_475_method_22_code 16 = .ok (.invokestatic 443, 3) := by decide +kernel
theorem d5_19 : decode prog_475_method_22_code 19 = .ok (.ifCond .eq 9, 3) := by decide +kernel
theorem d5_22 : decode prog_475_method_22_code 22 = .ok (.iinc 2 1, 3) := by decide +kernel
theorem d5_25 : decode prog_475_method_22_code 25 = .ok (.goto (-23), 3) := by decide +kernel
theorem d5_28 : decode prog_475_method_22_code 28 = .ok (.iload_n 2, 1) := by decide +kernel
theorem d5_29 : decode prog_475_method_22_code 29 = .ok (.ireturn, 1) := by decide +kernel
theorem d8_0 : decode prog_475_method_20_code 0 = .ok (.iload_n 0, 1) := by decide +kernel
theorem d8_1 : decode prog_475_method_20_code 1 = .ok (.bipush 32, 2) := by decide +kernel
theorem d8_3 : decode prog_475_method_20_code 3 = .ok (.if_icmp .eq 21, 3) := by decide +kernel
theorem d8_6 : decode prog_475_method_20_code 6 = .ok (.iload_n 0, 1) := by decide +kernel
theorem d8_7 : decode prog_475_method_20_code 7 = .ok (.bipush 9, 2) := by decide +kernel
theorem d8_9 : decode prog_475_method_20_code 9 = .ok (.if_icmp .eq 15, 3) := by decide +kernel
theorem d8_12 : decode prog_475_method_20_code 12 = .ok (.iload_n 0, 1) := by decide +kernel
theorem d8_13 : decode prog_475_method_20_code 13 = .ok (.bipush 10, 2) := by decide +kernel
theorem d8_15 : decode prog_475_method_20_code 15 = .ok (.if_icmp .eq 9, 3) := by decide +kernel
theorem d8_18 : decode prog_475_method_20_code 18 = .ok (.iload_n 0, 1) := by decide +kernel
theorem d8_19 : decode prog_475_method_20_code 19 = .ok (.bipush 13, 2) := by decide +kernel
theorem d8_21 : decode prog_475_method_20_code 21 = .ok (.if_icmp .ne 7, 3) := by decide +kernel
theorem d8_24 : decode prog_475_method_20_code 24 = .ok (.iconst 1, 1) := by decide +kernel
theorem d8_25 : decode prog_475_method_20_code 25 = .ok (.goto 4, 3) := by decide +kernel
theorem d8_28 : decode prog_475_method_20_code 28 = .ok (.iconst 0, 1) := by decide +kernel
theorem d8_29 : decode prog_475_method_20_code 29 = .ok (.ireturn, 1) := by decide +kernel
theorem d9_0 : decode method_3_code 0 = .ok (.iload_n 0, 1) := by decide +kernel
theorem d9_1 : decode method_3_code 1 = .ok (.bipush 32, 2) := by decide +kernel
theorem d9_3 : decode method_3_code 3 = .ok (.if_icmp .eq 21, 3) := by decide +kernel
theorem d9_6 : decode method_3_code 6 = .ok (.iload_n 0, 1) := by decide +kernel
theorem d9_7 : decode method_3_code 7 = .ok (.bipush 9, 2) := by decide +kernel
theorem d9_9 : decode method_3_code 9 = .ok (.if_icmp .eq 15, 3) := by decide +kernel
theorem d9_12 : decode method_3_code 12 = .ok (.iload_n 0, 1) := by decide +kernel
theorem d9_13 : decode method_3_code 13 = .ok (.bipush 10, 2) := by decide +kernel
theorem d9_15 : decode method_3_code 15 = .ok (.if_icmp .eq 9, 3) := by decide +kernel
theorem d9_18 : decode method_3_code 18 = .ok (.iload_n 0, 1) := by decide +kernel
theorem d9_19 : decode method_3_code 19 = .ok (.bipush 13, 2) := by decide +kernel
theorem d9_21 : decode method_3_code 21 = .ok (.if_icmp .ne 7, 3) := by decide +kernel
theorem d9_24 : decode method_3_code 24 = .ok (.iconst 1, 1) := by decide +kernel
theorem d9_25 : decode method_3_code 25 = .ok (.goto 4, 3) := by decide +kernel
theorem d9_28 : decode method_3_code 28 = .ok (.iconst 0, 1) := by decide +kernel
theorem d9_29 : decode method_3_code 29 = .ok (.ireturn, 1) := by decide +kernel
theorem pn_0 : plainName "com/example/plinth/plinth/XmlParserSkipWhitespacePinLaw" = true := by first | (simp [plainName, overriddenIn]; done) | decide +kernel
theorem pn_5 : plainName "com/example/plinth/plinth/XmlParser" = true := by first | (simp [plainName, overriddenIn]; done) | decide +kernel
theorem pd_draw : parseMethodDescriptor "(I)C" = some ⟨[.int], some .char⟩ := by decide +kernel
theorem pd_min : parseMethodDescriptor "(II)I" = some ⟨[.int, .int], some .int⟩ := by decide +kernel
theorem pd_init : parseMethodDescriptor "([CII)V" = some ⟨[(.array .char), .int, .int], none⟩ := by decide +kernel
theorem pd_skip : parseMethodDescriptor "(Lcom/example/plinth/plinth/SourceText;I)I" = some ⟨[(.object "com/example/plinth/plinth/SourceText"), .int], some .int⟩ := by decide +kernel
theorem pd_end : parseMethodDescriptor "()I" = some ⟨[], some .int⟩ := by decide +kernel
theorem pd_chars : parseMethodDescriptor "()[C" = some ⟨[], some (.array .char)⟩ := by decide +kernel
theorem pd_ws : parseMethodDescriptor "(C)Z" = some ⟨[.char], some .boolean⟩ := by decide +kernel
theorem ef_0 (m : MethodId) (x0 x1 x2 x3 x4 : Int32) : entryFrame m #[(.int x0), (.int x1), (.int x2), (.int x3), (.int x4)] 16 = mkF m 0 #[.val (.int x0), .val (.int x1), .val (.int x2), .val (.int x3), .val (.int x4), .unset, .unset, .unset, .unset, .unset, .unset, .unset, .unset, .unset, .unset, .unset] [] := by first | (simp [entryFrame, mkF, argsToLocals, Value.category]; done) | rfl
theorem ef_1 (m : MethodId) (x0 : Int32) : entryFrame m #[(.int x0)] 2 = mkF m 0 #[.val (.int x0), .unset] [] := by first | (simp [entryFrame, mkF, argsToLocals, Value.category]; done) | rfl
theorem ef_2 (m : MethodId) (x0 : Int32) (x1 : Int32) : entryFrame m #[(.int x0), (.int x1)] 2 = mkF m 0 #[.val (.int x0), .val (.int x1)] [] := by first | (simp [entryFrame, mkF, argsToLocals, Value.category]; done) | rfl
theorem ef_5 (m : MethodId) (x0 : Addr) (x1 : Int32) : entryFrame m #[(.ref x0), (.int x1)] 3 = mkF m 0 #[.val (.ref x0), .val (.int x1), .unset] [] := by first | (simp [entryFrame, mkF, argsToLocals, Value.category]; done) | rfl
theorem ef_8 (m : MethodId) (x0 : Int32) : entryFrame m #[(.int x0)] 1 = mkF m 0 #[.val (.int x0)] [] := by first | (simp [entryFrame, mkF, argsToLocals, Value.category]; done) | rfl
/-! plain -/
def own_g (cl : Cell) (k : Nat) : Int32 := match cl.slots[k]? with
  | some (.int x) => x
  | _ => 0
def own_ws (v : Int32) : Int32 := if v = 32 ∨ v = 9 ∨ v = 10 ∨ v = 13 then 1 else 0
theorem own_ws01 (v : Int32) : own_ws v = 0 ∨ own_ws v = 1 := by unfold own_ws; split <;> simp
theorem own_nar_ws (v : Int32) : nar .boolean (own_ws v) = own_ws v := by rcases own_ws01 v with h | h <;> rw [h] <;> rfl
theorem own_nar_char (z : Int32) : nar .char (nar .char z) = nar .char z := by
  simp only [nar, UInt32.toUInt32_toInt32, UInt16.toUInt16_toUInt32]
/-- the first place from i on, below en, that isn't white; else en -/
def own_skip (g : Nat → Int32) (en : Nat) : Nat → Nat → Nat
  | 0, i => i
  | k + 1, i => if i < en ∧ own_ws (g i) = 1 then own_skip g en k (i + 1) else i
/-- one question of the law's own -/
def own_sel (j ix en : Nat) (w : Int32) (r : Nat) : Nat := if ¬ j < ix ∧ j < en ∧ w = 0 then j else r
theorem own_law (g : Nat → Int32) (ix en : Nat) (h1 : ix ≤ en) (h2 : en ≤ 4) :
    own_skip g en 4 ix = own_sel 0 ix en (own_ws (g 0)) (own_sel 1 ix en (own_ws (g 1)) (own_sel 2 ix en (own_ws (g 2)) (own_sel 3 ix en (own_ws (g 3)) en))) := by
  have e : en = 0 ∨ en = 1 ∨ en = 2 ∨ en = 3 ∨ en = 4 := by omega
  have i : ix = 0 ∨ ix = 1 ∨ ix = 2 ∨ ix = 3 ∨ ix = 4 := by omega
  rcases e with rfl | rfl | rfl | rfl | rfl <;> rcases i with rfl | rfl | rfl | rfl | rfl <;> first | (exfalso; omega) | (rcases own_ws01 (g 0) with q0 | q0 <;> rcases own_ws01 (g 1) with q1 | q1 <;> rcases own_ws01 (g 2) with q2 | q2 <;> rcases own_ws01 (g 3) with q3 | q3 <;> simp [own_skip, own_sel, q0, q1, q2, q3])
theorem own_skip_le (g : Nat → Int32) (en : Nat) : ∀ k i, i ≤ en → own_skip g en k i ≤ en
  | 0, i, h => h
  | k + 1, i, h => by
    unfold own_skip
    split
    · exact own_skip_le g en k (i + 1) (by omega)
    · exact h
/-! numbers -/
theorem own_lt {k n : Nat} (hk : k < 2 ^ 31) (hn : n < 2 ^ 31) : k.toInt32 < n.toInt32 ↔ k < n := by
  rw [Int32.lt_iff_toInt_lt, len_toInt hk, len_toInt hn]; omega
theorem own_clamp {k : Nat} (hk : k < 2 ^ 31) : k.toInt32.toNatClampNeg = k := by
  simp only [Int32.toNatClampNeg, len_toInt hk]; rfl
theorem own_succ (k : Nat) : k.toInt32 + (1 : Int32) = (k + 1).toInt32 := (Int32.ofNat_add k 1).symm
theorem own_of {z : Int32} {n : Nat} (h0 : 0 ≤ z.toInt) (h : z.toInt < n) : ∃ k : Nat, k < n ∧ z = k.toInt32 := by
  refine ⟨z.toInt.toNat, by omega, ?_⟩
  apply Int32.toInt_inj.mp
  have := z.toInt_lt
  rw [len_toInt (by omega)]
  omega
theorem own_mask (x : Int32) : 0 ≤ (x &&& (2147483647 : Int32)).toInt := by
  have e := Jvm.Kit.i32_mask x (2147483647 : Int32) (k := 31) (by decide) (by decide)
  omega
theorem own_rem {x : Int32} {n : Nat} (hx : 0 ≤ x.toInt) (h0 : 0 < n) (h : n < 2 ^ 31) : ∃ k : Nat, k < n ∧ x - (x / n.toInt32) * n.toInt32 = k.toInt32 := by
  rw [irem_eq_mod]
  have e := Jvm.Kit.i32_rem_nonneg (x := x) (y := n.toInt32) hx
  rw [len_toInt h] at e
  exact own_of (by rw [e]; exact Int.emod_nonneg _ (by omega)) (by rw [e]; exact Int.emod_lt_of_pos _ (by omega))
theorem own_ne0 {n : Nat} (h0 : 0 < n) (h : n < 2 ^ 31) : n.toInt32 ≠ (0 : Int32) := fun q => by
  have := congrArg Int32.toInt q
  rw [len_toInt h] at this
  have z : (0 : Int32).toInt = 0 := by decide
  omega
def own_Ld (p : Program) (e : Env) (below : List Frame) (T : State) (g : JFrame) (T' : State) (g' : JFrame) : Prop := ∀ target, Steps p.tables e below (T'.setTop g') target → Steps p.tables e below (T.setTop g) target

def Q1 (h0 : Heap) (n0 : Nat) (v : Option Value) (h : Heap) (L : List Loc) : Prop := (∃ z : Int32, v = some (.int z) ∧ nar .char z = z) ∧ Fr n0 L ∧ h = h0
set_option maxRecDepth 65536 in
set_option maxHeartbeats 40000000 in
theorem rm1 (l : Launch) (Z : State) (a0 : Array Value) (hw : ∀ d ∈ tables_1, d.before a0 Z = true) (ws : List Jvm.Cond) (p1 : Int32) (h0 : Heap) (n0 : Nat) (Z0 : n0 ≤ h0.size) :
    MetFree l (⟨"com/example/plinth/plinth/XmlParserSkipWhitespacePinLaw", "draw", "(I)C"⟩ : MethodName) (head1 (Jvm.Cond.code (⟨"com/example/plinth/plinth/XmlParserSkipWhitespacePinLaw", "draw", "(I)C"⟩ : MethodName) method_2_code 2 (some .char) :: ws) ({ frames := 0, cells := 0, slots := 0, locals := 0 } : Room)) (fun a U => a = #[(.int p1)] ∧ Z.Warmed39 U.vm ∧ U.heap = h0) (fun _ _ _ _ _ => True) (fun _ U o U' => ∃ v L, o = .returned v ∧ Q1  h0 n0 v U'.heap L ∧ FrameEnd U o U' L ({ frames := 0, cells := 0, slots := 0, locals := 0 } : Room).cells ({ frames := 0, cells := 0, slots := 0, locals := 0 } : Room).slots) := by
  refine MetFree.of_bodySF (plainFor_of_name pn_0) hisR ?_
  intro p e s m args below meth c s₁ Bd hml0 hP hK
  obtain ⟨rfl, hZ, hh⟩ := hP
  have hx := Bd.exec
  have hby := Bd.bytes
  have hml : c.maxLocals = 2 := hml0
  have hown : s.vm.findClass "com/example/plinth/plinth/XmlParserSkipWhitespacePinLaw" = some m.cls := findClass_of_methodNamed Bd.named
  have hnm := (name_of_methodNamed Bd.named Bd.method).1
  have X0 : Stand p l e ({ frames := 0, cells := 0, slots := 0, locals := 0 } : Room) s m #[(.int p1)] below meth c s₁ [] 0 0 := Stand.of_body Bd
  have e0 : s₁.heap = h0 := by rw [← hh, Bd.state]; rfl
  have N0 := Fr.nil n0
  have pre0 : ∀ t, Steps p.tables e below (s₁.setTop (mkF m 0 #[.val (.int p1), .unset] [])) t → Steps p.tables e below (s₁.setTop (entryFrame m #[(.int p1)] 2)) t := fun t kt0 => castTop (ef_1 m p1) kt0

  suffices hs : ∃ (q : Nat) (Ls : Array Slot) (z : Int32), decode c.code q = .ok (.ireturn, 1) ∧ ∀ t, Steps p.tables e below (s₁.setTop (mkF m q Ls [(.int z)])) t → Steps p.tables e below (s₁.setTop (mkF m 0 #[.val (.int p1), .unset] [])) t by
    obtain ⟨q, Ls, z, hdq, hs⟩ := hs
    obtain ⟨fs, hr, hrun, hended, hW, hsame⟩ := X0.leave (v := some (.int (nar .char z))) (fun h => by rw [Bd.returns] at h; cases h)
    refine ⟨_, _, pre0 _ (hs _ (retN X0 hx (t := .char) Bd.returns (by simp) hdq hr)), hrun, hended, _, _, rfl, ?_, ⟨_, rfl⟩, hW, hsame.mono (by decide) (by decide)⟩
    show Q1 h0 n0 _ s₁.heap _
    rw [e0]
    exact ⟨⟨_, rfl, own_nar_char z⟩, N0, rfl⟩
  obtain ⟨kk, hkk⟩ : ∃ kk : Int32, ((((p1).toUInt32 >>> ((16 : Int32) &&& 31).toUInt32).toInt32) &&& (7 : Int32)) = kk := ⟨_, rfl⟩
  by_cases hc9 : kk = (0 : Int32)
  · refine ⟨14, #[.val (.int p1), .val (.int kk)], (32 : Int32), hb hby d1_14, fun t kt => ?_⟩
    show Steps p.tables e below (s₁.setTop (mkF m 0 #[.val (.int p1), .unset] [])) _
    refine XS.iloadN X0.here hx rfl (hb hby d1_0) rfl ?_
    show Steps p.tables e below (s₁.setTop (mkF m 1 #[.val (.int p1), .unset] [(.int p1)])) _
    refine XS.bipush X0.here hx rfl (hb hby d1_1) ?_
    show Steps p.tables e below (s₁.setTop (mkF m 3 #[.val (.int p1), .unset] [(.int (16 : Int32)), (.int p1)])) _
    refine XS.iushr X0.here hx rfl (hb hby d1_3) rfl ?_
    show Steps p.tables e below (s₁.setTop (mkF m 4 #[.val (.int p1), .unset] [(.int (((p1).toUInt32 >>> ((16 : Int32) &&& 31).toUInt32).toInt32))])) _
    refine XS.bipush X0.here hx rfl (hb hby d1_4) ?_
    show Steps p.tables e below (s₁.setTop (mkF m 6 #[.val (.int p1), .unset] [(.int (7 : Int32)), (.int (((p1).toUInt32 >>> ((16 : Int32) &&& 31).toUInt32).toInt32))])) _
    refine XS.iand X0.here hx rfl (hb hby d1_6) rfl ?_
    show Steps p.tables e below (s₁.setTop (mkF m 7 #[.val (.int p1), .unset] [(.int ((((p1).toUInt32 >>> ((16 : Int32) &&& 31).toUInt32).toInt32) &&& (7 : Int32)))])) _
    refine XS.istoreN X0.here hx rfl (hb hby d1_7) rfl (l' := #[.val (.int p1), .val (.int ((((p1).toUInt32 >>> ((16 : Int32) &&& 31).toUInt32).toInt32) &&& (7 : Int32)))]) rfl ?_
    show Steps p.tables e below (s₁.setTop (mkF m 8 #[.val (.int p1), .val (.int ((((p1).toUInt32 >>> ((16 : Int32) &&& 31).toUInt32).toInt32) &&& (7 : Int32)))] [])) _
    rw [hkk]
    show Steps p.tables e below (s₁.setTop (mkF m 8 #[.val (.int p1), .val (.int kk)] [])) _
    refine XS.iloadN X0.here hx rfl (hb hby d1_8) rfl ?_
    show Steps p.tables e below (s₁.setTop (mkF m 9 #[.val (.int p1), .val (.int kk)] [(.int kk)])) _
    refine XS.ifNo X0.here hx rfl (hb hby d1_9) rfl ((if0 _ _).trans (teq hc9).2) ?_
    show Steps p.tables e below (s₁.setTop (mkF m 12 #[.val (.int p1), .val (.int kk)] [])) _
    refine XS.bipush X0.here hx rfl (hb hby d1_12) ?_
    exact kt
  · skip
    by_cases hc17 : kk = (1 : Int32)
    · refine ⟨22, #[.val (.int p1), .val (.int kk)], (9 : Int32), hb hby d1_22, fun t kt => ?_⟩
      show Steps p.tables e below (s₁.setTop (mkF m 0 #[.val (.int p1), .unset] [])) _
      refine XS.iloadN X0.here hx rfl (hb hby d1_0) rfl ?_
      show Steps p.tables e below (s₁.setTop (mkF m 1 #[.val (.int p1), .unset] [(.int p1)])) _
      refine XS.bipush X0.here hx rfl (hb hby d1_1) ?_
      show Steps p.tables e below (s₁.setTop (mkF m 3 #[.val (.int p1), .unset] [(.int (16 : Int32)), (.int p1)])) _
      refine XS.iushr X0.here hx rfl (hb hby d1_3) rfl ?_
      show Steps p.tables e below (s₁.setTop (mkF m 4 #[.val (.int p1), .unset] [(.int (((p1).toUInt32 >>> ((16 : Int32) &&& 31).toUInt32).toInt32))])) _
      refine XS.bipush X0.here hx rfl (hb hby d1_4) ?_
      show Steps p.tables e below (s₁.setTop (mkF m 6 #[.val (.int p1), .unset] [(.int (7 : Int32)), (.int (((p1).toUInt32 >>> ((16 : Int32) &&& 31).toUInt32).toInt32))])) _
      refine XS.iand X0.here hx rfl (hb hby d1_6) rfl ?_
      show Steps p.tables e below (s₁.setTop (mkF m 7 #[.val (.int p1), .unset] [(.int ((((p1).toUInt32 >>> ((16 : Int32) &&& 31).toUInt32).toInt32) &&& (7 : Int32)))])) _
      refine XS.istoreN X0.here hx rfl (hb hby d1_7) rfl (l' := #[.val (.int p1), .val (.int ((((p1).toUInt32 >>> ((16 : Int32) &&& 31).toUInt32).toInt32) &&& (7 : Int32)))]) rfl ?_
      show Steps p.tables e below (s₁.setTop (mkF m 8 #[.val (.int p1), .val (.int ((((p1).toUInt32 >>> ((16 : Int32) &&& 31).toUInt32).toInt32) &&& (7 : Int32)))] [])) _
      rw [hkk]
      show Steps p.tables e below (s₁.setTop (mkF m 8 #[.val (.int p1), .val (.int kk)] [])) _
      refine XS.iloadN X0.here hx rfl (hb hby d1_8) rfl ?_
      show Steps p.tables e below (s₁.setTop (mkF m 9 #[.val (.int p1), .val (.int kk)] [(.int kk)])) _
      refine XS.ifYes X0.here hx rfl (pc0 := 9) (pc' := 15) rfl (hb hby d1_9) rfl ((if0 _ _).trans (feq hc9).2) (by decide) (by decide) ?_
      show Steps p.tables e below (s₁.setTop (mkF m 15 #[.val (.int p1), .val (.int kk)] [])) _
      refine XS.iloadN X0.here hx rfl (hb hby d1_15) rfl ?_
      show Steps p.tables e below (s₁.setTop (mkF m 16 #[.val (.int p1), .val (.int kk)] [(.int kk)])) _
      refine XS.iconst X0.here hx rfl (hb hby d1_16) ?_
      show Steps p.tables e below (s₁.setTop (mkF m 17 #[.val (.int p1), .val (.int kk)] [(.int (1 : Int32)), (.int kk)])) _
      refine XS.icmpNo X0.here hx rfl (hb hby d1_17) rfl (teq hc17).2 ?_
      show Steps p.tables e below (s₁.setTop (mkF m 20 #[.val (.int p1), .val (.int kk)] [])) _
      refine XS.bipush X0.here hx rfl (hb hby d1_20) ?_
      exact kt
    · skip
      by_cases hc25 : kk = (2 : Int32)
      · refine ⟨30, #[.val (.int p1), .val (.int kk)], (10 : Int32), hb hby d1_30, fun t kt => ?_⟩
        show Steps p.tables e below (s₁.setTop (mkF m 0 #[.val (.int p1), .unset] [])) _
        refine XS.iloadN X0.here hx rfl (hb hby d1_0) rfl ?_
        show Steps p.tables e below (s₁.setTop (mkF m 1 #[.val (.int p1), .unset] [(.int p1)])) _
        refine XS.bipush X0.here hx rfl (hb hby d1_1) ?_
        show Steps p.tables e below (s₁.setTop (mkF m 3 #[.val (.int p1), .unset] [(.int (16 : Int32)), (.int p1)])) _
        refine XS.iushr X0.here hx rfl (hb hby d1_3) rfl ?_
        show Steps p.tables e below (s₁.setTop (mkF m 4 #[.val (.int p1), .unset] [(.int (((p1).toUInt32 >>> ((16 : Int32) &&& 31).toUInt32).toInt32))])) _
        refine XS.bipush X0.here hx rfl (hb hby d1_4) ?_
        show Steps p.tables e below (s₁.setTop (mkF m 6 #[.val (.int p1), .unset] [(.int (7 : Int32)), (.int (((p1).toUInt32 >>> ((16 : Int32) &&& 31).toUInt32).toInt32))])) _
        refine XS.iand X0.here hx rfl (hb hby d1_6) rfl ?_
        show Steps p.tables e below (s₁.setTop (mkF m 7 #[.val (.int p1), .unset] [(.int ((((p1).toUInt32 >>> ((16 : Int32) &&& 31).toUInt32).toInt32) &&& (7 : Int32)))])) _
        refine XS.istoreN X0.here hx rfl (hb hby d1_7) rfl (l' := #[.val (.int p1), .val (.int ((((p1).toUInt32 >>> ((16 : Int32) &&& 31).toUInt32).toInt32) &&& (7 : Int32)))]) rfl ?_
        show Steps p.tables e below (s₁.setTop (mkF m 8 #[.val (.int p1), .val (.int ((((p1).toUInt32 >>> ((16 : Int32) &&& 31).toUInt32).toInt32) &&& (7 : Int32)))] [])) _
        rw [hkk]
        show Steps p.tables e below (s₁.setTop (mkF m 8 #[.val (.int p1), .val (.int kk)] [])) _
        refine XS.iloadN X0.here hx rfl (hb hby d1_8) rfl ?_
        show Steps p.tables e below (s₁.setTop (mkF m 9 #[.val (.int p1), .val (.int kk)] [(.int kk)])) _
        refine XS.ifYes X0.here hx rfl (pc0 := 9) (pc' := 15) rfl (hb hby d1_9) rfl ((if0 _ _).trans (feq hc9).2) (by decide) (by decide) ?_
        show Steps p.tables e below (s₁.setTop (mkF m 15 #[.val (.int p1), .val (.int kk)] [])) _
        refine XS.iloadN X0.here hx rfl (hb hby d1_15) rfl ?_
        show Steps p.tables e below (s₁.setTop (mkF m 16 #[.val (.int p1), .val (.int kk)] [(.int kk)])) _
        refine XS.iconst X0.here hx rfl (hb hby d1_16) ?_
        show Steps p.tables e below (s₁.setTop (mkF m 17 #[.val (.int p1), .val (.int kk)] [(.int (1 : Int32)), (.int kk)])) _
        refine XS.icmpYes X0.here hx rfl (pc0 := 17) (pc' := 23) rfl (hb hby d1_17) rfl (feq hc17).2 (by decide) (by decide) ?_
        show Steps p.tables e below (s₁.setTop (mkF m 23 #[.val (.int p1), .val (.int kk)] [])) _
        refine XS.iloadN X0.here hx rfl (hb hby d1_23) rfl ?_
        show Steps p.tables e below (s₁.setTop (mkF m 24 #[.val (.int p1), .val (.int kk)] [(.int kk)])) _
        refine XS.iconst X0.here hx rfl (hb hby d1_24) ?_
        show Steps p.tables e below (s₁.setTop (mkF m 25 #[.val (.int p1), .val (.int kk)] [(.int (2 : Int32)), (.int kk)])) _
        refine XS.icmpNo X0.here hx rfl (hb hby d1_25) rfl (teq hc25).2 ?_
        show Steps p.tables e below (s₁.setTop (mkF m 28 #[.val (.int p1), .val (.int kk)] [])) _
        refine XS.bipush X0.here hx rfl (hb hby d1_28) ?_
        exact kt
      · skip
        by_cases hc33 : kk = (3 : Int32)
        · refine ⟨38, #[.val (.int p1), .val (.int kk)], (13 : Int32), hb hby d1_38, fun t kt => ?_⟩
          show Steps p.tables e below (s₁.setTop (mkF m 0 #[.val (.int p1), .unset] [])) _
          refine XS.iloadN X0.here hx rfl (hb hby d1_0) rfl ?_
          show Steps p.tables e below (s₁.setTop (mkF m 1 #[.val (.int p1), .unset] [(.int p1)])) _
          refine XS.bipush X0.here hx rfl (hb hby d1_1) ?_
          show Steps p.tables e below (s₁.setTop (mkF m 3 #[.val (.int p1), .unset] [(.int (16 : Int32)), (.int p1)])) _
          refine XS.iushr X0.here hx rfl (hb hby d1_3) rfl ?_
          show Steps p.tables e below (s₁.setTop (mkF m 4 #[.val (.int p1), .unset] [(.int (((p1).toUInt32 >>> ((16 : Int32) &&& 31).toUInt32).toInt32))])) _
          refine XS.bipush X0.here hx rfl (hb hby d1_4) ?_
          show Steps p.tables e below (s₁.setTop (mkF m 6 #[.val (.int p1), .unset] [(.int (7 : Int32)), (.int (((p1).toUInt32 >>> ((16 : Int32) &&& 31).toUInt32).toInt32))])) _
          refine XS.iand X0.here hx rfl (hb hby d1_6) rfl ?_
          show Steps p.tables e below (s₁.setTop (mkF m 7 #[.val (.int p1), .unset] [(.int ((((p1).toUInt32 >>> ((16 : Int32) &&& 31).toUInt32).toInt32) &&& (7 : Int32)))])) _
          refine XS.istoreN X0.here hx rfl (hb hby d1_7) rfl (l' := #[.val (.int p1), .val (.int ((((p1).toUInt32 >>> ((16 : Int32) &&& 31).toUInt32).toInt32) &&& (7 : Int32)))]) rfl ?_
          show Steps p.tables e below (s₁.setTop (mkF m 8 #[.val (.int p1), .val (.int ((((p1).toUInt32 >>> ((16 : Int32) &&& 31).toUInt32).toInt32) &&& (7 : Int32)))] [])) _
          rw [hkk]
          show Steps p.tables e below (s₁.setTop (mkF m 8 #[.val (.int p1), .val (.int kk)] [])) _
          refine XS.iloadN X0.here hx rfl (hb hby d1_8) rfl ?_
          show Steps p.tables e below (s₁.setTop (mkF m 9 #[.val (.int p1), .val (.int kk)] [(.int kk)])) _
          refine XS.ifYes X0.here hx rfl (pc0 := 9) (pc' := 15) rfl (hb hby d1_9) rfl ((if0 _ _).trans (feq hc9).2) (by decide) (by decide) ?_
          show Steps p.tables e below (s₁.setTop (mkF m 15 #[.val (.int p1), .val (.int kk)] [])) _
          refine XS.iloadN X0.here hx rfl (hb hby d1_15) rfl ?_
          show Steps p.tables e below (s₁.setTop (mkF m 16 #[.val (.int p1), .val (.int kk)] [(.int kk)])) _
          refine XS.iconst X0.here hx rfl (hb hby d1_16) ?_
          show Steps p.tables e below (s₁.setTop (mkF m 17 #[.val (.int p1), .val (.int kk)] [(.int (1 : Int32)), (.int kk)])) _
          refine XS.icmpYes X0.here hx rfl (pc0 := 17) (pc' := 23) rfl (hb hby d1_17) rfl (feq hc17).2 (by decide) (by decide) ?_
          show Steps p.tables e below (s₁.setTop (mkF m 23 #[.val (.int p1), .val (.int kk)] [])) _
          refine XS.iloadN X0.here hx rfl (hb hby d1_23) rfl ?_
          show Steps p.tables e below (s₁.setTop (mkF m 24 #[.val (.int p1), .val (.int kk)] [(.int kk)])) _
          refine XS.iconst X0.here hx rfl (hb hby d1_24) ?_
          show Steps p.tables e below (s₁.setTop (mkF m 25 #[.val (.int p1), .val (.int kk)] [(.int (2 : Int32)), (.int kk)])) _
          refine XS.icmpYes X0.here hx rfl (pc0 := 25) (pc' := 31) rfl (hb hby d1_25) rfl (feq hc25).2 (by decide) (by decide) ?_
          show Steps p.tables e below (s₁.setTop (mkF m 31 #[.val (.int p1), .val (.int kk)] [])) _
          refine XS.iloadN X0.here hx rfl (hb hby d1_31) rfl ?_
          show Steps p.tables e below (s₁.setTop (mkF m 32 #[.val (.int p1), .val (.int kk)] [(.int kk)])) _
          refine XS.iconst X0.here hx rfl (hb hby d1_32) ?_
          show Steps p.tables e below (s₁.setTop (mkF m 33 #[.val (.int p1), .val (.int kk)] [(.int (3 : Int32)), (.int kk)])) _
          refine XS.icmpNo X0.here hx rfl (hb hby d1_33) rfl (teq hc33).2 ?_
          show Steps p.tables e below (s₁.setTop (mkF m 36 #[.val (.int p1), .val (.int kk)] [])) _
          refine XS.bipush X0.here hx rfl (hb hby d1_36) ?_
          exact kt
        · refine ⟨41, #[.val (.int p1), .val (.int kk)], ((p1).toUInt32.toUInt16.toUInt32.toInt32), hb hby d1_41, fun t kt => ?_⟩
          show Steps p.tables e below (s₁.setTop (mkF m 0 #[.val (.int p1), .unset] [])) _
          refine XS.iloadN X0.here hx rfl (hb hby d1_0) rfl ?_
          show Steps p.tables e below (s₁.setTop (mkF m 1 #[.val (.int p1), .unset] [(.int p1)])) _
          refine XS.bipush X0.here hx rfl (hb hby d1_1) ?_
          show Steps p.tables e below (s₁.setTop (mkF m 3 #[.val (.int p1), .unset] [(.int (16 : Int32)), (.int p1)])) _
          refine XS.iushr X0.here hx rfl (hb hby d1_3) rfl ?_
          show Steps p.tables e below (s₁.setTop (mkF m 4 #[.val (.int p1), .unset] [(.int (((p1).toUInt32 >>> ((16 : Int32) &&& 31).toUInt32).toInt32))])) _
          refine XS.bipush X0.here hx rfl (hb hby d1_4) ?_
          show Steps p.tables e below (s₁.setTop (mkF m 6 #[.val (.int p1), .unset] [(.int (7 : Int32)), (.int (((p1).toUInt32 >>> ((16 : Int32) &&& 31).toUInt32).toInt32))])) _
          refine XS.iand X0.here hx rfl (hb hby d1_6) rfl ?_
          show Steps p.tables e below (s₁.setTop (mkF m 7 #[.val (.int p1), .unset] [(.int ((((p1).toUInt32 >>> ((16 : Int32) &&& 31).toUInt32).toInt32) &&& (7 : Int32)))])) _
          refine XS.istoreN X0.here hx rfl (hb hby d1_7) rfl (l' := #[.val (.int p1), .val (.int ((((p1).toUInt32 >>> ((16 : Int32) &&& 31).toUInt32).toInt32) &&& (7 : Int32)))]) rfl ?_
          show Steps p.tables e below (s₁.setTop (mkF m 8 #[.val (.int p1), .val (.int ((((p1).toUInt32 >>> ((16 : Int32) &&& 31).toUInt32).toInt32) &&& (7 : Int32)))] [])) _
          rw [hkk]
          show Steps p.tables e below (s₁.setTop (mkF m 8 #[.val (.int p1), .val (.int kk)] [])) _
          refine XS.iloadN X0.here hx rfl (hb hby d1_8) rfl ?_
          show Steps p.tables e below (s₁.setTop (mkF m 9 #[.val (.int p1), .val (.int kk)] [(.int kk)])) _
          refine XS.ifYes X0.here hx rfl (pc0 := 9) (pc' := 15) rfl (hb hby d1_9) rfl ((if0 _ _).trans (feq hc9).2) (by decide) (by decide) ?_
          show Steps p.tables e below (s₁.setTop (mkF m 15 #[.val (.int p1), .val (.int kk)] [])) _
          refine XS.iloadN X0.here hx rfl (hb hby d1_15) rfl ?_
          show Steps p.tables e below (s₁.setTop (mkF m 16 #[.val (.int p1), .val (.int kk)] [(.int kk)])) _
          refine XS.iconst X0.here hx rfl (hb hby d1_16) ?_
          show Steps p.tables e below (s₁.setTop (mkF m 17 #[.val (.int p1), .val (.int kk)] [(.int (1 : Int32)), (.int kk)])) _
          refine XS.icmpYes X0.here hx rfl (pc0 := 17) (pc' := 23) rfl (hb hby d1_17) rfl (feq hc17).2 (by decide) (by decide) ?_
          show Steps p.tables e below (s₁.setTop (mkF m 23 #[.val (.int p1), .val (.int kk)] [])) _
          refine XS.iloadN X0.here hx rfl (hb hby d1_23) rfl ?_
          show Steps p.tables e below (s₁.setTop (mkF m 24 #[.val (.int p1), .val (.int kk)] [(.int kk)])) _
          refine XS.iconst X0.here hx rfl (hb hby d1_24) ?_
          show Steps p.tables e below (s₁.setTop (mkF m 25 #[.val (.int p1), .val (.int kk)] [(.int (2 : Int32)), (.int kk)])) _
          refine XS.icmpYes X0.here hx rfl (pc0 := 25) (pc' := 31) rfl (hb hby d1_25) rfl (feq hc25).2 (by decide) (by decide) ?_
          show Steps p.tables e below (s₁.setTop (mkF m 31 #[.val (.int p1), .val (.int kk)] [])) _
          refine XS.iloadN X0.here hx rfl (hb hby d1_31) rfl ?_
          show Steps p.tables e below (s₁.setTop (mkF m 32 #[.val (.int p1), .val (.int kk)] [(.int kk)])) _
          refine XS.iconst X0.here hx rfl (hb hby d1_32) ?_
          show Steps p.tables e below (s₁.setTop (mkF m 33 #[.val (.int p1), .val (.int kk)] [(.int (3 : Int32)), (.int kk)])) _
          refine XS.icmpYes X0.here hx rfl (pc0 := 33) (pc' := 39) rfl (hb hby d1_33) rfl (feq hc33).2 (by decide) (by decide) ?_
          show Steps p.tables e below (s₁.setTop (mkF m 39 #[.val (.int p1), .val (.int kk)] [])) _
          refine XS.iloadN X0.here hx rfl (hb hby d1_39) rfl ?_
          show Steps p.tables e below (s₁.setTop (mkF m 40 #[.val (.int p1), .val (.int kk)] [(.int p1)])) _
          refine XS.i2c X0.here hx rfl (hb hby d1_40) rfl ?_
          exact kt
def Q2 (h0 : Heap) (n0 : Nat) (v : Option Value) (h : Heap) (L : List Loc) : Prop := (∃ z : Int32, v = some (.int z)) ∧ Fr n0 L ∧ h = h0
set_option maxRecDepth 65536 in
set_option maxHeartbeats 40000000 in
theorem rm2 (l : Launch) (Z : State) (a0 : Array Value) (hw : ∀ d ∈ tables_1, d.before a0 Z = true) (ws : List Jvm.Cond) (p1 p2 : Int32) (h0 : Heap) (n0 : Nat) (Z0 : n0 ≤ h0.size) :
    MetFree l (⟨"java/lang/Math", "min", "(II)I"⟩ : MethodName) (head1 (Jvm.Cond.code (⟨"java/lang/Math", "min", "(II)I"⟩ : MethodName) jdk_29_method_69_code 2 (some .int) :: ws) ({ frames := 0, cells := 0, slots := 0, locals := 0 } : Room)) (fun a U => a = #[(.int p1), (.int p2)] ∧ Z.Warmed39 U.vm ∧ U.heap = h0) (fun _ _ _ _ _ => True) (fun _ U o U' => ∃ v L, o = .returned v ∧ Q2  h0 n0 v U'.heap L ∧ FrameEnd U o U' L ({ frames := 0, cells := 0, slots := 0, locals := 0 } : Room).cells ({ frames := 0, cells := 0, slots := 0, locals := 0 } : Room).slots) := by
  refine MetFree.of_bodySF (Jvm.Free.JP.mathPlain rfl (by decide +kernel)) hisR ?_
  intro p e s m args below meth c s₁ Bd hml0 hP hK
  obtain ⟨rfl, hZ, hh⟩ := hP
  have hx := Bd.exec
  have hby := Bd.bytes
  have hml : c.maxLocals = 2 := hml0
  have hown : s.vm.findClass "java/lang/Math" = some m.cls := findClass_of_methodNamed Bd.named
  have hnm := (name_of_methodNamed Bd.named Bd.method).1
  have X0 : Stand p l e ({ frames := 0, cells := 0, slots := 0, locals := 0 } : Room) s m #[(.int p1), (.int p2)] below meth c s₁ [] 0 0 := Stand.of_body Bd
  have e0 : s₁.heap = h0 := by rw [← hh, Bd.state]; rfl
  have N0 := Fr.nil n0
  have pre0 : ∀ t, Steps p.tables e below (s₁.setTop (mkF m 0 #[.val (.int p1), .val (.int p2)] [])) t → Steps p.tables e below (s₁.setTop (entryFrame m #[(.int p1), (.int p2)] 2)) t := fun t kt0 => castTop (ef_2 m p1 p2) kt0

  suffices hs : ∃ (z : Int32), ∀ t, Steps p.tables e below (s₁.setTop (mkF m 10 #[.val (.int p1), .val (.int p2)] [(.int z)])) t → Steps p.tables e below (s₁.setTop (mkF m 0 #[.val (.int p1), .val (.int p2)] [])) t by
    obtain ⟨z, hs⟩ := hs
    obtain ⟨fs, hr, hrun, hended, hW, hsame⟩ := X0.leave (v := some (.int z)) (fun h => by rw [Bd.returns] at h; cases h)
    refine ⟨_, _, pre0 _ (hs _ (retI X0 hx Bd.returns (hb hby d2_10) hr)), hrun, hended, _, _, rfl, ?_, ⟨_, rfl⟩, hW, hsame.mono (by decide) (by decide)⟩
    show Q2 h0 n0 _ s₁.heap _
    rw [e0]
    exact ⟨⟨_, rfl⟩, N0, rfl⟩
  by_cases hc2 : p2 < p1
  · refine ⟨p2, fun t kt => ?_⟩
    show Steps p.tables e below (s₁.setTop (mkF m 0 #[.val (.int p1), .val (.int p2)] [])) _
    refine XS.iloadN X0.here hx rfl (hb hby d2_0) rfl ?_
    show Steps p.tables e below (s₁.setTop (mkF m 1 #[.val (.int p1), .val (.int p2)] [(.int p1)])) _
    refine XS.iloadN X0.here hx rfl (hb hby d2_1) rfl ?_
    show Steps p.tables e below (s₁.setTop (mkF m 2 #[.val (.int p1), .val (.int p2)] [(.int p2), (.int p1)])) _
    refine XS.icmpYes X0.here hx rfl (pc0 := 2) (pc' := 9) rfl (hb hby d2_2) rfl (tlt hc2).2.2.1 (by decide) (by decide) ?_
    show Steps p.tables e below (s₁.setTop (mkF m 9 #[.val (.int p1), .val (.int p2)] [])) _
    refine XS.iloadN X0.here hx rfl (hb hby d2_9) rfl ?_
    exact kt
  · refine ⟨p1, fun t kt => ?_⟩
    show Steps p.tables e below (s₁.setTop (mkF m 0 #[.val (.int p1), .val (.int p2)] [])) _
    refine XS.iloadN X0.here hx rfl (hb hby d2_0) rfl ?_
    show Steps p.tables e below (s₁.setTop (mkF m 1 #[.val (.int p1), .val (.int p2)] [(.int p1)])) _
    refine XS.iloadN X0.here hx rfl (hb hby d2_1) rfl ?_
    show Steps p.tables e below (s₁.setTop (mkF m 2 #[.val (.int p1), .val (.int p2)] [(.int p2), (.int p1)])) _
    refine XS.icmpNo X0.here hx rfl (hb hby d2_2) rfl (flt hc2).2.2.1 ?_
    show Steps p.tables e below (s₁.setTop (mkF m 5 #[.val (.int p1), .val (.int p2)] [])) _
    refine XS.iloadN X0.here hx rfl (hb hby d2_5) rfl ?_
    show Steps p.tables e below (s₁.setTop (mkF m 6 #[.val (.int p1), .val (.int p2)] [(.int p1)])) _
    refine XS.goto X0.here hx rfl (pc0 := 6) (pc' := 10) rfl (hb hby d2_6) (by decide) (by decide) ?_
    exact kt
theorem d3_0 : decode prog_456_method_1_code 0 = .ok (.aload_n 0, 1) := by decide +kernel
theorem d3_1 : decode prog_456_method_1_code 1 = .ok (.invokespecial 1, 3) := by decide +kernel
theorem d3_4 : decode prog_456_method_1_code 4 = .ok (.aload_n 0, 1) := by decide +kernel
theorem d3_5 : decode prog_456_method_1_code 5 = .ok (.aload_n 1, 1) := by decide +kernel
theorem d3_6 : decode prog_456_method_1_code 6 = .ok (.putfield 7, 3) := by decide +kernel
theorem d3_9 : decode prog_456_method_1_code 9 = .ok (.aload_n 0, 1) := by decide +kernel
theorem d3_10 : decode prog_456_method_1_code 10 = .ok (.iload_n 2, 1) := by decide +kernel
theorem d3_11 : decode prog_456_method_1_code 11 = .ok (.putfield 13, 3) := by decide +kernel
theorem d3_14 : decode prog_456_method_1_code 14 = .ok (.aload_n 0, 1) := by decide +kernel
theorem d3_15 : decode prog_456_method_1_code 15 = .ok (.iload_n 3, 1) := by decide +kernel
theorem d3_16 : decode prog_456_method_1_code 16 = .ok (.putfield 17, 3) := by decide +kernel
theorem d3_19 : decode prog_456_method_1_code 19 = .ok (.return_, 1) := by decide +kernel
theorem pn_3 : plainName "com/example/plinth/plinth/SourceText" = true := by first | (simp [plainName, overriddenIn]; done) | decide +kernel
theorem ef_3 (m : MethodId) (x0 : Addr) (x1 : Addr) (x2 : Int32) (x3 : Int32) : entryFrame m #[(.ref x0), (.ref x1), (.int x2), (.int x3)] 4 = mkF m 0 #[.val (.ref x0), .val (.ref x1), .val (.int x2), .val (.int x3)] [] := by first | (simp [entryFrame, mkF, argsToLocals, Value.category]; done) | rfl
def Q3 (Z : State) (a1 : Addr) (a2 : Addr) (p3 : Int32) (p4 : Int32) (u_chars_a1 : Value) (u_begin_a1 : Value) (u_end_a1 : Value) (h0 : Heap) (n0 : Nat) (v : Option Value) (h : Heap) (L : List Loc) : Prop := v = none ∧ Fr n0 L ∧ Keep h0 h [a1] ∧ Exa Z h a1 "com/example/plinth/plinth/SourceText" ∧ Fld Z h a1 "com/example/plinth/plinth/SourceText" "chars" "[C" (.ref a2) ∧ Fld Z h a1 "com/example/plinth/plinth/SourceText" "begin" "I" (.int p3) ∧ Fld Z h a1 "com/example/plinth/plinth/SourceText" "end" "I" (.int p4)
set_option maxRecDepth 65536 in
set_option maxHeartbeats 40000000 in
theorem rm3 (l : Launch) (Z : State) (a0 : Array Value) (hw : ∀ d ∈ tables_1, d.before a0 Z = true) (ws : List Jvm.Cond) (a1 : Addr) (a2 : Addr) (p3 : Int32) (p4 : Int32) (u_chars_a1 : Value) (u_begin_a1 : Value) (u_end_a1 : Value) (h0 : Heap) (n0 : Nat) (Z0 : n0 ≤ h0.size) (E_a1 : Exa Z h0 a1 "com/example/plinth/plinth/SourceText") (F_chars_a1 : Fld Z h0 a1 "com/example/plinth/plinth/SourceText" "chars" "[C" u_chars_a1) (g_a1 : n0 ≤ a1) (F_begin_a1 : Fld Z h0 a1 "com/example/plinth/plinth/SourceText" "begin" "I" u_begin_a1) (F_end_a1 : Fld Z h0 a1 "com/example/plinth/plinth/SourceText" "end" "I" u_end_a1) :
    MetFree l (⟨"com/example/plinth/plinth/SourceText", "<init>", "([CII)V"⟩ : MethodName) (head1 (Jvm.Cond.code (⟨"com/example/plinth/plinth/SourceText", "<init>", "([CII)V"⟩ : MethodName) prog_456_method_1_code 4 none :: ws) ({ frames := 1, cells := 0, slots := 0, locals := 12 } : Room)) (fun a U => a = #[(.ref a1), (.ref a2), (.int p3), (.int p4)] ∧ Z.Warmed39 U.vm ∧ U.heap = h0) (fun _ _ _ _ _ => True) (fun _ U o U' => ∃ v L, o = .returned v ∧ Q3 Z a1 a2 p3 p4 u_chars_a1 u_begin_a1 u_end_a1 h0 n0 v U'.heap L ∧ FrameEnd U o U' L ({ frames := 1, cells := 0, slots := 0, locals := 12 } : Room).cells ({ frames := 1, cells := 0, slots := 0, locals := 12 } : Room).slots) := by
  refine MetFree.of_bodySF (plainFor_of_name pn_3) hisR ?_
  intro p e s m args below meth c s₁ Bd hml0 hP hK
  obtain ⟨rfl, hZ, hh⟩ := hP
  have hx := Bd.exec
  have hby := Bd.bytes
  have hml : c.maxLocals = 4 := hml0
  have hown : s.vm.findClass "com/example/plinth/plinth/SourceText" = some m.cls := findClass_of_methodNamed Bd.named
  have hnm := (name_of_methodNamed Bd.named Bd.method).1
  have X0 : Stand p l e ({ frames := 1, cells := 0, slots := 0, locals := 12 } : Room) s m #[(.ref a1), (.ref a2), (.int p3), (.int p4)] below meth c s₁ [] 0 0 := Stand.of_body Bd
  have e0 : s₁.heap = h0 := by rw [← hh, Bd.state]; rfl
  have N0 := Fr.nil n0
  have pre0 : ∀ t, Steps p.tables e below (s₁.setTop (mkF m 0 #[.val (.ref a1), .val (.ref a2), .val (.int p3), .val (.int p4)] [])) t → Steps p.tables e below (s₁.setTop (entryFrame m #[(.ref a1), (.ref a2), (.int p3), (.int p4)] 4)) t := fun t k => castTop (ef_3 m a1 a2 p3 p4) k
  -- 3. LAWS
  obtain ⟨T5, X5, e5, st5⟩ := initO X0 hx hZ hown (hw _ (List.mem_of_getElem? (i := 16) rfl)) (hw _ (List.mem_of_getElem? (i := 17) rfl)) (hw _ (List.mem_of_getElem? (i := 18) rfl)) e0 (g := (mkF m 1 #[.val (.ref a1), .val (.ref a2), .val (.int p3), .val (.int p4)] [(.ref a1)])) rfl (by rw [hml]; rfl) rfl (hb hby d3_1) (by decide) (W := 0) (by show 2 * 0 + _ ≤ _; exact Nat.le_of_eq rfl) (by decide)
  obtain ⟨T6, h6, X6, e6, W6, st6⟩ := putF X5 hx hZ hown (host := "") (Or.inl (hw _ (List.mem_of_getElem? (i := 19) rfl))) Via.refl e5 F_chars_a1 E_a1 (Or.inr ⟨(hw _ (List.mem_of_getElem? (i := 20) rfl)), rfl, hnm⟩) (hw _ (List.mem_of_getElem? (i := 11) rfl)) (ty := (.array .char)) (by decide) rfl rfl (g := (mkF m 6 #[.val (.ref a1), .val (.ref a2), .val (.int p3), .val (.int p4)] [(.ref a2), (.ref a1)])) rfl rfl (hb hby d3_6)
  have Fw6 := F_chars_a1.same W6      -- the field now holds (.ref a2)
  have K6 : Keep h0 h6 [a1] := (Keep.refl h0 [a1]).wr W6 (Or.inl (List.mem_of_getElem? (i := 0) rfl))
  have N6 := Fr.snoc X6 N0 g_a1
  obtain ⟨T7, h7, X7, e7, W7, st7⟩ := putF X6 hx hZ hown (host := "") (Or.inl (hw _ (List.mem_of_getElem? (i := 21) rfl))) Via.refl e6 (F_begin_a1.other W6 (Or.inr (slot_ne (Or.inr (hw _ (List.mem_of_getElem? (i := 22) rfl))) (Or.inr (hw _ (List.mem_of_getElem? (i := 20) rfl))) (by decide) (t := .int) (t' := (.array .char)) (by decide) (by decide)))) (E_a1.wr W6) (Or.inr ⟨(hw _ (List.mem_of_getElem? (i := 22) rfl)), rfl, hnm⟩) (hw _ (List.mem_of_getElem? (i := 11) rfl)) (ty := .int) (by decide) rfl rfl (g := (mkF m 11 #[.val (.ref a1), .val (.ref a2), .val (.int p3), .val (.int p4)] [(.int p3), (.ref a1)])) rfl rfl (hb hby d3_11)
  have Fw7 := (F_begin_a1.other W6 (Or.inr (slot_ne (Or.inr (hw _ (List.mem_of_getElem? (i := 22) rfl))) (Or.inr (hw _ (List.mem_of_getElem? (i := 20) rfl))) (by decide) (t := .int) (t' := (.array .char)) (by decide) (by decide)))).same W7      -- the field now holds (.int p3)
  have K7 : Keep h0 h7 [a1] := K6.wr W7 (Or.inl (List.mem_of_getElem? (i := 0) rfl))
  have N7 := Fr.snoc X7 N6 g_a1
  obtain ⟨T8, h8, X8, e8, W8, st8⟩ := putF X7 hx hZ hown (host := "") (Or.inl (hw _ (List.mem_of_getElem? (i := 23) rfl))) Via.refl e7 ((F_end_a1.other W6 (Or.inr (slot_ne (Or.inr (hw _ (List.mem_of_getElem? (i := 24) rfl))) (Or.inr (hw _ (List.mem_of_getElem? (i := 20) rfl))) (by decide) (t := .int) (t' := (.array .char)) (by decide) (by decide)))).other W7 (Or.inr (slot_ne (Or.inr (hw _ (List.mem_of_getElem? (i := 24) rfl))) (Or.inr (hw _ (List.mem_of_getElem? (i := 22) rfl))) (by decide) (t := .int) (t' := .int) (by decide) (by decide)))) ((E_a1.wr W6).wr W7) (Or.inr ⟨(hw _ (List.mem_of_getElem? (i := 24) rfl)), rfl, hnm⟩) (hw _ (List.mem_of_getElem? (i := 11) rfl)) (ty := .int) (by decide) rfl rfl (g := (mkF m 16 #[.val (.ref a1), .val (.ref a2), .val (.int p3), .val (.int p4)] [(.int p4), (.ref a1)])) rfl rfl (hb hby d3_16)
  have Fw8 := ((F_end_a1.other W6 (Or.inr (slot_ne (Or.inr (hw _ (List.mem_of_getElem? (i := 24) rfl))) (Or.inr (hw _ (List.mem_of_getElem? (i := 20) rfl))) (by decide) (t := .int) (t' := (.array .char)) (by decide) (by decide)))).other W7 (Or.inr (slot_ne (Or.inr (hw _ (List.mem_of_getElem? (i := 24) rfl))) (Or.inr (hw _ (List.mem_of_getElem? (i := 22) rfl))) (by decide) (t := .int) (t' := .int) (by decide) (by decide)))).same W8      -- the field now holds (.int p4)
  have K8 : Keep h0 h8 [a1] := K7.wr W8 (Or.inl (List.mem_of_getElem? (i := 0) rfl))
  have N8 := Fr.snoc X8 N7 g_a1
  obtain ⟨fs, hr, hrun, hended, hW, hsame⟩ := X8.leave (v := none) (fun _ => rfl)
  refine ⟨_, _, pre0 _ ?_, hrun, hended, _, _, rfl, ?_, ⟨_, rfl⟩, hW, hsame.mono (by decide) (by decide)⟩
  -- 4. STEPS
  · show Steps p.tables e below (s₁.setTop (mkF m 0 #[.val (.ref a1), .val (.ref a2), .val (.int p3), .val (.int p4)] [])) _
    refine XS.aloadN X0.here hx rfl (hb hby d3_0) rfl rfl ?_
    show Steps p.tables e below (s₁.setTop (mkF m 1 #[.val (.ref a1), .val (.ref a2), .val (.int p3), .val (.int p4)] [(.ref a1)])) _
    refine st5 _ ?_
    show Steps p.tables e below (T5.setTop (mkF m 4 #[.val (.ref a1), .val (.ref a2), .val (.int p3), .val (.int p4)] [])) _
    refine XS.aloadN X5.here hx rfl (hb hby d3_4) rfl rfl ?_
    show Steps p.tables e below (T5.setTop (mkF m 5 #[.val (.ref a1), .val (.ref a2), .val (.int p3), .val (.int p4)] [(.ref a1)])) _
    refine XS.aloadN X5.here hx rfl (hb hby d3_5) rfl rfl ?_
    show Steps p.tables e below (T5.setTop (mkF m 6 #[.val (.ref a1), .val (.ref a2), .val (.int p3), .val (.int p4)] [(.ref a2), (.ref a1)])) _
    refine st6 _ ?_
    show Steps p.tables e below (T6.setTop (mkF m 9 #[.val (.ref a1), .val (.ref a2), .val (.int p3), .val (.int p4)] [])) _
    refine XS.aloadN X6.here hx rfl (hb hby d3_9) rfl rfl ?_
    show Steps p.tables e below (T6.setTop (mkF m 10 #[.val (.ref a1), .val (.ref a2), .val (.int p3), .val (.int p4)] [(.ref a1)])) _
    refine XS.iloadN X6.here hx rfl (hb hby d3_10) rfl ?_
    show Steps p.tables e below (T6.setTop (mkF m 11 #[.val (.ref a1), .val (.ref a2), .val (.int p3), .val (.int p4)] [(.int p3), (.ref a1)])) _
    refine st7 _ ?_
    show Steps p.tables e below (T7.setTop (mkF m 14 #[.val (.ref a1), .val (.ref a2), .val (.int p3), .val (.int p4)] [])) _
    refine XS.aloadN X7.here hx rfl (hb hby d3_14) rfl rfl ?_
    show Steps p.tables e below (T7.setTop (mkF m 15 #[.val (.ref a1), .val (.ref a2), .val (.int p3), .val (.int p4)] [(.ref a1)])) _
    refine XS.iloadN X7.here hx rfl (hb hby d3_15) rfl ?_
    show Steps p.tables e below (T7.setTop (mkF m 16 #[.val (.ref a1), .val (.ref a2), .val (.int p3), .val (.int p4)] [(.int p4), (.ref a1)])) _
    refine st8 _ ?_
    show Steps p.tables e below (T8.setTop (mkF m 19 #[.val (.ref a1), .val (.ref a2), .val (.int p3), .val (.int p4)] [])) _
    exact X8.returnOut hx Bd.returns (hb hby d3_19) hr
  · show Q3 Z a1 a2 p3 p4 u_chars_a1 u_begin_a1 u_end_a1 h0 n0 _ T8.heap _
    rw [e8]
    exact ⟨rfl, N8, K8, (((E_a1.wr W6).wr W7).wr W8), ((Fw6.other W7 (Or.inr (slot_ne (Or.inr (hw _ (List.mem_of_getElem? (i := 20) rfl))) (Or.inr (hw _ (List.mem_of_getElem? (i := 22) rfl))) (by decide) (t := (.array .char)) (t' := .int) (by decide) (by decide)))).other W8 (Or.inr (slot_ne (Or.inr (hw _ (List.mem_of_getElem? (i := 20) rfl))) (Or.inr (hw _ (List.mem_of_getElem? (i := 24) rfl))) (by decide) (t := (.array .char)) (t' := .int) (by decide) (by decide)))), (Fw7.other W8 (Or.inr (slot_ne (Or.inr (hw _ (List.mem_of_getElem? (i := 22) rfl))) (Or.inr (hw _ (List.mem_of_getElem? (i := 24) rfl))) (by decide) (t := .int) (t' := .int) (by decide) (by decide)))), Fw8⟩

theorem d6_0 : decode prog_456_method_5_code 0 = .ok (.aload_n 0, 1) := by decide +kernel
theorem d6_1 : decode prog_456_method_5_code 1 = .ok (.getfield 17, 3) := by decide +kernel
theorem d6_4 : decode prog_456_method_5_code 4 = .ok (.ireturn, 1) := by decide +kernel
theorem pn_6 : plainName "com/example/plinth/plinth/SourceText" = true := by first | (simp [plainName, overriddenIn]; done) | decide +kernel
theorem ef_6 (m : MethodId) (x0 : Addr) : entryFrame m #[(.ref x0)] 1 = mkF m 0 #[.val (.ref x0)] [] := by first | (simp [entryFrame, mkF, argsToLocals, Value.category]; done) | rfl
def Q6 (Z : State) (a1 : Addr) (w2 : Int32) (h0 : Heap) (n0 : Nat) (v : Option Value) (h : Heap) (L : List Loc) : Prop := v = some (.int w2) ∧ Fr n0 L ∧ h = h0
set_option maxRecDepth 65536 in
set_option maxHeartbeats 40000000 in
theorem rm6 (l : Launch) (Z : State) (a0 : Array Value) (hw : ∀ d ∈ tables_1, d.before a0 Z = true) (ws : List Jvm.Cond) (a1 : Addr) (w2 : Int32) (h0 : Heap) (n0 : Nat) (Z0 : n0 ≤ h0.size) (F_end_a1 : Fld Z h0 a1 "com/example/plinth/plinth/SourceText" "end" "I" (.int w2)) :
    MetFree l (⟨"com/example/plinth/plinth/SourceText", "end", "()I"⟩ : MethodName) (head1 (Jvm.Cond.code (⟨"com/example/plinth/plinth/SourceText", "end", "()I"⟩ : MethodName) prog_456_method_5_code 1 (some .int) :: ws) ({ frames := 0, cells := 0, slots := 0, locals := 0 } : Room)) (fun a U => a = #[(.ref a1)] ∧ Z.Warmed39 U.vm ∧ U.heap = h0) (fun _ _ _ _ _ => True) (fun _ U o U' => ∃ v L, o = .returned v ∧ Q6 Z a1 w2 h0 n0 v U'.heap L ∧ FrameEnd U o U' L ({ frames := 0, cells := 0, slots := 0, locals := 0 } : Room).cells ({ frames := 0, cells := 0, slots := 0, locals := 0 } : Room).slots) := by
  refine MetFree.of_bodySF (plainFor_of_name pn_6) hisR ?_
  intro p e s m args below meth c s₁ Bd hml0 hP hK
  obtain ⟨rfl, hZ, hh⟩ := hP
  have hx := Bd.exec
  have hby := Bd.bytes
  have hml : c.maxLocals = 1 := hml0
  have hown : s.vm.findClass "com/example/plinth/plinth/SourceText" = some m.cls := findClass_of_methodNamed Bd.named
  have hnm := (name_of_methodNamed Bd.named Bd.method).1
  have X0 : Stand p l e ({ frames := 0, cells := 0, slots := 0, locals := 0 } : Room) s m #[(.ref a1)] below meth c s₁ [] 0 0 := Stand.of_body Bd
  have e0 : s₁.heap = h0 := by rw [← hh, Bd.state]; rfl
  have N0 := Fr.nil n0
  have pre0 : ∀ t, Steps p.tables e below (s₁.setTop (mkF m 0 #[.val (.ref a1)] [])) t → Steps p.tables e below (s₁.setTop (entryFrame m #[(.ref a1)] 1)) t := fun t k => castTop (ef_6 m a1) k
  -- 3. LAWS
  obtain ⟨T3, X3, e3, st3⟩ := getF X0 hx hZ hown (host := "") (Or.inl (hw _ (List.mem_of_getElem? (i := 23) rfl))) Via.refl e0 F_end_a1 (g := (mkF m 1 #[.val (.ref a1)] [(.ref a1)])) rfl rfl (hb hby d6_1)
  obtain ⟨fs, hr, hrun, hended, hW, hsame⟩ := X3.leave (v := some (.int w2)) (fun h => by rw [Bd.returns] at h; cases h)
  refine ⟨_, _, pre0 _ ?_, hrun, hended, _, _, rfl, ?_, ⟨_, rfl⟩, hW, hsame.mono (by decide) (by decide)⟩
  -- 4. STEPS
  · show Steps p.tables e below (s₁.setTop (mkF m 0 #[.val (.ref a1)] [])) _
    refine XS.aloadN X0.here hx rfl (hb hby d6_0) rfl rfl ?_
    show Steps p.tables e below (s₁.setTop (mkF m 1 #[.val (.ref a1)] [(.ref a1)])) _
    refine st3 _ ?_
    show Steps p.tables e below (T3.setTop (mkF m 4 #[.val (.ref a1)] [(.int w2)])) _
    exact retI X3 hx Bd.returns (hb hby d6_4) hr      -- retI stands in the head ('lawwalk <made dir>' prints it)
  · show Q6 Z a1 w2 h0 n0 _ T3.heap _
    rw [e3]
    exact ⟨rfl, N0, rfl⟩

theorem d7_0 : decode prog_456_method_3_code 0 = .ok (.aload_n 0, 1) := by decide +kernel
theorem d7_1 : decode prog_456_method_3_code 1 = .ok (.getfield 7, 3) := by decide +kernel
theorem d7_4 : decode prog_456_method_3_code 4 = .ok (.areturn, 1) := by decide +kernel
theorem pn_7 : plainName "com/example/plinth/plinth/SourceText" = true := by first | (simp [plainName, overriddenIn]; done) | decide +kernel
theorem ef_7 (m : MethodId) (x0 : Addr) : entryFrame m #[(.ref x0)] 1 = mkF m 0 #[.val (.ref x0)] [] := by first | (simp [entryFrame, mkF, argsToLocals, Value.category]; done) | rfl
def Q7 (Z : State) (a1 : Addr) (w2 : Addr) (h0 : Heap) (n0 : Nat) (v : Option Value) (h : Heap) (L : List Loc) : Prop := v = some (.ref w2) ∧ Fr n0 L ∧ h = h0
set_option maxRecDepth 65536 in
set_option maxHeartbeats 40000000 in
theorem rm7 (l : Launch) (Z : State) (a0 : Array Value) (hw : ∀ d ∈ tables_1, d.before a0 Z = true) (ws : List Jvm.Cond) (a1 : Addr) (w2 : Addr) (h0 : Heap) (n0 : Nat) (Z0 : n0 ≤ h0.size) (F_chars_a1 : Fld Z h0 a1 "com/example/plinth/plinth/SourceText" "chars" "[C" (.ref w2)) :
    MetFree l (⟨"com/example/plinth/plinth/SourceText", "chars", "()[C"⟩ : MethodName) (head1 (Jvm.Cond.code (⟨"com/example/plinth/plinth/SourceText", "chars", "()[C"⟩ : MethodName) prog_456_method_3_code 1 (some (.array .char)) :: ws) ({ frames := 0, cells := 0, slots := 0, locals := 0 } : Room)) (fun a U => a = #[(.ref a1)] ∧ Z.Warmed39 U.vm ∧ U.heap = h0) (fun _ _ _ _ _ => True) (fun _ U o U' => ∃ v L, o = .returned v ∧ Q7 Z a1 w2 h0 n0 v U'.heap L ∧ FrameEnd U o U' L ({ frames := 0, cells := 0, slots := 0, locals := 0 } : Room).cells ({ frames := 0, cells := 0, slots := 0, locals := 0 } : Room).slots) := by
  refine MetFree.of_bodySF (plainFor_of_name pn_7) hisR ?_
  intro p e s m args below meth c s₁ Bd hml0 hP hK
  obtain ⟨rfl, hZ, hh⟩ := hP
  have hx := Bd.exec
  have hby := Bd.bytes
  have hml : c.maxLocals = 1 := hml0
  have hown : s.vm.findClass "com/example/plinth/plinth/SourceText" = some m.cls := findClass_of_methodNamed Bd.named
  have hnm := (name_of_methodNamed Bd.named Bd.method).1
  have X0 : Stand p l e ({ frames := 0, cells := 0, slots := 0, locals := 0 } : Room) s m #[(.ref a1)] below meth c s₁ [] 0 0 := Stand.of_body Bd
  have e0 : s₁.heap = h0 := by rw [← hh, Bd.state]; rfl
  have N0 := Fr.nil n0
  have pre0 : ∀ t, Steps p.tables e below (s₁.setTop (mkF m 0 #[.val (.ref a1)] [])) t → Steps p.tables e below (s₁.setTop (entryFrame m #[(.ref a1)] 1)) t := fun t k => castTop (ef_7 m a1) k
  -- 3. LAWS
  obtain ⟨T3, X3, e3, st3⟩ := getF X0 hx hZ hown (host := "") (Or.inl (hw _ (List.mem_of_getElem? (i := 19) rfl))) Via.refl e0 F_chars_a1 (g := (mkF m 1 #[.val (.ref a1)] [(.ref a1)])) rfl rfl (hb hby d7_1)
  obtain ⟨fs, hr, hrun, hended, hW, hsame⟩ := X3.leave (v := some (.ref w2)) (fun h => by rw [Bd.returns] at h; cases h)
  refine ⟨_, _, pre0 _ ?_, hrun, hended, _, _, rfl, ?_, ⟨_, rfl⟩, hW, hsame.mono (by decide) (by decide)⟩
  -- 4. STEPS
  · show Steps p.tables e below (s₁.setTop (mkF m 0 #[.val (.ref a1)] [])) _
    refine XS.aloadN X0.here hx rfl (hb hby d7_0) rfl rfl ?_
    show Steps p.tables e below (s₁.setTop (mkF m 1 #[.val (.ref a1)] [(.ref a1)])) _
    refine st3 _ ?_
    show Steps p.tables e below (T3.setTop (mkF m 4 #[.val (.ref a1)] [(.ref w2)])) _
    jvm_step X3.here [X3.here.top, hx, (hb hby d7_4), X3.method', Bd.returns, Value.isRef, FieldType.isReference]
    first | (intro acts; rw [hr _ acts rfl rfl rfl]) | rw [hr _ _ rfl rfl rfl]
    exact Steps.refl _
  · show Q7 Z a1 w2 h0 n0 _ T3.heap _
    rw [e3]
    exact ⟨rfl, N0, rfl⟩

def Q8 (p1 : Int32) (h0 : Heap) (n0 : Nat) (v : Option Value) (h : Heap) (L : List Loc) : Prop := v = some (.int (own_ws p1)) ∧ Fr n0 L ∧ h = h0
set_option maxRecDepth 65536 in
set_option maxHeartbeats 40000000 in
theorem rm8 (l : Launch) (Z : State) (a0 : Array Value) (hw : ∀ d ∈ tables_1, d.before a0 Z = true) (ws : List Jvm.Cond) (p1 : Int32) (h0 : Heap) (n0 : Nat) (Z0 : n0 ≤ h0.size) :
    MetFree l (⟨"com/example/plinth/plinth/XmlParser", "isWhitespace", "(C)Z"⟩ : MethodName) (head1 (Jvm.Cond.code (⟨"com/example/plinth/plinth/XmlParser", "isWhitespace", "(C)Z"⟩ : MethodName) prog_475_method_20_code 1 (some .boolean) :: ws) ({ frames := 0, cells := 0, slots := 0, locals := 0 } : Room)) (fun a U => a = #[(.int p1)] ∧ Z.Warmed39 U.vm ∧ U.heap = h0) (fun _ _ _ _ _ => True) (fun _ U o U' => ∃ v L, o = .returned v ∧ Q8 p1 h0 n0 v U'.heap L ∧ FrameEnd U o U' L ({ frames := 0, cells := 0, slots := 0, locals := 0 } : Room).cells ({ frames := 0, cells := 0, slots := 0, locals := 0 } : Room).slots) := by
  refine MetFree.of_bodySF (plainFor_of_name pn_5) hisR ?_
  intro p e s m args below meth c s₁ Bd hml0 hP hK
  obtain ⟨rfl, hZ, hh⟩ := hP
  have hx := Bd.exec
  have hby := Bd.bytes
  have hml : c.maxLocals = 1 := hml0
  have hown : s.vm.findClass "com/example/plinth/plinth/XmlParser" = some m.cls := findClass_of_methodNamed Bd.named
  have hnm := (name_of_methodNamed Bd.named Bd.method).1
  have X0 : Stand p l e ({ frames := 0, cells := 0, slots := 0, locals := 0 } : Room) s m #[(.int p1)] below meth c s₁ [] 0 0 := Stand.of_body Bd
  have e0 : s₁.heap = h0 := by rw [← hh, Bd.state]; rfl
  have N0 := Fr.nil n0
  have pre0 : ∀ t, Steps p.tables e below (s₁.setTop (mkF m 0 #[.val (.int p1)] [])) t → Steps p.tables e below (s₁.setTop (entryFrame m #[(.int p1)] 1)) t := fun t kt0 => castTop (ef_8 m p1) kt0

  suffices hs : ∀ t, Steps p.tables e below (s₁.setTop (mkF m 29 #[.val (.int p1)] [(.int (own_ws p1))])) t → Steps p.tables e below (s₁.setTop (mkF m 0 #[.val (.int p1)] [])) t by
    obtain ⟨fs, hr, hrun, hended, hW, hsame⟩ := X0.leave (v := some (.int (nar .boolean (own_ws p1)))) (fun h => by rw [Bd.returns] at h; cases h)
    refine ⟨_, _, pre0 _ (hs _ (retN X0 hx (t := .boolean) Bd.returns (by simp) (hb hby d8_29) hr)), hrun, hended, _, _, rfl, ?_, ⟨_, rfl⟩, hW, hsame.mono (by decide) (by decide)⟩
    show Q8 p1 h0 n0 _ s₁.heap _
    rw [e0]
    exact ⟨by rw [own_nar_ws], N0, rfl⟩
  intro t kt
  by_cases hc3 : p1 = (32 : Int32)
  · have ew : own_ws p1 = 1 := by simp [own_ws, hc3]
    rw [ew] at kt
    show Steps p.tables e below (s₁.setTop (mkF m 0 #[.val (.int p1)] [])) _
    refine XS.iloadN X0.here hx rfl (hb hby d8_0) rfl ?_
    show Steps p.tables e below (s₁.setTop (mkF m 1 #[.val (.int p1)] [(.int p1)])) _
    refine XS.bipush X0.here hx rfl (hb hby d8_1) ?_
    show Steps p.tables e below (s₁.setTop (mkF m 3 #[.val (.int p1)] [(.int (32 : Int32)), (.int p1)])) _
    refine XS.icmpYes X0.here hx rfl (pc0 := 3) (pc' := 24) rfl (hb hby d8_3) rfl (teq hc3).1 (by decide) (by decide) ?_
    show Steps p.tables e below (s₁.setTop (mkF m 24 #[.val (.int p1)] [])) _
    refine XS.iconst X0.here hx rfl (hb hby d8_24) ?_
    show Steps p.tables e below (s₁.setTop (mkF m 25 #[.val (.int p1)] [(.int (1 : Int32))])) _
    refine XS.goto X0.here hx rfl (pc0 := 25) (pc' := 29) rfl (hb hby d8_25) (by decide) (by decide) ?_
    exact kt
  · skip
    by_cases hc9 : p1 = (9 : Int32)
    · have ew : own_ws p1 = 1 := by simp [own_ws, hc3, hc9]
      rw [ew] at kt
      show Steps p.tables e below (s₁.setTop (mkF m 0 #[.val (.int p1)] [])) _
      refine XS.iloadN X0.here hx rfl (hb hby d8_0) rfl ?_
      show Steps p.tables e below (s₁.setTop (mkF m 1 #[.val (.int p1)] [(.int p1)])) _
      refine XS.bipush X0.here hx rfl (hb hby d8_1) ?_
      show Steps p.tables e below (s₁.setTop (mkF m 3 #[.val (.int p1)] [(.int (32 : Int32)), (.int p1)])) _
      refine XS.icmpNo X0.here hx rfl (hb hby d8_3) rfl (feq hc3).1 ?_
      show Steps p.tables e below (s₁.setTop (mkF m 6 #[.val (.int p1)] [])) _
      refine XS.iloadN X0.here hx rfl (hb hby d8_6) rfl ?_
      show Steps p.tables e below (s₁.setTop (mkF m 7 #[.val (.int p1)] [(.int p1)])) _
      refine XS.bipush X0.here hx rfl (hb hby d8_7) ?_
      show Steps p.tables e below (s₁.setTop (mkF m 9 #[.val (.int p1)] [(.int (9 : Int32)), (.int p1)])) _
      refine XS.icmpYes X0.here hx rfl (pc0 := 9) (pc' := 24) rfl (hb hby d8_9) rfl (teq hc9).1 (by decide) (by decide) ?_
      show Steps p.tables e below (s₁.setTop (mkF m 24 #[.val (.int p1)] [])) _
      refine XS.iconst X0.here hx rfl (hb hby d8_24) ?_
      show Steps p.tables e below (s₁.setTop (mkF m 25 #[.val (.int p1)] [(.int (1 : Int32))])) _
      refine XS.goto X0.here hx rfl (pc0 := 25) (pc' := 29) rfl (hb hby d8_25) (by decide) (by decide) ?_
      exact kt
    · skip
      by_cases hc15 : p1 = (10 : Int32)
      · have ew : own_ws p1 = 1 := by simp [own_ws, hc3, hc9, hc15]
        rw [ew] at kt
        show Steps p.tables e below (s₁.setTop (mkF m 0 #[.val (.int p1)] [])) _
        refine XS.iloadN X0.here hx rfl (hb hby d8_0) rfl ?_
        show Steps p.tables e below (s₁.setTop (mkF m 1 #[.val (.int p1)] [(.int p1)])) _
        refine XS.bipush X0.here hx rfl (hb hby d8_1) ?_
        show Steps p.tables e below (s₁.setTop (mkF m 3 #[.val (.int p1)] [(.int (32 : Int32)), (.int p1)])) _
        refine XS.icmpNo X0.here hx rfl (hb hby d8_3) rfl (feq hc3).1 ?_
        show Steps p.tables e below (s₁.setTop (mkF m 6 #[.val (.int p1)] [])) _
        refine XS.iloadN X0.here hx rfl (hb hby d8_6) rfl ?_
        show Steps p.tables e below (s₁.setTop (mkF m 7 #[.val (.int p1)] [(.int p1)])) _
        refine XS.bipush X0.here hx rfl (hb hby d8_7) ?_
        show Steps p.tables e below (s₁.setTop (mkF m 9 #[.val (.int p1)] [(.int (9 : Int32)), (.int p1)])) _
        refine XS.icmpNo X0.here hx rfl (hb hby d8_9) rfl (feq hc9).1 ?_
        show Steps p.tables e below (s₁.setTop (mkF m 12 #[.val (.int p1)] [])) _
        refine XS.iloadN X0.here hx rfl (hb hby d8_12) rfl ?_
        show Steps p.tables e below (s₁.setTop (mkF m 13 #[.val (.int p1)] [(.int p1)])) _
        refine XS.bipush X0.here hx rfl (hb hby d8_13) ?_
        show Steps p.tables e below (s₁.setTop (mkF m 15 #[.val (.int p1)] [(.int (10 : Int32)), (.int p1)])) _
        refine XS.icmpYes X0.here hx rfl (pc0 := 15) (pc' := 24) rfl (hb hby d8_15) rfl (teq hc15).1 (by decide) (by decide) ?_
        show Steps p.tables e below (s₁.setTop (mkF m 24 #[.val (.int p1)] [])) _
        refine XS.iconst X0.here hx rfl (hb hby d8_24) ?_
        show Steps p.tables e below (s₁.setTop (mkF m 25 #[.val (.int p1)] [(.int (1 : Int32))])) _
        refine XS.goto X0.here hx rfl (pc0 := 25) (pc' := 29) rfl (hb hby d8_25) (by decide) (by decide) ?_
        exact kt
      · skip
        by_cases hc21 : p1 = (13 : Int32)
        · have ew : own_ws p1 = 1 := by simp [own_ws, hc3, hc9, hc15, hc21]
          rw [ew] at kt
          show Steps p.tables e below (s₁.setTop (mkF m 0 #[.val (.int p1)] [])) _
          refine XS.iloadN X0.here hx rfl (hb hby d8_0) rfl ?_
          show Steps p.tables e below (s₁.setTop (mkF m 1 #[.val (.int p1)] [(.int p1)])) _
          refine XS.bipush X0.here hx rfl (hb hby d8_1) ?_
          show Steps p.tables e below (s₁.setTop (mkF m 3 #[.val (.int p1)] [(.int (32 : Int32)), (.int p1)])) _
          refine XS.icmpNo X0.here hx rfl (hb hby d8_3) rfl (feq hc3).1 ?_
          show Steps p.tables e below (s₁.setTop (mkF m 6 #[.val (.int p1)] [])) _
          refine XS.iloadN X0.here hx rfl (hb hby d8_6) rfl ?_
          show Steps p.tables e below (s₁.setTop (mkF m 7 #[.val (.int p1)] [(.int p1)])) _
          refine XS.bipush X0.here hx rfl (hb hby d8_7) ?_
          show Steps p.tables e below (s₁.setTop (mkF m 9 #[.val (.int p1)] [(.int (9 : Int32)), (.int p1)])) _
          refine XS.icmpNo X0.here hx rfl (hb hby d8_9) rfl (feq hc9).1 ?_
          show Steps p.tables e below (s₁.setTop (mkF m 12 #[.val (.int p1)] [])) _
          refine XS.iloadN X0.here hx rfl (hb hby d8_12) rfl ?_
          show Steps p.tables e below (s₁.setTop (mkF m 13 #[.val (.int p1)] [(.int p1)])) _
          refine XS.bipush X0.here hx rfl (hb hby d8_13) ?_
          show Steps p.tables e below (s₁.setTop (mkF m 15 #[.val (.int p1)] [(.int (10 : Int32)), (.int p1)])) _
          refine XS.icmpNo X0.here hx rfl (hb hby d8_15) rfl (feq hc15).1 ?_
          show Steps p.tables e below (s₁.setTop (mkF m 18 #[.val (.int p1)] [])) _
          refine XS.iloadN X0.here hx rfl (hb hby d8_18) rfl ?_
          show Steps p.tables e below (s₁.setTop (mkF m 19 #[.val (.int p1)] [(.int p1)])) _
          refine XS.bipush X0.here hx rfl (hb hby d8_19) ?_
          show Steps p.tables e below (s₁.setTop (mkF m 21 #[.val (.int p1)] [(.int (13 : Int32)), (.int p1)])) _
          refine XS.icmpNo X0.here hx rfl (hb hby d8_21) rfl (teq hc21).2 ?_
          show Steps p.tables e below (s₁.setTop (mkF m 24 #[.val (.int p1)] [])) _
          refine XS.iconst X0.here hx rfl (hb hby d8_24) ?_
          show Steps p.tables e below (s₁.setTop (mkF m 25 #[.val (.int p1)] [(.int (1 : Int32))])) _
          refine XS.goto X0.here hx rfl (pc0 := 25) (pc' := 29) rfl (hb hby d8_25) (by decide) (by decide) ?_
          exact kt
        · have ew : own_ws p1 = 0 := by simp [own_ws, hc3, hc9, hc15, hc21]
          rw [ew] at kt
          show Steps p.tables e below (s₁.setTop (mkF m 0 #[.val (.int p1)] [])) _
          refine XS.iloadN X0.here hx rfl (hb hby d8_0) rfl ?_
          show Steps p.tables e below (s₁.setTop (mkF m 1 #[.val (.int p1)] [(.int p1)])) _
          refine XS.bipush X0.here hx rfl (hb hby d8_1) ?_
          show Steps p.tables e below (s₁.setTop (mkF m 3 #[.val (.int p1)] [(.int (32 : Int32)), (.int p1)])) _
          refine XS.icmpNo X0.here hx rfl (hb hby d8_3) rfl (feq hc3).1 ?_
          show Steps p.tables e below (s₁.setTop (mkF m 6 #[.val (.int p1)] [])) _
          refine XS.iloadN X0.here hx rfl (hb hby d8_6) rfl ?_
          show Steps p.tables e below (s₁.setTop (mkF m 7 #[.val (.int p1)] [(.int p1)])) _
          refine XS.bipush X0.here hx rfl (hb hby d8_7) ?_
          show Steps p.tables e below (s₁.setTop (mkF m 9 #[.val (.int p1)] [(.int (9 : Int32)), (.int p1)])) _
          refine XS.icmpNo X0.here hx rfl (hb hby d8_9) rfl (feq hc9).1 ?_
          show Steps p.tables e below (s₁.setTop (mkF m 12 #[.val (.int p1)] [])) _
          refine XS.iloadN X0.here hx rfl (hb hby d8_12) rfl ?_
          show Steps p.tables e below (s₁.setTop (mkF m 13 #[.val (.int p1)] [(.int p1)])) _
          refine XS.bipush X0.here hx rfl (hb hby d8_13) ?_
          show Steps p.tables e below (s₁.setTop (mkF m 15 #[.val (.int p1)] [(.int (10 : Int32)), (.int p1)])) _
          refine XS.icmpNo X0.here hx rfl (hb hby d8_15) rfl (feq hc15).1 ?_
          show Steps p.tables e below (s₁.setTop (mkF m 18 #[.val (.int p1)] [])) _
          refine XS.iloadN X0.here hx rfl (hb hby d8_18) rfl ?_
          show Steps p.tables e below (s₁.setTop (mkF m 19 #[.val (.int p1)] [(.int p1)])) _
          refine XS.bipush X0.here hx rfl (hb hby d8_19) ?_
          show Steps p.tables e below (s₁.setTop (mkF m 21 #[.val (.int p1)] [(.int (13 : Int32)), (.int p1)])) _
          refine XS.icmpYes X0.here hx rfl (pc0 := 21) (pc' := 28) rfl (hb hby d8_21) rfl (feq hc21).2 (by decide) (by decide) ?_
          show Steps p.tables e below (s₁.setTop (mkF m 28 #[.val (.int p1)] [])) _
          refine XS.iconst X0.here hx rfl (hb hby d8_28) ?_
          exact kt
set_option maxRecDepth 65536 in
set_option maxHeartbeats 40000000 in
theorem rm9 (l : Launch) (Z : State) (a0 : Array Value) (hw : ∀ d ∈ tables_1, d.before a0 Z = true) (ws : List Jvm.Cond) (p1 : Int32) (h0 : Heap) (n0 : Nat) (Z0 : n0 ≤ h0.size) :
    MetFree l (⟨"com/example/plinth/plinth/XmlParserSkipWhitespacePinLaw", "ws", "(C)Z"⟩ : MethodName) (head1 (Jvm.Cond.code (⟨"com/example/plinth/plinth/XmlParserSkipWhitespacePinLaw", "ws", "(C)Z"⟩ : MethodName) method_3_code 1 (some .boolean) :: ws) ({ frames := 0, cells := 0, slots := 0, locals := 0 } : Room)) (fun a U => a = #[(.int p1)] ∧ Z.Warmed39 U.vm ∧ U.heap = h0) (fun _ _ _ _ _ => True) (fun _ U o U' => ∃ v L, o = .returned v ∧ Q8 p1 h0 n0 v U'.heap L ∧ FrameEnd U o U' L ({ frames := 0, cells := 0, slots := 0, locals := 0 } : Room).cells ({ frames := 0, cells := 0, slots := 0, locals := 0 } : Room).slots) := by
  refine MetFree.of_bodySF (plainFor_of_name pn_0) hisR ?_
  intro p e s m args below meth c s₁ Bd hml0 hP hK
  obtain ⟨rfl, hZ, hh⟩ := hP
  have hx := Bd.exec
  have hby := Bd.bytes
  have hml : c.maxLocals = 1 := hml0
  have hown : s.vm.findClass "com/example/plinth/plinth/XmlParserSkipWhitespacePinLaw" = some m.cls := findClass_of_methodNamed Bd.named
  have hnm := (name_of_methodNamed Bd.named Bd.method).1
  have X0 : Stand p l e ({ frames := 0, cells := 0, slots := 0, locals := 0 } : Room) s m #[(.int p1)] below meth c s₁ [] 0 0 := Stand.of_body Bd
  have e0 : s₁.heap = h0 := by rw [← hh, Bd.state]; rfl
  have N0 := Fr.nil n0
  have pre0 : ∀ t, Steps p.tables e below (s₁.setTop (mkF m 0 #[.val (.int p1)] [])) t → Steps p.tables e below (s₁.setTop (entryFrame m #[(.int p1)] 1)) t := fun t kt0 => castTop (ef_8 m p1) kt0

  suffices hs : ∀ t, Steps p.tables e below (s₁.setTop (mkF m 29 #[.val (.int p1)] [(.int (own_ws p1))])) t → Steps p.tables e below (s₁.setTop (mkF m 0 #[.val (.int p1)] [])) t by
    obtain ⟨fs, hr, hrun, hended, hW, hsame⟩ := X0.leave (v := some (.int (nar .boolean (own_ws p1)))) (fun h => by rw [Bd.returns] at h; cases h)
    refine ⟨_, _, pre0 _ (hs _ (retN X0 hx (t := .boolean) Bd.returns (by simp) (hb hby d9_29) hr)), hrun, hended, _, _, rfl, ?_, ⟨_, rfl⟩, hW, hsame.mono (by decide) (by decide)⟩
    show Q8 p1 h0 n0 _ s₁.heap _
    rw [e0]
    exact ⟨by rw [own_nar_ws], N0, rfl⟩
  intro t kt
  by_cases hc3 : p1 = (32 : Int32)
  · have ew : own_ws p1 = 1 := by simp [own_ws, hc3]
    rw [ew] at kt
    show Steps p.tables e below (s₁.setTop (mkF m 0 #[.val (.int p1)] [])) _
    refine XS.iloadN X0.here hx rfl (hb hby d9_0) rfl ?_
    show Steps p.tables e below (s₁.setTop (mkF m 1 #[.val (.int p1)] [(.int p1)])) _
    refine XS.bipush X0.here hx rfl (hb hby d9_1) ?_
    show Steps p.tables e below (s₁.setTop (mkF m 3 #[.val (.int p1)] [(.int (32 : Int32)), (.int p1)])) _
    refine XS.icmpYes X0.here hx rfl (pc0 := 3) (pc' := 24) rfl (hb hby d9_3) rfl (teq hc3).1 (by decide) (by decide) ?_
    show Steps p.tables e below (s₁.setTop (mkF m 24 #[.val (.int p1)] [])) _
    refine XS.iconst X0.here hx rfl (hb hby d9_24) ?_
    show Steps p.tables e below (s₁.setTop (mkF m 25 #[.val (.int p1)] [(.int (1 : Int32))])) _
    refine XS.goto X0.here hx rfl (pc0 := 25) (pc' := 29) rfl (hb hby d9_25) (by decide) (by decide) ?_
    exact kt
  · skip
    by_cases hc9 : p1 = (9 : Int32)
    · have ew : own_ws p1 = 1 := by simp [own_ws, hc3, hc9]
      rw [ew] at kt
      show Steps p.tables e below (s₁.setTop (mkF m 0 #[.val (.int p1)] [])) _
      refine XS.iloadN X0.here hx rfl (hb hby d9_0) rfl ?_
      show Steps p.tables e below (s₁.setTop (mkF m 1 #[.val (.int p1)] [(.int p1)])) _
      refine XS.bipush X0.here hx rfl (hb hby d9_1) ?_
      show Steps p.tables e below (s₁.setTop (mkF m 3 #[.val (.int p1)] [(.int (32 : Int32)), (.int p1)])) _
      refine XS.icmpNo X0.here hx rfl (hb hby d9_3) rfl (feq hc3).1 ?_
      show Steps p.tables e below (s₁.setTop (mkF m 6 #[.val (.int p1)] [])) _
      refine XS.iloadN X0.here hx rfl (hb hby d9_6) rfl ?_
      show Steps p.tables e below (s₁.setTop (mkF m 7 #[.val (.int p1)] [(.int p1)])) _
      refine XS.bipush X0.here hx rfl (hb hby d9_7) ?_
      show Steps p.tables e below (s₁.setTop (mkF m 9 #[.val (.int p1)] [(.int (9 : Int32)), (.int p1)])) _
      refine XS.icmpYes X0.here hx rfl (pc0 := 9) (pc' := 24) rfl (hb hby d9_9) rfl (teq hc9).1 (by decide) (by decide) ?_
      show Steps p.tables e below (s₁.setTop (mkF m 24 #[.val (.int p1)] [])) _
      refine XS.iconst X0.here hx rfl (hb hby d9_24) ?_
      show Steps p.tables e below (s₁.setTop (mkF m 25 #[.val (.int p1)] [(.int (1 : Int32))])) _
      refine XS.goto X0.here hx rfl (pc0 := 25) (pc' := 29) rfl (hb hby d9_25) (by decide) (by decide) ?_
      exact kt
    · skip
      by_cases hc15 : p1 = (10 : Int32)
      · have ew : own_ws p1 = 1 := by simp [own_ws, hc3, hc9, hc15]
        rw [ew] at kt
        show Steps p.tables e below (s₁.setTop (mkF m 0 #[.val (.int p1)] [])) _
        refine XS.iloadN X0.here hx rfl (hb hby d9_0) rfl ?_
        show Steps p.tables e below (s₁.setTop (mkF m 1 #[.val (.int p1)] [(.int p1)])) _
        refine XS.bipush X0.here hx rfl (hb hby d9_1) ?_
        show Steps p.tables e below (s₁.setTop (mkF m 3 #[.val (.int p1)] [(.int (32 : Int32)), (.int p1)])) _
        refine XS.icmpNo X0.here hx rfl (hb hby d9_3) rfl (feq hc3).1 ?_
        show Steps p.tables e below (s₁.setTop (mkF m 6 #[.val (.int p1)] [])) _
        refine XS.iloadN X0.here hx rfl (hb hby d9_6) rfl ?_
        show Steps p.tables e below (s₁.setTop (mkF m 7 #[.val (.int p1)] [(.int p1)])) _
        refine XS.bipush X0.here hx rfl (hb hby d9_7) ?_
        show Steps p.tables e below (s₁.setTop (mkF m 9 #[.val (.int p1)] [(.int (9 : Int32)), (.int p1)])) _
        refine XS.icmpNo X0.here hx rfl (hb hby d9_9) rfl (feq hc9).1 ?_
        show Steps p.tables e below (s₁.setTop (mkF m 12 #[.val (.int p1)] [])) _
        refine XS.iloadN X0.here hx rfl (hb hby d9_12) rfl ?_
        show Steps p.tables e below (s₁.setTop (mkF m 13 #[.val (.int p1)] [(.int p1)])) _
        refine XS.bipush X0.here hx rfl (hb hby d9_13) ?_
        show Steps p.tables e below (s₁.setTop (mkF m 15 #[.val (.int p1)] [(.int (10 : Int32)), (.int p1)])) _
        refine XS.icmpYes X0.here hx rfl (pc0 := 15) (pc' := 24) rfl (hb hby d9_15) rfl (teq hc15).1 (by decide) (by decide) ?_
        show Steps p.tables e below (s₁.setTop (mkF m 24 #[.val (.int p1)] [])) _
        refine XS.iconst X0.here hx rfl (hb hby d9_24) ?_
        show Steps p.tables e below (s₁.setTop (mkF m 25 #[.val (.int p1)] [(.int (1 : Int32))])) _
        refine XS.goto X0.here hx rfl (pc0 := 25) (pc' := 29) rfl (hb hby d9_25) (by decide) (by decide) ?_
        exact kt
      · skip
        by_cases hc21 : p1 = (13 : Int32)
        · have ew : own_ws p1 = 1 := by simp [own_ws, hc3, hc9, hc15, hc21]
          rw [ew] at kt
          show Steps p.tables e below (s₁.setTop (mkF m 0 #[.val (.int p1)] [])) _
          refine XS.iloadN X0.here hx rfl (hb hby d9_0) rfl ?_
          show Steps p.tables e below (s₁.setTop (mkF m 1 #[.val (.int p1)] [(.int p1)])) _
          refine XS.bipush X0.here hx rfl (hb hby d9_1) ?_
          show Steps p.tables e below (s₁.setTop (mkF m 3 #[.val (.int p1)] [(.int (32 : Int32)), (.int p1)])) _
          refine XS.icmpNo X0.here hx rfl (hb hby d9_3) rfl (feq hc3).1 ?_
          show Steps p.tables e below (s₁.setTop (mkF m 6 #[.val (.int p1)] [])) _
          refine XS.iloadN X0.here hx rfl (hb hby d9_6) rfl ?_
          show Steps p.tables e below (s₁.setTop (mkF m 7 #[.val (.int p1)] [(.int p1)])) _
          refine XS.bipush X0.here hx rfl (hb hby d9_7) ?_
          show Steps p.tables e below (s₁.setTop (mkF m 9 #[.val (.int p1)] [(.int (9 : Int32)), (.int p1)])) _
          refine XS.icmpNo X0.here hx rfl (hb hby d9_9) rfl (feq hc9).1 ?_
          show Steps p.tables e below (s₁.setTop (mkF m 12 #[.val (.int p1)] [])) _
          refine XS.iloadN X0.here hx rfl (hb hby d9_12) rfl ?_
          show Steps p.tables e below (s₁.setTop (mkF m 13 #[.val (.int p1)] [(.int p1)])) _
          refine XS.bipush X0.here hx rfl (hb hby d9_13) ?_
          show Steps p.tables e below (s₁.setTop (mkF m 15 #[.val (.int p1)] [(.int (10 : Int32)), (.int p1)])) _
          refine XS.icmpNo X0.here hx rfl (hb hby d9_15) rfl (feq hc15).1 ?_
          show Steps p.tables e below (s₁.setTop (mkF m 18 #[.val (.int p1)] [])) _
          refine XS.iloadN X0.here hx rfl (hb hby d9_18) rfl ?_
          show Steps p.tables e below (s₁.setTop (mkF m 19 #[.val (.int p1)] [(.int p1)])) _
          refine XS.bipush X0.here hx rfl (hb hby d9_19) ?_
          show Steps p.tables e below (s₁.setTop (mkF m 21 #[.val (.int p1)] [(.int (13 : Int32)), (.int p1)])) _
          refine XS.icmpNo X0.here hx rfl (hb hby d9_21) rfl (teq hc21).2 ?_
          show Steps p.tables e below (s₁.setTop (mkF m 24 #[.val (.int p1)] [])) _
          refine XS.iconst X0.here hx rfl (hb hby d9_24) ?_
          show Steps p.tables e below (s₁.setTop (mkF m 25 #[.val (.int p1)] [(.int (1 : Int32))])) _
          refine XS.goto X0.here hx rfl (pc0 := 25) (pc' := 29) rfl (hb hby d9_25) (by decide) (by decide) ?_
          exact kt
        · have ew : own_ws p1 = 0 := by simp [own_ws, hc3, hc9, hc15, hc21]
          rw [ew] at kt
          show Steps p.tables e below (s₁.setTop (mkF m 0 #[.val (.int p1)] [])) _
          refine XS.iloadN X0.here hx rfl (hb hby d9_0) rfl ?_
          show Steps p.tables e below (s₁.setTop (mkF m 1 #[.val (.int p1)] [(.int p1)])) _
          refine XS.bipush X0.here hx rfl (hb hby d9_1) ?_
          show Steps p.tables e below (s₁.setTop (mkF m 3 #[.val (.int p1)] [(.int (32 : Int32)), (.int p1)])) _
          refine XS.icmpNo X0.here hx rfl (hb hby d9_3) rfl (feq hc3).1 ?_
          show Steps p.tables e below (s₁.setTop (mkF m 6 #[.val (.int p1)] [])) _
          refine XS.iloadN X0.here hx rfl (hb hby d9_6) rfl ?_
          show Steps p.tables e below (s₁.setTop (mkF m 7 #[.val (.int p1)] [(.int p1)])) _
          refine XS.bipush X0.here hx rfl (hb hby d9_7) ?_
          show Steps p.tables e below (s₁.setTop (mkF m 9 #[.val (.int p1)] [(.int (9 : Int32)), (.int p1)])) _
          refine XS.icmpNo X0.here hx rfl (hb hby d9_9) rfl (feq hc9).1 ?_
          show Steps p.tables e below (s₁.setTop (mkF m 12 #[.val (.int p1)] [])) _
          refine XS.iloadN X0.here hx rfl (hb hby d9_12) rfl ?_
          show Steps p.tables e below (s₁.setTop (mkF m 13 #[.val (.int p1)] [(.int p1)])) _
          refine XS.bipush X0.here hx rfl (hb hby d9_13) ?_
          show Steps p.tables e below (s₁.setTop (mkF m 15 #[.val (.int p1)] [(.int (10 : Int32)), (.int p1)])) _
          refine XS.icmpNo X0.here hx rfl (hb hby d9_15) rfl (feq hc15).1 ?_
          show Steps p.tables e below (s₁.setTop (mkF m 18 #[.val (.int p1)] [])) _
          refine XS.iloadN X0.here hx rfl (hb hby d9_18) rfl ?_
          show Steps p.tables e below (s₁.setTop (mkF m 19 #[.val (.int p1)] [(.int p1)])) _
          refine XS.bipush X0.here hx rfl (hb hby d9_19) ?_
          show Steps p.tables e below (s₁.setTop (mkF m 21 #[.val (.int p1)] [(.int (13 : Int32)), (.int p1)])) _
          refine XS.icmpYes X0.here hx rfl (pc0 := 21) (pc' := 28) rfl (hb hby d9_21) rfl (feq hc21).2 (by decide) (by decide) ?_
          show Steps p.tables e below (s₁.setTop (mkF m 28 #[.val (.int p1)] [])) _
          refine XS.iconst X0.here hx rfl (hb hby d9_28) ?_
          exact kt
def own_W5 (p : Program) (l : Launch) (e : Env) (s : State) (m : MethodId) (args : Array Value) (below : List Frame) (meth : Method) (c : Code) (n0 : Nat) (T : State) (h : Heap) : Prop := ∃ locs : List Loc, Stand p l e ({ frames := 1, cells := 0, slots := 0, locals := 24 } : Room) s m args below meth c T locs 0 0 ∧ T.heap = h ∧ Fr n0 locs
section Skip
variable {p : Program} {l : Launch} {e : Env} {s : State} {m : MethodId} {args : Array Value} {below : List Frame} {meth : Method} {c : Code} {Z : State} {a0 : Array Value} {h0 : Heap} {n0 : Nat}

set_option maxRecDepth 65536 in
set_option maxHeartbeats 40000000 in
theorem own_vend {T0 : State} (W0 : own_W5 p l e s m args below meth c n0 T0 h0) (hx : p.tables.exec = Jvm.exec) (hZ : Z.Warmed39 s.vm) (hw : ∀ d ∈ tables_1, d.before a0 Z = true) (hby : c.code = prog_475_method_22_code) (hml : c.maxLocals = 3) (hown : s.vm.findClass "com/example/plinth/plinth/XmlParser" = some m.cls) (Z0 : n0 ≤ h0.size) {q : Nat} {Ls : Array Slot} (hL : Ls.size = 3) (o0 : Addr) (E0 : Exa Z h0 o0 "com/example/plinth/plinth/SourceText") (w : Int32) (F : Fld Z h0 o0 "com/example/plinth/plinth/SourceText" "end" "I" (.int w)) (rest : List Value) (hrest : (rest.map fun v => v.category).sum ≤ 8) (hd : decode prog_475_method_22_code q = .ok (.invokevirtual 72, 3)) :
    ∃ (T' : State), own_W5 p l e s m args below meth c n0 T' h0 ∧ own_Ld p e below T0 (mkF m q Ls (.ref o0 :: rest)) T' (mkF m (q + 3) Ls (.int w :: rest)) := by
  obtain ⟨locs, X0, e0, N0⟩ := W0
  obtain ⟨cq3, kq3, q3a, q3b, q3c⟩ := isOf hZ e0 E0
  obtain ⟨_, _, ⟨T4, L4, k4, n4⟩, -, X4, ⟨Lc4, hQ4, l4, y4, z4⟩, st4⟩ := X0.virtualBack hx (y := (⟨"com/example/plinth/plinth/SourceText", "end", "()I"⟩ : MethodName)) (z := (⟨"com/example/plinth/plinth/SourceText", "end", "()I"⟩ : MethodName)) hown (mvT hZ (hw _ (List.mem_of_getElem? (i := 29) rfl))) (mvT hZ (hw _ (List.mem_of_getElem? (i := 30) rfl))) (notFace_of_selects (args := #[]) (mvT hZ (hw _ (List.mem_of_getElem? (i := 32) rfl)))) (mvT hZ (hw _ (List.mem_of_getElem? (i := 32) rfl))) (mvT hZ (hw _ (List.mem_of_getElem? (i := 31) rfl))) (by decide) (backOf (W := 8) (rm6 l Z a0 hw [] o0 w h0 n0 Z0 F) hZ (hw _ (List.mem_of_getElem? (i := 33) rfl)) (hw _ (List.mem_of_getElem? (i := 12) rfl)) (by decide) (by decide)) q3a q3c (g := (mkF m q Ls (.ref o0 :: rest))) rfl (by rw [hml]; exact hL) (Steps.refl _) (argsL := []) (rest := rest) (lenOf pd_end rfl) rfl (by show 2 * 0 + _ ≤ _; omega) (hb hby hd) (fun _ _ => ⟨rfl, e0, (by decide : 0 + 0 ≤ _), (by decide : 0 + 0 ≤ _)⟩)
  dsimp only [Pt.U, Pt.locs, Pt.cells, Pt.slots] at X4 l4 y4 z4 st4 hQ4
  subst l4 y4 z4
  obtain ⟨rfl, N4q, e4⟩ := hQ4
  exact ⟨T4, ⟨_, X4, e4, Fr.app N0 N4q⟩, fun t k => st4.trans k⟩
set_option maxRecDepth 65536 in
set_option maxHeartbeats 40000000 in
theorem own_vchars {T0 : State} (W0 : own_W5 p l e s m args below meth c n0 T0 h0) (hx : p.tables.exec = Jvm.exec) (hZ : Z.Warmed39 s.vm) (hw : ∀ d ∈ tables_1, d.before a0 Z = true) (hby : c.code = prog_475_method_22_code) (hml : c.maxLocals = 3) (hown : s.vm.findClass "com/example/plinth/plinth/XmlParser" = some m.cls) (Z0 : n0 ≤ h0.size) {q : Nat} {Ls : Array Slot} (hL : Ls.size = 3) (o0 : Addr) (E0 : Exa Z h0 o0 "com/example/plinth/plinth/SourceText") (b : Addr) (F : Fld Z h0 o0 "com/example/plinth/plinth/SourceText" "chars" "[C" (.ref b)) (rest : List Value) (hrest : (rest.map fun v => v.category).sum ≤ 8) (hd : decode prog_475_method_22_code q = .ok (.invokevirtual 68, 3)) :
    ∃ (T' : State), own_W5 p l e s m args below meth c n0 T' h0 ∧ own_Ld p e below T0 (mkF m q Ls (.ref o0 :: rest)) T' (mkF m (q + 3) Ls (.ref b :: rest)) := by
  obtain ⟨locs, X0, e0, N0⟩ := W0
  obtain ⟨cq3, kq3, q3a, q3b, q3c⟩ := isOf hZ e0 E0
  obtain ⟨_, _, ⟨T4, L4, k4, n4⟩, -, X4, ⟨Lc4, hQ4, l4, y4, z4⟩, st4⟩ := X0.virtualBack hx (y := (⟨"com/example/plinth/plinth/SourceText", "chars", "()[C"⟩ : MethodName)) (z := (⟨"com/example/plinth/plinth/SourceText", "chars", "()[C"⟩ : MethodName)) hown (mvT hZ (hw _ (List.mem_of_getElem? (i := 34) rfl))) (mvT hZ (hw _ (List.mem_of_getElem? (i := 35) rfl))) (notFace_of_selects (args := #[]) (mvT hZ (hw _ (List.mem_of_getElem? (i := 37) rfl)))) (mvT hZ (hw _ (List.mem_of_getElem? (i := 37) rfl))) (mvT hZ (hw _ (List.mem_of_getElem? (i := 36) rfl))) (by decide) (backOf (W := 8) (rm7 l Z a0 hw [] o0 b h0 n0 Z0 F) hZ (hw _ (List.mem_of_getElem? (i := 38) rfl)) (hw _ (List.mem_of_getElem? (i := 12) rfl)) (by decide) (by decide)) q3a q3c (g := (mkF m q Ls (.ref o0 :: rest))) rfl (by rw [hml]; exact hL) (Steps.refl _) (argsL := []) (rest := rest) (lenOf pd_chars rfl) rfl (by show 2 * 0 + _ ≤ _; omega) (hb hby hd) (fun _ _ => ⟨rfl, e0, (by decide : 0 + 0 ≤ _), (by decide : 0 + 0 ≤ _)⟩)
  dsimp only [Pt.U, Pt.locs, Pt.cells, Pt.slots] at X4 l4 y4 z4 st4 hQ4
  subst l4 y4 z4
  obtain ⟨rfl, N4q, e4⟩ := hQ4
  exact ⟨T4, ⟨_, X4, e4, Fr.app N0 N4q⟩, fun t k => st4.trans k⟩
set_option maxRecDepth 65536 in
set_option maxHeartbeats 40000000 in
theorem own_isw {T0 : State} (W0 : own_W5 p l e s m args below meth c n0 T0 h0) (hx : p.tables.exec = Jvm.exec) (hZ : Z.Warmed39 s.vm) (hw : ∀ d ∈ tables_1, d.before a0 Z = true) (hby : c.code = prog_475_method_22_code) (hml : c.maxLocals = 3) (hown : s.vm.findClass "com/example/plinth/plinth/XmlParser" = some m.cls) (Z0 : n0 ≤ h0.size) {q : Nat} {Ls : Array Slot} (hL : Ls.size = 3) (p1 : Int32) (rest : List Value) (hrest : (rest.map fun v => v.category).sum ≤ 8) (hd : decode prog_475_method_22_code q = .ok (.invokestatic 443, 3)) :
    ∃ (T' : State), own_W5 p l e s m args below meth c n0 T' h0 ∧ own_Ld p e below T0 (mkF m q Ls (.int p1 :: rest)) T' (mkF m (q + 3) Ls (.int (own_ws p1) :: rest)) := by
  obtain ⟨locs, X0, e0, N0⟩ := W0
  obtain ⟨_, _, ⟨T4, L4, k4, n4⟩, -, X4, ⟨Lc4, hQ4, l4, y4, z4⟩, st4⟩ := Jvm.LawKit.callS X0 hx (y := (⟨"com/example/plinth/plinth/XmlParser", "isWhitespace", "(C)Z"⟩ : MethodName)) hown (mvT hZ (hw _ (List.mem_of_getElem? (i := 39) rfl))) (mvT hZ (hw _ (List.mem_of_getElem? (i := 40) rfl))) (mvT hZ (hw _ (List.mem_of_getElem? (i := 27) rfl))) (mvT hZ (hw _ (List.mem_of_getElem? (i := 41) rfl))) (by decide) (backOf (W := 8) (rm8 l Z a0 hw [] p1 h0 n0 Z0) hZ (hw _ (List.mem_of_getElem? (i := 41) rfl)) (hw _ (List.mem_of_getElem? (i := 27) rfl)) (by decide) (by decide)) (g := (mkF m q Ls (.int p1 :: rest))) rfl (by rw [hml]; exact hL) (argsL := [(.int p1)]) (rest := rest) (lenOf pd_ws rfl) rfl (by show 2 * 0 + _ ≤ _; omega) (hb hby hd) (fun _ _ => ⟨rfl, e0, (by decide : 0 + 0 ≤ _), (by decide : 0 + 0 ≤ _)⟩)
  dsimp only [Pt.U, Pt.locs, Pt.cells, Pt.slots] at X4 l4 y4 z4 st4 hQ4
  subst l4 y4 z4
  obtain ⟨rfl, N4q, e4⟩ := hQ4
  exact ⟨T4, ⟨_, X4, e4, Fr.app N0 N4q⟩, fun t k => st4 t k⟩
set_option maxRecDepth 65536 in
set_option maxHeartbeats 40000000 in
theorem own_loop5 (hx : p.tables.exec = Jvm.exec) (hZ : Z.Warmed39 s.vm) (hw : ∀ d ∈ tables_1, d.before a0 Z = true) (hby : c.code = prog_475_method_22_code) (hml : c.maxLocals = 3) (hown : s.vm.findClass "com/example/plinth/plinth/XmlParser" = some m.cls) (Z0 : n0 ≤ h0.size) (o0 : Addr) (i1 : Int32) (b : Addr) (cl : Cell) (en : Nat) (hen : en ≤ 4) (E0 : Exa Z h0 o0 "com/example/plinth/plinth/SourceText") (FE : Fld Z h0 o0 "com/example/plinth/plinth/SourceText" "end" "I" (.int en.toInt32)) (FC : Fld Z h0 o0 "com/example/plinth/plinth/SourceText" "chars" "[C" (.ref b)) (Ar : Arr Z h0 b cl .char) (hsz : cl.slots.size = 4) (Hi : ∀ k, k < 4 → cl.slots[k]? = some (.int (own_g cl k))) :
    ∀ (k i : Nat) (T0 : State), own_W5 p l e s m args below meth c n0 T0 h0 → en ≤ i + k → i + k ≤ 20 → ∃ T' : State, own_W5 p l e s m args below meth c n0 T' h0 ∧ own_Ld p e below T0 (mkF m 2 #[.val (.ref o0), .val (.int i1), .val (.int i.toInt32)] []) T' (mkF m 28 #[.val (.ref o0), .val (.int i1), .val (.int (own_skip (own_g cl) en k i).toInt32)] []) := by
  intro k
  induction k with
  | zero =>
    intro i T0 W0 hi hb20
    obtain ⟨T1, W1, st1⟩ := own_vend W0 hx hZ hw hby hml hown Z0 (q := 4) (Ls := #[.val (.ref o0), .val (.int i1), .val (.int i.toInt32)]) rfl o0 E0 en.toInt32 FE [(.int i.toInt32)] (Nat.le_of_ble_eq_true rfl) d5_4
    have hc7 : ¬ (i.toInt32 < en.toInt32) := fun q => absurd ((own_lt (by omega) (by omega)).mp q) (by omega)
    refine ⟨T1, W1, fun t kt => ?_⟩
    obtain ⟨locs, X0, e0, N0⟩ := W0
    obtain ⟨locs1, X1, e1, N1⟩ := W1
    show Steps p.tables e below (T0.setTop (mkF m 2 #[.val (.ref o0), .val (.int i1), .val (.int i.toInt32)] [])) _
    refine XS.iloadN X0.here hx rfl (hb hby d5_2) rfl ?_
    show Steps p.tables e below (T0.setTop (mkF m 3 #[.val (.ref o0), .val (.int i1), .val (.int i.toInt32)] [(.int i.toInt32)])) _
    refine XS.aloadN X0.here hx rfl (hb hby d5_3) rfl rfl ?_
    show Steps p.tables e below (T0.setTop (mkF m 4 #[.val (.ref o0), .val (.int i1), .val (.int i.toInt32)] [(.ref o0), (.int i.toInt32)])) _
    refine st1 _ ?_
    show Steps p.tables e below (T1.setTop (mkF m 7 #[.val (.ref o0), .val (.int i1), .val (.int i.toInt32)] [(.int en.toInt32), (.int i.toInt32)])) _
    refine XS.icmpYes X1.here hx rfl (pc0 := 7) (pc' := 28) rfl (hb hby d5_7) rfl (flt hc7).2.1 (by decide) (by decide) ?_
    exact kt
  | succ k ih =>
    intro i T0 W0 hi hb20
    obtain ⟨T1, W1, st1⟩ := own_vend W0 hx hZ hw hby hml hown Z0 (q := 4) (Ls := #[.val (.ref o0), .val (.int i1), .val (.int i.toInt32)]) rfl o0 E0 en.toInt32 FE [(.int i.toInt32)] (Nat.le_of_ble_eq_true rfl) d5_4
    by_cases hlt : i < en
    · have hc7 : i.toInt32 < en.toInt32 := (own_lt (by omega) (by omega)).mpr hlt
      obtain ⟨T2, W2, st2⟩ := own_vchars W1 hx hZ hw hby hml hown Z0 (q := 11) (Ls := #[.val (.ref o0), .val (.int i1), .val (.int i.toInt32)]) rfl o0 E0 b FC [] (Nat.le_of_ble_eq_true rfl) d5_11
      obtain ⟨T3, W3, st3⟩ := own_isw W2 hx hZ hw hby hml hown Z0 (q := 16) (Ls := #[.val (.ref o0), .val (.int i1), .val (.int i.toInt32)]) rfl (own_g cl i) [] (Nat.le_of_ble_eq_true rfl) d5_16
      have hin : ¬ (i.toInt32 < 0 ∨ cl.slots.size ≤ i.toInt32.toNatClampNeg) := by rw [hsz]; exact idx_in (by omega) (by decide)
      have hat : cl.slots[i.toInt32.toNatClampNeg]? = some (.int (own_g cl i)) := by rw [own_clamp (by omega)]; exact Hi i (by omega)
      have W3' := W3
      obtain ⟨locs, X0, e0, N0⟩ := W0
      obtain ⟨locs1, X1, e1, N1⟩ := W1
      obtain ⟨locs2, X2, e2, N2⟩ := W2
      obtain ⟨locs3, X3, e3, N3⟩ := W3'
      by_cases hws : own_ws (own_g cl i) = (0 : Int32)
      · have ek : own_skip (own_g cl) en (k + 1) i = i := by simp [own_skip, hws]
        rw [ek]
        refine ⟨T3, W3, fun t kt => ?_⟩
        show Steps p.tables e below (T0.setTop (mkF m 2 #[.val (.ref o0), .val (.int i1), .val (.int i.toInt32)] [])) _
        refine XS.iloadN X0.here hx rfl (hb hby d5_2) rfl ?_
        show Steps p.tables e below (T0.setTop (mkF m 3 #[.val (.ref o0), .val (.int i1), .val (.int i.toInt32)] [(.int i.toInt32)])) _
        refine XS.aloadN X0.here hx rfl (hb hby d5_3) rfl rfl ?_
        show Steps p.tables e below (T0.setTop (mkF m 4 #[.val (.ref o0), .val (.int i1), .val (.int i.toInt32)] [(.ref o0), (.int i.toInt32)])) _
        refine st1 _ ?_
        show Steps p.tables e below (T1.setTop (mkF m 7 #[.val (.ref o0), .val (.int i1), .val (.int i.toInt32)] [(.int en.toInt32), (.int i.toInt32)])) _
        refine XS.icmpNo X1.here hx rfl (hb hby d5_7) rfl (tlt hc7).2.1 ?_
        show Steps p.tables e below (T1.setTop (mkF m 10 #[.val (.ref o0), .val (.int i1), .val (.int i.toInt32)] [])) _
        refine XS.aloadN X1.here hx rfl (hb hby d5_10) rfl rfl ?_
        show Steps p.tables e below (T1.setTop (mkF m 11 #[.val (.ref o0), .val (.int i1), .val (.int i.toInt32)] [(.ref o0)])) _
        refine st2 _ ?_
        show Steps p.tables e below (T2.setTop (mkF m 14 #[.val (.ref o0), .val (.int i1), .val (.int i.toInt32)] [(.ref b)])) _
        refine XS.iloadN X2.here hx rfl (hb hby d5_14) rfl ?_
        show Steps p.tables e below (T2.setTop (mkF m 15 #[.val (.ref o0), .val (.int i1), .val (.int i.toInt32)] [(.int i.toInt32), (.ref b)])) _
        refine X2.caload hx (j := i.toInt32) (v := (.int (own_g cl i))) (by rw [e2]; exact Ar.1) (State.isArrayOf_alike hZ.alike Ar.2.1) Ar.2.2 hin hat (g := (mkF m 15 #[.val (.ref o0), .val (.int i1), .val (.int i.toInt32)] [(.int i.toInt32), (.ref b)])) rfl rfl (hb hby d5_15) _ ?_
        show Steps p.tables e below (T2.setTop (mkF m 16 #[.val (.ref o0), .val (.int i1), .val (.int i.toInt32)] [(.int (own_g cl i))])) _
        refine st3 _ ?_
        show Steps p.tables e below (T3.setTop (mkF m 19 #[.val (.ref o0), .val (.int i1), .val (.int i.toInt32)] [(.int (own_ws (own_g cl i)))])) _
        refine XS.ifYes X3.here hx rfl (pc0 := 19) (pc' := 28) rfl (hb hby d5_19) rfl ((if0 _ _).trans (teq hws).1) (by decide) (by decide) ?_
        exact kt
      · have hw1 : own_ws (own_g cl i) = 1 := (own_ws01 _).resolve_left hws
        have ek : own_skip (own_g cl) en (k + 1) i = own_skip (own_g cl) en k (i + 1) := by simp [own_skip, hw1, hlt]
        rw [ek]
        obtain ⟨T', W', st'⟩ := ih (i + 1) T3 W3 (by omega) (by omega)
        refine ⟨T', W', fun t kt => ?_⟩
        show Steps p.tables e below (T0.setTop (mkF m 2 #[.val (.ref o0), .val (.int i1), .val (.int i.toInt32)] [])) _
        refine XS.iloadN X0.here hx rfl (hb hby d5_2) rfl ?_
        show Steps p.tables e below (T0.setTop (mkF m 3 #[.val (.ref o0), .val (.int i1), .val (.int i.toInt32)] [(.int i.toInt32)])) _
        refine XS.aloadN X0.here hx rfl (hb hby d5_3) rfl rfl ?_
        show Steps p.tables e below (T0.setTop (mkF m 4 #[.val (.ref o0), .val (.int i1), .val (.int i.toInt32)] [(.ref o0), (.int i.toInt32)])) _
        refine st1 _ ?_
        show Steps p.tables e below (T1.setTop (mkF m 7 #[.val (.ref o0), .val (.int i1), .val (.int i.toInt32)] [(.int en.toInt32), (.int i.toInt32)])) _
        refine XS.icmpNo X1.here hx rfl (hb hby d5_7) rfl (tlt hc7).2.1 ?_
        show Steps p.tables e below (T1.setTop (mkF m 10 #[.val (.ref o0), .val (.int i1), .val (.int i.toInt32)] [])) _
        refine XS.aloadN X1.here hx rfl (hb hby d5_10) rfl rfl ?_
        show Steps p.tables e below (T1.setTop (mkF m 11 #[.val (.ref o0), .val (.int i1), .val (.int i.toInt32)] [(.ref o0)])) _
        refine st2 _ ?_
        show Steps p.tables e below (T2.setTop (mkF m 14 #[.val (.ref o0), .val (.int i1), .val (.int i.toInt32)] [(.ref b)])) _
        refine XS.iloadN X2.here hx rfl (hb hby d5_14) rfl ?_
        show Steps p.tables e below (T2.setTop (mkF m 15 #[.val (.ref o0), .val (.int i1), .val (.int i.toInt32)] [(.int i.toInt32), (.ref b)])) _
        refine X2.caload hx (j := i.toInt32) (v := (.int (own_g cl i))) (by rw [e2]; exact Ar.1) (State.isArrayOf_alike hZ.alike Ar.2.1) Ar.2.2 hin hat (g := (mkF m 15 #[.val (.ref o0), .val (.int i1), .val (.int i.toInt32)] [(.int i.toInt32), (.ref b)])) rfl rfl (hb hby d5_15) _ ?_
        show Steps p.tables e below (T2.setTop (mkF m 16 #[.val (.ref o0), .val (.int i1), .val (.int i.toInt32)] [(.int (own_g cl i))])) _
        refine st3 _ ?_
        show Steps p.tables e below (T3.setTop (mkF m 19 #[.val (.ref o0), .val (.int i1), .val (.int i.toInt32)] [(.int (own_ws (own_g cl i)))])) _
        refine XS.ifNo X3.here hx rfl (hb hby d5_19) rfl ((if0 _ _).trans (feq hws).1) ?_
        show Steps p.tables e below (T3.setTop (mkF m 22 #[.val (.ref o0), .val (.int i1), .val (.int i.toInt32)] [])) _
        refine XS.iinc X3.here hx rfl (hb hby d5_22) rfl (l' := #[.val (.ref o0), .val (.int i1), .val (.int (i.toInt32 + (1 : Int32)))]) rfl ?_
        show Steps p.tables e below (T3.setTop (mkF m 25 #[.val (.ref o0), .val (.int i1), .val (.int (i.toInt32 + (1 : Int32)))] [])) _
        refine XS.goto X3.here hx rfl (pc0 := 25) (pc' := 2) rfl (hb hby d5_25) (by decide) (by decide) ?_
        show Steps p.tables e below (T3.setTop (mkF m 2 #[.val (.ref o0), .val (.int i1), .val (.int (i.toInt32 + (1 : Int32)))] [])) _
        rw [own_succ i]
        exact st' t kt
    · have hc7 : ¬ (i.toInt32 < en.toInt32) := fun q => hlt ((own_lt (by omega) (by omega)).mp q)
      have ek : own_skip (own_g cl) en (k + 1) i = i := by simp [own_skip, hlt]
      rw [ek]
      refine ⟨T1, W1, fun t kt => ?_⟩
      obtain ⟨locs, X0, e0, N0⟩ := W0
      obtain ⟨locs1, X1, e1, N1⟩ := W1
      show Steps p.tables e below (T0.setTop (mkF m 2 #[.val (.ref o0), .val (.int i1), .val (.int i.toInt32)] [])) _
      refine XS.iloadN X0.here hx rfl (hb hby d5_2) rfl ?_
      show Steps p.tables e below (T0.setTop (mkF m 3 #[.val (.ref o0), .val (.int i1), .val (.int i.toInt32)] [(.int i.toInt32)])) _
      refine XS.aloadN X0.here hx rfl (hb hby d5_3) rfl rfl ?_
      show Steps p.tables e below (T0.setTop (mkF m 4 #[.val (.ref o0), .val (.int i1), .val (.int i.toInt32)] [(.ref o0), (.int i.toInt32)])) _
      refine st1 _ ?_
      show Steps p.tables e below (T1.setTop (mkF m 7 #[.val (.ref o0), .val (.int i1), .val (.int i.toInt32)] [(.int en.toInt32), (.int i.toInt32)])) _
      refine XS.icmpYes X1.here hx rfl (pc0 := 7) (pc' := 28) rfl (hb hby d5_7) rfl (flt hc7).2.1 (by decide) (by decide) ?_
      exact kt
end Skip
def Q5 (z : Int32) (h0 : Heap) (n0 : Nat) (v : Option Value) (h : Heap) (L : List Loc) : Prop := v = some (.int z) ∧ Fr n0 L ∧ h = h0
set_option maxRecDepth 65536 in
set_option maxHeartbeats 40000000 in
theorem rm5 (l : Launch) (Z : State) (a0 : Array Value) (hw : ∀ d ∈ tables_1, d.before a0 Z = true) (ws : List Jvm.Cond) (o0 : Addr) (ix : Nat) (b : Addr) (cl : Cell) (en : Nat) (h0 : Heap) (n0 : Nat) (Z0 : n0 ≤ h0.size) (hen : en ≤ 4) (hix : ix ≤ en) (E0 : Exa Z h0 o0 "com/example/plinth/plinth/SourceText") (FE : Fld Z h0 o0 "com/example/plinth/plinth/SourceText" "end" "I" (.int en.toInt32)) (FC : Fld Z h0 o0 "com/example/plinth/plinth/SourceText" "chars" "[C" (.ref b)) (Ar : Arr Z h0 b cl .char) (hsz : cl.slots.size = 4) (Hi : ∀ k, k < 4 → cl.slots[k]? = some (.int (own_g cl k))) :
    MetFree l (⟨"com/example/plinth/plinth/XmlParser", "skipWhitespace", "(Lcom/example/plinth/plinth/SourceText;I)I"⟩ : MethodName) (head1 (Jvm.Cond.code (⟨"com/example/plinth/plinth/XmlParser", "skipWhitespace", "(Lcom/example/plinth/plinth/SourceText;I)I"⟩ : MethodName) prog_475_method_22_code 3 (some .int) :: ws) ({ frames := 1, cells := 0, slots := 0, locals := 24 } : Room)) (fun a U => a = #[(.ref o0), (.int ix.toInt32)] ∧ Z.Warmed39 U.vm ∧ U.heap = h0) (fun _ _ _ _ _ => True) (fun _ U o U' => ∃ v L, o = .returned v ∧ Q5 (own_skip (own_g cl) en 4 ix).toInt32 h0 n0 v U'.heap L ∧ FrameEnd U o U' L ({ frames := 1, cells := 0, slots := 0, locals := 24 } : Room).cells ({ frames := 1, cells := 0, slots := 0, locals := 24 } : Room).slots) := by
  refine MetFree.of_bodySF (plainFor_of_name pn_5) hisR ?_
  intro p e s m args below meth c s₁ Bd hml0 hP hK
  obtain ⟨rfl, hZ, hh⟩ := hP
  have hx := Bd.exec
  have hby := Bd.bytes
  have hml : c.maxLocals = 3 := hml0
  have hown : s.vm.findClass "com/example/plinth/plinth/XmlParser" = some m.cls := findClass_of_methodNamed Bd.named
  have hnm := (name_of_methodNamed Bd.named Bd.method).1
  have X0 : Stand p l e ({ frames := 1, cells := 0, slots := 0, locals := 24 } : Room) s m #[(.ref o0), (.int ix.toInt32)] below meth c s₁ [] 0 0 := Stand.of_body Bd
  have e0 : s₁.heap = h0 := by rw [← hh, Bd.state]; rfl
  have N0 := Fr.nil n0
  have pre0 : ∀ t, Steps p.tables e below (s₁.setTop (mkF m 0 #[.val (.ref o0), .val (.int ix.toInt32), .unset] [])) t → Steps p.tables e below (s₁.setTop (entryFrame m #[(.ref o0), (.int ix.toInt32)] 3)) t := fun t kt0 => castTop (ef_5 m o0 ix.toInt32) kt0

  obtain ⟨T', W', st'⟩ := own_loop5 hx hZ hw hby hml hown Z0 o0 ix.toInt32 b cl en hen E0 FE FC Ar hsz Hi 4 ix s₁ ⟨[], X0, e0, N0⟩ (by omega) (by omega)
  obtain ⟨locs', X', e', N'⟩ := W'
  obtain ⟨fs, hr, hrun, hended, hW, hsame⟩ := X'.leave (v := some (.int (own_skip (own_g cl) en 4 ix).toInt32)) (fun h => by rw [Bd.returns] at h; cases h)
  refine ⟨_, _, pre0 _ ?_, hrun, hended, _, _, rfl, ?_, ⟨_, rfl⟩, hW, hsame.mono (by decide) (by decide)⟩
  rotate_left
  · show Q5 (own_skip (own_g cl) en 4 ix).toInt32 h0 n0 _ T'.heap _
    rw [e']
    exact ⟨rfl, N', rfl⟩
  show Steps p.tables e below (s₁.setTop (mkF m 0 #[.val (.ref o0), .val (.int ix.toInt32), .unset] [])) _
  refine XS.iloadN X0.here hx rfl (hb hby d5_0) rfl ?_
  show Steps p.tables e below (s₁.setTop (mkF m 1 #[.val (.ref o0), .val (.int ix.toInt32), .unset] [(.int ix.toInt32)])) _
  refine XS.istoreN X0.here hx rfl (hb hby d5_1) rfl (l' := #[.val (.ref o0), .val (.int ix.toInt32), .val (.int ix.toInt32)]) rfl ?_
  refine st' _ ?_
  show Steps p.tables e below (T'.setTop (mkF m 28 #[.val (.ref o0), .val (.int ix.toInt32), .val (.int (own_skip (own_g cl) en 4 ix).toInt32)] [])) _
  refine XS.iloadN X'.here hx rfl (hb hby d5_28) rfl ?_
  show Steps p.tables e below (T'.setTop (mkF m 29 #[.val (.ref o0), .val (.int ix.toInt32), .val (.int (own_skip (own_g cl) en 4 ix).toInt32)] [(.int (own_skip (own_g cl) en 4 ix).toInt32)])) _
  exact retI X' hx Bd.returns (hb hby d5_29) hr
/-! the law's own road -/
def own_W (p : Program) (l : Launch) (e : Env) (s : State) (m : MethodId) (args : Array Value) (below : List Frame) (meth : Method) (c : Code) (cells slots : Nat) (n0 : Nat) (T : State) (h : Heap) : Prop := ∃ locs : List Loc, Stand p l e room_1 s m args below meth c T locs cells slots ∧ T.heap = h ∧ Fr n0 locs
section Law
variable {p : Program} {l : Launch} {e : Env} {s : State} {m : MethodId} {args : Array Value} {below : List Frame} {meth : Method} {c : Code} {T0 : State} {Z : State} {a0 : Array Value} {h0 : Heap} {n0 : Nat} {cells slots : Nat}

set_option maxRecDepth 65536 in
set_option maxHeartbeats 40000000 in
theorem own_draw (W0 : own_W p l e s m args below meth c cells slots n0 T0 h0) (hx : p.tables.exec = Jvm.exec) (hZ : Z.Warmed39 s.vm) (hw : ∀ d ∈ tables_1, d.before a0 Z = true) (hby : c.code = code) (hml : c.maxLocals = 16) (hown : s.vm.findClass "com/example/plinth/plinth/XmlParserSkipWhitespacePinLaw" = some m.cls) (Z0 : n0 ≤ h0.size) (hce : cells + 0 ≤ room_1.cells) (hsl : slots + 0 ≤ room_1.slots) {q : Nat} {Ls : Array Slot} (hL : Ls.size = 16) (p1 : Int32) (rest : List Value) (hrest : (rest.map fun v => v.category).sum ≤ 8) (hd : decode code q = .ok (.invokestatic 7, 3)) :
    ∃ (T' : State) (z : Int32), own_W p l e s m args below meth c cells slots n0 T' h0 ∧ nar .char z = z ∧ own_Ld p e below T0 (mkF m q Ls (.int p1 :: rest)) T' (mkF m (q + 3) Ls (.int z :: rest)) := by
  obtain ⟨locs, X0, e0, N0⟩ := W0
  obtain ⟨_, _, ⟨T4, L4, k4, n4⟩, -, X4, ⟨Lc4, hQ4, l4, y4, z4⟩, st4⟩ := Jvm.LawKit.callS X0 hx (y := (⟨"com/example/plinth/plinth/XmlParserSkipWhitespacePinLaw", "draw", "(I)C"⟩ : MethodName)) hown (mvT hZ (hw _ (List.mem_of_getElem? (i := 0) rfl))) (mvT hZ (hw _ (List.mem_of_getElem? (i := 1) rfl))) (mvT hZ (hw _ (List.mem_of_getElem? (i := 2) rfl))) (mvT hZ (hw _ (List.mem_of_getElem? (i := 3) rfl))) (by decide) (backOf (W := 8) (rm1 l Z a0 hw [] p1 h0 n0 Z0) hZ (hw _ (List.mem_of_getElem? (i := 3) rfl)) (hw _ (List.mem_of_getElem? (i := 2) rfl)) (by decide) (by decide)) (g := (mkF m q Ls (.int p1 :: rest))) rfl (by rw [hml]; exact hL) (argsL := [(.int p1)]) (rest := rest) (lenOf pd_draw rfl) rfl (by show 2 * 0 + _ ≤ _; omega) (hb hby hd) (fun _ _ => ⟨rfl, e0, hce, hsl⟩)
  dsimp only [Pt.U, Pt.locs, Pt.cells, Pt.slots] at X4 l4 y4 z4 st4 hQ4
  subst l4 y4 z4
  obtain ⟨⟨zz, rfl, hzz⟩, N4q, e4⟩ := hQ4
  exact ⟨T4, _, ⟨_, X4, e4, Fr.app N0 N4q⟩, hzz, fun t k => st4 t k⟩
set_option maxRecDepth 65536 in
set_option maxHeartbeats 40000000 in
theorem own_min (W0 : own_W p l e s m args below meth c cells slots n0 T0 h0) (hx : p.tables.exec = Jvm.exec) (hZ : Z.Warmed39 s.vm) (hw : ∀ d ∈ tables_1, d.before a0 Z = true) (hby : c.code = code) (hml : c.maxLocals = 16) (hown : s.vm.findClass "com/example/plinth/plinth/XmlParserSkipWhitespacePinLaw" = some m.cls) (Z0 : n0 ≤ h0.size) (hce : cells + 0 ≤ room_1.cells) (hsl : slots + 0 ≤ room_1.slots) {q : Nat} {Ls : Array Slot} (hL : Ls.size = 16) (p1 p2 : Int32) (rest : List Value) (hrest : (rest.map fun v => v.category).sum ≤ 8) (hd : decode code q = .ok (.invokestatic 14, 3)) :
    ∃ (T' : State) (z : Int32), own_W p l e s m args below meth c cells slots n0 T' h0 ∧ own_Ld p e below T0 (mkF m q Ls (.int p2 :: .int p1 :: rest)) T' (mkF m (q + 3) Ls (.int z :: rest)) := by
  obtain ⟨locs, X0, e0, N0⟩ := W0
  obtain ⟨_, _, ⟨T4, L4, k4, n4⟩, -, X4, ⟨Lc4, hQ4, l4, y4, z4⟩, st4⟩ := Jvm.LawKit.callS X0 hx (y := (⟨"java/lang/Math", "min", "(II)I"⟩ : MethodName)) hown (mvT hZ (hw _ (List.mem_of_getElem? (i := 6) rfl))) (mvT hZ (hw _ (List.mem_of_getElem? (i := 7) rfl))) (mvT hZ (hw _ (List.mem_of_getElem? (i := 8) rfl))) (mvT hZ (hw _ (List.mem_of_getElem? (i := 9) rfl))) (by decide) (backOf (W := 8) (rm2 l Z a0 hw [] p1 p2 h0 n0 Z0) hZ (hw _ (List.mem_of_getElem? (i := 9) rfl)) (hw _ (List.mem_of_getElem? (i := 8) rfl)) (by decide) (by decide)) (g := (mkF m q Ls (.int p2 :: .int p1 :: rest))) rfl (by rw [hml]; exact hL) (argsL := [(.int p1), (.int p2)]) (rest := rest) (lenOf pd_min rfl) rfl (by show 2 * 0 + _ ≤ _; omega) (hb hby hd) (fun _ _ => ⟨rfl, e0, hce, hsl⟩)
  dsimp only [Pt.U, Pt.locs, Pt.cells, Pt.slots] at X4 l4 y4 z4 st4 hQ4
  subst l4 y4 z4
  obtain ⟨⟨zz, rfl⟩, N4q, e4⟩ := hQ4
  exact ⟨T4, _, ⟨_, X4, e4, Fr.app N0 N4q⟩, fun t k => st4 t k⟩
set_option maxRecDepth 65536 in
set_option maxHeartbeats 40000000 in
theorem own_lws (W0 : own_W p l e s m args below meth c cells slots n0 T0 h0) (hx : p.tables.exec = Jvm.exec) (hZ : Z.Warmed39 s.vm) (hw : ∀ d ∈ tables_1, d.before a0 Z = true) (hby : c.code = code) (hml : c.maxLocals = 16) (hown : s.vm.findClass "com/example/plinth/plinth/XmlParserSkipWhitespacePinLaw" = some m.cls) (Z0 : n0 ≤ h0.size) (hce : cells + 0 ≤ room_1.cells) (hsl : slots + 0 ≤ room_1.slots) {q : Nat} {Ls : Array Slot} (hL : Ls.size = 16) (p1 : Int32) (rest : List Value) (hrest : (rest.map fun v => v.category).sum ≤ 8) (hd : decode code q = .ok (.invokestatic 31, 3)) :
    ∃ (T' : State), own_W p l e s m args below meth c cells slots n0 T' h0 ∧ own_Ld p e below T0 (mkF m q Ls (.int p1 :: rest)) T' (mkF m (q + 3) Ls (.int (own_ws p1) :: rest)) := by
  obtain ⟨locs, X0, e0, N0⟩ := W0
  obtain ⟨_, _, ⟨T4, L4, k4, n4⟩, -, X4, ⟨Lc4, hQ4, l4, y4, z4⟩, st4⟩ := Jvm.LawKit.callS X0 hx (y := (⟨"com/example/plinth/plinth/XmlParserSkipWhitespacePinLaw", "ws", "(C)Z"⟩ : MethodName)) hown (mvT hZ (hw _ (List.mem_of_getElem? (i := 42) rfl))) (mvT hZ (hw _ (List.mem_of_getElem? (i := 43) rfl))) (mvT hZ (hw _ (List.mem_of_getElem? (i := 2) rfl))) (mvT hZ (hw _ (List.mem_of_getElem? (i := 44) rfl))) (by decide) (backOf (W := 8) (rm9 l Z a0 hw [] p1 h0 n0 Z0) hZ (hw _ (List.mem_of_getElem? (i := 44) rfl)) (hw _ (List.mem_of_getElem? (i := 2) rfl)) (by decide) (by decide)) (g := (mkF m q Ls (.int p1 :: rest))) rfl (by rw [hml]; exact hL) (argsL := [(.int p1)]) (rest := rest) (lenOf pd_ws rfl) rfl (by show 2 * 0 + _ ≤ _; omega) (hb hby hd) (fun _ _ => ⟨rfl, e0, hce, hsl⟩)
  dsimp only [Pt.U, Pt.locs, Pt.cells, Pt.slots] at X4 l4 y4 z4 st4 hQ4
  subst l4 y4 z4
  obtain ⟨rfl, N4q, e4⟩ := hQ4
  exact ⟨T4, ⟨_, X4, e4, Fr.app N0 N4q⟩, fun t k => st4 t k⟩
set_option maxRecDepth 65536 in
set_option maxHeartbeats 40000000 in
theorem own_lskip (W0 : own_W p l e s m args below meth c cells slots n0 T0 h0) (hx : p.tables.exec = Jvm.exec) (hZ : Z.Warmed39 s.vm) (hw : ∀ d ∈ tables_1, d.before a0 Z = true) (hby : c.code = code) (hml : c.maxLocals = 16) (hown : s.vm.findClass "com/example/plinth/plinth/XmlParserSkipWhitespacePinLaw" = some m.cls) (Z0 : n0 ≤ h0.size) (hce : cells + 0 ≤ room_1.cells) (hsl : slots + 0 ≤ room_1.slots) {q : Nat} {Ls : Array Slot} (hL : Ls.size = 16) (o0 : Addr) (ix : Nat) (b : Addr) (cl : Cell) (en : Nat) (hen : en ≤ 4) (hix : ix ≤ en) (E0 : Exa Z h0 o0 "com/example/plinth/plinth/SourceText") (FE : Fld Z h0 o0 "com/example/plinth/plinth/SourceText" "end" "I" (.int en.toInt32)) (FC : Fld Z h0 o0 "com/example/plinth/plinth/SourceText" "chars" "[C" (.ref b)) (Ar : Arr Z h0 b cl .char) (hsz : cl.slots.size = 4) (Hi : ∀ k, k < 4 → cl.slots[k]? = some (.int (own_g cl k))) (rest : List Value) (hrest : (rest.map fun v => v.category).sum ≤ 8) (hd : decode code q = .ok (.invokestatic 25, 3)) :
    ∃ (T' : State), own_W p l e s m args below meth c cells slots n0 T' h0 ∧ own_Ld p e below T0 (mkF m q Ls (.int ix.toInt32 :: .ref o0 :: rest)) T' (mkF m (q + 3) Ls (.int (own_skip (own_g cl) en 4 ix).toInt32 :: rest)) := by
  obtain ⟨locs, X0, e0, N0⟩ := W0
  obtain ⟨_, _, ⟨T4, L4, k4, n4⟩, -, X4, ⟨Lc4, hQ4, l4, y4, z4⟩, st4⟩ := Jvm.LawKit.callS X0 hx (y := (⟨"com/example/plinth/plinth/XmlParser", "skipWhitespace", "(Lcom/example/plinth/plinth/SourceText;I)I"⟩ : MethodName)) hown (mvT hZ (hw _ (List.mem_of_getElem? (i := 25) rfl))) (mvT hZ (hw _ (List.mem_of_getElem? (i := 26) rfl))) (mvT hZ (hw _ (List.mem_of_getElem? (i := 27) rfl))) (mvT hZ (hw _ (List.mem_of_getElem? (i := 28) rfl))) (by decide) (backOf (W := 8) (rm5 l Z a0 hw [] o0 ix b cl en h0 n0 Z0 hen hix E0 FE FC Ar hsz Hi) hZ (hw _ (List.mem_of_getElem? (i := 28) rfl)) (hw _ (List.mem_of_getElem? (i := 27) rfl)) (by decide) (by decide)) (g := (mkF m q Ls (.int ix.toInt32 :: .ref o0 :: rest))) rfl (by rw [hml]; exact hL) (argsL := [(.ref o0), (.int ix.toInt32)]) (rest := rest) (lenOf pd_skip rfl) rfl (by show 2 * 0 + _ ≤ _; omega) (hb hby hd) (fun _ _ => ⟨rfl, e0, hce, hsl⟩)
  dsimp only [Pt.U, Pt.locs, Pt.cells, Pt.slots] at X4 l4 y4 z4 st4 hQ4
  subst l4 y4 z4
  obtain ⟨rfl, N4q, e4⟩ := hQ4
  exact ⟨T4, ⟨_, X4, e4, Fr.app N0 N4q⟩, fun t k => st4 t k⟩
def own_L (x0 x1 x2 x3 x4 c0 c1 c2 c3 : Int32) (b : Addr) (en ix : Nat) (bg : Int32) (tx : Addr) (got : Int32) (r : Nat) : Array Slot := #[.val (.int x0), .val (.int x1), .val (.int x2), .val (.int x3), .val (.int x4), .val (.int c0), .val (.int c1), .val (.int c2), .val (.int c3), .val (.ref b), .val (.int en.toInt32), .val (.int ix.toInt32), .val (.int bg), .val (.ref tx), .val (.int got), .val (.int r.toInt32)]
set_option maxRecDepth 65536 in
set_option maxHeartbeats 40000000 in
theorem own_q3 (W0 : own_W p l e s m args below meth c cells slots n0 T0 h0) (hx : p.tables.exec = Jvm.exec) (hZ : Z.Warmed39 s.vm) (hw : ∀ d ∈ tables_1, d.before a0 Z = true) (hby : c.code = code) (hml : c.maxLocals = 16) (hown : s.vm.findClass "com/example/plinth/plinth/XmlParserSkipWhitespacePinLaw" = some m.cls) (Z0 : n0 ≤ h0.size) (hce : cells + 0 ≤ room_1.cells) (hsl : slots + 0 ≤ room_1.slots) (x0 x1 x2 x3 x4 c0 c1 c2 c3 : Int32) (b : Addr) (en ix : Nat) (bg : Int32) (tx : Addr) (got : Int32) (r : Nat) (hen : en ≤ 4) (hix : ix ≤ 4) :
    ∃ (T' : State), own_W p l e s m args below meth c cells slots n0 T' h0 ∧ own_Ld p e below T0 (mkF m 114 (own_L x0 x1 x2 x3 x4 c0 c1 c2 c3 b en ix bg tx got r) []) T' (mkF m 137 (own_L x0 x1 x2 x3 x4 c0 c1 c2 c3 b en ix bg tx got (own_sel 3 ix en (own_ws c3) r)) []) := by
  have ej : ((3 : Nat)).toInt32 = (3 : Int32) := rfl
  by_cases h1 : 3 < ix
  · have hc1 : (3 : Int32) < ix.toInt32 := by rw [← ej]; exact (own_lt (by decide) (by omega)).mpr h1
    have er : (own_sel 3 ix en (own_ws c3) r) = r := by simp [own_sel, h1]
    rw [er]
    refine ⟨T0, W0, fun t kt => ?_⟩
    obtain ⟨locs, X0, e0, N0⟩ := W0
    show Steps p.tables e below (T0.setTop (mkF m 114 (own_L x0 x1 x2 x3 x4 c0 c1 c2 c3 b en ix bg tx got r) [])) _
    refine XS.iconst X0.here hx rfl (hb hby at_114) ?_
    show Steps p.tables e below (T0.setTop (mkF m 115 (own_L x0 x1 x2 x3 x4 c0 c1 c2 c3 b en ix bg tx got r) [(.int (3 : Int32))])) _
    refine XS.iload X0.here hx rfl (hb hby at_115) rfl ?_
    show Steps p.tables e below (T0.setTop (mkF m 117 (own_L x0 x1 x2 x3 x4 c0 c1 c2 c3 b en ix bg tx got r) [(.int ix.toInt32), (.int (3 : Int32))])) _
    refine XS.icmpYes X0.here hx rfl (pc0 := 117) (pc' := 137) rfl (hb hby at_117) rfl (tlt hc1).1 (by decide) (by decide) ?_
    exact kt
  have hc1 : ¬ ((3 : Int32) < ix.toInt32) := by rw [← ej]; exact fun q => h1 ((own_lt (by decide) (by omega)).mp q)
  by_cases h2 : 3 < en
  rotate_left
  · have hc2 : ¬ ((3 : Int32) < en.toInt32) := by rw [← ej]; exact fun q => h2 ((own_lt (by decide) (by omega)).mp q)
    have er : (own_sel 3 ix en (own_ws c3) r) = r := by simp [own_sel, h2]
    rw [er]
    refine ⟨T0, W0, fun t kt => ?_⟩
    obtain ⟨locs, X0, e0, N0⟩ := W0
    show Steps p.tables e below (T0.setTop (mkF m 114 (own_L x0 x1 x2 x3 x4 c0 c1 c2 c3 b en ix bg tx got r) [])) _
    refine XS.iconst X0.here hx rfl (hb hby at_114) ?_
    show Steps p.tables e below (T0.setTop (mkF m 115 (own_L x0 x1 x2 x3 x4 c0 c1 c2 c3 b en ix bg tx got r) [(.int (3 : Int32))])) _
    refine XS.iload X0.here hx rfl (hb hby at_115) rfl ?_
    show Steps p.tables e below (T0.setTop (mkF m 117 (own_L x0 x1 x2 x3 x4 c0 c1 c2 c3 b en ix bg tx got r) [(.int ix.toInt32), (.int (3 : Int32))])) _
    refine XS.icmpNo X0.here hx rfl (hb hby at_117) rfl (flt hc1).1 ?_
    show Steps p.tables e below (T0.setTop (mkF m 120 (own_L x0 x1 x2 x3 x4 c0 c1 c2 c3 b en ix bg tx got r) [])) _
    refine XS.iconst X0.here hx rfl (hb hby at_120) ?_
    show Steps p.tables e below (T0.setTop (mkF m 121 (own_L x0 x1 x2 x3 x4 c0 c1 c2 c3 b en ix bg tx got r) [(.int (3 : Int32))])) _
    refine XS.iload X0.here hx rfl (hb hby at_121) rfl ?_
    show Steps p.tables e below (T0.setTop (mkF m 123 (own_L x0 x1 x2 x3 x4 c0 c1 c2 c3 b en ix bg tx got r) [(.int en.toInt32), (.int (3 : Int32))])) _
    refine XS.icmpYes X0.here hx rfl (pc0 := 123) (pc' := 137) rfl (hb hby at_123) rfl (flt hc2).2.1 (by decide) (by decide) ?_
    exact kt
  have hc2 : (3 : Int32) < en.toInt32 := by rw [← ej]; exact (own_lt (by decide) (by omega)).mpr h2
  obtain ⟨T1, W1, st1⟩ := own_lws W0 hx hZ hw hby hml hown Z0 hce hsl (q := 128) (Ls := (own_L x0 x1 x2 x3 x4 c0 c1 c2 c3 b en ix bg tx got r)) rfl c3 [] (Nat.le_of_ble_eq_true rfl) at_128
  by_cases h3 : own_ws c3 = (0 : Int32)
  · have er : (own_sel 3 ix en (own_ws c3) r) = 3 := by simp [own_sel, h1, h2, h3]
    rw [er]
    refine ⟨T1, W1, fun t kt => ?_⟩
    obtain ⟨locs, X0, e0, N0⟩ := W0
    obtain ⟨locs1, X1, e1, N1⟩ := W1
    show Steps p.tables e below (T0.setTop (mkF m 114 (own_L x0 x1 x2 x3 x4 c0 c1 c2 c3 b en ix bg tx got r) [])) _
    refine XS.iconst X0.here hx rfl (hb hby at_114) ?_
    show Steps p.tables e below (T0.setTop (mkF m 115 (own_L x0 x1 x2 x3 x4 c0 c1 c2 c3 b en ix bg tx got r) [(.int (3 : Int32))])) _
    refine XS.iload X0.here hx rfl (hb hby at_115) rfl ?_
    show Steps p.tables e below (T0.setTop (mkF m 117 (own_L x0 x1 x2 x3 x4 c0 c1 c2 c3 b en ix bg tx got r) [(.int ix.toInt32), (.int (3 : Int32))])) _
    refine XS.icmpNo X0.here hx rfl (hb hby at_117) rfl (flt hc1).1 ?_
    show Steps p.tables e below (T0.setTop (mkF m 120 (own_L x0 x1 x2 x3 x4 c0 c1 c2 c3 b en ix bg tx got r) [])) _
    refine XS.iconst X0.here hx rfl (hb hby at_120) ?_
    show Steps p.tables e below (T0.setTop (mkF m 121 (own_L x0 x1 x2 x3 x4 c0 c1 c2 c3 b en ix bg tx got r) [(.int (3 : Int32))])) _
    refine XS.iload X0.here hx rfl (hb hby at_121) rfl ?_
    show Steps p.tables e below (T0.setTop (mkF m 123 (own_L x0 x1 x2 x3 x4 c0 c1 c2 c3 b en ix bg tx got r) [(.int en.toInt32), (.int (3 : Int32))])) _
    refine XS.icmpNo X0.here hx rfl (hb hby at_123) rfl (tlt hc2).2.1 ?_
    show Steps p.tables e below (T0.setTop (mkF m 126 (own_L x0 x1 x2 x3 x4 c0 c1 c2 c3 b en ix bg tx got r) [])) _
    refine XS.iload X0.here hx rfl (hb hby at_126) rfl ?_
    show Steps p.tables e below (T0.setTop (mkF m 128 (own_L x0 x1 x2 x3 x4 c0 c1 c2 c3 b en ix bg tx got r) [(.int c3)])) _
    refine st1 _ ?_
    show Steps p.tables e below (T1.setTop (mkF m 131 (own_L x0 x1 x2 x3 x4 c0 c1 c2 c3 b en ix bg tx got r) [(.int (own_ws c3))])) _
    refine XS.ifNo X1.here hx rfl (hb hby at_131) rfl ((if0 _ _).trans (teq h3).2) ?_
    show Steps p.tables e below (T1.setTop (mkF m 134 (own_L x0 x1 x2 x3 x4 c0 c1 c2 c3 b en ix bg tx got r) [])) _
    refine XS.iconst X1.here hx rfl (hb hby at_134) ?_
    show Steps p.tables e below (T1.setTop (mkF m 135 (own_L x0 x1 x2 x3 x4 c0 c1 c2 c3 b en ix bg tx got r) [(.int (3 : Nat).toInt32)])) _
    refine XS.istore X1.here hx rfl (hb hby at_135) rfl (l' := (own_L x0 x1 x2 x3 x4 c0 c1 c2 c3 b en ix bg tx got (3 : Nat))) rfl ?_
    exact kt
  · have er : (own_sel 3 ix en (own_ws c3) r) = r := by simp [own_sel, h3]
    rw [er]
    refine ⟨T1, W1, fun t kt => ?_⟩
    obtain ⟨locs, X0, e0, N0⟩ := W0
    obtain ⟨locs1, X1, e1, N1⟩ := W1
    show Steps p.tables e below (T0.setTop (mkF m 114 (own_L x0 x1 x2 x3 x4 c0 c1 c2 c3 b en ix bg tx got r) [])) _
    refine XS.iconst X0.here hx rfl (hb hby at_114) ?_
    show Steps p.tables e below (T0.setTop (mkF m 115 (own_L x0 x1 x2 x3 x4 c0 c1 c2 c3 b en ix bg tx got r) [(.int (3 : Int32))])) _
    refine XS.iload X0.here hx rfl (hb hby at_115) rfl ?_
    show Steps p.tables e below (T0.setTop (mkF m 117 (own_L x0 x1 x2 x3 x4 c0 c1 c2 c3 b en ix bg tx got r) [(.int ix.toInt32), (.int (3 : Int32))])) _
    refine XS.icmpNo X0.here hx rfl (hb hby at_117) rfl (flt hc1).1 ?_
    show Steps p.tables e below (T0.setTop (mkF m 120 (own_L x0 x1 x2 x3 x4 c0 c1 c2 c3 b en ix bg tx got r) [])) _
    refine XS.iconst X0.here hx rfl (hb hby at_120) ?_
    show Steps p.tables e below (T0.setTop (mkF m 121 (own_L x0 x1 x2 x3 x4 c0 c1 c2 c3 b en ix bg tx got r) [(.int (3 : Int32))])) _
    refine XS.iload X0.here hx rfl (hb hby at_121) rfl ?_
    show Steps p.tables e below (T0.setTop (mkF m 123 (own_L x0 x1 x2 x3 x4 c0 c1 c2 c3 b en ix bg tx got r) [(.int en.toInt32), (.int (3 : Int32))])) _
    refine XS.icmpNo X0.here hx rfl (hb hby at_123) rfl (tlt hc2).2.1 ?_
    show Steps p.tables e below (T0.setTop (mkF m 126 (own_L x0 x1 x2 x3 x4 c0 c1 c2 c3 b en ix bg tx got r) [])) _
    refine XS.iload X0.here hx rfl (hb hby at_126) rfl ?_
    show Steps p.tables e below (T0.setTop (mkF m 128 (own_L x0 x1 x2 x3 x4 c0 c1 c2 c3 b en ix bg tx got r) [(.int c3)])) _
    refine st1 _ ?_
    show Steps p.tables e below (T1.setTop (mkF m 131 (own_L x0 x1 x2 x3 x4 c0 c1 c2 c3 b en ix bg tx got r) [(.int (own_ws c3))])) _
    refine XS.ifYes X1.here hx rfl (pc0 := 131) (pc' := 137) rfl (hb hby at_131) rfl ((if0 _ _).trans (feq h3).2) (by decide) (by decide) ?_
    exact kt
set_option maxRecDepth 65536 in
set_option maxHeartbeats 40000000 in
theorem own_q2 (W0 : own_W p l e s m args below meth c cells slots n0 T0 h0) (hx : p.tables.exec = Jvm.exec) (hZ : Z.Warmed39 s.vm) (hw : ∀ d ∈ tables_1, d.before a0 Z = true) (hby : c.code = code) (hml : c.maxLocals = 16) (hown : s.vm.findClass "com/example/plinth/plinth/XmlParserSkipWhitespacePinLaw" = some m.cls) (Z0 : n0 ≤ h0.size) (hce : cells + 0 ≤ room_1.cells) (hsl : slots + 0 ≤ room_1.slots) (x0 x1 x2 x3 x4 c0 c1 c2 c3 : Int32) (b : Addr) (en ix : Nat) (bg : Int32) (tx : Addr) (got : Int32) (r : Nat) (hen : en ≤ 4) (hix : ix ≤ 4) :
    ∃ (T' : State), own_W p l e s m args below meth c cells slots n0 T' h0 ∧ own_Ld p e below T0 (mkF m 137 (own_L x0 x1 x2 x3 x4 c0 c1 c2 c3 b en ix bg tx got r) []) T' (mkF m 160 (own_L x0 x1 x2 x3 x4 c0 c1 c2 c3 b en ix bg tx got (own_sel 2 ix en (own_ws c2) r)) []) := by
  have ej : ((2 : Nat)).toInt32 = (2 : Int32) := rfl
  by_cases h1 : 2 < ix
  · have hc1 : (2 : Int32) < ix.toInt32 := by rw [← ej]; exact (own_lt (by decide) (by omega)).mpr h1
    have er : (own_sel 2 ix en (own_ws c2) r) = r := by simp [own_sel, h1]
    rw [er]
    refine ⟨T0, W0, fun t kt => ?_⟩
    obtain ⟨locs, X0, e0, N0⟩ := W0
    show Steps p.tables e below (T0.setTop (mkF m 137 (own_L x0 x1 x2 x3 x4 c0 c1 c2 c3 b en ix bg tx got r) [])) _
    refine XS.iconst X0.here hx rfl (hb hby at_137) ?_
    show Steps p.tables e below (T0.setTop (mkF m 138 (own_L x0 x1 x2 x3 x4 c0 c1 c2 c3 b en ix bg tx got r) [(.int (2 : Int32))])) _
    refine XS.iload X0.here hx rfl (hb hby at_138) rfl ?_
    show Steps p.tables e below (T0.setTop (mkF m 140 (own_L x0 x1 x2 x3 x4 c0 c1 c2 c3 b en ix bg tx got r) [(.int ix.toInt32), (.int (2 : Int32))])) _
    refine XS.icmpYes X0.here hx rfl (pc0 := 140) (pc' := 160) rfl (hb hby at_140) rfl (tlt hc1).1 (by decide) (by decide) ?_
    exact kt
  have hc1 : ¬ ((2 : Int32) < ix.toInt32) := by rw [← ej]; exact fun q => h1 ((own_lt (by decide) (by omega)).mp q)
  by_cases h2 : 2 < en
  rotate_left
  · have hc2 : ¬ ((2 : Int32) < en.toInt32) := by rw [← ej]; exact fun q => h2 ((own_lt (by decide) (by omega)).mp q)
    have er : (own_sel 2 ix en (own_ws c2) r) = r := by simp [own_sel, h2]
    rw [er]
    refine ⟨T0, W0, fun t kt => ?_⟩
    obtain ⟨locs, X0, e0, N0⟩ := W0
    show Steps p.tables e below (T0.setTop (mkF m 137 (own_L x0 x1 x2 x3 x4 c0 c1 c2 c3 b en ix bg tx got r) [])) _
    refine XS.iconst X0.here hx rfl (hb hby at_137) ?_
    show Steps p.tables e below (T0.setTop (mkF m 138 (own_L x0 x1 x2 x3 x4 c0 c1 c2 c3 b en ix bg tx got r) [(.int (2 : Int32))])) _
    refine XS.iload X0.here hx rfl (hb hby at_138) rfl ?_
    show Steps p.tables e below (T0.setTop (mkF m 140 (own_L x0 x1 x2 x3 x4 c0 c1 c2 c3 b en ix bg tx got r) [(.int ix.toInt32), (.int (2 : Int32))])) _
    refine XS.icmpNo X0.here hx rfl (hb hby at_140) rfl (flt hc1).1 ?_
    show Steps p.tables e below (T0.setTop (mkF m 143 (own_L x0 x1 x2 x3 x4 c0 c1 c2 c3 b en ix bg tx got r) [])) _
    refine XS.iconst X0.here hx rfl (hb hby at_143) ?_
    show Steps p.tables e below (T0.setTop (mkF m 144 (own_L x0 x1 x2 x3 x4 c0 c1 c2 c3 b en ix bg tx got r) [(.int (2 : Int32))])) _
    refine XS.iload X0.here hx rfl (hb hby at_144) rfl ?_
    show Steps p.tables e below (T0.setTop (mkF m 146 (own_L x0 x1 x2 x3 x4 c0 c1 c2 c3 b en ix bg tx got r) [(.int en.toInt32), (.int (2 : Int32))])) _
    refine XS.icmpYes X0.here hx rfl (pc0 := 146) (pc' := 160) rfl (hb hby at_146) rfl (flt hc2).2.1 (by decide) (by decide) ?_
    exact kt
  have hc2 : (2 : Int32) < en.toInt32 := by rw [← ej]; exact (own_lt (by decide) (by omega)).mpr h2
  obtain ⟨T1, W1, st1⟩ := own_lws W0 hx hZ hw hby hml hown Z0 hce hsl (q := 151) (Ls := (own_L x0 x1 x2 x3 x4 c0 c1 c2 c3 b en ix bg tx got r)) rfl c2 [] (Nat.le_of_ble_eq_true rfl) at_151
  by_cases h3 : own_ws c2 = (0 : Int32)
  · have er : (own_sel 2 ix en (own_ws c2) r) = 2 := by simp [own_sel, h1, h2, h3]
    rw [er]
    refine ⟨T1, W1, fun t kt => ?_⟩
    obtain ⟨locs, X0, e0, N0⟩ := W0
    obtain ⟨locs1, X1, e1, N1⟩ := W1
    show Steps p.tables e below (T0.setTop (mkF m 137 (own_L x0 x1 x2 x3 x4 c0 c1 c2 c3 b en ix bg tx got r) [])) _
    refine XS.iconst X0.here hx rfl (hb hby at_137) ?_
    show Steps p.tables e below (T0.setTop (mkF m 138 (own_L x0 x1 x2 x3 x4 c0 c1 c2 c3 b en ix bg tx got r) [(.int (2 : Int32))])) _
    refine XS.iload X0.here hx rfl (hb hby at_138) rfl ?_
    show Steps p.tables e below (T0.setTop (mkF m 140 (own_L x0 x1 x2 x3 x4 c0 c1 c2 c3 b en ix bg tx got r) [(.int ix.toInt32), (.int (2 : Int32))])) _
    refine XS.icmpNo X0.here hx rfl (hb hby at_140) rfl (flt hc1).1 ?_
    show Steps p.tables e below (T0.setTop (mkF m 143 (own_L x0 x1 x2 x3 x4 c0 c1 c2 c3 b en ix bg tx got r) [])) _
    refine XS.iconst X0.here hx rfl (hb hby at_143) ?_
    show Steps p.tables e below (T0.setTop (mkF m 144 (own_L x0 x1 x2 x3 x4 c0 c1 c2 c3 b en ix bg tx got r) [(.int (2 : Int32))])) _
    refine XS.iload X0.here hx rfl (hb hby at_144) rfl ?_
    show Steps p.tables e below (T0.setTop (mkF m 146 (own_L x0 x1 x2 x3 x4 c0 c1 c2 c3 b en ix bg tx got r) [(.int en.toInt32), (.int (2 : Int32))])) _
    refine XS.icmpNo X0.here hx rfl (hb hby at_146) rfl (tlt hc2).2.1 ?_
    show Steps p.tables e below (T0.setTop (mkF m 149 (own_L x0 x1 x2 x3 x4 c0 c1 c2 c3 b en ix bg tx got r) [])) _
    refine XS.iload X0.here hx rfl (hb hby at_149) rfl ?_
    show Steps p.tables e below (T0.setTop (mkF m 151 (own_L x0 x1 x2 x3 x4 c0 c1 c2 c3 b en ix bg tx got r) [(.int c2)])) _
    refine st1 _ ?_
    show Steps p.tables e below (T1.setTop (mkF m 154 (own_L x0 x1 x2 x3 x4 c0 c1 c2 c3 b en ix bg tx got r) [(.int (own_ws c2))])) _
    refine XS.ifNo X1.here hx rfl (hb hby at_154) rfl ((if0 _ _).trans (teq h3).2) ?_
    show Steps p.tables e below (T1.setTop (mkF m 157 (own_L x0 x1 x2 x3 x4 c0 c1 c2 c3 b en ix bg tx got r) [])) _
    refine XS.iconst X1.here hx rfl (hb hby at_157) ?_
    show Steps p.tables e below (T1.setTop (mkF m 158 (own_L x0 x1 x2 x3 x4 c0 c1 c2 c3 b en ix bg tx got r) [(.int (2 : Nat).toInt32)])) _
    refine XS.istore X1.here hx rfl (hb hby at_158) rfl (l' := (own_L x0 x1 x2 x3 x4 c0 c1 c2 c3 b en ix bg tx got (2 : Nat))) rfl ?_
    exact kt
  · have er : (own_sel 2 ix en (own_ws c2) r) = r := by simp [own_sel, h3]
    rw [er]
    refine ⟨T1, W1, fun t kt => ?_⟩
    obtain ⟨locs, X0, e0, N0⟩ := W0
    obtain ⟨locs1, X1, e1, N1⟩ := W1
    show Steps p.tables e below (T0.setTop (mkF m 137 (own_L x0 x1 x2 x3 x4 c0 c1 c2 c3 b en ix bg tx got r) [])) _
    refine XS.iconst X0.here hx rfl (hb hby at_137) ?_
    show Steps p.tables e below (T0.setTop (mkF m 138 (own_L x0 x1 x2 x3 x4 c0 c1 c2 c3 b en ix bg tx got r) [(.int (2 : Int32))])) _
    refine XS.iload X0.here hx rfl (hb hby at_138) rfl ?_
    show Steps p.tables e below (T0.setTop (mkF m 140 (own_L x0 x1 x2 x3 x4 c0 c1 c2 c3 b en ix bg tx got r) [(.int ix.toInt32), (.int (2 : Int32))])) _
    refine XS.icmpNo X0.here hx rfl (hb hby at_140) rfl (flt hc1).1 ?_
    show Steps p.tables e below (T0.setTop (mkF m 143 (own_L x0 x1 x2 x3 x4 c0 c1 c2 c3 b en ix bg tx got r) [])) _
    refine XS.iconst X0.here hx rfl (hb hby at_143) ?_
    show Steps p.tables e below (T0.setTop (mkF m 144 (own_L x0 x1 x2 x3 x4 c0 c1 c2 c3 b en ix bg tx got r) [(.int (2 : Int32))])) _
    refine XS.iload X0.here hx rfl (hb hby at_144) rfl ?_
    show Steps p.tables e below (T0.setTop (mkF m 146 (own_L x0 x1 x2 x3 x4 c0 c1 c2 c3 b en ix bg tx got r) [(.int en.toInt32), (.int (2 : Int32))])) _
    refine XS.icmpNo X0.here hx rfl (hb hby at_146) rfl (tlt hc2).2.1 ?_
    show Steps p.tables e below (T0.setTop (mkF m 149 (own_L x0 x1 x2 x3 x4 c0 c1 c2 c3 b en ix bg tx got r) [])) _
    refine XS.iload X0.here hx rfl (hb hby at_149) rfl ?_
    show Steps p.tables e below (T0.setTop (mkF m 151 (own_L x0 x1 x2 x3 x4 c0 c1 c2 c3 b en ix bg tx got r) [(.int c2)])) _
    refine st1 _ ?_
    show Steps p.tables e below (T1.setTop (mkF m 154 (own_L x0 x1 x2 x3 x4 c0 c1 c2 c3 b en ix bg tx got r) [(.int (own_ws c2))])) _
    refine XS.ifYes X1.here hx rfl (pc0 := 154) (pc' := 160) rfl (hb hby at_154) rfl ((if0 _ _).trans (feq h3).2) (by decide) (by decide) ?_
    exact kt
set_option maxRecDepth 65536 in
set_option maxHeartbeats 40000000 in
theorem own_q1 (W0 : own_W p l e s m args below meth c cells slots n0 T0 h0) (hx : p.tables.exec = Jvm.exec) (hZ : Z.Warmed39 s.vm) (hw : ∀ d ∈ tables_1, d.before a0 Z = true) (hby : c.code = code) (hml : c.maxLocals = 16) (hown : s.vm.findClass "com/example/plinth/plinth/XmlParserSkipWhitespacePinLaw" = some m.cls) (Z0 : n0 ≤ h0.size) (hce : cells + 0 ≤ room_1.cells) (hsl : slots + 0 ≤ room_1.slots) (x0 x1 x2 x3 x4 c0 c1 c2 c3 : Int32) (b : Addr) (en ix : Nat) (bg : Int32) (tx : Addr) (got : Int32) (r : Nat) (hen : en ≤ 4) (hix : ix ≤ 4) :
    ∃ (T' : State), own_W p l e s m args below meth c cells slots n0 T' h0 ∧ own_Ld p e below T0 (mkF m 160 (own_L x0 x1 x2 x3 x4 c0 c1 c2 c3 b en ix bg tx got r) []) T' (mkF m 183 (own_L x0 x1 x2 x3 x4 c0 c1 c2 c3 b en ix bg tx got (own_sel 1 ix en (own_ws c1) r)) []) := by
  have ej : ((1 : Nat)).toInt32 = (1 : Int32) := rfl
  by_cases h1 : 1 < ix
  · have hc1 : (1 : Int32) < ix.toInt32 := by rw [← ej]; exact (own_lt (by decide) (by omega)).mpr h1
    have er : (own_sel 1 ix en (own_ws c1) r) = r := by simp [own_sel, h1]
    rw [er]
    refine ⟨T0, W0, fun t kt => ?_⟩
    obtain ⟨locs, X0, e0, N0⟩ := W0
    show Steps p.tables e below (T0.setTop (mkF m 160 (own_L x0 x1 x2 x3 x4 c0 c1 c2 c3 b en ix bg tx got r) [])) _
    refine XS.iconst X0.here hx rfl (hb hby at_160) ?_
    show Steps p.tables e below (T0.setTop (mkF m 161 (own_L x0 x1 x2 x3 x4 c0 c1 c2 c3 b en ix bg tx got r) [(.int (1 : Int32))])) _
    refine XS.iload X0.here hx rfl (hb hby at_161) rfl ?_
    show Steps p.tables e below (T0.setTop (mkF m 163 (own_L x0 x1 x2 x3 x4 c0 c1 c2 c3 b en ix bg tx got r) [(.int ix.toInt32), (.int (1 : Int32))])) _
    refine XS.icmpYes X0.here hx rfl (pc0 := 163) (pc' := 183) rfl (hb hby at_163) rfl (tlt hc1).1 (by decide) (by decide) ?_
    exact kt
  have hc1 : ¬ ((1 : Int32) < ix.toInt32) := by rw [← ej]; exact fun q => h1 ((own_lt (by decide) (by omega)).mp q)
  by_cases h2 : 1 < en
  rotate_left
  · have hc2 : ¬ ((1 : Int32) < en.toInt32) := by rw [← ej]; exact fun q => h2 ((own_lt (by decide) (by omega)).mp q)
    have er : (own_sel 1 ix en (own_ws c1) r) = r := by simp [own_sel, h2]
    rw [er]
    refine ⟨T0, W0, fun t kt => ?_⟩
    obtain ⟨locs, X0, e0, N0⟩ := W0
    show Steps p.tables e below (T0.setTop (mkF m 160 (own_L x0 x1 x2 x3 x4 c0 c1 c2 c3 b en ix bg tx got r) [])) _
    refine XS.iconst X0.here hx rfl (hb hby at_160) ?_
    show Steps p.tables e below (T0.setTop (mkF m 161 (own_L x0 x1 x2 x3 x4 c0 c1 c2 c3 b en ix bg tx got r) [(.int (1 : Int32))])) _
    refine XS.iload X0.here hx rfl (hb hby at_161) rfl ?_
    show Steps p.tables e below (T0.setTop (mkF m 163 (own_L x0 x1 x2 x3 x4 c0 c1 c2 c3 b en ix bg tx got r) [(.int ix.toInt32), (.int (1 : Int32))])) _
    refine XS.icmpNo X0.here hx rfl (hb hby at_163) rfl (flt hc1).1 ?_
    show Steps p.tables e below (T0.setTop (mkF m 166 (own_L x0 x1 x2 x3 x4 c0 c1 c2 c3 b en ix bg tx got r) [])) _
    refine XS.iconst X0.here hx rfl (hb hby at_166) ?_
    show Steps p.tables e below (T0.setTop (mkF m 167 (own_L x0 x1 x2 x3 x4 c0 c1 c2 c3 b en ix bg tx got r) [(.int (1 : Int32))])) _
    refine XS.iload X0.here hx rfl (hb hby at_167) rfl ?_
    show Steps p.tables e below (T0.setTop (mkF m 169 (own_L x0 x1 x2 x3 x4 c0 c1 c2 c3 b en ix bg tx got r) [(.int en.toInt32), (.int (1 : Int32))])) _
    refine XS.icmpYes X0.here hx rfl (pc0 := 169) (pc' := 183) rfl (hb hby at_169) rfl (flt hc2).2.1 (by decide) (by decide) ?_
    exact kt
  have hc2 : (1 : Int32) < en.toInt32 := by rw [← ej]; exact (own_lt (by decide) (by omega)).mpr h2
  obtain ⟨T1, W1, st1⟩ := own_lws W0 hx hZ hw hby hml hown Z0 hce hsl (q := 174) (Ls := (own_L x0 x1 x2 x3 x4 c0 c1 c2 c3 b en ix bg tx got r)) rfl c1 [] (Nat.le_of_ble_eq_true rfl) at_174
  by_cases h3 : own_ws c1 = (0 : Int32)
  · have er : (own_sel 1 ix en (own_ws c1) r) = 1 := by simp [own_sel, h1, h2, h3]
    rw [er]
    refine ⟨T1, W1, fun t kt => ?_⟩
    obtain ⟨locs, X0, e0, N0⟩ := W0
    obtain ⟨locs1, X1, e1, N1⟩ := W1
    show Steps p.tables e below (T0.setTop (mkF m 160 (own_L x0 x1 x2 x3 x4 c0 c1 c2 c3 b en ix bg tx got r) [])) _
    refine XS.iconst X0.here hx rfl (hb hby at_160) ?_
    show Steps p.tables e below (T0.setTop (mkF m 161 (own_L x0 x1 x2 x3 x4 c0 c1 c2 c3 b en ix bg tx got r) [(.int (1 : Int32))])) _
    refine XS.iload X0.here hx rfl (hb hby at_161) rfl ?_
    show Steps p.tables e below (T0.setTop (mkF m 163 (own_L x0 x1 x2 x3 x4 c0 c1 c2 c3 b en ix bg tx got r) [(.int ix.toInt32), (.int (1 : Int32))])) _
    refine XS.icmpNo X0.here hx rfl (hb hby at_163) rfl (flt hc1).1 ?_
    show Steps p.tables e below (T0.setTop (mkF m 166 (own_L x0 x1 x2 x3 x4 c0 c1 c2 c3 b en ix bg tx got r) [])) _
    refine XS.iconst X0.here hx rfl (hb hby at_166) ?_
    show Steps p.tables e below (T0.setTop (mkF m 167 (own_L x0 x1 x2 x3 x4 c0 c1 c2 c3 b en ix bg tx got r) [(.int (1 : Int32))])) _
    refine XS.iload X0.here hx rfl (hb hby at_167) rfl ?_
    show Steps p.tables e below (T0.setTop (mkF m 169 (own_L x0 x1 x2 x3 x4 c0 c1 c2 c3 b en ix bg tx got r) [(.int en.toInt32), (.int (1 : Int32))])) _
    refine XS.icmpNo X0.here hx rfl (hb hby at_169) rfl (tlt hc2).2.1 ?_
    show Steps p.tables e below (T0.setTop (mkF m 172 (own_L x0 x1 x2 x3 x4 c0 c1 c2 c3 b en ix bg tx got r) [])) _
    refine XS.iload X0.here hx rfl (hb hby at_172) rfl ?_
    show Steps p.tables e below (T0.setTop (mkF m 174 (own_L x0 x1 x2 x3 x4 c0 c1 c2 c3 b en ix bg tx got r) [(.int c1)])) _
    refine st1 _ ?_
    show Steps p.tables e below (T1.setTop (mkF m 177 (own_L x0 x1 x2 x3 x4 c0 c1 c2 c3 b en ix bg tx got r) [(.int (own_ws c1))])) _
    refine XS.ifNo X1.here hx rfl (hb hby at_177) rfl ((if0 _ _).trans (teq h3).2) ?_
    show Steps p.tables e below (T1.setTop (mkF m 180 (own_L x0 x1 x2 x3 x4 c0 c1 c2 c3 b en ix bg tx got r) [])) _
    refine XS.iconst X1.here hx rfl (hb hby at_180) ?_
    show Steps p.tables e below (T1.setTop (mkF m 181 (own_L x0 x1 x2 x3 x4 c0 c1 c2 c3 b en ix bg tx got r) [(.int (1 : Nat).toInt32)])) _
    refine XS.istore X1.here hx rfl (hb hby at_181) rfl (l' := (own_L x0 x1 x2 x3 x4 c0 c1 c2 c3 b en ix bg tx got (1 : Nat))) rfl ?_
    exact kt
  · have er : (own_sel 1 ix en (own_ws c1) r) = r := by simp [own_sel, h3]
    rw [er]
    refine ⟨T1, W1, fun t kt => ?_⟩
    obtain ⟨locs, X0, e0, N0⟩ := W0
    obtain ⟨locs1, X1, e1, N1⟩ := W1
    show Steps p.tables e below (T0.setTop (mkF m 160 (own_L x0 x1 x2 x3 x4 c0 c1 c2 c3 b en ix bg tx got r) [])) _
    refine XS.iconst X0.here hx rfl (hb hby at_160) ?_
    show Steps p.tables e below (T0.setTop (mkF m 161 (own_L x0 x1 x2 x3 x4 c0 c1 c2 c3 b en ix bg tx got r) [(.int (1 : Int32))])) _
    refine XS.iload X0.here hx rfl (hb hby at_161) rfl ?_
    show Steps p.tables e below (T0.setTop (mkF m 163 (own_L x0 x1 x2 x3 x4 c0 c1 c2 c3 b en ix bg tx got r) [(.int ix.toInt32), (.int (1 : Int32))])) _
    refine XS.icmpNo X0.here hx rfl (hb hby at_163) rfl (flt hc1).1 ?_
    show Steps p.tables e below (T0.setTop (mkF m 166 (own_L x0 x1 x2 x3 x4 c0 c1 c2 c3 b en ix bg tx got r) [])) _
    refine XS.iconst X0.here hx rfl (hb hby at_166) ?_
    show Steps p.tables e below (T0.setTop (mkF m 167 (own_L x0 x1 x2 x3 x4 c0 c1 c2 c3 b en ix bg tx got r) [(.int (1 : Int32))])) _
    refine XS.iload X0.here hx rfl (hb hby at_167) rfl ?_
    show Steps p.tables e below (T0.setTop (mkF m 169 (own_L x0 x1 x2 x3 x4 c0 c1 c2 c3 b en ix bg tx got r) [(.int en.toInt32), (.int (1 : Int32))])) _
    refine XS.icmpNo X0.here hx rfl (hb hby at_169) rfl (tlt hc2).2.1 ?_
    show Steps p.tables e below (T0.setTop (mkF m 172 (own_L x0 x1 x2 x3 x4 c0 c1 c2 c3 b en ix bg tx got r) [])) _
    refine XS.iload X0.here hx rfl (hb hby at_172) rfl ?_
    show Steps p.tables e below (T0.setTop (mkF m 174 (own_L x0 x1 x2 x3 x4 c0 c1 c2 c3 b en ix bg tx got r) [(.int c1)])) _
    refine st1 _ ?_
    show Steps p.tables e below (T1.setTop (mkF m 177 (own_L x0 x1 x2 x3 x4 c0 c1 c2 c3 b en ix bg tx got r) [(.int (own_ws c1))])) _
    refine XS.ifYes X1.here hx rfl (pc0 := 177) (pc' := 183) rfl (hb hby at_177) rfl ((if0 _ _).trans (feq h3).2) (by decide) (by decide) ?_
    exact kt
set_option maxRecDepth 65536 in
set_option maxHeartbeats 40000000 in
theorem own_q0 (W0 : own_W p l e s m args below meth c cells slots n0 T0 h0) (hx : p.tables.exec = Jvm.exec) (hZ : Z.Warmed39 s.vm) (hw : ∀ d ∈ tables_1, d.before a0 Z = true) (hby : c.code = code) (hml : c.maxLocals = 16) (hown : s.vm.findClass "com/example/plinth/plinth/XmlParserSkipWhitespacePinLaw" = some m.cls) (Z0 : n0 ≤ h0.size) (hce : cells + 0 ≤ room_1.cells) (hsl : slots + 0 ≤ room_1.slots) (x0 x1 x2 x3 x4 c0 c1 c2 c3 : Int32) (b : Addr) (en ix : Nat) (bg : Int32) (tx : Addr) (got : Int32) (r : Nat) (hen : en ≤ 4) (hix : ix ≤ 4) :
    ∃ (T' : State), own_W p l e s m args below meth c cells slots n0 T' h0 ∧ own_Ld p e below T0 (mkF m 183 (own_L x0 x1 x2 x3 x4 c0 c1 c2 c3 b en ix bg tx got r) []) T' (mkF m 206 (own_L x0 x1 x2 x3 x4 c0 c1 c2 c3 b en ix bg tx got (own_sel 0 ix en (own_ws c0) r)) []) := by
  have ej : ((0 : Nat)).toInt32 = (0 : Int32) := rfl
  by_cases h1 : 0 < ix
  · have hc1 : (0 : Int32) < ix.toInt32 := by rw [← ej]; exact (own_lt (by decide) (by omega)).mpr h1
    have er : (own_sel 0 ix en (own_ws c0) r) = r := by simp [own_sel, h1]
    rw [er]
    refine ⟨T0, W0, fun t kt => ?_⟩
    obtain ⟨locs, X0, e0, N0⟩ := W0
    show Steps p.tables e below (T0.setTop (mkF m 183 (own_L x0 x1 x2 x3 x4 c0 c1 c2 c3 b en ix bg tx got r) [])) _
    refine XS.iconst X0.here hx rfl (hb hby at_183) ?_
    show Steps p.tables e below (T0.setTop (mkF m 184 (own_L x0 x1 x2 x3 x4 c0 c1 c2 c3 b en ix bg tx got r) [(.int (0 : Int32))])) _
    refine XS.iload X0.here hx rfl (hb hby at_184) rfl ?_
    show Steps p.tables e below (T0.setTop (mkF m 186 (own_L x0 x1 x2 x3 x4 c0 c1 c2 c3 b en ix bg tx got r) [(.int ix.toInt32), (.int (0 : Int32))])) _
    refine XS.icmpYes X0.here hx rfl (pc0 := 186) (pc' := 206) rfl (hb hby at_186) rfl (tlt hc1).1 (by decide) (by decide) ?_
    exact kt
  have hc1 : ¬ ((0 : Int32) < ix.toInt32) := by rw [← ej]; exact fun q => h1 ((own_lt (by decide) (by omega)).mp q)
  by_cases h2 : 0 < en
  rotate_left
  · have hc2 : ¬ ((0 : Int32) < en.toInt32) := by rw [← ej]; exact fun q => h2 ((own_lt (by decide) (by omega)).mp q)
    have er : (own_sel 0 ix en (own_ws c0) r) = r := by simp [own_sel, h2]
    rw [er]
    refine ⟨T0, W0, fun t kt => ?_⟩
    obtain ⟨locs, X0, e0, N0⟩ := W0
    show Steps p.tables e below (T0.setTop (mkF m 183 (own_L x0 x1 x2 x3 x4 c0 c1 c2 c3 b en ix bg tx got r) [])) _
    refine XS.iconst X0.here hx rfl (hb hby at_183) ?_
    show Steps p.tables e below (T0.setTop (mkF m 184 (own_L x0 x1 x2 x3 x4 c0 c1 c2 c3 b en ix bg tx got r) [(.int (0 : Int32))])) _
    refine XS.iload X0.here hx rfl (hb hby at_184) rfl ?_
    show Steps p.tables e below (T0.setTop (mkF m 186 (own_L x0 x1 x2 x3 x4 c0 c1 c2 c3 b en ix bg tx got r) [(.int ix.toInt32), (.int (0 : Int32))])) _
    refine XS.icmpNo X0.here hx rfl (hb hby at_186) rfl (flt hc1).1 ?_
    show Steps p.tables e below (T0.setTop (mkF m 189 (own_L x0 x1 x2 x3 x4 c0 c1 c2 c3 b en ix bg tx got r) [])) _
    refine XS.iconst X0.here hx rfl (hb hby at_189) ?_
    show Steps p.tables e below (T0.setTop (mkF m 190 (own_L x0 x1 x2 x3 x4 c0 c1 c2 c3 b en ix bg tx got r) [(.int (0 : Int32))])) _
    refine XS.iload X0.here hx rfl (hb hby at_190) rfl ?_
    show Steps p.tables e below (T0.setTop (mkF m 192 (own_L x0 x1 x2 x3 x4 c0 c1 c2 c3 b en ix bg tx got r) [(.int en.toInt32), (.int (0 : Int32))])) _
    refine XS.icmpYes X0.here hx rfl (pc0 := 192) (pc' := 206) rfl (hb hby at_192) rfl (flt hc2).2.1 (by decide) (by decide) ?_
    exact kt
  have hc2 : (0 : Int32) < en.toInt32 := by rw [← ej]; exact (own_lt (by decide) (by omega)).mpr h2
  obtain ⟨T1, W1, st1⟩ := own_lws W0 hx hZ hw hby hml hown Z0 hce hsl (q := 197) (Ls := (own_L x0 x1 x2 x3 x4 c0 c1 c2 c3 b en ix bg tx got r)) rfl c0 [] (Nat.le_of_ble_eq_true rfl) at_197
  by_cases h3 : own_ws c0 = (0 : Int32)
  · have er : (own_sel 0 ix en (own_ws c0) r) = 0 := by simp [own_sel, h1, h2, h3]
    rw [er]
    refine ⟨T1, W1, fun t kt => ?_⟩
    obtain ⟨locs, X0, e0, N0⟩ := W0
    obtain ⟨locs1, X1, e1, N1⟩ := W1
    show Steps p.tables e below (T0.setTop (mkF m 183 (own_L x0 x1 x2 x3 x4 c0 c1 c2 c3 b en ix bg tx got r) [])) _
    refine XS.iconst X0.here hx rfl (hb hby at_183) ?_
    show Steps p.tables e below (T0.setTop (mkF m 184 (own_L x0 x1 x2 x3 x4 c0 c1 c2 c3 b en ix bg tx got r) [(.int (0 : Int32))])) _
    refine XS.iload X0.here hx rfl (hb hby at_184) rfl ?_
    show Steps p.tables e below (T0.setTop (mkF m 186 (own_L x0 x1 x2 x3 x4 c0 c1 c2 c3 b en ix bg tx got r) [(.int ix.toInt32), (.int (0 : Int32))])) _
    refine XS.icmpNo X0.here hx rfl (hb hby at_186) rfl (flt hc1).1 ?_
    show Steps p.tables e below (T0.setTop (mkF m 189 (own_L x0 x1 x2 x3 x4 c0 c1 c2 c3 b en ix bg tx got r) [])) _
    refine XS.iconst X0.here hx rfl (hb hby at_189) ?_
    show Steps p.tables e below (T0.setTop (mkF m 190 (own_L x0 x1 x2 x3 x4 c0 c1 c2 c3 b en ix bg tx got r) [(.int (0 : Int32))])) _
    refine XS.iload X0.here hx rfl (hb hby at_190) rfl ?_
    show Steps p.tables e below (T0.setTop (mkF m 192 (own_L x0 x1 x2 x3 x4 c0 c1 c2 c3 b en ix bg tx got r) [(.int en.toInt32), (.int (0 : Int32))])) _
    refine XS.icmpNo X0.here hx rfl (hb hby at_192) rfl (tlt hc2).2.1 ?_
    show Steps p.tables e below (T0.setTop (mkF m 195 (own_L x0 x1 x2 x3 x4 c0 c1 c2 c3 b en ix bg tx got r) [])) _
    refine XS.iload X0.here hx rfl (hb hby at_195) rfl ?_
    show Steps p.tables e below (T0.setTop (mkF m 197 (own_L x0 x1 x2 x3 x4 c0 c1 c2 c3 b en ix bg tx got r) [(.int c0)])) _
    refine st1 _ ?_
    show Steps p.tables e below (T1.setTop (mkF m 200 (own_L x0 x1 x2 x3 x4 c0 c1 c2 c3 b en ix bg tx got r) [(.int (own_ws c0))])) _
    refine XS.ifNo X1.here hx rfl (hb hby at_200) rfl ((if0 _ _).trans (teq h3).2) ?_
    show Steps p.tables e below (T1.setTop (mkF m 203 (own_L x0 x1 x2 x3 x4 c0 c1 c2 c3 b en ix bg tx got r) [])) _
    refine XS.iconst X1.here hx rfl (hb hby at_203) ?_
    show Steps p.tables e below (T1.setTop (mkF m 204 (own_L x0 x1 x2 x3 x4 c0 c1 c2 c3 b en ix bg tx got r) [(.int (0 : Nat).toInt32)])) _
    refine XS.istore X1.here hx rfl (hb hby at_204) rfl (l' := (own_L x0 x1 x2 x3 x4 c0 c1 c2 c3 b en ix bg tx got (0 : Nat))) rfl ?_
    exact kt
  · have er : (own_sel 0 ix en (own_ws c0) r) = r := by simp [own_sel, h3]
    rw [er]
    refine ⟨T1, W1, fun t kt => ?_⟩
    obtain ⟨locs, X0, e0, N0⟩ := W0
    obtain ⟨locs1, X1, e1, N1⟩ := W1
    show Steps p.tables e below (T0.setTop (mkF m 183 (own_L x0 x1 x2 x3 x4 c0 c1 c2 c3 b en ix bg tx got r) [])) _
    refine XS.iconst X0.here hx rfl (hb hby at_183) ?_
    show Steps p.tables e below (T0.setTop (mkF m 184 (own_L x0 x1 x2 x3 x4 c0 c1 c2 c3 b en ix bg tx got r) [(.int (0 : Int32))])) _
    refine XS.iload X0.here hx rfl (hb hby at_184) rfl ?_
    show Steps p.tables e below (T0.setTop (mkF m 186 (own_L x0 x1 x2 x3 x4 c0 c1 c2 c3 b en ix bg tx got r) [(.int ix.toInt32), (.int (0 : Int32))])) _
    refine XS.icmpNo X0.here hx rfl (hb hby at_186) rfl (flt hc1).1 ?_
    show Steps p.tables e below (T0.setTop (mkF m 189 (own_L x0 x1 x2 x3 x4 c0 c1 c2 c3 b en ix bg tx got r) [])) _
    refine XS.iconst X0.here hx rfl (hb hby at_189) ?_
    show Steps p.tables e below (T0.setTop (mkF m 190 (own_L x0 x1 x2 x3 x4 c0 c1 c2 c3 b en ix bg tx got r) [(.int (0 : Int32))])) _
    refine XS.iload X0.here hx rfl (hb hby at_190) rfl ?_
    show Steps p.tables e below (T0.setTop (mkF m 192 (own_L x0 x1 x2 x3 x4 c0 c1 c2 c3 b en ix bg tx got r) [(.int en.toInt32), (.int (0 : Int32))])) _
    refine XS.icmpNo X0.here hx rfl (hb hby at_192) rfl (tlt hc2).2.1 ?_
    show Steps p.tables e below (T0.setTop (mkF m 195 (own_L x0 x1 x2 x3 x4 c0 c1 c2 c3 b en ix bg tx got r) [])) _
    refine XS.iload X0.here hx rfl (hb hby at_195) rfl ?_
    show Steps p.tables e below (T0.setTop (mkF m 197 (own_L x0 x1 x2 x3 x4 c0 c1 c2 c3 b en ix bg tx got r) [(.int c0)])) _
    refine st1 _ ?_
    show Steps p.tables e below (T1.setTop (mkF m 200 (own_L x0 x1 x2 x3 x4 c0 c1 c2 c3 b en ix bg tx got r) [(.int (own_ws c0))])) _
    refine XS.ifYes X1.here hx rfl (pc0 := 200) (pc' := 206) rfl (hb hby at_200) rfl ((if0 _ _).trans (feq h3).2) (by decide) (by decide) ?_
    exact kt
set_option maxRecDepth 65536 in
set_option maxHeartbeats 40000000 in
theorem own_obj (W0 : own_W p l e s m args below meth c 1 4 n0 T0 h0) (hx : p.tables.exec = Jvm.exec) (hZ : Z.Warmed39 s.vm) (hw : ∀ d ∈ tables_1, d.before a0 Z = true) (hby : c.code = code) (hml : c.maxLocals = 16) (hown : s.vm.findClass "com/example/plinth/plinth/XmlParserSkipWhitespacePinLaw" = some m.cls) (Z0 : n0 ≤ h0.size) (x0 x1 x2 x3 x4 c0 c1 c2 c3 : Int32) (b : Addr) (en ix : Nat) (bg : Int32) (cl : Cell) (Ar : Arr Z h0 b cl .char) :
    ∃ (T' : State) (h' : Heap) (tx : Addr), own_W p l e s m args below meth c 2 7 n0 T' h' ∧ n0 ≤ h'.size ∧ Exa Z h' tx "com/example/plinth/plinth/SourceText" ∧ Fld Z h' tx "com/example/plinth/plinth/SourceText" "end" "I" (.int en.toInt32) ∧ Fld Z h' tx "com/example/plinth/plinth/SourceText" "chars" "[C" (.ref b) ∧ Arr Z h' b cl .char ∧ own_Ld p e below T0 (mkF m 86 #[.val (.int x0), .val (.int x1), .val (.int x2), .val (.int x3), .val (.int x4), .val (.int c0), .val (.int c1), .val (.int c2), .val (.int c3), .val (.ref b), .val (.int en.toInt32), .val (.int ix.toInt32), .val (.int bg), .unset, .unset, .unset] []) T' (mkF m 101 #[.val (.int x0), .val (.int x1), .val (.int x2), .val (.int x3), .val (.int x4), .val (.int c0), .val (.int c1), .val (.int c2), .val (.int c3), .val (.ref b), .val (.int en.toInt32), .val (.int ix.toInt32), .val (.int bg), .val (.ref tx), .unset, .unset] []) := by
  obtain ⟨locs, X0, e0, N0⟩ := W0
  obtain ⟨T6, h6, X6, e6, E6, A6, D6, -, st6⟩ := newO X0 hx hZ hown (hw _ (List.mem_of_getElem? (i := 10) rfl)) (hw _ (List.mem_of_getElem? (i := 11) rfl)) (hw _ (List.mem_of_getElem? (i := 12) rfl)) e0 (g := (mkF m 86 #[.val (.int x0), .val (.int x1), .val (.int x2), .val (.int x3), .val (.int x4), .val (.int c0), .val (.int c1), .val (.int c2), .val (.int c3), .val (.ref b), .val (.int en.toInt32), .val (.int ix.toInt32), .val (.int bg), .unset, .unset, .unset] [])) rfl (hb hby at_86) (by decide) (by decide)
  obtain ⟨tx, g6⟩ : ∃ z, z = h0.size := ⟨_, rfl⟩
  rw [← g6] at A6 D6 st6
  have F1 : Fld Z h6 tx "com/example/plinth/plinth/SourceText" "chars" "[C" .null := D6 (Or.inr (hw _ (List.mem_of_getElem? (i := 20) rfl))) (ty := (.array .char)) (by decide)
  have F2 : Fld Z h6 tx "com/example/plinth/plinth/SourceText" "begin" "I" (.int (0 : Int32)) := D6 (Or.inr (hw _ (List.mem_of_getElem? (i := 22) rfl))) (ty := .int) (by decide)
  have F3 : Fld Z h6 tx "com/example/plinth/plinth/SourceText" "end" "I" (.int (0 : Int32)) := D6 (Or.inr (hw _ (List.mem_of_getElem? (i := 24) rfl))) (ty := .int) (by decide)
  have Z6 : n0 ≤ h6.size := Nat.le_trans Z0 E6.1
  have gt : n0 ≤ tx := by omega
  obtain ⟨_, _, ⟨T7, L7, k7, n7⟩, -, X7, ⟨Lc7, hQ7, l7, y7, z7⟩, st7⟩ := X6.specialBack hx (y := (⟨"com/example/plinth/plinth/SourceText", "<init>", "([CII)V"⟩ : MethodName)) rfl hown (mvT hZ (hw _ (List.mem_of_getElem? (i := 13) rfl))) (mvT hZ (hw _ (List.mem_of_getElem? (i := 14) rfl))) (mvT hZ (hw _ (List.mem_of_getElem? (i := 15) rfl))) (by decide) (backOf (W := 1) (rm3 l Z a0 hw [] tx b bg en.toInt32 _ _ _ h6 n0 Z6 A6 F1 gt F2 F3) hZ (hw _ (List.mem_of_getElem? (i := 15) rfl)) (hw _ (List.mem_of_getElem? (i := 12) rfl)) (by decide) (by decide)) (g := (mkF m 96 #[.val (.int x0), .val (.int x1), .val (.int x2), .val (.int x3), .val (.int x4), .val (.int c0), .val (.int c1), .val (.int c2), .val (.int c3), .val (.ref b), .val (.int en.toInt32), .val (.int ix.toInt32), .val (.int bg), .unset, .unset, .unset] [(.int en.toInt32), (.int bg), (.ref b), (.ref tx), (.ref tx)])) rfl (by rw [hml]; rfl) (Steps.refl _) (a := tx) (argsL := [(.ref b), (.int bg), (.int en.toInt32)]) (rest := [(.ref tx)]) (lenOf pd_init rfl) rfl (by show 2 * 0 + _ ≤ _; exact Nat.le_of_eq rfl) (hb hby at_96) (fun _ _ => ⟨rfl, e6, (by decide : 2 + 0 ≤ _), (by decide : 7 + 0 ≤ _)⟩)
  dsimp only [Pt.U, Pt.locs, Pt.cells, Pt.slots] at X7 l7 y7 z7 st7 hQ7
  subst l7 y7 z7
  obtain ⟨rfl, N7q, K7, EX, FCh, FB, FEn⟩ := hQ7
  have hne : b ∉ [tx] := ninS (Nat.ne_of_lt (by rw [g6]; exact Ar.lt)) nin0
  have Ar6 := Arr.ext E6 Ar
  refine ⟨T7, T7.heap, tx, ⟨_, X7, rfl, Fr.app N0 N7q⟩, Nat.le_trans Z6 K7.1, EX, FEn, FCh, ⟨K7.2.1 b cl Ar6.1 hne, Ar6.2⟩, fun t kt => ?_⟩
  refine st6 _ ?_
  show Steps p.tables e below (T6.setTop (mkF m 89 #[.val (.int x0), .val (.int x1), .val (.int x2), .val (.int x3), .val (.int x4), .val (.int c0), .val (.int c1), .val (.int c2), .val (.int c3), .val (.ref b), .val (.int en.toInt32), .val (.int ix.toInt32), .val (.int bg), .unset, .unset, .unset] [(.ref tx)])) _
  refine XS.dup X6.here hx rfl (hb hby at_89) rfl rfl ?_
  show Steps p.tables e below (T6.setTop (mkF m 90 #[.val (.int x0), .val (.int x1), .val (.int x2), .val (.int x3), .val (.int x4), .val (.int c0), .val (.int c1), .val (.int c2), .val (.int c3), .val (.ref b), .val (.int en.toInt32), .val (.int ix.toInt32), .val (.int bg), .unset, .unset, .unset] [(.ref tx), (.ref tx)])) _
  refine XS.aload X6.here hx rfl (hb hby at_90) rfl rfl ?_
  show Steps p.tables e below (T6.setTop (mkF m 92 #[.val (.int x0), .val (.int x1), .val (.int x2), .val (.int x3), .val (.int x4), .val (.int c0), .val (.int c1), .val (.int c2), .val (.int c3), .val (.ref b), .val (.int en.toInt32), .val (.int ix.toInt32), .val (.int bg), .unset, .unset, .unset] [(.ref b), (.ref tx), (.ref tx)])) _
  refine XS.iload X6.here hx rfl (hb hby at_92) rfl ?_
  show Steps p.tables e below (T6.setTop (mkF m 94 #[.val (.int x0), .val (.int x1), .val (.int x2), .val (.int x3), .val (.int x4), .val (.int c0), .val (.int c1), .val (.int c2), .val (.int c3), .val (.ref b), .val (.int en.toInt32), .val (.int ix.toInt32), .val (.int bg), .unset, .unset, .unset] [(.int bg), (.ref b), (.ref tx), (.ref tx)])) _
  refine XS.iload X6.here hx rfl (hb hby at_94) rfl ?_
  show Steps p.tables e below (T6.setTop (mkF m 96 #[.val (.int x0), .val (.int x1), .val (.int x2), .val (.int x3), .val (.int x4), .val (.int c0), .val (.int c1), .val (.int c2), .val (.int c3), .val (.ref b), .val (.int en.toInt32), .val (.int ix.toInt32), .val (.int bg), .unset, .unset, .unset] [(.int en.toInt32), (.int bg), (.ref b), (.ref tx), (.ref tx)])) _
  refine st7.trans ?_
  show Steps p.tables e below (T7.setTop (mkF m 99 #[.val (.int x0), .val (.int x1), .val (.int x2), .val (.int x3), .val (.int x4), .val (.int c0), .val (.int c1), .val (.int c2), .val (.int c3), .val (.ref b), .val (.int en.toInt32), .val (.int ix.toInt32), .val (.int bg), .unset, .unset, .unset] [(.ref tx)])) _
  refine XS.astore X7.here hx rfl (hb hby at_99) rfl rfl (l' := #[.val (.int x0), .val (.int x1), .val (.int x2), .val (.int x3), .val (.int x4), .val (.int c0), .val (.int c1), .val (.int c2), .val (.int c3), .val (.ref b), .val (.int en.toInt32), .val (.int ix.toInt32), .val (.int bg), .val (.ref tx), .unset, .unset]) rfl ?_
  exact kt
set_option maxRecDepth 65536 in
set_option maxHeartbeats 40000000 in
theorem own_arr (W0 : own_W p l e s m args below meth c 0 0 n0 T0 h0) (hx : p.tables.exec = Jvm.exec) (hZ : Z.Warmed39 s.vm) (hw : ∀ d ∈ tables_1, d.before a0 Z = true) (hby : c.code = code) (Z0 : n0 ≤ h0.size) (x0 x1 x2 x3 x4 c0 c1 c2 c3 : Int32) (n_0 : nar .char c0 = c0) (n_1 : nar .char c1 = c1) (n_2 : nar .char c2 = c2) (n_3 : nar .char c3 = c3) :
    ∃ (T' : State) (h' : Heap) (b : Addr) (cl : Cell), own_W p l e s m args below meth c 1 4 n0 T' h' ∧ n0 ≤ h'.size ∧ Arr Z h' b cl .char ∧ cl.slots = #[.int c0, .int c1, .int c2, .int c3] ∧ own_Ld p e below T0 (mkF m 24 #[.val (.int x0), .val (.int x1), .val (.int x2), .val (.int x3), .val (.int x4), .val (.int c0), .val (.int c1), .val (.int c2), .val (.int c3), .unset, .unset, .unset, .unset, .unset, .unset, .unset] []) T' (mkF m 49 #[.val (.int x0), .val (.int x1), .val (.int x2), .val (.int x3), .val (.int x4), .val (.int c0), .val (.int c1), .val (.int c2), .val (.int c3), .val (.ref b), .unset, .unset, .unset, .unset, .unset, .unset] []) := by
  obtain ⟨locs, X0, e0, N0⟩ := W0
  obtain ⟨T10, h10, k10, X10, e10, E10, A10, st10⟩ := newP X0 hx hZ (hw _ (List.mem_of_getElem? (i := 4) rfl)) e0 (g := (mkF m 25 #[.val (.int x0), .val (.int x1), .val (.int x2), .val (.int x3), .val (.int x4), .val (.int c0), .val (.int c1), .val (.int c2), .val (.int c3), .unset, .unset, .unset, .unset, .unset, .unset, .unset] [(.int (4 : Int32))])) rfl (hb hby at_25) rfl (by decide) (cap := 4) (by decide) (by decide) (by decide) (by decide)
  obtain ⟨b, gb⟩ : ∃ z, z = h0.size := ⟨_, rfl⟩
  rw [← gb] at A10 st10
  have hgb : n0 ≤ b := by omega
  have S10 : (newA k10 (newarray.typeOf .char) 4).slots.size = (4 : Int32).toNatClampNeg := sz_new _ _ _
  obtain ⟨T11, h11, X11, e11, W11, st11⟩ := stC X10 hx hZ e10 A10 (j := (0 : Int32)) (inb_of S10 ⟨by decide, by decide⟩) (g := (mkF m 31 #[.val (.int x0), .val (.int x1), .val (.int x2), .val (.int x3), .val (.int x4), .val (.int c0), .val (.int c1), .val (.int c2), .val (.int c3), .unset, .unset, .unset, .unset, .unset, .unset, .unset] [(.int c0), (.int (0 : Int32)), (.ref b), (.ref b)])) rfl rfl (hb hby at_31)
  have A11 := Arr.same W11 A10
  have S11 := (sz_set _ ((0 : Int32)).toNatClampNeg (.int (nar .char c0))).trans S10
  have N11 := Fr.snoc X11 N0 hgb
  obtain ⟨T12, h12, X12, e12, W12, st12⟩ := stC X11 hx hZ e11 A11 (j := (1 : Int32)) (inb_of S11 ⟨by decide, by decide⟩) (g := (mkF m 36 #[.val (.int x0), .val (.int x1), .val (.int x2), .val (.int x3), .val (.int x4), .val (.int c0), .val (.int c1), .val (.int c2), .val (.int c3), .unset, .unset, .unset, .unset, .unset, .unset, .unset] [(.int c1), (.int (1 : Int32)), (.ref b), (.ref b)])) rfl rfl (hb hby at_36)
  have A12 := Arr.same W12 A11
  have S12 := (sz_set _ ((1 : Int32)).toNatClampNeg (.int (nar .char c1))).trans S11
  have N12 := Fr.snoc X12 N11 hgb
  obtain ⟨T13, h13, X13, e13, W13, st13⟩ := stC X12 hx hZ e12 A12 (j := (2 : Int32)) (inb_of S12 ⟨by decide, by decide⟩) (g := (mkF m 41 #[.val (.int x0), .val (.int x1), .val (.int x2), .val (.int x3), .val (.int x4), .val (.int c0), .val (.int c1), .val (.int c2), .val (.int c3), .unset, .unset, .unset, .unset, .unset, .unset, .unset] [(.int c2), (.int (2 : Int32)), (.ref b), (.ref b)])) rfl rfl (hb hby at_41)
  have A13 := Arr.same W13 A12
  have S13 := (sz_set _ ((2 : Int32)).toNatClampNeg (.int (nar .char c2))).trans S12
  have N13 := Fr.snoc X13 N12 hgb
  obtain ⟨T14, h14, X14, e14, W14, st14⟩ := stC X13 hx hZ e13 A13 (j := (3 : Int32)) (inb_of S13 ⟨by decide, by decide⟩) (g := (mkF m 46 #[.val (.int x0), .val (.int x1), .val (.int x2), .val (.int x3), .val (.int x4), .val (.int c0), .val (.int c1), .val (.int c2), .val (.int c3), .unset, .unset, .unset, .unset, .unset, .unset, .unset] [(.int c3), (.int (3 : Int32)), (.ref b), (.ref b)])) rfl rfl (hb hby at_46)
  have A14 := Arr.same W14 A13
  have S14 := (sz_set _ ((3 : Int32)).toNatClampNeg (.int (nar .char c3))).trans S13
  have N14 := Fr.snoc X14 N13 hgb
  refine ⟨T14, h14, b, _, ⟨_, X14, e14, N14⟩, ?_, A14, ?_, fun t kt => ?_⟩
  · exact Nat.le_trans Z0 (Nat.le_trans E10.1 (Nat.le_trans (Keep.of_wr W11).1 (Nat.le_trans (Keep.of_wr W12).1 (Nat.le_trans (Keep.of_wr W13).1 (Keep.of_wr W14).1))))
  · rw [n_0, n_1, n_2, n_3]; rfl
  show Steps p.tables e below (T0.setTop (mkF m 24 #[.val (.int x0), .val (.int x1), .val (.int x2), .val (.int x3), .val (.int x4), .val (.int c0), .val (.int c1), .val (.int c2), .val (.int c3), .unset, .unset, .unset, .unset, .unset, .unset, .unset] [])) _
  refine XS.iconst X0.here hx rfl (hb hby at_24) ?_
  show Steps p.tables e below (T0.setTop (mkF m 25 #[.val (.int x0), .val (.int x1), .val (.int x2), .val (.int x3), .val (.int x4), .val (.int c0), .val (.int c1), .val (.int c2), .val (.int c3), .unset, .unset, .unset, .unset, .unset, .unset, .unset] [(.int (4 : Int32))])) _
  refine st10 _ ?_
  show Steps p.tables e below (T10.setTop (mkF m 27 #[.val (.int x0), .val (.int x1), .val (.int x2), .val (.int x3), .val (.int x4), .val (.int c0), .val (.int c1), .val (.int c2), .val (.int c3), .unset, .unset, .unset, .unset, .unset, .unset, .unset] [(.ref b)])) _
  refine XS.dup X10.here hx rfl (hb hby at_27) rfl rfl ?_
  show Steps p.tables e below (T10.setTop (mkF m 28 #[.val (.int x0), .val (.int x1), .val (.int x2), .val (.int x3), .val (.int x4), .val (.int c0), .val (.int c1), .val (.int c2), .val (.int c3), .unset, .unset, .unset, .unset, .unset, .unset, .unset] [(.ref b), (.ref b)])) _
  refine XS.iconst X10.here hx rfl (hb hby at_28) ?_
  show Steps p.tables e below (T10.setTop (mkF m 29 #[.val (.int x0), .val (.int x1), .val (.int x2), .val (.int x3), .val (.int x4), .val (.int c0), .val (.int c1), .val (.int c2), .val (.int c3), .unset, .unset, .unset, .unset, .unset, .unset, .unset] [(.int (0 : Int32)), (.ref b), (.ref b)])) _
  refine XS.iload X10.here hx rfl (hb hby at_29) rfl ?_
  show Steps p.tables e below (T10.setTop (mkF m 31 #[.val (.int x0), .val (.int x1), .val (.int x2), .val (.int x3), .val (.int x4), .val (.int c0), .val (.int c1), .val (.int c2), .val (.int c3), .unset, .unset, .unset, .unset, .unset, .unset, .unset] [(.int c0), (.int (0 : Int32)), (.ref b), (.ref b)])) _
  refine st11 _ ?_
  show Steps p.tables e below (T11.setTop (mkF m 32 #[.val (.int x0), .val (.int x1), .val (.int x2), .val (.int x3), .val (.int x4), .val (.int c0), .val (.int c1), .val (.int c2), .val (.int c3), .unset, .unset, .unset, .unset, .unset, .unset, .unset] [(.ref b)])) _
  refine XS.dup X11.here hx rfl (hb hby at_32) rfl rfl ?_
  show Steps p.tables e below (T11.setTop (mkF m 33 #[.val (.int x0), .val (.int x1), .val (.int x2), .val (.int x3), .val (.int x4), .val (.int c0), .val (.int c1), .val (.int c2), .val (.int c3), .unset, .unset, .unset, .unset, .unset, .unset, .unset] [(.ref b), (.ref b)])) _
  refine XS.iconst X11.here hx rfl (hb hby at_33) ?_
  show Steps p.tables e below (T11.setTop (mkF m 34 #[.val (.int x0), .val (.int x1), .val (.int x2), .val (.int x3), .val (.int x4), .val (.int c0), .val (.int c1), .val (.int c2), .val (.int c3), .unset, .unset, .unset, .unset, .unset, .unset, .unset] [(.int (1 : Int32)), (.ref b), (.ref b)])) _
  refine XS.iload X11.here hx rfl (hb hby at_34) rfl ?_
  show Steps p.tables e below (T11.setTop (mkF m 36 #[.val (.int x0), .val (.int x1), .val (.int x2), .val (.int x3), .val (.int x4), .val (.int c0), .val (.int c1), .val (.int c2), .val (.int c3), .unset, .unset, .unset, .unset, .unset, .unset, .unset] [(.int c1), (.int (1 : Int32)), (.ref b), (.ref b)])) _
  refine st12 _ ?_
  show Steps p.tables e below (T12.setTop (mkF m 37 #[.val (.int x0), .val (.int x1), .val (.int x2), .val (.int x3), .val (.int x4), .val (.int c0), .val (.int c1), .val (.int c2), .val (.int c3), .unset, .unset, .unset, .unset, .unset, .unset, .unset] [(.ref b)])) _
  refine XS.dup X12.here hx rfl (hb hby at_37) rfl rfl ?_
  show Steps p.tables e below (T12.setTop (mkF m 38 #[.val (.int x0), .val (.int x1), .val (.int x2), .val (.int x3), .val (.int x4), .val (.int c0), .val (.int c1), .val (.int c2), .val (.int c3), .unset, .unset, .unset, .unset, .unset, .unset, .unset] [(.ref b), (.ref b)])) _
  refine XS.iconst X12.here hx rfl (hb hby at_38) ?_
  show Steps p.tables e below (T12.setTop (mkF m 39 #[.val (.int x0), .val (.int x1), .val (.int x2), .val (.int x3), .val (.int x4), .val (.int c0), .val (.int c1), .val (.int c2), .val (.int c3), .unset, .unset, .unset, .unset, .unset, .unset, .unset] [(.int (2 : Int32)), (.ref b), (.ref b)])) _
  refine XS.iload X12.here hx rfl (hb hby at_39) rfl ?_
  show Steps p.tables e below (T12.setTop (mkF m 41 #[.val (.int x0), .val (.int x1), .val (.int x2), .val (.int x3), .val (.int x4), .val (.int c0), .val (.int c1), .val (.int c2), .val (.int c3), .unset, .unset, .unset, .unset, .unset, .unset, .unset] [(.int c2), (.int (2 : Int32)), (.ref b), (.ref b)])) _
  refine st13 _ ?_
  show Steps p.tables e below (T13.setTop (mkF m 42 #[.val (.int x0), .val (.int x1), .val (.int x2), .val (.int x3), .val (.int x4), .val (.int c0), .val (.int c1), .val (.int c2), .val (.int c3), .unset, .unset, .unset, .unset, .unset, .unset, .unset] [(.ref b)])) _
  refine XS.dup X13.here hx rfl (hb hby at_42) rfl rfl ?_
  show Steps p.tables e below (T13.setTop (mkF m 43 #[.val (.int x0), .val (.int x1), .val (.int x2), .val (.int x3), .val (.int x4), .val (.int c0), .val (.int c1), .val (.int c2), .val (.int c3), .unset, .unset, .unset, .unset, .unset, .unset, .unset] [(.ref b), (.ref b)])) _
  refine XS.iconst X13.here hx rfl (hb hby at_43) ?_
  show Steps p.tables e below (T13.setTop (mkF m 44 #[.val (.int x0), .val (.int x1), .val (.int x2), .val (.int x3), .val (.int x4), .val (.int c0), .val (.int c1), .val (.int c2), .val (.int c3), .unset, .unset, .unset, .unset, .unset, .unset, .unset] [(.int (3 : Int32)), (.ref b), (.ref b)])) _
  refine XS.iload X13.here hx rfl (hb hby at_44) rfl ?_
  show Steps p.tables e below (T13.setTop (mkF m 46 #[.val (.int x0), .val (.int x1), .val (.int x2), .val (.int x3), .val (.int x4), .val (.int c0), .val (.int c1), .val (.int c2), .val (.int c3), .unset, .unset, .unset, .unset, .unset, .unset, .unset] [(.int c3), (.int (3 : Int32)), (.ref b), (.ref b)])) _
  refine st14 _ ?_
  show Steps p.tables e below (T14.setTop (mkF m 47 #[.val (.int x0), .val (.int x1), .val (.int x2), .val (.int x3), .val (.int x4), .val (.int c0), .val (.int c1), .val (.int c2), .val (.int c3), .unset, .unset, .unset, .unset, .unset, .unset, .unset] [(.ref b)])) _
  refine XS.astore X14.here hx rfl (hb hby at_47) rfl rfl (l' := #[.val (.int x0), .val (.int x1), .val (.int x2), .val (.int x3), .val (.int x4), .val (.int c0), .val (.int c1), .val (.int c2), .val (.int c3), .val (.ref b), .unset, .unset, .unset, .unset, .unset, .unset]) rfl ?_
  exact kt
set_option maxRecDepth 65536 in
set_option maxHeartbeats 40000000 in
theorem own_nums (W0 : own_W p l e s m args below meth c 1 4 n0 T0 h0) (hx : p.tables.exec = Jvm.exec) (hZ : Z.Warmed39 s.vm) (hw : ∀ d ∈ tables_1, d.before a0 Z = true) (hby : c.code = code) (hml : c.maxLocals = 16) (hown : s.vm.findClass "com/example/plinth/plinth/XmlParserSkipWhitespacePinLaw" = some m.cls) (Z0 : n0 ≤ h0.size) (x0 x1 x2 x3 x4 c0 c1 c2 c3 : Int32) (b : Addr) :
    ∃ (T' : State) (en ix : Nat) (bg : Int32), en ≤ 4 ∧ ix ≤ en ∧ own_W p l e s m args below meth c 1 4 n0 T' h0 ∧ own_Ld p e below T0 (mkF m 49 #[.val (.int x0), .val (.int x1), .val (.int x2), .val (.int x3), .val (.int x4), .val (.int c0), .val (.int c1), .val (.int c2), .val (.int c3), .val (.ref b), .unset, .unset, .unset, .unset, .unset, .unset] []) T' (mkF m 86 #[.val (.int x0), .val (.int x1), .val (.int x2), .val (.int x3), .val (.int x4), .val (.int c0), .val (.int c1), .val (.int c2), .val (.int c3), .val (.ref b), .val (.int en.toInt32), .val (.int ix.toInt32), .val (.int bg), .unset, .unset, .unset] []) := by
  obtain ⟨en, hen, een⟩ := own_rem (x := (x4 &&& (2147483647 : Int32))) (n := 5) (own_mask x4) (by decide) (by decide)
  have e5 : (5 : Nat).toInt32 = (5 : Int32) := rfl
  rw [e5] at een
  obtain ⟨ix, hix, eix⟩ := own_rem (x := ((((x4).toUInt32 >>> ((4 : Int32) &&& 31).toUInt32).toInt32) &&& (2147483647 : Int32))) (n := en + 1) (own_mask _) (by omega) (by omega)
  have hy69 := own_ne0 (n := en + 1) (by omega) (by omega)
  obtain ⟨T1, bg, W1, st1⟩ := own_min W0 hx hZ hw hby hml hown Z0 (by decide) (by decide) (q := 81) (Ls := #[.val (.int x0), .val (.int x1), .val (.int x2), .val (.int x3), .val (.int x4), .val (.int c0), .val (.int c1), .val (.int c2), .val (.int c3), .val (.ref b), .val (.int en.toInt32), .val (.int ix.toInt32), .unset, .unset, .unset, .unset]) rfl ix.toInt32 ((((x4).toUInt32 >>> ((12 : Int32) &&& 31).toUInt32).toInt32) &&& (1 : Int32)) [] (Nat.le_of_ble_eq_true rfl) at_81
  refine ⟨T1, en, ix, bg, by omega, by omega, W1, fun t kt => ?_⟩
  obtain ⟨locs, X0, e0, N0⟩ := W0
  obtain ⟨locs1, X1, e1, N1⟩ := W1
  show Steps p.tables e below (T0.setTop (mkF m 49 #[.val (.int x0), .val (.int x1), .val (.int x2), .val (.int x3), .val (.int x4), .val (.int c0), .val (.int c1), .val (.int c2), .val (.int c3), .val (.ref b), .unset, .unset, .unset, .unset, .unset, .unset] [])) _
  refine XS.iload X0.here hx rfl (hb hby at_49) rfl ?_
  show Steps p.tables e below (T0.setTop (mkF m 51 #[.val (.int x0), .val (.int x1), .val (.int x2), .val (.int x3), .val (.int x4), .val (.int c0), .val (.int c1), .val (.int c2), .val (.int c3), .val (.ref b), .unset, .unset, .unset, .unset, .unset, .unset] [(.int x4)])) _
  refine X0.ldcI hx hown (mvT hZ (hw _ (List.mem_of_getElem? (i := 5) rfl))) rfl (hb hby at_51) ?_
  show Steps p.tables e below (T0.setTop (mkF m 53 #[.val (.int x0), .val (.int x1), .val (.int x2), .val (.int x3), .val (.int x4), .val (.int c0), .val (.int c1), .val (.int c2), .val (.int c3), .val (.ref b), .unset, .unset, .unset, .unset, .unset, .unset] [(.int (2147483647 : Int32)), (.int x4)])) _
  refine XS.iand X0.here hx rfl (hb hby at_53) rfl ?_
  show Steps p.tables e below (T0.setTop (mkF m 54 #[.val (.int x0), .val (.int x1), .val (.int x2), .val (.int x3), .val (.int x4), .val (.int c0), .val (.int c1), .val (.int c2), .val (.int c3), .val (.ref b), .unset, .unset, .unset, .unset, .unset, .unset] [(.int (x4 &&& (2147483647 : Int32)))])) _
  refine XS.iconst X0.here hx rfl (hb hby at_54) ?_
  show Steps p.tables e below (T0.setTop (mkF m 55 #[.val (.int x0), .val (.int x1), .val (.int x2), .val (.int x3), .val (.int x4), .val (.int c0), .val (.int c1), .val (.int c2), .val (.int c3), .val (.ref b), .unset, .unset, .unset, .unset, .unset, .unset] [(.int (5 : Int32)), (.int (x4 &&& (2147483647 : Int32)))])) _
  refine XS.irem X0.here hx rfl (hb hby at_55) rfl (by decide) ?_
  show Steps p.tables e below (T0.setTop (mkF m 56 #[.val (.int x0), .val (.int x1), .val (.int x2), .val (.int x3), .val (.int x4), .val (.int c0), .val (.int c1), .val (.int c2), .val (.int c3), .val (.ref b), .unset, .unset, .unset, .unset, .unset, .unset] [(.int ((x4 &&& (2147483647 : Int32)) - ((x4 &&& (2147483647 : Int32)) / (5 : Int32)) * (5 : Int32)))])) _
  rw [een]
  show Steps p.tables e below (T0.setTop (mkF m 56 #[.val (.int x0), .val (.int x1), .val (.int x2), .val (.int x3), .val (.int x4), .val (.int c0), .val (.int c1), .val (.int c2), .val (.int c3), .val (.ref b), .unset, .unset, .unset, .unset, .unset, .unset] [(.int en.toInt32)])) _
  refine XS.istore X0.here hx rfl (hb hby at_56) rfl (l' := #[.val (.int x0), .val (.int x1), .val (.int x2), .val (.int x3), .val (.int x4), .val (.int c0), .val (.int c1), .val (.int c2), .val (.int c3), .val (.ref b), .val (.int en.toInt32), .unset, .unset, .unset, .unset, .unset]) rfl ?_
  show Steps p.tables e below (T0.setTop (mkF m 58 #[.val (.int x0), .val (.int x1), .val (.int x2), .val (.int x3), .val (.int x4), .val (.int c0), .val (.int c1), .val (.int c2), .val (.int c3), .val (.ref b), .val (.int en.toInt32), .unset, .unset, .unset, .unset, .unset] [])) _
  refine XS.iload X0.here hx rfl (hb hby at_58) rfl ?_
  show Steps p.tables e below (T0.setTop (mkF m 60 #[.val (.int x0), .val (.int x1), .val (.int x2), .val (.int x3), .val (.int x4), .val (.int c0), .val (.int c1), .val (.int c2), .val (.int c3), .val (.ref b), .val (.int en.toInt32), .unset, .unset, .unset, .unset, .unset] [(.int x4)])) _
  refine XS.iconst X0.here hx rfl (hb hby at_60) ?_
  show Steps p.tables e below (T0.setTop (mkF m 61 #[.val (.int x0), .val (.int x1), .val (.int x2), .val (.int x3), .val (.int x4), .val (.int c0), .val (.int c1), .val (.int c2), .val (.int c3), .val (.ref b), .val (.int en.toInt32), .unset, .unset, .unset, .unset, .unset] [(.int (4 : Int32)), (.int x4)])) _
  refine XS.iushr X0.here hx rfl (hb hby at_61) rfl ?_
  show Steps p.tables e below (T0.setTop (mkF m 62 #[.val (.int x0), .val (.int x1), .val (.int x2), .val (.int x3), .val (.int x4), .val (.int c0), .val (.int c1), .val (.int c2), .val (.int c3), .val (.ref b), .val (.int en.toInt32), .unset, .unset, .unset, .unset, .unset] [(.int (((x4).toUInt32 >>> ((4 : Int32) &&& 31).toUInt32).toInt32))])) _
  refine X0.ldcI hx hown (mvT hZ (hw _ (List.mem_of_getElem? (i := 5) rfl))) rfl (hb hby at_62) ?_
  show Steps p.tables e below (T0.setTop (mkF m 64 #[.val (.int x0), .val (.int x1), .val (.int x2), .val (.int x3), .val (.int x4), .val (.int c0), .val (.int c1), .val (.int c2), .val (.int c3), .val (.ref b), .val (.int en.toInt32), .unset, .unset, .unset, .unset, .unset] [(.int (2147483647 : Int32)), (.int (((x4).toUInt32 >>> ((4 : Int32) &&& 31).toUInt32).toInt32))])) _
  refine XS.iand X0.here hx rfl (hb hby at_64) rfl ?_
  show Steps p.tables e below (T0.setTop (mkF m 65 #[.val (.int x0), .val (.int x1), .val (.int x2), .val (.int x3), .val (.int x4), .val (.int c0), .val (.int c1), .val (.int c2), .val (.int c3), .val (.ref b), .val (.int en.toInt32), .unset, .unset, .unset, .unset, .unset] [(.int ((((x4).toUInt32 >>> ((4 : Int32) &&& 31).toUInt32).toInt32) &&& (2147483647 : Int32)))])) _
  refine XS.iload X0.here hx rfl (hb hby at_65) rfl ?_
  show Steps p.tables e below (T0.setTop (mkF m 67 #[.val (.int x0), .val (.int x1), .val (.int x2), .val (.int x3), .val (.int x4), .val (.int c0), .val (.int c1), .val (.int c2), .val (.int c3), .val (.ref b), .val (.int en.toInt32), .unset, .unset, .unset, .unset, .unset] [(.int en.toInt32), (.int ((((x4).toUInt32 >>> ((4 : Int32) &&& 31).toUInt32).toInt32) &&& (2147483647 : Int32)))])) _
  refine XS.iconst X0.here hx rfl (hb hby at_67) ?_
  show Steps p.tables e below (T0.setTop (mkF m 68 #[.val (.int x0), .val (.int x1), .val (.int x2), .val (.int x3), .val (.int x4), .val (.int c0), .val (.int c1), .val (.int c2), .val (.int c3), .val (.ref b), .val (.int en.toInt32), .unset, .unset, .unset, .unset, .unset] [(.int (1 : Int32)), (.int en.toInt32), (.int ((((x4).toUInt32 >>> ((4 : Int32) &&& 31).toUInt32).toInt32) &&& (2147483647 : Int32)))])) _
  refine XS.iadd X0.here hx rfl (hb hby at_68) rfl ?_
  show Steps p.tables e below (T0.setTop (mkF m 69 #[.val (.int x0), .val (.int x1), .val (.int x2), .val (.int x3), .val (.int x4), .val (.int c0), .val (.int c1), .val (.int c2), .val (.int c3), .val (.ref b), .val (.int en.toInt32), .unset, .unset, .unset, .unset, .unset] [(.int (en.toInt32 + (1 : Int32))), (.int ((((x4).toUInt32 >>> ((4 : Int32) &&& 31).toUInt32).toInt32) &&& (2147483647 : Int32)))])) _
  rw [own_succ en]
  show Steps p.tables e below (T0.setTop (mkF m 69 #[.val (.int x0), .val (.int x1), .val (.int x2), .val (.int x3), .val (.int x4), .val (.int c0), .val (.int c1), .val (.int c2), .val (.int c3), .val (.ref b), .val (.int en.toInt32), .unset, .unset, .unset, .unset, .unset] [(.int (en + 1).toInt32), (.int ((((x4).toUInt32 >>> ((4 : Int32) &&& 31).toUInt32).toInt32) &&& (2147483647 : Int32)))])) _
  refine XS.irem X0.here hx rfl (hb hby at_69) rfl hy69 ?_
  show Steps p.tables e below (T0.setTop (mkF m 70 #[.val (.int x0), .val (.int x1), .val (.int x2), .val (.int x3), .val (.int x4), .val (.int c0), .val (.int c1), .val (.int c2), .val (.int c3), .val (.ref b), .val (.int en.toInt32), .unset, .unset, .unset, .unset, .unset] [(.int (((((x4).toUInt32 >>> ((4 : Int32) &&& 31).toUInt32).toInt32) &&& (2147483647 : Int32)) - (((((x4).toUInt32 >>> ((4 : Int32) &&& 31).toUInt32).toInt32) &&& (2147483647 : Int32)) / (en + 1).toInt32) * (en + 1).toInt32))])) _
  rw [eix]
  show Steps p.tables e below (T0.setTop (mkF m 70 #[.val (.int x0), .val (.int x1), .val (.int x2), .val (.int x3), .val (.int x4), .val (.int c0), .val (.int c1), .val (.int c2), .val (.int c3), .val (.ref b), .val (.int en.toInt32), .unset, .unset, .unset, .unset, .unset] [(.int ix.toInt32)])) _
  refine XS.istore X0.here hx rfl (hb hby at_70) rfl (l' := #[.val (.int x0), .val (.int x1), .val (.int x2), .val (.int x3), .val (.int x4), .val (.int c0), .val (.int c1), .val (.int c2), .val (.int c3), .val (.ref b), .val (.int en.toInt32), .val (.int ix.toInt32), .unset, .unset, .unset, .unset]) rfl ?_
  show Steps p.tables e below (T0.setTop (mkF m 72 #[.val (.int x0), .val (.int x1), .val (.int x2), .val (.int x3), .val (.int x4), .val (.int c0), .val (.int c1), .val (.int c2), .val (.int c3), .val (.ref b), .val (.int en.toInt32), .val (.int ix.toInt32), .unset, .unset, .unset, .unset] [])) _
  refine XS.iload X0.here hx rfl (hb hby at_72) rfl ?_
  show Steps p.tables e below (T0.setTop (mkF m 74 #[.val (.int x0), .val (.int x1), .val (.int x2), .val (.int x3), .val (.int x4), .val (.int c0), .val (.int c1), .val (.int c2), .val (.int c3), .val (.ref b), .val (.int en.toInt32), .val (.int ix.toInt32), .unset, .unset, .unset, .unset] [(.int ix.toInt32)])) _
  refine XS.iload X0.here hx rfl (hb hby at_74) rfl ?_
  show Steps p.tables e below (T0.setTop (mkF m 76 #[.val (.int x0), .val (.int x1), .val (.int x2), .val (.int x3), .val (.int x4), .val (.int c0), .val (.int c1), .val (.int c2), .val (.int c3), .val (.ref b), .val (.int en.toInt32), .val (.int ix.toInt32), .unset, .unset, .unset, .unset] [(.int x4), (.int ix.toInt32)])) _
  refine XS.bipush X0.here hx rfl (hb hby at_76) ?_
  show Steps p.tables e below (T0.setTop (mkF m 78 #[.val (.int x0), .val (.int x1), .val (.int x2), .val (.int x3), .val (.int x4), .val (.int c0), .val (.int c1), .val (.int c2), .val (.int c3), .val (.ref b), .val (.int en.toInt32), .val (.int ix.toInt32), .unset, .unset, .unset, .unset] [(.int (12 : Int32)), (.int x4), (.int ix.toInt32)])) _
  refine XS.iushr X0.here hx rfl (hb hby at_78) rfl ?_
  show Steps p.tables e below (T0.setTop (mkF m 79 #[.val (.int x0), .val (.int x1), .val (.int x2), .val (.int x3), .val (.int x4), .val (.int c0), .val (.int c1), .val (.int c2), .val (.int c3), .val (.ref b), .val (.int en.toInt32), .val (.int ix.toInt32), .unset, .unset, .unset, .unset] [(.int (((x4).toUInt32 >>> ((12 : Int32) &&& 31).toUInt32).toInt32)), (.int ix.toInt32)])) _
  refine XS.iconst X0.here hx rfl (hb hby at_79) ?_
  show Steps p.tables e below (T0.setTop (mkF m 80 #[.val (.int x0), .val (.int x1), .val (.int x2), .val (.int x3), .val (.int x4), .val (.int c0), .val (.int c1), .val (.int c2), .val (.int c3), .val (.ref b), .val (.int en.toInt32), .val (.int ix.toInt32), .unset, .unset, .unset, .unset] [(.int (1 : Int32)), (.int (((x4).toUInt32 >>> ((12 : Int32) &&& 31).toUInt32).toInt32)), (.int ix.toInt32)])) _
  refine XS.iand X0.here hx rfl (hb hby at_80) rfl ?_
  show Steps p.tables e below (T0.setTop (mkF m 81 #[.val (.int x0), .val (.int x1), .val (.int x2), .val (.int x3), .val (.int x4), .val (.int c0), .val (.int c1), .val (.int c2), .val (.int c3), .val (.ref b), .val (.int en.toInt32), .val (.int ix.toInt32), .unset, .unset, .unset, .unset] [(.int ((((x4).toUInt32 >>> ((12 : Int32) &&& 31).toUInt32).toInt32) &&& (1 : Int32))), (.int ix.toInt32)])) _
  refine st1 _ ?_
  show Steps p.tables e below (T1.setTop (mkF m 84 #[.val (.int x0), .val (.int x1), .val (.int x2), .val (.int x3), .val (.int x4), .val (.int c0), .val (.int c1), .val (.int c2), .val (.int c3), .val (.ref b), .val (.int en.toInt32), .val (.int ix.toInt32), .unset, .unset, .unset, .unset] [(.int bg)])) _
  refine XS.istore X1.here hx rfl (hb hby at_84) rfl (l' := #[.val (.int x0), .val (.int x1), .val (.int x2), .val (.int x3), .val (.int x4), .val (.int c0), .val (.int c1), .val (.int c2), .val (.int c3), .val (.ref b), .val (.int en.toInt32), .val (.int ix.toInt32), .val (.int bg), .unset, .unset, .unset]) rfl ?_
  exact kt
end Law
def Q0 (h0 : Heap) (n0 : Nat) (v : Option Value) (h : Heap) (L : List Loc) : Prop := v = some (.int 1) ∧ Fr n0 L
set_option maxRecDepth 65536 in
set_option maxHeartbeats 40000000 in
theorem rm0 (l : Launch) (Z : State) (a0 : Array Value) (hw : ∀ d ∈ tables_1, d.before a0 Z = true) (ws : List Jvm.Cond) (x0 x1 x2 x3 x4 : Int32) (h0 : Heap) (n0 : Nat) (Z0 : n0 ≤ h0.size) :
    MetFree l x (head1 (Jvm.Cond.code x code 16 ret :: ws) room_1) (fun a U => a = #[(.int x0), (.int x1), (.int x2), (.int x3), (.int x4)] ∧ Z.Warmed39 U.vm ∧ U.heap = h0) (fun _ _ _ _ _ => True) (fun _ U o U' => ∃ v L, o = .returned v ∧ Q0  h0 n0 v U'.heap L ∧ FrameEnd U o U' L room_1.cells room_1.slots) := by
  refine MetFree.of_bodySF (plainFor_of_name pn_0) hisR ?_
  intro p e s m args below meth c s₁ Bd hml0 hP hK
  obtain ⟨rfl, hZ, hh⟩ := hP
  have hx := Bd.exec
  have hby := Bd.bytes
  have hml : c.maxLocals = 16 := hml0
  have hown : s.vm.findClass "com/example/plinth/plinth/XmlParserSkipWhitespacePinLaw" = some m.cls := findClass_of_methodNamed Bd.named
  have hnm := (name_of_methodNamed Bd.named Bd.method).1
  have X0 : Stand p l e room_1 s m #[(.int x0), (.int x1), (.int x2), (.int x3), (.int x4)] below meth c s₁ [] 0 0 := Stand.of_body Bd
  have e0 : s₁.heap = h0 := by rw [← hh, Bd.state]; rfl
  have N0 := Fr.nil n0
  have pre0 : ∀ t, Steps p.tables e below (s₁.setTop (mkF m 0 #[.val (.int x0), .val (.int x1), .val (.int x2), .val (.int x3), .val (.int x4), .unset, .unset, .unset, .unset, .unset, .unset, .unset, .unset, .unset, .unset, .unset] [])) t → Steps p.tables e below (s₁.setTop (entryFrame m #[(.int x0), (.int x1), (.int x2), (.int x3), (.int x4)] 16)) t := fun t kt0 => castTop (ef_0 m x0 x1 x2 x3 x4) kt0

  have W0 : own_W p l e s m #[(.int x0), (.int x1), (.int x2), (.int x3), (.int x4)] below meth c 0 0 n0 s₁ h0 := ⟨[], X0, e0, N0⟩
  obtain ⟨TD0, c0, WD0, n_0, stD0⟩ := own_draw W0 hx hZ hw hby hml hown Z0 (by decide) (by decide) (q := 1) (Ls := #[.val (.int x0), .val (.int x1), .val (.int x2), .val (.int x3), .val (.int x4), .unset, .unset, .unset, .unset, .unset, .unset, .unset, .unset, .unset, .unset, .unset]) rfl x0 [] (Nat.le_of_ble_eq_true rfl) at_1
  obtain ⟨TD1, c1, WD1, n_1, stD1⟩ := own_draw WD0 hx hZ hw hby hml hown Z0 (by decide) (by decide) (q := 7) (Ls := #[.val (.int x0), .val (.int x1), .val (.int x2), .val (.int x3), .val (.int x4), .val (.int c0), .unset, .unset, .unset, .unset, .unset, .unset, .unset, .unset, .unset, .unset]) rfl x1 [] (Nat.le_of_ble_eq_true rfl) at_7
  obtain ⟨TD2, c2, WD2, n_2, stD2⟩ := own_draw WD1 hx hZ hw hby hml hown Z0 (by decide) (by decide) (q := 13) (Ls := #[.val (.int x0), .val (.int x1), .val (.int x2), .val (.int x3), .val (.int x4), .val (.int c0), .val (.int c1), .unset, .unset, .unset, .unset, .unset, .unset, .unset, .unset, .unset]) rfl x2 [] (Nat.le_of_ble_eq_true rfl) at_13
  obtain ⟨TD3, c3, WD3, n_3, stD3⟩ := own_draw WD2 hx hZ hw hby hml hown Z0 (by decide) (by decide) (q := 19) (Ls := #[.val (.int x0), .val (.int x1), .val (.int x2), .val (.int x3), .val (.int x4), .val (.int c0), .val (.int c1), .val (.int c2), .unset, .unset, .unset, .unset, .unset, .unset, .unset, .unset]) rfl x3 [] (Nat.le_of_ble_eq_true rfl) at_19
  obtain ⟨TA, hA, b, cl, WA, ZA, ArA, hsl, stA⟩ := own_arr WD3 hx hZ hw hby Z0 x0 x1 x2 x3 x4 c0 c1 c2 c3 n_0 n_1 n_2 n_3
  obtain ⟨TN, en, ix, bg, hen, hix, WN, stN⟩ := own_nums WA hx hZ hw hby hml hown ZA x0 x1 x2 x3 x4 c0 c1 c2 c3 b
  obtain ⟨TO, hO, tx, WO, ZO, EO, FE, FC, ArO, stO⟩ := own_obj WN hx hZ hw hby hml hown ZA x0 x1 x2 x3 x4 c0 c1 c2 c3 b en ix bg cl ArA
  have hsz : cl.slots.size = 4 := by rw [hsl]; rfl
  have g0 : own_g cl 0 = c0 := by unfold own_g; rw [hsl]; rfl
  have g1 : own_g cl 1 = c1 := by unfold own_g; rw [hsl]; rfl
  have g2 : own_g cl 2 = c2 := by unfold own_g; rw [hsl]; rfl
  have g3 : own_g cl 3 = c3 := by unfold own_g; rw [hsl]; rfl
  have Hi : ∀ k, k < 4 → cl.slots[k]? = some (.int (own_g cl k)) := by
    intro k hk
    have q : k = 0 ∨ k = 1 ∨ k = 2 ∨ k = 3 := by omega
    rcases q with rfl | rfl | rfl | rfl
    · rw [g0, hsl]; rfl
    · rw [g1, hsl]; rfl
    · rw [g2, hsl]; rfl
    · rw [g3, hsl]; rfl
  obtain ⟨TS, WS, stS⟩ := own_lskip WO hx hZ hw hby hml hown ZO (by decide) (by decide) (q := 105) (Ls := #[.val (.int x0), .val (.int x1), .val (.int x2), .val (.int x3), .val (.int x4), .val (.int c0), .val (.int c1), .val (.int c2), .val (.int c3), .val (.ref b), .val (.int en.toInt32), .val (.int ix.toInt32), .val (.int bg), .val (.ref tx), .unset, .unset]) rfl tx ix b cl en hen hix EO FE FC ArO hsz Hi [] (Nat.le_of_ble_eq_true rfl) at_105
  have hlaw := own_law (own_g cl) ix en hix hen
  obtain ⟨sk, hsk⟩ : ∃ z : Nat, own_skip (own_g cl) en 4 ix = z := ⟨_, rfl⟩
  rw [hsk] at stS hlaw
  rw [g0, g1, g2, g3] at hlaw
  obtain ⟨T3, W3, st3⟩ := own_q3 WS hx hZ hw hby hml hown ZO (by decide) (by decide) x0 x1 x2 x3 x4 c0 c1 c2 c3 b en ix bg tx sk.toInt32 en hen (by omega)
  obtain ⟨r3, h3⟩ : ∃ z : Nat, own_sel 3 ix en (own_ws c3) en = z := ⟨_, rfl⟩
  rw [h3] at st3 hlaw
  obtain ⟨T2, W2, st2⟩ := own_q2 W3 hx hZ hw hby hml hown ZO (by decide) (by decide) x0 x1 x2 x3 x4 c0 c1 c2 c3 b en ix bg tx sk.toInt32 r3 hen (by omega)
  obtain ⟨r2, h2⟩ : ∃ z : Nat, own_sel 2 ix en (own_ws c2) r3 = z := ⟨_, rfl⟩
  rw [h2] at st2 hlaw
  obtain ⟨T1, W1, st1⟩ := own_q1 W2 hx hZ hw hby hml hown ZO (by decide) (by decide) x0 x1 x2 x3 x4 c0 c1 c2 c3 b en ix bg tx sk.toInt32 r2 hen (by omega)
  obtain ⟨r1, h1⟩ : ∃ z : Nat, own_sel 1 ix en (own_ws c1) r2 = z := ⟨_, rfl⟩
  rw [h1] at st1 hlaw
  obtain ⟨TE, WE, stE⟩ := own_q0 W1 hx hZ hw hby hml hown ZO (by decide) (by decide) x0 x1 x2 x3 x4 c0 c1 c2 c3 b en ix bg tx sk.toInt32 r1 hen (by omega)
  rw [← hlaw] at stE
  obtain ⟨lE, XE, eE, NE⟩ := WE
  obtain ⟨lS, XS_, eS, NS⟩ := WS
  obtain ⟨lO, XO, eO, NO⟩ := WO
  obtain ⟨l0, XD0, q0, u0⟩ := WD0
  obtain ⟨l1, XD1, q1, u1⟩ := WD1
  obtain ⟨l2, XD2, q2, u2⟩ := WD2
  obtain ⟨l3, XD3, q3, u3⟩ := WD3
  obtain ⟨fs, hr, hrun, hended, hW, hsame⟩ := XE.leave (v := some (.int (1 : Int32))) (fun h => by rw [Bd.returns] at h; cases h)
  refine ⟨_, _, pre0 _ ?_, hrun, hended, _, _, rfl, ?_, ⟨_, rfl⟩, hW, hsame.mono (by decide) (by decide)⟩
  rotate_left
  · show Q0 h0 n0 _ TE.heap _
    exact ⟨rfl, NE⟩
  show Steps p.tables e below (s₁.setTop (mkF m 0 #[.val (.int x0), .val (.int x1), .val (.int x2), .val (.int x3), .val (.int x4), .unset, .unset, .unset, .unset, .unset, .unset, .unset, .unset, .unset, .unset, .unset] [])) _
  refine XS.iloadN X0.here hx rfl (hb hby at_0) rfl ?_
  show Steps p.tables e below (s₁.setTop (mkF m 1 #[.val (.int x0), .val (.int x1), .val (.int x2), .val (.int x3), .val (.int x4), .unset, .unset, .unset, .unset, .unset, .unset, .unset, .unset, .unset, .unset, .unset] [(.int x0)])) _
  refine stD0 _ ?_
  show Steps p.tables e below (TD0.setTop (mkF m 4 #[.val (.int x0), .val (.int x1), .val (.int x2), .val (.int x3), .val (.int x4), .unset, .unset, .unset, .unset, .unset, .unset, .unset, .unset, .unset, .unset, .unset] [(.int c0)])) _
  refine XS.istore XD0.here hx rfl (hb hby at_4) rfl (l' := #[.val (.int x0), .val (.int x1), .val (.int x2), .val (.int x3), .val (.int x4), .val (.int c0), .unset, .unset, .unset, .unset, .unset, .unset, .unset, .unset, .unset, .unset]) rfl ?_
  show Steps p.tables e below (TD0.setTop (mkF m 6 #[.val (.int x0), .val (.int x1), .val (.int x2), .val (.int x3), .val (.int x4), .val (.int c0), .unset, .unset, .unset, .unset, .unset, .unset, .unset, .unset, .unset, .unset] [])) _
  refine XS.iloadN XD0.here hx rfl (hb hby at_6) rfl ?_
  show Steps p.tables e below (TD0.setTop (mkF m 7 #[.val (.int x0), .val (.int x1), .val (.int x2), .val (.int x3), .val (.int x4), .val (.int c0), .unset, .unset, .unset, .unset, .unset, .unset, .unset, .unset, .unset, .unset] [(.int x1)])) _
  refine stD1 _ ?_
  show Steps p.tables e below (TD1.setTop (mkF m 10 #[.val (.int x0), .val (.int x1), .val (.int x2), .val (.int x3), .val (.int x4), .val (.int c0), .unset, .unset, .unset, .unset, .unset, .unset, .unset, .unset, .unset, .unset] [(.int c1)])) _
  refine XS.istore XD1.here hx rfl (hb hby at_10) rfl (l' := #[.val (.int x0), .val (.int x1), .val (.int x2), .val (.int x3), .val (.int x4), .val (.int c0), .val (.int c1), .unset, .unset, .unset, .unset, .unset, .unset, .unset, .unset, .unset]) rfl ?_
  show Steps p.tables e below (TD1.setTop (mkF m 12 #[.val (.int x0), .val (.int x1), .val (.int x2), .val (.int x3), .val (.int x4), .val (.int c0), .val (.int c1), .unset, .unset, .unset, .unset, .unset, .unset, .unset, .unset, .unset] [])) _
  refine XS.iloadN XD1.here hx rfl (hb hby at_12) rfl ?_
  show Steps p.tables e below (TD1.setTop (mkF m 13 #[.val (.int x0), .val (.int x1), .val (.int x2), .val (.int x3), .val (.int x4), .val (.int c0), .val (.int c1), .unset, .unset, .unset, .unset, .unset, .unset, .unset, .unset, .unset] [(.int x2)])) _
  refine stD2 _ ?_
  show Steps p.tables e below (TD2.setTop (mkF m 16 #[.val (.int x0), .val (.int x1), .val (.int x2), .val (.int x3), .val (.int x4), .val (.int c0), .val (.int c1), .unset, .unset, .unset, .unset, .unset, .unset, .unset, .unset, .unset] [(.int c2)])) _
  refine XS.istore XD2.here hx rfl (hb hby at_16) rfl (l' := #[.val (.int x0), .val (.int x1), .val (.int x2), .val (.int x3), .val (.int x4), .val (.int c0), .val (.int c1), .val (.int c2), .unset, .unset, .unset, .unset, .unset, .unset, .unset, .unset]) rfl ?_
  show Steps p.tables e below (TD2.setTop (mkF m 18 #[.val (.int x0), .val (.int x1), .val (.int x2), .val (.int x3), .val (.int x4), .val (.int c0), .val (.int c1), .val (.int c2), .unset, .unset, .unset, .unset, .unset, .unset, .unset, .unset] [])) _
  refine XS.iloadN XD2.here hx rfl (hb hby at_18) rfl ?_
  show Steps p.tables e below (TD2.setTop (mkF m 19 #[.val (.int x0), .val (.int x1), .val (.int x2), .val (.int x3), .val (.int x4), .val (.int c0), .val (.int c1), .val (.int c2), .unset, .unset, .unset, .unset, .unset, .unset, .unset, .unset] [(.int x3)])) _
  refine stD3 _ ?_
  show Steps p.tables e below (TD3.setTop (mkF m 22 #[.val (.int x0), .val (.int x1), .val (.int x2), .val (.int x3), .val (.int x4), .val (.int c0), .val (.int c1), .val (.int c2), .unset, .unset, .unset, .unset, .unset, .unset, .unset, .unset] [(.int c3)])) _
  refine XS.istore XD3.here hx rfl (hb hby at_22) rfl (l' := #[.val (.int x0), .val (.int x1), .val (.int x2), .val (.int x3), .val (.int x4), .val (.int c0), .val (.int c1), .val (.int c2), .val (.int c3), .unset, .unset, .unset, .unset, .unset, .unset, .unset]) rfl ?_
  refine stA _ ?_
  refine stN _ ?_
  refine stO _ ?_
  show Steps p.tables e below (TO.setTop (mkF m 101 #[.val (.int x0), .val (.int x1), .val (.int x2), .val (.int x3), .val (.int x4), .val (.int c0), .val (.int c1), .val (.int c2), .val (.int c3), .val (.ref b), .val (.int en.toInt32), .val (.int ix.toInt32), .val (.int bg), .val (.ref tx), .unset, .unset] [])) _
  refine XS.aload XO.here hx rfl (hb hby at_101) rfl rfl ?_
  show Steps p.tables e below (TO.setTop (mkF m 103 #[.val (.int x0), .val (.int x1), .val (.int x2), .val (.int x3), .val (.int x4), .val (.int c0), .val (.int c1), .val (.int c2), .val (.int c3), .val (.ref b), .val (.int en.toInt32), .val (.int ix.toInt32), .val (.int bg), .val (.ref tx), .unset, .unset] [(.ref tx)])) _
  refine XS.iload XO.here hx rfl (hb hby at_103) rfl ?_
  show Steps p.tables e below (TO.setTop (mkF m 105 #[.val (.int x0), .val (.int x1), .val (.int x2), .val (.int x3), .val (.int x4), .val (.int c0), .val (.int c1), .val (.int c2), .val (.int c3), .val (.ref b), .val (.int en.toInt32), .val (.int ix.toInt32), .val (.int bg), .val (.ref tx), .unset, .unset] [(.int ix.toInt32), (.ref tx)])) _
  refine stS _ ?_
  show Steps p.tables e below (TS.setTop (mkF m 108 #[.val (.int x0), .val (.int x1), .val (.int x2), .val (.int x3), .val (.int x4), .val (.int c0), .val (.int c1), .val (.int c2), .val (.int c3), .val (.ref b), .val (.int en.toInt32), .val (.int ix.toInt32), .val (.int bg), .val (.ref tx), .unset, .unset] [(.int sk.toInt32)])) _
  refine XS.istore XS_.here hx rfl (hb hby at_108) rfl (l' := #[.val (.int x0), .val (.int x1), .val (.int x2), .val (.int x3), .val (.int x4), .val (.int c0), .val (.int c1), .val (.int c2), .val (.int c3), .val (.ref b), .val (.int en.toInt32), .val (.int ix.toInt32), .val (.int bg), .val (.ref tx), .val (.int sk.toInt32), .unset]) rfl ?_
  show Steps p.tables e below (TS.setTop (mkF m 110 #[.val (.int x0), .val (.int x1), .val (.int x2), .val (.int x3), .val (.int x4), .val (.int c0), .val (.int c1), .val (.int c2), .val (.int c3), .val (.ref b), .val (.int en.toInt32), .val (.int ix.toInt32), .val (.int bg), .val (.ref tx), .val (.int sk.toInt32), .unset] [])) _
  refine XS.iload XS_.here hx rfl (hb hby at_110) rfl ?_
  show Steps p.tables e below (TS.setTop (mkF m 112 #[.val (.int x0), .val (.int x1), .val (.int x2), .val (.int x3), .val (.int x4), .val (.int c0), .val (.int c1), .val (.int c2), .val (.int c3), .val (.ref b), .val (.int en.toInt32), .val (.int ix.toInt32), .val (.int bg), .val (.ref tx), .val (.int sk.toInt32), .unset] [(.int en.toInt32)])) _
  refine XS.istore XS_.here hx rfl (hb hby at_112) rfl (l' := #[.val (.int x0), .val (.int x1), .val (.int x2), .val (.int x3), .val (.int x4), .val (.int c0), .val (.int c1), .val (.int c2), .val (.int c3), .val (.ref b), .val (.int en.toInt32), .val (.int ix.toInt32), .val (.int bg), .val (.ref tx), .val (.int sk.toInt32), .val (.int en.toInt32)]) rfl ?_
  show Steps p.tables e below (TS.setTop (mkF m 114 (own_L x0 x1 x2 x3 x4 c0 c1 c2 c3 b en ix bg tx sk.toInt32 en) [])) _
  refine st3 _ ?_
  refine st2 _ ?_
  refine st1 _ ?_
  refine stE _ ?_
  show Steps p.tables e below (TE.setTop (mkF m 206 (own_L x0 x1 x2 x3 x4 c0 c1 c2 c3 b en ix bg tx sk.toInt32 sk) [])) _
  refine XS.iload XE.here hx rfl (hb hby at_206) rfl ?_
  show Steps p.tables e below (TE.setTop (mkF m 208 (own_L x0 x1 x2 x3 x4 c0 c1 c2 c3 b en ix bg tx sk.toInt32 sk) [(.int sk.toInt32)])) _
  refine XS.iload XE.here hx rfl (hb hby at_208) rfl ?_
  show Steps p.tables e below (TE.setTop (mkF m 210 (own_L x0 x1 x2 x3 x4 c0 c1 c2 c3 b en ix bg tx sk.toInt32 sk) [(.int sk.toInt32), (.int sk.toInt32)])) _
  refine XS.icmpNo XE.here hx rfl (hb hby at_210) rfl (teq (rfl : sk.toInt32 = sk.toInt32)).2 ?_
  show Steps p.tables e below (TE.setTop (mkF m 213 (own_L x0 x1 x2 x3 x4 c0 c1 c2 c3 b en ix bg tx sk.toInt32 sk) [])) _
  refine XS.iconst XE.here hx rfl (hb hby at_213) ?_
  show Steps p.tables e below (TE.setTop (mkF m 214 (own_L x0 x1 x2 x3 x4 c0 c1 c2 c3 b en ix bg tx sk.toInt32 sk) [(.int (1 : Int32))])) _
  refine XS.goto XE.here hx rfl (pc0 := 214) (pc' := 218) rfl (hb hby at_214) (by decide) (by decide) ?_
  show Steps p.tables e below (TE.setTop (mkF m 218 (own_L x0 x1 x2 x3 x4 c0 c1 c2 c3 b en ix bg tx sk.toInt32 sk) [(.int (1 : Int32))])) _
  exact retN XE hx (t := .boolean) Bd.returns (by simp) (hb hby at_218) hr
set_option maxRecDepth 65536 in
set_option maxHeartbeats 40000000 in
theorem comes_1 {Post : Tables → Env → Array Value → State → Outcome → State → Prop} (hpost : ∀ tb e args s v u, (limb_1_1.after args s (.returned v) u = true ∧ limb_1_2.after args s (.returned v) u = true ∧ True) → FrameEnd s (.returned v) u (Jvm.fieldLocs frame_1_writes args s ++ Jvm.arrayLocs frame_1_arrays args s ++ Jvm.staticLocs frame_1_statics s) 16 128 → Post tb e args s (.returned v) u) :
    ArmFor flags0 classFile x code maxLocals ret World_1 tables_1 room_1 Calls_1 rest_1 Pre_1 Post := by
  intro l hfl _ _ p e ha hc hk s m args below hf hA hF happ hP
  obtain ⟨hcalls, hrest, hpre⟩ := hP
  obtain ⟨-, -, -, hnamed, -, -, -, hat⟩ := (Spec.applies_iff hf).mp happ
  obtain ⟨hg, hn⟩ := and_e (Cond.before_iff.mp (show (Jvm.Cond.and given_1 narrow_1).before args s = true from hpre))
  obtain ⟨h1, h2⟩ := and_e hg
  obtain ⟨g0, h3⟩ := and_e h2
  obtain ⟨g1, h4⟩ := and_e h3
  obtain ⟨g2, h5⟩ := and_e h4
  obtain ⟨g3, g4⟩ := and_e h5
  obtain ⟨w0, w1, w2, w3, w4, rfl⟩ : ∃ w0 w1 w2 w3 w4 : Value, args = #[w0, w1, w2, w3, w4] := by
    have hs : args.size = 5 := by simpa [Cond.value, given_1] using h1
    obtain ⟨L⟩ := args
    match L, hs with
    | [w0, w1, w2, w3, w4], _ => exact ⟨w0, w1, w2, w3, w4, rfl⟩
  have hw := fun d (hd : d ∈ tables_1) => atoms_spec (ws := Jvm.Cond.code x code maxLocals ret :: tables_1) hat d (List.mem_cons_of_mem _ hd)
  obtain ⟨i0, e0⟩ := is_v g0
  obtain rfl : w0 = (.int i0) := Option.some.inj e0
  obtain ⟨i1, e1⟩ := is_v g1
  obtain rfl : w1 = (.int i1) := Option.some.inj e1
  obtain ⟨i2, e2⟩ := is_v g2
  obtain rfl : w2 = (.int i2) := Option.some.inj e2
  obtain ⟨i3, e3⟩ := is_v g3
  obtain rfl : w3 = (.int i3) := Option.some.inj e3
  obtain ⟨i4, e4⟩ := is_v g4
  obtain rfl : w4 = (.int i4) := Option.some.inj e4
  obtain ⟨n, o, h1, h2, h3, _, L, rfl, ⟨rfl, N⟩, hq⟩ := rm0 l s _ hw tables_1 i0 i1 i2 i3 i4 s.heap s.heap.size (Nat.le_refl _) p e ha hc hk s m _ below hf ((Spec.applies_iff_loose hf).mp happ).1 ⟨rfl, State.Warmed39.refl s, rfl⟩ trivial
  refine ⟨n, _, h1, h2, h3, hpost _ _ _ _ _ _ ⟨Cond.after_iff.mpr rfl, Cond.after_iff.mpr (eq_i res_at (Term.int_eval (1)) rfl), trivial⟩ ⟨hq.1, hq.2.1, (hq.2.2.sift fun y hy => Or.inr (N y hy)).mono (by decide) (by decide)⟩⟩
theorem main_1_1 : Claimed_1_1 := comes_1 fun _ _ _ _ _ _ h hF => ⟨h.1, hF⟩
theorem main_1_2 : Claimed_1_2 := comes_1 fun _ _ _ _ _ _ h hF => ⟨h.2.1, hF⟩
end Jvm.Pilot.@@N@@
namespace Jvm.Pilot.@@N@@
open Jvm Jvm.ClassFile Sem Op Lib Jvm.Free Jvm.Stand Jvm.Pilot.@@N@@.Jvm.D
/-! MADE BY PROGRAM (witnessworld.py) out of the Statement's table words and the real class files: 14 classes; the members and pool entries that the words name. The judged class is class 1, her method 3. -/
namespace start1
open Jvm.ClassFile
def u (s : String) : CpInfo := .utf8 (stringToUtf16 s)
/-- a pool by its gaps: so many unusable entries, then the entry; so many at the end -/
def gap : Nat → List CpInfo → List CpInfo
  | 0, r => r
  | n + 1, r => .unusable :: gap n r
def poolList (es : List (Nat × CpInfo)) (last : Nat) : List CpInfo := es.foldr (fun e r => gap e.1 (e.2 :: r)) (gap last [])
def pool (es : List (Nat × CpInfo)) (last : Nat) : Array CpInfo := ⟨poolList es last⟩
def fileOf (pool : Array CpInfo) (this : Nat) (attrs : Array Attribute := #[]) (ms : Array MethodInfo := #[]) (fl : Nat := 33) (sup : Nat := 0) (ifs : Array Nat := #[]) (fds : Array FieldInfo := #[]) : ClassFile where
  minorVersion := 0
  majorVersion := 65
  constantPool := pool
  accessFlags := fl
  thisClass := this
  superClass := sup
  interfaces := ifs
  fields := fds
  methods := ms
  attributes := attrs
def plain (name : String) (sup : Option ClassId) : Class where
  name := name
  kind := .ordinary
  loader := none
  accessFlags := 33
  super := sup
  interfaces := #[]
  cf := none
  fields := #[]
  methods := #[]
  instanceTypes := #[]
  staticTypes := #[]
  resolved := #[]
  callSites := []
  init := .initialized
  statics := none
  mirror := none

def pool0 : Array CpInfo := pool [(5, u "<init>"), (0, u "()V"), (1, .class_ 10), (1, u "java/lang/Object")] 113

def k0c0 : Code := { maxStack := 0, maxLocals := 1, code := object_method_1_code, exceptionTable := #[], attributes := #[] }
def k0m0 : Method := { name := "<init>", desc := "()V", sig := { parameters := [], returnType := none }, accessFlags := 1, code := some k0c0 }
/-- java/lang/Object -/
def k0 : Class := { plain "java/lang/Object" none with
  accessFlags := 33
  interfaces := #[]
  cf := some (fileOf pool0 8 #[] #[{ accessFlags := 1, nameIndex := 5, descriptorIndex := 6, attributes := #[] }] 33 0 #[] #[])
  fields := #[]
  methods := #[k0m0]
  instanceTypes := #[]
  staticTypes := #[]
  resolved := Array.replicate 124 none
  statics := none }

def pool1 : Array CpInfo := pool [(2, .class_ 4), (1, u "java/lang/Object"), (0, u "<init>"), (0, u "()V"), (0, .methodref 8 9), (0, .class_ 10), (0, .nameAndType 11 12), (0, u "com/example/plinth/plinth/XmlParserSkipWhitespacePinLaw"), (0, u "draw"), (0, u "(I)C"), (0, .integer 2147483647), (0, .methodref 15 16), (0, .class_ 17), (0, .nameAndType 18 19), (0, u "java/lang/Math"), (0, u "min"), (0, u "(II)I"), (0, .class_ 21), (0, u "com/example/plinth/plinth/SourceText"), (0, .methodref 20 23), (0, .nameAndType 5 24), (0, u "([CII)V"), (0, .methodref 26 27), (0, .class_ 28), (0, .nameAndType 29 30), (0, u "com/example/plinth/plinth/XmlParser"), (0, u "skipWhitespace"), (0, u "(Lcom/example/plinth/plinth/SourceText;I)I"), (0, .methodref 8 32), (0, .nameAndType 33 34), (0, u "ws"), (0, u "(C)Z"), (3, u "law"), (0, u "(IIIII)Z")] 4

def k1m0 : Method := { name := "<init>", desc := "()V", sig := { parameters := [], returnType := none }, accessFlags := 2, code := none }
def k1c1 : Code := { maxStack := 2, maxLocals := 2, code := method_2_code, exceptionTable := #[], attributes := #[] }
def k1m1 : Method := { name := "draw", desc := "(I)C", sig := { parameters := [.int], returnType := some .char }, accessFlags := 10, code := some k1c1 }
def k1c2 : Code := { maxStack := 2, maxLocals := 1, code := method_3_code, exceptionTable := #[], attributes := #[] }
def k1m2 : Method := { name := "ws", desc := "(C)Z", sig := { parameters := [.char], returnType := some .boolean }, accessFlags := 10, code := some k1c2 }
def k1c3 : Code := { maxStack := 5, maxLocals := 16, code := code, exceptionTable := #[], attributes := #[] }
def k1m3 : Method := { name := "law", desc := "(IIIII)Z", sig := { parameters := [.int, .int, .int, .int, .int], returnType := some .boolean }, accessFlags := 9, code := some k1c3 }
/-- com/example/plinth/plinth/XmlParserSkipWhitespacePinLaw -/
def k1 : Class := { plain "com/example/plinth/plinth/XmlParserSkipWhitespacePinLaw" (some 0) with
  accessFlags := 49
  interfaces := #[]
  cf := some (fileOf pool1 8 #[] #[{ accessFlags := 2, nameIndex := 5, descriptorIndex := 6, attributes := #[] }, { accessFlags := 10, nameIndex := 11, descriptorIndex := 12, attributes := #[] }, { accessFlags := 10, nameIndex := 33, descriptorIndex := 34, attributes := #[] }, { accessFlags := 9, nameIndex := 38, descriptorIndex := 39, attributes := #[] }] 49 2 #[] #[])
  fields := #[]
  methods := #[k1m0, k1m1, k1m2, k1m3]
  instanceTypes := #[]
  staticTypes := #[]
  resolved := Array.replicate 44 none
  statics := none }

def pool2 : Array CpInfo := pool [(1, .class_ 2), (0, u "java/lang/Math"), (1, .class_ 6), (1, u "java/lang/Object"), (0, u "<init>"), (0, u "()V"), (89, .class_ 100), (1, u "java/lang/Math$RandomNumberGeneratorHolder"), (71, u "negativeZeroFloatBits"), (0, u "J"), (2, u "negativeZeroDoubleBits"), (24, u "min"), (43, u "$assertionsDisabled"), (0, u "Z"), (88, u "(II)I"), (2, u "twoToTheDoubleScaleDown"), (0, u "D"), (4, u "twoToTheDoubleScaleUp"), (9, u "E"), (3, u "PI"), (2, u "TAU"), (2, u "DEGREES_TO_RADIANS"), (0, u "RADIANS_TO_DEGREES")] 94

def k2m0 : Method := { name := "<init>", desc := "()V", sig := { parameters := [], returnType := none }, accessFlags := 2, code := none }
def k2c1 : Code := { maxStack := 2, maxLocals := 2, code := jdk_29_method_69_code, exceptionTable := #[], attributes := #[] }
def k2m1 : Method := { name := "min", desc := "(II)I", sig := { parameters := [.int, .int], returnType := some .int }, accessFlags := 9, code := some k2c1 }
/-- java/lang/Math -/
def k2 : Class := { plain "java/lang/Math" (some 0) with
  accessFlags := 49
  interfaces := #[]
  cf := some (fileOf pool2 1 #[.nestMembers #[98]] #[{ accessFlags := 2, nameIndex := 7, descriptorIndex := 8, attributes := #[] }, { accessFlags := 9, nameIndex := 201, descriptorIndex := 335, attributes := #[] }] 49 4 #[] #[{ accessFlags := 25, nameIndex := 354, descriptorIndex := 339, attributes := #[] }, { accessFlags := 25, nameIndex := 358, descriptorIndex := 339, attributes := #[] }, { accessFlags := 25, nameIndex := 361, descriptorIndex := 339, attributes := #[] }, { accessFlags := 26, nameIndex := 364, descriptorIndex := 339, attributes := #[] }, { accessFlags := 26, nameIndex := 365, descriptorIndex := 339, attributes := #[] }, { accessFlags := 26, nameIndex := 172, descriptorIndex := 173, attributes := #[] }, { accessFlags := 26, nameIndex := 176, descriptorIndex := 173, attributes := #[] }, { accessFlags := 8, nameIndex := 344, descriptorIndex := 339, attributes := #[] }, { accessFlags := 8, nameIndex := 338, descriptorIndex := 339, attributes := #[] }, { accessFlags := 4120, nameIndex := 245, descriptorIndex := 246, attributes := #[] }])
  fields := #[{ name := "E", type := .double, accessFlags := 25, slot := 0, constantValue := 0 }, { name := "PI", type := .double, accessFlags := 25, slot := 1, constantValue := 0 }, { name := "TAU", type := .double, accessFlags := 25, slot := 2, constantValue := 0 }, { name := "DEGREES_TO_RADIANS", type := .double, accessFlags := 26, slot := 3, constantValue := 0 }, { name := "RADIANS_TO_DEGREES", type := .double, accessFlags := 26, slot := 4, constantValue := 0 }, { name := "negativeZeroFloatBits", type := .long, accessFlags := 26, slot := 5, constantValue := 0 }, { name := "negativeZeroDoubleBits", type := .long, accessFlags := 26, slot := 6, constantValue := 0 }, { name := "twoToTheDoubleScaleUp", type := .double, accessFlags := 8, slot := 7, constantValue := 0 }, { name := "twoToTheDoubleScaleDown", type := .double, accessFlags := 8, slot := 8, constantValue := 0 }, { name := "$assertionsDisabled", type := .boolean, accessFlags := 4120, slot := 9, constantValue := 0 }]
  methods := #[k2m0, k2m1]
  instanceTypes := #[]
  staticTypes := #[.double, .double, .double, .double, .double, .long, .long, .double, .double, .boolean]
  resolved := Array.replicate 460 none
  statics := none }

def pool3 : Array CpInfo := pool [(1, .methodref 2 3), (0, .class_ 4), (0, .nameAndType 5 6), (0, u "java/lang/Object"), (0, u "<init>"), (0, u "()V"), (0, .fieldref 8 9), (0, .class_ 10), (0, .nameAndType 11 12), (0, u "com/example/plinth/plinth/SourceText"), (0, u "chars"), (0, u "[C"), (0, .fieldref 8 14), (0, .nameAndType 15 16), (0, u "begin"), (0, u "I"), (0, .fieldref 8 18), (0, .nameAndType 19 16), (0, u "end"), (66, u "()[C"), (3, u "()I"), (3, u "([CII)V")] 64

def k3c0 : Code := { maxStack := 2, maxLocals := 4, code := prog_456_method_1_code, exceptionTable := #[], attributes := #[] }
def k3m0 : Method := { name := "<init>", desc := "([CII)V", sig := { parameters := [(.array .char), .int, .int], returnType := none }, accessFlags := 0, code := some k3c0 }
def k3c1 : Code := { maxStack := 1, maxLocals := 1, code := prog_456_method_3_code, exceptionTable := #[], attributes := #[] }
def k3m1 : Method := { name := "chars", desc := "()[C", sig := { parameters := [], returnType := some (.array .char) }, accessFlags := 0, code := some k3c1 }
def k3c2 : Code := { maxStack := 1, maxLocals := 1, code := prog_456_method_5_code, exceptionTable := #[], attributes := #[] }
def k3m2 : Method := { name := "end", desc := "()I", sig := { parameters := [], returnType := some .int }, accessFlags := 0, code := some k3c2 }
/-- com/example/plinth/plinth/SourceText -/
def k3 : Class := { plain "com/example/plinth/plinth/SourceText" (some 0) with
  accessFlags := 48
  interfaces := #[]
  cf := some (fileOf pool3 8 #[] #[{ accessFlags := 0, nameIndex := 5, descriptorIndex := 94, attributes := #[] }, { accessFlags := 0, nameIndex := 11, descriptorIndex := 86, attributes := #[] }, { accessFlags := 0, nameIndex := 19, descriptorIndex := 90, attributes := #[] }] 48 2 #[] #[{ accessFlags := 18, nameIndex := 11, descriptorIndex := 12, attributes := #[] }, { accessFlags := 18, nameIndex := 15, descriptorIndex := 16, attributes := #[] }, { accessFlags := 18, nameIndex := 19, descriptorIndex := 16, attributes := #[] }])
  fields := #[{ name := "chars", type := (.array .char), accessFlags := 18, slot := 0, constantValue := 0 }, { name := "begin", type := .int, accessFlags := 18, slot := 1, constantValue := 0 }, { name := "end", type := .int, accessFlags := 18, slot := 2, constantValue := 0 }]
  methods := #[k3m0, k3m1, k3m2]
  instanceTypes := #[(.array .char), .int, .int]
  staticTypes := #[]
  resolved := Array.replicate 159 none
  statics := none }

def pool4 : Array CpInfo := pool [(1, .class_ 2), (0, u "java/lang/AutoCloseable"), (0, .class_ 4), (0, u "java/lang/Object")] 7

/-- java/lang/AutoCloseable -/
def k4 : Class := { plain "java/lang/AutoCloseable" (some 0) with
  accessFlags := 1537
  interfaces := #[]
  cf := some (fileOf pool4 1 #[] #[] 1537 3 #[] #[])
  fields := #[]
  methods := #[]
  instanceTypes := #[]
  staticTypes := #[]
  resolved := Array.replicate 12 none
  statics := none }

def pool5 : Array CpInfo := pool [(2, .class_ 4), (1, u "java/lang/Object"), (3, .class_ 10), (1, u "com/example/plinth/plinth/XmlParser"), (0, u "line"), (0, u "I"), (2, u "text"), (0, u "Lcom/example/plinth/plinth/SourceText;"), (2, u "xml"), (0, u "Ljavax/xml/stream/XMLStreamReader;"), (2, u "refusal"), (0, u "Ljava/lang/String;"), (1, .class_ 28), (1, u "com/example/plinth/plinth/SourceText"), (1, u "()I"), (2, u "lineStart"), (34, .methodref 26 69), (0, .nameAndType 70 71), (0, u "chars"), (0, u "()[C"), (0, .methodref 26 73), (0, .nameAndType 74 30), (0, u "end"), (25, u "skipWhitespace"), (0, u "(Lcom/example/plinth/plinth/SourceText;I)I"), (285, u "QUOTED"), (0, u "Ljava/util/regex/Pattern;"), (54, .methodref 8 444), (0, .nameAndType 445 446), (0, u "isWhitespace"), (0, u "(C)Z"), (13, .class_ 461), (0, u "java/lang/AutoCloseable"), (0, u "DOCTYPE"), (1, u "READ_AHEAD"), (1, u "BINDING_KEY"), (0, u "RAW_NAME"), (0, u "MESSAGE_LOCALE"), (0, u "REFUSE_DOCTYPE"), (0, u "LIMIT_CODE")] 73

def k5c0 : Code := { maxStack := 2, maxLocals := 1, code := prog_475_method_20_code, exceptionTable := #[], attributes := #[] }
def k5m0 : Method := { name := "isWhitespace", desc := "(C)Z", sig := { parameters := [.char], returnType := some .boolean }, accessFlags := 10, code := some k5c0 }
def k5c1 : Code := { maxStack := 2, maxLocals := 3, code := prog_475_method_22_code, exceptionTable := #[], attributes := #[] }
def k5m1 : Method := { name := "skipWhitespace", desc := "(Lcom/example/plinth/plinth/SourceText;I)I", sig := { parameters := [(.object "com/example/plinth/plinth/SourceText"), .int], returnType := some .int }, accessFlags := 8, code := some k5c1 }
/-- com/example/plinth/plinth/XmlParser -/
def k5 : Class := { plain "com/example/plinth/plinth/XmlParser" (some 0) with
  accessFlags := 48
  interfaces := #[4]
  cf := some (fileOf pool5 8 #[] #[{ accessFlags := 10, nameIndex := 445, descriptorIndex := 446, attributes := #[] }, { accessFlags := 8, nameIndex := 100, descriptorIndex := 101, attributes := #[] }] 48 2 #[460] #[{ accessFlags := 26, nameIndex := 462, descriptorIndex := 24, attributes := #[] }, { accessFlags := 26, nameIndex := 464, descriptorIndex := 12, attributes := #[] }, { accessFlags := 26, nameIndex := 466, descriptorIndex := 24, attributes := #[] }, { accessFlags := 26, nameIndex := 467, descriptorIndex := 24, attributes := #[] }, { accessFlags := 26, nameIndex := 468, descriptorIndex := 24, attributes := #[] }, { accessFlags := 26, nameIndex := 469, descriptorIndex := 24, attributes := #[] }, { accessFlags := 26, nameIndex := 470, descriptorIndex := 24, attributes := #[] }, { accessFlags := 26, nameIndex := 387, descriptorIndex := 388, attributes := #[] }, { accessFlags := 18, nameIndex := 15, descriptorIndex := 16, attributes := #[] }, { accessFlags := 18, nameIndex := 19, descriptorIndex := 20, attributes := #[] }, { accessFlags := 18, nameIndex := 23, descriptorIndex := 24, attributes := #[] }, { accessFlags := 2, nameIndex := 11, descriptorIndex := 12, attributes := #[] }, { accessFlags := 2, nameIndex := 33, descriptorIndex := 12, attributes := #[] }])
  fields := #[{ name := "DOCTYPE", type := (.object "java/lang/String"), accessFlags := 26, slot := 0, constantValue := 0 }, { name := "READ_AHEAD", type := .int, accessFlags := 26, slot := 1, constantValue := 0 }, { name := "BINDING_KEY", type := (.object "java/lang/String"), accessFlags := 26, slot := 2, constantValue := 0 }, { name := "RAW_NAME", type := (.object "java/lang/String"), accessFlags := 26, slot := 3, constantValue := 0 }, { name := "MESSAGE_LOCALE", type := (.object "java/lang/String"), accessFlags := 26, slot := 4, constantValue := 0 }, { name := "REFUSE_DOCTYPE", type := (.object "java/lang/String"), accessFlags := 26, slot := 5, constantValue := 0 }, { name := "LIMIT_CODE", type := (.object "java/lang/String"), accessFlags := 26, slot := 6, constantValue := 0 }, { name := "QUOTED", type := (.object "java/util/regex/Pattern"), accessFlags := 26, slot := 7, constantValue := 0 }, { name := "text", type := (.object "com/example/plinth/plinth/SourceText"), accessFlags := 18, slot := 0, constantValue := 0 }, { name := "xml", type := (.object "javax/xml/stream/XMLStreamReader"), accessFlags := 18, slot := 1, constantValue := 0 }, { name := "refusal", type := (.object "java/lang/String"), accessFlags := 18, slot := 2, constantValue := 0 }, { name := "line", type := .int, accessFlags := 2, slot := 3, constantValue := 0 }, { name := "lineStart", type := .int, accessFlags := 2, slot := 4, constantValue := 0 }]
  methods := #[k5m0, k5m1]
  instanceTypes := #[(.object "com/example/plinth/plinth/SourceText"), (.object "javax/xml/stream/XMLStreamReader"), (.object "java/lang/String"), .int, .int]
  staticTypes := #[(.object "java/lang/String"), .int, (.object "java/lang/String"), (.object "java/lang/String"), (.object "java/lang/String"), (.object "java/lang/String"), (.object "java/lang/String"), (.object "java/util/regex/Pattern")]
  resolved := Array.replicate 544 none
  statics := none }

def pool6 : Array CpInfo := pool [(1, u "java/lang/Cloneable"), (0, .class_ 1), (0, u "java/lang/Object"), (0, .class_ 3)] 3

/-- java/lang/Cloneable -/
def k6 : Class := { plain "java/lang/Cloneable" (some 0) with
  accessFlags := 1537
  interfaces := #[]
  cf := some (fileOf pool6 2 #[] #[] 1537 4 #[] #[])
  fields := #[]
  methods := #[]
  instanceTypes := #[]
  staticTypes := #[]
  resolved := Array.replicate 8 none
  statics := none }

def pool7 : Array CpInfo := pool [(1, u "java/io/Serializable"), (0, .class_ 1), (0, u "java/lang/Object"), (0, .class_ 3)] 3

/-- java/io/Serializable -/
def k7 : Class := { plain "java/io/Serializable" (some 0) with
  accessFlags := 1537
  interfaces := #[]
  cf := some (fileOf pool7 2 #[] #[] 1537 4 #[] #[])
  fields := #[]
  methods := #[]
  instanceTypes := #[]
  staticTypes := #[]
  resolved := Array.replicate 8 none
  statics := none }

/-- the primitive byte -/
def k8 : Class := { plain "byte" none with kind := .primitive 'B', accessFlags := 0x411 }
/-- [B -/
def k9 : Class := { plain "[B" (some 0) with kind := .array 8 .byte, interfaces := #[6, 7], accessFlags := 1041 }

/-- the primitive char -/
def k10 : Class := { plain "char" none with kind := .primitive 'C', accessFlags := 0x411 }
/-- [C -/
def k11 : Class := { plain "[C" (some 0) with kind := .array 10 .char, interfaces := #[6, 7], accessFlags := 1041 }

/-- the primitive int -/
def k12 : Class := { plain "int" none with kind := .primitive 'I', accessFlags := 0x411 }
/-- [I -/
def k13 : Class := { plain "[I" (some 0) with kind := .array 12 .int, interfaces := #[6, 7], accessFlags := 1041 }

def heap : Heap := #[]
def classes : Array Class := #[k0, k1, k2, k3, k4, k5, k6, k7, k8, k9, k10, k11, k12, k13]
def interned : List (Array UInt16 × Addr) := []
def slotsUsed : Nat := 0
def theMethod : MethodId := ⟨1, 3⟩
def args0 : Array Value := #[.int 5, .int 300, .int 7, .int 9, .int 11]
def aboutOver (below : List Frame) : State where
  vm := { classes := classes, interned := interned.toArray }
  heap := heap
  slotsUsed := slotsUsed
  threads := #[{ frames := .invoking theMethod args0 :: below }]
def below0 : List Frame := [.native { method := ⟨0, 0⟩, args := #[] }]
def about1 : State := aboutOver below0
def p0 : Program := .bare "" "" ""
def e0 : Env := launch0.env 0 0 0
theorem w_frames : about1.frames = Frame.invoking theMethod args0 :: below0 := rfl
set_option maxRecDepth 65536 in
theorem w_args : argsFit about1.vm theMethod args0 = true := by decide +kernel
set_option maxRecDepth 65536 in
theorem w_heap : heapFits about1 = true := by decide +kernel
set_option maxRecDepth 65536 in
theorem w_runnable : about1.curStatus? = some .runnable := by decide +kernel
set_option maxRecDepth 65536 in
theorem w_alone : about1.alone = true := by decide +kernel
set_option maxRecDepth 65536 in
theorem w_named : about1.methodNamed? x = some theMethod := by decide +kernel
set_option maxRecDepth 65536 in
theorem w_hears : about1.hears theMethod below0 = true := by decide +kernel
set_option maxRecDepth 65536 in
theorem w_ripe : about1.ripe theMethod args0 below0 = true := by decide +kernel
theorem w_running : about1.status = .running := rfl
set_option maxRecDepth 65536 in
theorem w_room : about1.hasRoom e0.platform room_1 = true :=
  launch0.hasRoom_least _ room_1 (by decide +kernel) (by decide +kernel) (by decide +kernel) (by decide +kernel) (by decide +kernel) (by decide +kernel)
theorem allAtoms_all (ts : List Jvm.Cond) (a : Array Jvm.Value) (st : Jvm.State) : (allAtoms ts).before a st = ts.all (fun c => c.before a st) := by
  induction ts with
  | nil => rfl
  | cons c t ih =>
    show (Jvm.Cond.and c (allAtoms t)).before a st = _
    rw [Jvm.Cond.before_and, ih, List.all_cons]
def words1 : List Jvm.Cond := Jvm.Cond.code x code maxLocals ret :: tables_1
/-- a 'code' word, met by the world's own term for the bytes: nothing is compared byte by byte -/
theorem code_word {y : MethodName} {bytes : ByteArray} {mx : Nat} {rt : Option FieldType} {a : Array Value} {s : State} {m : MethodId} {meth : Method} {c : Code} (h1 : s.methodNamed? y = some m) (h2 : s.vm.method? m = some meth) (h3 : meth.code = some c) (h4 : c.code = bytes)
    (h5 : (c.maxLocals == mx && c.exceptionTable.isEmpty && decide (c.maxStack ≤ mostOperands) && decide (meth.sig.returnType = rt) && !meth.locks && decide (parseMethodDescriptor y.desc = some meth.sig)) = true) : (Jvm.Cond.code y bytes mx rt).before a s = true := by
  simp only [Bool.and_eq_true, beq_iff_eq, Bool.not_eq_true', decide_eq_true_eq] at h5
  obtain ⟨⟨⟨⟨⟨g1, g2⟩, g3⟩, g4⟩, g5⟩, g6⟩ := h5
  simp [Cond.before, Cond.holds, Cond.value, h1, h2, h3, h4, g1, g2, g3, g4, g5, g6]
def isCode : Jvm.Cond → Bool
  | .code _ _ _ _ => true
  | _ => false
theorem all_split {L : List Jvm.Cond} {P : Jvm.Cond → Bool} (h1 : L.all (fun c => isCode c || P c) = true) (h2 : ∀ c ∈ L.filter isCode, P c = true) : L.all P = true := by
  refine List.all_eq_true.mpr fun c hc => ?_
  have h := List.all_eq_true.mp h1 c hc
  rcases Bool.eq_false_or_eq_true (isCode c) with hi | hi
  · exact h2 c (List.mem_filter.mpr ⟨hc, hi⟩)
  · simpa [hi] using h
set_option maxRecDepth 65536 in
theorem w_c0 : (Jvm.Cond.code x code maxLocals ret).before args0 about1 = true := code_word (m := ⟨1, 3⟩) (meth := k1m3) (c := k1c3) (by decide +kernel) rfl rfl rfl (by decide +kernel)
set_option maxRecDepth 65536 in
theorem w_c1 : (Jvm.Cond.code ({ cls := "com/example/plinth/plinth/XmlParserSkipWhitespacePinLaw", name := "draw", desc := "(I)C" } : Jvm.MethodName) method_2_code (2 : Nat) (Option.some Jvm.ClassFile.FieldType.char)).before args0 about1 = true := code_word (m := ⟨1, 1⟩) (meth := k1m1) (c := k1c1) (by decide +kernel) rfl rfl rfl (by decide +kernel)
set_option maxRecDepth 65536 in
theorem w_c2 : (Jvm.Cond.code ({ cls := "java/lang/Math", name := "min", desc := "(II)I" } : Jvm.MethodName) jdk_29_method_69_code (2 : Nat) (Option.some Jvm.ClassFile.FieldType.int)).before args0 about1 = true := code_word (m := ⟨2, 1⟩) (meth := k2m1) (c := k2c1) (by decide +kernel) rfl rfl rfl (by decide +kernel)
set_option maxRecDepth 65536 in
theorem w_c3 : (Jvm.Cond.code ({ cls := "com/example/plinth/plinth/SourceText", name := "<init>", desc := "([CII)V" } : Jvm.MethodName) prog_456_method_1_code (4 : Nat) (Option.none : Option Jvm.ClassFile.FieldType)).before args0 about1 = true := code_word (m := ⟨3, 0⟩) (meth := k3m0) (c := k3c0) (by decide +kernel) rfl rfl rfl (by decide +kernel)
set_option maxRecDepth 65536 in
theorem w_c4 : (Jvm.Cond.code ({ cls := "java/lang/Object", name := "<init>", desc := "()V" } : Jvm.MethodName) object_method_1_code (1 : Nat) (Option.none : Option Jvm.ClassFile.FieldType)).before args0 about1 = true := code_word (m := ⟨0, 0⟩) (meth := k0m0) (c := k0c0) (by decide +kernel) rfl rfl rfl (by decide +kernel)
set_option maxRecDepth 65536 in
theorem w_c5 : (Jvm.Cond.code ({ cls := "com/example/plinth/plinth/XmlParser", name := "skipWhitespace", desc := "(Lcom/example/plinth/plinth/SourceText;I)I" } : Jvm.MethodName) prog_475_method_22_code (3 : Nat) (Option.some Jvm.ClassFile.FieldType.int)).before args0 about1 = true := code_word (m := ⟨5, 1⟩) (meth := k5m1) (c := k5c1) (by decide +kernel) rfl rfl rfl (by decide +kernel)
set_option maxRecDepth 65536 in
theorem w_c6 : (Jvm.Cond.code ({ cls := "com/example/plinth/plinth/SourceText", name := "end", desc := "()I" } : Jvm.MethodName) prog_456_method_5_code (1 : Nat) (Option.some Jvm.ClassFile.FieldType.int)).before args0 about1 = true := code_word (m := ⟨3, 2⟩) (meth := k3m2) (c := k3c2) (by decide +kernel) rfl rfl rfl (by decide +kernel)
set_option maxRecDepth 65536 in
theorem w_c7 : (Jvm.Cond.code ({ cls := "com/example/plinth/plinth/SourceText", name := "chars", desc := "()[C" } : Jvm.MethodName) prog_456_method_3_code (1 : Nat) (Option.some (Jvm.ClassFile.FieldType.array Jvm.ClassFile.FieldType.char))).before args0 about1 = true := code_word (m := ⟨3, 1⟩) (meth := k3m1) (c := k3c1) (by decide +kernel) rfl rfl rfl (by decide +kernel)
set_option maxRecDepth 65536 in
theorem w_c8 : (Jvm.Cond.code ({ cls := "com/example/plinth/plinth/XmlParser", name := "isWhitespace", desc := "(C)Z" } : Jvm.MethodName) prog_475_method_20_code (1 : Nat) (Option.some Jvm.ClassFile.FieldType.boolean)).before args0 about1 = true := code_word (m := ⟨5, 0⟩) (meth := k5m0) (c := k5c0) (by decide +kernel) rfl rfl rfl (by decide +kernel)
set_option maxRecDepth 65536 in
theorem w_c9 : (Jvm.Cond.code ({ cls := "com/example/plinth/plinth/XmlParserSkipWhitespacePinLaw", name := "ws", desc := "(C)Z" } : Jvm.MethodName) method_3_code (1 : Nat) (Option.some Jvm.ClassFile.FieldType.boolean)).before args0 about1 = true := code_word (m := ⟨1, 2⟩) (meth := k1m2) (c := k1c2) (by decide +kernel) rfl rfl rfl (by decide +kernel)
def codes1 : List Jvm.Cond := [Jvm.Cond.code x code maxLocals ret, Jvm.Cond.code ({ cls := "com/example/plinth/plinth/XmlParserSkipWhitespacePinLaw", name := "draw", desc := "(I)C" } : Jvm.MethodName) method_2_code (2 : Nat) (Option.some Jvm.ClassFile.FieldType.char), Jvm.Cond.code ({ cls := "java/lang/Math", name := "min", desc := "(II)I" } : Jvm.MethodName) jdk_29_method_69_code (2 : Nat) (Option.some Jvm.ClassFile.FieldType.int), Jvm.Cond.code ({ cls := "com/example/plinth/plinth/SourceText", name := "<init>", desc := "([CII)V" } : Jvm.MethodName) prog_456_method_1_code (4 : Nat) (Option.none : Option Jvm.ClassFile.FieldType), Jvm.Cond.code ({ cls := "java/lang/Object", name := "<init>", desc := "()V" } : Jvm.MethodName) object_method_1_code (1 : Nat) (Option.none : Option Jvm.ClassFile.FieldType), Jvm.Cond.code ({ cls := "com/example/plinth/plinth/XmlParser", name := "skipWhitespace", desc := "(Lcom/example/plinth/plinth/SourceText;I)I" } : Jvm.MethodName) prog_475_method_22_code (3 : Nat) (Option.some Jvm.ClassFile.FieldType.int), Jvm.Cond.code ({ cls := "com/example/plinth/plinth/SourceText", name := "end", desc := "()I" } : Jvm.MethodName) prog_456_method_5_code (1 : Nat) (Option.some Jvm.ClassFile.FieldType.int), Jvm.Cond.code ({ cls := "com/example/plinth/plinth/SourceText", name := "chars", desc := "()[C" } : Jvm.MethodName) prog_456_method_3_code (1 : Nat) (Option.some (Jvm.ClassFile.FieldType.array Jvm.ClassFile.FieldType.char)), Jvm.Cond.code ({ cls := "com/example/plinth/plinth/XmlParser", name := "isWhitespace", desc := "(C)Z" } : Jvm.MethodName) prog_475_method_20_code (1 : Nat) (Option.some Jvm.ClassFile.FieldType.boolean), Jvm.Cond.code ({ cls := "com/example/plinth/plinth/XmlParserSkipWhitespacePinLaw", name := "ws", desc := "(C)Z" } : Jvm.MethodName) method_3_code (1 : Nat) (Option.some Jvm.ClassFile.FieldType.boolean)]
set_option maxRecDepth 65536 in
theorem codes_eq : words1.filter isCode = codes1 := rfl
theorem w_codes : ∀ c ∈ words1.filter isCode, c.before args0 about1 = true := by
  rw [codes_eq]
  intro c hc
  simp only [codes1, List.mem_cons, List.not_mem_nil, or_false] at hc
  rcases hc with rfl | rfl | rfl | rfl | rfl | rfl | rfl | rfl | rfl | rfl
  · exact w_c0
  · exact w_c1
  · exact w_c2
  · exact w_c3
  · exact w_c4
  · exact w_c5
  · exact w_c6
  · exact w_c7
  · exact w_c8
  · exact w_c9
set_option maxRecDepth 65536 in
theorem w_t1 : (words1.take 24).all (fun c => isCode c || c.before args0 about1) = true := by decide +kernel
set_option maxRecDepth 65536 in
theorem w_t2 : (words1.drop 24).all (fun c => isCode c || c.before args0 about1) = true := by decide +kernel
theorem w_tables : (allAtoms (Jvm.Cond.code x code maxLocals ret :: tables_1)).before args0 about1 = true := by
  rw [allAtoms_all]
  show words1.all (fun c => c.before args0 about1) = true
  refine all_split ?_ w_codes
  rw [← List.take_append_drop 24 words1, List.all_append, w_t1, w_t2]
  rfl
set_option maxRecDepth 65536 in
theorem w_case : (Jvm.Cond.and given_1 narrow_1).before args0 about1 = true := by decide +kernel
theorem w_applies : (headSpec (Jvm.Cond.code x code maxLocals ret :: tables_1) room_1).applies x e0.platform about1 = true :=
  (Spec.applies_iff w_frames).mpr ⟨w_running, w_runnable, w_alone, w_named, w_hears, w_ripe, w_room, w_tables⟩
theorem atStart : AtStart classFile x code maxLocals ret World_1 tables_1 room_1 Calls_1 rest_1 Pre_1 launch0 p0 e0 about1 theMethod args0 below0 :=
  ⟨lists_1, trivial, launch0.admits_env _ _ _, launch0.least_env, fairChoices_fair.cas, fairChoices_fair.clock, w_frames, w_args, w_heap, w_applies, trivial, trivial, w_case⟩
end start1
theorem witness_1 : WitnessClaimed_1 := ⟨start1.p0, start1.e0, start1.about1, start1.theMethod, start1.args0, start1.below0, start1.atStart⟩
end Jvm.Pilot.@@N@@
