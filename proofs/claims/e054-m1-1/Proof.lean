import JvmDerived
import JvmDerived.Pilot.@@N@@Statement
import JvmDerived.Pilot.@@N@@Code
set_option linter.unusedVariables false
set_option linter.unusedSimpArgs false
@@BLOCK:NumsL.lean.txt@@
namespace Jvm.RoadKit
open Sem ClassFile Op Lib Jvm.Stand Jvm.Free Jvm.LawKit
section New
variable {p : Program} {l : Launch} {e : Env} {R : Room} {s : State} {m : MethodId} {args : Array Value} {below : List Frame} {meth : Method} {c : Code} {T : State} {locs : List Loc} {cells slots : Nat}
theorem retI (X : Stand p l e R s m args below meth c T locs cells slots) (hx : p.tables.exec = Jvm.exec) {pc : Nat} {Ls : Array Slot} {z : Int32} {rest : List Value} (hret : meth.sig.returnType = some .int) (hd : decode c.code pc = .ok (.ireturn, 1)) {fs : List Frame}
    (hl : ∀ (f : JFrame) (acts : List Action), f.method = m → f.locked = none → f.entered = [] → (doReturn e (T.setTop f) acts (some (.int z))).1 = T.setFrames fs) : Steps p.tables e below (T.setTop (mkF m pc Ls (.int z :: rest))) (T.setFrames fs) := by
  have hm' : T.vm.method? m = some meth := X.method'
  have hn : narrow .int (.int z) = .int z := rfl
  show Steps p.tables e below (T.setTop { method := m, pc := pc, locals := Ls, stack := _ :: rest, locked := none }) _
  jvm_step X.here [X.here.top, hx, hd, hm', hret, hn]
  first | (intro acts; rw [hl _ acts rfl rfl rfl]) | rw [hl _ _ rfl rfl rfl]
  exact Steps.refl _
end New
end Jvm.RoadKit
namespace Jvm.Pilot.@@N@@
open Jvm Jvm.ClassFile Sem Op Lib Jvm.Free Jvm.Stand Jvm.LawKit Jvm.RoadKit Bundle Jvm.Pilot.@@N@@.Jvm.D

theorem d1_0 : decode prog_3_method_7_code 0 = .ok (.lload_n 0, 1) := by decide +kernel
theorem d1_1 : decode prog_3_method_7_code 1 = .ok (.lconst 0, 1) := by decide +kernel
theorem d1_2 : decode prog_3_method_7_code 2 = .ok (.lcmp, 1) := by decide +kernel
theorem d1_3 : decode prog_3_method_7_code 3 = .ok (.ifCond .eq 19, 3) := by decide +kernel
theorem d1_6 : decode prog_3_method_7_code 6 = .ok (.lload_n 2, 1) := by decide +kernel
theorem d1_7 : decode prog_3_method_7_code 7 = .ok (.ldc2_w 48, 3) := by decide +kernel
theorem d1_10 : decode prog_3_method_7_code 10 = .ok (.lload_n 0, 1) := by decide +kernel
theorem d1_11 : decode prog_3_method_7_code 11 = .ok (.ldiv, 1) := by decide +kernel
theorem d1_12 : decode prog_3_method_7_code 12 = .ok (.lcmp, 1) := by decide +kernel
theorem d1_13 : decode prog_3_method_7_code 13 = .ok (.ifCond .le 9, 3) := by decide +kernel
theorem d1_16 : decode prog_3_method_7_code 16 = .ok (.ldc2_w 48, 3) := by decide +kernel
theorem d1_19 : decode prog_3_method_7_code 19 = .ok (.goto 6, 3) := by decide +kernel
theorem d1_22 : decode prog_3_method_7_code 22 = .ok (.lload_n 0, 1) := by decide +kernel
theorem d1_23 : decode prog_3_method_7_code 23 = .ok (.lload_n 2, 1) := by decide +kernel
theorem d1_24 : decode prog_3_method_7_code 24 = .ok (.lmul, 1) := by decide +kernel
theorem d1_25 : decode prog_3_method_7_code 25 = .ok (.lreturn, 1) := by decide +kernel
theorem pn_0 : plainName "com/example/hollin/hollin/base/AllocationProductPinLaw" = true := by first | (simp [plainName, overriddenIn]; done) | decide +kernel
theorem pn_1 : plainName "com/example/hollin/hollin/base/Allocation" = true := by first | (simp [plainName, overriddenIn]; done) | decide +kernel
theorem pd_1 : parseMethodDescriptor "(JJ)J" = some ⟨[.long, .long], some .long⟩ := by decide +kernel
theorem ef_0 (m : MethodId) (x0 : Int64) (x1 : Int64) (x2 : Int32) : entryFrame m #[(.long x0), (.long x1), (.int x2)] 15 = mkF m 0 #[.val (.long x0), .second, .val (.long x1), .second, .val (.int x2), .unset, .unset, .unset, .unset, .unset, .unset, .unset, .unset, .unset, .unset] [] := by first | (simp [entryFrame, mkF, argsToLocals, Value.category]; done) | rfl
theorem ef_1 (m : MethodId) (x0 : Int64) (x1 : Int64) : entryFrame m #[(.long x0), (.long x1)] 4 = mkF m 0 #[.val (.long x0), .second, .val (.long x1), .second] [] := by first | (simp [entryFrame, mkF, argsToLocals, Value.category]; done) | rfl
/-! plain -/
def own_prod (a b : Int64) : Int64 := if a = 0 then a * b else if (9223372036854775807 : Int64) / a < b then (9223372036854775807 : Int64) else a * b
def own_fit (a b p : Int64) : Int32 := if a = 0 then 1 else if p < 0 then 0 else if p / a = b then 1 else 0
theorem own_max : ((9223372036854775807 : Int64)).toInt = 9223372036854775807 := by decide
theorem own_z : (0 : Int64).toInt = 0 := by decide
theorem own_ne {a : Int64} (ha : 0 ≤ a.toInt) (h : ¬ a = 0) : 0 < a.toInt := by
  have : a.toInt ≠ 0 := fun q => h (Int64.toInt_inj.mp (by rw [q, own_z]))
  omega
theorem own_quot {x a : Int64} (hx : 0 ≤ x.toInt) (ha : 0 < a.toInt) : (x / a).toInt = x.toInt / a.toInt := by
  rw [Jvm.Kit.i64_div (by omega), Int.tdiv_eq_ediv_of_nonneg hx]
theorem own_main {a b : Int64} (ha : 0 ≤ a.toInt) (hb : 0 ≤ b.toInt) : (own_fit a b (a * b) = 0 → own_prod a b = (9223372036854775807 : Int64)) ∧ (¬ own_fit a b (a * b) = 0 → own_prod a b = a * b) := by
  by_cases h0 : a = 0
  · simp [own_fit, own_prod, h0]
  · have hA := own_ne ha h0
    have hM : (0 : Int) ≤ ((9223372036854775807 : Int64)).toInt := by rw [own_max]; omega
    have hq : ((9223372036854775807 : Int64) / a).toInt = 9223372036854775807 / a.toInt := by rw [own_quot hM hA, own_max]
    have hbl := b.toInt_lt
    by_cases h1 : (9223372036854775807 : Int64) / a < b
    · have e1 : own_prod a b = (9223372036854775807 : Int64) := by simp [own_prod, h0, h1]
      have h1' := h1
      rw [Int64.lt_iff_toInt_lt, hq] at h1'
      have hbig : 9223372036854775807 < a.toInt * b.toInt := by
        have k1 := Int.lt_mul_ediv_self_add (x := 9223372036854775807) hA
        have k2 : a.toInt * (9223372036854775807 / a.toInt + 1) ≤ a.toInt * b.toInt := Int.mul_le_mul_of_nonneg_left (by omega) (by omega)
        rw [Int.mul_add] at k2
        omega
      have e2 : own_fit a b (a * b) = 0 := by
        unfold own_fit
        rw [if_neg h0]
        by_cases hp : a * b < 0
        · rw [if_pos hp]
        · rw [if_neg hp]
          have hp' : 0 ≤ (a * b).toInt := by rw [Int64.lt_iff_toInt_lt, own_z] at hp; omega
          have hpl := (a * b).toInt_lt
          by_cases hd : a * b / a = b
          · exfalso
            have e3 : (a * b / a).toInt = (a * b).toInt / a.toInt := own_quot hp' hA
            rw [hd] at e3
            have k3 : a.toInt * ((a * b).toInt / a.toInt) ≤ (a * b).toInt := Int.mul_ediv_self_le (by omega)
            rw [← e3] at k3
            omega
          · rw [if_neg hd]
      exact ⟨fun _ => e1, fun q => absurd e2 q⟩
    · have e1 : own_prod a b = a * b := by simp [own_prod, h0, h1]
      have h1' := h1
      rw [Int64.lt_iff_toInt_lt, hq] at h1'
      have hsm : a.toInt * b.toInt ≤ 9223372036854775807 := by
        have k1 : a.toInt * b.toInt ≤ a.toInt * (9223372036854775807 / a.toInt) := Int.mul_le_mul_of_nonneg_left (by omega) (by omega)
        have k2 : a.toInt * (9223372036854775807 / a.toInt) ≤ 9223372036854775807 := Int.mul_ediv_self_le (by omega)
        omega
      have hnn : 0 ≤ a.toInt * b.toInt := Int.mul_nonneg ha hb
      have ep : (a * b).toInt = a.toInt * b.toInt := Jvm.Kit.i64_mul (by omega) (by omega)
      have e2 : own_fit a b (a * b) = 1 := by
        unfold own_fit
        rw [if_neg h0, if_neg (by rw [Int64.lt_iff_toInt_lt, own_z, ep]; omega)]
        have hd : a * b / a = b := by
          apply Int64.toInt_inj.mp
          rw [own_quot (by rw [ep]; exact hnn) hA, ep]
          exact Int.mul_ediv_cancel_left _ (by omega)
        rw [if_pos hd]
      exact ⟨fun q => (by rw [e2] at q; exact absurd q (by decide)), fun _ => e1⟩
theorem own_shift (x : Int64) (n : UInt64) : 0 ≤ (((x &&& (9223372036854775807 : Int64)).toUInt64 >>> n).toInt64).toInt := by
  have h1 : (x &&& (9223372036854775807 : Int64)).toUInt64.toNat ≤ 2 ^ 63 - 1 := by
    have e : (x &&& (9223372036854775807 : Int64)).toUInt64.toNat = (x.toBitVec &&& (9223372036854775807 : BitVec 64)).toNat := rfl
    rw [e, BitVec.toNat_and]
    exact Nat.and_le_right
  have h2 : ((x &&& (9223372036854775807 : Int64)).toUInt64 >>> n).toNat ≤ (x &&& (9223372036854775807 : Int64)).toUInt64.toNat := by
    rw [UInt64.toNat_shiftRight, Nat.shiftRight_eq_div_pow]; exact Nat.div_le_self _ _
  have e3 : (((x &&& (9223372036854775807 : Int64)).toUInt64 >>> n).toInt64).toInt = (((x &&& (9223372036854775807 : Int64)).toUInt64 >>> n).toBitVec).toInt := rfl
  have e4 : (((x &&& (9223372036854775807 : Int64)).toUInt64 >>> n).toBitVec).toNat = ((x &&& (9223372036854775807 : Int64)).toUInt64 >>> n).toNat := rfl
  rw [e3, BitVec.toInt_eq_toNat_cond, if_pos (by rw [e4]; omega)]
  omega
theorem own_div_nn {a : Int64} (ha : 0 ≤ a.toInt) (h : ¬ a = 0) : 0 ≤ ((9223372036854775807 : Int64) / a).toInt := by
  have hA := own_ne ha h
  rw [own_quot (by rw [own_max]; omega) hA, own_max]
  exact Int.ediv_nonneg (by omega) (by omega)
theorem own_div1_nn {a : Int64} (h : (1 : Int64) < a) : 0 ≤ ((9223372036854775807 : Int64) / a + (1 : Int64)).toInt := by
  have o1 : (1 : Int64).toInt = 1 := by decide
  rw [Int64.lt_iff_toInt_lt, o1] at h
  have e := own_quot (x := (9223372036854775807 : Int64)) (a := a) (by rw [own_max]; omega) (by omega)
  rw [own_max] at e
  have k0 : 0 ≤ 9223372036854775807 / a.toInt := Int.ediv_nonneg (by omega) (by omega)
  have k1 : 9223372036854775807 / a.toInt ≤ 9223372036854775807 / 2 := by
    have k2 : a.toInt * (9223372036854775807 / a.toInt) ≤ 9223372036854775807 := Int.mul_ediv_self_le (by omega)
    have k3 : 2 * (9223372036854775807 / a.toInt) ≤ a.toInt * (9223372036854775807 / a.toInt) := Int.mul_le_mul_of_nonneg_right (by omega) k0
    omega
  rw [Jvm.Kit.i64_add (by rw [e, o1]; omega) (by rw [e, o1]; omega), e, o1]
  omega

def Q1 (z : Int64) (h0 : Heap) (n0 : Nat) (v : Option Value) (h : Heap) (L : List Loc) : Prop := v = some (.long z) ∧ Fr n0 L ∧ h = h0
set_option maxRecDepth 65536 in
set_option maxHeartbeats 40000000 in
theorem rm1 (l : Launch) (Z : State) (a0 : Array Value) (hw : ∀ d ∈ tables_1, d.before a0 Z = true) (ws : List Jvm.Cond) (a b : Int64) (h0 : Heap) (n0 : Nat) (Z0 : n0 ≤ h0.size) :
    MetFree l (⟨"com/example/hollin/hollin/base/Allocation", "product", "(JJ)J"⟩ : MethodName) (head1 (Jvm.Cond.code (⟨"com/example/hollin/hollin/base/Allocation", "product", "(JJ)J"⟩ : MethodName) prog_3_method_7_code 4 (some .long) :: ws) ({ frames := 0, cells := 0, slots := 0, locals := 0 } : Room)) (fun aa U => aa = #[(.long a), (.long b)] ∧ Z.Warmed39 U.vm ∧ U.heap = h0) (fun _ _ _ _ _ => True) (fun _ U o U' => ∃ v L, o = .returned v ∧ Q1 (own_prod a b) h0 n0 v U'.heap L ∧ FrameEnd U o U' L ({ frames := 0, cells := 0, slots := 0, locals := 0 } : Room).cells ({ frames := 0, cells := 0, slots := 0, locals := 0 } : Room).slots) := by
  refine MetFree.of_bodySF (plainFor_of_name pn_1) hisR ?_
  intro p e s m args below meth c s₁ Bd hml0 hP hK
  obtain ⟨rfl, hZ, hh⟩ := hP
  have hx := Bd.exec
  have hby := Bd.bytes
  have hml : c.maxLocals = 4 := hml0
  have hown : s.vm.findClass "com/example/hollin/hollin/base/Allocation" = some m.cls := findClass_of_methodNamed Bd.named
  have hnm := (name_of_methodNamed Bd.named Bd.method).1
  have X0 : Stand p l e ({ frames := 0, cells := 0, slots := 0, locals := 0 } : Room) s m #[(.long a), (.long b)] below meth c s₁ [] 0 0 := Stand.of_body Bd
  have e0 : s₁.heap = h0 := by rw [← hh, Bd.state]; rfl
  have N0 := Fr.nil n0
  have pre0 : ∀ t, Steps p.tables e below (s₁.setTop (mkF m 0 #[.val (.long a), .second, .val (.long b), .second] [])) t → Steps p.tables e below (s₁.setTop (entryFrame m #[(.long a), (.long b)] 4)) t := fun t kt0 => castTop (ef_1 m a b) kt0

  suffices hs : ∀ t, Steps p.tables e below (s₁.setTop (mkF m 25 #[.val (.long a), .second, .val (.long b), .second] [(.long (own_prod a b))])) t → Steps p.tables e below (s₁.setTop (mkF m 0 #[.val (.long a), .second, .val (.long b), .second] [])) t by
    obtain ⟨fs, hr, hrun, hended, hW, hsame⟩ := X0.leave (v := some (.long (own_prod a b))) (fun h => by rw [Bd.returns] at h; cases h)
    refine ⟨_, _, pre0 _ (hs _ (X0.lreturnOut hx Bd.returns (hb hby d1_25) hr)), hrun, hended, _, _, rfl, ?_, ⟨_, rfl⟩, hW, hsame.mono (by decide) (by decide)⟩
    show Q1 (own_prod a b) h0 n0 _ s₁.heap _
    rw [e0]
    exact ⟨rfl, N0, rfl⟩
  intro t kt
  by_cases h0 : a = (0 : Int64)
  · have hc3 : lcmpW a (0 : Int64) = (0 : Int32) := (lw_eq _ _).mpr h0
    have ew : own_prod a b = a * b := by simp [own_prod, h0]
    rw [ew] at kt
    show Steps p.tables e below (s₁.setTop (mkF m 0 #[.val (.long a), .second, .val (.long b), .second] [])) _
    refine XS.lloadN X0.here hx rfl (hb hby d1_0) rfl ?_
    show Steps p.tables e below (s₁.setTop (mkF m 1 #[.val (.long a), .second, .val (.long b), .second] [(.long a)])) _
    refine XS.lconst X0.here hx rfl (hb hby d1_1) ?_
    show Steps p.tables e below (s₁.setTop (mkF m 2 #[.val (.long a), .second, .val (.long b), .second] [(.long (0 : Int64)), (.long a)])) _
    refine XS.lcmp X0.here hx rfl (hb hby d1_2) rfl ?_
    show Steps p.tables e below (s₁.setTop (mkF m 3 #[.val (.long a), .second, .val (.long b), .second] [(.int (lcmpW a (0 : Int64)))])) _
    refine XS.ifYes X0.here hx rfl (pc0 := 3) (pc' := 22) rfl (hb hby d1_3) rfl ((if0 _ _).trans (teq hc3).1) (by decide) (by decide) ?_
    show Steps p.tables e below (s₁.setTop (mkF m 22 #[.val (.long a), .second, .val (.long b), .second] [])) _
    refine XS.lloadN X0.here hx rfl (hb hby d1_22) rfl ?_
    show Steps p.tables e below (s₁.setTop (mkF m 23 #[.val (.long a), .second, .val (.long b), .second] [(.long a)])) _
    refine XS.lloadN X0.here hx rfl (hb hby d1_23) rfl ?_
    show Steps p.tables e below (s₁.setTop (mkF m 24 #[.val (.long a), .second, .val (.long b), .second] [(.long b), (.long a)])) _
    refine XS.lmul X0.here hx rfl (hb hby d1_24) rfl ?_
    exact kt
  · have hc3 : ¬ (lcmpW a (0 : Int64) = (0 : Int32)) := fun q => h0 ((lw_eq _ _).mp q)
    by_cases h1 : (9223372036854775807 : Int64) / a < b
    · have hc13 : (0 : Int32) < lcmpW b ((9223372036854775807 : Int64) / a) := (lw_gt _ _).mpr h1
      have ew : own_prod a b = (9223372036854775807 : Int64) := by simp [own_prod, h0, h1]
      rw [ew] at kt
      show Steps p.tables e below (s₁.setTop (mkF m 0 #[.val (.long a), .second, .val (.long b), .second] [])) _
      refine XS.lloadN X0.here hx rfl (hb hby d1_0) rfl ?_
      show Steps p.tables e below (s₁.setTop (mkF m 1 #[.val (.long a), .second, .val (.long b), .second] [(.long a)])) _
      refine XS.lconst X0.here hx rfl (hb hby d1_1) ?_
      show Steps p.tables e below (s₁.setTop (mkF m 2 #[.val (.long a), .second, .val (.long b), .second] [(.long (0 : Int64)), (.long a)])) _
      refine XS.lcmp X0.here hx rfl (hb hby d1_2) rfl ?_
      show Steps p.tables e below (s₁.setTop (mkF m 3 #[.val (.long a), .second, .val (.long b), .second] [(.int (lcmpW a (0 : Int64)))])) _
      refine XS.ifNo X0.here hx rfl (hb hby d1_3) rfl ((if0 _ _).trans (feq hc3).1) ?_
      show Steps p.tables e below (s₁.setTop (mkF m 6 #[.val (.long a), .second, .val (.long b), .second] [])) _
      refine XS.lloadN X0.here hx rfl (hb hby d1_6) rfl ?_
      show Steps p.tables e below (s₁.setTop (mkF m 7 #[.val (.long a), .second, .val (.long b), .second] [(.long b)])) _
      refine X0.ldc2J hx hown (mvT hZ (hw _ (List.mem_of_getElem? (i := 5) rfl))) rfl (hb hby d1_7) ?_
      show Steps p.tables e below (s₁.setTop (mkF m 10 #[.val (.long a), .second, .val (.long b), .second] [(.long (9223372036854775807 : Int64)), (.long b)])) _
      refine XS.lloadN X0.here hx rfl (hb hby d1_10) rfl ?_
      show Steps p.tables e below (s₁.setTop (mkF m 11 #[.val (.long a), .second, .val (.long b), .second] [(.long a), (.long (9223372036854775807 : Int64)), (.long b)])) _
      refine XS.ldiv X0.here hx rfl (hb hby d1_11) rfl h0 ?_
      show Steps p.tables e below (s₁.setTop (mkF m 12 #[.val (.long a), .second, .val (.long b), .second] [(.long ((9223372036854775807 : Int64) / a)), (.long b)])) _
      refine XS.lcmp X0.here hx rfl (hb hby d1_12) rfl ?_
      show Steps p.tables e below (s₁.setTop (mkF m 13 #[.val (.long a), .second, .val (.long b), .second] [(.int (lcmpW b ((9223372036854775807 : Int64) / a)))])) _
      refine XS.ifNo X0.here hx rfl (hb hby d1_13) rfl ((if0 _ _).trans (tlt hc13).2.2.2) ?_
      show Steps p.tables e below (s₁.setTop (mkF m 16 #[.val (.long a), .second, .val (.long b), .second] [])) _
      refine X0.ldc2J hx hown (mvT hZ (hw _ (List.mem_of_getElem? (i := 5) rfl))) rfl (hb hby d1_16) ?_
      show Steps p.tables e below (s₁.setTop (mkF m 19 #[.val (.long a), .second, .val (.long b), .second] [(.long (9223372036854775807 : Int64))])) _
      refine XS.goto X0.here hx rfl (pc0 := 19) (pc' := 25) rfl (hb hby d1_19) (by decide) (by decide) ?_
      exact kt
    · have hc13 : ¬ ((0 : Int32) < lcmpW b ((9223372036854775807 : Int64) / a)) := fun q => h1 ((lw_gt _ _).mp q)
      have ew : own_prod a b = a * b := by simp [own_prod, h0, h1]
      rw [ew] at kt
      show Steps p.tables e below (s₁.setTop (mkF m 0 #[.val (.long a), .second, .val (.long b), .second] [])) _
      refine XS.lloadN X0.here hx rfl (hb hby d1_0) rfl ?_
      show Steps p.tables e below (s₁.setTop (mkF m 1 #[.val (.long a), .second, .val (.long b), .second] [(.long a)])) _
      refine XS.lconst X0.here hx rfl (hb hby d1_1) ?_
      show Steps p.tables e below (s₁.setTop (mkF m 2 #[.val (.long a), .second, .val (.long b), .second] [(.long (0 : Int64)), (.long a)])) _
      refine XS.lcmp X0.here hx rfl (hb hby d1_2) rfl ?_
      show Steps p.tables e below (s₁.setTop (mkF m 3 #[.val (.long a), .second, .val (.long b), .second] [(.int (lcmpW a (0 : Int64)))])) _
      refine XS.ifNo X0.here hx rfl (hb hby d1_3) rfl ((if0 _ _).trans (feq hc3).1) ?_
      show Steps p.tables e below (s₁.setTop (mkF m 6 #[.val (.long a), .second, .val (.long b), .second] [])) _
      refine XS.lloadN X0.here hx rfl (hb hby d1_6) rfl ?_
      show Steps p.tables e below (s₁.setTop (mkF m 7 #[.val (.long a), .second, .val (.long b), .second] [(.long b)])) _
      refine X0.ldc2J hx hown (mvT hZ (hw _ (List.mem_of_getElem? (i := 5) rfl))) rfl (hb hby d1_7) ?_
      show Steps p.tables e below (s₁.setTop (mkF m 10 #[.val (.long a), .second, .val (.long b), .second] [(.long (9223372036854775807 : Int64)), (.long b)])) _
      refine XS.lloadN X0.here hx rfl (hb hby d1_10) rfl ?_
      show Steps p.tables e below (s₁.setTop (mkF m 11 #[.val (.long a), .second, .val (.long b), .second] [(.long a), (.long (9223372036854775807 : Int64)), (.long b)])) _
      refine XS.ldiv X0.here hx rfl (hb hby d1_11) rfl h0 ?_
      show Steps p.tables e below (s₁.setTop (mkF m 12 #[.val (.long a), .second, .val (.long b), .second] [(.long ((9223372036854775807 : Int64) / a)), (.long b)])) _
      refine XS.lcmp X0.here hx rfl (hb hby d1_12) rfl ?_
      show Steps p.tables e below (s₁.setTop (mkF m 13 #[.val (.long a), .second, .val (.long b), .second] [(.int (lcmpW b ((9223372036854775807 : Int64) / a)))])) _
      refine XS.ifYes X0.here hx rfl (pc0 := 13) (pc' := 22) rfl (hb hby d1_13) rfl ((if0 _ _).trans (flt hc13).2.2.2) (by decide) (by decide) ?_
      show Steps p.tables e below (s₁.setTop (mkF m 22 #[.val (.long a), .second, .val (.long b), .second] [])) _
      refine XS.lloadN X0.here hx rfl (hb hby d1_22) rfl ?_
      show Steps p.tables e below (s₁.setTop (mkF m 23 #[.val (.long a), .second, .val (.long b), .second] [(.long a)])) _
      refine XS.lloadN X0.here hx rfl (hb hby d1_23) rfl ?_
      show Steps p.tables e below (s₁.setTop (mkF m 24 #[.val (.long a), .second, .val (.long b), .second] [(.long b), (.long a)])) _
      refine XS.lmul X0.here hx rfl (hb hby d1_24) rfl ?_
      exact kt
def own_Ld (p : Program) (e : Env) (below : List Frame) (T : State) (g : JFrame) (T' : State) (g' : JFrame) : Prop := ∀ target, Steps p.tables e below (T'.setTop g') target → Steps p.tables e below (T.setTop g) target
section Law
variable {p : Program} {l : Launch} {e : Env} {R : Room} {s : State} {m : MethodId} {args : Array Value} {below : List Frame} {meth : Method} {c : Code} {T0 : State} {locs : List Loc} {cells slots : Nat} {Z : State} {a0 : Array Value}
set_option maxRecDepth 65536 in
set_option maxHeartbeats 40000000 in
theorem own_s1 (X0 : Stand p l e R s m args below meth c T0 locs cells slots) (hx : p.tables.exec = Jvm.exec) (hZ : Z.Warmed39 s.vm) (hw : ∀ d ∈ tables_1, d.before a0 Z = true) (hby : c.code = code) (hown : s.vm.findClass "com/example/hollin/hollin/base/AllocationProductPinLaw" = some m.cls) (x y : Int64) (k : Int32) : ∃ (a b : Int64) (sel : Int32), 0 ≤ a.toInt ∧ 0 ≤ b.toInt ∧ own_Ld p e below T0 (mkF m 0 #[.val (.long x), .second, .val (.long y), .second, .val (.int k), .unset, .unset, .unset, .unset, .unset, .unset, .unset, .unset, .unset, .unset] []) T0 (mkF m 38 #[.val (.long x), .second, .val (.long y), .second, .val (.int k), .val (.long a), .second, .val (.long b), .second, .val (.int sel), .unset, .unset, .unset, .unset, .unset] []) := by
  refine ⟨((((x &&& (9223372036854775807 : Int64))).toUInt64 >>> ((k &&& (63 : Int32)) &&& 0x3f).toInt64.toUInt64).toInt64), ((((y &&& (9223372036854775807 : Int64))).toUInt64 >>> (((((k).toUInt32 >>> ((6 : Int32) &&& 31).toUInt32).toInt32) &&& (63 : Int32)) &&& 0x3f).toInt64.toUInt64).toInt64), ((((k).toUInt32 >>> ((12 : Int32) &&& 31).toUInt32).toInt32) &&& (3 : Int32)), own_shift _ _, own_shift _ _, fun t kt => ?_⟩
  show Steps p.tables e below (T0.setTop (mkF m 0 #[.val (.long x), .second, .val (.long y), .second, .val (.int k), .unset, .unset, .unset, .unset, .unset, .unset, .unset, .unset, .unset, .unset] [])) _
  refine XS.lloadN X0.here hx rfl (hb hby at_0) rfl ?_
  show Steps p.tables e below (T0.setTop (mkF m 1 #[.val (.long x), .second, .val (.long y), .second, .val (.int k), .unset, .unset, .unset, .unset, .unset, .unset, .unset, .unset, .unset, .unset] [(.long x)])) _
  refine X0.ldc2J hx hown (mvT hZ (hw _ (List.mem_of_getElem? (i := 0) rfl))) rfl (hb hby at_1) ?_
  show Steps p.tables e below (T0.setTop (mkF m 4 #[.val (.long x), .second, .val (.long y), .second, .val (.int k), .unset, .unset, .unset, .unset, .unset, .unset, .unset, .unset, .unset, .unset] [(.long (9223372036854775807 : Int64)), (.long x)])) _
  refine XS.land X0.here hx rfl (hb hby at_4) rfl ?_
  show Steps p.tables e below (T0.setTop (mkF m 5 #[.val (.long x), .second, .val (.long y), .second, .val (.int k), .unset, .unset, .unset, .unset, .unset, .unset, .unset, .unset, .unset, .unset] [(.long (x &&& (9223372036854775807 : Int64)))])) _
  refine XS.iload X0.here hx rfl (hb hby at_5) rfl ?_
  show Steps p.tables e below (T0.setTop (mkF m 7 #[.val (.long x), .second, .val (.long y), .second, .val (.int k), .unset, .unset, .unset, .unset, .unset, .unset, .unset, .unset, .unset, .unset] [(.int k), (.long (x &&& (9223372036854775807 : Int64)))])) _
  refine XS.bipush X0.here hx rfl (hb hby at_7) ?_
  show Steps p.tables e below (T0.setTop (mkF m 9 #[.val (.long x), .second, .val (.long y), .second, .val (.int k), .unset, .unset, .unset, .unset, .unset, .unset, .unset, .unset, .unset, .unset] [(.int (63 : Int32)), (.int k), (.long (x &&& (9223372036854775807 : Int64)))])) _
  refine XS.iand X0.here hx rfl (hb hby at_9) rfl ?_
  show Steps p.tables e below (T0.setTop (mkF m 10 #[.val (.long x), .second, .val (.long y), .second, .val (.int k), .unset, .unset, .unset, .unset, .unset, .unset, .unset, .unset, .unset, .unset] [(.int (k &&& (63 : Int32))), (.long (x &&& (9223372036854775807 : Int64)))])) _
  refine XS.lushr X0.here hx rfl (hb hby at_10) rfl ?_
  show Steps p.tables e below (T0.setTop (mkF m 11 #[.val (.long x), .second, .val (.long y), .second, .val (.int k), .unset, .unset, .unset, .unset, .unset, .unset, .unset, .unset, .unset, .unset] [(.long ((((x &&& (9223372036854775807 : Int64))).toUInt64 >>> ((k &&& (63 : Int32)) &&& 0x3f).toInt64.toUInt64).toInt64))])) _
  refine XS.lstore X0.here hx rfl (hb hby at_11) rfl (l' := #[.val (.long x), .second, .val (.long y), .second, .val (.int k), .val (.long ((((x &&& (9223372036854775807 : Int64))).toUInt64 >>> ((k &&& (63 : Int32)) &&& 0x3f).toInt64.toUInt64).toInt64)), .second, .unset, .unset, .unset, .unset, .unset, .unset, .unset, .unset]) rfl ?_
  show Steps p.tables e below (T0.setTop (mkF m 13 #[.val (.long x), .second, .val (.long y), .second, .val (.int k), .val (.long ((((x &&& (9223372036854775807 : Int64))).toUInt64 >>> ((k &&& (63 : Int32)) &&& 0x3f).toInt64.toUInt64).toInt64)), .second, .unset, .unset, .unset, .unset, .unset, .unset, .unset, .unset] [])) _
  refine XS.lloadN X0.here hx rfl (hb hby at_13) rfl ?_
  show Steps p.tables e below (T0.setTop (mkF m 14 #[.val (.long x), .second, .val (.long y), .second, .val (.int k), .val (.long ((((x &&& (9223372036854775807 : Int64))).toUInt64 >>> ((k &&& (63 : Int32)) &&& 0x3f).toInt64.toUInt64).toInt64)), .second, .unset, .unset, .unset, .unset, .unset, .unset, .unset, .unset] [(.long y)])) _
  refine X0.ldc2J hx hown (mvT hZ (hw _ (List.mem_of_getElem? (i := 0) rfl))) rfl (hb hby at_14) ?_
  show Steps p.tables e below (T0.setTop (mkF m 17 #[.val (.long x), .second, .val (.long y), .second, .val (.int k), .val (.long ((((x &&& (9223372036854775807 : Int64))).toUInt64 >>> ((k &&& (63 : Int32)) &&& 0x3f).toInt64.toUInt64).toInt64)), .second, .unset, .unset, .unset, .unset, .unset, .unset, .unset, .unset] [(.long (9223372036854775807 : Int64)), (.long y)])) _
  refine XS.land X0.here hx rfl (hb hby at_17) rfl ?_
  show Steps p.tables e below (T0.setTop (mkF m 18 #[.val (.long x), .second, .val (.long y), .second, .val (.int k), .val (.long ((((x &&& (9223372036854775807 : Int64))).toUInt64 >>> ((k &&& (63 : Int32)) &&& 0x3f).toInt64.toUInt64).toInt64)), .second, .unset, .unset, .unset, .unset, .unset, .unset, .unset, .unset] [(.long (y &&& (9223372036854775807 : Int64)))])) _
  refine XS.iload X0.here hx rfl (hb hby at_18) rfl ?_
  show Steps p.tables e below (T0.setTop (mkF m 20 #[.val (.long x), .second, .val (.long y), .second, .val (.int k), .val (.long ((((x &&& (9223372036854775807 : Int64))).toUInt64 >>> ((k &&& (63 : Int32)) &&& 0x3f).toInt64.toUInt64).toInt64)), .second, .unset, .unset, .unset, .unset, .unset, .unset, .unset, .unset] [(.int k), (.long (y &&& (9223372036854775807 : Int64)))])) _
  refine XS.bipush X0.here hx rfl (hb hby at_20) ?_
  show Steps p.tables e below (T0.setTop (mkF m 22 #[.val (.long x), .second, .val (.long y), .second, .val (.int k), .val (.long ((((x &&& (9223372036854775807 : Int64))).toUInt64 >>> ((k &&& (63 : Int32)) &&& 0x3f).toInt64.toUInt64).toInt64)), .second, .unset, .unset, .unset, .unset, .unset, .unset, .unset, .unset] [(.int (6 : Int32)), (.int k), (.long (y &&& (9223372036854775807 : Int64)))])) _
  refine XS.iushr X0.here hx rfl (hb hby at_22) rfl ?_
  show Steps p.tables e below (T0.setTop (mkF m 23 #[.val (.long x), .second, .val (.long y), .second, .val (.int k), .val (.long ((((x &&& (9223372036854775807 : Int64))).toUInt64 >>> ((k &&& (63 : Int32)) &&& 0x3f).toInt64.toUInt64).toInt64)), .second, .unset, .unset, .unset, .unset, .unset, .unset, .unset, .unset] [(.int (((k).toUInt32 >>> ((6 : Int32) &&& 31).toUInt32).toInt32)), (.long (y &&& (9223372036854775807 : Int64)))])) _
  refine XS.bipush X0.here hx rfl (hb hby at_23) ?_
  show Steps p.tables e below (T0.setTop (mkF m 25 #[.val (.long x), .second, .val (.long y), .second, .val (.int k), .val (.long ((((x &&& (9223372036854775807 : Int64))).toUInt64 >>> ((k &&& (63 : Int32)) &&& 0x3f).toInt64.toUInt64).toInt64)), .second, .unset, .unset, .unset, .unset, .unset, .unset, .unset, .unset] [(.int (63 : Int32)), (.int (((k).toUInt32 >>> ((6 : Int32) &&& 31).toUInt32).toInt32)), (.long (y &&& (9223372036854775807 : Int64)))])) _
  refine XS.iand X0.here hx rfl (hb hby at_25) rfl ?_
  show Steps p.tables e below (T0.setTop (mkF m 26 #[.val (.long x), .second, .val (.long y), .second, .val (.int k), .val (.long ((((x &&& (9223372036854775807 : Int64))).toUInt64 >>> ((k &&& (63 : Int32)) &&& 0x3f).toInt64.toUInt64).toInt64)), .second, .unset, .unset, .unset, .unset, .unset, .unset, .unset, .unset] [(.int ((((k).toUInt32 >>> ((6 : Int32) &&& 31).toUInt32).toInt32) &&& (63 : Int32))), (.long (y &&& (9223372036854775807 : Int64)))])) _
  refine XS.lushr X0.here hx rfl (hb hby at_26) rfl ?_
  show Steps p.tables e below (T0.setTop (mkF m 27 #[.val (.long x), .second, .val (.long y), .second, .val (.int k), .val (.long ((((x &&& (9223372036854775807 : Int64))).toUInt64 >>> ((k &&& (63 : Int32)) &&& 0x3f).toInt64.toUInt64).toInt64)), .second, .unset, .unset, .unset, .unset, .unset, .unset, .unset, .unset] [(.long ((((y &&& (9223372036854775807 : Int64))).toUInt64 >>> (((((k).toUInt32 >>> ((6 : Int32) &&& 31).toUInt32).toInt32) &&& (63 : Int32)) &&& 0x3f).toInt64.toUInt64).toInt64))])) _
  refine XS.lstore X0.here hx rfl (hb hby at_27) rfl (l' := #[.val (.long x), .second, .val (.long y), .second, .val (.int k), .val (.long ((((x &&& (9223372036854775807 : Int64))).toUInt64 >>> ((k &&& (63 : Int32)) &&& 0x3f).toInt64.toUInt64).toInt64)), .second, .val (.long ((((y &&& (9223372036854775807 : Int64))).toUInt64 >>> (((((k).toUInt32 >>> ((6 : Int32) &&& 31).toUInt32).toInt32) &&& (63 : Int32)) &&& 0x3f).toInt64.toUInt64).toInt64)), .second, .unset, .unset, .unset, .unset, .unset, .unset]) rfl ?_
  show Steps p.tables e below (T0.setTop (mkF m 29 #[.val (.long x), .second, .val (.long y), .second, .val (.int k), .val (.long ((((x &&& (9223372036854775807 : Int64))).toUInt64 >>> ((k &&& (63 : Int32)) &&& 0x3f).toInt64.toUInt64).toInt64)), .second, .val (.long ((((y &&& (9223372036854775807 : Int64))).toUInt64 >>> (((((k).toUInt32 >>> ((6 : Int32) &&& 31).toUInt32).toInt32) &&& (63 : Int32)) &&& 0x3f).toInt64.toUInt64).toInt64)), .second, .unset, .unset, .unset, .unset, .unset, .unset] [])) _
  refine XS.iload X0.here hx rfl (hb hby at_29) rfl ?_
  show Steps p.tables e below (T0.setTop (mkF m 31 #[.val (.long x), .second, .val (.long y), .second, .val (.int k), .val (.long ((((x &&& (9223372036854775807 : Int64))).toUInt64 >>> ((k &&& (63 : Int32)) &&& 0x3f).toInt64.toUInt64).toInt64)), .second, .val (.long ((((y &&& (9223372036854775807 : Int64))).toUInt64 >>> (((((k).toUInt32 >>> ((6 : Int32) &&& 31).toUInt32).toInt32) &&& (63 : Int32)) &&& 0x3f).toInt64.toUInt64).toInt64)), .second, .unset, .unset, .unset, .unset, .unset, .unset] [(.int k)])) _
  refine XS.bipush X0.here hx rfl (hb hby at_31) ?_
  show Steps p.tables e below (T0.setTop (mkF m 33 #[.val (.long x), .second, .val (.long y), .second, .val (.int k), .val (.long ((((x &&& (9223372036854775807 : Int64))).toUInt64 >>> ((k &&& (63 : Int32)) &&& 0x3f).toInt64.toUInt64).toInt64)), .second, .val (.long ((((y &&& (9223372036854775807 : Int64))).toUInt64 >>> (((((k).toUInt32 >>> ((6 : Int32) &&& 31).toUInt32).toInt32) &&& (63 : Int32)) &&& 0x3f).toInt64.toUInt64).toInt64)), .second, .unset, .unset, .unset, .unset, .unset, .unset] [(.int (12 : Int32)), (.int k)])) _
  refine XS.iushr X0.here hx rfl (hb hby at_33) rfl ?_
  show Steps p.tables e below (T0.setTop (mkF m 34 #[.val (.long x), .second, .val (.long y), .second, .val (.int k), .val (.long ((((x &&& (9223372036854775807 : Int64))).toUInt64 >>> ((k &&& (63 : Int32)) &&& 0x3f).toInt64.toUInt64).toInt64)), .second, .val (.long ((((y &&& (9223372036854775807 : Int64))).toUInt64 >>> (((((k).toUInt32 >>> ((6 : Int32) &&& 31).toUInt32).toInt32) &&& (63 : Int32)) &&& 0x3f).toInt64.toUInt64).toInt64)), .second, .unset, .unset, .unset, .unset, .unset, .unset] [(.int (((k).toUInt32 >>> ((12 : Int32) &&& 31).toUInt32).toInt32))])) _
  refine XS.iconst X0.here hx rfl (hb hby at_34) ?_
  show Steps p.tables e below (T0.setTop (mkF m 35 #[.val (.long x), .second, .val (.long y), .second, .val (.int k), .val (.long ((((x &&& (9223372036854775807 : Int64))).toUInt64 >>> ((k &&& (63 : Int32)) &&& 0x3f).toInt64.toUInt64).toInt64)), .second, .val (.long ((((y &&& (9223372036854775807 : Int64))).toUInt64 >>> (((((k).toUInt32 >>> ((6 : Int32) &&& 31).toUInt32).toInt32) &&& (63 : Int32)) &&& 0x3f).toInt64.toUInt64).toInt64)), .second, .unset, .unset, .unset, .unset, .unset, .unset] [(.int (3 : Int32)), (.int (((k).toUInt32 >>> ((12 : Int32) &&& 31).toUInt32).toInt32))])) _
  refine XS.iand X0.here hx rfl (hb hby at_35) rfl ?_
  show Steps p.tables e below (T0.setTop (mkF m 36 #[.val (.long x), .second, .val (.long y), .second, .val (.int k), .val (.long ((((x &&& (9223372036854775807 : Int64))).toUInt64 >>> ((k &&& (63 : Int32)) &&& 0x3f).toInt64.toUInt64).toInt64)), .second, .val (.long ((((y &&& (9223372036854775807 : Int64))).toUInt64 >>> (((((k).toUInt32 >>> ((6 : Int32) &&& 31).toUInt32).toInt32) &&& (63 : Int32)) &&& 0x3f).toInt64.toUInt64).toInt64)), .second, .unset, .unset, .unset, .unset, .unset, .unset] [(.int ((((k).toUInt32 >>> ((12 : Int32) &&& 31).toUInt32).toInt32) &&& (3 : Int32)))])) _
  refine XS.istore X0.here hx rfl (hb hby at_36) rfl (l' := #[.val (.long x), .second, .val (.long y), .second, .val (.int k), .val (.long ((((x &&& (9223372036854775807 : Int64))).toUInt64 >>> ((k &&& (63 : Int32)) &&& 0x3f).toInt64.toUInt64).toInt64)), .second, .val (.long ((((y &&& (9223372036854775807 : Int64))).toUInt64 >>> (((((k).toUInt32 >>> ((6 : Int32) &&& 31).toUInt32).toInt32) &&& (63 : Int32)) &&& 0x3f).toInt64.toUInt64).toInt64)), .second, .val (.int ((((k).toUInt32 >>> ((12 : Int32) &&& 31).toUInt32).toInt32) &&& (3 : Int32))), .unset, .unset, .unset, .unset, .unset]) rfl ?_
  exact kt
set_option maxRecDepth 65536 in
set_option maxHeartbeats 40000000 in
theorem own_s2 (X0 : Stand p l e R s m args below meth c T0 locs cells slots) (hx : p.tables.exec = Jvm.exec) (hZ : Z.Warmed39 s.vm) (hw : ∀ d ∈ tables_1, d.before a0 Z = true) (hby : c.code = code) (hown : s.vm.findClass "com/example/hollin/hollin/base/AllocationProductPinLaw" = some m.cls) (x y : Int64) (k : Int32) (a b : Int64) (sel : Int32) (ha : 0 ≤ a.toInt) (hb0 : 0 ≤ b.toInt) : ∃ b' : Int64, 0 ≤ b'.toInt ∧ own_Ld p e below T0 (mkF m 38 #[.val (.long x), .second, .val (.long y), .second, .val (.int k), .val (.long a), .second, .val (.long b), .second, .val (.int sel), .unset, .unset, .unset, .unset, .unset] []) T0 (mkF m 59 #[.val (.long x), .second, .val (.long y), .second, .val (.int k), .val (.long a), .second, .val (.long b'), .second, .val (.int sel), .unset, .unset, .unset, .unset, .unset] []) := by
  by_cases h1 : sel = (1 : Int32)
  · by_cases h0 : a = (0 : Int64)
    · have hc : lcmpW a (0 : Int64) = (0 : Int32) := (lw_eq _ _).mpr h0
      refine ⟨b, hb0, fun t kt => ?_⟩
      show Steps p.tables e below (T0.setTop (mkF m 38 #[.val (.long x), .second, .val (.long y), .second, .val (.int k), .val (.long a), .second, .val (.long b), .second, .val (.int sel), .unset, .unset, .unset, .unset, .unset] [])) _
      refine XS.iload X0.here hx rfl (hb hby at_38) rfl ?_
      show Steps p.tables e below (T0.setTop (mkF m 40 #[.val (.long x), .second, .val (.long y), .second, .val (.int k), .val (.long a), .second, .val (.long b), .second, .val (.int sel), .unset, .unset, .unset, .unset, .unset] [(.int sel)])) _
      refine XS.iconst X0.here hx rfl (hb hby at_40) ?_
      show Steps p.tables e below (T0.setTop (mkF m 41 #[.val (.long x), .second, .val (.long y), .second, .val (.int k), .val (.long a), .second, .val (.long b), .second, .val (.int sel), .unset, .unset, .unset, .unset, .unset] [(.int (1 : Int32)), (.int sel)])) _
      refine XS.icmpNo X0.here hx rfl (hb hby at_41) rfl (teq h1).2 ?_
      show Steps p.tables e below (T0.setTop (mkF m 44 #[.val (.long x), .second, .val (.long y), .second, .val (.int k), .val (.long a), .second, .val (.long b), .second, .val (.int sel), .unset, .unset, .unset, .unset, .unset] [])) _
      refine XS.lload X0.here hx rfl (hb hby at_44) rfl ?_
      show Steps p.tables e below (T0.setTop (mkF m 46 #[.val (.long x), .second, .val (.long y), .second, .val (.int k), .val (.long a), .second, .val (.long b), .second, .val (.int sel), .unset, .unset, .unset, .unset, .unset] [(.long a)])) _
      refine XS.lconst X0.here hx rfl (hb hby at_46) ?_
      show Steps p.tables e below (T0.setTop (mkF m 47 #[.val (.long x), .second, .val (.long y), .second, .val (.int k), .val (.long a), .second, .val (.long b), .second, .val (.int sel), .unset, .unset, .unset, .unset, .unset] [(.long (0 : Int64)), (.long a)])) _
      refine XS.lcmp X0.here hx rfl (hb hby at_47) rfl ?_
      show Steps p.tables e below (T0.setTop (mkF m 48 #[.val (.long x), .second, .val (.long y), .second, .val (.int k), .val (.long a), .second, .val (.long b), .second, .val (.int sel), .unset, .unset, .unset, .unset, .unset] [(.int (lcmpW a (0 : Int64)))])) _
      refine XS.ifYes X0.here hx rfl (pc0 := 48) (pc' := 59) rfl (hb hby at_48) rfl ((if0 _ _).trans (teq hc).1) (by decide) (by decide) ?_
      exact kt
    · have hc : ¬ (lcmpW a (0 : Int64) = (0 : Int32)) := fun q => h0 ((lw_eq _ _).mp q)
      refine ⟨((9223372036854775807 : Int64) / a), own_div_nn ha h0, fun t kt => ?_⟩
      show Steps p.tables e below (T0.setTop (mkF m 38 #[.val (.long x), .second, .val (.long y), .second, .val (.int k), .val (.long a), .second, .val (.long b), .second, .val (.int sel), .unset, .unset, .unset, .unset, .unset] [])) _
      refine XS.iload X0.here hx rfl (hb hby at_38) rfl ?_
      show Steps p.tables e below (T0.setTop (mkF m 40 #[.val (.long x), .second, .val (.long y), .second, .val (.int k), .val (.long a), .second, .val (.long b), .second, .val (.int sel), .unset, .unset, .unset, .unset, .unset] [(.int sel)])) _
      refine XS.iconst X0.here hx rfl (hb hby at_40) ?_
      show Steps p.tables e below (T0.setTop (mkF m 41 #[.val (.long x), .second, .val (.long y), .second, .val (.int k), .val (.long a), .second, .val (.long b), .second, .val (.int sel), .unset, .unset, .unset, .unset, .unset] [(.int (1 : Int32)), (.int sel)])) _
      refine XS.icmpNo X0.here hx rfl (hb hby at_41) rfl (teq h1).2 ?_
      show Steps p.tables e below (T0.setTop (mkF m 44 #[.val (.long x), .second, .val (.long y), .second, .val (.int k), .val (.long a), .second, .val (.long b), .second, .val (.int sel), .unset, .unset, .unset, .unset, .unset] [])) _
      refine XS.lload X0.here hx rfl (hb hby at_44) rfl ?_
      show Steps p.tables e below (T0.setTop (mkF m 46 #[.val (.long x), .second, .val (.long y), .second, .val (.int k), .val (.long a), .second, .val (.long b), .second, .val (.int sel), .unset, .unset, .unset, .unset, .unset] [(.long a)])) _
      refine XS.lconst X0.here hx rfl (hb hby at_46) ?_
      show Steps p.tables e below (T0.setTop (mkF m 47 #[.val (.long x), .second, .val (.long y), .second, .val (.int k), .val (.long a), .second, .val (.long b), .second, .val (.int sel), .unset, .unset, .unset, .unset, .unset] [(.long (0 : Int64)), (.long a)])) _
      refine XS.lcmp X0.here hx rfl (hb hby at_47) rfl ?_
      show Steps p.tables e below (T0.setTop (mkF m 48 #[.val (.long x), .second, .val (.long y), .second, .val (.int k), .val (.long a), .second, .val (.long b), .second, .val (.int sel), .unset, .unset, .unset, .unset, .unset] [(.int (lcmpW a (0 : Int64)))])) _
      refine XS.ifNo X0.here hx rfl (hb hby at_48) rfl ((if0 _ _).trans (feq hc).1) ?_
      show Steps p.tables e below (T0.setTop (mkF m 51 #[.val (.long x), .second, .val (.long y), .second, .val (.int k), .val (.long a), .second, .val (.long b), .second, .val (.int sel), .unset, .unset, .unset, .unset, .unset] [])) _
      refine X0.ldc2J hx hown (mvT hZ (hw _ (List.mem_of_getElem? (i := 0) rfl))) rfl (hb hby at_51) ?_
      show Steps p.tables e below (T0.setTop (mkF m 54 #[.val (.long x), .second, .val (.long y), .second, .val (.int k), .val (.long a), .second, .val (.long b), .second, .val (.int sel), .unset, .unset, .unset, .unset, .unset] [(.long (9223372036854775807 : Int64))])) _
      refine XS.lload X0.here hx rfl (hb hby at_54) rfl ?_
      show Steps p.tables e below (T0.setTop (mkF m 56 #[.val (.long x), .second, .val (.long y), .second, .val (.int k), .val (.long a), .second, .val (.long b), .second, .val (.int sel), .unset, .unset, .unset, .unset, .unset] [(.long a), (.long (9223372036854775807 : Int64))])) _
      refine XS.ldiv X0.here hx rfl (hb hby at_56) rfl h0 ?_
      show Steps p.tables e below (T0.setTop (mkF m 57 #[.val (.long x), .second, .val (.long y), .second, .val (.int k), .val (.long a), .second, .val (.long b), .second, .val (.int sel), .unset, .unset, .unset, .unset, .unset] [(.long ((9223372036854775807 : Int64) / a))])) _
      refine XS.lstore X0.here hx rfl (hb hby at_57) rfl (l' := #[.val (.long x), .second, .val (.long y), .second, .val (.int k), .val (.long a), .second, .val (.long ((9223372036854775807 : Int64) / a)), .second, .val (.int sel), .unset, .unset, .unset, .unset, .unset]) rfl ?_
      exact kt
  · refine ⟨b, hb0, fun t kt => ?_⟩
    show Steps p.tables e below (T0.setTop (mkF m 38 #[.val (.long x), .second, .val (.long y), .second, .val (.int k), .val (.long a), .second, .val (.long b), .second, .val (.int sel), .unset, .unset, .unset, .unset, .unset] [])) _
    refine XS.iload X0.here hx rfl (hb hby at_38) rfl ?_
    show Steps p.tables e below (T0.setTop (mkF m 40 #[.val (.long x), .second, .val (.long y), .second, .val (.int k), .val (.long a), .second, .val (.long b), .second, .val (.int sel), .unset, .unset, .unset, .unset, .unset] [(.int sel)])) _
    refine XS.iconst X0.here hx rfl (hb hby at_40) ?_
    show Steps p.tables e below (T0.setTop (mkF m 41 #[.val (.long x), .second, .val (.long y), .second, .val (.int k), .val (.long a), .second, .val (.long b), .second, .val (.int sel), .unset, .unset, .unset, .unset, .unset] [(.int (1 : Int32)), (.int sel)])) _
    refine XS.icmpYes X0.here hx rfl (pc0 := 41) (pc' := 59) rfl (hb hby at_41) rfl (feq h1).2 (by decide) (by decide) ?_
    exact kt
set_option maxRecDepth 65536 in
set_option maxHeartbeats 40000000 in
theorem own_s3 (X0 : Stand p l e R s m args below meth c T0 locs cells slots) (hx : p.tables.exec = Jvm.exec) (hZ : Z.Warmed39 s.vm) (hw : ∀ d ∈ tables_1, d.before a0 Z = true) (hby : c.code = code) (hown : s.vm.findClass "com/example/hollin/hollin/base/AllocationProductPinLaw" = some m.cls) (x y : Int64) (k : Int32) (a b : Int64) (sel : Int32) (ha : 0 ≤ a.toInt) (hb0 : 0 ≤ b.toInt) : ∃ b' : Int64, 0 ≤ b'.toInt ∧ own_Ld p e below T0 (mkF m 59 #[.val (.long x), .second, .val (.long y), .second, .val (.int k), .val (.long a), .second, .val (.long b), .second, .val (.int sel), .unset, .unset, .unset, .unset, .unset] []) T0 (mkF m 82 #[.val (.long x), .second, .val (.long y), .second, .val (.int k), .val (.long a), .second, .val (.long b'), .second, .val (.int sel), .unset, .unset, .unset, .unset, .unset] []) := by
  by_cases h1 : sel = (2 : Int32)
  · by_cases h0 : ¬ ((1 : Int64) < a)
    · have hc : ¬ ((0 : Int32) < lcmpW a (1 : Int64)) := fun q => h0 ((lw_gt _ _).mp q)
      refine ⟨b, hb0, fun t kt => ?_⟩
      show Steps p.tables e below (T0.setTop (mkF m 59 #[.val (.long x), .second, .val (.long y), .second, .val (.int k), .val (.long a), .second, .val (.long b), .second, .val (.int sel), .unset, .unset, .unset, .unset, .unset] [])) _
      refine XS.iload X0.here hx rfl (hb hby at_59) rfl ?_
      show Steps p.tables e below (T0.setTop (mkF m 61 #[.val (.long x), .second, .val (.long y), .second, .val (.int k), .val (.long a), .second, .val (.long b), .second, .val (.int sel), .unset, .unset, .unset, .unset, .unset] [(.int sel)])) _
      refine XS.iconst X0.here hx rfl (hb hby at_61) ?_
      show Steps p.tables e below (T0.setTop (mkF m 62 #[.val (.long x), .second, .val (.long y), .second, .val (.int k), .val (.long a), .second, .val (.long b), .second, .val (.int sel), .unset, .unset, .unset, .unset, .unset] [(.int (2 : Int32)), (.int sel)])) _
      refine XS.icmpNo X0.here hx rfl (hb hby at_62) rfl (teq h1).2 ?_
      show Steps p.tables e below (T0.setTop (mkF m 65 #[.val (.long x), .second, .val (.long y), .second, .val (.int k), .val (.long a), .second, .val (.long b), .second, .val (.int sel), .unset, .unset, .unset, .unset, .unset] [])) _
      refine XS.lload X0.here hx rfl (hb hby at_65) rfl ?_
      show Steps p.tables e below (T0.setTop (mkF m 67 #[.val (.long x), .second, .val (.long y), .second, .val (.int k), .val (.long a), .second, .val (.long b), .second, .val (.int sel), .unset, .unset, .unset, .unset, .unset] [(.long a)])) _
      refine XS.lconst X0.here hx rfl (hb hby at_67) ?_
      show Steps p.tables e below (T0.setTop (mkF m 68 #[.val (.long x), .second, .val (.long y), .second, .val (.int k), .val (.long a), .second, .val (.long b), .second, .val (.int sel), .unset, .unset, .unset, .unset, .unset] [(.long (1 : Int64)), (.long a)])) _
      refine XS.lcmp X0.here hx rfl (hb hby at_68) rfl ?_
      show Steps p.tables e below (T0.setTop (mkF m 69 #[.val (.long x), .second, .val (.long y), .second, .val (.int k), .val (.long a), .second, .val (.long b), .second, .val (.int sel), .unset, .unset, .unset, .unset, .unset] [(.int (lcmpW a (1 : Int64)))])) _
      refine XS.ifYes X0.here hx rfl (pc0 := 69) (pc' := 82) rfl (hb hby at_69) rfl ((if0 _ _).trans (flt hc).2.2.2) (by decide) (by decide) ?_
      exact kt
    · have h0' : (1 : Int64) < a := Classical.not_not.mp h0
      have hc : (0 : Int32) < lcmpW a (1 : Int64) := (lw_gt _ _).mpr h0'
      have hne : a ≠ (0 : Int64) := fun q => by rw [q] at h0'; exact absurd h0' (by decide)
      refine ⟨((9223372036854775807 : Int64) / a + (1 : Int64)), own_div1_nn h0', fun t kt => ?_⟩
      show Steps p.tables e below (T0.setTop (mkF m 59 #[.val (.long x), .second, .val (.long y), .second, .val (.int k), .val (.long a), .second, .val (.long b), .second, .val (.int sel), .unset, .unset, .unset, .unset, .unset] [])) _
      refine XS.iload X0.here hx rfl (hb hby at_59) rfl ?_
      show Steps p.tables e below (T0.setTop (mkF m 61 #[.val (.long x), .second, .val (.long y), .second, .val (.int k), .val (.long a), .second, .val (.long b), .second, .val (.int sel), .unset, .unset, .unset, .unset, .unset] [(.int sel)])) _
      refine XS.iconst X0.here hx rfl (hb hby at_61) ?_
      show Steps p.tables e below (T0.setTop (mkF m 62 #[.val (.long x), .second, .val (.long y), .second, .val (.int k), .val (.long a), .second, .val (.long b), .second, .val (.int sel), .unset, .unset, .unset, .unset, .unset] [(.int (2 : Int32)), (.int sel)])) _
      refine XS.icmpNo X0.here hx rfl (hb hby at_62) rfl (teq h1).2 ?_
      show Steps p.tables e below (T0.setTop (mkF m 65 #[.val (.long x), .second, .val (.long y), .second, .val (.int k), .val (.long a), .second, .val (.long b), .second, .val (.int sel), .unset, .unset, .unset, .unset, .unset] [])) _
      refine XS.lload X0.here hx rfl (hb hby at_65) rfl ?_
      show Steps p.tables e below (T0.setTop (mkF m 67 #[.val (.long x), .second, .val (.long y), .second, .val (.int k), .val (.long a), .second, .val (.long b), .second, .val (.int sel), .unset, .unset, .unset, .unset, .unset] [(.long a)])) _
      refine XS.lconst X0.here hx rfl (hb hby at_67) ?_
      show Steps p.tables e below (T0.setTop (mkF m 68 #[.val (.long x), .second, .val (.long y), .second, .val (.int k), .val (.long a), .second, .val (.long b), .second, .val (.int sel), .unset, .unset, .unset, .unset, .unset] [(.long (1 : Int64)), (.long a)])) _
      refine XS.lcmp X0.here hx rfl (hb hby at_68) rfl ?_
      show Steps p.tables e below (T0.setTop (mkF m 69 #[.val (.long x), .second, .val (.long y), .second, .val (.int k), .val (.long a), .second, .val (.long b), .second, .val (.int sel), .unset, .unset, .unset, .unset, .unset] [(.int (lcmpW a (1 : Int64)))])) _
      refine XS.ifNo X0.here hx rfl (hb hby at_69) rfl ((if0 _ _).trans (tlt hc).2.2.2) ?_
      show Steps p.tables e below (T0.setTop (mkF m 72 #[.val (.long x), .second, .val (.long y), .second, .val (.int k), .val (.long a), .second, .val (.long b), .second, .val (.int sel), .unset, .unset, .unset, .unset, .unset] [])) _
      refine X0.ldc2J hx hown (mvT hZ (hw _ (List.mem_of_getElem? (i := 0) rfl))) rfl (hb hby at_72) ?_
      show Steps p.tables e below (T0.setTop (mkF m 75 #[.val (.long x), .second, .val (.long y), .second, .val (.int k), .val (.long a), .second, .val (.long b), .second, .val (.int sel), .unset, .unset, .unset, .unset, .unset] [(.long (9223372036854775807 : Int64))])) _
      refine XS.lload X0.here hx rfl (hb hby at_75) rfl ?_
      show Steps p.tables e below (T0.setTop (mkF m 77 #[.val (.long x), .second, .val (.long y), .second, .val (.int k), .val (.long a), .second, .val (.long b), .second, .val (.int sel), .unset, .unset, .unset, .unset, .unset] [(.long a), (.long (9223372036854775807 : Int64))])) _
      refine XS.ldiv X0.here hx rfl (hb hby at_77) rfl hne ?_
      show Steps p.tables e below (T0.setTop (mkF m 78 #[.val (.long x), .second, .val (.long y), .second, .val (.int k), .val (.long a), .second, .val (.long b), .second, .val (.int sel), .unset, .unset, .unset, .unset, .unset] [(.long ((9223372036854775807 : Int64) / a))])) _
      refine XS.lconst X0.here hx rfl (hb hby at_78) ?_
      show Steps p.tables e below (T0.setTop (mkF m 79 #[.val (.long x), .second, .val (.long y), .second, .val (.int k), .val (.long a), .second, .val (.long b), .second, .val (.int sel), .unset, .unset, .unset, .unset, .unset] [(.long (1 : Int64)), (.long ((9223372036854775807 : Int64) / a))])) _
      refine XS.ladd X0.here hx rfl (hb hby at_79) rfl ?_
      show Steps p.tables e below (T0.setTop (mkF m 80 #[.val (.long x), .second, .val (.long y), .second, .val (.int k), .val (.long a), .second, .val (.long b), .second, .val (.int sel), .unset, .unset, .unset, .unset, .unset] [(.long (((9223372036854775807 : Int64) / a) + (1 : Int64)))])) _
      refine XS.lstore X0.here hx rfl (hb hby at_80) rfl (l' := #[.val (.long x), .second, .val (.long y), .second, .val (.int k), .val (.long a), .second, .val (.long (((9223372036854775807 : Int64) / a) + (1 : Int64))), .second, .val (.int sel), .unset, .unset, .unset, .unset, .unset]) rfl ?_
      exact kt
  · refine ⟨b, hb0, fun t kt => ?_⟩
    show Steps p.tables e below (T0.setTop (mkF m 59 #[.val (.long x), .second, .val (.long y), .second, .val (.int k), .val (.long a), .second, .val (.long b), .second, .val (.int sel), .unset, .unset, .unset, .unset, .unset] [])) _
    refine XS.iload X0.here hx rfl (hb hby at_59) rfl ?_
    show Steps p.tables e below (T0.setTop (mkF m 61 #[.val (.long x), .second, .val (.long y), .second, .val (.int k), .val (.long a), .second, .val (.long b), .second, .val (.int sel), .unset, .unset, .unset, .unset, .unset] [(.int sel)])) _
    refine XS.iconst X0.here hx rfl (hb hby at_61) ?_
    show Steps p.tables e below (T0.setTop (mkF m 62 #[.val (.long x), .second, .val (.long y), .second, .val (.int k), .val (.long a), .second, .val (.long b), .second, .val (.int sel), .unset, .unset, .unset, .unset, .unset] [(.int (2 : Int32)), (.int sel)])) _
    refine XS.icmpYes X0.here hx rfl (pc0 := 62) (pc' := 82) rfl (hb hby at_62) rfl (feq h1).2 (by decide) (by decide) ?_
    exact kt
set_option maxRecDepth 65536 in
set_option maxHeartbeats 40000000 in
theorem own_s4 (X0 : Stand p l e R s m args below meth c T0 locs cells slots) (hx : p.tables.exec = Jvm.exec) (hZ : Z.Warmed39 s.vm) (hw : ∀ d ∈ tables_1, d.before a0 Z = true) (hby : c.code = code) (hown : s.vm.findClass "com/example/hollin/hollin/base/AllocationProductPinLaw" = some m.cls) (x y : Int64) (k : Int32) (a b : Int64) (sel : Int32) (ha : 0 ≤ a.toInt) (hb0 : 0 ≤ b.toInt) : ∃ b' : Int64, 0 ≤ b'.toInt ∧ own_Ld p e below T0 (mkF m 82 #[.val (.long x), .second, .val (.long y), .second, .val (.int k), .val (.long a), .second, .val (.long b), .second, .val (.int sel), .unset, .unset, .unset, .unset, .unset] []) T0 (mkF m 92 #[.val (.long x), .second, .val (.long y), .second, .val (.int k), .val (.long a), .second, .val (.long b'), .second, .val (.int sel), .unset, .unset, .unset, .unset, .unset] []) := by
  by_cases h1 : sel = (3 : Int32)
  · refine ⟨a, ha, fun t kt => ?_⟩
    show Steps p.tables e below (T0.setTop (mkF m 82 #[.val (.long x), .second, .val (.long y), .second, .val (.int k), .val (.long a), .second, .val (.long b), .second, .val (.int sel), .unset, .unset, .unset, .unset, .unset] [])) _
    refine XS.iload X0.here hx rfl (hb hby at_82) rfl ?_
    show Steps p.tables e below (T0.setTop (mkF m 84 #[.val (.long x), .second, .val (.long y), .second, .val (.int k), .val (.long a), .second, .val (.long b), .second, .val (.int sel), .unset, .unset, .unset, .unset, .unset] [(.int sel)])) _
    refine XS.iconst X0.here hx rfl (hb hby at_84) ?_
    show Steps p.tables e below (T0.setTop (mkF m 85 #[.val (.long x), .second, .val (.long y), .second, .val (.int k), .val (.long a), .second, .val (.long b), .second, .val (.int sel), .unset, .unset, .unset, .unset, .unset] [(.int (3 : Int32)), (.int sel)])) _
    refine XS.icmpNo X0.here hx rfl (hb hby at_85) rfl (teq h1).2 ?_
    show Steps p.tables e below (T0.setTop (mkF m 88 #[.val (.long x), .second, .val (.long y), .second, .val (.int k), .val (.long a), .second, .val (.long b), .second, .val (.int sel), .unset, .unset, .unset, .unset, .unset] [])) _
    refine XS.lload X0.here hx rfl (hb hby at_88) rfl ?_
    show Steps p.tables e below (T0.setTop (mkF m 90 #[.val (.long x), .second, .val (.long y), .second, .val (.int k), .val (.long a), .second, .val (.long b), .second, .val (.int sel), .unset, .unset, .unset, .unset, .unset] [(.long a)])) _
    refine XS.lstore X0.here hx rfl (hb hby at_90) rfl (l' := #[.val (.long x), .second, .val (.long y), .second, .val (.int k), .val (.long a), .second, .val (.long a), .second, .val (.int sel), .unset, .unset, .unset, .unset, .unset]) rfl ?_
    exact kt
  · refine ⟨b, hb0, fun t kt => ?_⟩
    show Steps p.tables e below (T0.setTop (mkF m 82 #[.val (.long x), .second, .val (.long y), .second, .val (.int k), .val (.long a), .second, .val (.long b), .second, .val (.int sel), .unset, .unset, .unset, .unset, .unset] [])) _
    refine XS.iload X0.here hx rfl (hb hby at_82) rfl ?_
    show Steps p.tables e below (T0.setTop (mkF m 84 #[.val (.long x), .second, .val (.long y), .second, .val (.int k), .val (.long a), .second, .val (.long b), .second, .val (.int sel), .unset, .unset, .unset, .unset, .unset] [(.int sel)])) _
    refine XS.iconst X0.here hx rfl (hb hby at_84) ?_
    show Steps p.tables e below (T0.setTop (mkF m 85 #[.val (.long x), .second, .val (.long y), .second, .val (.int k), .val (.long a), .second, .val (.long b), .second, .val (.int sel), .unset, .unset, .unset, .unset, .unset] [(.int (3 : Int32)), (.int sel)])) _
    refine XS.icmpYes X0.here hx rfl (pc0 := 85) (pc' := 92) rfl (hb hby at_85) rfl (feq h1).2 (by decide) (by decide) ?_
    exact kt
set_option maxRecDepth 65536 in
set_option maxHeartbeats 40000000 in
theorem own_s6 (X0 : Stand p l e R s m args below meth c T0 locs cells slots) (hx : p.tables.exec = Jvm.exec) (hZ : Z.Warmed39 s.vm) (hw : ∀ d ∈ tables_1, d.before a0 Z = true) (hby : c.code = code) (hown : s.vm.findClass "com/example/hollin/hollin/base/AllocationProductPinLaw" = some m.cls) (x y : Int64) (k : Int32) (a b : Int64) (sel : Int32) (r q : Int64) : own_Ld p e below T0 (mkF m 108 #[.val (.long x), .second, .val (.long y), .second, .val (.int k), .val (.long a), .second, .val (.long b), .second, .val (.int sel), .val (.long r), .second, .val (.long q), .second, .unset] []) T0 (mkF m 140 #[.val (.long x), .second, .val (.long y), .second, .val (.int k), .val (.long a), .second, .val (.long b), .second, .val (.int sel), .val (.long r), .second, .val (.long q), .second, .val (.int (own_fit a b q))] []) := by
  intro t kt
  by_cases h0 : a = (0 : Int64)
  · have hc : lcmpW a (0 : Int64) = (0 : Int32) := (lw_eq _ _).mpr h0
    have ew : own_fit a b q = 1 := by simp [own_fit, h0]
    rw [ew] at kt
    show Steps p.tables e below (T0.setTop (mkF m 108 #[.val (.long x), .second, .val (.long y), .second, .val (.int k), .val (.long a), .second, .val (.long b), .second, .val (.int sel), .val (.long r), .second, .val (.long q), .second, .unset] [])) _
    refine XS.lload X0.here hx rfl (hb hby at_108) rfl ?_
    show Steps p.tables e below (T0.setTop (mkF m 110 #[.val (.long x), .second, .val (.long y), .second, .val (.int k), .val (.long a), .second, .val (.long b), .second, .val (.int sel), .val (.long r), .second, .val (.long q), .second, .unset] [(.long a)])) _
    refine XS.lconst X0.here hx rfl (hb hby at_110) ?_
    show Steps p.tables e below (T0.setTop (mkF m 111 #[.val (.long x), .second, .val (.long y), .second, .val (.int k), .val (.long a), .second, .val (.long b), .second, .val (.int sel), .val (.long r), .second, .val (.long q), .second, .unset] [(.long (0 : Int64)), (.long a)])) _
    refine XS.lcmp X0.here hx rfl (hb hby at_111) rfl ?_
    show Steps p.tables e below (T0.setTop (mkF m 112 #[.val (.long x), .second, .val (.long y), .second, .val (.int k), .val (.long a), .second, .val (.long b), .second, .val (.int sel), .val (.long r), .second, .val (.long q), .second, .unset] [(.int (lcmpW a (0 : Int64)))])) _
    refine XS.ifYes X0.here hx rfl (pc0 := 112) (pc' := 133) rfl (hb hby at_112) rfl ((if0 _ _).trans (teq hc).1) (by decide) (by decide) ?_
    show Steps p.tables e below (T0.setTop (mkF m 133 #[.val (.long x), .second, .val (.long y), .second, .val (.int k), .val (.long a), .second, .val (.long b), .second, .val (.int sel), .val (.long r), .second, .val (.long q), .second, .unset] [])) _
    refine XS.iconst X0.here hx rfl (hb hby at_133) ?_
    show Steps p.tables e below (T0.setTop (mkF m 134 #[.val (.long x), .second, .val (.long y), .second, .val (.int k), .val (.long a), .second, .val (.long b), .second, .val (.int sel), .val (.long r), .second, .val (.long q), .second, .unset] [(.int (1 : Int32))])) _
    refine XS.goto X0.here hx rfl (pc0 := 134) (pc' := 138) rfl (hb hby at_134) (by decide) (by decide) ?_
    show Steps p.tables e below (T0.setTop (mkF m 138 #[.val (.long x), .second, .val (.long y), .second, .val (.int k), .val (.long a), .second, .val (.long b), .second, .val (.int sel), .val (.long r), .second, .val (.long q), .second, .unset] [(.int (1 : Int32))])) _
    refine XS.istore X0.here hx rfl (hb hby at_138) rfl (l' := #[.val (.long x), .second, .val (.long y), .second, .val (.int k), .val (.long a), .second, .val (.long b), .second, .val (.int sel), .val (.long r), .second, .val (.long q), .second, .val (.int (1 : Int32))]) rfl ?_
    exact kt
  have hc : ¬ (lcmpW a (0 : Int64) = (0 : Int32)) := fun z => h0 ((lw_eq _ _).mp z)
  by_cases h1 : q < (0 : Int64)
  · have hc1 : lcmpW q (0 : Int64) < (0 : Int32) := (lw_lt _ _).mpr h1
    have ew : own_fit a b q = 0 := by simp [own_fit, h0, h1]
    rw [ew] at kt
    show Steps p.tables e below (T0.setTop (mkF m 108 #[.val (.long x), .second, .val (.long y), .second, .val (.int k), .val (.long a), .second, .val (.long b), .second, .val (.int sel), .val (.long r), .second, .val (.long q), .second, .unset] [])) _
    refine XS.lload X0.here hx rfl (hb hby at_108) rfl ?_
    show Steps p.tables e below (T0.setTop (mkF m 110 #[.val (.long x), .second, .val (.long y), .second, .val (.int k), .val (.long a), .second, .val (.long b), .second, .val (.int sel), .val (.long r), .second, .val (.long q), .second, .unset] [(.long a)])) _
    refine XS.lconst X0.here hx rfl (hb hby at_110) ?_
    show Steps p.tables e below (T0.setTop (mkF m 111 #[.val (.long x), .second, .val (.long y), .second, .val (.int k), .val (.long a), .second, .val (.long b), .second, .val (.int sel), .val (.long r), .second, .val (.long q), .second, .unset] [(.long (0 : Int64)), (.long a)])) _
    refine XS.lcmp X0.here hx rfl (hb hby at_111) rfl ?_
    show Steps p.tables e below (T0.setTop (mkF m 112 #[.val (.long x), .second, .val (.long y), .second, .val (.int k), .val (.long a), .second, .val (.long b), .second, .val (.int sel), .val (.long r), .second, .val (.long q), .second, .unset] [(.int (lcmpW a (0 : Int64)))])) _
    refine XS.ifNo X0.here hx rfl (hb hby at_112) rfl ((if0 _ _).trans (feq hc).1) ?_
    show Steps p.tables e below (T0.setTop (mkF m 115 #[.val (.long x), .second, .val (.long y), .second, .val (.int k), .val (.long a), .second, .val (.long b), .second, .val (.int sel), .val (.long r), .second, .val (.long q), .second, .unset] [])) _
    refine XS.lload X0.here hx rfl (hb hby at_115) rfl ?_
    show Steps p.tables e below (T0.setTop (mkF m 117 #[.val (.long x), .second, .val (.long y), .second, .val (.int k), .val (.long a), .second, .val (.long b), .second, .val (.int sel), .val (.long r), .second, .val (.long q), .second, .unset] [(.long q)])) _
    refine XS.lconst X0.here hx rfl (hb hby at_117) ?_
    show Steps p.tables e below (T0.setTop (mkF m 118 #[.val (.long x), .second, .val (.long y), .second, .val (.int k), .val (.long a), .second, .val (.long b), .second, .val (.int sel), .val (.long r), .second, .val (.long q), .second, .unset] [(.long (0 : Int64)), (.long q)])) _
    refine XS.lcmp X0.here hx rfl (hb hby at_118) rfl ?_
    show Steps p.tables e below (T0.setTop (mkF m 119 #[.val (.long x), .second, .val (.long y), .second, .val (.int k), .val (.long a), .second, .val (.long b), .second, .val (.int sel), .val (.long r), .second, .val (.long q), .second, .unset] [(.int (lcmpW q (0 : Int64)))])) _
    refine XS.ifYes X0.here hx rfl (pc0 := 119) (pc' := 137) rfl (hb hby at_119) rfl ((if0 _ _).trans (tlt hc1).1) (by decide) (by decide) ?_
    show Steps p.tables e below (T0.setTop (mkF m 137 #[.val (.long x), .second, .val (.long y), .second, .val (.int k), .val (.long a), .second, .val (.long b), .second, .val (.int sel), .val (.long r), .second, .val (.long q), .second, .unset] [])) _
    refine XS.iconst X0.here hx rfl (hb hby at_137) ?_
    show Steps p.tables e below (T0.setTop (mkF m 138 #[.val (.long x), .second, .val (.long y), .second, .val (.int k), .val (.long a), .second, .val (.long b), .second, .val (.int sel), .val (.long r), .second, .val (.long q), .second, .unset] [(.int (0 : Int32))])) _
    refine XS.istore X0.here hx rfl (hb hby at_138) rfl (l' := #[.val (.long x), .second, .val (.long y), .second, .val (.int k), .val (.long a), .second, .val (.long b), .second, .val (.int sel), .val (.long r), .second, .val (.long q), .second, .val (.int (0 : Int32))]) rfl ?_
    exact kt
  have hc1 : ¬ (lcmpW q (0 : Int64) < (0 : Int32)) := fun z => h1 ((lw_lt _ _).mp z)
  by_cases h2 : q / a = b
  · have hc2 : lcmpW (q / a) b = (0 : Int32) := (lw_eq _ _).mpr h2
    have ew : own_fit a b q = 1 := by simp [own_fit, h0, h1, h2]
    rw [ew] at kt
    show Steps p.tables e below (T0.setTop (mkF m 108 #[.val (.long x), .second, .val (.long y), .second, .val (.int k), .val (.long a), .second, .val (.long b), .second, .val (.int sel), .val (.long r), .second, .val (.long q), .second, .unset] [])) _
    refine XS.lload X0.here hx rfl (hb hby at_108) rfl ?_
    show Steps p.tables e below (T0.setTop (mkF m 110 #[.val (.long x), .second, .val (.long y), .second, .val (.int k), .val (.long a), .second, .val (.long b), .second, .val (.int sel), .val (.long r), .second, .val (.long q), .second, .unset] [(.long a)])) _
    refine XS.lconst X0.here hx rfl (hb hby at_110) ?_
    show Steps p.tables e below (T0.setTop (mkF m 111 #[.val (.long x), .second, .val (.long y), .second, .val (.int k), .val (.long a), .second, .val (.long b), .second, .val (.int sel), .val (.long r), .second, .val (.long q), .second, .unset] [(.long (0 : Int64)), (.long a)])) _
    refine XS.lcmp X0.here hx rfl (hb hby at_111) rfl ?_
    show Steps p.tables e below (T0.setTop (mkF m 112 #[.val (.long x), .second, .val (.long y), .second, .val (.int k), .val (.long a), .second, .val (.long b), .second, .val (.int sel), .val (.long r), .second, .val (.long q), .second, .unset] [(.int (lcmpW a (0 : Int64)))])) _
    refine XS.ifNo X0.here hx rfl (hb hby at_112) rfl ((if0 _ _).trans (feq hc).1) ?_
    show Steps p.tables e below (T0.setTop (mkF m 115 #[.val (.long x), .second, .val (.long y), .second, .val (.int k), .val (.long a), .second, .val (.long b), .second, .val (.int sel), .val (.long r), .second, .val (.long q), .second, .unset] [])) _
    refine XS.lload X0.here hx rfl (hb hby at_115) rfl ?_
    show Steps p.tables e below (T0.setTop (mkF m 117 #[.val (.long x), .second, .val (.long y), .second, .val (.int k), .val (.long a), .second, .val (.long b), .second, .val (.int sel), .val (.long r), .second, .val (.long q), .second, .unset] [(.long q)])) _
    refine XS.lconst X0.here hx rfl (hb hby at_117) ?_
    show Steps p.tables e below (T0.setTop (mkF m 118 #[.val (.long x), .second, .val (.long y), .second, .val (.int k), .val (.long a), .second, .val (.long b), .second, .val (.int sel), .val (.long r), .second, .val (.long q), .second, .unset] [(.long (0 : Int64)), (.long q)])) _
    refine XS.lcmp X0.here hx rfl (hb hby at_118) rfl ?_
    show Steps p.tables e below (T0.setTop (mkF m 119 #[.val (.long x), .second, .val (.long y), .second, .val (.int k), .val (.long a), .second, .val (.long b), .second, .val (.int sel), .val (.long r), .second, .val (.long q), .second, .unset] [(.int (lcmpW q (0 : Int64)))])) _
    refine XS.ifNo X0.here hx rfl (hb hby at_119) rfl ((if0 _ _).trans (flt hc1).1) ?_
    show Steps p.tables e below (T0.setTop (mkF m 122 #[.val (.long x), .second, .val (.long y), .second, .val (.int k), .val (.long a), .second, .val (.long b), .second, .val (.int sel), .val (.long r), .second, .val (.long q), .second, .unset] [])) _
    refine XS.lload X0.here hx rfl (hb hby at_122) rfl ?_
    show Steps p.tables e below (T0.setTop (mkF m 124 #[.val (.long x), .second, .val (.long y), .second, .val (.int k), .val (.long a), .second, .val (.long b), .second, .val (.int sel), .val (.long r), .second, .val (.long q), .second, .unset] [(.long q)])) _
    refine XS.lload X0.here hx rfl (hb hby at_124) rfl ?_
    show Steps p.tables e below (T0.setTop (mkF m 126 #[.val (.long x), .second, .val (.long y), .second, .val (.int k), .val (.long a), .second, .val (.long b), .second, .val (.int sel), .val (.long r), .second, .val (.long q), .second, .unset] [(.long a), (.long q)])) _
    refine XS.ldiv X0.here hx rfl (hb hby at_126) rfl h0 ?_
    show Steps p.tables e below (T0.setTop (mkF m 127 #[.val (.long x), .second, .val (.long y), .second, .val (.int k), .val (.long a), .second, .val (.long b), .second, .val (.int sel), .val (.long r), .second, .val (.long q), .second, .unset] [(.long (q / a))])) _
    refine XS.lload X0.here hx rfl (hb hby at_127) rfl ?_
    show Steps p.tables e below (T0.setTop (mkF m 129 #[.val (.long x), .second, .val (.long y), .second, .val (.int k), .val (.long a), .second, .val (.long b), .second, .val (.int sel), .val (.long r), .second, .val (.long q), .second, .unset] [(.long b), (.long (q / a))])) _
    refine XS.lcmp X0.here hx rfl (hb hby at_129) rfl ?_
    show Steps p.tables e below (T0.setTop (mkF m 130 #[.val (.long x), .second, .val (.long y), .second, .val (.int k), .val (.long a), .second, .val (.long b), .second, .val (.int sel), .val (.long r), .second, .val (.long q), .second, .unset] [(.int (lcmpW (q / a) b))])) _
    refine XS.ifNo X0.here hx rfl (hb hby at_130) rfl ((if0 _ _).trans (teq hc2).2) ?_
    show Steps p.tables e below (T0.setTop (mkF m 133 #[.val (.long x), .second, .val (.long y), .second, .val (.int k), .val (.long a), .second, .val (.long b), .second, .val (.int sel), .val (.long r), .second, .val (.long q), .second, .unset] [])) _
    refine XS.iconst X0.here hx rfl (hb hby at_133) ?_
    show Steps p.tables e below (T0.setTop (mkF m 134 #[.val (.long x), .second, .val (.long y), .second, .val (.int k), .val (.long a), .second, .val (.long b), .second, .val (.int sel), .val (.long r), .second, .val (.long q), .second, .unset] [(.int (1 : Int32))])) _
    refine XS.goto X0.here hx rfl (pc0 := 134) (pc' := 138) rfl (hb hby at_134) (by decide) (by decide) ?_
    show Steps p.tables e below (T0.setTop (mkF m 138 #[.val (.long x), .second, .val (.long y), .second, .val (.int k), .val (.long a), .second, .val (.long b), .second, .val (.int sel), .val (.long r), .second, .val (.long q), .second, .unset] [(.int (1 : Int32))])) _
    refine XS.istore X0.here hx rfl (hb hby at_138) rfl (l' := #[.val (.long x), .second, .val (.long y), .second, .val (.int k), .val (.long a), .second, .val (.long b), .second, .val (.int sel), .val (.long r), .second, .val (.long q), .second, .val (.int (1 : Int32))]) rfl ?_
    exact kt
  · have hc2 : ¬ (lcmpW (q / a) b = (0 : Int32)) := fun z => h2 ((lw_eq _ _).mp z)
    have ew : own_fit a b q = 0 := by simp [own_fit, h0, h1, h2]
    rw [ew] at kt
    show Steps p.tables e below (T0.setTop (mkF m 108 #[.val (.long x), .second, .val (.long y), .second, .val (.int k), .val (.long a), .second, .val (.long b), .second, .val (.int sel), .val (.long r), .second, .val (.long q), .second, .unset] [])) _
    refine XS.lload X0.here hx rfl (hb hby at_108) rfl ?_
    show Steps p.tables e below (T0.setTop (mkF m 110 #[.val (.long x), .second, .val (.long y), .second, .val (.int k), .val (.long a), .second, .val (.long b), .second, .val (.int sel), .val (.long r), .second, .val (.long q), .second, .unset] [(.long a)])) _
    refine XS.lconst X0.here hx rfl (hb hby at_110) ?_
    show Steps p.tables e below (T0.setTop (mkF m 111 #[.val (.long x), .second, .val (.long y), .second, .val (.int k), .val (.long a), .second, .val (.long b), .second, .val (.int sel), .val (.long r), .second, .val (.long q), .second, .unset] [(.long (0 : Int64)), (.long a)])) _
    refine XS.lcmp X0.here hx rfl (hb hby at_111) rfl ?_
    show Steps p.tables e below (T0.setTop (mkF m 112 #[.val (.long x), .second, .val (.long y), .second, .val (.int k), .val (.long a), .second, .val (.long b), .second, .val (.int sel), .val (.long r), .second, .val (.long q), .second, .unset] [(.int (lcmpW a (0 : Int64)))])) _
    refine XS.ifNo X0.here hx rfl (hb hby at_112) rfl ((if0 _ _).trans (feq hc).1) ?_
    show Steps p.tables e below (T0.setTop (mkF m 115 #[.val (.long x), .second, .val (.long y), .second, .val (.int k), .val (.long a), .second, .val (.long b), .second, .val (.int sel), .val (.long r), .second, .val (.long q), .second, .unset] [])) _
    refine XS.lload X0.here hx rfl (hb hby at_115) rfl ?_
    show Steps p.tables e below (T0.setTop (mkF m 117 #[.val (.long x), .second, .val (.long y), .second, .val (.int k), .val (.long a), .second, .val (.long b), .second, .val (.int sel), .val (.long r), .second, .val (.long q), .second, .unset] [(.long q)])) _
    refine XS.lconst X0.here hx rfl (hb hby at_117) ?_
    show Steps p.tables e below (T0.setTop (mkF m 118 #[.val (.long x), .second, .val (.long y), .second, .val (.int k), .val (.long a), .second, .val (.long b), .second, .val (.int sel), .val (.long r), .second, .val (.long q), .second, .unset] [(.long (0 : Int64)), (.long q)])) _
    refine XS.lcmp X0.here hx rfl (hb hby at_118) rfl ?_
    show Steps p.tables e below (T0.setTop (mkF m 119 #[.val (.long x), .second, .val (.long y), .second, .val (.int k), .val (.long a), .second, .val (.long b), .second, .val (.int sel), .val (.long r), .second, .val (.long q), .second, .unset] [(.int (lcmpW q (0 : Int64)))])) _
    refine XS.ifNo X0.here hx rfl (hb hby at_119) rfl ((if0 _ _).trans (flt hc1).1) ?_
    show Steps p.tables e below (T0.setTop (mkF m 122 #[.val (.long x), .second, .val (.long y), .second, .val (.int k), .val (.long a), .second, .val (.long b), .second, .val (.int sel), .val (.long r), .second, .val (.long q), .second, .unset] [])) _
    refine XS.lload X0.here hx rfl (hb hby at_122) rfl ?_
    show Steps p.tables e below (T0.setTop (mkF m 124 #[.val (.long x), .second, .val (.long y), .second, .val (.int k), .val (.long a), .second, .val (.long b), .second, .val (.int sel), .val (.long r), .second, .val (.long q), .second, .unset] [(.long q)])) _
    refine XS.lload X0.here hx rfl (hb hby at_124) rfl ?_
    show Steps p.tables e below (T0.setTop (mkF m 126 #[.val (.long x), .second, .val (.long y), .second, .val (.int k), .val (.long a), .second, .val (.long b), .second, .val (.int sel), .val (.long r), .second, .val (.long q), .second, .unset] [(.long a), (.long q)])) _
    refine XS.ldiv X0.here hx rfl (hb hby at_126) rfl h0 ?_
    show Steps p.tables e below (T0.setTop (mkF m 127 #[.val (.long x), .second, .val (.long y), .second, .val (.int k), .val (.long a), .second, .val (.long b), .second, .val (.int sel), .val (.long r), .second, .val (.long q), .second, .unset] [(.long (q / a))])) _
    refine XS.lload X0.here hx rfl (hb hby at_127) rfl ?_
    show Steps p.tables e below (T0.setTop (mkF m 129 #[.val (.long x), .second, .val (.long y), .second, .val (.int k), .val (.long a), .second, .val (.long b), .second, .val (.int sel), .val (.long r), .second, .val (.long q), .second, .unset] [(.long b), (.long (q / a))])) _
    refine XS.lcmp X0.here hx rfl (hb hby at_129) rfl ?_
    show Steps p.tables e below (T0.setTop (mkF m 130 #[.val (.long x), .second, .val (.long y), .second, .val (.int k), .val (.long a), .second, .val (.long b), .second, .val (.int sel), .val (.long r), .second, .val (.long q), .second, .unset] [(.int (lcmpW (q / a) b))])) _
    refine XS.ifYes X0.here hx rfl (pc0 := 130) (pc' := 137) rfl (hb hby at_130) rfl ((if0 _ _).trans (feq hc2).2) (by decide) (by decide) ?_
    show Steps p.tables e below (T0.setTop (mkF m 137 #[.val (.long x), .second, .val (.long y), .second, .val (.int k), .val (.long a), .second, .val (.long b), .second, .val (.int sel), .val (.long r), .second, .val (.long q), .second, .unset] [])) _
    refine XS.iconst X0.here hx rfl (hb hby at_137) ?_
    show Steps p.tables e below (T0.setTop (mkF m 138 #[.val (.long x), .second, .val (.long y), .second, .val (.int k), .val (.long a), .second, .val (.long b), .second, .val (.int sel), .val (.long r), .second, .val (.long q), .second, .unset] [(.int (0 : Int32))])) _
    refine XS.istore X0.here hx rfl (hb hby at_138) rfl (l' := #[.val (.long x), .second, .val (.long y), .second, .val (.int k), .val (.long a), .second, .val (.long b), .second, .val (.int sel), .val (.long r), .second, .val (.long q), .second, .val (.int (0 : Int32))]) rfl ?_
    exact kt
set_option maxRecDepth 65536 in
set_option maxHeartbeats 40000000 in
theorem own_s7 (X0 : Stand p l e R s m args below meth c T0 locs cells slots) (hx : p.tables.exec = Jvm.exec) (hZ : Z.Warmed39 s.vm) (hw : ∀ d ∈ tables_1, d.before a0 Z = true) (hby : c.code = code) (hown : s.vm.findClass "com/example/hollin/hollin/base/AllocationProductPinLaw" = some m.cls) (x y : Int64) (k : Int32) (a b : Int64) (sel : Int32) (r q : Int64) (ft : Int32) (hA : ft = 0 → r = (9223372036854775807 : Int64)) (hB : ¬ ft = 0 → r = q) : own_Ld p e below T0 (mkF m 140 #[.val (.long x), .second, .val (.long y), .second, .val (.int k), .val (.long a), .second, .val (.long b), .second, .val (.int sel), .val (.long r), .second, .val (.long q), .second, .val (.int ft)] []) T0 (mkF m 175 #[.val (.long x), .second, .val (.long y), .second, .val (.int k), .val (.long a), .second, .val (.long b), .second, .val (.int sel), .val (.long r), .second, .val (.long q), .second, .val (.int ft)] [(.int (1 : Int32))]) := by
  intro t kt
  by_cases h0 : ft = (0 : Int32)
  · have hc : lcmpW r (9223372036854775807 : Int64) = (0 : Int32) := (lw_eq _ _).mpr (hA h0)
    show Steps p.tables e below (T0.setTop (mkF m 140 #[.val (.long x), .second, .val (.long y), .second, .val (.int k), .val (.long a), .second, .val (.long b), .second, .val (.int sel), .val (.long r), .second, .val (.long q), .second, .val (.int ft)] [])) _
    refine XS.iload X0.here hx rfl (hb hby at_140) rfl ?_
    show Steps p.tables e below (T0.setTop (mkF m 142 #[.val (.long x), .second, .val (.long y), .second, .val (.int k), .val (.long a), .second, .val (.long b), .second, .val (.int sel), .val (.long r), .second, .val (.long q), .second, .val (.int ft)] [(.int ft)])) _
    refine XS.ifYes X0.here hx rfl (pc0 := 142) (pc' := 161) rfl (hb hby at_142) rfl ((if0 _ _).trans (teq h0).1) (by decide) (by decide) ?_
    show Steps p.tables e below (T0.setTop (mkF m 161 #[.val (.long x), .second, .val (.long y), .second, .val (.int k), .val (.long a), .second, .val (.long b), .second, .val (.int sel), .val (.long r), .second, .val (.long q), .second, .val (.int ft)] [])) _
    refine XS.lload X0.here hx rfl (hb hby at_161) rfl ?_
    show Steps p.tables e below (T0.setTop (mkF m 163 #[.val (.long x), .second, .val (.long y), .second, .val (.int k), .val (.long a), .second, .val (.long b), .second, .val (.int sel), .val (.long r), .second, .val (.long q), .second, .val (.int ft)] [(.long r)])) _
    refine X0.ldc2J hx hown (mvT hZ (hw _ (List.mem_of_getElem? (i := 0) rfl))) rfl (hb hby at_163) ?_
    show Steps p.tables e below (T0.setTop (mkF m 166 #[.val (.long x), .second, .val (.long y), .second, .val (.int k), .val (.long a), .second, .val (.long b), .second, .val (.int sel), .val (.long r), .second, .val (.long q), .second, .val (.int ft)] [(.long (9223372036854775807 : Int64)), (.long r)])) _
    refine XS.lcmp X0.here hx rfl (hb hby at_166) rfl ?_
    show Steps p.tables e below (T0.setTop (mkF m 167 #[.val (.long x), .second, .val (.long y), .second, .val (.int k), .val (.long a), .second, .val (.long b), .second, .val (.int sel), .val (.long r), .second, .val (.long q), .second, .val (.int ft)] [(.int (lcmpW r (9223372036854775807 : Int64)))])) _
    refine XS.ifNo X0.here hx rfl (hb hby at_167) rfl ((if0 _ _).trans (teq hc).2) ?_
    show Steps p.tables e below (T0.setTop (mkF m 170 #[.val (.long x), .second, .val (.long y), .second, .val (.int k), .val (.long a), .second, .val (.long b), .second, .val (.int sel), .val (.long r), .second, .val (.long q), .second, .val (.int ft)] [])) _
    refine XS.iconst X0.here hx rfl (hb hby at_170) ?_
    show Steps p.tables e below (T0.setTop (mkF m 171 #[.val (.long x), .second, .val (.long y), .second, .val (.int k), .val (.long a), .second, .val (.long b), .second, .val (.int sel), .val (.long r), .second, .val (.long q), .second, .val (.int ft)] [(.int (1 : Int32))])) _
    refine XS.goto X0.here hx rfl (pc0 := 171) (pc' := 175) rfl (hb hby at_171) (by decide) (by decide) ?_
    exact kt
  · have hc : lcmpW r q = (0 : Int32) := (lw_eq _ _).mpr (hB h0)
    show Steps p.tables e below (T0.setTop (mkF m 140 #[.val (.long x), .second, .val (.long y), .second, .val (.int k), .val (.long a), .second, .val (.long b), .second, .val (.int sel), .val (.long r), .second, .val (.long q), .second, .val (.int ft)] [])) _
    refine XS.iload X0.here hx rfl (hb hby at_140) rfl ?_
    show Steps p.tables e below (T0.setTop (mkF m 142 #[.val (.long x), .second, .val (.long y), .second, .val (.int k), .val (.long a), .second, .val (.long b), .second, .val (.int sel), .val (.long r), .second, .val (.long q), .second, .val (.int ft)] [(.int ft)])) _
    refine XS.ifNo X0.here hx rfl (hb hby at_142) rfl ((if0 _ _).trans (feq h0).1) ?_
    show Steps p.tables e below (T0.setTop (mkF m 145 #[.val (.long x), .second, .val (.long y), .second, .val (.int k), .val (.long a), .second, .val (.long b), .second, .val (.int sel), .val (.long r), .second, .val (.long q), .second, .val (.int ft)] [])) _
    refine XS.lload X0.here hx rfl (hb hby at_145) rfl ?_
    show Steps p.tables e below (T0.setTop (mkF m 147 #[.val (.long x), .second, .val (.long y), .second, .val (.int k), .val (.long a), .second, .val (.long b), .second, .val (.int sel), .val (.long r), .second, .val (.long q), .second, .val (.int ft)] [(.long r)])) _
    refine XS.lload X0.here hx rfl (hb hby at_147) rfl ?_
    show Steps p.tables e below (T0.setTop (mkF m 149 #[.val (.long x), .second, .val (.long y), .second, .val (.int k), .val (.long a), .second, .val (.long b), .second, .val (.int sel), .val (.long r), .second, .val (.long q), .second, .val (.int ft)] [(.long q), (.long r)])) _
    refine XS.lcmp X0.here hx rfl (hb hby at_149) rfl ?_
    show Steps p.tables e below (T0.setTop (mkF m 150 #[.val (.long x), .second, .val (.long y), .second, .val (.int k), .val (.long a), .second, .val (.long b), .second, .val (.int sel), .val (.long r), .second, .val (.long q), .second, .val (.int ft)] [(.int (lcmpW r q))])) _
    refine XS.ifNo X0.here hx rfl (hb hby at_150) rfl ((if0 _ _).trans (teq hc).2) ?_
    show Steps p.tables e below (T0.setTop (mkF m 153 #[.val (.long x), .second, .val (.long y), .second, .val (.int k), .val (.long a), .second, .val (.long b), .second, .val (.int sel), .val (.long r), .second, .val (.long q), .second, .val (.int ft)] [])) _
    refine XS.iconst X0.here hx rfl (hb hby at_153) ?_
    show Steps p.tables e below (T0.setTop (mkF m 154 #[.val (.long x), .second, .val (.long y), .second, .val (.int k), .val (.long a), .second, .val (.long b), .second, .val (.int sel), .val (.long r), .second, .val (.long q), .second, .val (.int ft)] [(.int (1 : Int32))])) _
    refine XS.goto X0.here hx rfl (pc0 := 154) (pc' := 175) rfl (hb hby at_154) (by decide) (by decide) ?_
    exact kt
end Law
def Q0 (h0 : Heap) (n0 : Nat) (v : Option Value) (h : Heap) (L : List Loc) : Prop := v = some (.int 1) ∧ Fr n0 L
set_option maxRecDepth 65536 in
set_option maxHeartbeats 40000000 in
theorem rm0 (l : Launch) (Z : State) (a0 : Array Value) (hw : ∀ d ∈ tables_1, d.before a0 Z = true) (ws : List Jvm.Cond) (x y : Int64) (k : Int32) (h0 : Heap) (n0 : Nat) (Z0 : n0 ≤ h0.size) :
    MetFree l Jvm.Pilot.@@N@@.x (head1 (Jvm.Cond.code Jvm.Pilot.@@N@@.x code 15 ret :: ws) room_1) (fun aa U => aa = #[(.long x), (.long y), (.int k)] ∧ Z.Warmed39 U.vm ∧ U.heap = h0) (fun _ _ _ _ _ => True) (fun _ U o U' => ∃ v L, o = .returned v ∧ Q0  h0 n0 v U'.heap L ∧ FrameEnd U o U' L room_1.cells room_1.slots) := by
  refine MetFree.of_bodySF (plainFor_of_name pn_0) hisR ?_
  intro p e s m args below meth c s₁ Bd hml0 hP hK
  obtain ⟨rfl, hZ, hh⟩ := hP
  have hx := Bd.exec
  have hby := Bd.bytes
  have hml : c.maxLocals = 15 := hml0
  have hown : s.vm.findClass "com/example/hollin/hollin/base/AllocationProductPinLaw" = some m.cls := findClass_of_methodNamed Bd.named
  have hnm := (name_of_methodNamed Bd.named Bd.method).1
  have X0 : Stand p l e room_1 s m #[(.long x), (.long y), (.int k)] below meth c s₁ [] 0 0 := Stand.of_body Bd
  have e0 : s₁.heap = h0 := by rw [← hh, Bd.state]; rfl
  have N0 := Fr.nil n0
  have pre0 : ∀ t, Steps p.tables e below (s₁.setTop (mkF m 0 #[.val (.long x), .second, .val (.long y), .second, .val (.int k), .unset, .unset, .unset, .unset, .unset, .unset, .unset, .unset, .unset, .unset] [])) t → Steps p.tables e below (s₁.setTop (entryFrame m #[(.long x), (.long y), (.int k)] 15)) t := fun t kt0 => castTop (ef_0 m x y k) kt0

  obtain ⟨a, b1, sel, ha, hb1, st1⟩ := own_s1 X0 hx hZ hw hby hown x y k
  obtain ⟨b2, hb2, st2⟩ := own_s2 X0 hx hZ hw hby hown x y k a b1 sel ha hb1
  obtain ⟨b3, hb3, st3⟩ := own_s3 X0 hx hZ hw hby hown x y k a b2 sel ha hb2
  obtain ⟨b, hb0, st4⟩ := own_s4 X0 hx hZ hw hby hown x y k a b3 sel ha hb3
  obtain ⟨_, _, ⟨T4, L4, k4, n4⟩, -, X4, ⟨Lc4, hQ4, l4, y4, z4⟩, st5⟩ := Jvm.LawKit.callS X0 hx (y := (⟨"com/example/hollin/hollin/base/Allocation", "product", "(JJ)J"⟩ : MethodName)) hown (mvT hZ (hw _ (List.mem_of_getElem? (i := 1) rfl))) (mvT hZ (hw _ (List.mem_of_getElem? (i := 2) rfl))) (mvT hZ (hw _ (List.mem_of_getElem? (i := 3) rfl))) (mvT hZ (hw _ (List.mem_of_getElem? (i := 4) rfl))) (by decide) (backOf (W := 8) (rm1 l Z a0 hw [] a b h0 n0 Z0) hZ (hw _ (List.mem_of_getElem? (i := 4) rfl)) (hw _ (List.mem_of_getElem? (i := 3) rfl)) (by decide) (by decide)) (g := (mkF m 96 #[.val (.long x), .second, .val (.long y), .second, .val (.int k), .val (.long a), .second, .val (.long b), .second, .val (.int sel), .unset, .unset, .unset, .unset, .unset] [(.long b), (.long a)])) rfl (by rw [hml]; rfl) (argsL := [(.long a), (.long b)]) (rest := []) (lenOf pd_1 rfl) rfl (by show 2 * 0 + _ ≤ _; decide) (hb hby at_96) (fun _ _ => ⟨rfl, e0, (by decide : 0 + 0 ≤ _), (by decide : 0 + 0 ≤ _)⟩)
  dsimp only [Pt.U, Pt.locs, Pt.cells, Pt.slots] at X4 l4 y4 z4 st5 hQ4
  subst l4 y4 z4
  obtain ⟨rfl, N4q, e4⟩ := hQ4
  have hm := own_main ha hb0
  have st6 := own_s6 X4 hx hZ hw hby hown x y k a b sel (own_prod a b) (a * b)
  have st7 := own_s7 X4 hx hZ hw hby hown x y k a b sel (own_prod a b) (a * b) (own_fit a b (a * b)) hm.1 hm.2
  obtain ⟨fs, hr, hrun, hended, hW, hsame⟩ := X4.leave (v := some (.int (1 : Int32))) (fun h => by rw [Bd.returns] at h; cases h)
  refine ⟨_, _, pre0 _ ?_, hrun, hended, _, _, rfl, ?_, ⟨_, rfl⟩, hW, hsame.mono (by decide) (by decide)⟩
  rotate_left
  · show Q0 h0 n0 _ T4.heap _
    exact ⟨rfl, Fr.app N0 N4q⟩
  refine st1 _ ?_
  refine st2 _ ?_
  refine st3 _ ?_
  refine st4 _ ?_
  show Steps p.tables e below (s₁.setTop (mkF m 92 #[.val (.long x), .second, .val (.long y), .second, .val (.int k), .val (.long a), .second, .val (.long b), .second, .val (.int sel), .unset, .unset, .unset, .unset, .unset] [])) _
  refine XS.lload X0.here hx rfl (hb hby at_92) rfl ?_
  show Steps p.tables e below (s₁.setTop (mkF m 94 #[.val (.long x), .second, .val (.long y), .second, .val (.int k), .val (.long a), .second, .val (.long b), .second, .val (.int sel), .unset, .unset, .unset, .unset, .unset] [(.long a)])) _
  refine XS.lload X0.here hx rfl (hb hby at_94) rfl ?_
  show Steps p.tables e below (s₁.setTop (mkF m 96 #[.val (.long x), .second, .val (.long y), .second, .val (.int k), .val (.long a), .second, .val (.long b), .second, .val (.int sel), .unset, .unset, .unset, .unset, .unset] [(.long b), (.long a)])) _
  refine st5 _ ?_
  show Steps p.tables e below (T4.setTop (mkF m 99 #[.val (.long x), .second, .val (.long y), .second, .val (.int k), .val (.long a), .second, .val (.long b), .second, .val (.int sel), .unset, .unset, .unset, .unset, .unset] [(.long (own_prod a b))])) _
  refine XS.lstore X4.here hx rfl (hb hby at_99) rfl (l' := #[.val (.long x), .second, .val (.long y), .second, .val (.int k), .val (.long a), .second, .val (.long b), .second, .val (.int sel), .val (.long (own_prod a b)), .second, .unset, .unset, .unset]) rfl ?_
  show Steps p.tables e below (T4.setTop (mkF m 101 #[.val (.long x), .second, .val (.long y), .second, .val (.int k), .val (.long a), .second, .val (.long b), .second, .val (.int sel), .val (.long (own_prod a b)), .second, .unset, .unset, .unset] [])) _
  refine XS.lload X4.here hx rfl (hb hby at_101) rfl ?_
  show Steps p.tables e below (T4.setTop (mkF m 103 #[.val (.long x), .second, .val (.long y), .second, .val (.int k), .val (.long a), .second, .val (.long b), .second, .val (.int sel), .val (.long (own_prod a b)), .second, .unset, .unset, .unset] [(.long a)])) _
  refine XS.lload X4.here hx rfl (hb hby at_103) rfl ?_
  show Steps p.tables e below (T4.setTop (mkF m 105 #[.val (.long x), .second, .val (.long y), .second, .val (.int k), .val (.long a), .second, .val (.long b), .second, .val (.int sel), .val (.long (own_prod a b)), .second, .unset, .unset, .unset] [(.long b), (.long a)])) _
  refine XS.lmul X4.here hx rfl (hb hby at_105) rfl ?_
  show Steps p.tables e below (T4.setTop (mkF m 106 #[.val (.long x), .second, .val (.long y), .second, .val (.int k), .val (.long a), .second, .val (.long b), .second, .val (.int sel), .val (.long (own_prod a b)), .second, .unset, .unset, .unset] [(.long (a * b))])) _
  refine XS.lstore X4.here hx rfl (hb hby at_106) rfl (l' := #[.val (.long x), .second, .val (.long y), .second, .val (.int k), .val (.long a), .second, .val (.long b), .second, .val (.int sel), .val (.long (own_prod a b)), .second, .val (.long (a * b)), .second, .unset]) rfl ?_
  refine st6 _ ?_
  refine st7 _ ?_
  exact retN X4 hx (t := .boolean) Bd.returns (by simp) (hb hby at_175) hr
set_option maxRecDepth 65536 in
set_option maxHeartbeats 40000000 in
theorem comes_1 {Post : Tables → Env → Array Value → State → Outcome → State → Prop} (hpost : ∀ tb e args s v u, (limb_1_1.after args s (.returned v) u = true ∧ limb_1_2.after args s (.returned v) u = true ∧ True) → FrameEnd s (.returned v) u (Jvm.fieldLocs frame_1_writes args s ++ Jvm.arrayLocs frame_1_arrays args s ++ Jvm.staticLocs frame_1_statics s) 0 0 → Post tb e args s (.returned v) u) :
    ArmFor flags0 classFile x code maxLocals ret World_1 tables_1 room_1 Calls_1 rest_1 Pre_1 Post := by
  intro l hfl _ _ p e ha hc hk s m args below hf hA hF happ hP
  obtain ⟨hcalls, hrest, hpre⟩ := hP
  obtain ⟨-, -, -, hnamed, -, -, -, hat⟩ := (Spec.applies_iff hf).mp happ
  obtain ⟨hg, hn⟩ := and_e (Cond.before_iff.mp (show (Jvm.Cond.and given_1 narrow_1).before args s = true from hpre))
  obtain ⟨h1, h2⟩ := and_e hg
  obtain ⟨h3, h4⟩ := and_e h2
  obtain ⟨h5, h6⟩ := and_e h4
  obtain ⟨w0, w1, w2, rfl⟩ : ∃ w0 w1 w2 : Value, args = #[w0, w1, w2] := by
    have hs : args.size = 3 := by simpa [Cond.value, given_1] using h1
    obtain ⟨L⟩ := args
    match L, hs with
    | [w0, w1, w2], _ => exact ⟨w0, w1, w2, rfl⟩
  have hw := fun d (hd : d ∈ tables_1) => atoms_spec (ws := Jvm.Cond.code x code maxLocals ret :: tables_1) hat d (List.mem_cons_of_mem _ hd)
  obtain ⟨i5, e5⟩ := is_v h6
  obtain rfl : w2 = (.int i5) := Option.some.inj e5
  obtain ⟨i6, e6⟩ : ∃ j : Int64, w0 = .long j := by
    have q : (Jvm.Cond.isLong (Jvm.Term.arg 0)).before #[w0, w1, .int i5] s = true := Cond.before_iff.mpr h3
    cases w0 <;> simp [Cond.before, Cond.holds, Cond.value, Term.eval] at q
    exact ⟨_, rfl⟩
  subst e6
  obtain ⟨i7, e7⟩ : ∃ j : Int64, w1 = .long j := by
    have q : (Jvm.Cond.isLong (Jvm.Term.arg 1)).before #[.long i6, w1, .int i5] s = true := Cond.before_iff.mpr h5
    cases w1 <;> simp [Cond.before, Cond.holds, Cond.value, Term.eval] at q
    exact ⟨_, rfl⟩
  subst e7
  obtain ⟨n, o, h1, h2, h3, _, L, rfl, ⟨rfl, N⟩, hq⟩ := rm0 l s _ hw tables_1 i6 i7 i5 s.heap s.heap.size (Nat.le_refl _) p e ha hc hk s m _ below hf ((Spec.applies_iff_loose hf).mp happ).1 ⟨rfl, State.Warmed39.refl s, rfl⟩ trivial
  refine ⟨n, _, h1, h2, h3, hpost _ _ _ _ _ _ ⟨Cond.after_iff.mpr rfl, Cond.after_iff.mpr (eq_i res_at (Term.int_eval (1)) rfl), trivial⟩ ⟨hq.1, hq.2.1, (hq.2.2.sift fun y hy => Or.inr (N y hy)).mono (by decide) (by decide)⟩⟩
theorem main_1_1 : Claimed_1_1 := comes_1 fun _ _ _ _ _ _ h hF => ⟨h.1, hF⟩
theorem main_1_2 : Claimed_1_2 := comes_1 fun _ _ _ _ _ _ h hF => ⟨h.2.1, hF⟩
end Jvm.Pilot.@@N@@
namespace Jvm.Pilot.@@N@@
open Jvm Jvm.ClassFile Sem Op Lib Jvm.Free Jvm.Stand Jvm.Pilot.@@N@@.Jvm.D
/-! MADE BY PROGRAM (witnessworld.py) out of the Statement's table words and the real class files: 9 classes; the members and pool entries that the words name. The judged class is class 1, her method 1. -/
namespace start1
open Jvm.ClassFile
def u (s : String) : CpInfo := .utf8 (stringToUtf16 s)
/-- a pool by its gaps: so many unusable entries, then the entry; so many at the end -/
def gap : Nat → List CpInfo → List CpInfo
  | 0, r => r
  | n + 1, r => .unusable :: gap n r
def poolList (es : List (Nat × CpInfo)) (last : Nat) : List CpInfo := es.foldr (fun e r => gap e.1 (e.2 :: r)) (gap last [])
def pool (es : List (Nat × CpInfo)) (last : Nat) : Array CpInfo := ⟨poolList es last⟩
def fileOf (pool : Array CpInfo) (this : Nat) (attrs : Array Attribute := #[]) (ms : Array MethodInfo := #[]) (fl : Nat := 33) (sup : Nat := 0) (ifs : Array Nat := #[]) (fds : Array FieldInfo := #[]) : ClassFile where
  minorVersion := 0
  majorVersion := 65
  constantPool := pool
  accessFlags := fl
  thisClass := this
  superClass := sup
  interfaces := ifs
  fields := fds
  methods := ms
  attributes := attrs
def plain (name : String) (sup : Option ClassId) : Class where
  name := name
  kind := .ordinary
  loader := none
  accessFlags := 33
  super := sup
  interfaces := #[]
  cf := none
  fields := #[]
  methods := #[]
  instanceTypes := #[]
  staticTypes := #[]
  resolved := #[]
  callSites := []
  init := .initialized
  statics := none
  mirror := none

def pool0 : Array CpInfo := pool [(5, u "<init>"), (0, u "()V"), (1, .class_ 10), (1, u "java/lang/Object")] 113

def k0m0 : Method := { name := "<init>", desc := "()V", sig := { parameters := [], returnType := none }, accessFlags := 1, code := none }
/-- java/lang/Object -/
def k0 : Class := { plain "java/lang/Object" none with
  accessFlags := 33
  interfaces := #[]
  cf := some (fileOf pool0 8 #[] #[{ accessFlags := 1, nameIndex := 5, descriptorIndex := 6, attributes := #[] }] 33 0 #[] #[])
  fields := #[]
  methods := #[k0m0]
  instanceTypes := #[]
  staticTypes := #[]
  resolved := Array.replicate 124 none
  statics := none }

def pool1 : Array CpInfo := pool [(2, .class_ 4), (1, u "java/lang/Object"), (0, u "<init>"), (0, u "()V"), (2, .long 9223372036854775807), (1, .methodref 12 13), (0, .class_ 14), (0, .nameAndType 15 16), (0, u "com/example/hollin/hollin/base/Allocation"), (0, u "product"), (0, u "(JJ)J"), (0, .class_ 18), (0, u "com/example/hollin/hollin/base/AllocationProductPinLaw"), (2, u "law"), (0, u "(JJI)Z")] 3

def k1m0 : Method := { name := "<init>", desc := "()V", sig := { parameters := [], returnType := none }, accessFlags := 2, code := none }
def k1c1 : Code := { maxStack := 4, maxLocals := 15, code := code, exceptionTable := #[], attributes := #[] }
def k1m1 : Method := { name := "law", desc := "(JJI)Z", sig := { parameters := [.long, .long, .int], returnType := some .boolean }, accessFlags := 9, code := some k1c1 }
/-- com/example/hollin/hollin/base/AllocationProductPinLaw -/
def k1 : Class := { plain "com/example/hollin/hollin/base/AllocationProductPinLaw" (some 0) with
  accessFlags := 49
  interfaces := #[]
  cf := some (fileOf pool1 17 #[] #[{ accessFlags := 2, nameIndex := 5, descriptorIndex := 6, attributes := #[] }, { accessFlags := 9, nameIndex := 21, descriptorIndex := 22, attributes := #[] }] 49 2 #[] #[])
  fields := #[]
  methods := #[k1m0, k1m1]
  instanceTypes := #[]
  staticTypes := #[]
  resolved := Array.replicate 26 none
  statics := none }

def pool2 : Array CpInfo := pool [(2, .class_ 4), (1, u "java/lang/Object"), (0, u "<init>"), (0, u "()V"), (7, .class_ 16), (1, u "com/example/hollin/hollin/base/Allocation"), (31, .long 9223372036854775807), (65, u "KIBIBYTE"), (0, u "D"), (1, u "UNIT_BYTES"), (0, u "I"), (1, u "POINTER_BYTES"), (11, u "(JJ)J"), (1, u "product")] 57

def k2m0 : Method := { name := "<init>", desc := "()V", sig := { parameters := [], returnType := none }, accessFlags := 2, code := none }
def k2c1 : Code := { maxStack := 6, maxLocals := 4, code := prog_3_method_7_code, exceptionTable := #[], attributes := #[] }
def k2m1 : Method := { name := "product", desc := "(JJ)J", sig := { parameters := [.long, .long], returnType := some .long }, accessFlags := 8, code := some k2c1 }
/-- com/example/hollin/hollin/base/Allocation -/
def k2 : Class := { plain "com/example/hollin/hollin/base/Allocation" (some 0) with
  accessFlags := 48
  interfaces := #[]
  cf := some (fileOf pool2 14 #[] #[{ accessFlags := 2, nameIndex := 5, descriptorIndex := 6, attributes := #[] }, { accessFlags := 8, nameIndex := 134, descriptorIndex := 132, attributes := #[] }] 48 2 #[] #[{ accessFlags := 26, nameIndex := 114, descriptorIndex := 115, attributes := #[] }, { accessFlags := 26, nameIndex := 117, descriptorIndex := 118, attributes := #[] }, { accessFlags := 26, nameIndex := 120, descriptorIndex := 118, attributes := #[] }])
  fields := #[{ name := "KIBIBYTE", type := .double, accessFlags := 26, slot := 0, constantValue := 0 }, { name := "UNIT_BYTES", type := .int, accessFlags := 26, slot := 1, constantValue := 0 }, { name := "POINTER_BYTES", type := .int, accessFlags := 26, slot := 2, constantValue := 0 }]
  methods := #[k2m0, k2m1]
  instanceTypes := #[]
  staticTypes := #[.double, .int, .int]
  resolved := Array.replicate 192 none
  statics := none }

def pool3 : Array CpInfo := pool [(1, u "java/lang/Cloneable"), (0, .class_ 1), (0, u "java/lang/Object"), (0, .class_ 3)] 3

/-- java/lang/Cloneable -/
def k3 : Class := { plain "java/lang/Cloneable" (some 0) with
  accessFlags := 1537
  interfaces := #[]
  cf := some (fileOf pool3 2 #[] #[] 1537 4 #[] #[])
  fields := #[]
  methods := #[]
  instanceTypes := #[]
  staticTypes := #[]
  resolved := Array.replicate 8 none
  statics := none }

def pool4 : Array CpInfo := pool [(1, u "java/io/Serializable"), (0, .class_ 1), (0, u "java/lang/Object"), (0, .class_ 3)] 3

/-- java/io/Serializable -/
def k4 : Class := { plain "java/io/Serializable" (some 0) with
  accessFlags := 1537
  interfaces := #[]
  cf := some (fileOf pool4 2 #[] #[] 1537 4 #[] #[])
  fields := #[]
  methods := #[]
  instanceTypes := #[]
  staticTypes := #[]
  resolved := Array.replicate 8 none
  statics := none }

/-- the primitive byte -/
def k5 : Class := { plain "byte" none with kind := .primitive 'B', accessFlags := 0x411 }
/-- [B -/
def k6 : Class := { plain "[B" (some 0) with kind := .array 5 .byte, interfaces := #[3, 4], accessFlags := 1041 }

/-- the primitive int -/
def k7 : Class := { plain "int" none with kind := .primitive 'I', accessFlags := 0x411 }
/-- [I -/
def k8 : Class := { plain "[I" (some 0) with kind := .array 7 .int, interfaces := #[3, 4], accessFlags := 1041 }

def heap : Heap := #[]
def classes : Array Class := #[k0, k1, k2, k3, k4, k5, k6, k7, k8]
def interned : List (Array UInt16 × Addr) := []
def slotsUsed : Nat := 0
def theMethod : MethodId := ⟨1, 1⟩
def args0 : Array Value := #[.long 5, .long 7, .int 3]
def aboutOver (below : List Frame) : State where
  vm := { classes := classes, interned := interned.toArray }
  heap := heap
  slotsUsed := slotsUsed
  threads := #[{ frames := .invoking theMethod args0 :: below }]
def below0 : List Frame := [.native { method := ⟨0, 0⟩, args := #[] }]
def about1 : State := aboutOver below0
def p0 : Program := .bare "" "" ""
def e0 : Env := launch0.env 0 0 0
theorem w_frames : about1.frames = Frame.invoking theMethod args0 :: below0 := rfl
set_option maxRecDepth 65536 in
theorem w_args : argsFit about1.vm theMethod args0 = true := by decide +kernel
set_option maxRecDepth 65536 in
theorem w_heap : heapFits about1 = true := by decide +kernel
set_option maxRecDepth 65536 in
theorem w_runnable : about1.curStatus? = some .runnable := by decide +kernel
set_option maxRecDepth 65536 in
theorem w_alone : about1.alone = true := by decide +kernel
set_option maxRecDepth 65536 in
theorem w_named : about1.methodNamed? x = some theMethod := by decide +kernel
set_option maxRecDepth 65536 in
theorem w_hears : about1.hears theMethod below0 = true := by decide +kernel
set_option maxRecDepth 65536 in
theorem w_ripe : about1.ripe theMethod args0 below0 = true := by decide +kernel
theorem w_running : about1.status = .running := rfl
set_option maxRecDepth 65536 in
theorem w_room : about1.hasRoom e0.platform room_1 = true :=
  launch0.hasRoom_least _ room_1 (by decide +kernel) (by decide +kernel) (by decide +kernel) (by decide +kernel) (by decide +kernel) (by decide +kernel)
theorem allAtoms_all (ts : List Jvm.Cond) (a : Array Jvm.Value) (st : Jvm.State) : (allAtoms ts).before a st = ts.all (fun c => c.before a st) := by
  induction ts with
  | nil => rfl
  | cons c t ih =>
    show (Jvm.Cond.and c (allAtoms t)).before a st = _
    rw [Jvm.Cond.before_and, ih, List.all_cons]
def words1 : List Jvm.Cond := Jvm.Cond.code x code maxLocals ret :: tables_1
/-- a 'code' word, met by the world's own term for the bytes: nothing is compared byte by byte -/
theorem code_word {y : MethodName} {bytes : ByteArray} {mx : Nat} {rt : Option FieldType} {a : Array Value} {s : State} {m : MethodId} {meth : Method} {c : Code} (h1 : s.methodNamed? y = some m) (h2 : s.vm.method? m = some meth) (h3 : meth.code = some c) (h4 : c.code = bytes)
    (h5 : (c.maxLocals == mx && c.exceptionTable.isEmpty && decide (c.maxStack ≤ mostOperands) && decide (meth.sig.returnType = rt) && !meth.locks && decide (parseMethodDescriptor y.desc = some meth.sig)) = true) : (Jvm.Cond.code y bytes mx rt).before a s = true := by
  simp only [Bool.and_eq_true, beq_iff_eq, Bool.not_eq_true', decide_eq_true_eq] at h5
  obtain ⟨⟨⟨⟨⟨g1, g2⟩, g3⟩, g4⟩, g5⟩, g6⟩ := h5
  simp [Cond.before, Cond.holds, Cond.value, h1, h2, h3, h4, g1, g2, g3, g4, g5, g6]
def isCode : Jvm.Cond → Bool
  | .code _ _ _ _ => true
  | _ => false
theorem all_split {L : List Jvm.Cond} {P : Jvm.Cond → Bool} (h1 : L.all (fun c => isCode c || P c) = true) (h2 : ∀ c ∈ L.filter isCode, P c = true) : L.all P = true := by
  refine List.all_eq_true.mpr fun c hc => ?_
  have h := List.all_eq_true.mp h1 c hc
  rcases Bool.eq_false_or_eq_true (isCode c) with hi | hi
  · exact h2 c (List.mem_filter.mpr ⟨hc, hi⟩)
  · simpa [hi] using h
set_option maxRecDepth 65536 in
theorem w_c0 : (Jvm.Cond.code x code maxLocals ret).before args0 about1 = true := code_word (m := ⟨1, 1⟩) (meth := k1m1) (c := k1c1) (by decide +kernel) rfl rfl rfl (by decide +kernel)
set_option maxRecDepth 65536 in
theorem w_c1 : (Jvm.Cond.code ({ cls := "com/example/hollin/hollin/base/Allocation", name := "product", desc := "(JJ)J" } : Jvm.MethodName) prog_3_method_7_code (4 : Nat) (Option.some Jvm.ClassFile.FieldType.long)).before args0 about1 = true := code_word (m := ⟨2, 1⟩) (meth := k2m1) (c := k2c1) (by decide +kernel) rfl rfl rfl (by decide +kernel)
def codes1 : List Jvm.Cond := [Jvm.Cond.code x code maxLocals ret, Jvm.Cond.code ({ cls := "com/example/hollin/hollin/base/Allocation", name := "product", desc := "(JJ)J" } : Jvm.MethodName) prog_3_method_7_code (4 : Nat) (Option.some Jvm.ClassFile.FieldType.long)]
set_option maxRecDepth 65536 in
theorem codes_eq : words1.filter isCode = codes1 := rfl
theorem w_codes : ∀ c ∈ words1.filter isCode, c.before args0 about1 = true := by
  rw [codes_eq]
  intro c hc
  simp only [codes1, List.mem_cons, List.not_mem_nil, or_false] at hc
  rcases hc with rfl | rfl
  · exact w_c0
  · exact w_c1
set_option maxRecDepth 65536 in
theorem w_t1 : words1.all (fun c => isCode c || c.before args0 about1) = true := by decide +kernel
theorem w_tables : (allAtoms (Jvm.Cond.code x code maxLocals ret :: tables_1)).before args0 about1 = true := by
  rw [allAtoms_all]
  show words1.all (fun c => c.before args0 about1) = true
  refine all_split ?_ w_codes
  rw [w_t1]
set_option maxRecDepth 65536 in
theorem w_case : (Jvm.Cond.and given_1 narrow_1).before args0 about1 = true := by decide +kernel
theorem w_applies : (headSpec (Jvm.Cond.code x code maxLocals ret :: tables_1) room_1).applies x e0.platform about1 = true :=
  (Spec.applies_iff w_frames).mpr ⟨w_running, w_runnable, w_alone, w_named, w_hears, w_ripe, w_room, w_tables⟩
theorem atStart : AtStart classFile x code maxLocals ret World_1 tables_1 room_1 Calls_1 rest_1 Pre_1 launch0 p0 e0 about1 theMethod args0 below0 :=
  ⟨lists_1, trivial, launch0.admits_env _ _ _, launch0.least_env, fairChoices_fair.cas, fairChoices_fair.clock, w_frames, w_args, w_heap, w_applies, trivial, trivial, w_case⟩
end start1
theorem witness_1 : WitnessClaimed_1 := ⟨start1.p0, start1.e0, start1.about1, start1.theMethod, start1.args0, start1.below0, start1.atStart⟩
end Jvm.Pilot.@@N@@
