import JvmDerived
import JvmDerived.Pilot.@@N@@Statement
import JvmDerived.Pilot.@@N@@Code
set_option linter.unusedVariables false
set_option linter.unusedSimpArgs false
namespace Jvm.RoadKit
open Sem ClassFile Op Lib Jvm.Stand Jvm.Free Jvm.LawKit
section New
variable {p : Program} {l : Launch} {e : Env} {R : Room} {s : State} {m : MethodId} {args : Array Value} {below : List Frame} {meth : Method} {c : Code} {T : State} {locs : List Loc} {cells slots : Nat}
theorem retI (X : Stand p l e R s m args below meth c T locs cells slots) (hx : p.tables.exec = Jvm.exec) {pc : Nat} {Ls : Array Slot} {z : Int32} {rest : List Value} (hret : meth.sig.returnType = some .int) (hd : decode c.code pc = .ok (.ireturn, 1)) {fs : List Frame}
    (hl : ∀ (f : JFrame) (acts : List Action), f.method = m → f.locked = none → f.entered = [] → (doReturn e (T.setTop f) acts (some (.int z))).1 = T.setFrames fs) : Steps p.tables e below (T.setTop (mkF m pc Ls (.int z :: rest))) (T.setFrames fs) := by
  have hm' : T.vm.method? m = some meth := X.method'
  have hn : narrow .int (.int z) = .int z := rfl
  show Steps p.tables e below (T.setTop { method := m, pc := pc, locals := Ls, stack := _ :: rest, locked := none }) _
  jvm_step X.here [X.here.top, hx, hd, hm', hret, hn]
  first | (intro acts; rw [hl _ acts rfl rfl rfl]) | rw [hl _ _ rfl rfl rfl]
  exact Steps.refl _
end New
end Jvm.RoadKit
namespace Jvm.Pilot.@@N@@
open Jvm Jvm.ClassFile Sem Op Lib Jvm.Free Jvm.Stand Jvm.LawKit Jvm.RoadKit Bundle Jvm.Pilot.@@N@@.Jvm.D

theorem d1_0 : decode prog_494_method_3_code 0 = .ok (.iconst 0, 1) := by decide +kernel
theorem d1_1 : decode prog_494_method_3_code 1 = .ok (.istore_n 1, 1) := by decide +kernel
theorem d1_2 : decode prog_494_method_3_code 2 = .ok (.aload_n 0, 1) := by decide +kernel
theorem d1_3 : decode prog_494_method_3_code 3 = .ok (.arraylength, 1) := by decide +kernel
theorem d1_4 : decode prog_494_method_3_code 4 = .ok (.iconst 3, 1) := by decide +kernel
theorem d1_5 : decode prog_494_method_3_code 5 = .ok (.if_icmp .lt 29, 3) := by decide +kernel
theorem d1_8 : decode prog_494_method_3_code 8 = .ok (.aload_n 0, 1) := by decide +kernel
theorem d1_9 : decode prog_494_method_3_code 9 = .ok (.iconst 0, 1) := by decide +kernel
theorem d1_10 : decode prog_494_method_3_code 10 = .ok (.baload, 1) := by decide +kernel
theorem d1_11 : decode prog_494_method_3_code 11 = .ok (.bipush (-17), 2) := by decide +kernel
theorem d1_13 : decode prog_494_method_3_code 13 = .ok (.if_icmp .ne 21, 3) := by decide +kernel
theorem d1_16 : decode prog_494_method_3_code 16 = .ok (.aload_n 0, 1) := by decide +kernel
theorem d1_17 : decode prog_494_method_3_code 17 = .ok (.iconst 1, 1) := by decide +kernel
theorem d1_18 : decode prog_494_method_3_code 18 = .ok (.baload, 1) := by decide +kernel
theorem d1_19 : decode prog_494_method_3_code 19 = .ok (.bipush (-69), 2) := by decide +kernel
theorem d1_21 : decode prog_494_method_3_code 21 = .ok (.if_icmp .ne 13, 3) := by decide +kernel
theorem d1_24 : decode prog_494_method_3_code 24 = .ok (.aload_n 0, 1) := by decide +kernel
theorem d1_25 : decode prog_494_method_3_code 25 = .ok (.iconst 2, 1) := by decide +kernel
theorem d1_26 : decode prog_494_method_3_code 26 = .ok (.baload, 1) := by decide +kernel
theorem d1_27 : decode prog_494_method_3_code 27 = .ok (.bipush (-65), 2) := by decide +kernel
theorem d1_29 : decode prog_494_method_3_code 29 = .ok (.if_icmp .ne 5, 3) := by decide +kernel
theorem d1_32 : decode prog_494_method_3_code 32 = .ok (.iconst 3, 1) := by decide +kernel
theorem d1_33 : decode prog_494_method_3_code 33 = .ok (.istore_n 1, 1) := by decide +kernel
theorem d1_34 : decode prog_494_method_3_code 34 = .ok (.iload_n 1, 1) := by decide +kernel
theorem d1_35 : decode prog_494_method_3_code 35 = .ok (.aload_n 0, 1) := by decide +kernel
theorem d1_36 : decode prog_494_method_3_code 36 = .ok (.arraylength, 1) := by decide +kernel
theorem d1_37 : decode prog_494_method_3_code 37 = .ok (.if_icmp .ge 41, 3) := by decide +kernel
theorem d1_40 : decode prog_494_method_3_code 40 = .ok (.aload_n 0, 1) := by decide +kernel
theorem d1_41 : decode prog_494_method_3_code 41 = .ok (.iload_n 1, 1) := by decide +kernel
theorem d1_42 : decode prog_494_method_3_code 42 = .ok (.baload, 1) := by decide +kernel
theorem d1_43 : decode prog_494_method_3_code 43 = .ok (.bipush 32, 2) := by decide +kernel
theorem d1_45 : decode prog_494_method_3_code 45 = .ok (.if_icmp .eq 27, 3) := by decide +kernel
theorem d1_48 : decode prog_494_method_3_code 48 = .ok (.aload_n 0, 1) := by decide +kernel
theorem d1_49 : decode prog_494_method_3_code 49 = .ok (.iload_n 1, 1) := by decide +kernel
theorem d1_50 : decode prog_494_method_3_code 50 = .ok (.baload, 1) := by decide +kernel
theorem d1_51 : decode prog_494_method_3_code 51 = .ok (.bipush 9, 2) := by decide +kernel
theorem d1_53 : decode prog_494_method_3_code 53 = .ok (.if_icmp .eq 19, 3) := by decide +kernel
theorem d1_56 : decode prog_494_method_3_code 56 = .ok (.aload_n 0, 1) := by decide +kernel
theorem d1_57 : decode prog_494_method_3_code 57 = .ok (.iload_n 1, 1) := by decide +kernel
theorem d1_58 : decode prog_494_method_3_code 58 = .ok (.baload, 1) := by decide +kernel
theorem d1_59 : decode prog_494_method_3_code 59 = .ok (.bipush 10, 2) := by decide +kernel
theorem d1_61 : decode prog_494_method_3_code 61 = .ok (.if_icmp .eq 11, 3) := by decide +kernel
theorem d1_64 : decode prog_494_method_3_code 64 = .ok (.aload_n 0, 1) := by decide +kernel
theorem d1_65 : decode prog_494_method_3_code 65 = .ok (.iload_n 1, 1) := by decide +kernel
theorem d1_66 : decode prog_494_method_3_code 66 = .ok (.baload, 1) := by decide +kernel
theorem d1_67 : decode prog_494_method_3_code 67 = .ok (.bipush 13, 2) := by decide +kernel
theorem d1_69 : decode prog_494_method_3_code 69 = .ok (.if_icmp .ne 9, 3) := by decide +kernel
theorem d1_72 : decode prog_494_method_3_code 72 = .ok (.iinc 1 1, 3) := by decide +kernel
theorem d1_75 : decode prog_494_method_3_code 75 = .ok (.goto (-41), 3) := by decide +kernel
theorem d1_78 : decode prog_494_method_3_code 78 = .ok (.iload_n 1, 1) := by decide +kernel
theorem d1_79 : decode prog_494_method_3_code 79 = .ok (.aload_n 0, 1) := by decide +kernel
theorem d1_80 : decode prog_494_method_3_code 80 = .ok (.arraylength, 1) := by decide +kernel
theorem d1_81 : decode prog_494_method_3_code 81 = .ok (.if_icmp .ge 15, 3) := by decide +kernel
theorem d1_84 : decode prog_494_method_3_code 84 = .ok (.aload_n 0, 1) := by decide +kernel
theorem d1_85 : decode prog_494_method_3_code 85 = .ok (.iload_n 1, 1) := by decide +kernel
theorem d1_86 : decode prog_494_method_3_code 86 = .ok (.baload, 1) := by decide +kernel
theorem d1_87 : decode prog_494_method_3_code 87 = .ok (.bipush 60, 2) := by decide +kernel
theorem d1_89 : decode prog_494_method_3_code 89 = .ok (.if_icmp .ne 7, 3) := by decide +kernel
theorem d1_92 : decode prog_494_method_3_code 92 = .ok (.iconst 1, 1) := by decide +kernel
theorem d1_93 : decode prog_494_method_3_code 93 = .ok (.goto 4, 3) := by decide +kernel
theorem d1_96 : decode prog_494_method_3_code 96 = .ok (.iconst 0, 1) := by decide +kernel
theorem d1_97 : decode prog_494_method_3_code 97 = .ok (.ireturn, 1) := by decide +kernel
theorem d2_0 : decode method_3_code 0 = .ok (.iload_n 1, 1) := by decide +kernel
theorem d2_1 : decode method_3_code 1 = .ok (.aload_n 0, 1) := by decide +kernel
theorem d2_2 : decode method_3_code 2 = .ok (.arraylength, 1) := by decide +kernel
theorem d2_3 : decode method_3_code 3 = .ok (.if_icmp .ge 9, 3) := by decide +kernel
theorem d2_6 : decode method_3_code 6 = .ok (.aload_n 0, 1) := by decide +kernel
theorem d2_7 : decode method_3_code 7 = .ok (.iload_n 1, 1) := by decide +kernel
theorem d2_8 : decode method_3_code 8 = .ok (.baload, 1) := by decide +kernel
theorem d2_9 : decode method_3_code 9 = .ok (.goto 4, 3) := by decide +kernel
theorem d2_12 : decode method_3_code 12 = .ok (.iconst 0, 1) := by decide +kernel
theorem d2_13 : decode method_3_code 13 = .ok (.ireturn, 1) := by decide +kernel
theorem d3_0 : decode method_4_code 0 = .ok (.iload_n 0, 1) := by decide +kernel
theorem d3_1 : decode method_4_code 1 = .ok (.bipush 32, 2) := by decide +kernel
theorem d3_3 : decode method_4_code 3 = .ok (.if_icmp .eq 21, 3) := by decide +kernel
theorem d3_6 : decode method_4_code 6 = .ok (.iload_n 0, 1) := by decide +kernel
theorem d3_7 : decode method_4_code 7 = .ok (.bipush 9, 2) := by decide +kernel
theorem d3_9 : decode method_4_code 9 = .ok (.if_icmp .eq 15, 3) := by decide +kernel
theorem d3_12 : decode method_4_code 12 = .ok (.iload_n 0, 1) := by decide +kernel
theorem d3_13 : decode method_4_code 13 = .ok (.bipush 10, 2) := by decide +kernel
theorem d3_15 : decode method_4_code 15 = .ok (.if_icmp .eq 9, 3) := by decide +kernel
theorem d3_18 : decode method_4_code 18 = .ok (.iload_n 0, 1) := by decide +kernel
theorem d3_19 : decode method_4_code 19 = .ok (.bipush 13, 2) := by decide +kernel
theorem d3_21 : decode method_4_code 21 = .ok (.if_icmp .ne 7, 3) := by decide +kernel
theorem d3_24 : decode method_4_code 24 = .ok (.iconst 1, 1) := by decide +kernel
theorem d3_25 : decode method_4_code 25 = .ok (.goto 4, 3) := by decide +kernel
theorem d3_28 : decode method_4_code 28 = .ok (.iconst 0, 1) := by decide +kernel
theorem d3_29 : decode method_4_code 29 = .ok (.ireturn, 1) := by decide +kernel
theorem d4_0 : decode method_5_code 0 = .ok (.iload_n 0, 1) := by decide +kernel
theorem d4_1 : decode method_5_code 1 = .ok (.iconst 4, 1) := by decide +kernel
theorem d4_2 : decode method_5_code 2 = .ok (.iload_n 3, 1) := by decide +kernel
theorem d4_3 : decode method_5_code 3 = .ok (.imul, 1) := by decide +kernel
theorem d4_4 : decode method_5_code 4 = .ok (.iushr, 1) := by decide +kernel
theorem d4_5 : decode method_5_code 5 = .ok (.bipush 15, 2) := by decide +kernel
theorem d4_7 : decode method_5_code 7 = .ok (.iand, 1) := by decide +kernel
theorem d4_8 : decode method_5_code 8 = .ok (.istore 4, 2) := by decide +kernel
theorem d4_10 : decode method_5_code 10 = .ok (.iload 4, 2) := by decide +kernel
theorem d4_12 : decode method_5_code 12 = .ok (.ifCond .ne 6, 3) := by decide +kernel
theorem d4_15 : decode method_5_code 15 = .ok (.bipush (-17), 2) := by decide +kernel
theorem d4_17 : decode method_5_code 17 = .ok (.ireturn, 1) := by decide +kernel
theorem d4_18 : decode method_5_code 18 = .ok (.iload 4, 2) := by decide +kernel
theorem d4_20 : decode method_5_code 20 = .ok (.iconst 1, 1) := by decide +kernel
theorem d4_21 : decode method_5_code 21 = .ok (.if_icmp .ne 6, 3) := by decide +kernel
theorem d4_24 : decode method_5_code 24 = .ok (.bipush (-69), 2) := by decide +kernel
theorem d4_26 : decode method_5_code 26 = .ok (.ireturn, 1) := by decide +kernel
theorem d4_27 : decode method_5_code 27 = .ok (.iload 4, 2) := by decide +kernel
theorem d4_29 : decode method_5_code 29 = .ok (.iconst 2, 1) := by decide +kernel
theorem d4_30 : decode method_5_code 30 = .ok (.if_icmp .ne 6, 3) := by decide +kernel
theorem d4_33 : decode method_5_code 33 = .ok (.bipush (-65), 2) := by decide +kernel
theorem d4_35 : decode method_5_code 35 = .ok (.ireturn, 1) := by decide +kernel
theorem d4_36 : decode method_5_code 36 = .ok (.iload 4, 2) := by decide +kernel
theorem d4_38 : decode method_5_code 38 = .ok (.iconst 3, 1) := by decide +kernel
theorem d4_39 : decode method_5_code 39 = .ok (.if_icmp .ne 6, 3) := by decide +kernel
theorem d4_42 : decode method_5_code 42 = .ok (.bipush 32, 2) := by decide +kernel
theorem d4_44 : decode method_5_code 44 = .ok (.ireturn, 1) := by decide +kernel
theorem d4_45 : decode method_5_code 45 = .ok (.iload 4, 2) := by decide +kernel
theorem d4_47 : decode method_5_code 47 = .ok (.iconst 4, 1) := by decide +kernel
theorem d4_48 : decode method_5_code 48 = .ok (.if_icmp .ne 6, 3) := by decide +kernel
theorem d4_51 : decode method_5_code 51 = .ok (.bipush 9, 2) := by decide +kernel
theorem d4_53 : decode method_5_code 53 = .ok (.ireturn, 1) := by decide +kernel
theorem d4_54 : decode method_5_code 54 = .ok (.iload 4, 2) := by decide +kernel
theorem d4_56 : decode method_5_code 56 = .ok (.iconst 5, 1) := by decide +kernel
theorem d4_57 : decode method_5_code 57 = .ok (.if_icmp .ne 6, 3) := by decide +kernel
theorem d4_60 : decode method_5_code 60 = .ok (.bipush 10, 2) := by decide +kernel
theorem d4_62 : decode method_5_code 62 = .ok (.ireturn, 1) := by decide +kernel
theorem d4_63 : decode method_5_code 63 = .ok (.iload 4, 2) := by decide +kernel
theorem d4_65 : decode method_5_code 65 = .ok (.bipush 6, 2) := by decide +kernel
theorem d4_67 : decode method_5_code 67 = .ok (.if_icmp .ne 6, 3) := by decide +kernel
theorem d4_70 : decode method_5_code 70 = .ok (.bipush 13, 2) := by decide +kernel
theorem d4_72 : decode method_5_code 72 = .ok (.ireturn, 1) := by decide +kernel
theorem d4_73 : decode method_5_code 73 = .ok (.iload 4, 2) := by decide +kernel
theorem d4_75 : decode method_5_code 75 = .ok (.bipush 7, 2) := by decide +kernel
theorem d4_77 : decode method_5_code 77 = .ok (.if_icmp .ne 6, 3) := by decide +kernel
theorem d4_80 : decode method_5_code 80 = .ok (.bipush 60, 2) := by decide +kernel
theorem d4_82 : decode method_5_code 82 = .ok (.ireturn, 1) := by decide +kernel
theorem d4_83 : decode method_5_code 83 = .ok (.lload_n 1, 1) := by decide +kernel
theorem d4_84 : decode method_5_code 84 = .ok (.bipush 8, 2) := by decide +kernel
theorem d4_86 : decode method_5_code 86 = .ok (.iload_n 3, 1) := by decide +kernel
theorem d4_87 : decode method_5_code 87 = .ok (.imul, 1) := by decide +kernel
theorem d4_88 : decode method_5_code 88 = .ok (.lushr, 1) := by decide +kernel
theorem d4_89 : decode method_5_code 89 = .ok (.l2i, 1) := by decide +kernel
theorem d4_90 : decode method_5_code 90 = .ok (.i2b, 1) := by decide +kernel
theorem d4_91 : decode method_5_code 91 = .ok (.ireturn, 1) := by decide +kernel
theorem pn_0 : plainName "com/example/plinth/plinth/cli/InputFileIsXmlPinLaw" = true := by first | (simp [plainName, overriddenIn]; done) | decide +kernel
theorem pn_1 : plainName "com/example/plinth/plinth/cli/InputFile" = true := by first | (simp [plainName, overriddenIn]; done) | decide +kernel
theorem pd_pick : parseMethodDescriptor "(IJI)B" = some ⟨[.int, .long, .int], some .byte⟩ := by decide +kernel
theorem pd_at : parseMethodDescriptor "([BI)I" = some ⟨[(.array .byte), .int], some .int⟩ := by decide +kernel
theorem pd_ws : parseMethodDescriptor "(I)Z" = some ⟨[.int], some .boolean⟩ := by decide +kernel
theorem pd_xml : parseMethodDescriptor "([B)Z" = some ⟨[(.array .byte)], some .boolean⟩ := by decide +kernel
theorem ef_0 (m : MethodId) (x0 : Int32) (x1 : Int32) (x2 : Int64) : entryFrame m #[(.int x0), (.int x1), (.long x2)] 11 = mkF m 0 #[.val (.int x0), .val (.int x1), .val (.long x2), .second, .unset, .unset, .unset, .unset, .unset, .unset, .unset] [] := by first | (simp [entryFrame, mkF, argsToLocals, Value.category]; done) | rfl
theorem ef_1 (m : MethodId) (x0 : Addr) : entryFrame m #[(.ref x0)] 2 = mkF m 0 #[.val (.ref x0), .unset] [] := by first | (simp [entryFrame, mkF, argsToLocals, Value.category]; done) | rfl
theorem ef_2 (m : MethodId) (x0 : Addr) (x1 : Int32) : entryFrame m #[(.ref x0), (.int x1)] 2 = mkF m 0 #[.val (.ref x0), .val (.int x1)] [] := by first | (simp [entryFrame, mkF, argsToLocals, Value.category]; done) | rfl
theorem ef_3 (m : MethodId) (x0 : Int32) : entryFrame m #[(.int x0)] 1 = mkF m 0 #[.val (.int x0)] [] := by first | (simp [entryFrame, mkF, argsToLocals, Value.category]; done) | rfl
theorem ef_4 (m : MethodId) (x0 : Int32) (x1 : Int64) (x2 : Int32) : entryFrame m #[(.int x0), (.long x1), (.int x2)] 5 = mkF m 0 #[.val (.int x0), .val (.long x1), .second, .val (.int x2), .unset] [] := by first | (simp [entryFrame, mkF, argsToLocals, Value.category]; done) | rfl

/-! plain: the array's ints, whitespace, the scan -/
def own_g (cl : Cell) (k : Nat) : Int32 := match cl.slots[k]? with
  | some (.int x) => x
  | _ => 0
def own_ints (cl : Cell) : Prop := ∀ k, k < cl.slots.size → ∃ x : Int32, cl.slots[k]? = some (.int x)
theorem own_g_at {cl : Cell} (H : own_ints cl) {k : Nat} (hk : k < cl.slots.size) : cl.slots[k]? = some (.int (own_g cl k)) := by
  obtain ⟨x, hx⟩ := H k hk
  simp [own_g, hx]
theorem own_g_out {cl : Cell} {k : Nat} (hk : cl.slots.size ≤ k) : own_g cl k = 0 := by
  have : cl.slots[k]? = none := Array.getElem?_eq_none hk
  simp [own_g, this]
theorem own_ints_set {cl : Cell} (H : own_ints cl) (j : Nat) (x : Int32) : own_ints (cl.setSlot j (.int x)) := by
  intro k hk
  rw [sz_set] at hk
  by_cases u : j = k
  · subst u; exact ⟨x, by simp [Cell.setSlot, hk]⟩
  · obtain ⟨y, hy⟩ := H k hk
    exact ⟨y, by simp only [Cell.setSlot]; rw [Array.getElem?_setIfInBounds_ne u]; exact hy⟩
theorem own_ints_new (k : ClassId) (n : Int32) : own_ints (newA k .byte n) := by
  intro i hi
  rw [sz_new] at hi
  exact ⟨0, by simp [newA, hi, defaultValue]⟩
def own_ws (v : Int32) : Int32 := if v = 32 ∨ v = 9 ∨ v = 10 ∨ v = 13 then 1 else 0
theorem own_ws01 (v : Int32) : own_ws v = 0 ∨ own_ws v = 1 := by unfold own_ws; split <;> simp
theorem own_nar_ws (v : Int32) : nar .boolean (own_ws v) = own_ws v := by rcases own_ws01 v with h | h <;> rw [h] <;> rfl
def own_scan (g : Nat → Int32) : Nat → Nat → Int32
  | 0, _ => 0
  | k + 1, i => if own_ws (g i) = 1 then own_scan g k (i + 1) else if g i = 60 then 1 else 0
theorem own_scan01 (g : Nat → Int32) : ∀ k i, own_scan g k i = 0 ∨ own_scan g k i = 1
  | 0, _ => Or.inl rfl
  | k + 1, i => by
    unfold own_scan
    split
    · exact own_scan01 g k (i + 1)
    · split
      · exact Or.inr rfl
      · exact Or.inl rfl
theorem own_nar_scan (g : Nat → Int32) (k i : Nat) : nar .boolean (own_scan g k i) = own_scan g k i := by rcases own_scan01 g k i with h | h <;> rw [h] <;> rfl
theorem own_scan_out {g : Nat → Int32} {i : Nat} (h : g i = 0) : ∀ k, own_scan g k i = 0
  | 0 => rfl
  | k + 1 => by unfold own_scan; rw [h]; rfl
def own_bom (g : Nat → Int32) : Nat := if g 0 = -17 ∧ g 1 = -69 ∧ g 2 = -65 then 3 else 0
/-- the law's own fold: what is found so far (r), whether all so far was white (w) -/
def own_r (g : Nat → Int32) (r w : Int32) (i : Nat) : Int32 := r ||| (if ¬ w = 0 ∧ g i = 60 then 1 else 0)
def own_w (g : Nat → Int32) (w : Int32) (i : Nat) : Int32 := w &&& own_ws (g i)
def own_fold (g : Nat → Int32) : Nat → Nat → Int32 → Int32 → Int32
  | 0, _, r, _ => r
  | k + 1, i, r, w => own_fold g k (i + 1) (own_r g r w i) (own_w g w i)
theorem own_fold0 (g : Nat → Int32) : ∀ k i r, (r = 0 ∨ r = 1) → own_fold g k i r 0 = r
  | 0, _, _, _ => rfl
  | k + 1, i, r, hr => by
    have e1 : own_r g r 0 i = r := by rcases hr with rfl | rfl <;> simp [own_r]
    have e2 : own_w g 0 i = 0 := by rcases own_ws01 (g i) with h | h <;> simp [own_w, h]
    unfold own_fold
    rw [e1, e2]
    exact own_fold0 g k (i + 1) r hr
theorem own_fold_scan (g : Nat → Int32) : ∀ k i, own_fold g k i 0 1 = own_scan g k i
  | 0, _ => rfl
  | k + 1, i => by
    unfold own_fold own_scan
    rcases own_ws01 (g i) with h | h
    · have e2 : own_w g 1 i = 0 := by simp [own_w, h]
      rw [e2, h]
      by_cases h60 : g i = 60
      · have e1 : own_r g 0 1 i = 1 := by simp [own_r, h60]
        rw [e1, own_fold0 g k (i + 1) 1 (Or.inr rfl)]
        simp [h60]
      · have e1 : own_r g 0 1 i = 0 := by simp [own_r, h60]
        rw [e1, own_fold0 g k (i + 1) 0 (Or.inl rfl)]
        simp [h60]
    · have e2 : own_w g 1 i = 1 := by simp [own_w, h]
      have h60 : ¬ g i = 60 := by intro q; rw [q] at h; revert h; decide
      have e1 : own_r g 0 1 i = 0 := by simp [own_r, h60]
      rw [e1, e2, own_fold_scan g k (i + 1)]
      simp [h]
/-! numbers -/
theorem own_lt {k n : Nat} (hk : k < 2 ^ 31) (hn : n < 2 ^ 31) : k.toInt32 < n.toInt32 ↔ k < n := by
  rw [Int32.lt_iff_toInt_lt, len_toInt hk, len_toInt hn]; omega
theorem own_clamp {k : Nat} (hk : k < 2 ^ 31) : k.toInt32.toNatClampNeg = k := by
  simp only [Int32.toNatClampNeg, len_toInt hk]; rfl
theorem own_succ (k : Nat) : k.toInt32 + (1 : Int32) = (k + 1).toInt32 := (Int32.ofNat_add k 1).symm
theorem own_n9 (x : Int32) : ¬ ((x &&& 15) - ((x &&& 15) / 9) * 9) < 0 ∧ ((x &&& 15) - ((x &&& 15) / 9) * 9).toNatClampNeg ≤ 8 := by
  have h : ∀ b : BitVec 32, (b &&& 15#32).toNat < 16 := fun b => by
    rw [BitVec.toNat_and]; exact Nat.lt_succ_of_le Nat.and_le_right
  have h1 := h x.toBitVec
  have key : ∀ n : Nat, n < 16 → ¬ ((Int32.ofBitVec (BitVec.ofNat 32 n)) - ((Int32.ofBitVec (BitVec.ofNat 32 n)) / 9) * 9) < 0 ∧ ((Int32.ofBitVec (BitVec.ofNat 32 n)) - ((Int32.ofBitVec (BitVec.ofNat 32 n)) / 9) * 9).toNatClampNeg ≤ 8 := by decide +kernel
  have e : x &&& 15 = Int32.ofBitVec (BitVec.ofNat 32 (x.toBitVec &&& 15#32).toNat) := by
    rw [BitVec.ofNat_toNat, BitVec.setWidth_eq]; rfl
  rw [e]; exact key _ h1
/-! one step after another -/
def own_Ld (p : Program) (e : Env) (below : List Frame) (T : State) (g : JFrame) (T' : State) (g' : JFrame) : Prop := ∀ target, Steps p.tables e below (T'.setTop g') target → Steps p.tables e below (T.setTop g) target

def Q3 (p1 : Int32) (h0 : Heap) (n0 : Nat) (v : Option Value) (h : Heap) (L : List Loc) : Prop := v = some (.int (own_ws p1)) ∧ Fr n0 L ∧ h = h0
set_option maxRecDepth 65536 in
set_option maxHeartbeats 40000000 in
theorem rm3 (l : Launch) (Z : State) (a0 : Array Value) (hw : ∀ d ∈ tables_1, d.before a0 Z = true) (ws : List Jvm.Cond) (p1 : Int32) (h0 : Heap) (n0 : Nat) (Z0 : n0 ≤ h0.size) :
    MetFree l (⟨"com/example/plinth/plinth/cli/InputFileIsXmlPinLaw", "isWs", "(I)Z"⟩ : MethodName) (head1 (Jvm.Cond.code (⟨"com/example/plinth/plinth/cli/InputFileIsXmlPinLaw", "isWs", "(I)Z"⟩ : MethodName) method_4_code 1 (some .boolean) :: ws) ({ frames := 0, cells := 0, slots := 0, locals := 0 } : Room)) (fun a U => a = #[(.int p1)] ∧ Z.Warmed39 U.vm ∧ U.heap = h0) (fun _ _ _ _ _ => True) (fun _ U o U' => ∃ v L, o = .returned v ∧ Q3 p1 h0 n0 v U'.heap L ∧ FrameEnd U o U' L ({ frames := 0, cells := 0, slots := 0, locals := 0 } : Room).cells ({ frames := 0, cells := 0, slots := 0, locals := 0 } : Room).slots) := by
  refine MetFree.of_bodySF (plainFor_of_name pn_0) hisR ?_
  intro p e s m args below meth c s₁ Bd hml0 hP hK
  obtain ⟨rfl, hZ, hh⟩ := hP
  have hx := Bd.exec
  have hby := Bd.bytes
  have hml : c.maxLocals = 1 := hml0
  have hown : s.vm.findClass "com/example/plinth/plinth/cli/InputFileIsXmlPinLaw" = some m.cls := findClass_of_methodNamed Bd.named
  have hnm := (name_of_methodNamed Bd.named Bd.method).1
  have X0 : Stand p l e ({ frames := 0, cells := 0, slots := 0, locals := 0 } : Room) s m #[(.int p1)] below meth c s₁ [] 0 0 := Stand.of_body Bd
  have e0 : s₁.heap = h0 := by rw [← hh, Bd.state]; rfl
  have N0 := Fr.nil n0
  have pre0 : ∀ t, Steps p.tables e below (s₁.setTop (mkF m 0 #[.val (.int p1)] [])) t → Steps p.tables e below (s₁.setTop (entryFrame m #[(.int p1)] 1)) t := fun t kt0 => castTop (ef_3 m p1) kt0

  suffices hs : ∀ t, Steps p.tables e below (s₁.setTop (mkF m 29 #[.val (.int p1)] [(.int (own_ws p1))])) t → Steps p.tables e below (s₁.setTop (mkF m 0 #[.val (.int p1)] [])) t by
    obtain ⟨fs, hr, hrun, hended, hW, hsame⟩ := X0.leave (v := some (.int (nar .boolean (own_ws p1)))) (fun h => by rw [Bd.returns] at h; cases h)
    refine ⟨_, _, pre0 _ (hs _ (retN X0 hx (t := .boolean) Bd.returns (by simp) (hb hby d3_29) hr)), hrun, hended, _, _, rfl, ?_, ⟨_, rfl⟩, hW, hsame.mono (by decide) (by decide)⟩
    show Q3 p1 h0 n0 _ s₁.heap _
    rw [e0]
    exact ⟨by rw [own_nar_ws], N0, rfl⟩
  intro t kt
  by_cases hc3 : p1 = (32 : Int32)
  · have ew : own_ws p1 = 1 := by simp [own_ws, hc3]
    rw [ew] at kt
    show Steps p.tables e below (s₁.setTop (mkF m 0 #[.val (.int p1)] [])) _
    refine XS.iloadN X0.here hx rfl (hb hby d3_0) rfl ?_
    show Steps p.tables e below (s₁.setTop (mkF m 1 #[.val (.int p1)] [(.int p1)])) _
    refine XS.bipush X0.here hx rfl (hb hby d3_1) ?_
    show Steps p.tables e below (s₁.setTop (mkF m 3 #[.val (.int p1)] [(.int (32 : Int32)), (.int p1)])) _
    refine XS.icmpYes X0.here hx rfl (pc0 := 3) (pc' := 24) rfl (hb hby d3_3) rfl (teq hc3).1 (by decide) (by decide) ?_
    show Steps p.tables e below (s₁.setTop (mkF m 24 #[.val (.int p1)] [])) _
    refine XS.iconst X0.here hx rfl (hb hby d3_24) ?_
    show Steps p.tables e below (s₁.setTop (mkF m 25 #[.val (.int p1)] [(.int (1 : Int32))])) _
    refine XS.goto X0.here hx rfl (pc0 := 25) (pc' := 29) rfl (hb hby d3_25) (by decide) (by decide) ?_
    exact kt
  · skip
    by_cases hc9 : p1 = (9 : Int32)
    · have ew : own_ws p1 = 1 := by simp [own_ws, hc3, hc9]
      rw [ew] at kt
      show Steps p.tables e below (s₁.setTop (mkF m 0 #[.val (.int p1)] [])) _
      refine XS.iloadN X0.here hx rfl (hb hby d3_0) rfl ?_
      show Steps p.tables e below (s₁.setTop (mkF m 1 #[.val (.int p1)] [(.int p1)])) _
      refine XS.bipush X0.here hx rfl (hb hby d3_1) ?_
      show Steps p.tables e below (s₁.setTop (mkF m 3 #[.val (.int p1)] [(.int (32 : Int32)), (.int p1)])) _
      refine XS.icmpNo X0.here hx rfl (hb hby d3_3) rfl (feq hc3).1 ?_
      show Steps p.tables e below (s₁.setTop (mkF m 6 #[.val (.int p1)] [])) _
      refine XS.iloadN X0.here hx rfl (hb hby d3_6) rfl ?_
      show Steps p.tables e below (s₁.setTop (mkF m 7 #[.val (.int p1)] [(.int p1)])) _
      refine XS.bipush X0.here hx rfl (hb hby d3_7) ?_
      show Steps p.tables e below (s₁.setTop (mkF m 9 #[.val (.int p1)] [(.int (9 : Int32)), (.int p1)])) _
      refine XS.icmpYes X0.here hx rfl (pc0 := 9) (pc' := 24) rfl (hb hby d3_9) rfl (teq hc9).1 (by decide) (by decide) ?_
      show Steps p.tables e below (s₁.setTop (mkF m 24 #[.val (.int p1)] [])) _
      refine XS.iconst X0.here hx rfl (hb hby d3_24) ?_
      show Steps p.tables e below (s₁.setTop (mkF m 25 #[.val (.int p1)] [(.int (1 : Int32))])) _
      refine XS.goto X0.here hx rfl (pc0 := 25) (pc' := 29) rfl (hb hby d3_25) (by decide) (by decide) ?_
      exact kt
    · skip
      by_cases hc15 : p1 = (10 : Int32)
      · have ew : own_ws p1 = 1 := by simp [own_ws, hc3, hc9, hc15]
        rw [ew] at kt
        show Steps p.tables e below (s₁.setTop (mkF m 0 #[.val (.int p1)] [])) _
        refine XS.iloadN X0.here hx rfl (hb hby d3_0) rfl ?_
        show Steps p.tables e below (s₁.setTop (mkF m 1 #[.val (.int p1)] [(.int p1)])) _
        refine XS.bipush X0.here hx rfl (hb hby d3_1) ?_
        show Steps p.tables e below (s₁.setTop (mkF m 3 #[.val (.int p1)] [(.int (32 : Int32)), (.int p1)])) _
        refine XS.icmpNo X0.here hx rfl (hb hby d3_3) rfl (feq hc3).1 ?_
        show Steps p.tables e below (s₁.setTop (mkF m 6 #[.val (.int p1)] [])) _
        refine XS.iloadN X0.here hx rfl (hb hby d3_6) rfl ?_
        show Steps p.tables e below (s₁.setTop (mkF m 7 #[.val (.int p1)] [(.int p1)])) _
        refine XS.bipush X0.here hx rfl (hb hby d3_7) ?_
        show Steps p.tables e below (s₁.setTop (mkF m 9 #[.val (.int p1)] [(.int (9 : Int32)), (.int p1)])) _
        refine XS.icmpNo X0.here hx rfl (hb hby d3_9) rfl (feq hc9).1 ?_
        show Steps p.tables e below (s₁.setTop (mkF m 12 #[.val (.int p1)] [])) _
        refine XS.iloadN X0.here hx rfl (hb hby d3_12) rfl ?_
        show Steps p.tables e below (s₁.setTop (mkF m 13 #[.val (.int p1)] [(.int p1)])) _
        refine XS.bipush X0.here hx rfl (hb hby d3_13) ?_
        show Steps p.tables e below (s₁.setTop (mkF m 15 #[.val (.int p1)] [(.int (10 : Int32)), (.int p1)])) _
        refine XS.icmpYes X0.here hx rfl (pc0 := 15) (pc' := 24) rfl (hb hby d3_15) rfl (teq hc15).1 (by decide) (by decide) ?_
        show Steps p.tables e below (s₁.setTop (mkF m 24 #[.val (.int p1)] [])) _
        refine XS.iconst X0.here hx rfl (hb hby d3_24) ?_
        show Steps p.tables e below (s₁.setTop (mkF m 25 #[.val (.int p1)] [(.int (1 : Int32))])) _
        refine XS.goto X0.here hx rfl (pc0 := 25) (pc' := 29) rfl (hb hby d3_25) (by decide) (by decide) ?_
        exact kt
      · skip
        by_cases hc21 : p1 = (13 : Int32)
        · have ew : own_ws p1 = 1 := by simp [own_ws, hc3, hc9, hc15, hc21]
          rw [ew] at kt
          show Steps p.tables e below (s₁.setTop (mkF m 0 #[.val (.int p1)] [])) _
          refine XS.iloadN X0.here hx rfl (hb hby d3_0) rfl ?_
          show Steps p.tables e below (s₁.setTop (mkF m 1 #[.val (.int p1)] [(.int p1)])) _
          refine XS.bipush X0.here hx rfl (hb hby d3_1) ?_
          show Steps p.tables e below (s₁.setTop (mkF m 3 #[.val (.int p1)] [(.int (32 : Int32)), (.int p1)])) _
          refine XS.icmpNo X0.here hx rfl (hb hby d3_3) rfl (feq hc3).1 ?_
          show Steps p.tables e below (s₁.setTop (mkF m 6 #[.val (.int p1)] [])) _
          refine XS.iloadN X0.here hx rfl (hb hby d3_6) rfl ?_
          show Steps p.tables e below (s₁.setTop (mkF m 7 #[.val (.int p1)] [(.int p1)])) _
          refine XS.bipush X0.here hx rfl (hb hby d3_7) ?_
          show Steps p.tables e below (s₁.setTop (mkF m 9 #[.val (.int p1)] [(.int (9 : Int32)), (.int p1)])) _
          refine XS.icmpNo X0.here hx rfl (hb hby d3_9) rfl (feq hc9).1 ?_
          show Steps p.tables e below (s₁.setTop (mkF m 12 #[.val (.int p1)] [])) _
          refine XS.iloadN X0.here hx rfl (hb hby d3_12) rfl ?_
          show Steps p.tables e below (s₁.setTop (mkF m 13 #[.val (.int p1)] [(.int p1)])) _
          refine XS.bipush X0.here hx rfl (hb hby d3_13) ?_
          show Steps p.tables e below (s₁.setTop (mkF m 15 #[.val (.int p1)] [(.int (10 : Int32)), (.int p1)])) _
          refine XS.icmpNo X0.here hx rfl (hb hby d3_15) rfl (feq hc15).1 ?_
          show Steps p.tables e below (s₁.setTop (mkF m 18 #[.val (.int p1)] [])) _
          refine XS.iloadN X0.here hx rfl (hb hby d3_18) rfl ?_
          show Steps p.tables e below (s₁.setTop (mkF m 19 #[.val (.int p1)] [(.int p1)])) _
          refine XS.bipush X0.here hx rfl (hb hby d3_19) ?_
          show Steps p.tables e below (s₁.setTop (mkF m 21 #[.val (.int p1)] [(.int (13 : Int32)), (.int p1)])) _
          refine XS.icmpNo X0.here hx rfl (hb hby d3_21) rfl (teq hc21).2 ?_
          show Steps p.tables e below (s₁.setTop (mkF m 24 #[.val (.int p1)] [])) _
          refine XS.iconst X0.here hx rfl (hb hby d3_24) ?_
          show Steps p.tables e below (s₁.setTop (mkF m 25 #[.val (.int p1)] [(.int (1 : Int32))])) _
          refine XS.goto X0.here hx rfl (pc0 := 25) (pc' := 29) rfl (hb hby d3_25) (by decide) (by decide) ?_
          exact kt
        · have ew : own_ws p1 = 0 := by simp [own_ws, hc3, hc9, hc15, hc21]
          rw [ew] at kt
          show Steps p.tables e below (s₁.setTop (mkF m 0 #[.val (.int p1)] [])) _
          refine XS.iloadN X0.here hx rfl (hb hby d3_0) rfl ?_
          show Steps p.tables e below (s₁.setTop (mkF m 1 #[.val (.int p1)] [(.int p1)])) _
          refine XS.bipush X0.here hx rfl (hb hby d3_1) ?_
          show Steps p.tables e below (s₁.setTop (mkF m 3 #[.val (.int p1)] [(.int (32 : Int32)), (.int p1)])) _
          refine XS.icmpNo X0.here hx rfl (hb hby d3_3) rfl (feq hc3).1 ?_
          show Steps p.tables e below (s₁.setTop (mkF m 6 #[.val (.int p1)] [])) _
          refine XS.iloadN X0.here hx rfl (hb hby d3_6) rfl ?_
          show Steps p.tables e below (s₁.setTop (mkF m 7 #[.val (.int p1)] [(.int p1)])) _
          refine XS.bipush X0.here hx rfl (hb hby d3_7) ?_
          show Steps p.tables e below (s₁.setTop (mkF m 9 #[.val (.int p1)] [(.int (9 : Int32)), (.int p1)])) _
          refine XS.icmpNo X0.here hx rfl (hb hby d3_9) rfl (feq hc9).1 ?_
          show Steps p.tables e below (s₁.setTop (mkF m 12 #[.val (.int p1)] [])) _
          refine XS.iloadN X0.here hx rfl (hb hby d3_12) rfl ?_
          show Steps p.tables e below (s₁.setTop (mkF m 13 #[.val (.int p1)] [(.int p1)])) _
          refine XS.bipush X0.here hx rfl (hb hby d3_13) ?_
          show Steps p.tables e below (s₁.setTop (mkF m 15 #[.val (.int p1)] [(.int (10 : Int32)), (.int p1)])) _
          refine XS.icmpNo X0.here hx rfl (hb hby d3_15) rfl (feq hc15).1 ?_
          show Steps p.tables e below (s₁.setTop (mkF m 18 #[.val (.int p1)] [])) _
          refine XS.iloadN X0.here hx rfl (hb hby d3_18) rfl ?_
          show Steps p.tables e below (s₁.setTop (mkF m 19 #[.val (.int p1)] [(.int p1)])) _
          refine XS.bipush X0.here hx rfl (hb hby d3_19) ?_
          show Steps p.tables e below (s₁.setTop (mkF m 21 #[.val (.int p1)] [(.int (13 : Int32)), (.int p1)])) _
          refine XS.icmpYes X0.here hx rfl (pc0 := 21) (pc' := 28) rfl (hb hby d3_21) rfl (feq hc21).2 (by decide) (by decide) ?_
          show Steps p.tables e below (s₁.setTop (mkF m 28 #[.val (.int p1)] [])) _
          refine XS.iconst X0.here hx rfl (hb hby d3_28) ?_
          exact kt
def Q4 (h0 : Heap) (n0 : Nat) (v : Option Value) (h : Heap) (L : List Loc) : Prop := (∃ z : Int32, v = some (.int z)) ∧ Fr n0 L ∧ h = h0
set_option maxRecDepth 65536 in
set_option maxHeartbeats 40000000 in
theorem rm4 (l : Launch) (Z : State) (a0 : Array Value) (hw : ∀ d ∈ tables_1, d.before a0 Z = true) (ws : List Jvm.Cond) (p1 : Int32) (p2 : Int64) (p3 : Int32) (h0 : Heap) (n0 : Nat) (Z0 : n0 ≤ h0.size) :
    MetFree l (⟨"com/example/plinth/plinth/cli/InputFileIsXmlPinLaw", "pick", "(IJI)B"⟩ : MethodName) (head1 (Jvm.Cond.code (⟨"com/example/plinth/plinth/cli/InputFileIsXmlPinLaw", "pick", "(IJI)B"⟩ : MethodName) method_5_code 5 (some .byte) :: ws) ({ frames := 0, cells := 0, slots := 0, locals := 0 } : Room)) (fun a U => a = #[(.int p1), (.long p2), (.int p3)] ∧ Z.Warmed39 U.vm ∧ U.heap = h0) (fun _ _ _ _ _ => True) (fun _ U o U' => ∃ v L, o = .returned v ∧ Q4  h0 n0 v U'.heap L ∧ FrameEnd U o U' L ({ frames := 0, cells := 0, slots := 0, locals := 0 } : Room).cells ({ frames := 0, cells := 0, slots := 0, locals := 0 } : Room).slots) := by
  refine MetFree.of_bodySF (plainFor_of_name pn_0) hisR ?_
  intro p e s m args below meth c s₁ Bd hml0 hP hK
  obtain ⟨rfl, hZ, hh⟩ := hP
  have hx := Bd.exec
  have hby := Bd.bytes
  have hml : c.maxLocals = 5 := hml0
  have hown : s.vm.findClass "com/example/plinth/plinth/cli/InputFileIsXmlPinLaw" = some m.cls := findClass_of_methodNamed Bd.named
  have hnm := (name_of_methodNamed Bd.named Bd.method).1
  have X0 : Stand p l e ({ frames := 0, cells := 0, slots := 0, locals := 0 } : Room) s m #[(.int p1), (.long p2), (.int p3)] below meth c s₁ [] 0 0 := Stand.of_body Bd
  have e0 : s₁.heap = h0 := by rw [← hh, Bd.state]; rfl
  have N0 := Fr.nil n0
  have pre0 : ∀ t, Steps p.tables e below (s₁.setTop (mkF m 0 #[.val (.int p1), .val (.long p2), .second, .val (.int p3), .unset] [])) t → Steps p.tables e below (s₁.setTop (entryFrame m #[(.int p1), (.long p2), (.int p3)] 5)) t := fun t kt0 => castTop (ef_4 m p1 p2 p3) kt0

  suffices hs : ∃ (q : Nat) (Ls : Array Slot) (z : Int32), decode c.code q = .ok (.ireturn, 1) ∧ ∀ t, Steps p.tables e below (s₁.setTop (mkF m q Ls [(.int z)])) t → Steps p.tables e below (s₁.setTop (mkF m 0 #[.val (.int p1), .val (.long p2), .second, .val (.int p3), .unset] [])) t by
    obtain ⟨q, Ls, z, hdq, hs⟩ := hs
    obtain ⟨fs, hr, hrun, hended, hW, hsame⟩ := X0.leave (v := some (.int (nar .byte z))) (fun h => by rw [Bd.returns] at h; cases h)
    refine ⟨_, _, pre0 _ (hs _ (retN X0 hx (t := .byte) Bd.returns (by simp) hdq hr)), hrun, hended, _, _, rfl, ?_, ⟨_, rfl⟩, hW, hsame.mono (by decide) (by decide)⟩
    show Q4 h0 n0 _ s₁.heap _
    rw [e0]
    exact ⟨⟨_, rfl⟩, N0, rfl⟩
  obtain ⟨kk, hkk⟩ : ∃ kk : Int32, ((((p1).toUInt32 >>> (((4 : Int32) * p3) &&& 31).toUInt32).toInt32) &&& (15 : Int32)) = kk := ⟨_, rfl⟩
  by_cases hc12 : kk = (0 : Int32)
  · refine ⟨17, #[.val (.int p1), .val (.long p2), .second, .val (.int p3), .val (.int kk)], (-17 : Int32), hb hby d4_17, fun t kt => ?_⟩
    show Steps p.tables e below (s₁.setTop (mkF m 0 #[.val (.int p1), .val (.long p2), .second, .val (.int p3), .unset] [])) _
    refine XS.iloadN X0.here hx rfl (hb hby d4_0) rfl ?_
    show Steps p.tables e below (s₁.setTop (mkF m 1 #[.val (.int p1), .val (.long p2), .second, .val (.int p3), .unset] [(.int p1)])) _
    refine XS.iconst X0.here hx rfl (hb hby d4_1) ?_
    show Steps p.tables e below (s₁.setTop (mkF m 2 #[.val (.int p1), .val (.long p2), .second, .val (.int p3), .unset] [(.int (4 : Int32)), (.int p1)])) _
    refine XS.iloadN X0.here hx rfl (hb hby d4_2) rfl ?_
    show Steps p.tables e below (s₁.setTop (mkF m 3 #[.val (.int p1), .val (.long p2), .second, .val (.int p3), .unset] [(.int p3), (.int (4 : Int32)), (.int p1)])) _
    refine XS.imul X0.here hx rfl (hb hby d4_3) rfl ?_
    show Steps p.tables e below (s₁.setTop (mkF m 4 #[.val (.int p1), .val (.long p2), .second, .val (.int p3), .unset] [(.int ((4 : Int32) * p3)), (.int p1)])) _
    refine XS.iushr X0.here hx rfl (hb hby d4_4) rfl ?_
    show Steps p.tables e below (s₁.setTop (mkF m 5 #[.val (.int p1), .val (.long p2), .second, .val (.int p3), .unset] [(.int (((p1).toUInt32 >>> (((4 : Int32) * p3) &&& 31).toUInt32).toInt32))])) _
    refine XS.bipush X0.here hx rfl (hb hby d4_5) ?_
    show Steps p.tables e below (s₁.setTop (mkF m 7 #[.val (.int p1), .val (.long p2), .second, .val (.int p3), .unset] [(.int (15 : Int32)), (.int (((p1).toUInt32 >>> (((4 : Int32) * p3) &&& 31).toUInt32).toInt32))])) _
    refine XS.iand X0.here hx rfl (hb hby d4_7) rfl ?_
    show Steps p.tables e below (s₁.setTop (mkF m 8 #[.val (.int p1), .val (.long p2), .second, .val (.int p3), .unset] [(.int ((((p1).toUInt32 >>> (((4 : Int32) * p3) &&& 31).toUInt32).toInt32) &&& (15 : Int32)))])) _
    refine XS.istore X0.here hx rfl (hb hby d4_8) rfl (l' := #[.val (.int p1), .val (.long p2), .second, .val (.int p3), .val (.int ((((p1).toUInt32 >>> (((4 : Int32) * p3) &&& 31).toUInt32).toInt32) &&& (15 : Int32)))]) rfl ?_
    show Steps p.tables e below (s₁.setTop (mkF m 10 #[.val (.int p1), .val (.long p2), .second, .val (.int p3), .val (.int ((((p1).toUInt32 >>> (((4 : Int32) * p3) &&& 31).toUInt32).toInt32) &&& (15 : Int32)))] [])) _
    rw [hkk]
    show Steps p.tables e below (s₁.setTop (mkF m 10 #[.val (.int p1), .val (.long p2), .second, .val (.int p3), .val (.int kk)] [])) _
    refine XS.iload X0.here hx rfl (hb hby d4_10) rfl ?_
    show Steps p.tables e below (s₁.setTop (mkF m 12 #[.val (.int p1), .val (.long p2), .second, .val (.int p3), .val (.int kk)] [(.int kk)])) _
    refine XS.ifNo X0.here hx rfl (hb hby d4_12) rfl ((if0 _ _).trans (teq hc12).2) ?_
    show Steps p.tables e below (s₁.setTop (mkF m 15 #[.val (.int p1), .val (.long p2), .second, .val (.int p3), .val (.int kk)] [])) _
    refine XS.bipush X0.here hx rfl (hb hby d4_15) ?_
    exact kt
  · skip
    by_cases hc21 : kk = (1 : Int32)
    · refine ⟨26, #[.val (.int p1), .val (.long p2), .second, .val (.int p3), .val (.int kk)], (-69 : Int32), hb hby d4_26, fun t kt => ?_⟩
      show Steps p.tables e below (s₁.setTop (mkF m 0 #[.val (.int p1), .val (.long p2), .second, .val (.int p3), .unset] [])) _
      refine XS.iloadN X0.here hx rfl (hb hby d4_0) rfl ?_
      show Steps p.tables e below (s₁.setTop (mkF m 1 #[.val (.int p1), .val (.long p2), .second, .val (.int p3), .unset] [(.int p1)])) _
      refine XS.iconst X0.here hx rfl (hb hby d4_1) ?_
      show Steps p.tables e below (s₁.setTop (mkF m 2 #[.val (.int p1), .val (.long p2), .second, .val (.int p3), .unset] [(.int (4 : Int32)), (.int p1)])) _
      refine XS.iloadN X0.here hx rfl (hb hby d4_2) rfl ?_
      show Steps p.tables e below (s₁.setTop (mkF m 3 #[.val (.int p1), .val (.long p2), .second, .val (.int p3), .unset] [(.int p3), (.int (4 : Int32)), (.int p1)])) _
      refine XS.imul X0.here hx rfl (hb hby d4_3) rfl ?_
      show Steps p.tables e below (s₁.setTop (mkF m 4 #[.val (.int p1), .val (.long p2), .second, .val (.int p3), .unset] [(.int ((4 : Int32) * p3)), (.int p1)])) _
      refine XS.iushr X0.here hx rfl (hb hby d4_4) rfl ?_
      show Steps p.tables e below (s₁.setTop (mkF m 5 #[.val (.int p1), .val (.long p2), .second, .val (.int p3), .unset] [(.int (((p1).toUInt32 >>> (((4 : Int32) * p3) &&& 31).toUInt32).toInt32))])) _
      refine XS.bipush X0.here hx rfl (hb hby d4_5) ?_
      show Steps p.tables e below (s₁.setTop (mkF m 7 #[.val (.int p1), .val (.long p2), .second, .val (.int p3), .unset] [(.int (15 : Int32)), (.int (((p1).toUInt32 >>> (((4 : Int32) * p3) &&& 31).toUInt32).toInt32))])) _
      refine XS.iand X0.here hx rfl (hb hby d4_7) rfl ?_
      show Steps p.tables e below (s₁.setTop (mkF m 8 #[.val (.int p1), .val (.long p2), .second, .val (.int p3), .unset] [(.int ((((p1).toUInt32 >>> (((4 : Int32) * p3) &&& 31).toUInt32).toInt32) &&& (15 : Int32)))])) _
      refine XS.istore X0.here hx rfl (hb hby d4_8) rfl (l' := #[.val (.int p1), .val (.long p2), .second, .val (.int p3), .val (.int ((((p1).toUInt32 >>> (((4 : Int32) * p3) &&& 31).toUInt32).toInt32) &&& (15 : Int32)))]) rfl ?_
      show Steps p.tables e below (s₁.setTop (mkF m 10 #[.val (.int p1), .val (.long p2), .second, .val (.int p3), .val (.int ((((p1).toUInt32 >>> (((4 : Int32) * p3) &&& 31).toUInt32).toInt32) &&& (15 : Int32)))] [])) _
      rw [hkk]
      show Steps p.tables e below (s₁.setTop (mkF m 10 #[.val (.int p1), .val (.long p2), .second, .val (.int p3), .val (.int kk)] [])) _
      refine XS.iload X0.here hx rfl (hb hby d4_10) rfl ?_
      show Steps p.tables e below (s₁.setTop (mkF m 12 #[.val (.int p1), .val (.long p2), .second, .val (.int p3), .val (.int kk)] [(.int kk)])) _
      refine XS.ifYes X0.here hx rfl (pc0 := 12) (pc' := 18) rfl (hb hby d4_12) rfl ((if0 _ _).trans (feq hc12).2) (by decide) (by decide) ?_
      show Steps p.tables e below (s₁.setTop (mkF m 18 #[.val (.int p1), .val (.long p2), .second, .val (.int p3), .val (.int kk)] [])) _
      refine XS.iload X0.here hx rfl (hb hby d4_18) rfl ?_
      show Steps p.tables e below (s₁.setTop (mkF m 20 #[.val (.int p1), .val (.long p2), .second, .val (.int p3), .val (.int kk)] [(.int kk)])) _
      refine XS.iconst X0.here hx rfl (hb hby d4_20) ?_
      show Steps p.tables e below (s₁.setTop (mkF m 21 #[.val (.int p1), .val (.long p2), .second, .val (.int p3), .val (.int kk)] [(.int (1 : Int32)), (.int kk)])) _
      refine XS.icmpNo X0.here hx rfl (hb hby d4_21) rfl (teq hc21).2 ?_
      show Steps p.tables e below (s₁.setTop (mkF m 24 #[.val (.int p1), .val (.long p2), .second, .val (.int p3), .val (.int kk)] [])) _
      refine XS.bipush X0.here hx rfl (hb hby d4_24) ?_
      exact kt
    · skip
      by_cases hc30 : kk = (2 : Int32)
      · refine ⟨35, #[.val (.int p1), .val (.long p2), .second, .val (.int p3), .val (.int kk)], (-65 : Int32), hb hby d4_35, fun t kt => ?_⟩
        show Steps p.tables e below (s₁.setTop (mkF m 0 #[.val (.int p1), .val (.long p2), .second, .val (.int p3), .unset] [])) _
        refine XS.iloadN X0.here hx rfl (hb hby d4_0) rfl ?_
        show Steps p.tables e below (s₁.setTop (mkF m 1 #[.val (.int p1), .val (.long p2), .second, .val (.int p3), .unset] [(.int p1)])) _
        refine XS.iconst X0.here hx rfl (hb hby d4_1) ?_
        show Steps p.tables e below (s₁.setTop (mkF m 2 #[.val (.int p1), .val (.long p2), .second, .val (.int p3), .unset] [(.int (4 : Int32)), (.int p1)])) _
        refine XS.iloadN X0.here hx rfl (hb hby d4_2) rfl ?_
        show Steps p.tables e below (s₁.setTop (mkF m 3 #[.val (.int p1), .val (.long p2), .second, .val (.int p3), .unset] [(.int p3), (.int (4 : Int32)), (.int p1)])) _
        refine XS.imul X0.here hx rfl (hb hby d4_3) rfl ?_
        show Steps p.tables e below (s₁.setTop (mkF m 4 #[.val (.int p1), .val (.long p2), .second, .val (.int p3), .unset] [(.int ((4 : Int32) * p3)), (.int p1)])) _
        refine XS.iushr X0.here hx rfl (hb hby d4_4) rfl ?_
        show Steps p.tables e below (s₁.setTop (mkF m 5 #[.val (.int p1), .val (.long p2), .second, .val (.int p3), .unset] [(.int (((p1).toUInt32 >>> (((4 : Int32) * p3) &&& 31).toUInt32).toInt32))])) _
        refine XS.bipush X0.here hx rfl (hb hby d4_5) ?_
        show Steps p.tables e below (s₁.setTop (mkF m 7 #[.val (.int p1), .val (.long p2), .second, .val (.int p3), .unset] [(.int (15 : Int32)), (.int (((p1).toUInt32 >>> (((4 : Int32) * p3) &&& 31).toUInt32).toInt32))])) _
        refine XS.iand X0.here hx rfl (hb hby d4_7) rfl ?_
        show Steps p.tables e below (s₁.setTop (mkF m 8 #[.val (.int p1), .val (.long p2), .second, .val (.int p3), .unset] [(.int ((((p1).toUInt32 >>> (((4 : Int32) * p3) &&& 31).toUInt32).toInt32) &&& (15 : Int32)))])) _
        refine XS.istore X0.here hx rfl (hb hby d4_8) rfl (l' := #[.val (.int p1), .val (.long p2), .second, .val (.int p3), .val (.int ((((p1).toUInt32 >>> (((4 : Int32) * p3) &&& 31).toUInt32).toInt32) &&& (15 : Int32)))]) rfl ?_
        show Steps p.tables e below (s₁.setTop (mkF m 10 #[.val (.int p1), .val (.long p2), .second, .val (.int p3), .val (.int ((((p1).toUInt32 >>> (((4 : Int32) * p3) &&& 31).toUInt32).toInt32) &&& (15 : Int32)))] [])) _
        rw [hkk]
        show Steps p.tables e below (s₁.setTop (mkF m 10 #[.val (.int p1), .val (.long p2), .second, .val (.int p3), .val (.int kk)] [])) _
        refine XS.iload X0.here hx rfl (hb hby d4_10) rfl ?_
        show Steps p.tables e below (s₁.setTop (mkF m 12 #[.val (.int p1), .val (.long p2), .second, .val (.int p3), .val (.int kk)] [(.int kk)])) _
        refine XS.ifYes X0.here hx rfl (pc0 := 12) (pc' := 18) rfl (hb hby d4_12) rfl ((if0 _ _).trans (feq hc12).2) (by decide) (by decide) ?_
        show Steps p.tables e below (s₁.setTop (mkF m 18 #[.val (.int p1), .val (.long p2), .second, .val (.int p3), .val (.int kk)] [])) _
        refine XS.iload X0.here hx rfl (hb hby d4_18) rfl ?_
        show Steps p.tables e below (s₁.setTop (mkF m 20 #[.val (.int p1), .val (.long p2), .second, .val (.int p3), .val (.int kk)] [(.int kk)])) _
        refine XS.iconst X0.here hx rfl (hb hby d4_20) ?_
        show Steps p.tables e below (s₁.setTop (mkF m 21 #[.val (.int p1), .val (.long p2), .second, .val (.int p3), .val (.int kk)] [(.int (1 : Int32)), (.int kk)])) _
        refine XS.icmpYes X0.here hx rfl (pc0 := 21) (pc' := 27) rfl (hb hby d4_21) rfl (feq hc21).2 (by decide) (by decide) ?_
        show Steps p.tables e below (s₁.setTop (mkF m 27 #[.val (.int p1), .val (.long p2), .second, .val (.int p3), .val (.int kk)] [])) _
        refine XS.iload X0.here hx rfl (hb hby d4_27) rfl ?_
        show Steps p.tables e below (s₁.setTop (mkF m 29 #[.val (.int p1), .val (.long p2), .second, .val (.int p3), .val (.int kk)] [(.int kk)])) _
        refine XS.iconst X0.here hx rfl (hb hby d4_29) ?_
        show Steps p.tables e below (s₁.setTop (mkF m 30 #[.val (.int p1), .val (.long p2), .second, .val (.int p3), .val (.int kk)] [(.int (2 : Int32)), (.int kk)])) _
        refine XS.icmpNo X0.here hx rfl (hb hby d4_30) rfl (teq hc30).2 ?_
        show Steps p.tables e below (s₁.setTop (mkF m 33 #[.val (.int p1), .val (.long p2), .second, .val (.int p3), .val (.int kk)] [])) _
        refine XS.bipush X0.here hx rfl (hb hby d4_33) ?_
        exact kt
      · skip
        by_cases hc39 : kk = (3 : Int32)
        · refine ⟨44, #[.val (.int p1), .val (.long p2), .second, .val (.int p3), .val (.int kk)], (32 : Int32), hb hby d4_44, fun t kt => ?_⟩
          show Steps p.tables e below (s₁.setTop (mkF m 0 #[.val (.int p1), .val (.long p2), .second, .val (.int p3), .unset] [])) _
          refine XS.iloadN X0.here hx rfl (hb hby d4_0) rfl ?_
          show Steps p.tables e below (s₁.setTop (mkF m 1 #[.val (.int p1), .val (.long p2), .second, .val (.int p3), .unset] [(.int p1)])) _
          refine XS.iconst X0.here hx rfl (hb hby d4_1) ?_
          show Steps p.tables e below (s₁.setTop (mkF m 2 #[.val (.int p1), .val (.long p2), .second, .val (.int p3), .unset] [(.int (4 : Int32)), (.int p1)])) _
          refine XS.iloadN X0.here hx rfl (hb hby d4_2) rfl ?_
          show Steps p.tables e below (s₁.setTop (mkF m 3 #[.val (.int p1), .val (.long p2), .second, .val (.int p3), .unset] [(.int p3), (.int (4 : Int32)), (.int p1)])) _
          refine XS.imul X0.here hx rfl (hb hby d4_3) rfl ?_
          show Steps p.tables e below (s₁.setTop (mkF m 4 #[.val (.int p1), .val (.long p2), .second, .val (.int p3), .unset] [(.int ((4 : Int32) * p3)), (.int p1)])) _
          refine XS.iushr X0.here hx rfl (hb hby d4_4) rfl ?_
          show Steps p.tables e below (s₁.setTop (mkF m 5 #[.val (.int p1), .val (.long p2), .second, .val (.int p3), .unset] [(.int (((p1).toUInt32 >>> (((4 : Int32) * p3) &&& 31).toUInt32).toInt32))])) _
          refine XS.bipush X0.here hx rfl (hb hby d4_5) ?_
          show Steps p.tables e below (s₁.setTop (mkF m 7 #[.val (.int p1), .val (.long p2), .second, .val (.int p3), .unset] [(.int (15 : Int32)), (.int (((p1).toUInt32 >>> (((4 : Int32) * p3) &&& 31).toUInt32).toInt32))])) _
          refine XS.iand X0.here hx rfl (hb hby d4_7) rfl ?_
          show Steps p.tables e below (s₁.setTop (mkF m 8 #[.val (.int p1), .val (.long p2), .second, .val (.int p3), .unset] [(.int ((((p1).toUInt32 >>> (((4 : Int32) * p3) &&& 31).toUInt32).toInt32) &&& (15 : Int32)))])) _
          refine XS.istore X0.here hx rfl (hb hby d4_8) rfl (l' := #[.val (.int p1), .val (.long p2), .second, .val (.int p3), .val (.int ((((p1).toUInt32 >>> (((4 : Int32) * p3) &&& 31).toUInt32).toInt32) &&& (15 : Int32)))]) rfl ?_
          show Steps p.tables e below (s₁.setTop (mkF m 10 #[.val (.int p1), .val (.long p2), .second, .val (.int p3), .val (.int ((((p1).toUInt32 >>> (((4 : Int32) * p3) &&& 31).toUInt32).toInt32) &&& (15 : Int32)))] [])) _
          rw [hkk]
          show Steps p.tables e below (s₁.setTop (mkF m 10 #[.val (.int p1), .val (.long p2), .second, .val (.int p3), .val (.int kk)] [])) _
          refine XS.iload X0.here hx rfl (hb hby d4_10) rfl ?_
          show Steps p.tables e below (s₁.setTop (mkF m 12 #[.val (.int p1), .val (.long p2), .second, .val (.int p3), .val (.int kk)] [(.int kk)])) _
          refine XS.ifYes X0.here hx rfl (pc0 := 12) (pc' := 18) rfl (hb hby d4_12) rfl ((if0 _ _).trans (feq hc12).2) (by decide) (by decide) ?_
          show Steps p.tables e below (s₁.setTop (mkF m 18 #[.val (.int p1), .val (.long p2), .second, .val (.int p3), .val (.int kk)] [])) _
          refine XS.iload X0.here hx rfl (hb hby d4_18) rfl ?_
          show Steps p.tables e below (s₁.setTop (mkF m 20 #[.val (.int p1), .val (.long p2), .second, .val (.int p3), .val (.int kk)] [(.int kk)])) _
          refine XS.iconst X0.here hx rfl (hb hby d4_20) ?_
          show Steps p.tables e below (s₁.setTop (mkF m 21 #[.val (.int p1), .val (.long p2), .second, .val (.int p3), .val (.int kk)] [(.int (1 : Int32)), (.int kk)])) _
          refine XS.icmpYes X0.here hx rfl (pc0 := 21) (pc' := 27) rfl (hb hby d4_21) rfl (feq hc21).2 (by decide) (by decide) ?_
          show Steps p.tables e below (s₁.setTop (mkF m 27 #[.val (.int p1), .val (.long p2), .second, .val (.int p3), .val (.int kk)] [])) _
          refine XS.iload X0.here hx rfl (hb hby d4_27) rfl ?_
          show Steps p.tables e below (s₁.setTop (mkF m 29 #[.val (.int p1), .val (.long p2), .second, .val (.int p3), .val (.int kk)] [(.int kk)])) _
          refine XS.iconst X0.here hx rfl (hb hby d4_29) ?_
          show Steps p.tables e below (s₁.setTop (mkF m 30 #[.val (.int p1), .val (.long p2), .second, .val (.int p3), .val (.int kk)] [(.int (2 : Int32)), (.int kk)])) _
          refine XS.icmpYes X0.here hx rfl (pc0 := 30) (pc' := 36) rfl (hb hby d4_30) rfl (feq hc30).2 (by decide) (by decide) ?_
          show Steps p.tables e below (s₁.setTop (mkF m 36 #[.val (.int p1), .val (.long p2), .second, .val (.int p3), .val (.int kk)] [])) _
          refine XS.iload X0.here hx rfl (hb hby d4_36) rfl ?_
          show Steps p.tables e below (s₁.setTop (mkF m 38 #[.val (.int p1), .val (.long p2), .second, .val (.int p3), .val (.int kk)] [(.int kk)])) _
          refine XS.iconst X0.here hx rfl (hb hby d4_38) ?_
          show Steps p.tables e below (s₁.setTop (mkF m 39 #[.val (.int p1), .val (.long p2), .second, .val (.int p3), .val (.int kk)] [(.int (3 : Int32)), (.int kk)])) _
          refine XS.icmpNo X0.here hx rfl (hb hby d4_39) rfl (teq hc39).2 ?_
          show Steps p.tables e below (s₁.setTop (mkF m 42 #[.val (.int p1), .val (.long p2), .second, .val (.int p3), .val (.int kk)] [])) _
          refine XS.bipush X0.here hx rfl (hb hby d4_42) ?_
          exact kt
        · skip
          by_cases hc48 : kk = (4 : Int32)
          · refine ⟨53, #[.val (.int p1), .val (.long p2), .second, .val (.int p3), .val (.int kk)], (9 : Int32), hb hby d4_53, fun t kt => ?_⟩
            show Steps p.tables e below (s₁.setTop (mkF m 0 #[.val (.int p1), .val (.long p2), .second, .val (.int p3), .unset] [])) _
            refine XS.iloadN X0.here hx rfl (hb hby d4_0) rfl ?_
            show Steps p.tables e below (s₁.setTop (mkF m 1 #[.val (.int p1), .val (.long p2), .second, .val (.int p3), .unset] [(.int p1)])) _
            refine XS.iconst X0.here hx rfl (hb hby d4_1) ?_
            show Steps p.tables e below (s₁.setTop (mkF m 2 #[.val (.int p1), .val (.long p2), .second, .val (.int p3), .unset] [(.int (4 : Int32)), (.int p1)])) _
            refine XS.iloadN X0.here hx rfl (hb hby d4_2) rfl ?_
            show Steps p.tables e below (s₁.setTop (mkF m 3 #[.val (.int p1), .val (.long p2), .second, .val (.int p3), .unset] [(.int p3), (.int (4 : Int32)), (.int p1)])) _
            refine XS.imul X0.here hx rfl (hb hby d4_3) rfl ?_
            show Steps p.tables e below (s₁.setTop (mkF m 4 #[.val (.int p1), .val (.long p2), .second, .val (.int p3), .unset] [(.int ((4 : Int32) * p3)), (.int p1)])) _
            refine XS.iushr X0.here hx rfl (hb hby d4_4) rfl ?_
            show Steps p.tables e below (s₁.setTop (mkF m 5 #[.val (.int p1), .val (.long p2), .second, .val (.int p3), .unset] [(.int (((p1).toUInt32 >>> (((4 : Int32) * p3) &&& 31).toUInt32).toInt32))])) _
            refine XS.bipush X0.here hx rfl (hb hby d4_5) ?_
            show Steps p.tables e below (s₁.setTop (mkF m 7 #[.val (.int p1), .val (.long p2), .second, .val (.int p3), .unset] [(.int (15 : Int32)), (.int (((p1).toUInt32 >>> (((4 : Int32) * p3) &&& 31).toUInt32).toInt32))])) _
            refine XS.iand X0.here hx rfl (hb hby d4_7) rfl ?_
            show Steps p.tables e below (s₁.setTop (mkF m 8 #[.val (.int p1), .val (.long p2), .second, .val (.int p3), .unset] [(.int ((((p1).toUInt32 >>> (((4 : Int32) * p3) &&& 31).toUInt32).toInt32) &&& (15 : Int32)))])) _
            refine XS.istore X0.here hx rfl (hb hby d4_8) rfl (l' := #[.val (.int p1), .val (.long p2), .second, .val (.int p3), .val (.int ((((p1).toUInt32 >>> (((4 : Int32) * p3) &&& 31).toUInt32).toInt32) &&& (15 : Int32)))]) rfl ?_
            show Steps p.tables e below (s₁.setTop (mkF m 10 #[.val (.int p1), .val (.long p2), .second, .val (.int p3), .val (.int ((((p1).toUInt32 >>> (((4 : Int32) * p3) &&& 31).toUInt32).toInt32) &&& (15 : Int32)))] [])) _
            rw [hkk]
            show Steps p.tables e below (s₁.setTop (mkF m 10 #[.val (.int p1), .val (.long p2), .second, .val (.int p3), .val (.int kk)] [])) _
            refine XS.iload X0.here hx rfl (hb hby d4_10) rfl ?_
            show Steps p.tables e below (s₁.setTop (mkF m 12 #[.val (.int p1), .val (.long p2), .second, .val (.int p3), .val (.int kk)] [(.int kk)])) _
            refine XS.ifYes X0.here hx rfl (pc0 := 12) (pc' := 18) rfl (hb hby d4_12) rfl ((if0 _ _).trans (feq hc12).2) (by decide) (by decide) ?_
            show Steps p.tables e below (s₁.setTop (mkF m 18 #[.val (.int p1), .val (.long p2), .second, .val (.int p3), .val (.int kk)] [])) _
            refine XS.iload X0.here hx rfl (hb hby d4_18) rfl ?_
            show Steps p.tables e below (s₁.setTop (mkF m 20 #[.val (.int p1), .val (.long p2), .second, .val (.int p3), .val (.int kk)] [(.int kk)])) _
            refine XS.iconst X0.here hx rfl (hb hby d4_20) ?_
            show Steps p.tables e below (s₁.setTop (mkF m 21 #[.val (.int p1), .val (.long p2), .second, .val (.int p3), .val (.int kk)] [(.int (1 : Int32)), (.int kk)])) _
            refine XS.icmpYes X0.here hx rfl (pc0 := 21) (pc' := 27) rfl (hb hby d4_21) rfl (feq hc21).2 (by decide) (by decide) ?_
            show Steps p.tables e below (s₁.setTop (mkF m 27 #[.val (.int p1), .val (.long p2), .second, .val (.int p3), .val (.int kk)] [])) _
            refine XS.iload X0.here hx rfl (hb hby d4_27) rfl ?_
            show Steps p.tables e below (s₁.setTop (mkF m 29 #[.val (.int p1), .val (.long p2), .second, .val (.int p3), .val (.int kk)] [(.int kk)])) _
            refine XS.iconst X0.here hx rfl (hb hby d4_29) ?_
            show Steps p.tables e below (s₁.setTop (mkF m 30 #[.val (.int p1), .val (.long p2), .second, .val (.int p3), .val (.int kk)] [(.int (2 : Int32)), (.int kk)])) _
            refine XS.icmpYes X0.here hx rfl (pc0 := 30) (pc' := 36) rfl (hb hby d4_30) rfl (feq hc30).2 (by decide) (by decide) ?_
            show Steps p.tables e below (s₁.setTop (mkF m 36 #[.val (.int p1), .val (.long p2), .second, .val (.int p3), .val (.int kk)] [])) _
            refine XS.iload X0.here hx rfl (hb hby d4_36) rfl ?_
            show Steps p.tables e below (s₁.setTop (mkF m 38 #[.val (.int p1), .val (.long p2), .second, .val (.int p3), .val (.int kk)] [(.int kk)])) _
            refine XS.iconst X0.here hx rfl (hb hby d4_38) ?_
            show Steps p.tables e below (s₁.setTop (mkF m 39 #[.val (.int p1), .val (.long p2), .second, .val (.int p3), .val (.int kk)] [(.int (3 : Int32)), (.int kk)])) _
            refine XS.icmpYes X0.here hx rfl (pc0 := 39) (pc' := 45) rfl (hb hby d4_39) rfl (feq hc39).2 (by decide) (by decide) ?_
            show Steps p.tables e below (s₁.setTop (mkF m 45 #[.val (.int p1), .val (.long p2), .second, .val (.int p3), .val (.int kk)] [])) _
            refine XS.iload X0.here hx rfl (hb hby d4_45) rfl ?_
            show Steps p.tables e below (s₁.setTop (mkF m 47 #[.val (.int p1), .val (.long p2), .second, .val (.int p3), .val (.int kk)] [(.int kk)])) _
            refine XS.iconst X0.here hx rfl (hb hby d4_47) ?_
            show Steps p.tables e below (s₁.setTop (mkF m 48 #[.val (.int p1), .val (.long p2), .second, .val (.int p3), .val (.int kk)] [(.int (4 : Int32)), (.int kk)])) _
            refine XS.icmpNo X0.here hx rfl (hb hby d4_48) rfl (teq hc48).2 ?_
            show Steps p.tables e below (s₁.setTop (mkF m 51 #[.val (.int p1), .val (.long p2), .second, .val (.int p3), .val (.int kk)] [])) _
            refine XS.bipush X0.here hx rfl (hb hby d4_51) ?_
            exact kt
          · skip
            by_cases hc57 : kk = (5 : Int32)
            · refine ⟨62, #[.val (.int p1), .val (.long p2), .second, .val (.int p3), .val (.int kk)], (10 : Int32), hb hby d4_62, fun t kt => ?_⟩
              show Steps p.tables e below (s₁.setTop (mkF m 0 #[.val (.int p1), .val (.long p2), .second, .val (.int p3), .unset] [])) _
              refine XS.iloadN X0.here hx rfl (hb hby d4_0) rfl ?_
              show Steps p.tables e below (s₁.setTop (mkF m 1 #[.val (.int p1), .val (.long p2), .second, .val (.int p3), .unset] [(.int p1)])) _
              refine XS.iconst X0.here hx rfl (hb hby d4_1) ?_
              show Steps p.tables e below (s₁.setTop (mkF m 2 #[.val (.int p1), .val (.long p2), .second, .val (.int p3), .unset] [(.int (4 : Int32)), (.int p1)])) _
              refine XS.iloadN X0.here hx rfl (hb hby d4_2) rfl ?_
              show Steps p.tables e below (s₁.setTop (mkF m 3 #[.val (.int p1), .val (.long p2), .second, .val (.int p3), .unset] [(.int p3), (.int (4 : Int32)), (.int p1)])) _
              refine XS.imul X0.here hx rfl (hb hby d4_3) rfl ?_
              show Steps p.tables e below (s₁.setTop (mkF m 4 #[.val (.int p1), .val (.long p2), .second, .val (.int p3), .unset] [(.int ((4 : Int32) * p3)), (.int p1)])) _
              refine XS.iushr X0.here hx rfl (hb hby d4_4) rfl ?_
              show Steps p.tables e below (s₁.setTop (mkF m 5 #[.val (.int p1), .val (.long p2), .second, .val (.int p3), .unset] [(.int (((p1).toUInt32 >>> (((4 : Int32) * p3) &&& 31).toUInt32).toInt32))])) _
              refine XS.bipush X0.here hx rfl (hb hby d4_5) ?_
              show Steps p.tables e below (s₁.setTop (mkF m 7 #[.val (.int p1), .val (.long p2), .second, .val (.int p3), .unset] [(.int (15 : Int32)), (.int (((p1).toUInt32 >>> (((4 : Int32) * p3) &&& 31).toUInt32).toInt32))])) _
              refine XS.iand X0.here hx rfl (hb hby d4_7) rfl ?_
              show Steps p.tables e below (s₁.setTop (mkF m 8 #[.val (.int p1), .val (.long p2), .second, .val (.int p3), .unset] [(.int ((((p1).toUInt32 >>> (((4 : Int32) * p3) &&& 31).toUInt32).toInt32) &&& (15 : Int32)))])) _
              refine XS.istore X0.here hx rfl (hb hby d4_8) rfl (l' := #[.val (.int p1), .val (.long p2), .second, .val (.int p3), .val (.int ((((p1).toUInt32 >>> (((4 : Int32) * p3) &&& 31).toUInt32).toInt32) &&& (15 : Int32)))]) rfl ?_
              show Steps p.tables e below (s₁.setTop (mkF m 10 #[.val (.int p1), .val (.long p2), .second, .val (.int p3), .val (.int ((((p1).toUInt32 >>> (((4 : Int32) * p3) &&& 31).toUInt32).toInt32) &&& (15 : Int32)))] [])) _
              rw [hkk]
              show Steps p.tables e below (s₁.setTop (mkF m 10 #[.val (.int p1), .val (.long p2), .second, .val (.int p3), .val (.int kk)] [])) _
              refine XS.iload X0.here hx rfl (hb hby d4_10) rfl ?_
              show Steps p.tables e below (s₁.setTop (mkF m 12 #[.val (.int p1), .val (.long p2), .second, .val (.int p3), .val (.int kk)] [(.int kk)])) _
              refine XS.ifYes X0.here hx rfl (pc0 := 12) (pc' := 18) rfl (hb hby d4_12) rfl ((if0 _ _).trans (feq hc12).2) (by decide) (by decide) ?_
              show Steps p.tables e below (s₁.setTop (mkF m 18 #[.val (.int p1), .val (.long p2), .second, .val (.int p3), .val (.int kk)] [])) _
              refine XS.iload X0.here hx rfl (hb hby d4_18) rfl ?_
              show Steps p.tables e below (s₁.setTop (mkF m 20 #[.val (.int p1), .val (.long p2), .second, .val (.int p3), .val (.int kk)] [(.int kk)])) _
              refine XS.iconst X0.here hx rfl (hb hby d4_20) ?_
              show Steps p.tables e below (s₁.setTop (mkF m 21 #[.val (.int p1), .val (.long p2), .second, .val (.int p3), .val (.int kk)] [(.int (1 : Int32)), (.int kk)])) _
              refine XS.icmpYes X0.here hx rfl (pc0 := 21) (pc' := 27) rfl (hb hby d4_21) rfl (feq hc21).2 (by decide) (by decide) ?_
              show Steps p.tables e below (s₁.setTop (mkF m 27 #[.val (.int p1), .val (.long p2), .second, .val (.int p3), .val (.int kk)] [])) _
              refine XS.iload X0.here hx rfl (hb hby d4_27) rfl ?_
              show Steps p.tables e below (s₁.setTop (mkF m 29 #[.val (.int p1), .val (.long p2), .second, .val (.int p3), .val (.int kk)] [(.int kk)])) _
              refine XS.iconst X0.here hx rfl (hb hby d4_29) ?_
              show Steps p.tables e below (s₁.setTop (mkF m 30 #[.val (.int p1), .val (.long p2), .second, .val (.int p3), .val (.int kk)] [(.int (2 : Int32)), (.int kk)])) _
              refine XS.icmpYes X0.here hx rfl (pc0 := 30) (pc' := 36) rfl (hb hby d4_30) rfl (feq hc30).2 (by decide) (by decide) ?_
              show Steps p.tables e below (s₁.setTop (mkF m 36 #[.val (.int p1), .val (.long p2), .second, .val (.int p3), .val (.int kk)] [])) _
              refine XS.iload X0.here hx rfl (hb hby d4_36) rfl ?_
              show Steps p.tables e below (s₁.setTop (mkF m 38 #[.val (.int p1), .val (.long p2), .second, .val (.int p3), .val (.int kk)] [(.int kk)])) _
              refine XS.iconst X0.here hx rfl (hb hby d4_38) ?_
              show Steps p.tables e below (s₁.setTop (mkF m 39 #[.val (.int p1), .val (.long p2), .second, .val (.int p3), .val (.int kk)] [(.int (3 : Int32)), (.int kk)])) _
              refine XS.icmpYes X0.here hx rfl (pc0 := 39) (pc' := 45) rfl (hb hby d4_39) rfl (feq hc39).2 (by decide) (by decide) ?_
              show Steps p.tables e below (s₁.setTop (mkF m 45 #[.val (.int p1), .val (.long p2), .second, .val (.int p3), .val (.int kk)] [])) _
              refine XS.iload X0.here hx rfl (hb hby d4_45) rfl ?_
              show Steps p.tables e below (s₁.setTop (mkF m 47 #[.val (.int p1), .val (.long p2), .second, .val (.int p3), .val (.int kk)] [(.int kk)])) _
              refine XS.iconst X0.here hx rfl (hb hby d4_47) ?_
              show Steps p.tables e below (s₁.setTop (mkF m 48 #[.val (.int p1), .val (.long p2), .second, .val (.int p3), .val (.int kk)] [(.int (4 : Int32)), (.int kk)])) _
              refine XS.icmpYes X0.here hx rfl (pc0 := 48) (pc' := 54) rfl (hb hby d4_48) rfl (feq hc48).2 (by decide) (by decide) ?_
              show Steps p.tables e below (s₁.setTop (mkF m 54 #[.val (.int p1), .val (.long p2), .second, .val (.int p3), .val (.int kk)] [])) _
              refine XS.iload X0.here hx rfl (hb hby d4_54) rfl ?_
              show Steps p.tables e below (s₁.setTop (mkF m 56 #[.val (.int p1), .val (.long p2), .second, .val (.int p3), .val (.int kk)] [(.int kk)])) _
              refine XS.iconst X0.here hx rfl (hb hby d4_56) ?_
              show Steps p.tables e below (s₁.setTop (mkF m 57 #[.val (.int p1), .val (.long p2), .second, .val (.int p3), .val (.int kk)] [(.int (5 : Int32)), (.int kk)])) _
              refine XS.icmpNo X0.here hx rfl (hb hby d4_57) rfl (teq hc57).2 ?_
              show Steps p.tables e below (s₁.setTop (mkF m 60 #[.val (.int p1), .val (.long p2), .second, .val (.int p3), .val (.int kk)] [])) _
              refine XS.bipush X0.here hx rfl (hb hby d4_60) ?_
              exact kt
            · skip
              by_cases hc67 : kk = (6 : Int32)
              · refine ⟨72, #[.val (.int p1), .val (.long p2), .second, .val (.int p3), .val (.int kk)], (13 : Int32), hb hby d4_72, fun t kt => ?_⟩
                show Steps p.tables e below (s₁.setTop (mkF m 0 #[.val (.int p1), .val (.long p2), .second, .val (.int p3), .unset] [])) _
                refine XS.iloadN X0.here hx rfl (hb hby d4_0) rfl ?_
                show Steps p.tables e below (s₁.setTop (mkF m 1 #[.val (.int p1), .val (.long p2), .second, .val (.int p3), .unset] [(.int p1)])) _
                refine XS.iconst X0.here hx rfl (hb hby d4_1) ?_
                show Steps p.tables e below (s₁.setTop (mkF m 2 #[.val (.int p1), .val (.long p2), .second, .val (.int p3), .unset] [(.int (4 : Int32)), (.int p1)])) _
                refine XS.iloadN X0.here hx rfl (hb hby d4_2) rfl ?_
                show Steps p.tables e below (s₁.setTop (mkF m 3 #[.val (.int p1), .val (.long p2), .second, .val (.int p3), .unset] [(.int p3), (.int (4 : Int32)), (.int p1)])) _
                refine XS.imul X0.here hx rfl (hb hby d4_3) rfl ?_
                show Steps p.tables e below (s₁.setTop (mkF m 4 #[.val (.int p1), .val (.long p2), .second, .val (.int p3), .unset] [(.int ((4 : Int32) * p3)), (.int p1)])) _
                refine XS.iushr X0.here hx rfl (hb hby d4_4) rfl ?_
                show Steps p.tables e below (s₁.setTop (mkF m 5 #[.val (.int p1), .val (.long p2), .second, .val (.int p3), .unset] [(.int (((p1).toUInt32 >>> (((4 : Int32) * p3) &&& 31).toUInt32).toInt32))])) _
                refine XS.bipush X0.here hx rfl (hb hby d4_5) ?_
                show Steps p.tables e below (s₁.setTop (mkF m 7 #[.val (.int p1), .val (.long p2), .second, .val (.int p3), .unset] [(.int (15 : Int32)), (.int (((p1).toUInt32 >>> (((4 : Int32) * p3) &&& 31).toUInt32).toInt32))])) _
                refine XS.iand X0.here hx rfl (hb hby d4_7) rfl ?_
                show Steps p.tables e below (s₁.setTop (mkF m 8 #[.val (.int p1), .val (.long p2), .second, .val (.int p3), .unset] [(.int ((((p1).toUInt32 >>> (((4 : Int32) * p3) &&& 31).toUInt32).toInt32) &&& (15 : Int32)))])) _
                refine XS.istore X0.here hx rfl (hb hby d4_8) rfl (l' := #[.val (.int p1), .val (.long p2), .second, .val (.int p3), .val (.int ((((p1).toUInt32 >>> (((4 : Int32) * p3) &&& 31).toUInt32).toInt32) &&& (15 : Int32)))]) rfl ?_
                show Steps p.tables e below (s₁.setTop (mkF m 10 #[.val (.int p1), .val (.long p2), .second, .val (.int p3), .val (.int ((((p1).toUInt32 >>> (((4 : Int32) * p3) &&& 31).toUInt32).toInt32) &&& (15 : Int32)))] [])) _
                rw [hkk]
                show Steps p.tables e below (s₁.setTop (mkF m 10 #[.val (.int p1), .val (.long p2), .second, .val (.int p3), .val (.int kk)] [])) _
                refine XS.iload X0.here hx rfl (hb hby d4_10) rfl ?_
                show Steps p.tables e below (s₁.setTop (mkF m 12 #[.val (.int p1), .val (.long p2), .second, .val (.int p3), .val (.int kk)] [(.int kk)])) _
                refine XS.ifYes X0.here hx rfl (pc0 := 12) (pc' := 18) rfl (hb hby d4_12) rfl ((if0 _ _).trans (feq hc12).2) (by decide) (by decide) ?_
                show Steps p.tables e below (s₁.setTop (mkF m 18 #[.val (.int p1), .val (.long p2), .second, .val (.int p3), .val (.int kk)] [])) _
                refine XS.iload X0.here hx rfl (hb hby d4_18) rfl ?_
                show Steps p.tables e below (s₁.setTop (mkF m 20 #[.val (.int p1), .val (.long p2), .second, .val (.int p3), .val (.int kk)] [(.int kk)])) _
                refine XS.iconst X0.here hx rfl (hb hby d4_20) ?_
                show Steps p.tables e below (s₁.setTop (mkF m 21 #[.val (.int p1), .val (.long p2), .second, .val (.int p3), .val (.int kk)] [(.int (1 : Int32)), (.int kk)])) _
                refine XS.icmpYes X0.here hx rfl (pc0 := 21) (pc' := 27) rfl (hb hby d4_21) rfl (feq hc21).2 (by decide) (by decide) ?_
                show Steps p.tables e below (s₁.setTop (mkF m 27 #[.val (.int p1), .val (.long p2), .second, .val (.int p3), .val (.int kk)] [])) _
                refine XS.iload X0.here hx rfl (hb hby d4_27) rfl ?_
                show Steps p.tables e below (s₁.setTop (mkF m 29 #[.val (.int p1), .val (.long p2), .second, .val (.int p3), .val (.int kk)] [(.int kk)])) _
                refine XS.iconst X0.here hx rfl (hb hby d4_29) ?_
                show Steps p.tables e below (s₁.setTop (mkF m 30 #[.val (.int p1), .val (.long p2), .second, .val (.int p3), .val (.int kk)] [(.int (2 : Int32)), (.int kk)])) _
                refine XS.icmpYes X0.here hx rfl (pc0 := 30) (pc' := 36) rfl (hb hby d4_30) rfl (feq hc30).2 (by decide) (by decide) ?_
                show Steps p.tables e below (s₁.setTop (mkF m 36 #[.val (.int p1), .val (.long p2), .second, .val (.int p3), .val (.int kk)] [])) _
                refine XS.iload X0.here hx rfl (hb hby d4_36) rfl ?_
                show Steps p.tables e below (s₁.setTop (mkF m 38 #[.val (.int p1), .val (.long p2), .second, .val (.int p3), .val (.int kk)] [(.int kk)])) _
                refine XS.iconst X0.here hx rfl (hb hby d4_38) ?_
                show Steps p.tables e below (s₁.setTop (mkF m 39 #[.val (.int p1), .val (.long p2), .second, .val (.int p3), .val (.int kk)] [(.int (3 : Int32)), (.int kk)])) _
                refine XS.icmpYes X0.here hx rfl (pc0 := 39) (pc' := 45) rfl (hb hby d4_39) rfl (feq hc39).2 (by decide) (by decide) ?_
                show Steps p.tables e below (s₁.setTop (mkF m 45 #[.val (.int p1), .val (.long p2), .second, .val (.int p3), .val (.int kk)] [])) _
                refine XS.iload X0.here hx rfl (hb hby d4_45) rfl ?_
                show Steps p.tables e below (s₁.setTop (mkF m 47 #[.val (.int p1), .val (.long p2), .second, .val (.int p3), .val (.int kk)] [(.int kk)])) _
                refine XS.iconst X0.here hx rfl (hb hby d4_47) ?_
                show Steps p.tables e below (s₁.setTop (mkF m 48 #[.val (.int p1), .val (.long p2), .second, .val (.int p3), .val (.int kk)] [(.int (4 : Int32)), (.int kk)])) _
                refine XS.icmpYes X0.here hx rfl (pc0 := 48) (pc' := 54) rfl (hb hby d4_48) rfl (feq hc48).2 (by decide) (by decide) ?_
                show Steps p.tables e below (s₁.setTop (mkF m 54 #[.val (.int p1), .val (.long p2), .second, .val (.int p3), .val (.int kk)] [])) _
                refine XS.iload X0.here hx rfl (hb hby d4_54) rfl ?_
                show Steps p.tables e below (s₁.setTop (mkF m 56 #[.val (.int p1), .val (.long p2), .second, .val (.int p3), .val (.int kk)] [(.int kk)])) _
                refine XS.iconst X0.here hx rfl (hb hby d4_56) ?_
                show Steps p.tables e below (s₁.setTop (mkF m 57 #[.val (.int p1), .val (.long p2), .second, .val (.int p3), .val (.int kk)] [(.int (5 : Int32)), (.int kk)])) _
                refine XS.icmpYes X0.here hx rfl (pc0 := 57) (pc' := 63) rfl (hb hby d4_57) rfl (feq hc57).2 (by decide) (by decide) ?_
                show Steps p.tables e below (s₁.setTop (mkF m 63 #[.val (.int p1), .val (.long p2), .second, .val (.int p3), .val (.int kk)] [])) _
                refine XS.iload X0.here hx rfl (hb hby d4_63) rfl ?_
                show Steps p.tables e below (s₁.setTop (mkF m 65 #[.val (.int p1), .val (.long p2), .second, .val (.int p3), .val (.int kk)] [(.int kk)])) _
                refine XS.bipush X0.here hx rfl (hb hby d4_65) ?_
                show Steps p.tables e below (s₁.setTop (mkF m 67 #[.val (.int p1), .val (.long p2), .second, .val (.int p3), .val (.int kk)] [(.int (6 : Int32)), (.int kk)])) _
                refine XS.icmpNo X0.here hx rfl (hb hby d4_67) rfl (teq hc67).2 ?_
                show Steps p.tables e below (s₁.setTop (mkF m 70 #[.val (.int p1), .val (.long p2), .second, .val (.int p3), .val (.int kk)] [])) _
                refine XS.bipush X0.here hx rfl (hb hby d4_70) ?_
                exact kt
              · skip
                by_cases hc77 : kk = (7 : Int32)
                · refine ⟨82, #[.val (.int p1), .val (.long p2), .second, .val (.int p3), .val (.int kk)], (60 : Int32), hb hby d4_82, fun t kt => ?_⟩
                  show Steps p.tables e below (s₁.setTop (mkF m 0 #[.val (.int p1), .val (.long p2), .second, .val (.int p3), .unset] [])) _
                  refine XS.iloadN X0.here hx rfl (hb hby d4_0) rfl ?_
                  show Steps p.tables e below (s₁.setTop (mkF m 1 #[.val (.int p1), .val (.long p2), .second, .val (.int p3), .unset] [(.int p1)])) _
                  refine XS.iconst X0.here hx rfl (hb hby d4_1) ?_
                  show Steps p.tables e below (s₁.setTop (mkF m 2 #[.val (.int p1), .val (.long p2), .second, .val (.int p3), .unset] [(.int (4 : Int32)), (.int p1)])) _
                  refine XS.iloadN X0.here hx rfl (hb hby d4_2) rfl ?_
                  show Steps p.tables e below (s₁.setTop (mkF m 3 #[.val (.int p1), .val (.long p2), .second, .val (.int p3), .unset] [(.int p3), (.int (4 : Int32)), (.int p1)])) _
                  refine XS.imul X0.here hx rfl (hb hby d4_3) rfl ?_
                  show Steps p.tables e below (s₁.setTop (mkF m 4 #[.val (.int p1), .val (.long p2), .second, .val (.int p3), .unset] [(.int ((4 : Int32) * p3)), (.int p1)])) _
                  refine XS.iushr X0.here hx rfl (hb hby d4_4) rfl ?_
                  show Steps p.tables e below (s₁.setTop (mkF m 5 #[.val (.int p1), .val (.long p2), .second, .val (.int p3), .unset] [(.int (((p1).toUInt32 >>> (((4 : Int32) * p3) &&& 31).toUInt32).toInt32))])) _
                  refine XS.bipush X0.here hx rfl (hb hby d4_5) ?_
                  show Steps p.tables e below (s₁.setTop (mkF m 7 #[.val (.int p1), .val (.long p2), .second, .val (.int p3), .unset] [(.int (15 : Int32)), (.int (((p1).toUInt32 >>> (((4 : Int32) * p3) &&& 31).toUInt32).toInt32))])) _
                  refine XS.iand X0.here hx rfl (hb hby d4_7) rfl ?_
                  show Steps p.tables e below (s₁.setTop (mkF m 8 #[.val (.int p1), .val (.long p2), .second, .val (.int p3), .unset] [(.int ((((p1).toUInt32 >>> (((4 : Int32) * p3) &&& 31).toUInt32).toInt32) &&& (15 : Int32)))])) _
                  refine XS.istore X0.here hx rfl (hb hby d4_8) rfl (l' := #[.val (.int p1), .val (.long p2), .second, .val (.int p3), .val (.int ((((p1).toUInt32 >>> (((4 : Int32) * p3) &&& 31).toUInt32).toInt32) &&& (15 : Int32)))]) rfl ?_
                  show Steps p.tables e below (s₁.setTop (mkF m 10 #[.val (.int p1), .val (.long p2), .second, .val (.int p3), .val (.int ((((p1).toUInt32 >>> (((4 : Int32) * p3) &&& 31).toUInt32).toInt32) &&& (15 : Int32)))] [])) _
                  rw [hkk]
                  show Steps p.tables e below (s₁.setTop (mkF m 10 #[.val (.int p1), .val (.long p2), .second, .val (.int p3), .val (.int kk)] [])) _
                  refine XS.iload X0.here hx rfl (hb hby d4_10) rfl ?_
                  show Steps p.tables e below (s₁.setTop (mkF m 12 #[.val (.int p1), .val (.long p2), .second, .val (.int p3), .val (.int kk)] [(.int kk)])) _
                  refine XS.ifYes X0.here hx rfl (pc0 := 12) (pc' := 18) rfl (hb hby d4_12) rfl ((if0 _ _).trans (feq hc12).2) (by decide) (by decide) ?_
                  show Steps p.tables e below (s₁.setTop (mkF m 18 #[.val (.int p1), .val (.long p2), .second, .val (.int p3), .val (.int kk)] [])) _
                  refine XS.iload X0.here hx rfl (hb hby d4_18) rfl ?_
                  show Steps p.tables e below (s₁.setTop (mkF m 20 #[.val (.int p1), .val (.long p2), .second, .val (.int p3), .val (.int kk)] [(.int kk)])) _
                  refine XS.iconst X0.here hx rfl (hb hby d4_20) ?_
                  show Steps p.tables e below (s₁.setTop (mkF m 21 #[.val (.int p1), .val (.long p2), .second, .val (.int p3), .val (.int kk)] [(.int (1 : Int32)), (.int kk)])) _
                  refine XS.icmpYes X0.here hx rfl (pc0 := 21) (pc' := 27) rfl (hb hby d4_21) rfl (feq hc21).2 (by decide) (by decide) ?_
                  show Steps p.tables e below (s₁.setTop (mkF m 27 #[.val (.int p1), .val (.long p2), .second, .val (.int p3), .val (.int kk)] [])) _
                  refine XS.iload X0.here hx rfl (hb hby d4_27) rfl ?_
                  show Steps p.tables e below (s₁.setTop (mkF m 29 #[.val (.int p1), .val (.long p2), .second, .val (.int p3), .val (.int kk)] [(.int kk)])) _
                  refine XS.iconst X0.here hx rfl (hb hby d4_29) ?_
                  show Steps p.tables e below (s₁.setTop (mkF m 30 #[.val (.int p1), .val (.long p2), .second, .val (.int p3), .val (.int kk)] [(.int (2 : Int32)), (.int kk)])) _
                  refine XS.icmpYes X0.here hx rfl (pc0 := 30) (pc' := 36) rfl (hb hby d4_30) rfl (feq hc30).2 (by decide) (by decide) ?_
                  show Steps p.tables e below (s₁.setTop (mkF m 36 #[.val (.int p1), .val (.long p2), .second, .val (.int p3), .val (.int kk)] [])) _
                  refine XS.iload X0.here hx rfl (hb hby d4_36) rfl ?_
                  show Steps p.tables e below (s₁.setTop (mkF m 38 #[.val (.int p1), .val (.long p2), .second, .val (.int p3), .val (.int kk)] [(.int kk)])) _
                  refine XS.iconst X0.here hx rfl (hb hby d4_38) ?_
                  show Steps p.tables e below (s₁.setTop (mkF m 39 #[.val (.int p1), .val (.long p2), .second, .val (.int p3), .val (.int kk)] [(.int (3 : Int32)), (.int kk)])) _
                  refine XS.icmpYes X0.here hx rfl (pc0 := 39) (pc' := 45) rfl (hb hby d4_39) rfl (feq hc39).2 (by decide) (by decide) ?_
                  show Steps p.tables e below (s₁.setTop (mkF m 45 #[.val (.int p1), .val (.long p2), .second, .val (.int p3), .val (.int kk)] [])) _
                  refine XS.iload X0.here hx rfl (hb hby d4_45) rfl ?_
                  show Steps p.tables e below (s₁.setTop (mkF m 47 #[.val (.int p1), .val (.long p2), .second, .val (.int p3), .val (.int kk)] [(.int kk)])) _
                  refine XS.iconst X0.here hx rfl (hb hby d4_47) ?_
                  show Steps p.tables e below (s₁.setTop (mkF m 48 #[.val (.int p1), .val (.long p2), .second, .val (.int p3), .val (.int kk)] [(.int (4 : Int32)), (.int kk)])) _
                  refine XS.icmpYes X0.here hx rfl (pc0 := 48) (pc' := 54) rfl (hb hby d4_48) rfl (feq hc48).2 (by decide) (by decide) ?_
                  show Steps p.tables e below (s₁.setTop (mkF m 54 #[.val (.int p1), .val (.long p2), .second, .val (.int p3), .val (.int kk)] [])) _
                  refine XS.iload X0.here hx rfl (hb hby d4_54) rfl ?_
                  show Steps p.tables e below (s₁.setTop (mkF m 56 #[.val (.int p1), .val (.long p2), .second, .val (.int p3), .val (.int kk)] [(.int kk)])) _
                  refine XS.iconst X0.here hx rfl (hb hby d4_56) ?_
                  show Steps p.tables e below (s₁.setTop (mkF m 57 #[.val (.int p1), .val (.long p2), .second, .val (.int p3), .val (.int kk)] [(.int (5 : Int32)), (.int kk)])) _
                  refine XS.icmpYes X0.here hx rfl (pc0 := 57) (pc' := 63) rfl (hb hby d4_57) rfl (feq hc57).2 (by decide) (by decide) ?_
                  show Steps p.tables e below (s₁.setTop (mkF m 63 #[.val (.int p1), .val (.long p2), .second, .val (.int p3), .val (.int kk)] [])) _
                  refine XS.iload X0.here hx rfl (hb hby d4_63) rfl ?_
                  show Steps p.tables e below (s₁.setTop (mkF m 65 #[.val (.int p1), .val (.long p2), .second, .val (.int p3), .val (.int kk)] [(.int kk)])) _
                  refine XS.bipush X0.here hx rfl (hb hby d4_65) ?_
                  show Steps p.tables e below (s₁.setTop (mkF m 67 #[.val (.int p1), .val (.long p2), .second, .val (.int p3), .val (.int kk)] [(.int (6 : Int32)), (.int kk)])) _
                  refine XS.icmpYes X0.here hx rfl (pc0 := 67) (pc' := 73) rfl (hb hby d4_67) rfl (feq hc67).2 (by decide) (by decide) ?_
                  show Steps p.tables e below (s₁.setTop (mkF m 73 #[.val (.int p1), .val (.long p2), .second, .val (.int p3), .val (.int kk)] [])) _
                  refine XS.iload X0.here hx rfl (hb hby d4_73) rfl ?_
                  show Steps p.tables e below (s₁.setTop (mkF m 75 #[.val (.int p1), .val (.long p2), .second, .val (.int p3), .val (.int kk)] [(.int kk)])) _
                  refine XS.bipush X0.here hx rfl (hb hby d4_75) ?_
                  show Steps p.tables e below (s₁.setTop (mkF m 77 #[.val (.int p1), .val (.long p2), .second, .val (.int p3), .val (.int kk)] [(.int (7 : Int32)), (.int kk)])) _
                  refine XS.icmpNo X0.here hx rfl (hb hby d4_77) rfl (teq hc77).2 ?_
                  show Steps p.tables e below (s₁.setTop (mkF m 80 #[.val (.int p1), .val (.long p2), .second, .val (.int p3), .val (.int kk)] [])) _
                  refine XS.bipush X0.here hx rfl (hb hby d4_80) ?_
                  exact kt
                · refine ⟨91, #[.val (.int p1), .val (.long p2), .second, .val (.int p3), .val (.int kk)], (((((((p2).toUInt64 >>> (((8 : Int32) * p3) &&& 0x3f).toInt64.toUInt64).toInt64)).toInt32)).toInt8.toInt32), hb hby d4_91, fun t kt => ?_⟩
                  show Steps p.tables e below (s₁.setTop (mkF m 0 #[.val (.int p1), .val (.long p2), .second, .val (.int p3), .unset] [])) _
                  refine XS.iloadN X0.here hx rfl (hb hby d4_0) rfl ?_
                  show Steps p.tables e below (s₁.setTop (mkF m 1 #[.val (.int p1), .val (.long p2), .second, .val (.int p3), .unset] [(.int p1)])) _
                  refine XS.iconst X0.here hx rfl (hb hby d4_1) ?_
                  show Steps p.tables e below (s₁.setTop (mkF m 2 #[.val (.int p1), .val (.long p2), .second, .val (.int p3), .unset] [(.int (4 : Int32)), (.int p1)])) _
                  refine XS.iloadN X0.here hx rfl (hb hby d4_2) rfl ?_
                  show Steps p.tables e below (s₁.setTop (mkF m 3 #[.val (.int p1), .val (.long p2), .second, .val (.int p3), .unset] [(.int p3), (.int (4 : Int32)), (.int p1)])) _
                  refine XS.imul X0.here hx rfl (hb hby d4_3) rfl ?_
                  show Steps p.tables e below (s₁.setTop (mkF m 4 #[.val (.int p1), .val (.long p2), .second, .val (.int p3), .unset] [(.int ((4 : Int32) * p3)), (.int p1)])) _
                  refine XS.iushr X0.here hx rfl (hb hby d4_4) rfl ?_
                  show Steps p.tables e below (s₁.setTop (mkF m 5 #[.val (.int p1), .val (.long p2), .second, .val (.int p3), .unset] [(.int (((p1).toUInt32 >>> (((4 : Int32) * p3) &&& 31).toUInt32).toInt32))])) _
                  refine XS.bipush X0.here hx rfl (hb hby d4_5) ?_
                  show Steps p.tables e below (s₁.setTop (mkF m 7 #[.val (.int p1), .val (.long p2), .second, .val (.int p3), .unset] [(.int (15 : Int32)), (.int (((p1).toUInt32 >>> (((4 : Int32) * p3) &&& 31).toUInt32).toInt32))])) _
                  refine XS.iand X0.here hx rfl (hb hby d4_7) rfl ?_
                  show Steps p.tables e below (s₁.setTop (mkF m 8 #[.val (.int p1), .val (.long p2), .second, .val (.int p3), .unset] [(.int ((((p1).toUInt32 >>> (((4 : Int32) * p3) &&& 31).toUInt32).toInt32) &&& (15 : Int32)))])) _
                  refine XS.istore X0.here hx rfl (hb hby d4_8) rfl (l' := #[.val (.int p1), .val (.long p2), .second, .val (.int p3), .val (.int ((((p1).toUInt32 >>> (((4 : Int32) * p3) &&& 31).toUInt32).toInt32) &&& (15 : Int32)))]) rfl ?_
                  show Steps p.tables e below (s₁.setTop (mkF m 10 #[.val (.int p1), .val (.long p2), .second, .val (.int p3), .val (.int ((((p1).toUInt32 >>> (((4 : Int32) * p3) &&& 31).toUInt32).toInt32) &&& (15 : Int32)))] [])) _
                  rw [hkk]
                  show Steps p.tables e below (s₁.setTop (mkF m 10 #[.val (.int p1), .val (.long p2), .second, .val (.int p3), .val (.int kk)] [])) _
                  refine XS.iload X0.here hx rfl (hb hby d4_10) rfl ?_
                  show Steps p.tables e below (s₁.setTop (mkF m 12 #[.val (.int p1), .val (.long p2), .second, .val (.int p3), .val (.int kk)] [(.int kk)])) _
                  refine XS.ifYes X0.here hx rfl (pc0 := 12) (pc' := 18) rfl (hb hby d4_12) rfl ((if0 _ _).trans (feq hc12).2) (by decide) (by decide) ?_
                  show Steps p.tables e below (s₁.setTop (mkF m 18 #[.val (.int p1), .val (.long p2), .second, .val (.int p3), .val (.int kk)] [])) _
                  refine XS.iload X0.here hx rfl (hb hby d4_18) rfl ?_
                  show Steps p.tables e below (s₁.setTop (mkF m 20 #[.val (.int p1), .val (.long p2), .second, .val (.int p3), .val (.int kk)] [(.int kk)])) _
                  refine XS.iconst X0.here hx rfl (hb hby d4_20) ?_
                  show Steps p.tables e below (s₁.setTop (mkF m 21 #[.val (.int p1), .val (.long p2), .second, .val (.int p3), .val (.int kk)] [(.int (1 : Int32)), (.int kk)])) _
                  refine XS.icmpYes X0.here hx rfl (pc0 := 21) (pc' := 27) rfl (hb hby d4_21) rfl (feq hc21).2 (by decide) (by decide) ?_
                  show Steps p.tables e below (s₁.setTop (mkF m 27 #[.val (.int p1), .val (.long p2), .second, .val (.int p3), .val (.int kk)] [])) _
                  refine XS.iload X0.here hx rfl (hb hby d4_27) rfl ?_
                  show Steps p.tables e below (s₁.setTop (mkF m 29 #[.val (.int p1), .val (.long p2), .second, .val (.int p3), .val (.int kk)] [(.int kk)])) _
                  refine XS.iconst X0.here hx rfl (hb hby d4_29) ?_
                  show Steps p.tables e below (s₁.setTop (mkF m 30 #[.val (.int p1), .val (.long p2), .second, .val (.int p3), .val (.int kk)] [(.int (2 : Int32)), (.int kk)])) _
                  refine XS.icmpYes X0.here hx rfl (pc0 := 30) (pc' := 36) rfl (hb hby d4_30) rfl (feq hc30).2 (by decide) (by decide) ?_
                  show Steps p.tables e below (s₁.setTop (mkF m 36 #[.val (.int p1), .val (.long p2), .second, .val (.int p3), .val (.int kk)] [])) _
                  refine XS.iload X0.here hx rfl (hb hby d4_36) rfl ?_
                  show Steps p.tables e below (s₁.setTop (mkF m 38 #[.val (.int p1), .val (.long p2), .second, .val (.int p3), .val (.int kk)] [(.int kk)])) _
                  refine XS.iconst X0.here hx rfl (hb hby d4_38) ?_
                  show Steps p.tables e below (s₁.setTop (mkF m 39 #[.val (.int p1), .val (.long p2), .second, .val (.int p3), .val (.int kk)] [(.int (3 : Int32)), (.int kk)])) _
                  refine XS.icmpYes X0.here hx rfl (pc0 := 39) (pc' := 45) rfl (hb hby d4_39) rfl (feq hc39).2 (by decide) (by decide) ?_
                  show Steps p.tables e below (s₁.setTop (mkF m 45 #[.val (.int p1), .val (.long p2), .second, .val (.int p3), .val (.int kk)] [])) _
                  refine XS.iload X0.here hx rfl (hb hby d4_45) rfl ?_
                  show Steps p.tables e below (s₁.setTop (mkF m 47 #[.val (.int p1), .val (.long p2), .second, .val (.int p3), .val (.int kk)] [(.int kk)])) _
                  refine XS.iconst X0.here hx rfl (hb hby d4_47) ?_
                  show Steps p.tables e below (s₁.setTop (mkF m 48 #[.val (.int p1), .val (.long p2), .second, .val (.int p3), .val (.int kk)] [(.int (4 : Int32)), (.int kk)])) _
                  refine XS.icmpYes X0.here hx rfl (pc0 := 48) (pc' := 54) rfl (hb hby d4_48) rfl (feq hc48).2 (by decide) (by decide) ?_
                  show Steps p.tables e below (s₁.setTop (mkF m 54 #[.val (.int p1), .val (.long p2), .second, .val (.int p3), .val (.int kk)] [])) _
                  refine XS.iload X0.here hx rfl (hb hby d4_54) rfl ?_
                  show Steps p.tables e below (s₁.setTop (mkF m 56 #[.val (.int p1), .val (.long p2), .second, .val (.int p3), .val (.int kk)] [(.int kk)])) _
                  refine XS.iconst X0.here hx rfl (hb hby d4_56) ?_
                  show Steps p.tables e below (s₁.setTop (mkF m 57 #[.val (.int p1), .val (.long p2), .second, .val (.int p3), .val (.int kk)] [(.int (5 : Int32)), (.int kk)])) _
                  refine XS.icmpYes X0.here hx rfl (pc0 := 57) (pc' := 63) rfl (hb hby d4_57) rfl (feq hc57).2 (by decide) (by decide) ?_
                  show Steps p.tables e below (s₁.setTop (mkF m 63 #[.val (.int p1), .val (.long p2), .second, .val (.int p3), .val (.int kk)] [])) _
                  refine XS.iload X0.here hx rfl (hb hby d4_63) rfl ?_
                  show Steps p.tables e below (s₁.setTop (mkF m 65 #[.val (.int p1), .val (.long p2), .second, .val (.int p3), .val (.int kk)] [(.int kk)])) _
                  refine XS.bipush X0.here hx rfl (hb hby d4_65) ?_
                  show Steps p.tables e below (s₁.setTop (mkF m 67 #[.val (.int p1), .val (.long p2), .second, .val (.int p3), .val (.int kk)] [(.int (6 : Int32)), (.int kk)])) _
                  refine XS.icmpYes X0.here hx rfl (pc0 := 67) (pc' := 73) rfl (hb hby d4_67) rfl (feq hc67).2 (by decide) (by decide) ?_
                  show Steps p.tables e below (s₁.setTop (mkF m 73 #[.val (.int p1), .val (.long p2), .second, .val (.int p3), .val (.int kk)] [])) _
                  refine XS.iload X0.here hx rfl (hb hby d4_73) rfl ?_
                  show Steps p.tables e below (s₁.setTop (mkF m 75 #[.val (.int p1), .val (.long p2), .second, .val (.int p3), .val (.int kk)] [(.int kk)])) _
                  refine XS.bipush X0.here hx rfl (hb hby d4_75) ?_
                  show Steps p.tables e below (s₁.setTop (mkF m 77 #[.val (.int p1), .val (.long p2), .second, .val (.int p3), .val (.int kk)] [(.int (7 : Int32)), (.int kk)])) _
                  refine XS.icmpYes X0.here hx rfl (pc0 := 77) (pc' := 83) rfl (hb hby d4_77) rfl (feq hc77).2 (by decide) (by decide) ?_
                  show Steps p.tables e below (s₁.setTop (mkF m 83 #[.val (.int p1), .val (.long p2), .second, .val (.int p3), .val (.int kk)] [])) _
                  refine XS.lloadN X0.here hx rfl (hb hby d4_83) rfl ?_
                  show Steps p.tables e below (s₁.setTop (mkF m 84 #[.val (.int p1), .val (.long p2), .second, .val (.int p3), .val (.int kk)] [(.long p2)])) _
                  refine XS.bipush X0.here hx rfl (hb hby d4_84) ?_
                  show Steps p.tables e below (s₁.setTop (mkF m 86 #[.val (.int p1), .val (.long p2), .second, .val (.int p3), .val (.int kk)] [(.int (8 : Int32)), (.long p2)])) _
                  refine XS.iloadN X0.here hx rfl (hb hby d4_86) rfl ?_
                  show Steps p.tables e below (s₁.setTop (mkF m 87 #[.val (.int p1), .val (.long p2), .second, .val (.int p3), .val (.int kk)] [(.int p3), (.int (8 : Int32)), (.long p2)])) _
                  refine XS.imul X0.here hx rfl (hb hby d4_87) rfl ?_
                  show Steps p.tables e below (s₁.setTop (mkF m 88 #[.val (.int p1), .val (.long p2), .second, .val (.int p3), .val (.int kk)] [(.int ((8 : Int32) * p3)), (.long p2)])) _
                  refine XS.lushr X0.here hx rfl (hb hby d4_88) rfl ?_
                  show Steps p.tables e below (s₁.setTop (mkF m 89 #[.val (.int p1), .val (.long p2), .second, .val (.int p3), .val (.int kk)] [(.long (((p2).toUInt64 >>> (((8 : Int32) * p3) &&& 0x3f).toInt64.toUInt64).toInt64))])) _
                  refine XS.l2i X0.here hx rfl (hb hby d4_89) rfl ?_
                  show Steps p.tables e below (s₁.setTop (mkF m 90 #[.val (.int p1), .val (.long p2), .second, .val (.int p3), .val (.int kk)] [(.int (((((p2).toUInt64 >>> (((8 : Int32) * p3) &&& 0x3f).toInt64.toUInt64).toInt64)).toInt32))])) _
                  refine XS.i2b X0.here hx rfl (hb hby d4_90) rfl ?_
                  exact kt
def Q2 (z : Int32) (h0 : Heap) (n0 : Nat) (v : Option Value) (h : Heap) (L : List Loc) : Prop := v = some (.int z) ∧ Fr n0 L ∧ h = h0
set_option maxRecDepth 65536 in
set_option maxHeartbeats 40000000 in
theorem rm2 (l : Launch) (Z : State) (a0 : Array Value) (hw : ∀ d ∈ tables_1, d.before a0 Z = true) (ws : List Jvm.Cond) (b : Addr) (cl : Cell) (k : Nat) (h0 : Heap) (n0 : Nat) (Z0 : n0 ≤ h0.size) (Ar : Arr Z h0 b cl .byte) (Hi : own_ints cl) (hsz : cl.slots.size ≤ 8) (hk : k < 2 ^ 31) :
    MetFree l (⟨"com/example/plinth/plinth/cli/InputFileIsXmlPinLaw", "at", "([BI)I"⟩ : MethodName) (head1 (Jvm.Cond.code (⟨"com/example/plinth/plinth/cli/InputFileIsXmlPinLaw", "at", "([BI)I"⟩ : MethodName) method_3_code 2 (some .int) :: ws) ({ frames := 0, cells := 0, slots := 0, locals := 0 } : Room)) (fun a U => a = #[(.ref b), (.int k.toInt32)] ∧ Z.Warmed39 U.vm ∧ U.heap = h0) (fun _ _ _ _ _ => True) (fun _ U o U' => ∃ v L, o = .returned v ∧ Q2 (own_g cl k) h0 n0 v U'.heap L ∧ FrameEnd U o U' L ({ frames := 0, cells := 0, slots := 0, locals := 0 } : Room).cells ({ frames := 0, cells := 0, slots := 0, locals := 0 } : Room).slots) := by
  refine MetFree.of_bodySF (plainFor_of_name pn_0) hisR ?_
  intro p e s m args below meth c s₁ Bd hml0 hP hK
  obtain ⟨rfl, hZ, hh⟩ := hP
  have hx := Bd.exec
  have hby := Bd.bytes
  have hml : c.maxLocals = 2 := hml0
  have hown : s.vm.findClass "com/example/plinth/plinth/cli/InputFileIsXmlPinLaw" = some m.cls := findClass_of_methodNamed Bd.named
  have hnm := (name_of_methodNamed Bd.named Bd.method).1
  have X0 : Stand p l e ({ frames := 0, cells := 0, slots := 0, locals := 0 } : Room) s m #[(.ref b), (.int k.toInt32)] below meth c s₁ [] 0 0 := Stand.of_body Bd
  have e0 : s₁.heap = h0 := by rw [← hh, Bd.state]; rfl
  have N0 := Fr.nil n0
  have pre0 : ∀ t, Steps p.tables e below (s₁.setTop (mkF m 0 #[.val (.ref b), .val (.int k.toInt32)] [])) t → Steps p.tables e below (s₁.setTop (entryFrame m #[(.ref b), (.int k.toInt32)] 2)) t := fun t kt0 => castTop (ef_2 m b k.toInt32) kt0

  have hn31 : cl.slots.size < 2 ^ 31 := by omega
  suffices hs : ∀ t, Steps p.tables e below (s₁.setTop (mkF m 13 #[.val (.ref b), .val (.int k.toInt32)] [(.int (own_g cl k))])) t → Steps p.tables e below (s₁.setTop (mkF m 0 #[.val (.ref b), .val (.int k.toInt32)] [])) t by
    obtain ⟨fs, hr, hrun, hended, hW, hsame⟩ := X0.leave (v := some (.int (own_g cl k))) (fun h => by rw [Bd.returns] at h; cases h)
    refine ⟨_, _, pre0 _ (hs _ (retI X0 hx Bd.returns (hb hby d2_13) hr)), hrun, hended, _, _, rfl, ?_, ⟨_, rfl⟩, hW, hsame.mono (by decide) (by decide)⟩
    show Q2 (own_g cl k) h0 n0 _ s₁.heap _
    rw [e0]
    exact ⟨rfl, N0, rfl⟩
  intro t kt
  by_cases hin : k < cl.slots.size
  · have hc3 : k.toInt32 < cl.slots.size.toInt32 := (own_lt hk hn31).mpr hin
    have hat : cl.slots[k.toInt32.toNatClampNeg]? = some (.int (own_g cl k)) := by rw [own_clamp hk]; exact own_g_at Hi hin
    show Steps p.tables e below (s₁.setTop (mkF m 0 #[.val (.ref b), .val (.int k.toInt32)] [])) _
    refine XS.iloadN X0.here hx rfl (hb hby d2_0) rfl ?_
    show Steps p.tables e below (s₁.setTop (mkF m 1 #[.val (.ref b), .val (.int k.toInt32)] [(.int k.toInt32)])) _
    refine XS.aloadN X0.here hx rfl (hb hby d2_1) rfl rfl ?_
    show Steps p.tables e below (s₁.setTop (mkF m 2 #[.val (.ref b), .val (.int k.toInt32)] [(.ref b), (.int k.toInt32)])) _
    refine X0.arraylength hx (by rw [e0]; exact Ar.1) (State.isArrayOf_alike hZ.alike Ar.2.1) (g := (mkF m 2 #[.val (.ref b), .val (.int k.toInt32)] [(.ref b), (.int k.toInt32)])) rfl rfl (hb hby d2_2) _ ?_
    show Steps p.tables e below (s₁.setTop (mkF m 3 #[.val (.ref b), .val (.int k.toInt32)] [(.int cl.slots.size.toInt32), (.int k.toInt32)])) _
    refine XS.icmpNo X0.here hx rfl (hb hby d2_3) rfl (tlt hc3).2.1 ?_
    show Steps p.tables e below (s₁.setTop (mkF m 6 #[.val (.ref b), .val (.int k.toInt32)] [])) _
    refine XS.aloadN X0.here hx rfl (hb hby d2_6) rfl rfl ?_
    show Steps p.tables e below (s₁.setTop (mkF m 7 #[.val (.ref b), .val (.int k.toInt32)] [(.ref b)])) _
    refine XS.iloadN X0.here hx rfl (hb hby d2_7) rfl ?_
    show Steps p.tables e below (s₁.setTop (mkF m 8 #[.val (.ref b), .val (.int k.toInt32)] [(.int k.toInt32), (.ref b)])) _
    refine X0.baloadBytes hx (j := k.toInt32) (v := (.int (own_g cl k))) (by rw [e0]; exact Ar.1) (State.isArrayOf_alike hZ.alike Ar.2.1) Ar.2.2 (idx_in hin hn31) hat (g := (mkF m 8 #[.val (.ref b), .val (.int k.toInt32)] [(.int k.toInt32), (.ref b)])) rfl rfl (hb hby d2_8) _ ?_
    show Steps p.tables e below (s₁.setTop (mkF m 9 #[.val (.ref b), .val (.int k.toInt32)] [(.int (own_g cl k))])) _
    refine XS.goto X0.here hx rfl (pc0 := 9) (pc' := 13) rfl (hb hby d2_9) (by decide) (by decide) ?_
    exact kt
  · have hc3 : ¬ (k.toInt32 < cl.slots.size.toInt32) := fun q => hin ((own_lt hk hn31).mp q)
    rw [own_g_out (Nat.le_of_not_lt hin)] at kt
    show Steps p.tables e below (s₁.setTop (mkF m 0 #[.val (.ref b), .val (.int k.toInt32)] [])) _
    refine XS.iloadN X0.here hx rfl (hb hby d2_0) rfl ?_
    show Steps p.tables e below (s₁.setTop (mkF m 1 #[.val (.ref b), .val (.int k.toInt32)] [(.int k.toInt32)])) _
    refine XS.aloadN X0.here hx rfl (hb hby d2_1) rfl rfl ?_
    show Steps p.tables e below (s₁.setTop (mkF m 2 #[.val (.ref b), .val (.int k.toInt32)] [(.ref b), (.int k.toInt32)])) _
    refine X0.arraylength hx (by rw [e0]; exact Ar.1) (State.isArrayOf_alike hZ.alike Ar.2.1) (g := (mkF m 2 #[.val (.ref b), .val (.int k.toInt32)] [(.ref b), (.int k.toInt32)])) rfl rfl (hb hby d2_2) _ ?_
    show Steps p.tables e below (s₁.setTop (mkF m 3 #[.val (.ref b), .val (.int k.toInt32)] [(.int cl.slots.size.toInt32), (.int k.toInt32)])) _
    refine XS.icmpYes X0.here hx rfl (pc0 := 3) (pc' := 12) rfl (hb hby d2_3) rfl (flt hc3).2.1 (by decide) (by decide) ?_
    show Steps p.tables e below (s₁.setTop (mkF m 12 #[.val (.ref b), .val (.int k.toInt32)] [])) _
    refine XS.iconst X0.here hx rfl (hb hby d2_12) ?_
    exact kt
section Loop
variable {p : Program} {l : Launch} {e : Env} {R : Room} {s : State} {m : MethodId} {args : Array Value} {below : List Frame} {meth : Method} {c : Code} {T0 : State} {locs : List Loc} {cells slots : Nat} {Z : State} {h0 : Heap}
set_option maxRecDepth 65536 in
set_option maxHeartbeats 40000000 in
theorem own_loop1 (X0 : Stand p l e R s m args below meth c T0 locs cells slots) (hx : p.tables.exec = Jvm.exec) (hZ : Z.Warmed39 s.vm) (hby : c.code = prog_494_method_3_code) (e0 : T0.heap = h0) (b : Addr) (cl : Cell) (Ar : Arr Z h0 b cl .byte) (Hi : own_ints cl) (hsz : cl.slots.size ≤ 8) :
    ∀ (k i : Nat), cl.slots.size ≤ i + k → i + k ≤ 20 → ∃ i' : Int32, own_Ld p e below T0 (mkF m 34 #[.val (.ref b), .val (.int i.toInt32)] []) T0 (mkF m 97 #[.val (.ref b), .val (.int i')] [(.int (own_scan (own_g cl) k i))]) := by
  intro k
  have hn31 : cl.slots.size < 2 ^ 31 := by omega
  induction k with
  | zero =>
    intro i hi hb20
    have hc37 : ¬ (i.toInt32 < cl.slots.size.toInt32) := fun q => absurd ((own_lt (by omega) hn31).mp q) (by omega)
    refine ⟨i.toInt32, fun t kt => ?_⟩
    have ew : own_scan (own_g cl) 0 i = 0 := rfl
    rw [ew] at kt
    show Steps p.tables e below (T0.setTop (mkF m 34 #[.val (.ref b), .val (.int i.toInt32)] [])) _
    refine XS.iloadN X0.here hx rfl (hb hby d1_34) rfl ?_
    show Steps p.tables e below (T0.setTop (mkF m 35 #[.val (.ref b), .val (.int i.toInt32)] [(.int i.toInt32)])) _
    refine XS.aloadN X0.here hx rfl (hb hby d1_35) rfl rfl ?_
    show Steps p.tables e below (T0.setTop (mkF m 36 #[.val (.ref b), .val (.int i.toInt32)] [(.ref b), (.int i.toInt32)])) _
    refine X0.arraylength hx (by rw [e0]; exact Ar.1) (State.isArrayOf_alike hZ.alike Ar.2.1) (g := (mkF m 36 #[.val (.ref b), .val (.int i.toInt32)] [(.ref b), (.int i.toInt32)])) rfl rfl (hb hby d1_36) _ ?_
    show Steps p.tables e below (T0.setTop (mkF m 37 #[.val (.ref b), .val (.int i.toInt32)] [(.int cl.slots.size.toInt32), (.int i.toInt32)])) _
    refine XS.icmpYes X0.here hx rfl (pc0 := 37) (pc' := 78) rfl (hb hby d1_37) rfl (flt hc37).2.1 (by decide) (by decide) ?_
    show Steps p.tables e below (T0.setTop (mkF m 78 #[.val (.ref b), .val (.int i.toInt32)] [])) _
    refine XS.iloadN X0.here hx rfl (hb hby d1_78) rfl ?_
    show Steps p.tables e below (T0.setTop (mkF m 79 #[.val (.ref b), .val (.int i.toInt32)] [(.int i.toInt32)])) _
    refine XS.aloadN X0.here hx rfl (hb hby d1_79) rfl rfl ?_
    show Steps p.tables e below (T0.setTop (mkF m 80 #[.val (.ref b), .val (.int i.toInt32)] [(.ref b), (.int i.toInt32)])) _
    refine X0.arraylength hx (by rw [e0]; exact Ar.1) (State.isArrayOf_alike hZ.alike Ar.2.1) (g := (mkF m 80 #[.val (.ref b), .val (.int i.toInt32)] [(.ref b), (.int i.toInt32)])) rfl rfl (hb hby d1_80) _ ?_
    show Steps p.tables e below (T0.setTop (mkF m 81 #[.val (.ref b), .val (.int i.toInt32)] [(.int cl.slots.size.toInt32), (.int i.toInt32)])) _
    refine XS.icmpYes X0.here hx rfl (pc0 := 81) (pc' := 96) rfl (hb hby d1_81) rfl (flt hc37).2.1 (by decide) (by decide) ?_
    show Steps p.tables e below (T0.setTop (mkF m 96 #[.val (.ref b), .val (.int i.toInt32)] [])) _
    refine XS.iconst X0.here hx rfl (hb hby d1_96) ?_
    exact kt
  | succ k ih =>
    intro i hi hb20
    by_cases hlt : i < cl.slots.size
    · have hc37 : i.toInt32 < cl.slots.size.toInt32 := (own_lt (by omega) hn31).mpr hlt
      have hin := idx_in hlt hn31
      have hat : cl.slots[i.toInt32.toNatClampNeg]? = some (.int (own_g cl i)) := by rw [own_clamp (by omega)]; exact own_g_at Hi hlt
      obtain ⟨i', ih'⟩ := ih (i + 1) (by omega) (by omega)
      by_cases hc45 : own_g cl i = (32 : Int32)
      · have ew : own_scan (own_g cl) (k + 1) i = own_scan (own_g cl) k (i + 1) := by simp [own_scan, own_ws, hc45]
        refine ⟨i', fun t kt => ?_⟩
        rw [ew] at kt
        show Steps p.tables e below (T0.setTop (mkF m 34 #[.val (.ref b), .val (.int i.toInt32)] [])) _
        refine XS.iloadN X0.here hx rfl (hb hby d1_34) rfl ?_
        show Steps p.tables e below (T0.setTop (mkF m 35 #[.val (.ref b), .val (.int i.toInt32)] [(.int i.toInt32)])) _
        refine XS.aloadN X0.here hx rfl (hb hby d1_35) rfl rfl ?_
        show Steps p.tables e below (T0.setTop (mkF m 36 #[.val (.ref b), .val (.int i.toInt32)] [(.ref b), (.int i.toInt32)])) _
        refine X0.arraylength hx (by rw [e0]; exact Ar.1) (State.isArrayOf_alike hZ.alike Ar.2.1) (g := (mkF m 36 #[.val (.ref b), .val (.int i.toInt32)] [(.ref b), (.int i.toInt32)])) rfl rfl (hb hby d1_36) _ ?_
        show Steps p.tables e below (T0.setTop (mkF m 37 #[.val (.ref b), .val (.int i.toInt32)] [(.int cl.slots.size.toInt32), (.int i.toInt32)])) _
        refine XS.icmpNo X0.here hx rfl (hb hby d1_37) rfl (tlt hc37).2.1 ?_
        show Steps p.tables e below (T0.setTop (mkF m 40 #[.val (.ref b), .val (.int i.toInt32)] [])) _
        refine XS.aloadN X0.here hx rfl (hb hby d1_40) rfl rfl ?_
        show Steps p.tables e below (T0.setTop (mkF m 41 #[.val (.ref b), .val (.int i.toInt32)] [(.ref b)])) _
        refine XS.iloadN X0.here hx rfl (hb hby d1_41) rfl ?_
        show Steps p.tables e below (T0.setTop (mkF m 42 #[.val (.ref b), .val (.int i.toInt32)] [(.int i.toInt32), (.ref b)])) _
        refine X0.baloadBytes hx (j := i.toInt32) (v := (.int (own_g cl i))) (by rw [e0]; exact Ar.1) (State.isArrayOf_alike hZ.alike Ar.2.1) Ar.2.2 hin hat (g := (mkF m 42 #[.val (.ref b), .val (.int i.toInt32)] [(.int i.toInt32), (.ref b)])) rfl rfl (hb hby d1_42) _ ?_
        show Steps p.tables e below (T0.setTop (mkF m 43 #[.val (.ref b), .val (.int i.toInt32)] [(.int (own_g cl i))])) _
        refine XS.bipush X0.here hx rfl (hb hby d1_43) ?_
        show Steps p.tables e below (T0.setTop (mkF m 45 #[.val (.ref b), .val (.int i.toInt32)] [(.int (32 : Int32)), (.int (own_g cl i))])) _
        refine XS.icmpYes X0.here hx rfl (pc0 := 45) (pc' := 72) rfl (hb hby d1_45) rfl (teq hc45).1 (by decide) (by decide) ?_
        show Steps p.tables e below (T0.setTop (mkF m 72 #[.val (.ref b), .val (.int i.toInt32)] [])) _
        refine XS.iinc X0.here hx rfl (hb hby d1_72) rfl (l' := #[.val (.ref b), .val (.int (i.toInt32 + (1 : Int32)))]) rfl ?_
        show Steps p.tables e below (T0.setTop (mkF m 75 #[.val (.ref b), .val (.int (i.toInt32 + (1 : Int32)))] [])) _
        refine XS.goto X0.here hx rfl (pc0 := 75) (pc' := 34) rfl (hb hby d1_75) (by decide) (by decide) ?_
        show Steps p.tables e below (T0.setTop (mkF m 34 #[.val (.ref b), .val (.int (i.toInt32 + (1 : Int32)))] [])) _
        rw [own_succ i]
        exact ih' t kt
      · skip
        by_cases hc53 : own_g cl i = (9 : Int32)
        · have ew : own_scan (own_g cl) (k + 1) i = own_scan (own_g cl) k (i + 1) := by simp [own_scan, own_ws, hc45, hc53]
          refine ⟨i', fun t kt => ?_⟩
          rw [ew] at kt
          show Steps p.tables e below (T0.setTop (mkF m 34 #[.val (.ref b), .val (.int i.toInt32)] [])) _
          refine XS.iloadN X0.here hx rfl (hb hby d1_34) rfl ?_
          show Steps p.tables e below (T0.setTop (mkF m 35 #[.val (.ref b), .val (.int i.toInt32)] [(.int i.toInt32)])) _
          refine XS.aloadN X0.here hx rfl (hb hby d1_35) rfl rfl ?_
          show Steps p.tables e below (T0.setTop (mkF m 36 #[.val (.ref b), .val (.int i.toInt32)] [(.ref b), (.int i.toInt32)])) _
          refine X0.arraylength hx (by rw [e0]; exact Ar.1) (State.isArrayOf_alike hZ.alike Ar.2.1) (g := (mkF m 36 #[.val (.ref b), .val (.int i.toInt32)] [(.ref b), (.int i.toInt32)])) rfl rfl (hb hby d1_36) _ ?_
          show Steps p.tables e below (T0.setTop (mkF m 37 #[.val (.ref b), .val (.int i.toInt32)] [(.int cl.slots.size.toInt32), (.int i.toInt32)])) _
          refine XS.icmpNo X0.here hx rfl (hb hby d1_37) rfl (tlt hc37).2.1 ?_
          show Steps p.tables e below (T0.setTop (mkF m 40 #[.val (.ref b), .val (.int i.toInt32)] [])) _
          refine XS.aloadN X0.here hx rfl (hb hby d1_40) rfl rfl ?_
          show Steps p.tables e below (T0.setTop (mkF m 41 #[.val (.ref b), .val (.int i.toInt32)] [(.ref b)])) _
          refine XS.iloadN X0.here hx rfl (hb hby d1_41) rfl ?_
          show Steps p.tables e below (T0.setTop (mkF m 42 #[.val (.ref b), .val (.int i.toInt32)] [(.int i.toInt32), (.ref b)])) _
          refine X0.baloadBytes hx (j := i.toInt32) (v := (.int (own_g cl i))) (by rw [e0]; exact Ar.1) (State.isArrayOf_alike hZ.alike Ar.2.1) Ar.2.2 hin hat (g := (mkF m 42 #[.val (.ref b), .val (.int i.toInt32)] [(.int i.toInt32), (.ref b)])) rfl rfl (hb hby d1_42) _ ?_
          show Steps p.tables e below (T0.setTop (mkF m 43 #[.val (.ref b), .val (.int i.toInt32)] [(.int (own_g cl i))])) _
          refine XS.bipush X0.here hx rfl (hb hby d1_43) ?_
          show Steps p.tables e below (T0.setTop (mkF m 45 #[.val (.ref b), .val (.int i.toInt32)] [(.int (32 : Int32)), (.int (own_g cl i))])) _
          refine XS.icmpNo X0.here hx rfl (hb hby d1_45) rfl (feq hc45).1 ?_
          show Steps p.tables e below (T0.setTop (mkF m 48 #[.val (.ref b), .val (.int i.toInt32)] [])) _
          refine XS.aloadN X0.here hx rfl (hb hby d1_48) rfl rfl ?_
          show Steps p.tables e below (T0.setTop (mkF m 49 #[.val (.ref b), .val (.int i.toInt32)] [(.ref b)])) _
          refine XS.iloadN X0.here hx rfl (hb hby d1_49) rfl ?_
          show Steps p.tables e below (T0.setTop (mkF m 50 #[.val (.ref b), .val (.int i.toInt32)] [(.int i.toInt32), (.ref b)])) _
          refine X0.baloadBytes hx (j := i.toInt32) (v := (.int (own_g cl i))) (by rw [e0]; exact Ar.1) (State.isArrayOf_alike hZ.alike Ar.2.1) Ar.2.2 hin hat (g := (mkF m 50 #[.val (.ref b), .val (.int i.toInt32)] [(.int i.toInt32), (.ref b)])) rfl rfl (hb hby d1_50) _ ?_
          show Steps p.tables e below (T0.setTop (mkF m 51 #[.val (.ref b), .val (.int i.toInt32)] [(.int (own_g cl i))])) _
          refine XS.bipush X0.here hx rfl (hb hby d1_51) ?_
          show Steps p.tables e below (T0.setTop (mkF m 53 #[.val (.ref b), .val (.int i.toInt32)] [(.int (9 : Int32)), (.int (own_g cl i))])) _
          refine XS.icmpYes X0.here hx rfl (pc0 := 53) (pc' := 72) rfl (hb hby d1_53) rfl (teq hc53).1 (by decide) (by decide) ?_
          show Steps p.tables e below (T0.setTop (mkF m 72 #[.val (.ref b), .val (.int i.toInt32)] [])) _
          refine XS.iinc X0.here hx rfl (hb hby d1_72) rfl (l' := #[.val (.ref b), .val (.int (i.toInt32 + (1 : Int32)))]) rfl ?_
          show Steps p.tables e below (T0.setTop (mkF m 75 #[.val (.ref b), .val (.int (i.toInt32 + (1 : Int32)))] [])) _
          refine XS.goto X0.here hx rfl (pc0 := 75) (pc' := 34) rfl (hb hby d1_75) (by decide) (by decide) ?_
          show Steps p.tables e below (T0.setTop (mkF m 34 #[.val (.ref b), .val (.int (i.toInt32 + (1 : Int32)))] [])) _
          rw [own_succ i]
          exact ih' t kt
        · skip
          by_cases hc61 : own_g cl i = (10 : Int32)
          · have ew : own_scan (own_g cl) (k + 1) i = own_scan (own_g cl) k (i + 1) := by simp [own_scan, own_ws, hc45, hc53, hc61]
            refine ⟨i', fun t kt => ?_⟩
            rw [ew] at kt
            show Steps p.tables e below (T0.setTop (mkF m 34 #[.val (.ref b), .val (.int i.toInt32)] [])) _
            refine XS.iloadN X0.here hx rfl (hb hby d1_34) rfl ?_
            show Steps p.tables e below (T0.setTop (mkF m 35 #[.val (.ref b), .val (.int i.toInt32)] [(.int i.toInt32)])) _
            refine XS.aloadN X0.here hx rfl (hb hby d1_35) rfl rfl ?_
            show Steps p.tables e below (T0.setTop (mkF m 36 #[.val (.ref b), .val (.int i.toInt32)] [(.ref b), (.int i.toInt32)])) _
            refine X0.arraylength hx (by rw [e0]; exact Ar.1) (State.isArrayOf_alike hZ.alike Ar.2.1) (g := (mkF m 36 #[.val (.ref b), .val (.int i.toInt32)] [(.ref b), (.int i.toInt32)])) rfl rfl (hb hby d1_36) _ ?_
            show Steps p.tables e below (T0.setTop (mkF m 37 #[.val (.ref b), .val (.int i.toInt32)] [(.int cl.slots.size.toInt32), (.int i.toInt32)])) _
            refine XS.icmpNo X0.here hx rfl (hb hby d1_37) rfl (tlt hc37).2.1 ?_
            show Steps p.tables e below (T0.setTop (mkF m 40 #[.val (.ref b), .val (.int i.toInt32)] [])) _
            refine XS.aloadN X0.here hx rfl (hb hby d1_40) rfl rfl ?_
            show Steps p.tables e below (T0.setTop (mkF m 41 #[.val (.ref b), .val (.int i.toInt32)] [(.ref b)])) _
            refine XS.iloadN X0.here hx rfl (hb hby d1_41) rfl ?_
            show Steps p.tables e below (T0.setTop (mkF m 42 #[.val (.ref b), .val (.int i.toInt32)] [(.int i.toInt32), (.ref b)])) _
            refine X0.baloadBytes hx (j := i.toInt32) (v := (.int (own_g cl i))) (by rw [e0]; exact Ar.1) (State.isArrayOf_alike hZ.alike Ar.2.1) Ar.2.2 hin hat (g := (mkF m 42 #[.val (.ref b), .val (.int i.toInt32)] [(.int i.toInt32), (.ref b)])) rfl rfl (hb hby d1_42) _ ?_
            show Steps p.tables e below (T0.setTop (mkF m 43 #[.val (.ref b), .val (.int i.toInt32)] [(.int (own_g cl i))])) _
            refine XS.bipush X0.here hx rfl (hb hby d1_43) ?_
            show Steps p.tables e below (T0.setTop (mkF m 45 #[.val (.ref b), .val (.int i.toInt32)] [(.int (32 : Int32)), (.int (own_g cl i))])) _
            refine XS.icmpNo X0.here hx rfl (hb hby d1_45) rfl (feq hc45).1 ?_
            show Steps p.tables e below (T0.setTop (mkF m 48 #[.val (.ref b), .val (.int i.toInt32)] [])) _
            refine XS.aloadN X0.here hx rfl (hb hby d1_48) rfl rfl ?_
            show Steps p.tables e below (T0.setTop (mkF m 49 #[.val (.ref b), .val (.int i.toInt32)] [(.ref b)])) _
            refine XS.iloadN X0.here hx rfl (hb hby d1_49) rfl ?_
            show Steps p.tables e below (T0.setTop (mkF m 50 #[.val (.ref b), .val (.int i.toInt32)] [(.int i.toInt32), (.ref b)])) _
            refine X0.baloadBytes hx (j := i.toInt32) (v := (.int (own_g cl i))) (by rw [e0]; exact Ar.1) (State.isArrayOf_alike hZ.alike Ar.2.1) Ar.2.2 hin hat (g := (mkF m 50 #[.val (.ref b), .val (.int i.toInt32)] [(.int i.toInt32), (.ref b)])) rfl rfl (hb hby d1_50) _ ?_
            show Steps p.tables e below (T0.setTop (mkF m 51 #[.val (.ref b), .val (.int i.toInt32)] [(.int (own_g cl i))])) _
            refine XS.bipush X0.here hx rfl (hb hby d1_51) ?_
            show Steps p.tables e below (T0.setTop (mkF m 53 #[.val (.ref b), .val (.int i.toInt32)] [(.int (9 : Int32)), (.int (own_g cl i))])) _
            refine XS.icmpNo X0.here hx rfl (hb hby d1_53) rfl (feq hc53).1 ?_
            show Steps p.tables e below (T0.setTop (mkF m 56 #[.val (.ref b), .val (.int i.toInt32)] [])) _
            refine XS.aloadN X0.here hx rfl (hb hby d1_56) rfl rfl ?_
            show Steps p.tables e below (T0.setTop (mkF m 57 #[.val (.ref b), .val (.int i.toInt32)] [(.ref b)])) _
            refine XS.iloadN X0.here hx rfl (hb hby d1_57) rfl ?_
            show Steps p.tables e below (T0.setTop (mkF m 58 #[.val (.ref b), .val (.int i.toInt32)] [(.int i.toInt32), (.ref b)])) _
            refine X0.baloadBytes hx (j := i.toInt32) (v := (.int (own_g cl i))) (by rw [e0]; exact Ar.1) (State.isArrayOf_alike hZ.alike Ar.2.1) Ar.2.2 hin hat (g := (mkF m 58 #[.val (.ref b), .val (.int i.toInt32)] [(.int i.toInt32), (.ref b)])) rfl rfl (hb hby d1_58) _ ?_
            show Steps p.tables e below (T0.setTop (mkF m 59 #[.val (.ref b), .val (.int i.toInt32)] [(.int (own_g cl i))])) _
            refine XS.bipush X0.here hx rfl (hb hby d1_59) ?_
            show Steps p.tables e below (T0.setTop (mkF m 61 #[.val (.ref b), .val (.int i.toInt32)] [(.int (10 : Int32)), (.int (own_g cl i))])) _
            refine XS.icmpYes X0.here hx rfl (pc0 := 61) (pc' := 72) rfl (hb hby d1_61) rfl (teq hc61).1 (by decide) (by decide) ?_
            show Steps p.tables e below (T0.setTop (mkF m 72 #[.val (.ref b), .val (.int i.toInt32)] [])) _
            refine XS.iinc X0.here hx rfl (hb hby d1_72) rfl (l' := #[.val (.ref b), .val (.int (i.toInt32 + (1 : Int32)))]) rfl ?_
            show Steps p.tables e below (T0.setTop (mkF m 75 #[.val (.ref b), .val (.int (i.toInt32 + (1 : Int32)))] [])) _
            refine XS.goto X0.here hx rfl (pc0 := 75) (pc' := 34) rfl (hb hby d1_75) (by decide) (by decide) ?_
            show Steps p.tables e below (T0.setTop (mkF m 34 #[.val (.ref b), .val (.int (i.toInt32 + (1 : Int32)))] [])) _
            rw [own_succ i]
            exact ih' t kt
          · skip
            by_cases hc69 : own_g cl i = (13 : Int32)
            · have ew : own_scan (own_g cl) (k + 1) i = own_scan (own_g cl) k (i + 1) := by simp [own_scan, own_ws, hc45, hc53, hc61, hc69]
              refine ⟨i', fun t kt => ?_⟩
              rw [ew] at kt
              show Steps p.tables e below (T0.setTop (mkF m 34 #[.val (.ref b), .val (.int i.toInt32)] [])) _
              refine XS.iloadN X0.here hx rfl (hb hby d1_34) rfl ?_
              show Steps p.tables e below (T0.setTop (mkF m 35 #[.val (.ref b), .val (.int i.toInt32)] [(.int i.toInt32)])) _
              refine XS.aloadN X0.here hx rfl (hb hby d1_35) rfl rfl ?_
              show Steps p.tables e below (T0.setTop (mkF m 36 #[.val (.ref b), .val (.int i.toInt32)] [(.ref b), (.int i.toInt32)])) _
              refine X0.arraylength hx (by rw [e0]; exact Ar.1) (State.isArrayOf_alike hZ.alike Ar.2.1) (g := (mkF m 36 #[.val (.ref b), .val (.int i.toInt32)] [(.ref b), (.int i.toInt32)])) rfl rfl (hb hby d1_36) _ ?_
              show Steps p.tables e below (T0.setTop (mkF m 37 #[.val (.ref b), .val (.int i.toInt32)] [(.int cl.slots.size.toInt32), (.int i.toInt32)])) _
              refine XS.icmpNo X0.here hx rfl (hb hby d1_37) rfl (tlt hc37).2.1 ?_
              show Steps p.tables e below (T0.setTop (mkF m 40 #[.val (.ref b), .val (.int i.toInt32)] [])) _
              refine XS.aloadN X0.here hx rfl (hb hby d1_40) rfl rfl ?_
              show Steps p.tables e below (T0.setTop (mkF m 41 #[.val (.ref b), .val (.int i.toInt32)] [(.ref b)])) _
              refine XS.iloadN X0.here hx rfl (hb hby d1_41) rfl ?_
              show Steps p.tables e below (T0.setTop (mkF m 42 #[.val (.ref b), .val (.int i.toInt32)] [(.int i.toInt32), (.ref b)])) _
              refine X0.baloadBytes hx (j := i.toInt32) (v := (.int (own_g cl i))) (by rw [e0]; exact Ar.1) (State.isArrayOf_alike hZ.alike Ar.2.1) Ar.2.2 hin hat (g := (mkF m 42 #[.val (.ref b), .val (.int i.toInt32)] [(.int i.toInt32), (.ref b)])) rfl rfl (hb hby d1_42) _ ?_
              show Steps p.tables e below (T0.setTop (mkF m 43 #[.val (.ref b), .val (.int i.toInt32)] [(.int (own_g cl i))])) _
              refine XS.bipush X0.here hx rfl (hb hby d1_43) ?_
              show Steps p.tables e below (T0.setTop (mkF m 45 #[.val (.ref b), .val (.int i.toInt32)] [(.int (32 : Int32)), (.int (own_g cl i))])) _
              refine XS.icmpNo X0.here hx rfl (hb hby d1_45) rfl (feq hc45).1 ?_
              show Steps p.tables e below (T0.setTop (mkF m 48 #[.val (.ref b), .val (.int i.toInt32)] [])) _
              refine XS.aloadN X0.here hx rfl (hb hby d1_48) rfl rfl ?_
              show Steps p.tables e below (T0.setTop (mkF m 49 #[.val (.ref b), .val (.int i.toInt32)] [(.ref b)])) _
              refine XS.iloadN X0.here hx rfl (hb hby d1_49) rfl ?_
              show Steps p.tables e below (T0.setTop (mkF m 50 #[.val (.ref b), .val (.int i.toInt32)] [(.int i.toInt32), (.ref b)])) _
              refine X0.baloadBytes hx (j := i.toInt32) (v := (.int (own_g cl i))) (by rw [e0]; exact Ar.1) (State.isArrayOf_alike hZ.alike Ar.2.1) Ar.2.2 hin hat (g := (mkF m 50 #[.val (.ref b), .val (.int i.toInt32)] [(.int i.toInt32), (.ref b)])) rfl rfl (hb hby d1_50) _ ?_
              show Steps p.tables e below (T0.setTop (mkF m 51 #[.val (.ref b), .val (.int i.toInt32)] [(.int (own_g cl i))])) _
              refine XS.bipush X0.here hx rfl (hb hby d1_51) ?_
              show Steps p.tables e below (T0.setTop (mkF m 53 #[.val (.ref b), .val (.int i.toInt32)] [(.int (9 : Int32)), (.int (own_g cl i))])) _
              refine XS.icmpNo X0.here hx rfl (hb hby d1_53) rfl (feq hc53).1 ?_
              show Steps p.tables e below (T0.setTop (mkF m 56 #[.val (.ref b), .val (.int i.toInt32)] [])) _
              refine XS.aloadN X0.here hx rfl (hb hby d1_56) rfl rfl ?_
              show Steps p.tables e below (T0.setTop (mkF m 57 #[.val (.ref b), .val (.int i.toInt32)] [(.ref b)])) _
              refine XS.iloadN X0.here hx rfl (hb hby d1_57) rfl ?_
              show Steps p.tables e below (T0.setTop (mkF m 58 #[.val (.ref b), .val (.int i.toInt32)] [(.int i.toInt32), (.ref b)])) _
              refine X0.baloadBytes hx (j := i.toInt32) (v := (.int (own_g cl i))) (by rw [e0]; exact Ar.1) (State.isArrayOf_alike hZ.alike Ar.2.1) Ar.2.2 hin hat (g := (mkF m 58 #[.val (.ref b), .val (.int i.toInt32)] [(.int i.toInt32), (.ref b)])) rfl rfl (hb hby d1_58) _ ?_
              show Steps p.tables e below (T0.setTop (mkF m 59 #[.val (.ref b), .val (.int i.toInt32)] [(.int (own_g cl i))])) _
              refine XS.bipush X0.here hx rfl (hb hby d1_59) ?_
              show Steps p.tables e below (T0.setTop (mkF m 61 #[.val (.ref b), .val (.int i.toInt32)] [(.int (10 : Int32)), (.int (own_g cl i))])) _
              refine XS.icmpNo X0.here hx rfl (hb hby d1_61) rfl (feq hc61).1 ?_
              show Steps p.tables e below (T0.setTop (mkF m 64 #[.val (.ref b), .val (.int i.toInt32)] [])) _
              refine XS.aloadN X0.here hx rfl (hb hby d1_64) rfl rfl ?_
              show Steps p.tables e below (T0.setTop (mkF m 65 #[.val (.ref b), .val (.int i.toInt32)] [(.ref b)])) _
              refine XS.iloadN X0.here hx rfl (hb hby d1_65) rfl ?_
              show Steps p.tables e below (T0.setTop (mkF m 66 #[.val (.ref b), .val (.int i.toInt32)] [(.int i.toInt32), (.ref b)])) _
              refine X0.baloadBytes hx (j := i.toInt32) (v := (.int (own_g cl i))) (by rw [e0]; exact Ar.1) (State.isArrayOf_alike hZ.alike Ar.2.1) Ar.2.2 hin hat (g := (mkF m 66 #[.val (.ref b), .val (.int i.toInt32)] [(.int i.toInt32), (.ref b)])) rfl rfl (hb hby d1_66) _ ?_
              show Steps p.tables e below (T0.setTop (mkF m 67 #[.val (.ref b), .val (.int i.toInt32)] [(.int (own_g cl i))])) _
              refine XS.bipush X0.here hx rfl (hb hby d1_67) ?_
              show Steps p.tables e below (T0.setTop (mkF m 69 #[.val (.ref b), .val (.int i.toInt32)] [(.int (13 : Int32)), (.int (own_g cl i))])) _
              refine XS.icmpNo X0.here hx rfl (hb hby d1_69) rfl (teq hc69).2 ?_
              show Steps p.tables e below (T0.setTop (mkF m 72 #[.val (.ref b), .val (.int i.toInt32)] [])) _
              refine XS.iinc X0.here hx rfl (hb hby d1_72) rfl (l' := #[.val (.ref b), .val (.int (i.toInt32 + (1 : Int32)))]) rfl ?_
              show Steps p.tables e below (T0.setTop (mkF m 75 #[.val (.ref b), .val (.int (i.toInt32 + (1 : Int32)))] [])) _
              refine XS.goto X0.here hx rfl (pc0 := 75) (pc' := 34) rfl (hb hby d1_75) (by decide) (by decide) ?_
              show Steps p.tables e below (T0.setTop (mkF m 34 #[.val (.ref b), .val (.int (i.toInt32 + (1 : Int32)))] [])) _
              rw [own_succ i]
              exact ih' t kt
            · skip
              refine ⟨i.toInt32, fun t kt => ?_⟩
              by_cases hc89 : own_g cl i = (60 : Int32)
              · have ew : own_scan (own_g cl) (k + 1) i = 1 := by simp [own_scan, own_ws, hc89]
                rw [ew] at kt
                show Steps p.tables e below (T0.setTop (mkF m 34 #[.val (.ref b), .val (.int i.toInt32)] [])) _
                refine XS.iloadN X0.here hx rfl (hb hby d1_34) rfl ?_
                show Steps p.tables e below (T0.setTop (mkF m 35 #[.val (.ref b), .val (.int i.toInt32)] [(.int i.toInt32)])) _
                refine XS.aloadN X0.here hx rfl (hb hby d1_35) rfl rfl ?_
                show Steps p.tables e below (T0.setTop (mkF m 36 #[.val (.ref b), .val (.int i.toInt32)] [(.ref b), (.int i.toInt32)])) _
                refine X0.arraylength hx (by rw [e0]; exact Ar.1) (State.isArrayOf_alike hZ.alike Ar.2.1) (g := (mkF m 36 #[.val (.ref b), .val (.int i.toInt32)] [(.ref b), (.int i.toInt32)])) rfl rfl (hb hby d1_36) _ ?_
                show Steps p.tables e below (T0.setTop (mkF m 37 #[.val (.ref b), .val (.int i.toInt32)] [(.int cl.slots.size.toInt32), (.int i.toInt32)])) _
                refine XS.icmpNo X0.here hx rfl (hb hby d1_37) rfl (tlt hc37).2.1 ?_
                show Steps p.tables e below (T0.setTop (mkF m 40 #[.val (.ref b), .val (.int i.toInt32)] [])) _
                refine XS.aloadN X0.here hx rfl (hb hby d1_40) rfl rfl ?_
                show Steps p.tables e below (T0.setTop (mkF m 41 #[.val (.ref b), .val (.int i.toInt32)] [(.ref b)])) _
                refine XS.iloadN X0.here hx rfl (hb hby d1_41) rfl ?_
                show Steps p.tables e below (T0.setTop (mkF m 42 #[.val (.ref b), .val (.int i.toInt32)] [(.int i.toInt32), (.ref b)])) _
                refine X0.baloadBytes hx (j := i.toInt32) (v := (.int (own_g cl i))) (by rw [e0]; exact Ar.1) (State.isArrayOf_alike hZ.alike Ar.2.1) Ar.2.2 hin hat (g := (mkF m 42 #[.val (.ref b), .val (.int i.toInt32)] [(.int i.toInt32), (.ref b)])) rfl rfl (hb hby d1_42) _ ?_
                show Steps p.tables e below (T0.setTop (mkF m 43 #[.val (.ref b), .val (.int i.toInt32)] [(.int (own_g cl i))])) _
                refine XS.bipush X0.here hx rfl (hb hby d1_43) ?_
                show Steps p.tables e below (T0.setTop (mkF m 45 #[.val (.ref b), .val (.int i.toInt32)] [(.int (32 : Int32)), (.int (own_g cl i))])) _
                refine XS.icmpNo X0.here hx rfl (hb hby d1_45) rfl (feq hc45).1 ?_
                show Steps p.tables e below (T0.setTop (mkF m 48 #[.val (.ref b), .val (.int i.toInt32)] [])) _
                refine XS.aloadN X0.here hx rfl (hb hby d1_48) rfl rfl ?_
                show Steps p.tables e below (T0.setTop (mkF m 49 #[.val (.ref b), .val (.int i.toInt32)] [(.ref b)])) _
                refine XS.iloadN X0.here hx rfl (hb hby d1_49) rfl ?_
                show Steps p.tables e below (T0.setTop (mkF m 50 #[.val (.ref b), .val (.int i.toInt32)] [(.int i.toInt32), (.ref b)])) _
                refine X0.baloadBytes hx (j := i.toInt32) (v := (.int (own_g cl i))) (by rw [e0]; exact Ar.1) (State.isArrayOf_alike hZ.alike Ar.2.1) Ar.2.2 hin hat (g := (mkF m 50 #[.val (.ref b), .val (.int i.toInt32)] [(.int i.toInt32), (.ref b)])) rfl rfl (hb hby d1_50) _ ?_
                show Steps p.tables e below (T0.setTop (mkF m 51 #[.val (.ref b), .val (.int i.toInt32)] [(.int (own_g cl i))])) _
                refine XS.bipush X0.here hx rfl (hb hby d1_51) ?_
                show Steps p.tables e below (T0.setTop (mkF m 53 #[.val (.ref b), .val (.int i.toInt32)] [(.int (9 : Int32)), (.int (own_g cl i))])) _
                refine XS.icmpNo X0.here hx rfl (hb hby d1_53) rfl (feq hc53).1 ?_
                show Steps p.tables e below (T0.setTop (mkF m 56 #[.val (.ref b), .val (.int i.toInt32)] [])) _
                refine XS.aloadN X0.here hx rfl (hb hby d1_56) rfl rfl ?_
                show Steps p.tables e below (T0.setTop (mkF m 57 #[.val (.ref b), .val (.int i.toInt32)] [(.ref b)])) _
                refine XS.iloadN X0.here hx rfl (hb hby d1_57) rfl ?_
                show Steps p.tables e below (T0.setTop (mkF m 58 #[.val (.ref b), .val (.int i.toInt32)] [(.int i.toInt32), (.ref b)])) _
                refine X0.baloadBytes hx (j := i.toInt32) (v := (.int (own_g cl i))) (by rw [e0]; exact Ar.1) (State.isArrayOf_alike hZ.alike Ar.2.1) Ar.2.2 hin hat (g := (mkF m 58 #[.val (.ref b), .val (.int i.toInt32)] [(.int i.toInt32), (.ref b)])) rfl rfl (hb hby d1_58) _ ?_
                show Steps p.tables e below (T0.setTop (mkF m 59 #[.val (.ref b), .val (.int i.toInt32)] [(.int (own_g cl i))])) _
                refine XS.bipush X0.here hx rfl (hb hby d1_59) ?_
                show Steps p.tables e below (T0.setTop (mkF m 61 #[.val (.ref b), .val (.int i.toInt32)] [(.int (10 : Int32)), (.int (own_g cl i))])) _
                refine XS.icmpNo X0.here hx rfl (hb hby d1_61) rfl (feq hc61).1 ?_
                show Steps p.tables e below (T0.setTop (mkF m 64 #[.val (.ref b), .val (.int i.toInt32)] [])) _
                refine XS.aloadN X0.here hx rfl (hb hby d1_64) rfl rfl ?_
                show Steps p.tables e below (T0.setTop (mkF m 65 #[.val (.ref b), .val (.int i.toInt32)] [(.ref b)])) _
                refine XS.iloadN X0.here hx rfl (hb hby d1_65) rfl ?_
                show Steps p.tables e below (T0.setTop (mkF m 66 #[.val (.ref b), .val (.int i.toInt32)] [(.int i.toInt32), (.ref b)])) _
                refine X0.baloadBytes hx (j := i.toInt32) (v := (.int (own_g cl i))) (by rw [e0]; exact Ar.1) (State.isArrayOf_alike hZ.alike Ar.2.1) Ar.2.2 hin hat (g := (mkF m 66 #[.val (.ref b), .val (.int i.toInt32)] [(.int i.toInt32), (.ref b)])) rfl rfl (hb hby d1_66) _ ?_
                show Steps p.tables e below (T0.setTop (mkF m 67 #[.val (.ref b), .val (.int i.toInt32)] [(.int (own_g cl i))])) _
                refine XS.bipush X0.here hx rfl (hb hby d1_67) ?_
                show Steps p.tables e below (T0.setTop (mkF m 69 #[.val (.ref b), .val (.int i.toInt32)] [(.int (13 : Int32)), (.int (own_g cl i))])) _
                refine XS.icmpYes X0.here hx rfl (pc0 := 69) (pc' := 78) rfl (hb hby d1_69) rfl (feq hc69).2 (by decide) (by decide) ?_
                show Steps p.tables e below (T0.setTop (mkF m 78 #[.val (.ref b), .val (.int i.toInt32)] [])) _
                refine XS.iloadN X0.here hx rfl (hb hby d1_78) rfl ?_
                show Steps p.tables e below (T0.setTop (mkF m 79 #[.val (.ref b), .val (.int i.toInt32)] [(.int i.toInt32)])) _
                refine XS.aloadN X0.here hx rfl (hb hby d1_79) rfl rfl ?_
                show Steps p.tables e below (T0.setTop (mkF m 80 #[.val (.ref b), .val (.int i.toInt32)] [(.ref b), (.int i.toInt32)])) _
                refine X0.arraylength hx (by rw [e0]; exact Ar.1) (State.isArrayOf_alike hZ.alike Ar.2.1) (g := (mkF m 80 #[.val (.ref b), .val (.int i.toInt32)] [(.ref b), (.int i.toInt32)])) rfl rfl (hb hby d1_80) _ ?_
                show Steps p.tables e below (T0.setTop (mkF m 81 #[.val (.ref b), .val (.int i.toInt32)] [(.int cl.slots.size.toInt32), (.int i.toInt32)])) _
                refine XS.icmpNo X0.here hx rfl (hb hby d1_81) rfl (tlt hc37).2.1 ?_
                show Steps p.tables e below (T0.setTop (mkF m 84 #[.val (.ref b), .val (.int i.toInt32)] [])) _
                refine XS.aloadN X0.here hx rfl (hb hby d1_84) rfl rfl ?_
                show Steps p.tables e below (T0.setTop (mkF m 85 #[.val (.ref b), .val (.int i.toInt32)] [(.ref b)])) _
                refine XS.iloadN X0.here hx rfl (hb hby d1_85) rfl ?_
                show Steps p.tables e below (T0.setTop (mkF m 86 #[.val (.ref b), .val (.int i.toInt32)] [(.int i.toInt32), (.ref b)])) _
                refine X0.baloadBytes hx (j := i.toInt32) (v := (.int (own_g cl i))) (by rw [e0]; exact Ar.1) (State.isArrayOf_alike hZ.alike Ar.2.1) Ar.2.2 hin hat (g := (mkF m 86 #[.val (.ref b), .val (.int i.toInt32)] [(.int i.toInt32), (.ref b)])) rfl rfl (hb hby d1_86) _ ?_
                show Steps p.tables e below (T0.setTop (mkF m 87 #[.val (.ref b), .val (.int i.toInt32)] [(.int (own_g cl i))])) _
                refine XS.bipush X0.here hx rfl (hb hby d1_87) ?_
                show Steps p.tables e below (T0.setTop (mkF m 89 #[.val (.ref b), .val (.int i.toInt32)] [(.int (60 : Int32)), (.int (own_g cl i))])) _
                refine XS.icmpNo X0.here hx rfl (hb hby d1_89) rfl (teq hc89).2 ?_
                show Steps p.tables e below (T0.setTop (mkF m 92 #[.val (.ref b), .val (.int i.toInt32)] [])) _
                refine XS.iconst X0.here hx rfl (hb hby d1_92) ?_
                show Steps p.tables e below (T0.setTop (mkF m 93 #[.val (.ref b), .val (.int i.toInt32)] [(.int (1 : Int32))])) _
                refine XS.goto X0.here hx rfl (pc0 := 93) (pc' := 97) rfl (hb hby d1_93) (by decide) (by decide) ?_
                exact kt
              · have ew : own_scan (own_g cl) (k + 1) i = 0 := by simp [own_scan, own_ws, hc89, hc45, hc53, hc61, hc69]
                rw [ew] at kt
                show Steps p.tables e below (T0.setTop (mkF m 34 #[.val (.ref b), .val (.int i.toInt32)] [])) _
                refine XS.iloadN X0.here hx rfl (hb hby d1_34) rfl ?_
                show Steps p.tables e below (T0.setTop (mkF m 35 #[.val (.ref b), .val (.int i.toInt32)] [(.int i.toInt32)])) _
                refine XS.aloadN X0.here hx rfl (hb hby d1_35) rfl rfl ?_
                show Steps p.tables e below (T0.setTop (mkF m 36 #[.val (.ref b), .val (.int i.toInt32)] [(.ref b), (.int i.toInt32)])) _
                refine X0.arraylength hx (by rw [e0]; exact Ar.1) (State.isArrayOf_alike hZ.alike Ar.2.1) (g := (mkF m 36 #[.val (.ref b), .val (.int i.toInt32)] [(.ref b), (.int i.toInt32)])) rfl rfl (hb hby d1_36) _ ?_
                show Steps p.tables e below (T0.setTop (mkF m 37 #[.val (.ref b), .val (.int i.toInt32)] [(.int cl.slots.size.toInt32), (.int i.toInt32)])) _
                refine XS.icmpNo X0.here hx rfl (hb hby d1_37) rfl (tlt hc37).2.1 ?_
                show Steps p.tables e below (T0.setTop (mkF m 40 #[.val (.ref b), .val (.int i.toInt32)] [])) _
                refine XS.aloadN X0.here hx rfl (hb hby d1_40) rfl rfl ?_
                show Steps p.tables e below (T0.setTop (mkF m 41 #[.val (.ref b), .val (.int i.toInt32)] [(.ref b)])) _
                refine XS.iloadN X0.here hx rfl (hb hby d1_41) rfl ?_
                show Steps p.tables e below (T0.setTop (mkF m 42 #[.val (.ref b), .val (.int i.toInt32)] [(.int i.toInt32), (.ref b)])) _
                refine X0.baloadBytes hx (j := i.toInt32) (v := (.int (own_g cl i))) (by rw [e0]; exact Ar.1) (State.isArrayOf_alike hZ.alike Ar.2.1) Ar.2.2 hin hat (g := (mkF m 42 #[.val (.ref b), .val (.int i.toInt32)] [(.int i.toInt32), (.ref b)])) rfl rfl (hb hby d1_42) _ ?_
                show Steps p.tables e below (T0.setTop (mkF m 43 #[.val (.ref b), .val (.int i.toInt32)] [(.int (own_g cl i))])) _
                refine XS.bipush X0.here hx rfl (hb hby d1_43) ?_
                show Steps p.tables e below (T0.setTop (mkF m 45 #[.val (.ref b), .val (.int i.toInt32)] [(.int (32 : Int32)), (.int (own_g cl i))])) _
                refine XS.icmpNo X0.here hx rfl (hb hby d1_45) rfl (feq hc45).1 ?_
                show Steps p.tables e below (T0.setTop (mkF m 48 #[.val (.ref b), .val (.int i.toInt32)] [])) _
                refine XS.aloadN X0.here hx rfl (hb hby d1_48) rfl rfl ?_
                show Steps p.tables e below (T0.setTop (mkF m 49 #[.val (.ref b), .val (.int i.toInt32)] [(.ref b)])) _
                refine XS.iloadN X0.here hx rfl (hb hby d1_49) rfl ?_
                show Steps p.tables e below (T0.setTop (mkF m 50 #[.val (.ref b), .val (.int i.toInt32)] [(.int i.toInt32), (.ref b)])) _
                refine X0.baloadBytes hx (j := i.toInt32) (v := (.int (own_g cl i))) (by rw [e0]; exact Ar.1) (State.isArrayOf_alike hZ.alike Ar.2.1) Ar.2.2 hin hat (g := (mkF m 50 #[.val (.ref b), .val (.int i.toInt32)] [(.int i.toInt32), (.ref b)])) rfl rfl (hb hby d1_50) _ ?_
                show Steps p.tables e below (T0.setTop (mkF m 51 #[.val (.ref b), .val (.int i.toInt32)] [(.int (own_g cl i))])) _
                refine XS.bipush X0.here hx rfl (hb hby d1_51) ?_
                show Steps p.tables e below (T0.setTop (mkF m 53 #[.val (.ref b), .val (.int i.toInt32)] [(.int (9 : Int32)), (.int (own_g cl i))])) _
                refine XS.icmpNo X0.here hx rfl (hb hby d1_53) rfl (feq hc53).1 ?_
                show Steps p.tables e below (T0.setTop (mkF m 56 #[.val (.ref b), .val (.int i.toInt32)] [])) _
                refine XS.aloadN X0.here hx rfl (hb hby d1_56) rfl rfl ?_
                show Steps p.tables e below (T0.setTop (mkF m 57 #[.val (.ref b), .val (.int i.toInt32)] [(.ref b)])) _
                refine XS.iloadN X0.here hx rfl (hb hby d1_57) rfl ?_
                show Steps p.tables e below (T0.setTop (mkF m 58 #[.val (.ref b), .val (.int i.toInt32)] [(.int i.toInt32), (.ref b)])) _
                refine X0.baloadBytes hx (j := i.toInt32) (v := (.int (own_g cl i))) (by rw [e0]; exact Ar.1) (State.isArrayOf_alike hZ.alike Ar.2.1) Ar.2.2 hin hat (g := (mkF m 58 #[.val (.ref b), .val (.int i.toInt32)] [(.int i.toInt32), (.ref b)])) rfl rfl (hb hby d1_58) _ ?_
                show Steps p.tables e below (T0.setTop (mkF m 59 #[.val (.ref b), .val (.int i.toInt32)] [(.int (own_g cl i))])) _
                refine XS.bipush X0.here hx rfl (hb hby d1_59) ?_
                show Steps p.tables e below (T0.setTop (mkF m 61 #[.val (.ref b), .val (.int i.toInt32)] [(.int (10 : Int32)), (.int (own_g cl i))])) _
                refine XS.icmpNo X0.here hx rfl (hb hby d1_61) rfl (feq hc61).1 ?_
                show Steps p.tables e below (T0.setTop (mkF m 64 #[.val (.ref b), .val (.int i.toInt32)] [])) _
                refine XS.aloadN X0.here hx rfl (hb hby d1_64) rfl rfl ?_
                show Steps p.tables e below (T0.setTop (mkF m 65 #[.val (.ref b), .val (.int i.toInt32)] [(.ref b)])) _
                refine XS.iloadN X0.here hx rfl (hb hby d1_65) rfl ?_
                show Steps p.tables e below (T0.setTop (mkF m 66 #[.val (.ref b), .val (.int i.toInt32)] [(.int i.toInt32), (.ref b)])) _
                refine X0.baloadBytes hx (j := i.toInt32) (v := (.int (own_g cl i))) (by rw [e0]; exact Ar.1) (State.isArrayOf_alike hZ.alike Ar.2.1) Ar.2.2 hin hat (g := (mkF m 66 #[.val (.ref b), .val (.int i.toInt32)] [(.int i.toInt32), (.ref b)])) rfl rfl (hb hby d1_66) _ ?_
                show Steps p.tables e below (T0.setTop (mkF m 67 #[.val (.ref b), .val (.int i.toInt32)] [(.int (own_g cl i))])) _
                refine XS.bipush X0.here hx rfl (hb hby d1_67) ?_
                show Steps p.tables e below (T0.setTop (mkF m 69 #[.val (.ref b), .val (.int i.toInt32)] [(.int (13 : Int32)), (.int (own_g cl i))])) _
                refine XS.icmpYes X0.here hx rfl (pc0 := 69) (pc' := 78) rfl (hb hby d1_69) rfl (feq hc69).2 (by decide) (by decide) ?_
                show Steps p.tables e below (T0.setTop (mkF m 78 #[.val (.ref b), .val (.int i.toInt32)] [])) _
                refine XS.iloadN X0.here hx rfl (hb hby d1_78) rfl ?_
                show Steps p.tables e below (T0.setTop (mkF m 79 #[.val (.ref b), .val (.int i.toInt32)] [(.int i.toInt32)])) _
                refine XS.aloadN X0.here hx rfl (hb hby d1_79) rfl rfl ?_
                show Steps p.tables e below (T0.setTop (mkF m 80 #[.val (.ref b), .val (.int i.toInt32)] [(.ref b), (.int i.toInt32)])) _
                refine X0.arraylength hx (by rw [e0]; exact Ar.1) (State.isArrayOf_alike hZ.alike Ar.2.1) (g := (mkF m 80 #[.val (.ref b), .val (.int i.toInt32)] [(.ref b), (.int i.toInt32)])) rfl rfl (hb hby d1_80) _ ?_
                show Steps p.tables e below (T0.setTop (mkF m 81 #[.val (.ref b), .val (.int i.toInt32)] [(.int cl.slots.size.toInt32), (.int i.toInt32)])) _
                refine XS.icmpNo X0.here hx rfl (hb hby d1_81) rfl (tlt hc37).2.1 ?_
                show Steps p.tables e below (T0.setTop (mkF m 84 #[.val (.ref b), .val (.int i.toInt32)] [])) _
                refine XS.aloadN X0.here hx rfl (hb hby d1_84) rfl rfl ?_
                show Steps p.tables e below (T0.setTop (mkF m 85 #[.val (.ref b), .val (.int i.toInt32)] [(.ref b)])) _
                refine XS.iloadN X0.here hx rfl (hb hby d1_85) rfl ?_
                show Steps p.tables e below (T0.setTop (mkF m 86 #[.val (.ref b), .val (.int i.toInt32)] [(.int i.toInt32), (.ref b)])) _
                refine X0.baloadBytes hx (j := i.toInt32) (v := (.int (own_g cl i))) (by rw [e0]; exact Ar.1) (State.isArrayOf_alike hZ.alike Ar.2.1) Ar.2.2 hin hat (g := (mkF m 86 #[.val (.ref b), .val (.int i.toInt32)] [(.int i.toInt32), (.ref b)])) rfl rfl (hb hby d1_86) _ ?_
                show Steps p.tables e below (T0.setTop (mkF m 87 #[.val (.ref b), .val (.int i.toInt32)] [(.int (own_g cl i))])) _
                refine XS.bipush X0.here hx rfl (hb hby d1_87) ?_
                show Steps p.tables e below (T0.setTop (mkF m 89 #[.val (.ref b), .val (.int i.toInt32)] [(.int (60 : Int32)), (.int (own_g cl i))])) _
                refine XS.icmpYes X0.here hx rfl (pc0 := 89) (pc' := 96) rfl (hb hby d1_89) rfl (feq hc89).2 (by decide) (by decide) ?_
                show Steps p.tables e below (T0.setTop (mkF m 96 #[.val (.ref b), .val (.int i.toInt32)] [])) _
                refine XS.iconst X0.here hx rfl (hb hby d1_96) ?_
                exact kt
    · have hc37 : ¬ (i.toInt32 < cl.slots.size.toInt32) := fun q => hlt ((own_lt (by omega) hn31).mp q)
      refine ⟨i.toInt32, fun t kt => ?_⟩
      rw [own_scan_out (own_g_out (Nat.le_of_not_lt hlt))] at kt
      show Steps p.tables e below (T0.setTop (mkF m 34 #[.val (.ref b), .val (.int i.toInt32)] [])) _
      refine XS.iloadN X0.here hx rfl (hb hby d1_34) rfl ?_
      show Steps p.tables e below (T0.setTop (mkF m 35 #[.val (.ref b), .val (.int i.toInt32)] [(.int i.toInt32)])) _
      refine XS.aloadN X0.here hx rfl (hb hby d1_35) rfl rfl ?_
      show Steps p.tables e below (T0.setTop (mkF m 36 #[.val (.ref b), .val (.int i.toInt32)] [(.ref b), (.int i.toInt32)])) _
      refine X0.arraylength hx (by rw [e0]; exact Ar.1) (State.isArrayOf_alike hZ.alike Ar.2.1) (g := (mkF m 36 #[.val (.ref b), .val (.int i.toInt32)] [(.ref b), (.int i.toInt32)])) rfl rfl (hb hby d1_36) _ ?_
      show Steps p.tables e below (T0.setTop (mkF m 37 #[.val (.ref b), .val (.int i.toInt32)] [(.int cl.slots.size.toInt32), (.int i.toInt32)])) _
      refine XS.icmpYes X0.here hx rfl (pc0 := 37) (pc' := 78) rfl (hb hby d1_37) rfl (flt hc37).2.1 (by decide) (by decide) ?_
      show Steps p.tables e below (T0.setTop (mkF m 78 #[.val (.ref b), .val (.int i.toInt32)] [])) _
      refine XS.iloadN X0.here hx rfl (hb hby d1_78) rfl ?_
      show Steps p.tables e below (T0.setTop (mkF m 79 #[.val (.ref b), .val (.int i.toInt32)] [(.int i.toInt32)])) _
      refine XS.aloadN X0.here hx rfl (hb hby d1_79) rfl rfl ?_
      show Steps p.tables e below (T0.setTop (mkF m 80 #[.val (.ref b), .val (.int i.toInt32)] [(.ref b), (.int i.toInt32)])) _
      refine X0.arraylength hx (by rw [e0]; exact Ar.1) (State.isArrayOf_alike hZ.alike Ar.2.1) (g := (mkF m 80 #[.val (.ref b), .val (.int i.toInt32)] [(.ref b), (.int i.toInt32)])) rfl rfl (hb hby d1_80) _ ?_
      show Steps p.tables e below (T0.setTop (mkF m 81 #[.val (.ref b), .val (.int i.toInt32)] [(.int cl.slots.size.toInt32), (.int i.toInt32)])) _
      refine XS.icmpYes X0.here hx rfl (pc0 := 81) (pc' := 96) rfl (hb hby d1_81) rfl (flt hc37).2.1 (by decide) (by decide) ?_
      show Steps p.tables e below (T0.setTop (mkF m 96 #[.val (.ref b), .val (.int i.toInt32)] [])) _
      refine XS.iconst X0.here hx rfl (hb hby d1_96) ?_
      exact kt
end Loop
set_option maxRecDepth 65536 in
set_option maxHeartbeats 40000000 in
theorem rm1 (l : Launch) (Z : State) (a0 : Array Value) (hw : ∀ d ∈ tables_1, d.before a0 Z = true) (ws : List Jvm.Cond) (b : Addr) (cl : Cell) (h0 : Heap) (n0 : Nat) (Z0 : n0 ≤ h0.size) (Ar : Arr Z h0 b cl .byte) (Hi : own_ints cl) (hsz : cl.slots.size ≤ 8) :
    MetFree l (⟨"com/example/plinth/plinth/cli/InputFile", "isXml", "([B)Z"⟩ : MethodName) (head1 (Jvm.Cond.code (⟨"com/example/plinth/plinth/cli/InputFile", "isXml", "([B)Z"⟩ : MethodName) prog_494_method_3_code 2 (some .boolean) :: ws) ({ frames := 0, cells := 0, slots := 0, locals := 0 } : Room)) (fun a U => a = #[(.ref b)] ∧ Z.Warmed39 U.vm ∧ U.heap = h0) (fun _ _ _ _ _ => True) (fun _ U o U' => ∃ v L, o = .returned v ∧ Q2 (own_scan (own_g cl) 8 (own_bom (own_g cl))) h0 n0 v U'.heap L ∧ FrameEnd U o U' L ({ frames := 0, cells := 0, slots := 0, locals := 0 } : Room).cells ({ frames := 0, cells := 0, slots := 0, locals := 0 } : Room).slots) := by
  refine MetFree.of_bodySF (plainFor_of_name pn_1) hisR ?_
  intro p e s m args below meth c s₁ Bd hml0 hP hK
  obtain ⟨rfl, hZ, hh⟩ := hP
  have hx := Bd.exec
  have hby := Bd.bytes
  have hml : c.maxLocals = 2 := hml0
  have hown : s.vm.findClass "com/example/plinth/plinth/cli/InputFile" = some m.cls := findClass_of_methodNamed Bd.named
  have hnm := (name_of_methodNamed Bd.named Bd.method).1
  have X0 : Stand p l e ({ frames := 0, cells := 0, slots := 0, locals := 0 } : Room) s m #[(.ref b)] below meth c s₁ [] 0 0 := Stand.of_body Bd
  have e0 : s₁.heap = h0 := by rw [← hh, Bd.state]; rfl
  have N0 := Fr.nil n0
  have pre0 : ∀ t, Steps p.tables e below (s₁.setTop (mkF m 0 #[.val (.ref b), .unset] [])) t → Steps p.tables e below (s₁.setTop (entryFrame m #[(.ref b)] 2)) t := fun t kt0 => castTop (ef_1 m b) kt0

  have hn31 : cl.slots.size < 2 ^ 31 := by omega
  have e3 : (3 : Nat).toInt32 = (3 : Int32) := rfl
  suffices hs : own_Ld p e below s₁ (mkF m 0 #[.val (.ref b), .unset] []) s₁ (mkF m 34 #[.val (.ref b), .val (.int (own_bom (own_g cl)).toInt32)] []) by
    have hbom : own_bom (own_g cl) ≤ 3 := by unfold own_bom; split <;> omega
    obtain ⟨i', hl⟩ := own_loop1 X0 hx hZ hby e0 b cl Ar Hi hsz 8 (own_bom (own_g cl)) (by omega) (by omega)
    obtain ⟨fs, hr, hrun, hended, hW, hsame⟩ := X0.leave (v := some (.int (nar .boolean (own_scan (own_g cl) 8 (own_bom (own_g cl)))))) (fun h => by rw [Bd.returns] at h; cases h)
    refine ⟨_, _, pre0 _ (hs _ (hl _ (retN X0 hx (t := .boolean) Bd.returns (by simp) (hb hby d1_97) hr))), hrun, hended, _, _, rfl, ?_, ⟨_, rfl⟩, hW, hsame.mono (by decide) (by decide)⟩
    show Q2 (own_scan (own_g cl) 8 (own_bom (own_g cl))) h0 n0 _ s₁.heap _
    rw [e0]
    exact ⟨by rw [own_nar_scan], N0, rfl⟩
  intro t kt
  by_cases hc5 : cl.slots.size < 3
  · have h2 : own_g cl 2 = 0 := own_g_out (by omega)
    have eb : own_bom (own_g cl) = 0 := by simp [own_bom, h2]
    have hc5' : cl.slots.size.toInt32 < (3 : Int32) := by rw [← e3]; exact (own_lt hn31 (by decide)).mpr hc5
    rw [eb] at kt
    show Steps p.tables e below (s₁.setTop (mkF m 0 #[.val (.ref b), .unset] [])) _
    refine XS.iconst X0.here hx rfl (hb hby d1_0) ?_
    show Steps p.tables e below (s₁.setTop (mkF m 1 #[.val (.ref b), .unset] [(.int (0 : Int32))])) _
    refine XS.istoreN X0.here hx rfl (hb hby d1_1) rfl (l' := #[.val (.ref b), .val (.int (0 : Int32))]) rfl ?_
    show Steps p.tables e below (s₁.setTop (mkF m 2 #[.val (.ref b), .val (.int (0 : Int32))] [])) _
    refine XS.aloadN X0.here hx rfl (hb hby d1_2) rfl rfl ?_
    show Steps p.tables e below (s₁.setTop (mkF m 3 #[.val (.ref b), .val (.int (0 : Int32))] [(.ref b)])) _
    refine X0.arraylength hx (by rw [e0]; exact Ar.1) (State.isArrayOf_alike hZ.alike Ar.2.1) (g := (mkF m 3 #[.val (.ref b), .val (.int (0 : Int32))] [(.ref b)])) rfl rfl (hb hby d1_3) _ ?_
    show Steps p.tables e below (s₁.setTop (mkF m 4 #[.val (.ref b), .val (.int (0 : Int32))] [(.int cl.slots.size.toInt32)])) _
    refine XS.iconst X0.here hx rfl (hb hby d1_4) ?_
    show Steps p.tables e below (s₁.setTop (mkF m 5 #[.val (.ref b), .val (.int (0 : Int32))] [(.int (3 : Int32)), (.int cl.slots.size.toInt32)])) _
    refine XS.icmpYes X0.here hx rfl (pc0 := 5) (pc' := 34) rfl (hb hby d1_5) rfl (tlt hc5').1 (by decide) (by decide) ?_
    exact kt
  · have hc5' : ¬ (cl.slots.size.toInt32 < (3 : Int32)) := by rw [← e3]; exact fun q => hc5 ((own_lt hn31 (by decide)).mp q)
    have hin0 : ¬ ((0 : Int32) < 0 ∨ cl.slots.size ≤ (0 : Int32).toNatClampNeg) := idx_in (i := 0) (by omega) hn31
    have hat0 : cl.slots[(0 : Int32).toNatClampNeg]? = some (.int (own_g cl 0)) := own_g_at Hi (k := 0) (by omega)
    have hin1 : ¬ ((1 : Int32) < 0 ∨ cl.slots.size ≤ (1 : Int32).toNatClampNeg) := idx_in (i := 1) (by omega) hn31
    have hat1 : cl.slots[(1 : Int32).toNatClampNeg]? = some (.int (own_g cl 1)) := own_g_at Hi (k := 1) (by omega)
    have hin2 : ¬ ((2 : Int32) < 0 ∨ cl.slots.size ≤ (2 : Int32).toNatClampNeg) := idx_in (i := 2) (by omega) hn31
    have hat2 : cl.slots[(2 : Int32).toNatClampNeg]? = some (.int (own_g cl 2)) := own_g_at Hi (k := 2) (by omega)
    by_cases hc13 : own_g cl 0 = (-17 : Int32)
    rotate_left
    · have eb : own_bom (own_g cl) = 0 := by simp [own_bom, hc13]
      rw [eb] at kt
      show Steps p.tables e below (s₁.setTop (mkF m 0 #[.val (.ref b), .unset] [])) _
      refine XS.iconst X0.here hx rfl (hb hby d1_0) ?_
      show Steps p.tables e below (s₁.setTop (mkF m 1 #[.val (.ref b), .unset] [(.int (0 : Int32))])) _
      refine XS.istoreN X0.here hx rfl (hb hby d1_1) rfl (l' := #[.val (.ref b), .val (.int (0 : Int32))]) rfl ?_
      show Steps p.tables e below (s₁.setTop (mkF m 2 #[.val (.ref b), .val (.int (0 : Int32))] [])) _
      refine XS.aloadN X0.here hx rfl (hb hby d1_2) rfl rfl ?_
      show Steps p.tables e below (s₁.setTop (mkF m 3 #[.val (.ref b), .val (.int (0 : Int32))] [(.ref b)])) _
      refine X0.arraylength hx (by rw [e0]; exact Ar.1) (State.isArrayOf_alike hZ.alike Ar.2.1) (g := (mkF m 3 #[.val (.ref b), .val (.int (0 : Int32))] [(.ref b)])) rfl rfl (hb hby d1_3) _ ?_
      show Steps p.tables e below (s₁.setTop (mkF m 4 #[.val (.ref b), .val (.int (0 : Int32))] [(.int cl.slots.size.toInt32)])) _
      refine XS.iconst X0.here hx rfl (hb hby d1_4) ?_
      show Steps p.tables e below (s₁.setTop (mkF m 5 #[.val (.ref b), .val (.int (0 : Int32))] [(.int (3 : Int32)), (.int cl.slots.size.toInt32)])) _
      refine XS.icmpNo X0.here hx rfl (hb hby d1_5) rfl (flt hc5').1 ?_
      show Steps p.tables e below (s₁.setTop (mkF m 8 #[.val (.ref b), .val (.int (0 : Int32))] [])) _
      refine XS.aloadN X0.here hx rfl (hb hby d1_8) rfl rfl ?_
      show Steps p.tables e below (s₁.setTop (mkF m 9 #[.val (.ref b), .val (.int (0 : Int32))] [(.ref b)])) _
      refine XS.iconst X0.here hx rfl (hb hby d1_9) ?_
      show Steps p.tables e below (s₁.setTop (mkF m 10 #[.val (.ref b), .val (.int (0 : Int32))] [(.int (0 : Int32)), (.ref b)])) _
      refine X0.baloadBytes hx (j := (0 : Int32)) (v := (.int (own_g cl 0))) (by rw [e0]; exact Ar.1) (State.isArrayOf_alike hZ.alike Ar.2.1) Ar.2.2 hin0 hat0 (g := (mkF m 10 #[.val (.ref b), .val (.int (0 : Int32))] [(.int (0 : Int32)), (.ref b)])) rfl rfl (hb hby d1_10) _ ?_
      show Steps p.tables e below (s₁.setTop (mkF m 11 #[.val (.ref b), .val (.int (0 : Int32))] [(.int (own_g cl 0))])) _
      refine XS.bipush X0.here hx rfl (hb hby d1_11) ?_
      show Steps p.tables e below (s₁.setTop (mkF m 13 #[.val (.ref b), .val (.int (0 : Int32))] [(.int (-17 : Int32)), (.int (own_g cl 0))])) _
      refine XS.icmpYes X0.here hx rfl (pc0 := 13) (pc' := 34) rfl (hb hby d1_13) rfl (feq hc13).2 (by decide) (by decide) ?_
      exact kt
    by_cases hc21 : own_g cl 1 = (-69 : Int32)
    rotate_left
    · have eb : own_bom (own_g cl) = 0 := by simp [own_bom, hc13, hc21]
      rw [eb] at kt
      show Steps p.tables e below (s₁.setTop (mkF m 0 #[.val (.ref b), .unset] [])) _
      refine XS.iconst X0.here hx rfl (hb hby d1_0) ?_
      show Steps p.tables e below (s₁.setTop (mkF m 1 #[.val (.ref b), .unset] [(.int (0 : Int32))])) _
      refine XS.istoreN X0.here hx rfl (hb hby d1_1) rfl (l' := #[.val (.ref b), .val (.int (0 : Int32))]) rfl ?_
      show Steps p.tables e below (s₁.setTop (mkF m 2 #[.val (.ref b), .val (.int (0 : Int32))] [])) _
      refine XS.aloadN X0.here hx rfl (hb hby d1_2) rfl rfl ?_
      show Steps p.tables e below (s₁.setTop (mkF m 3 #[.val (.ref b), .val (.int (0 : Int32))] [(.ref b)])) _
      refine X0.arraylength hx (by rw [e0]; exact Ar.1) (State.isArrayOf_alike hZ.alike Ar.2.1) (g := (mkF m 3 #[.val (.ref b), .val (.int (0 : Int32))] [(.ref b)])) rfl rfl (hb hby d1_3) _ ?_
      show Steps p.tables e below (s₁.setTop (mkF m 4 #[.val (.ref b), .val (.int (0 : Int32))] [(.int cl.slots.size.toInt32)])) _
      refine XS.iconst X0.here hx rfl (hb hby d1_4) ?_
      show Steps p.tables e below (s₁.setTop (mkF m 5 #[.val (.ref b), .val (.int (0 : Int32))] [(.int (3 : Int32)), (.int cl.slots.size.toInt32)])) _
      refine XS.icmpNo X0.here hx rfl (hb hby d1_5) rfl (flt hc5').1 ?_
      show Steps p.tables e below (s₁.setTop (mkF m 8 #[.val (.ref b), .val (.int (0 : Int32))] [])) _
      refine XS.aloadN X0.here hx rfl (hb hby d1_8) rfl rfl ?_
      show Steps p.tables e below (s₁.setTop (mkF m 9 #[.val (.ref b), .val (.int (0 : Int32))] [(.ref b)])) _
      refine XS.iconst X0.here hx rfl (hb hby d1_9) ?_
      show Steps p.tables e below (s₁.setTop (mkF m 10 #[.val (.ref b), .val (.int (0 : Int32))] [(.int (0 : Int32)), (.ref b)])) _
      refine X0.baloadBytes hx (j := (0 : Int32)) (v := (.int (own_g cl 0))) (by rw [e0]; exact Ar.1) (State.isArrayOf_alike hZ.alike Ar.2.1) Ar.2.2 hin0 hat0 (g := (mkF m 10 #[.val (.ref b), .val (.int (0 : Int32))] [(.int (0 : Int32)), (.ref b)])) rfl rfl (hb hby d1_10) _ ?_
      show Steps p.tables e below (s₁.setTop (mkF m 11 #[.val (.ref b), .val (.int (0 : Int32))] [(.int (own_g cl 0))])) _
      refine XS.bipush X0.here hx rfl (hb hby d1_11) ?_
      show Steps p.tables e below (s₁.setTop (mkF m 13 #[.val (.ref b), .val (.int (0 : Int32))] [(.int (-17 : Int32)), (.int (own_g cl 0))])) _
      refine XS.icmpNo X0.here hx rfl (hb hby d1_13) rfl (teq hc13).2 ?_
      show Steps p.tables e below (s₁.setTop (mkF m 16 #[.val (.ref b), .val (.int (0 : Int32))] [])) _
      refine XS.aloadN X0.here hx rfl (hb hby d1_16) rfl rfl ?_
      show Steps p.tables e below (s₁.setTop (mkF m 17 #[.val (.ref b), .val (.int (0 : Int32))] [(.ref b)])) _
      refine XS.iconst X0.here hx rfl (hb hby d1_17) ?_
      show Steps p.tables e below (s₁.setTop (mkF m 18 #[.val (.ref b), .val (.int (0 : Int32))] [(.int (1 : Int32)), (.ref b)])) _
      refine X0.baloadBytes hx (j := (1 : Int32)) (v := (.int (own_g cl 1))) (by rw [e0]; exact Ar.1) (State.isArrayOf_alike hZ.alike Ar.2.1) Ar.2.2 hin1 hat1 (g := (mkF m 18 #[.val (.ref b), .val (.int (0 : Int32))] [(.int (1 : Int32)), (.ref b)])) rfl rfl (hb hby d1_18) _ ?_
      show Steps p.tables e below (s₁.setTop (mkF m 19 #[.val (.ref b), .val (.int (0 : Int32))] [(.int (own_g cl 1))])) _
      refine XS.bipush X0.here hx rfl (hb hby d1_19) ?_
      show Steps p.tables e below (s₁.setTop (mkF m 21 #[.val (.ref b), .val (.int (0 : Int32))] [(.int (-69 : Int32)), (.int (own_g cl 1))])) _
      refine XS.icmpYes X0.here hx rfl (pc0 := 21) (pc' := 34) rfl (hb hby d1_21) rfl (feq hc21).2 (by decide) (by decide) ?_
      exact kt
    by_cases hc29 : own_g cl 2 = (-65 : Int32)
    rotate_left
    · have eb : own_bom (own_g cl) = 0 := by simp [own_bom, hc13, hc21, hc29]
      rw [eb] at kt
      show Steps p.tables e below (s₁.setTop (mkF m 0 #[.val (.ref b), .unset] [])) _
      refine XS.iconst X0.here hx rfl (hb hby d1_0) ?_
      show Steps p.tables e below (s₁.setTop (mkF m 1 #[.val (.ref b), .unset] [(.int (0 : Int32))])) _
      refine XS.istoreN X0.here hx rfl (hb hby d1_1) rfl (l' := #[.val (.ref b), .val (.int (0 : Int32))]) rfl ?_
      show Steps p.tables e below (s₁.setTop (mkF m 2 #[.val (.ref b), .val (.int (0 : Int32))] [])) _
      refine XS.aloadN X0.here hx rfl (hb hby d1_2) rfl rfl ?_
      show Steps p.tables e below (s₁.setTop (mkF m 3 #[.val (.ref b), .val (.int (0 : Int32))] [(.ref b)])) _
      refine X0.arraylength hx (by rw [e0]; exact Ar.1) (State.isArrayOf_alike hZ.alike Ar.2.1) (g := (mkF m 3 #[.val (.ref b), .val (.int (0 : Int32))] [(.ref b)])) rfl rfl (hb hby d1_3) _ ?_
      show Steps p.tables e below (s₁.setTop (mkF m 4 #[.val (.ref b), .val (.int (0 : Int32))] [(.int cl.slots.size.toInt32)])) _
      refine XS.iconst X0.here hx rfl (hb hby d1_4) ?_
      show Steps p.tables e below (s₁.setTop (mkF m 5 #[.val (.ref b), .val (.int (0 : Int32))] [(.int (3 : Int32)), (.int cl.slots.size.toInt32)])) _
      refine XS.icmpNo X0.here hx rfl (hb hby d1_5) rfl (flt hc5').1 ?_
      show Steps p.tables e below (s₁.setTop (mkF m 8 #[.val (.ref b), .val (.int (0 : Int32))] [])) _
      refine XS.aloadN X0.here hx rfl (hb hby d1_8) rfl rfl ?_
      show Steps p.tables e below (s₁.setTop (mkF m 9 #[.val (.ref b), .val (.int (0 : Int32))] [(.ref b)])) _
      refine XS.iconst X0.here hx rfl (hb hby d1_9) ?_
      show Steps p.tables e below (s₁.setTop (mkF m 10 #[.val (.ref b), .val (.int (0 : Int32))] [(.int (0 : Int32)), (.ref b)])) _
      refine X0.baloadBytes hx (j := (0 : Int32)) (v := (.int (own_g cl 0))) (by rw [e0]; exact Ar.1) (State.isArrayOf_alike hZ.alike Ar.2.1) Ar.2.2 hin0 hat0 (g := (mkF m 10 #[.val (.ref b), .val (.int (0 : Int32))] [(.int (0 : Int32)), (.ref b)])) rfl rfl (hb hby d1_10) _ ?_
      show Steps p.tables e below (s₁.setTop (mkF m 11 #[.val (.ref b), .val (.int (0 : Int32))] [(.int (own_g cl 0))])) _
      refine XS.bipush X0.here hx rfl (hb hby d1_11) ?_
      show Steps p.tables e below (s₁.setTop (mkF m 13 #[.val (.ref b), .val (.int (0 : Int32))] [(.int (-17 : Int32)), (.int (own_g cl 0))])) _
      refine XS.icmpNo X0.here hx rfl (hb hby d1_13) rfl (teq hc13).2 ?_
      show Steps p.tables e below (s₁.setTop (mkF m 16 #[.val (.ref b), .val (.int (0 : Int32))] [])) _
      refine XS.aloadN X0.here hx rfl (hb hby d1_16) rfl rfl ?_
      show Steps p.tables e below (s₁.setTop (mkF m 17 #[.val (.ref b), .val (.int (0 : Int32))] [(.ref b)])) _
      refine XS.iconst X0.here hx rfl (hb hby d1_17) ?_
      show Steps p.tables e below (s₁.setTop (mkF m 18 #[.val (.ref b), .val (.int (0 : Int32))] [(.int (1 : Int32)), (.ref b)])) _
      refine X0.baloadBytes hx (j := (1 : Int32)) (v := (.int (own_g cl 1))) (by rw [e0]; exact Ar.1) (State.isArrayOf_alike hZ.alike Ar.2.1) Ar.2.2 hin1 hat1 (g := (mkF m 18 #[.val (.ref b), .val (.int (0 : Int32))] [(.int (1 : Int32)), (.ref b)])) rfl rfl (hb hby d1_18) _ ?_
      show Steps p.tables e below (s₁.setTop (mkF m 19 #[.val (.ref b), .val (.int (0 : Int32))] [(.int (own_g cl 1))])) _
      refine XS.bipush X0.here hx rfl (hb hby d1_19) ?_
      show Steps p.tables e below (s₁.setTop (mkF m 21 #[.val (.ref b), .val (.int (0 : Int32))] [(.int (-69 : Int32)), (.int (own_g cl 1))])) _
      refine XS.icmpNo X0.here hx rfl (hb hby d1_21) rfl (teq hc21).2 ?_
      show Steps p.tables e below (s₁.setTop (mkF m 24 #[.val (.ref b), .val (.int (0 : Int32))] [])) _
      refine XS.aloadN X0.here hx rfl (hb hby d1_24) rfl rfl ?_
      show Steps p.tables e below (s₁.setTop (mkF m 25 #[.val (.ref b), .val (.int (0 : Int32))] [(.ref b)])) _
      refine XS.iconst X0.here hx rfl (hb hby d1_25) ?_
      show Steps p.tables e below (s₁.setTop (mkF m 26 #[.val (.ref b), .val (.int (0 : Int32))] [(.int (2 : Int32)), (.ref b)])) _
      refine X0.baloadBytes hx (j := (2 : Int32)) (v := (.int (own_g cl 2))) (by rw [e0]; exact Ar.1) (State.isArrayOf_alike hZ.alike Ar.2.1) Ar.2.2 hin2 hat2 (g := (mkF m 26 #[.val (.ref b), .val (.int (0 : Int32))] [(.int (2 : Int32)), (.ref b)])) rfl rfl (hb hby d1_26) _ ?_
      show Steps p.tables e below (s₁.setTop (mkF m 27 #[.val (.ref b), .val (.int (0 : Int32))] [(.int (own_g cl 2))])) _
      refine XS.bipush X0.here hx rfl (hb hby d1_27) ?_
      show Steps p.tables e below (s₁.setTop (mkF m 29 #[.val (.ref b), .val (.int (0 : Int32))] [(.int (-65 : Int32)), (.int (own_g cl 2))])) _
      refine XS.icmpYes X0.here hx rfl (pc0 := 29) (pc' := 34) rfl (hb hby d1_29) rfl (feq hc29).2 (by decide) (by decide) ?_
      exact kt
    have eb : own_bom (own_g cl) = 3 := by simp [own_bom, hc13, hc21, hc29]
    rw [eb] at kt
    show Steps p.tables e below (s₁.setTop (mkF m 0 #[.val (.ref b), .unset] [])) _
    refine XS.iconst X0.here hx rfl (hb hby d1_0) ?_
    show Steps p.tables e below (s₁.setTop (mkF m 1 #[.val (.ref b), .unset] [(.int (0 : Int32))])) _
    refine XS.istoreN X0.here hx rfl (hb hby d1_1) rfl (l' := #[.val (.ref b), .val (.int (0 : Int32))]) rfl ?_
    show Steps p.tables e below (s₁.setTop (mkF m 2 #[.val (.ref b), .val (.int (0 : Int32))] [])) _
    refine XS.aloadN X0.here hx rfl (hb hby d1_2) rfl rfl ?_
    show Steps p.tables e below (s₁.setTop (mkF m 3 #[.val (.ref b), .val (.int (0 : Int32))] [(.ref b)])) _
    refine X0.arraylength hx (by rw [e0]; exact Ar.1) (State.isArrayOf_alike hZ.alike Ar.2.1) (g := (mkF m 3 #[.val (.ref b), .val (.int (0 : Int32))] [(.ref b)])) rfl rfl (hb hby d1_3) _ ?_
    show Steps p.tables e below (s₁.setTop (mkF m 4 #[.val (.ref b), .val (.int (0 : Int32))] [(.int cl.slots.size.toInt32)])) _
    refine XS.iconst X0.here hx rfl (hb hby d1_4) ?_
    show Steps p.tables e below (s₁.setTop (mkF m 5 #[.val (.ref b), .val (.int (0 : Int32))] [(.int (3 : Int32)), (.int cl.slots.size.toInt32)])) _
    refine XS.icmpNo X0.here hx rfl (hb hby d1_5) rfl (flt hc5').1 ?_
    show Steps p.tables e below (s₁.setTop (mkF m 8 #[.val (.ref b), .val (.int (0 : Int32))] [])) _
    refine XS.aloadN X0.here hx rfl (hb hby d1_8) rfl rfl ?_
    show Steps p.tables e below (s₁.setTop (mkF m 9 #[.val (.ref b), .val (.int (0 : Int32))] [(.ref b)])) _
    refine XS.iconst X0.here hx rfl (hb hby d1_9) ?_
    show Steps p.tables e below (s₁.setTop (mkF m 10 #[.val (.ref b), .val (.int (0 : Int32))] [(.int (0 : Int32)), (.ref b)])) _
    refine X0.baloadBytes hx (j := (0 : Int32)) (v := (.int (own_g cl 0))) (by rw [e0]; exact Ar.1) (State.isArrayOf_alike hZ.alike Ar.2.1) Ar.2.2 hin0 hat0 (g := (mkF m 10 #[.val (.ref b), .val (.int (0 : Int32))] [(.int (0 : Int32)), (.ref b)])) rfl rfl (hb hby d1_10) _ ?_
    show Steps p.tables e below (s₁.setTop (mkF m 11 #[.val (.ref b), .val (.int (0 : Int32))] [(.int (own_g cl 0))])) _
    refine XS.bipush X0.here hx rfl (hb hby d1_11) ?_
    show Steps p.tables e below (s₁.setTop (mkF m 13 #[.val (.ref b), .val (.int (0 : Int32))] [(.int (-17 : Int32)), (.int (own_g cl 0))])) _
    refine XS.icmpNo X0.here hx rfl (hb hby d1_13) rfl (teq hc13).2 ?_
    show Steps p.tables e below (s₁.setTop (mkF m 16 #[.val (.ref b), .val (.int (0 : Int32))] [])) _
    refine XS.aloadN X0.here hx rfl (hb hby d1_16) rfl rfl ?_
    show Steps p.tables e below (s₁.setTop (mkF m 17 #[.val (.ref b), .val (.int (0 : Int32))] [(.ref b)])) _
    refine XS.iconst X0.here hx rfl (hb hby d1_17) ?_
    show Steps p.tables e below (s₁.setTop (mkF m 18 #[.val (.ref b), .val (.int (0 : Int32))] [(.int (1 : Int32)), (.ref b)])) _
    refine X0.baloadBytes hx (j := (1 : Int32)) (v := (.int (own_g cl 1))) (by rw [e0]; exact Ar.1) (State.isArrayOf_alike hZ.alike Ar.2.1) Ar.2.2 hin1 hat1 (g := (mkF m 18 #[.val (.ref b), .val (.int (0 : Int32))] [(.int (1 : Int32)), (.ref b)])) rfl rfl (hb hby d1_18) _ ?_
    show Steps p.tables e below (s₁.setTop (mkF m 19 #[.val (.ref b), .val (.int (0 : Int32))] [(.int (own_g cl 1))])) _
    refine XS.bipush X0.here hx rfl (hb hby d1_19) ?_
    show Steps p.tables e below (s₁.setTop (mkF m 21 #[.val (.ref b), .val (.int (0 : Int32))] [(.int (-69 : Int32)), (.int (own_g cl 1))])) _
    refine XS.icmpNo X0.here hx rfl (hb hby d1_21) rfl (teq hc21).2 ?_
    show Steps p.tables e below (s₁.setTop (mkF m 24 #[.val (.ref b), .val (.int (0 : Int32))] [])) _
    refine XS.aloadN X0.here hx rfl (hb hby d1_24) rfl rfl ?_
    show Steps p.tables e below (s₁.setTop (mkF m 25 #[.val (.ref b), .val (.int (0 : Int32))] [(.ref b)])) _
    refine XS.iconst X0.here hx rfl (hb hby d1_25) ?_
    show Steps p.tables e below (s₁.setTop (mkF m 26 #[.val (.ref b), .val (.int (0 : Int32))] [(.int (2 : Int32)), (.ref b)])) _
    refine X0.baloadBytes hx (j := (2 : Int32)) (v := (.int (own_g cl 2))) (by rw [e0]; exact Ar.1) (State.isArrayOf_alike hZ.alike Ar.2.1) Ar.2.2 hin2 hat2 (g := (mkF m 26 #[.val (.ref b), .val (.int (0 : Int32))] [(.int (2 : Int32)), (.ref b)])) rfl rfl (hb hby d1_26) _ ?_
    show Steps p.tables e below (s₁.setTop (mkF m 27 #[.val (.ref b), .val (.int (0 : Int32))] [(.int (own_g cl 2))])) _
    refine XS.bipush X0.here hx rfl (hb hby d1_27) ?_
    show Steps p.tables e below (s₁.setTop (mkF m 29 #[.val (.ref b), .val (.int (0 : Int32))] [(.int (-65 : Int32)), (.int (own_g cl 2))])) _
    refine XS.icmpNo X0.here hx rfl (hb hby d1_29) rfl (teq hc29).2 ?_
    show Steps p.tables e below (s₁.setTop (mkF m 32 #[.val (.ref b), .val (.int (0 : Int32))] [])) _
    refine XS.iconst X0.here hx rfl (hb hby d1_32) ?_
    show Steps p.tables e below (s₁.setTop (mkF m 33 #[.val (.ref b), .val (.int (0 : Int32))] [(.int (3 : Int32))])) _
    refine XS.istoreN X0.here hx rfl (hb hby d1_33) rfl (l' := #[.val (.ref b), .val (.int (3 : Int32))]) rfl ?_
    exact kt
/-! the law's own road -/
def own_LA (i0 i1 : Int32) (j2 : Int64) (n mm : Int32) (b : Addr) (s7 s8 s9 s10 : Slot) : Array Slot := #[.val (.int i0), .val (.int i1), .val (.long j2), .second, .val (.int n), .val (.int mm), .val (.ref b), s7, s8, s9, s10]
def own_A (Z : State) (h : Heap) (b : Addr) (n : Int32) : Prop := ∃ cl : Cell, Arr Z h b cl .byte ∧ cl.slots.size = n.toNatClampNeg ∧ own_ints cl
def own_W (p : Program) (l : Launch) (e : Env) (s : State) (m : MethodId) (args : Array Value) (below : List Frame) (meth : Method) (c : Code) (n0 : Nat) (T : State) (h : Heap) : Prop := ∃ locs : List Loc, Stand p l e room_1 s m args below meth c T locs 1 8 ∧ T.heap = h ∧ Fr n0 locs
section Law
variable {p : Program} {l : Launch} {e : Env} {s : State} {m : MethodId} {args : Array Value} {below : List Frame} {meth : Method} {c : Code} {T0 : State} {Z : State} {a0 : Array Value} {h0 : Heap} {n0 : Nat}

set_option maxRecDepth 65536 in
set_option maxHeartbeats 40000000 in
theorem own_pick (W0 : own_W p l e s m args below meth c n0 T0 h0) (hx : p.tables.exec = Jvm.exec) (hZ : Z.Warmed39 s.vm) (hw : ∀ d ∈ tables_1, d.before a0 Z = true) (hby : c.code = code) (hml : c.maxLocals = 11) (hown : s.vm.findClass "com/example/plinth/plinth/cli/InputFileIsXmlPinLaw" = some m.cls) (Z0 : n0 ≤ h0.size) {q : Nat} {Ls : Array Slot} (hL : Ls.size = 11) (p1 : Int32) (p2 : Int64) (p3 : Int32) (rest : List Value) (hrest : (rest.map fun v => v.category).sum ≤ 8) (hd : decode code q = .ok (.invokestatic 7, 3)) :
    ∃ (T' : State) (z : Int32), own_W p l e s m args below meth c n0 T' h0 ∧ own_Ld p e below T0 (mkF m q Ls (.int p3 :: .long p2 :: .int p1 :: rest)) T' (mkF m (q + 3) Ls (.int z :: rest)) := by
  obtain ⟨locs, X0, e0, N0⟩ := W0
  obtain ⟨_, _, ⟨T4, L4, k4, n4⟩, -, X4, ⟨Lc4, hQ4, l4, y4, z4⟩, st4⟩ := Jvm.LawKit.callS X0 hx (y := (⟨"com/example/plinth/plinth/cli/InputFileIsXmlPinLaw", "pick", "(IJI)B"⟩ : MethodName)) hown (mvT hZ (hw _ (List.mem_of_getElem? (i := 12) rfl))) (mvT hZ (hw _ (List.mem_of_getElem? (i := 13) rfl))) (mvT hZ (hw _ (List.mem_of_getElem? (i := 7) rfl))) (mvT hZ (hw _ (List.mem_of_getElem? (i := 14) rfl))) (by decide) (backOf (W := 8) (rm4 l Z a0 hw [] p1 p2 p3 h0 n0 Z0) hZ (hw _ (List.mem_of_getElem? (i := 14) rfl)) (hw _ (List.mem_of_getElem? (i := 7) rfl)) (by decide) (by decide)) (g := (mkF m q Ls (.int p3 :: .long p2 :: .int p1 :: rest))) rfl (by rw [hml]; exact hL) (argsL := [(.int p1), (.long p2), (.int p3)]) (rest := rest) (lenOf pd_pick rfl) rfl (by show 2 * 0 + _ ≤ _; omega) (hb hby hd) (fun _ _ => ⟨rfl, e0, (by decide : 1 + 0 ≤ _), (by decide : 8 + 0 ≤ _)⟩)
  dsimp only [Pt.U, Pt.locs, Pt.cells, Pt.slots] at X4 l4 y4 z4 st4 hQ4
  subst l4 y4 z4
  obtain ⟨⟨zz, rfl⟩, N4q, e4⟩ := hQ4
  exact ⟨T4, _, ⟨_, X4, e4, Fr.app N0 N4q⟩, fun t k => st4 t k⟩
set_option maxRecDepth 65536 in
set_option maxHeartbeats 40000000 in
theorem own_at (W0 : own_W p l e s m args below meth c n0 T0 h0) (hx : p.tables.exec = Jvm.exec) (hZ : Z.Warmed39 s.vm) (hw : ∀ d ∈ tables_1, d.before a0 Z = true) (hby : c.code = code) (hml : c.maxLocals = 11) (hown : s.vm.findClass "com/example/plinth/plinth/cli/InputFileIsXmlPinLaw" = some m.cls) (Z0 : n0 ≤ h0.size) {q : Nat} {Ls : Array Slot} (hL : Ls.size = 11) (b : Addr) (cl : Cell) (k : Nat) (Ar : Arr Z h0 b cl .byte) (Hi : own_ints cl) (hsz : cl.slots.size ≤ 8) (hk : k < 2 ^ 31) (rest : List Value) (hrest : (rest.map fun v => v.category).sum ≤ 8) (hd : decode code q = .ok (.invokestatic 19, 3)) :
    ∃ (T' : State), own_W p l e s m args below meth c n0 T' h0 ∧ own_Ld p e below T0 (mkF m q Ls (.int k.toInt32 :: .ref b :: rest)) T' (mkF m (q + 3) Ls (.int (own_g cl k) :: rest)) := by
  obtain ⟨locs, X0, e0, N0⟩ := W0
  obtain ⟨_, _, ⟨T4, L4, k4, n4⟩, -, X4, ⟨Lc4, hQ4, l4, y4, z4⟩, st4⟩ := Jvm.LawKit.callS X0 hx (y := (⟨"com/example/plinth/plinth/cli/InputFileIsXmlPinLaw", "at", "([BI)I"⟩ : MethodName)) hown (mvT hZ (hw _ (List.mem_of_getElem? (i := 5) rfl))) (mvT hZ (hw _ (List.mem_of_getElem? (i := 6) rfl))) (mvT hZ (hw _ (List.mem_of_getElem? (i := 7) rfl))) (mvT hZ (hw _ (List.mem_of_getElem? (i := 8) rfl))) (by decide) (backOf (W := 8) (rm2 l Z a0 hw [] b cl k h0 n0 Z0 Ar Hi hsz hk) hZ (hw _ (List.mem_of_getElem? (i := 8) rfl)) (hw _ (List.mem_of_getElem? (i := 7) rfl)) (by decide) (by decide)) (g := (mkF m q Ls (.int k.toInt32 :: .ref b :: rest))) rfl (by rw [hml]; exact hL) (argsL := [(.ref b), (.int k.toInt32)]) (rest := rest) (lenOf pd_at rfl) rfl (by show 2 * 0 + _ ≤ _; omega) (hb hby hd) (fun _ _ => ⟨rfl, e0, (by decide : 1 + 0 ≤ _), (by decide : 8 + 0 ≤ _)⟩)
  dsimp only [Pt.U, Pt.locs, Pt.cells, Pt.slots] at X4 l4 y4 z4 st4 hQ4
  subst l4 y4 z4
  obtain ⟨rfl, N4q, e4⟩ := hQ4
  exact ⟨T4, ⟨_, X4, e4, Fr.app N0 N4q⟩, fun t k => st4 t k⟩
set_option maxRecDepth 65536 in
set_option maxHeartbeats 40000000 in
theorem own_isWs (W0 : own_W p l e s m args below meth c n0 T0 h0) (hx : p.tables.exec = Jvm.exec) (hZ : Z.Warmed39 s.vm) (hw : ∀ d ∈ tables_1, d.before a0 Z = true) (hby : c.code = code) (hml : c.maxLocals = 11) (hown : s.vm.findClass "com/example/plinth/plinth/cli/InputFileIsXmlPinLaw" = some m.cls) (Z0 : n0 ≤ h0.size) {q : Nat} {Ls : Array Slot} (hL : Ls.size = 11) (p1 : Int32) (rest : List Value) (hrest : (rest.map fun v => v.category).sum ≤ 8) (hd : decode code q = .ok (.invokestatic 23, 3)) :
    ∃ (T' : State), own_W p l e s m args below meth c n0 T' h0 ∧ own_Ld p e below T0 (mkF m q Ls (.int p1 :: rest)) T' (mkF m (q + 3) Ls (.int (own_ws p1) :: rest)) := by
  obtain ⟨locs, X0, e0, N0⟩ := W0
  obtain ⟨_, _, ⟨T4, L4, k4, n4⟩, -, X4, ⟨Lc4, hQ4, l4, y4, z4⟩, st4⟩ := Jvm.LawKit.callS X0 hx (y := (⟨"com/example/plinth/plinth/cli/InputFileIsXmlPinLaw", "isWs", "(I)Z"⟩ : MethodName)) hown (mvT hZ (hw _ (List.mem_of_getElem? (i := 9) rfl))) (mvT hZ (hw _ (List.mem_of_getElem? (i := 10) rfl))) (mvT hZ (hw _ (List.mem_of_getElem? (i := 7) rfl))) (mvT hZ (hw _ (List.mem_of_getElem? (i := 11) rfl))) (by decide) (backOf (W := 8) (rm3 l Z a0 hw [] p1 h0 n0 Z0) hZ (hw _ (List.mem_of_getElem? (i := 11) rfl)) (hw _ (List.mem_of_getElem? (i := 7) rfl)) (by decide) (by decide)) (g := (mkF m q Ls (.int p1 :: rest))) rfl (by rw [hml]; exact hL) (argsL := [(.int p1)]) (rest := rest) (lenOf pd_ws rfl) rfl (by show 2 * 0 + _ ≤ _; omega) (hb hby hd) (fun _ _ => ⟨rfl, e0, (by decide : 1 + 0 ≤ _), (by decide : 8 + 0 ≤ _)⟩)
  dsimp only [Pt.U, Pt.locs, Pt.cells, Pt.slots] at X4 l4 y4 z4 st4 hQ4
  subst l4 y4 z4
  obtain ⟨rfl, N4q, e4⟩ := hQ4
  exact ⟨T4, ⟨_, X4, e4, Fr.app N0 N4q⟩, fun t k => st4 t k⟩
set_option maxRecDepth 65536 in
set_option maxHeartbeats 40000000 in
theorem own_isXml (W0 : own_W p l e s m args below meth c n0 T0 h0) (hx : p.tables.exec = Jvm.exec) (hZ : Z.Warmed39 s.vm) (hw : ∀ d ∈ tables_1, d.before a0 Z = true) (hby : c.code = code) (hml : c.maxLocals = 11) (hown : s.vm.findClass "com/example/plinth/plinth/cli/InputFileIsXmlPinLaw" = some m.cls) (Z0 : n0 ≤ h0.size) {q : Nat} {Ls : Array Slot} (hL : Ls.size = 11) (b : Addr) (cl : Cell) (Ar : Arr Z h0 b cl .byte) (Hi : own_ints cl) (hsz : cl.slots.size ≤ 8) (rest : List Value) (hrest : (rest.map fun v => v.category).sum ≤ 8) (hd : decode code q = .ok (.invokestatic 13, 3)) :
    ∃ (T' : State), own_W p l e s m args below meth c n0 T' h0 ∧ own_Ld p e below T0 (mkF m q Ls (.ref b :: rest)) T' (mkF m (q + 3) Ls (.int (own_scan (own_g cl) 8 (own_bom (own_g cl))) :: rest)) := by
  obtain ⟨locs, X0, e0, N0⟩ := W0
  obtain ⟨_, _, ⟨T4, L4, k4, n4⟩, -, X4, ⟨Lc4, hQ4, l4, y4, z4⟩, st4⟩ := Jvm.LawKit.callS X0 hx (y := (⟨"com/example/plinth/plinth/cli/InputFile", "isXml", "([B)Z"⟩ : MethodName)) hown (mvT hZ (hw _ (List.mem_of_getElem? (i := 1) rfl))) (mvT hZ (hw _ (List.mem_of_getElem? (i := 2) rfl))) (mvT hZ (hw _ (List.mem_of_getElem? (i := 3) rfl))) (mvT hZ (hw _ (List.mem_of_getElem? (i := 4) rfl))) (by decide) (backOf (W := 8) (rm1 l Z a0 hw [] b cl h0 n0 Z0 Ar Hi hsz) hZ (hw _ (List.mem_of_getElem? (i := 4) rfl)) (hw _ (List.mem_of_getElem? (i := 3) rfl)) (by decide) (by decide)) (g := (mkF m q Ls (.ref b :: rest))) rfl (by rw [hml]; exact hL) (argsL := [(.ref b)]) (rest := rest) (lenOf pd_xml rfl) rfl (by show 2 * 0 + _ ≤ _; omega) (hb hby hd) (fun _ _ => ⟨rfl, e0, (by decide : 1 + 0 ≤ _), (by decide : 8 + 0 ≤ _)⟩)
  dsimp only [Pt.U, Pt.locs, Pt.cells, Pt.slots] at X4 l4 y4 z4 st4 hQ4
  subst l4 y4 z4
  obtain ⟨rfl, N4q, e4⟩ := hQ4
  exact ⟨T4, ⟨_, X4, e4, Fr.app N0 N4q⟩, fun t k => st4 t k⟩
set_option maxRecDepth 65536 in
set_option maxHeartbeats 40000000 in
theorem own_st0 (W0 : own_W p l e s m args below meth c n0 T0 h0) (hx : p.tables.exec = Jvm.exec) (hZ : Z.Warmed39 s.vm) (hw : ∀ d ∈ tables_1, d.before a0 Z = true) (hby : c.code = code) (hml : c.maxLocals = 11) (hown : s.vm.findClass "com/example/plinth/plinth/cli/InputFileIsXmlPinLaw" = some m.cls) (Z0 : n0 ≤ h0.size) (i0 i1 : Int32) (j2 : Int64) (n mm : Int32) (b : Addr) (V0 : own_A Z h0 b n) (gb : n0 ≤ b) :
    ∃ (T' : State) (h' : Heap), own_W p l e s m args below meth c n0 T' h' ∧ own_A Z h' b n ∧ n0 ≤ h'.size ∧ own_Ld p e below T0 (mkF m 22 (own_LA i0 i1 j2 n mm b .unset .unset .unset .unset) []) T' (mkF m 37 (own_LA i0 i1 j2 n mm b .unset .unset .unset .unset) []) := by
  by_cases hc : (0 : Int32) < n
  · obtain ⟨T1, z, W1, st1⟩ := own_pick W0 hx hZ hw hby hml hown Z0 (q := 33) (Ls := (own_LA i0 i1 j2 n mm b .unset .unset .unset .unset)) rfl i1 j2 (0 : Int32) [(.int (0 : Int32)), (.ref b)] (Nat.le_of_ble_eq_true rfl) at_33
    obtain ⟨locs, X0, e0, N0⟩ := W0
    obtain ⟨locs1, X1, e1, N1⟩ := W1
    obtain ⟨cl, Ar, S, Hi⟩ := V0
    obtain ⟨T2, h2, X2, e2, Wr2, st2⟩ := stB X1 hx hZ e1 Ar (j := (0 : Int32)) (inb_of S ⟨by decide, hc⟩) (g := (mkF m 36 (own_LA i0 i1 j2 n mm b .unset .unset .unset .unset) [(.int z), (.int (0 : Int32)), (.ref b)])) rfl rfl (hb hby at_36)
    refine ⟨T2, h2, ⟨_, X2, e2, Fr.snoc X2 N1 gb⟩, ⟨_, Arr.same Wr2 Ar, by rw [sz_set]; exact S, own_ints_set Hi _ _⟩, Nat.le_trans Z0 (Keep.of_wr Wr2).1, fun target kt => ?_⟩
    show Steps p.tables e below (T0.setTop (mkF m 22 (own_LA i0 i1 j2 n mm b .unset .unset .unset .unset) [])) _
    refine XS.iload X0.here hx rfl (hb hby at_22) rfl ?_
    show Steps p.tables e below (T0.setTop (mkF m 24 (own_LA i0 i1 j2 n mm b .unset .unset .unset .unset) [(.int n)])) _
    refine XS.ifNo X0.here hx rfl (hb hby at_24) rfl ((if0 _ _).trans (tlt hc).2.2.2) ?_
    show Steps p.tables e below (T0.setTop (mkF m 27 (own_LA i0 i1 j2 n mm b .unset .unset .unset .unset) [])) _
    refine XS.aload X0.here hx rfl (hb hby at_27) rfl rfl ?_
    show Steps p.tables e below (T0.setTop (mkF m 29 (own_LA i0 i1 j2 n mm b .unset .unset .unset .unset) [(.ref b)])) _
    refine XS.iconst X0.here hx rfl (hb hby at_29) ?_
    show Steps p.tables e below (T0.setTop (mkF m 30 (own_LA i0 i1 j2 n mm b .unset .unset .unset .unset) [(.int (0 : Int32)), (.ref b)])) _
    refine XS.iloadN X0.here hx rfl (hb hby at_30) rfl ?_
    show Steps p.tables e below (T0.setTop (mkF m 31 (own_LA i0 i1 j2 n mm b .unset .unset .unset .unset) [(.int i1), (.int (0 : Int32)), (.ref b)])) _
    refine XS.lloadN X0.here hx rfl (hb hby at_31) rfl ?_
    show Steps p.tables e below (T0.setTop (mkF m 32 (own_LA i0 i1 j2 n mm b .unset .unset .unset .unset) [(.long j2), (.int i1), (.int (0 : Int32)), (.ref b)])) _
    refine XS.iconst X0.here hx rfl (hb hby at_32) ?_
    refine st1 _ ?_
    refine st2 _ ?_
    exact kt
  · obtain ⟨locs, X0, e0, N0⟩ := W0
    refine ⟨T0, h0, ⟨locs, X0, e0, N0⟩, V0, Z0, fun target kt => ?_⟩
    show Steps p.tables e below (T0.setTop (mkF m 22 (own_LA i0 i1 j2 n mm b .unset .unset .unset .unset) [])) _
    refine XS.iload X0.here hx rfl (hb hby at_22) rfl ?_
    show Steps p.tables e below (T0.setTop (mkF m 24 (own_LA i0 i1 j2 n mm b .unset .unset .unset .unset) [(.int n)])) _
    refine XS.ifYes X0.here hx rfl (pc0 := 24) (pc' := 37) rfl (hb hby at_24) rfl ((if0 _ _).trans (flt hc).2.2.2) (by decide) (by decide) ?_
    exact kt
set_option maxRecDepth 65536 in
set_option maxHeartbeats 40000000 in
theorem own_st1 (W0 : own_W p l e s m args below meth c n0 T0 h0) (hx : p.tables.exec = Jvm.exec) (hZ : Z.Warmed39 s.vm) (hw : ∀ d ∈ tables_1, d.before a0 Z = true) (hby : c.code = code) (hml : c.maxLocals = 11) (hown : s.vm.findClass "com/example/plinth/plinth/cli/InputFileIsXmlPinLaw" = some m.cls) (Z0 : n0 ≤ h0.size) (i0 i1 : Int32) (j2 : Int64) (n mm : Int32) (b : Addr) (V0 : own_A Z h0 b n) (gb : n0 ≤ b) :
    ∃ (T' : State) (h' : Heap), own_W p l e s m args below meth c n0 T' h' ∧ own_A Z h' b n ∧ n0 ≤ h'.size ∧ own_Ld p e below T0 (mkF m 37 (own_LA i0 i1 j2 n mm b .unset .unset .unset .unset) []) T' (mkF m 53 (own_LA i0 i1 j2 n mm b .unset .unset .unset .unset) []) := by
  by_cases hc : (1 : Int32) < n
  · obtain ⟨T1, z, W1, st1⟩ := own_pick W0 hx hZ hw hby hml hown Z0 (q := 49) (Ls := (own_LA i0 i1 j2 n mm b .unset .unset .unset .unset)) rfl i1 j2 (1 : Int32) [(.int (1 : Int32)), (.ref b)] (Nat.le_of_ble_eq_true rfl) at_49
    obtain ⟨locs, X0, e0, N0⟩ := W0
    obtain ⟨locs1, X1, e1, N1⟩ := W1
    obtain ⟨cl, Ar, S, Hi⟩ := V0
    obtain ⟨T2, h2, X2, e2, Wr2, st2⟩ := stB X1 hx hZ e1 Ar (j := (1 : Int32)) (inb_of S ⟨by decide, hc⟩) (g := (mkF m 52 (own_LA i0 i1 j2 n mm b .unset .unset .unset .unset) [(.int z), (.int (1 : Int32)), (.ref b)])) rfl rfl (hb hby at_52)
    refine ⟨T2, h2, ⟨_, X2, e2, Fr.snoc X2 N1 gb⟩, ⟨_, Arr.same Wr2 Ar, by rw [sz_set]; exact S, own_ints_set Hi _ _⟩, Nat.le_trans Z0 (Keep.of_wr Wr2).1, fun target kt => ?_⟩
    show Steps p.tables e below (T0.setTop (mkF m 37 (own_LA i0 i1 j2 n mm b .unset .unset .unset .unset) [])) _
    refine XS.iload X0.here hx rfl (hb hby at_37) rfl ?_
    show Steps p.tables e below (T0.setTop (mkF m 39 (own_LA i0 i1 j2 n mm b .unset .unset .unset .unset) [(.int n)])) _
    refine XS.iconst X0.here hx rfl (hb hby at_39) ?_
    show Steps p.tables e below (T0.setTop (mkF m 40 (own_LA i0 i1 j2 n mm b .unset .unset .unset .unset) [(.int (1 : Int32)), (.int n)])) _
    refine XS.icmpNo X0.here hx rfl (hb hby at_40) rfl (tlt hc).2.2.2 ?_
    show Steps p.tables e below (T0.setTop (mkF m 43 (own_LA i0 i1 j2 n mm b .unset .unset .unset .unset) [])) _
    refine XS.aload X0.here hx rfl (hb hby at_43) rfl rfl ?_
    show Steps p.tables e below (T0.setTop (mkF m 45 (own_LA i0 i1 j2 n mm b .unset .unset .unset .unset) [(.ref b)])) _
    refine XS.iconst X0.here hx rfl (hb hby at_45) ?_
    show Steps p.tables e below (T0.setTop (mkF m 46 (own_LA i0 i1 j2 n mm b .unset .unset .unset .unset) [(.int (1 : Int32)), (.ref b)])) _
    refine XS.iloadN X0.here hx rfl (hb hby at_46) rfl ?_
    show Steps p.tables e below (T0.setTop (mkF m 47 (own_LA i0 i1 j2 n mm b .unset .unset .unset .unset) [(.int i1), (.int (1 : Int32)), (.ref b)])) _
    refine XS.lloadN X0.here hx rfl (hb hby at_47) rfl ?_
    show Steps p.tables e below (T0.setTop (mkF m 48 (own_LA i0 i1 j2 n mm b .unset .unset .unset .unset) [(.long j2), (.int i1), (.int (1 : Int32)), (.ref b)])) _
    refine XS.iconst X0.here hx rfl (hb hby at_48) ?_
    refine st1 _ ?_
    refine st2 _ ?_
    exact kt
  · obtain ⟨locs, X0, e0, N0⟩ := W0
    refine ⟨T0, h0, ⟨locs, X0, e0, N0⟩, V0, Z0, fun target kt => ?_⟩
    show Steps p.tables e below (T0.setTop (mkF m 37 (own_LA i0 i1 j2 n mm b .unset .unset .unset .unset) [])) _
    refine XS.iload X0.here hx rfl (hb hby at_37) rfl ?_
    show Steps p.tables e below (T0.setTop (mkF m 39 (own_LA i0 i1 j2 n mm b .unset .unset .unset .unset) [(.int n)])) _
    refine XS.iconst X0.here hx rfl (hb hby at_39) ?_
    show Steps p.tables e below (T0.setTop (mkF m 40 (own_LA i0 i1 j2 n mm b .unset .unset .unset .unset) [(.int (1 : Int32)), (.int n)])) _
    refine XS.icmpYes X0.here hx rfl (pc0 := 40) (pc' := 53) rfl (hb hby at_40) rfl (flt hc).2.2.2 (by decide) (by decide) ?_
    exact kt
set_option maxRecDepth 65536 in
set_option maxHeartbeats 40000000 in
theorem own_st2 (W0 : own_W p l e s m args below meth c n0 T0 h0) (hx : p.tables.exec = Jvm.exec) (hZ : Z.Warmed39 s.vm) (hw : ∀ d ∈ tables_1, d.before a0 Z = true) (hby : c.code = code) (hml : c.maxLocals = 11) (hown : s.vm.findClass "com/example/plinth/plinth/cli/InputFileIsXmlPinLaw" = some m.cls) (Z0 : n0 ≤ h0.size) (i0 i1 : Int32) (j2 : Int64) (n mm : Int32) (b : Addr) (V0 : own_A Z h0 b n) (gb : n0 ≤ b) :
    ∃ (T' : State) (h' : Heap), own_W p l e s m args below meth c n0 T' h' ∧ own_A Z h' b n ∧ n0 ≤ h'.size ∧ own_Ld p e below T0 (mkF m 53 (own_LA i0 i1 j2 n mm b .unset .unset .unset .unset) []) T' (mkF m 69 (own_LA i0 i1 j2 n mm b .unset .unset .unset .unset) []) := by
  by_cases hc : (2 : Int32) < n
  · obtain ⟨T1, z, W1, st1⟩ := own_pick W0 hx hZ hw hby hml hown Z0 (q := 65) (Ls := (own_LA i0 i1 j2 n mm b .unset .unset .unset .unset)) rfl i1 j2 (2 : Int32) [(.int (2 : Int32)), (.ref b)] (Nat.le_of_ble_eq_true rfl) at_65
    obtain ⟨locs, X0, e0, N0⟩ := W0
    obtain ⟨locs1, X1, e1, N1⟩ := W1
    obtain ⟨cl, Ar, S, Hi⟩ := V0
    obtain ⟨T2, h2, X2, e2, Wr2, st2⟩ := stB X1 hx hZ e1 Ar (j := (2 : Int32)) (inb_of S ⟨by decide, hc⟩) (g := (mkF m 68 (own_LA i0 i1 j2 n mm b .unset .unset .unset .unset) [(.int z), (.int (2 : Int32)), (.ref b)])) rfl rfl (hb hby at_68)
    refine ⟨T2, h2, ⟨_, X2, e2, Fr.snoc X2 N1 gb⟩, ⟨_, Arr.same Wr2 Ar, by rw [sz_set]; exact S, own_ints_set Hi _ _⟩, Nat.le_trans Z0 (Keep.of_wr Wr2).1, fun target kt => ?_⟩
    show Steps p.tables e below (T0.setTop (mkF m 53 (own_LA i0 i1 j2 n mm b .unset .unset .unset .unset) [])) _
    refine XS.iload X0.here hx rfl (hb hby at_53) rfl ?_
    show Steps p.tables e below (T0.setTop (mkF m 55 (own_LA i0 i1 j2 n mm b .unset .unset .unset .unset) [(.int n)])) _
    refine XS.iconst X0.here hx rfl (hb hby at_55) ?_
    show Steps p.tables e below (T0.setTop (mkF m 56 (own_LA i0 i1 j2 n mm b .unset .unset .unset .unset) [(.int (2 : Int32)), (.int n)])) _
    refine XS.icmpNo X0.here hx rfl (hb hby at_56) rfl (tlt hc).2.2.2 ?_
    show Steps p.tables e below (T0.setTop (mkF m 59 (own_LA i0 i1 j2 n mm b .unset .unset .unset .unset) [])) _
    refine XS.aload X0.here hx rfl (hb hby at_59) rfl rfl ?_
    show Steps p.tables e below (T0.setTop (mkF m 61 (own_LA i0 i1 j2 n mm b .unset .unset .unset .unset) [(.ref b)])) _
    refine XS.iconst X0.here hx rfl (hb hby at_61) ?_
    show Steps p.tables e below (T0.setTop (mkF m 62 (own_LA i0 i1 j2 n mm b .unset .unset .unset .unset) [(.int (2 : Int32)), (.ref b)])) _
    refine XS.iloadN X0.here hx rfl (hb hby at_62) rfl ?_
    show Steps p.tables e below (T0.setTop (mkF m 63 (own_LA i0 i1 j2 n mm b .unset .unset .unset .unset) [(.int i1), (.int (2 : Int32)), (.ref b)])) _
    refine XS.lloadN X0.here hx rfl (hb hby at_63) rfl ?_
    show Steps p.tables e below (T0.setTop (mkF m 64 (own_LA i0 i1 j2 n mm b .unset .unset .unset .unset) [(.long j2), (.int i1), (.int (2 : Int32)), (.ref b)])) _
    refine XS.iconst X0.here hx rfl (hb hby at_64) ?_
    refine st1 _ ?_
    refine st2 _ ?_
    exact kt
  · obtain ⟨locs, X0, e0, N0⟩ := W0
    refine ⟨T0, h0, ⟨locs, X0, e0, N0⟩, V0, Z0, fun target kt => ?_⟩
    show Steps p.tables e below (T0.setTop (mkF m 53 (own_LA i0 i1 j2 n mm b .unset .unset .unset .unset) [])) _
    refine XS.iload X0.here hx rfl (hb hby at_53) rfl ?_
    show Steps p.tables e below (T0.setTop (mkF m 55 (own_LA i0 i1 j2 n mm b .unset .unset .unset .unset) [(.int n)])) _
    refine XS.iconst X0.here hx rfl (hb hby at_55) ?_
    show Steps p.tables e below (T0.setTop (mkF m 56 (own_LA i0 i1 j2 n mm b .unset .unset .unset .unset) [(.int (2 : Int32)), (.int n)])) _
    refine XS.icmpYes X0.here hx rfl (pc0 := 56) (pc' := 69) rfl (hb hby at_56) rfl (flt hc).2.2.2 (by decide) (by decide) ?_
    exact kt
set_option maxRecDepth 65536 in
set_option maxHeartbeats 40000000 in
theorem own_st3 (W0 : own_W p l e s m args below meth c n0 T0 h0) (hx : p.tables.exec = Jvm.exec) (hZ : Z.Warmed39 s.vm) (hw : ∀ d ∈ tables_1, d.before a0 Z = true) (hby : c.code = code) (hml : c.maxLocals = 11) (hown : s.vm.findClass "com/example/plinth/plinth/cli/InputFileIsXmlPinLaw" = some m.cls) (Z0 : n0 ≤ h0.size) (i0 i1 : Int32) (j2 : Int64) (n mm : Int32) (b : Addr) (V0 : own_A Z h0 b n) (gb : n0 ≤ b) :
    ∃ (T' : State) (h' : Heap), own_W p l e s m args below meth c n0 T' h' ∧ own_A Z h' b n ∧ n0 ≤ h'.size ∧ own_Ld p e below T0 (mkF m 69 (own_LA i0 i1 j2 n mm b .unset .unset .unset .unset) []) T' (mkF m 85 (own_LA i0 i1 j2 n mm b .unset .unset .unset .unset) []) := by
  by_cases hc : (3 : Int32) < n
  · obtain ⟨T1, z, W1, st1⟩ := own_pick W0 hx hZ hw hby hml hown Z0 (q := 81) (Ls := (own_LA i0 i1 j2 n mm b .unset .unset .unset .unset)) rfl i1 j2 (3 : Int32) [(.int (3 : Int32)), (.ref b)] (Nat.le_of_ble_eq_true rfl) at_81
    obtain ⟨locs, X0, e0, N0⟩ := W0
    obtain ⟨locs1, X1, e1, N1⟩ := W1
    obtain ⟨cl, Ar, S, Hi⟩ := V0
    obtain ⟨T2, h2, X2, e2, Wr2, st2⟩ := stB X1 hx hZ e1 Ar (j := (3 : Int32)) (inb_of S ⟨by decide, hc⟩) (g := (mkF m 84 (own_LA i0 i1 j2 n mm b .unset .unset .unset .unset) [(.int z), (.int (3 : Int32)), (.ref b)])) rfl rfl (hb hby at_84)
    refine ⟨T2, h2, ⟨_, X2, e2, Fr.snoc X2 N1 gb⟩, ⟨_, Arr.same Wr2 Ar, by rw [sz_set]; exact S, own_ints_set Hi _ _⟩, Nat.le_trans Z0 (Keep.of_wr Wr2).1, fun target kt => ?_⟩
    show Steps p.tables e below (T0.setTop (mkF m 69 (own_LA i0 i1 j2 n mm b .unset .unset .unset .unset) [])) _
    refine XS.iload X0.here hx rfl (hb hby at_69) rfl ?_
    show Steps p.tables e below (T0.setTop (mkF m 71 (own_LA i0 i1 j2 n mm b .unset .unset .unset .unset) [(.int n)])) _
    refine XS.iconst X0.here hx rfl (hb hby at_71) ?_
    show Steps p.tables e below (T0.setTop (mkF m 72 (own_LA i0 i1 j2 n mm b .unset .unset .unset .unset) [(.int (3 : Int32)), (.int n)])) _
    refine XS.icmpNo X0.here hx rfl (hb hby at_72) rfl (tlt hc).2.2.2 ?_
    show Steps p.tables e below (T0.setTop (mkF m 75 (own_LA i0 i1 j2 n mm b .unset .unset .unset .unset) [])) _
    refine XS.aload X0.here hx rfl (hb hby at_75) rfl rfl ?_
    show Steps p.tables e below (T0.setTop (mkF m 77 (own_LA i0 i1 j2 n mm b .unset .unset .unset .unset) [(.ref b)])) _
    refine XS.iconst X0.here hx rfl (hb hby at_77) ?_
    show Steps p.tables e below (T0.setTop (mkF m 78 (own_LA i0 i1 j2 n mm b .unset .unset .unset .unset) [(.int (3 : Int32)), (.ref b)])) _
    refine XS.iloadN X0.here hx rfl (hb hby at_78) rfl ?_
    show Steps p.tables e below (T0.setTop (mkF m 79 (own_LA i0 i1 j2 n mm b .unset .unset .unset .unset) [(.int i1), (.int (3 : Int32)), (.ref b)])) _
    refine XS.lloadN X0.here hx rfl (hb hby at_79) rfl ?_
    show Steps p.tables e below (T0.setTop (mkF m 80 (own_LA i0 i1 j2 n mm b .unset .unset .unset .unset) [(.long j2), (.int i1), (.int (3 : Int32)), (.ref b)])) _
    refine XS.iconst X0.here hx rfl (hb hby at_80) ?_
    refine st1 _ ?_
    refine st2 _ ?_
    exact kt
  · obtain ⟨locs, X0, e0, N0⟩ := W0
    refine ⟨T0, h0, ⟨locs, X0, e0, N0⟩, V0, Z0, fun target kt => ?_⟩
    show Steps p.tables e below (T0.setTop (mkF m 69 (own_LA i0 i1 j2 n mm b .unset .unset .unset .unset) [])) _
    refine XS.iload X0.here hx rfl (hb hby at_69) rfl ?_
    show Steps p.tables e below (T0.setTop (mkF m 71 (own_LA i0 i1 j2 n mm b .unset .unset .unset .unset) [(.int n)])) _
    refine XS.iconst X0.here hx rfl (hb hby at_71) ?_
    show Steps p.tables e below (T0.setTop (mkF m 72 (own_LA i0 i1 j2 n mm b .unset .unset .unset .unset) [(.int (3 : Int32)), (.int n)])) _
    refine XS.icmpYes X0.here hx rfl (pc0 := 72) (pc' := 85) rfl (hb hby at_72) rfl (flt hc).2.2.2 (by decide) (by decide) ?_
    exact kt
set_option maxRecDepth 65536 in
set_option maxHeartbeats 40000000 in
theorem own_st4 (W0 : own_W p l e s m args below meth c n0 T0 h0) (hx : p.tables.exec = Jvm.exec) (hZ : Z.Warmed39 s.vm) (hw : ∀ d ∈ tables_1, d.before a0 Z = true) (hby : c.code = code) (hml : c.maxLocals = 11) (hown : s.vm.findClass "com/example/plinth/plinth/cli/InputFileIsXmlPinLaw" = some m.cls) (Z0 : n0 ≤ h0.size) (i0 i1 : Int32) (j2 : Int64) (n mm : Int32) (b : Addr) (V0 : own_A Z h0 b n) (gb : n0 ≤ b) :
    ∃ (T' : State) (h' : Heap), own_W p l e s m args below meth c n0 T' h' ∧ own_A Z h' b n ∧ n0 ≤ h'.size ∧ own_Ld p e below T0 (mkF m 85 (own_LA i0 i1 j2 n mm b .unset .unset .unset .unset) []) T' (mkF m 101 (own_LA i0 i1 j2 n mm b .unset .unset .unset .unset) []) := by
  by_cases hc : (4 : Int32) < n
  · obtain ⟨T1, z, W1, st1⟩ := own_pick W0 hx hZ hw hby hml hown Z0 (q := 97) (Ls := (own_LA i0 i1 j2 n mm b .unset .unset .unset .unset)) rfl i1 j2 (4 : Int32) [(.int (4 : Int32)), (.ref b)] (Nat.le_of_ble_eq_true rfl) at_97
    obtain ⟨locs, X0, e0, N0⟩ := W0
    obtain ⟨locs1, X1, e1, N1⟩ := W1
    obtain ⟨cl, Ar, S, Hi⟩ := V0
    obtain ⟨T2, h2, X2, e2, Wr2, st2⟩ := stB X1 hx hZ e1 Ar (j := (4 : Int32)) (inb_of S ⟨by decide, hc⟩) (g := (mkF m 100 (own_LA i0 i1 j2 n mm b .unset .unset .unset .unset) [(.int z), (.int (4 : Int32)), (.ref b)])) rfl rfl (hb hby at_100)
    refine ⟨T2, h2, ⟨_, X2, e2, Fr.snoc X2 N1 gb⟩, ⟨_, Arr.same Wr2 Ar, by rw [sz_set]; exact S, own_ints_set Hi _ _⟩, Nat.le_trans Z0 (Keep.of_wr Wr2).1, fun target kt => ?_⟩
    show Steps p.tables e below (T0.setTop (mkF m 85 (own_LA i0 i1 j2 n mm b .unset .unset .unset .unset) [])) _
    refine XS.iload X0.here hx rfl (hb hby at_85) rfl ?_
    show Steps p.tables e below (T0.setTop (mkF m 87 (own_LA i0 i1 j2 n mm b .unset .unset .unset .unset) [(.int n)])) _
    refine XS.iconst X0.here hx rfl (hb hby at_87) ?_
    show Steps p.tables e below (T0.setTop (mkF m 88 (own_LA i0 i1 j2 n mm b .unset .unset .unset .unset) [(.int (4 : Int32)), (.int n)])) _
    refine XS.icmpNo X0.here hx rfl (hb hby at_88) rfl (tlt hc).2.2.2 ?_
    show Steps p.tables e below (T0.setTop (mkF m 91 (own_LA i0 i1 j2 n mm b .unset .unset .unset .unset) [])) _
    refine XS.aload X0.here hx rfl (hb hby at_91) rfl rfl ?_
    show Steps p.tables e below (T0.setTop (mkF m 93 (own_LA i0 i1 j2 n mm b .unset .unset .unset .unset) [(.ref b)])) _
    refine XS.iconst X0.here hx rfl (hb hby at_93) ?_
    show Steps p.tables e below (T0.setTop (mkF m 94 (own_LA i0 i1 j2 n mm b .unset .unset .unset .unset) [(.int (4 : Int32)), (.ref b)])) _
    refine XS.iloadN X0.here hx rfl (hb hby at_94) rfl ?_
    show Steps p.tables e below (T0.setTop (mkF m 95 (own_LA i0 i1 j2 n mm b .unset .unset .unset .unset) [(.int i1), (.int (4 : Int32)), (.ref b)])) _
    refine XS.lloadN X0.here hx rfl (hb hby at_95) rfl ?_
    show Steps p.tables e below (T0.setTop (mkF m 96 (own_LA i0 i1 j2 n mm b .unset .unset .unset .unset) [(.long j2), (.int i1), (.int (4 : Int32)), (.ref b)])) _
    refine XS.iconst X0.here hx rfl (hb hby at_96) ?_
    refine st1 _ ?_
    refine st2 _ ?_
    exact kt
  · obtain ⟨locs, X0, e0, N0⟩ := W0
    refine ⟨T0, h0, ⟨locs, X0, e0, N0⟩, V0, Z0, fun target kt => ?_⟩
    show Steps p.tables e below (T0.setTop (mkF m 85 (own_LA i0 i1 j2 n mm b .unset .unset .unset .unset) [])) _
    refine XS.iload X0.here hx rfl (hb hby at_85) rfl ?_
    show Steps p.tables e below (T0.setTop (mkF m 87 (own_LA i0 i1 j2 n mm b .unset .unset .unset .unset) [(.int n)])) _
    refine XS.iconst X0.here hx rfl (hb hby at_87) ?_
    show Steps p.tables e below (T0.setTop (mkF m 88 (own_LA i0 i1 j2 n mm b .unset .unset .unset .unset) [(.int (4 : Int32)), (.int n)])) _
    refine XS.icmpYes X0.here hx rfl (pc0 := 88) (pc' := 101) rfl (hb hby at_88) rfl (flt hc).2.2.2 (by decide) (by decide) ?_
    exact kt
set_option maxRecDepth 65536 in
set_option maxHeartbeats 40000000 in
theorem own_st5 (W0 : own_W p l e s m args below meth c n0 T0 h0) (hx : p.tables.exec = Jvm.exec) (hZ : Z.Warmed39 s.vm) (hw : ∀ d ∈ tables_1, d.before a0 Z = true) (hby : c.code = code) (hml : c.maxLocals = 11) (hown : s.vm.findClass "com/example/plinth/plinth/cli/InputFileIsXmlPinLaw" = some m.cls) (Z0 : n0 ≤ h0.size) (i0 i1 : Int32) (j2 : Int64) (n mm : Int32) (b : Addr) (V0 : own_A Z h0 b n) (gb : n0 ≤ b) :
    ∃ (T' : State) (h' : Heap), own_W p l e s m args below meth c n0 T' h' ∧ own_A Z h' b n ∧ n0 ≤ h'.size ∧ own_Ld p e below T0 (mkF m 101 (own_LA i0 i1 j2 n mm b .unset .unset .unset .unset) []) T' (mkF m 117 (own_LA i0 i1 j2 n mm b .unset .unset .unset .unset) []) := by
  by_cases hc : (5 : Int32) < n
  · obtain ⟨T1, z, W1, st1⟩ := own_pick W0 hx hZ hw hby hml hown Z0 (q := 113) (Ls := (own_LA i0 i1 j2 n mm b .unset .unset .unset .unset)) rfl i1 j2 (5 : Int32) [(.int (5 : Int32)), (.ref b)] (Nat.le_of_ble_eq_true rfl) at_113
    obtain ⟨locs, X0, e0, N0⟩ := W0
    obtain ⟨locs1, X1, e1, N1⟩ := W1
    obtain ⟨cl, Ar, S, Hi⟩ := V0
    obtain ⟨T2, h2, X2, e2, Wr2, st2⟩ := stB X1 hx hZ e1 Ar (j := (5 : Int32)) (inb_of S ⟨by decide, hc⟩) (g := (mkF m 116 (own_LA i0 i1 j2 n mm b .unset .unset .unset .unset) [(.int z), (.int (5 : Int32)), (.ref b)])) rfl rfl (hb hby at_116)
    refine ⟨T2, h2, ⟨_, X2, e2, Fr.snoc X2 N1 gb⟩, ⟨_, Arr.same Wr2 Ar, by rw [sz_set]; exact S, own_ints_set Hi _ _⟩, Nat.le_trans Z0 (Keep.of_wr Wr2).1, fun target kt => ?_⟩
    show Steps p.tables e below (T0.setTop (mkF m 101 (own_LA i0 i1 j2 n mm b .unset .unset .unset .unset) [])) _
    refine XS.iload X0.here hx rfl (hb hby at_101) rfl ?_
    show Steps p.tables e below (T0.setTop (mkF m 103 (own_LA i0 i1 j2 n mm b .unset .unset .unset .unset) [(.int n)])) _
    refine XS.iconst X0.here hx rfl (hb hby at_103) ?_
    show Steps p.tables e below (T0.setTop (mkF m 104 (own_LA i0 i1 j2 n mm b .unset .unset .unset .unset) [(.int (5 : Int32)), (.int n)])) _
    refine XS.icmpNo X0.here hx rfl (hb hby at_104) rfl (tlt hc).2.2.2 ?_
    show Steps p.tables e below (T0.setTop (mkF m 107 (own_LA i0 i1 j2 n mm b .unset .unset .unset .unset) [])) _
    refine XS.aload X0.here hx rfl (hb hby at_107) rfl rfl ?_
    show Steps p.tables e below (T0.setTop (mkF m 109 (own_LA i0 i1 j2 n mm b .unset .unset .unset .unset) [(.ref b)])) _
    refine XS.iconst X0.here hx rfl (hb hby at_109) ?_
    show Steps p.tables e below (T0.setTop (mkF m 110 (own_LA i0 i1 j2 n mm b .unset .unset .unset .unset) [(.int (5 : Int32)), (.ref b)])) _
    refine XS.iloadN X0.here hx rfl (hb hby at_110) rfl ?_
    show Steps p.tables e below (T0.setTop (mkF m 111 (own_LA i0 i1 j2 n mm b .unset .unset .unset .unset) [(.int i1), (.int (5 : Int32)), (.ref b)])) _
    refine XS.lloadN X0.here hx rfl (hb hby at_111) rfl ?_
    show Steps p.tables e below (T0.setTop (mkF m 112 (own_LA i0 i1 j2 n mm b .unset .unset .unset .unset) [(.long j2), (.int i1), (.int (5 : Int32)), (.ref b)])) _
    refine XS.iconst X0.here hx rfl (hb hby at_112) ?_
    refine st1 _ ?_
    refine st2 _ ?_
    exact kt
  · obtain ⟨locs, X0, e0, N0⟩ := W0
    refine ⟨T0, h0, ⟨locs, X0, e0, N0⟩, V0, Z0, fun target kt => ?_⟩
    show Steps p.tables e below (T0.setTop (mkF m 101 (own_LA i0 i1 j2 n mm b .unset .unset .unset .unset) [])) _
    refine XS.iload X0.here hx rfl (hb hby at_101) rfl ?_
    show Steps p.tables e below (T0.setTop (mkF m 103 (own_LA i0 i1 j2 n mm b .unset .unset .unset .unset) [(.int n)])) _
    refine XS.iconst X0.here hx rfl (hb hby at_103) ?_
    show Steps p.tables e below (T0.setTop (mkF m 104 (own_LA i0 i1 j2 n mm b .unset .unset .unset .unset) [(.int (5 : Int32)), (.int n)])) _
    refine XS.icmpYes X0.here hx rfl (pc0 := 104) (pc' := 117) rfl (hb hby at_104) rfl (flt hc).2.2.2 (by decide) (by decide) ?_
    exact kt
set_option maxRecDepth 65536 in
set_option maxHeartbeats 40000000 in
theorem own_st6 (W0 : own_W p l e s m args below meth c n0 T0 h0) (hx : p.tables.exec = Jvm.exec) (hZ : Z.Warmed39 s.vm) (hw : ∀ d ∈ tables_1, d.before a0 Z = true) (hby : c.code = code) (hml : c.maxLocals = 11) (hown : s.vm.findClass "com/example/plinth/plinth/cli/InputFileIsXmlPinLaw" = some m.cls) (Z0 : n0 ≤ h0.size) (i0 i1 : Int32) (j2 : Int64) (n mm : Int32) (b : Addr) (V0 : own_A Z h0 b n) (gb : n0 ≤ b) :
    ∃ (T' : State) (h' : Heap), own_W p l e s m args below meth c n0 T' h' ∧ own_A Z h' b n ∧ n0 ≤ h'.size ∧ own_Ld p e below T0 (mkF m 117 (own_LA i0 i1 j2 n mm b .unset .unset .unset .unset) []) T' (mkF m 136 (own_LA i0 i1 j2 n mm b .unset .unset .unset .unset) []) := by
  by_cases hc : (6 : Int32) < n
  · obtain ⟨T1, z, W1, st1⟩ := own_pick W0 hx hZ hw hby hml hown Z0 (q := 132) (Ls := (own_LA i0 i1 j2 n mm b .unset .unset .unset .unset)) rfl i1 j2 (6 : Int32) [(.int (6 : Int32)), (.ref b)] (Nat.le_of_ble_eq_true rfl) at_132
    obtain ⟨locs, X0, e0, N0⟩ := W0
    obtain ⟨locs1, X1, e1, N1⟩ := W1
    obtain ⟨cl, Ar, S, Hi⟩ := V0
    obtain ⟨T2, h2, X2, e2, Wr2, st2⟩ := stB X1 hx hZ e1 Ar (j := (6 : Int32)) (inb_of S ⟨by decide, hc⟩) (g := (mkF m 135 (own_LA i0 i1 j2 n mm b .unset .unset .unset .unset) [(.int z), (.int (6 : Int32)), (.ref b)])) rfl rfl (hb hby at_135)
    refine ⟨T2, h2, ⟨_, X2, e2, Fr.snoc X2 N1 gb⟩, ⟨_, Arr.same Wr2 Ar, by rw [sz_set]; exact S, own_ints_set Hi _ _⟩, Nat.le_trans Z0 (Keep.of_wr Wr2).1, fun target kt => ?_⟩
    show Steps p.tables e below (T0.setTop (mkF m 117 (own_LA i0 i1 j2 n mm b .unset .unset .unset .unset) [])) _
    refine XS.iload X0.here hx rfl (hb hby at_117) rfl ?_
    show Steps p.tables e below (T0.setTop (mkF m 119 (own_LA i0 i1 j2 n mm b .unset .unset .unset .unset) [(.int n)])) _
    refine XS.bipush X0.here hx rfl (hb hby at_119) ?_
    show Steps p.tables e below (T0.setTop (mkF m 121 (own_LA i0 i1 j2 n mm b .unset .unset .unset .unset) [(.int (6 : Int32)), (.int n)])) _
    refine XS.icmpNo X0.here hx rfl (hb hby at_121) rfl (tlt hc).2.2.2 ?_
    show Steps p.tables e below (T0.setTop (mkF m 124 (own_LA i0 i1 j2 n mm b .unset .unset .unset .unset) [])) _
    refine XS.aload X0.here hx rfl (hb hby at_124) rfl rfl ?_
    show Steps p.tables e below (T0.setTop (mkF m 126 (own_LA i0 i1 j2 n mm b .unset .unset .unset .unset) [(.ref b)])) _
    refine XS.bipush X0.here hx rfl (hb hby at_126) ?_
    show Steps p.tables e below (T0.setTop (mkF m 128 (own_LA i0 i1 j2 n mm b .unset .unset .unset .unset) [(.int (6 : Int32)), (.ref b)])) _
    refine XS.iloadN X0.here hx rfl (hb hby at_128) rfl ?_
    show Steps p.tables e below (T0.setTop (mkF m 129 (own_LA i0 i1 j2 n mm b .unset .unset .unset .unset) [(.int i1), (.int (6 : Int32)), (.ref b)])) _
    refine XS.lloadN X0.here hx rfl (hb hby at_129) rfl ?_
    show Steps p.tables e below (T0.setTop (mkF m 130 (own_LA i0 i1 j2 n mm b .unset .unset .unset .unset) [(.long j2), (.int i1), (.int (6 : Int32)), (.ref b)])) _
    refine XS.bipush X0.here hx rfl (hb hby at_130) ?_
    refine st1 _ ?_
    refine st2 _ ?_
    exact kt
  · obtain ⟨locs, X0, e0, N0⟩ := W0
    refine ⟨T0, h0, ⟨locs, X0, e0, N0⟩, V0, Z0, fun target kt => ?_⟩
    show Steps p.tables e below (T0.setTop (mkF m 117 (own_LA i0 i1 j2 n mm b .unset .unset .unset .unset) [])) _
    refine XS.iload X0.here hx rfl (hb hby at_117) rfl ?_
    show Steps p.tables e below (T0.setTop (mkF m 119 (own_LA i0 i1 j2 n mm b .unset .unset .unset .unset) [(.int n)])) _
    refine XS.bipush X0.here hx rfl (hb hby at_119) ?_
    show Steps p.tables e below (T0.setTop (mkF m 121 (own_LA i0 i1 j2 n mm b .unset .unset .unset .unset) [(.int (6 : Int32)), (.int n)])) _
    refine XS.icmpYes X0.here hx rfl (pc0 := 121) (pc' := 136) rfl (hb hby at_121) rfl (flt hc).2.2.2 (by decide) (by decide) ?_
    exact kt
set_option maxRecDepth 65536 in
set_option maxHeartbeats 40000000 in
theorem own_st7 (W0 : own_W p l e s m args below meth c n0 T0 h0) (hx : p.tables.exec = Jvm.exec) (hZ : Z.Warmed39 s.vm) (hw : ∀ d ∈ tables_1, d.before a0 Z = true) (hby : c.code = code) (hml : c.maxLocals = 11) (hown : s.vm.findClass "com/example/plinth/plinth/cli/InputFileIsXmlPinLaw" = some m.cls) (Z0 : n0 ≤ h0.size) (i0 i1 : Int32) (j2 : Int64) (n mm : Int32) (b : Addr) (V0 : own_A Z h0 b n) (gb : n0 ≤ b) :
    ∃ (T' : State) (h' : Heap), own_W p l e s m args below meth c n0 T' h' ∧ own_A Z h' b n ∧ n0 ≤ h'.size ∧ own_Ld p e below T0 (mkF m 136 (own_LA i0 i1 j2 n mm b .unset .unset .unset .unset) []) T' (mkF m 155 (own_LA i0 i1 j2 n mm b .unset .unset .unset .unset) []) := by
  by_cases hc : (7 : Int32) < n
  · obtain ⟨T1, z, W1, st1⟩ := own_pick W0 hx hZ hw hby hml hown Z0 (q := 151) (Ls := (own_LA i0 i1 j2 n mm b .unset .unset .unset .unset)) rfl i1 j2 (7 : Int32) [(.int (7 : Int32)), (.ref b)] (Nat.le_of_ble_eq_true rfl) at_151
    obtain ⟨locs, X0, e0, N0⟩ := W0
    obtain ⟨locs1, X1, e1, N1⟩ := W1
    obtain ⟨cl, Ar, S, Hi⟩ := V0
    obtain ⟨T2, h2, X2, e2, Wr2, st2⟩ := stB X1 hx hZ e1 Ar (j := (7 : Int32)) (inb_of S ⟨by decide, hc⟩) (g := (mkF m 154 (own_LA i0 i1 j2 n mm b .unset .unset .unset .unset) [(.int z), (.int (7 : Int32)), (.ref b)])) rfl rfl (hb hby at_154)
    refine ⟨T2, h2, ⟨_, X2, e2, Fr.snoc X2 N1 gb⟩, ⟨_, Arr.same Wr2 Ar, by rw [sz_set]; exact S, own_ints_set Hi _ _⟩, Nat.le_trans Z0 (Keep.of_wr Wr2).1, fun target kt => ?_⟩
    show Steps p.tables e below (T0.setTop (mkF m 136 (own_LA i0 i1 j2 n mm b .unset .unset .unset .unset) [])) _
    refine XS.iload X0.here hx rfl (hb hby at_136) rfl ?_
    show Steps p.tables e below (T0.setTop (mkF m 138 (own_LA i0 i1 j2 n mm b .unset .unset .unset .unset) [(.int n)])) _
    refine XS.bipush X0.here hx rfl (hb hby at_138) ?_
    show Steps p.tables e below (T0.setTop (mkF m 140 (own_LA i0 i1 j2 n mm b .unset .unset .unset .unset) [(.int (7 : Int32)), (.int n)])) _
    refine XS.icmpNo X0.here hx rfl (hb hby at_140) rfl (tlt hc).2.2.2 ?_
    show Steps p.tables e below (T0.setTop (mkF m 143 (own_LA i0 i1 j2 n mm b .unset .unset .unset .unset) [])) _
    refine XS.aload X0.here hx rfl (hb hby at_143) rfl rfl ?_
    show Steps p.tables e below (T0.setTop (mkF m 145 (own_LA i0 i1 j2 n mm b .unset .unset .unset .unset) [(.ref b)])) _
    refine XS.bipush X0.here hx rfl (hb hby at_145) ?_
    show Steps p.tables e below (T0.setTop (mkF m 147 (own_LA i0 i1 j2 n mm b .unset .unset .unset .unset) [(.int (7 : Int32)), (.ref b)])) _
    refine XS.iloadN X0.here hx rfl (hb hby at_147) rfl ?_
    show Steps p.tables e below (T0.setTop (mkF m 148 (own_LA i0 i1 j2 n mm b .unset .unset .unset .unset) [(.int i1), (.int (7 : Int32)), (.ref b)])) _
    refine XS.lloadN X0.here hx rfl (hb hby at_148) rfl ?_
    show Steps p.tables e below (T0.setTop (mkF m 149 (own_LA i0 i1 j2 n mm b .unset .unset .unset .unset) [(.long j2), (.int i1), (.int (7 : Int32)), (.ref b)])) _
    refine XS.bipush X0.here hx rfl (hb hby at_149) ?_
    refine st1 _ ?_
    refine st2 _ ?_
    exact kt
  · obtain ⟨locs, X0, e0, N0⟩ := W0
    refine ⟨T0, h0, ⟨locs, X0, e0, N0⟩, V0, Z0, fun target kt => ?_⟩
    show Steps p.tables e below (T0.setTop (mkF m 136 (own_LA i0 i1 j2 n mm b .unset .unset .unset .unset) [])) _
    refine XS.iload X0.here hx rfl (hb hby at_136) rfl ?_
    show Steps p.tables e below (T0.setTop (mkF m 138 (own_LA i0 i1 j2 n mm b .unset .unset .unset .unset) [(.int n)])) _
    refine XS.bipush X0.here hx rfl (hb hby at_138) ?_
    show Steps p.tables e below (T0.setTop (mkF m 140 (own_LA i0 i1 j2 n mm b .unset .unset .unset .unset) [(.int (7 : Int32)), (.int n)])) _
    refine XS.icmpYes X0.here hx rfl (pc0 := 140) (pc' := 155) rfl (hb hby at_140) rfl (flt hc).2.2.2 (by decide) (by decide) ?_
    exact kt
set_option maxRecDepth 65536 in
set_option maxHeartbeats 40000000 in
theorem own_sm0 (W0 : own_W p l e s m args below meth c n0 T0 h0) (hx : p.tables.exec = Jvm.exec) (hZ : Z.Warmed39 s.vm) (hw : ∀ d ∈ tables_1, d.before a0 Z = true) (hby : c.code = code) (hml : c.maxLocals = 11) (hown : s.vm.findClass "com/example/plinth/plinth/cli/InputFileIsXmlPinLaw" = some m.cls) (Z0 : n0 ≤ h0.size) (i0 i1 : Int32) (j2 : Int64) (n mm : Int32) (b : Addr) (V0 : own_A Z h0 b n) (gb : n0 ≤ b) :
    ∃ (T' : State) (h' : Heap), own_W p l e s m args below meth c n0 T' h' ∧ own_A Z h' b n ∧ n0 ≤ h'.size ∧ own_Ld p e below T0 (mkF m 155 (own_LA i0 i1 j2 n mm b .unset .unset .unset .unset) []) T' (mkF m 173 (own_LA i0 i1 j2 n mm b .unset .unset .unset .unset) []) := by
  obtain ⟨locs, X0, e0, N0⟩ := W0
  by_cases hc1 : mm < (1 : Int32)
  · refine ⟨T0, h0, ⟨locs, X0, e0, N0⟩, V0, Z0, fun target kt => ?_⟩
    show Steps p.tables e below (T0.setTop (mkF m 155 (own_LA i0 i1 j2 n mm b .unset .unset .unset .unset) [])) _
    refine XS.iload X0.here hx rfl (hb hby at_155) rfl ?_
    show Steps p.tables e below (T0.setTop (mkF m 157 (own_LA i0 i1 j2 n mm b .unset .unset .unset .unset) [(.int mm)])) _
    refine XS.iconst X0.here hx rfl (hb hby at_157) ?_
    show Steps p.tables e below (T0.setTop (mkF m 158 (own_LA i0 i1 j2 n mm b .unset .unset .unset .unset) [(.int (1 : Int32)), (.int mm)])) _
    refine XS.icmpYes X0.here hx rfl (pc0 := 158) (pc' := 173) rfl (hb hby at_158) rfl (tlt hc1).1 (by decide) (by decide) ?_
    exact kt
  by_cases hc2 : n < (1 : Int32)
  · refine ⟨T0, h0, ⟨locs, X0, e0, N0⟩, V0, Z0, fun target kt => ?_⟩
    show Steps p.tables e below (T0.setTop (mkF m 155 (own_LA i0 i1 j2 n mm b .unset .unset .unset .unset) [])) _
    refine XS.iload X0.here hx rfl (hb hby at_155) rfl ?_
    show Steps p.tables e below (T0.setTop (mkF m 157 (own_LA i0 i1 j2 n mm b .unset .unset .unset .unset) [(.int mm)])) _
    refine XS.iconst X0.here hx rfl (hb hby at_157) ?_
    show Steps p.tables e below (T0.setTop (mkF m 158 (own_LA i0 i1 j2 n mm b .unset .unset .unset .unset) [(.int (1 : Int32)), (.int mm)])) _
    refine XS.icmpNo X0.here hx rfl (hb hby at_158) rfl (flt hc1).1 ?_
    show Steps p.tables e below (T0.setTop (mkF m 161 (own_LA i0 i1 j2 n mm b .unset .unset .unset .unset) [])) _
    refine XS.iload X0.here hx rfl (hb hby at_161) rfl ?_
    show Steps p.tables e below (T0.setTop (mkF m 163 (own_LA i0 i1 j2 n mm b .unset .unset .unset .unset) [(.int n)])) _
    refine XS.iconst X0.here hx rfl (hb hby at_163) ?_
    show Steps p.tables e below (T0.setTop (mkF m 164 (own_LA i0 i1 j2 n mm b .unset .unset .unset .unset) [(.int (1 : Int32)), (.int n)])) _
    refine XS.icmpYes X0.here hx rfl (pc0 := 164) (pc' := 173) rfl (hb hby at_164) rfl (tlt hc2).1 (by decide) (by decide) ?_
    exact kt
  · obtain ⟨cl, Ar, S, Hi⟩ := V0
    have hc : (0 : Int32) < n := by
      rw [Int32.lt_iff_toInt_lt] at hc2 ⊢
      have a1 : ((1 : Int32)).toInt = 1 := by decide
      have a2 : ((0 : Int32)).toInt = 0 := by decide
      omega
    obtain ⟨T2, h2, X2, e2, Wr2, st2⟩ := stB X0 hx hZ e0 Ar (j := (0 : Int32)) (inb_of S ⟨by decide, hc⟩) (g := (mkF m 172 (own_LA i0 i1 j2 n mm b .unset .unset .unset .unset) [(.int (-17 : Int32)), (.int (0 : Int32)), (.ref b)])) rfl rfl (hb hby at_172)
    refine ⟨T2, h2, ⟨_, X2, e2, Fr.snoc X2 N0 gb⟩, ⟨_, Arr.same Wr2 Ar, by rw [sz_set]; exact S, own_ints_set Hi _ _⟩, Nat.le_trans Z0 (Keep.of_wr Wr2).1, fun target kt => ?_⟩
    show Steps p.tables e below (T0.setTop (mkF m 155 (own_LA i0 i1 j2 n mm b .unset .unset .unset .unset) [])) _
    refine XS.iload X0.here hx rfl (hb hby at_155) rfl ?_
    show Steps p.tables e below (T0.setTop (mkF m 157 (own_LA i0 i1 j2 n mm b .unset .unset .unset .unset) [(.int mm)])) _
    refine XS.iconst X0.here hx rfl (hb hby at_157) ?_
    show Steps p.tables e below (T0.setTop (mkF m 158 (own_LA i0 i1 j2 n mm b .unset .unset .unset .unset) [(.int (1 : Int32)), (.int mm)])) _
    refine XS.icmpNo X0.here hx rfl (hb hby at_158) rfl (flt hc1).1 ?_
    show Steps p.tables e below (T0.setTop (mkF m 161 (own_LA i0 i1 j2 n mm b .unset .unset .unset .unset) [])) _
    refine XS.iload X0.here hx rfl (hb hby at_161) rfl ?_
    show Steps p.tables e below (T0.setTop (mkF m 163 (own_LA i0 i1 j2 n mm b .unset .unset .unset .unset) [(.int n)])) _
    refine XS.iconst X0.here hx rfl (hb hby at_163) ?_
    show Steps p.tables e below (T0.setTop (mkF m 164 (own_LA i0 i1 j2 n mm b .unset .unset .unset .unset) [(.int (1 : Int32)), (.int n)])) _
    refine XS.icmpNo X0.here hx rfl (hb hby at_164) rfl (flt hc2).1 ?_
    show Steps p.tables e below (T0.setTop (mkF m 167 (own_LA i0 i1 j2 n mm b .unset .unset .unset .unset) [])) _
    refine XS.aload X0.here hx rfl (hb hby at_167) rfl rfl ?_
    show Steps p.tables e below (T0.setTop (mkF m 169 (own_LA i0 i1 j2 n mm b .unset .unset .unset .unset) [(.ref b)])) _
    refine XS.iconst X0.here hx rfl (hb hby at_169) ?_
    show Steps p.tables e below (T0.setTop (mkF m 170 (own_LA i0 i1 j2 n mm b .unset .unset .unset .unset) [(.int (0 : Int32)), (.ref b)])) _
    refine XS.bipush X0.here hx rfl (hb hby at_170) ?_
    refine st2 _ ?_
    exact kt
set_option maxRecDepth 65536 in
set_option maxHeartbeats 40000000 in
theorem own_sm1 (W0 : own_W p l e s m args below meth c n0 T0 h0) (hx : p.tables.exec = Jvm.exec) (hZ : Z.Warmed39 s.vm) (hw : ∀ d ∈ tables_1, d.before a0 Z = true) (hby : c.code = code) (hml : c.maxLocals = 11) (hown : s.vm.findClass "com/example/plinth/plinth/cli/InputFileIsXmlPinLaw" = some m.cls) (Z0 : n0 ≤ h0.size) (i0 i1 : Int32) (j2 : Int64) (n mm : Int32) (b : Addr) (V0 : own_A Z h0 b n) (gb : n0 ≤ b) :
    ∃ (T' : State) (h' : Heap), own_W p l e s m args below meth c n0 T' h' ∧ own_A Z h' b n ∧ n0 ≤ h'.size ∧ own_Ld p e below T0 (mkF m 173 (own_LA i0 i1 j2 n mm b .unset .unset .unset .unset) []) T' (mkF m 191 (own_LA i0 i1 j2 n mm b .unset .unset .unset .unset) []) := by
  obtain ⟨locs, X0, e0, N0⟩ := W0
  by_cases hc1 : mm < (2 : Int32)
  · refine ⟨T0, h0, ⟨locs, X0, e0, N0⟩, V0, Z0, fun target kt => ?_⟩
    show Steps p.tables e below (T0.setTop (mkF m 173 (own_LA i0 i1 j2 n mm b .unset .unset .unset .unset) [])) _
    refine XS.iload X0.here hx rfl (hb hby at_173) rfl ?_
    show Steps p.tables e below (T0.setTop (mkF m 175 (own_LA i0 i1 j2 n mm b .unset .unset .unset .unset) [(.int mm)])) _
    refine XS.iconst X0.here hx rfl (hb hby at_175) ?_
    show Steps p.tables e below (T0.setTop (mkF m 176 (own_LA i0 i1 j2 n mm b .unset .unset .unset .unset) [(.int (2 : Int32)), (.int mm)])) _
    refine XS.icmpYes X0.here hx rfl (pc0 := 176) (pc' := 191) rfl (hb hby at_176) rfl (tlt hc1).1 (by decide) (by decide) ?_
    exact kt
  by_cases hc2 : n < (2 : Int32)
  · refine ⟨T0, h0, ⟨locs, X0, e0, N0⟩, V0, Z0, fun target kt => ?_⟩
    show Steps p.tables e below (T0.setTop (mkF m 173 (own_LA i0 i1 j2 n mm b .unset .unset .unset .unset) [])) _
    refine XS.iload X0.here hx rfl (hb hby at_173) rfl ?_
    show Steps p.tables e below (T0.setTop (mkF m 175 (own_LA i0 i1 j2 n mm b .unset .unset .unset .unset) [(.int mm)])) _
    refine XS.iconst X0.here hx rfl (hb hby at_175) ?_
    show Steps p.tables e below (T0.setTop (mkF m 176 (own_LA i0 i1 j2 n mm b .unset .unset .unset .unset) [(.int (2 : Int32)), (.int mm)])) _
    refine XS.icmpNo X0.here hx rfl (hb hby at_176) rfl (flt hc1).1 ?_
    show Steps p.tables e below (T0.setTop (mkF m 179 (own_LA i0 i1 j2 n mm b .unset .unset .unset .unset) [])) _
    refine XS.iload X0.here hx rfl (hb hby at_179) rfl ?_
    show Steps p.tables e below (T0.setTop (mkF m 181 (own_LA i0 i1 j2 n mm b .unset .unset .unset .unset) [(.int n)])) _
    refine XS.iconst X0.here hx rfl (hb hby at_181) ?_
    show Steps p.tables e below (T0.setTop (mkF m 182 (own_LA i0 i1 j2 n mm b .unset .unset .unset .unset) [(.int (2 : Int32)), (.int n)])) _
    refine XS.icmpYes X0.here hx rfl (pc0 := 182) (pc' := 191) rfl (hb hby at_182) rfl (tlt hc2).1 (by decide) (by decide) ?_
    exact kt
  · obtain ⟨cl, Ar, S, Hi⟩ := V0
    have hc : (1 : Int32) < n := by
      rw [Int32.lt_iff_toInt_lt] at hc2 ⊢
      have a1 : ((2 : Int32)).toInt = 2 := by decide
      have a2 : ((1 : Int32)).toInt = 1 := by decide
      omega
    obtain ⟨T2, h2, X2, e2, Wr2, st2⟩ := stB X0 hx hZ e0 Ar (j := (1 : Int32)) (inb_of S ⟨by decide, hc⟩) (g := (mkF m 190 (own_LA i0 i1 j2 n mm b .unset .unset .unset .unset) [(.int (-69 : Int32)), (.int (1 : Int32)), (.ref b)])) rfl rfl (hb hby at_190)
    refine ⟨T2, h2, ⟨_, X2, e2, Fr.snoc X2 N0 gb⟩, ⟨_, Arr.same Wr2 Ar, by rw [sz_set]; exact S, own_ints_set Hi _ _⟩, Nat.le_trans Z0 (Keep.of_wr Wr2).1, fun target kt => ?_⟩
    show Steps p.tables e below (T0.setTop (mkF m 173 (own_LA i0 i1 j2 n mm b .unset .unset .unset .unset) [])) _
    refine XS.iload X0.here hx rfl (hb hby at_173) rfl ?_
    show Steps p.tables e below (T0.setTop (mkF m 175 (own_LA i0 i1 j2 n mm b .unset .unset .unset .unset) [(.int mm)])) _
    refine XS.iconst X0.here hx rfl (hb hby at_175) ?_
    show Steps p.tables e below (T0.setTop (mkF m 176 (own_LA i0 i1 j2 n mm b .unset .unset .unset .unset) [(.int (2 : Int32)), (.int mm)])) _
    refine XS.icmpNo X0.here hx rfl (hb hby at_176) rfl (flt hc1).1 ?_
    show Steps p.tables e below (T0.setTop (mkF m 179 (own_LA i0 i1 j2 n mm b .unset .unset .unset .unset) [])) _
    refine XS.iload X0.here hx rfl (hb hby at_179) rfl ?_
    show Steps p.tables e below (T0.setTop (mkF m 181 (own_LA i0 i1 j2 n mm b .unset .unset .unset .unset) [(.int n)])) _
    refine XS.iconst X0.here hx rfl (hb hby at_181) ?_
    show Steps p.tables e below (T0.setTop (mkF m 182 (own_LA i0 i1 j2 n mm b .unset .unset .unset .unset) [(.int (2 : Int32)), (.int n)])) _
    refine XS.icmpNo X0.here hx rfl (hb hby at_182) rfl (flt hc2).1 ?_
    show Steps p.tables e below (T0.setTop (mkF m 185 (own_LA i0 i1 j2 n mm b .unset .unset .unset .unset) [])) _
    refine XS.aload X0.here hx rfl (hb hby at_185) rfl rfl ?_
    show Steps p.tables e below (T0.setTop (mkF m 187 (own_LA i0 i1 j2 n mm b .unset .unset .unset .unset) [(.ref b)])) _
    refine XS.iconst X0.here hx rfl (hb hby at_187) ?_
    show Steps p.tables e below (T0.setTop (mkF m 188 (own_LA i0 i1 j2 n mm b .unset .unset .unset .unset) [(.int (1 : Int32)), (.ref b)])) _
    refine XS.bipush X0.here hx rfl (hb hby at_188) ?_
    refine st2 _ ?_
    exact kt
set_option maxRecDepth 65536 in
set_option maxHeartbeats 40000000 in
theorem own_sm2 (W0 : own_W p l e s m args below meth c n0 T0 h0) (hx : p.tables.exec = Jvm.exec) (hZ : Z.Warmed39 s.vm) (hw : ∀ d ∈ tables_1, d.before a0 Z = true) (hby : c.code = code) (hml : c.maxLocals = 11) (hown : s.vm.findClass "com/example/plinth/plinth/cli/InputFileIsXmlPinLaw" = some m.cls) (Z0 : n0 ≤ h0.size) (i0 i1 : Int32) (j2 : Int64) (n mm : Int32) (b : Addr) (V0 : own_A Z h0 b n) (gb : n0 ≤ b) :
    ∃ (T' : State) (h' : Heap), own_W p l e s m args below meth c n0 T' h' ∧ own_A Z h' b n ∧ n0 ≤ h'.size ∧ own_Ld p e below T0 (mkF m 191 (own_LA i0 i1 j2 n mm b .unset .unset .unset .unset) []) T' (mkF m 209 (own_LA i0 i1 j2 n mm b .unset .unset .unset .unset) []) := by
  obtain ⟨locs, X0, e0, N0⟩ := W0
  by_cases hc1 : mm < (3 : Int32)
  · refine ⟨T0, h0, ⟨locs, X0, e0, N0⟩, V0, Z0, fun target kt => ?_⟩
    show Steps p.tables e below (T0.setTop (mkF m 191 (own_LA i0 i1 j2 n mm b .unset .unset .unset .unset) [])) _
    refine XS.iload X0.here hx rfl (hb hby at_191) rfl ?_
    show Steps p.tables e below (T0.setTop (mkF m 193 (own_LA i0 i1 j2 n mm b .unset .unset .unset .unset) [(.int mm)])) _
    refine XS.iconst X0.here hx rfl (hb hby at_193) ?_
    show Steps p.tables e below (T0.setTop (mkF m 194 (own_LA i0 i1 j2 n mm b .unset .unset .unset .unset) [(.int (3 : Int32)), (.int mm)])) _
    refine XS.icmpYes X0.here hx rfl (pc0 := 194) (pc' := 209) rfl (hb hby at_194) rfl (tlt hc1).1 (by decide) (by decide) ?_
    exact kt
  by_cases hc2 : n < (3 : Int32)
  · refine ⟨T0, h0, ⟨locs, X0, e0, N0⟩, V0, Z0, fun target kt => ?_⟩
    show Steps p.tables e below (T0.setTop (mkF m 191 (own_LA i0 i1 j2 n mm b .unset .unset .unset .unset) [])) _
    refine XS.iload X0.here hx rfl (hb hby at_191) rfl ?_
    show Steps p.tables e below (T0.setTop (mkF m 193 (own_LA i0 i1 j2 n mm b .unset .unset .unset .unset) [(.int mm)])) _
    refine XS.iconst X0.here hx rfl (hb hby at_193) ?_
    show Steps p.tables e below (T0.setTop (mkF m 194 (own_LA i0 i1 j2 n mm b .unset .unset .unset .unset) [(.int (3 : Int32)), (.int mm)])) _
    refine XS.icmpNo X0.here hx rfl (hb hby at_194) rfl (flt hc1).1 ?_
    show Steps p.tables e below (T0.setTop (mkF m 197 (own_LA i0 i1 j2 n mm b .unset .unset .unset .unset) [])) _
    refine XS.iload X0.here hx rfl (hb hby at_197) rfl ?_
    show Steps p.tables e below (T0.setTop (mkF m 199 (own_LA i0 i1 j2 n mm b .unset .unset .unset .unset) [(.int n)])) _
    refine XS.iconst X0.here hx rfl (hb hby at_199) ?_
    show Steps p.tables e below (T0.setTop (mkF m 200 (own_LA i0 i1 j2 n mm b .unset .unset .unset .unset) [(.int (3 : Int32)), (.int n)])) _
    refine XS.icmpYes X0.here hx rfl (pc0 := 200) (pc' := 209) rfl (hb hby at_200) rfl (tlt hc2).1 (by decide) (by decide) ?_
    exact kt
  · obtain ⟨cl, Ar, S, Hi⟩ := V0
    have hc : (2 : Int32) < n := by
      rw [Int32.lt_iff_toInt_lt] at hc2 ⊢
      have a1 : ((3 : Int32)).toInt = 3 := by decide
      have a2 : ((2 : Int32)).toInt = 2 := by decide
      omega
    obtain ⟨T2, h2, X2, e2, Wr2, st2⟩ := stB X0 hx hZ e0 Ar (j := (2 : Int32)) (inb_of S ⟨by decide, hc⟩) (g := (mkF m 208 (own_LA i0 i1 j2 n mm b .unset .unset .unset .unset) [(.int (-65 : Int32)), (.int (2 : Int32)), (.ref b)])) rfl rfl (hb hby at_208)
    refine ⟨T2, h2, ⟨_, X2, e2, Fr.snoc X2 N0 gb⟩, ⟨_, Arr.same Wr2 Ar, by rw [sz_set]; exact S, own_ints_set Hi _ _⟩, Nat.le_trans Z0 (Keep.of_wr Wr2).1, fun target kt => ?_⟩
    show Steps p.tables e below (T0.setTop (mkF m 191 (own_LA i0 i1 j2 n mm b .unset .unset .unset .unset) [])) _
    refine XS.iload X0.here hx rfl (hb hby at_191) rfl ?_
    show Steps p.tables e below (T0.setTop (mkF m 193 (own_LA i0 i1 j2 n mm b .unset .unset .unset .unset) [(.int mm)])) _
    refine XS.iconst X0.here hx rfl (hb hby at_193) ?_
    show Steps p.tables e below (T0.setTop (mkF m 194 (own_LA i0 i1 j2 n mm b .unset .unset .unset .unset) [(.int (3 : Int32)), (.int mm)])) _
    refine XS.icmpNo X0.here hx rfl (hb hby at_194) rfl (flt hc1).1 ?_
    show Steps p.tables e below (T0.setTop (mkF m 197 (own_LA i0 i1 j2 n mm b .unset .unset .unset .unset) [])) _
    refine XS.iload X0.here hx rfl (hb hby at_197) rfl ?_
    show Steps p.tables e below (T0.setTop (mkF m 199 (own_LA i0 i1 j2 n mm b .unset .unset .unset .unset) [(.int n)])) _
    refine XS.iconst X0.here hx rfl (hb hby at_199) ?_
    show Steps p.tables e below (T0.setTop (mkF m 200 (own_LA i0 i1 j2 n mm b .unset .unset .unset .unset) [(.int (3 : Int32)), (.int n)])) _
    refine XS.icmpNo X0.here hx rfl (hb hby at_200) rfl (flt hc2).1 ?_
    show Steps p.tables e below (T0.setTop (mkF m 203 (own_LA i0 i1 j2 n mm b .unset .unset .unset .unset) [])) _
    refine XS.aload X0.here hx rfl (hb hby at_203) rfl rfl ?_
    show Steps p.tables e below (T0.setTop (mkF m 205 (own_LA i0 i1 j2 n mm b .unset .unset .unset .unset) [(.ref b)])) _
    refine XS.iconst X0.here hx rfl (hb hby at_205) ?_
    show Steps p.tables e below (T0.setTop (mkF m 206 (own_LA i0 i1 j2 n mm b .unset .unset .unset .unset) [(.int (2 : Int32)), (.ref b)])) _
    refine XS.bipush X0.here hx rfl (hb hby at_206) ?_
    refine st2 _ ?_
    exact kt
set_option maxRecDepth 65536 in
set_option maxHeartbeats 40000000 in
theorem own_mark (W0 : own_W p l e s m args below meth c n0 T0 h0) (hx : p.tables.exec = Jvm.exec) (hZ : Z.Warmed39 s.vm) (hw : ∀ d ∈ tables_1, d.before a0 Z = true) (hby : c.code = code) (hml : c.maxLocals = 11) (hown : s.vm.findClass "com/example/plinth/plinth/cli/InputFileIsXmlPinLaw" = some m.cls) (Z0 : n0 ≤ h0.size) (i0 i1 : Int32) (j2 : Int64) (n mm : Int32) (b : Addr) (r7 : Int32) (cl : Cell) (Ar : Arr Z h0 b cl .byte) (Hi : own_ints cl) (hsz : cl.slots.size ≤ 8) :
    ∃ (T' : State), own_W p l e s m args below meth c n0 T' h0 ∧ own_Ld p e below T0 (mkF m 216 (own_LA i0 i1 j2 n mm b (.val (.int r7)) .unset .unset .unset) []) T' (mkF m 254 (own_LA i0 i1 j2 n mm b (.val (.int r7)) .unset .unset .unset) [(.int (own_bom (own_g cl)).toInt32)]) := by
  obtain ⟨T1, W1, st1⟩ := own_at W0 hx hZ hw hby hml hown Z0 (q := 219) (Ls := (own_LA i0 i1 j2 n mm b (.val (.int r7)) .unset .unset .unset)) rfl b cl 0 Ar Hi hsz (by decide) [] (Nat.le_of_ble_eq_true rfl) at_219
  obtain ⟨T2, W2, st2⟩ := own_at W1 hx hZ hw hby hml hown Z0 (q := 230) (Ls := (own_LA i0 i1 j2 n mm b (.val (.int r7)) .unset .unset .unset)) rfl b cl 1 Ar Hi hsz (by decide) [] (Nat.le_of_ble_eq_true rfl) at_230
  obtain ⟨T3, W3, st3⟩ := own_at W2 hx hZ hw hby hml hown Z0 (q := 241) (Ls := (own_LA i0 i1 j2 n mm b (.val (.int r7)) .unset .unset .unset)) rfl b cl 2 Ar Hi hsz (by decide) [] (Nat.le_of_ble_eq_true rfl) at_241
  have W1' := W1
  have W2' := W2
  have W3' := W3
  obtain ⟨locs, X0, e0, N0⟩ := W0
  obtain ⟨locs1, X1, e1, N1⟩ := W1'
  obtain ⟨locs2, X2, e2, N2⟩ := W2'
  obtain ⟨locs3, X3, e3, N3⟩ := W3'
  by_cases hq0 : own_g cl 0 = (-17 : Int32)
  rotate_left
  · have eb : own_bom (own_g cl) = 0 := by simp [own_bom, hq0]
    rw [eb]
    refine ⟨T1, W1, fun target kt => ?_⟩
    show Steps p.tables e below (T0.setTop (mkF m 216 (own_LA i0 i1 j2 n mm b (.val (.int r7)) .unset .unset .unset) [])) _
    refine XS.aload X0.here hx rfl (hb hby at_216) rfl rfl ?_
    show Steps p.tables e below (T0.setTop (mkF m 218 (own_LA i0 i1 j2 n mm b (.val (.int r7)) .unset .unset .unset) [(.ref b)])) _
    refine XS.iconst X0.here hx rfl (hb hby at_218) ?_
    show Steps p.tables e below (T0.setTop (mkF m 219 (own_LA i0 i1 j2 n mm b (.val (.int r7)) .unset .unset .unset) [(.int (0 : Int32)), (.ref b)])) _
    refine st1 _ ?_
    show Steps p.tables e below (T1.setTop (mkF m 222 (own_LA i0 i1 j2 n mm b (.val (.int r7)) .unset .unset .unset) [(.int (own_g cl 0))])) _
    refine XS.bipush X1.here hx rfl (hb hby at_222) ?_
    show Steps p.tables e below (T1.setTop (mkF m 224 (own_LA i0 i1 j2 n mm b (.val (.int r7)) .unset .unset .unset) [(.int (-17 : Int32)), (.int (own_g cl 0))])) _
    refine XS.icmpYes X1.here hx rfl (pc0 := 224) (pc' := 253) rfl (hb hby at_224) rfl (feq hq0).2 (by decide) (by decide) ?_
    show Steps p.tables e below (T1.setTop (mkF m 253 (own_LA i0 i1 j2 n mm b (.val (.int r7)) .unset .unset .unset) [])) _
    refine XS.iconst X1.here hx rfl (hb hby at_253) ?_
    exact kt
  by_cases hq1 : own_g cl 1 = (-69 : Int32)
  rotate_left
  · have eb : own_bom (own_g cl) = 0 := by simp [own_bom, hq0, hq1]
    rw [eb]
    refine ⟨T2, W2, fun target kt => ?_⟩
    show Steps p.tables e below (T0.setTop (mkF m 216 (own_LA i0 i1 j2 n mm b (.val (.int r7)) .unset .unset .unset) [])) _
    refine XS.aload X0.here hx rfl (hb hby at_216) rfl rfl ?_
    show Steps p.tables e below (T0.setTop (mkF m 218 (own_LA i0 i1 j2 n mm b (.val (.int r7)) .unset .unset .unset) [(.ref b)])) _
    refine XS.iconst X0.here hx rfl (hb hby at_218) ?_
    show Steps p.tables e below (T0.setTop (mkF m 219 (own_LA i0 i1 j2 n mm b (.val (.int r7)) .unset .unset .unset) [(.int (0 : Int32)), (.ref b)])) _
    refine st1 _ ?_
    show Steps p.tables e below (T1.setTop (mkF m 222 (own_LA i0 i1 j2 n mm b (.val (.int r7)) .unset .unset .unset) [(.int (own_g cl 0))])) _
    refine XS.bipush X1.here hx rfl (hb hby at_222) ?_
    show Steps p.tables e below (T1.setTop (mkF m 224 (own_LA i0 i1 j2 n mm b (.val (.int r7)) .unset .unset .unset) [(.int (-17 : Int32)), (.int (own_g cl 0))])) _
    refine XS.icmpNo X1.here hx rfl (hb hby at_224) rfl (teq hq0).2 ?_
    show Steps p.tables e below (T1.setTop (mkF m 227 (own_LA i0 i1 j2 n mm b (.val (.int r7)) .unset .unset .unset) [])) _
    refine XS.aload X1.here hx rfl (hb hby at_227) rfl rfl ?_
    show Steps p.tables e below (T1.setTop (mkF m 229 (own_LA i0 i1 j2 n mm b (.val (.int r7)) .unset .unset .unset) [(.ref b)])) _
    refine XS.iconst X1.here hx rfl (hb hby at_229) ?_
    show Steps p.tables e below (T1.setTop (mkF m 230 (own_LA i0 i1 j2 n mm b (.val (.int r7)) .unset .unset .unset) [(.int (1 : Int32)), (.ref b)])) _
    refine st2 _ ?_
    show Steps p.tables e below (T2.setTop (mkF m 233 (own_LA i0 i1 j2 n mm b (.val (.int r7)) .unset .unset .unset) [(.int (own_g cl 1))])) _
    refine XS.bipush X2.here hx rfl (hb hby at_233) ?_
    show Steps p.tables e below (T2.setTop (mkF m 235 (own_LA i0 i1 j2 n mm b (.val (.int r7)) .unset .unset .unset) [(.int (-69 : Int32)), (.int (own_g cl 1))])) _
    refine XS.icmpYes X2.here hx rfl (pc0 := 235) (pc' := 253) rfl (hb hby at_235) rfl (feq hq1).2 (by decide) (by decide) ?_
    show Steps p.tables e below (T2.setTop (mkF m 253 (own_LA i0 i1 j2 n mm b (.val (.int r7)) .unset .unset .unset) [])) _
    refine XS.iconst X2.here hx rfl (hb hby at_253) ?_
    exact kt
  by_cases hq2 : own_g cl 2 = (-65 : Int32)
  rotate_left
  · have eb : own_bom (own_g cl) = 0 := by simp [own_bom, hq0, hq1, hq2]
    rw [eb]
    refine ⟨T3, W3, fun target kt => ?_⟩
    show Steps p.tables e below (T0.setTop (mkF m 216 (own_LA i0 i1 j2 n mm b (.val (.int r7)) .unset .unset .unset) [])) _
    refine XS.aload X0.here hx rfl (hb hby at_216) rfl rfl ?_
    show Steps p.tables e below (T0.setTop (mkF m 218 (own_LA i0 i1 j2 n mm b (.val (.int r7)) .unset .unset .unset) [(.ref b)])) _
    refine XS.iconst X0.here hx rfl (hb hby at_218) ?_
    show Steps p.tables e below (T0.setTop (mkF m 219 (own_LA i0 i1 j2 n mm b (.val (.int r7)) .unset .unset .unset) [(.int (0 : Int32)), (.ref b)])) _
    refine st1 _ ?_
    show Steps p.tables e below (T1.setTop (mkF m 222 (own_LA i0 i1 j2 n mm b (.val (.int r7)) .unset .unset .unset) [(.int (own_g cl 0))])) _
    refine XS.bipush X1.here hx rfl (hb hby at_222) ?_
    show Steps p.tables e below (T1.setTop (mkF m 224 (own_LA i0 i1 j2 n mm b (.val (.int r7)) .unset .unset .unset) [(.int (-17 : Int32)), (.int (own_g cl 0))])) _
    refine XS.icmpNo X1.here hx rfl (hb hby at_224) rfl (teq hq0).2 ?_
    show Steps p.tables e below (T1.setTop (mkF m 227 (own_LA i0 i1 j2 n mm b (.val (.int r7)) .unset .unset .unset) [])) _
    refine XS.aload X1.here hx rfl (hb hby at_227) rfl rfl ?_
    show Steps p.tables e below (T1.setTop (mkF m 229 (own_LA i0 i1 j2 n mm b (.val (.int r7)) .unset .unset .unset) [(.ref b)])) _
    refine XS.iconst X1.here hx rfl (hb hby at_229) ?_
    show Steps p.tables e below (T1.setTop (mkF m 230 (own_LA i0 i1 j2 n mm b (.val (.int r7)) .unset .unset .unset) [(.int (1 : Int32)), (.ref b)])) _
    refine st2 _ ?_
    show Steps p.tables e below (T2.setTop (mkF m 233 (own_LA i0 i1 j2 n mm b (.val (.int r7)) .unset .unset .unset) [(.int (own_g cl 1))])) _
    refine XS.bipush X2.here hx rfl (hb hby at_233) ?_
    show Steps p.tables e below (T2.setTop (mkF m 235 (own_LA i0 i1 j2 n mm b (.val (.int r7)) .unset .unset .unset) [(.int (-69 : Int32)), (.int (own_g cl 1))])) _
    refine XS.icmpNo X2.here hx rfl (hb hby at_235) rfl (teq hq1).2 ?_
    show Steps p.tables e below (T2.setTop (mkF m 238 (own_LA i0 i1 j2 n mm b (.val (.int r7)) .unset .unset .unset) [])) _
    refine XS.aload X2.here hx rfl (hb hby at_238) rfl rfl ?_
    show Steps p.tables e below (T2.setTop (mkF m 240 (own_LA i0 i1 j2 n mm b (.val (.int r7)) .unset .unset .unset) [(.ref b)])) _
    refine XS.iconst X2.here hx rfl (hb hby at_240) ?_
    show Steps p.tables e below (T2.setTop (mkF m 241 (own_LA i0 i1 j2 n mm b (.val (.int r7)) .unset .unset .unset) [(.int (2 : Int32)), (.ref b)])) _
    refine st3 _ ?_
    show Steps p.tables e below (T3.setTop (mkF m 244 (own_LA i0 i1 j2 n mm b (.val (.int r7)) .unset .unset .unset) [(.int (own_g cl 2))])) _
    refine XS.bipush X3.here hx rfl (hb hby at_244) ?_
    show Steps p.tables e below (T3.setTop (mkF m 246 (own_LA i0 i1 j2 n mm b (.val (.int r7)) .unset .unset .unset) [(.int (-65 : Int32)), (.int (own_g cl 2))])) _
    refine XS.icmpYes X3.here hx rfl (pc0 := 246) (pc' := 253) rfl (hb hby at_246) rfl (feq hq2).2 (by decide) (by decide) ?_
    show Steps p.tables e below (T3.setTop (mkF m 253 (own_LA i0 i1 j2 n mm b (.val (.int r7)) .unset .unset .unset) [])) _
    refine XS.iconst X3.here hx rfl (hb hby at_253) ?_
    exact kt
  have eb : own_bom (own_g cl) = 3 := by simp [own_bom, hq0, hq1, hq2]
  rw [eb]
  refine ⟨T3, W3, fun target kt => ?_⟩
  show Steps p.tables e below (T0.setTop (mkF m 216 (own_LA i0 i1 j2 n mm b (.val (.int r7)) .unset .unset .unset) [])) _
  refine XS.aload X0.here hx rfl (hb hby at_216) rfl rfl ?_
  show Steps p.tables e below (T0.setTop (mkF m 218 (own_LA i0 i1 j2 n mm b (.val (.int r7)) .unset .unset .unset) [(.ref b)])) _
  refine XS.iconst X0.here hx rfl (hb hby at_218) ?_
  show Steps p.tables e below (T0.setTop (mkF m 219 (own_LA i0 i1 j2 n mm b (.val (.int r7)) .unset .unset .unset) [(.int (0 : Int32)), (.ref b)])) _
  refine st1 _ ?_
  show Steps p.tables e below (T1.setTop (mkF m 222 (own_LA i0 i1 j2 n mm b (.val (.int r7)) .unset .unset .unset) [(.int (own_g cl 0))])) _
  refine XS.bipush X1.here hx rfl (hb hby at_222) ?_
  show Steps p.tables e below (T1.setTop (mkF m 224 (own_LA i0 i1 j2 n mm b (.val (.int r7)) .unset .unset .unset) [(.int (-17 : Int32)), (.int (own_g cl 0))])) _
  refine XS.icmpNo X1.here hx rfl (hb hby at_224) rfl (teq hq0).2 ?_
  show Steps p.tables e below (T1.setTop (mkF m 227 (own_LA i0 i1 j2 n mm b (.val (.int r7)) .unset .unset .unset) [])) _
  refine XS.aload X1.here hx rfl (hb hby at_227) rfl rfl ?_
  show Steps p.tables e below (T1.setTop (mkF m 229 (own_LA i0 i1 j2 n mm b (.val (.int r7)) .unset .unset .unset) [(.ref b)])) _
  refine XS.iconst X1.here hx rfl (hb hby at_229) ?_
  show Steps p.tables e below (T1.setTop (mkF m 230 (own_LA i0 i1 j2 n mm b (.val (.int r7)) .unset .unset .unset) [(.int (1 : Int32)), (.ref b)])) _
  refine st2 _ ?_
  show Steps p.tables e below (T2.setTop (mkF m 233 (own_LA i0 i1 j2 n mm b (.val (.int r7)) .unset .unset .unset) [(.int (own_g cl 1))])) _
  refine XS.bipush X2.here hx rfl (hb hby at_233) ?_
  show Steps p.tables e below (T2.setTop (mkF m 235 (own_LA i0 i1 j2 n mm b (.val (.int r7)) .unset .unset .unset) [(.int (-69 : Int32)), (.int (own_g cl 1))])) _
  refine XS.icmpNo X2.here hx rfl (hb hby at_235) rfl (teq hq1).2 ?_
  show Steps p.tables e below (T2.setTop (mkF m 238 (own_LA i0 i1 j2 n mm b (.val (.int r7)) .unset .unset .unset) [])) _
  refine XS.aload X2.here hx rfl (hb hby at_238) rfl rfl ?_
  show Steps p.tables e below (T2.setTop (mkF m 240 (own_LA i0 i1 j2 n mm b (.val (.int r7)) .unset .unset .unset) [(.ref b)])) _
  refine XS.iconst X2.here hx rfl (hb hby at_240) ?_
  show Steps p.tables e below (T2.setTop (mkF m 241 (own_LA i0 i1 j2 n mm b (.val (.int r7)) .unset .unset .unset) [(.int (2 : Int32)), (.ref b)])) _
  refine st3 _ ?_
  show Steps p.tables e below (T3.setTop (mkF m 244 (own_LA i0 i1 j2 n mm b (.val (.int r7)) .unset .unset .unset) [(.int (own_g cl 2))])) _
  refine XS.bipush X3.here hx rfl (hb hby at_244) ?_
  show Steps p.tables e below (T3.setTop (mkF m 246 (own_LA i0 i1 j2 n mm b (.val (.int r7)) .unset .unset .unset) [(.int (-65 : Int32)), (.int (own_g cl 2))])) _
  refine XS.icmpNo X3.here hx rfl (hb hby at_246) rfl (teq hq2).2 ?_
  show Steps p.tables e below (T3.setTop (mkF m 249 (own_LA i0 i1 j2 n mm b (.val (.int r7)) .unset .unset .unset) [])) _
  refine XS.iconst X3.here hx rfl (hb hby at_249) ?_
  show Steps p.tables e below (T3.setTop (mkF m 250 (own_LA i0 i1 j2 n mm b (.val (.int r7)) .unset .unset .unset) [(.int (3 : Int32))])) _
  refine XS.goto X3.here hx rfl (pc0 := 250) (pc' := 254) rfl (hb hby at_250) (by decide) (by decide) ?_
  exact kt
set_option maxRecDepth 65536 in
set_option maxHeartbeats 40000000 in
theorem own_rd0 (W0 : own_W p l e s m args below meth c n0 T0 h0) (hx : p.tables.exec = Jvm.exec) (hZ : Z.Warmed39 s.vm) (hw : ∀ d ∈ tables_1, d.before a0 Z = true) (hby : c.code = code) (hml : c.maxLocals = 11) (hown : s.vm.findClass "com/example/plinth/plinth/cli/InputFileIsXmlPinLaw" = some m.cls) (Z0 : n0 ≤ h0.size) (i0 i1 : Int32) (j2 : Int64) (n mm : Int32) (b : Addr) (r7 : Int32) (cl : Cell) (Ar : Arr Z h0 b cl .byte) (Hi : own_ints cl) (hsz : cl.slots.size ≤ 8) (sb : Nat) (hsb : sb ≤ 3) (r w : Int32) :
    ∃ (T' : State), own_W p l e s m args below meth c n0 T' h0 ∧ own_Ld p e below T0 (mkF m 262 (own_LA i0 i1 j2 n mm b (.val (.int r7)) (.val (.int sb.toInt32)) (.val (.int r)) (.val (.int w))) []) T' (mkF m 304 (own_LA i0 i1 j2 n mm b (.val (.int r7)) (.val (.int sb.toInt32)) (.val (.int (own_r (own_g cl) r w (sb + 0)))) (.val (.int (own_w (own_g cl) w (sb + 0))))) []) := by
  have hj : sb.toInt32 + (0 : Int32) = (sb + 0).toInt32 := (Int32.ofNat_add sb 0).symm
  by_cases hw0 : w = (0 : Int32)
  · have er : (own_r (own_g cl) r w (sb + 0)) = (r ||| (0 : Int32)) := by unfold own_r; rw [if_neg (fun q => q.1 hw0)]
    have ewn : (own_w (own_g cl) w (sb + 0)) = (w &&& own_ws (own_g cl (sb + 0))) := rfl
    rw [er, ewn]
    obtain ⟨T2, W2, st2⟩ := own_at W0 hx hZ hw hby hml hown Z0 (q := 295) (Ls := (own_LA i0 i1 j2 n mm b (.val (.int r7)) (.val (.int sb.toInt32)) (.val (.int (r ||| (0 : Int32)))) (.val (.int w)))) rfl b cl (sb + 0) Ar Hi hsz (by omega) [(.int w)] (Nat.le_of_ble_eq_true rfl) at_295
    obtain ⟨T3, W3, st3⟩ := own_isWs W2 hx hZ hw hby hml hown Z0 (q := 298) (Ls := (own_LA i0 i1 j2 n mm b (.val (.int r7)) (.val (.int sb.toInt32)) (.val (.int (r ||| (0 : Int32)))) (.val (.int w)))) rfl (own_g cl (sb + 0)) [(.int w)] (Nat.le_of_ble_eq_true rfl) at_298
    have W3' := W3
    obtain ⟨locs, X0, e0, N0⟩ := W0
    obtain ⟨locs2, X2, e2, N2⟩ := W2
    obtain ⟨locs3, X3, e3, N3⟩ := W3'
    refine ⟨T3, W3, fun target kt => ?_⟩
    show Steps p.tables e below (T0.setTop (mkF m 262 (own_LA i0 i1 j2 n mm b (.val (.int r7)) (.val (.int sb.toInt32)) (.val (.int r)) (.val (.int w))) [])) _
    refine XS.iload X0.here hx rfl (hb hby at_262) rfl ?_
    show Steps p.tables e below (T0.setTop (mkF m 264 (own_LA i0 i1 j2 n mm b (.val (.int r7)) (.val (.int sb.toInt32)) (.val (.int r)) (.val (.int w))) [(.int r)])) _
    refine XS.iload X0.here hx rfl (hb hby at_264) rfl ?_
    show Steps p.tables e below (T0.setTop (mkF m 266 (own_LA i0 i1 j2 n mm b (.val (.int r7)) (.val (.int sb.toInt32)) (.val (.int r)) (.val (.int w))) [(.int w), (.int r)])) _
    refine XS.ifYes X0.here hx rfl (pc0 := 266) (pc' := 285) rfl (hb hby at_266) rfl ((if0 _ _).trans (teq hw0).1) (by decide) (by decide) ?_
    show Steps p.tables e below (T0.setTop (mkF m 285 (own_LA i0 i1 j2 n mm b (.val (.int r7)) (.val (.int sb.toInt32)) (.val (.int r)) (.val (.int w))) [(.int r)])) _
    refine XS.iconst X0.here hx rfl (hb hby at_285) ?_
    show Steps p.tables e below (T0.setTop (mkF m 286 (own_LA i0 i1 j2 n mm b (.val (.int r7)) (.val (.int sb.toInt32)) (.val (.int r)) (.val (.int w))) [(.int (0 : Int32)), (.int r)])) _
    refine XS.ior X0.here hx rfl (hb hby at_286) rfl ?_
    show Steps p.tables e below (T0.setTop (mkF m 287 (own_LA i0 i1 j2 n mm b (.val (.int r7)) (.val (.int sb.toInt32)) (.val (.int r)) (.val (.int w))) [(.int (r ||| (0 : Int32)))])) _
    refine XS.istore X0.here hx rfl (hb hby at_287) rfl (l' := (own_LA i0 i1 j2 n mm b (.val (.int r7)) (.val (.int sb.toInt32)) (.val (.int (r ||| (0 : Int32)))) (.val (.int w)))) rfl ?_
    show Steps p.tables e below (T0.setTop (mkF m 289 (own_LA i0 i1 j2 n mm b (.val (.int r7)) (.val (.int sb.toInt32)) (.val (.int (r ||| (0 : Int32)))) (.val (.int w))) [])) _
    refine XS.iload X0.here hx rfl (hb hby at_289) rfl ?_
    show Steps p.tables e below (T0.setTop (mkF m 291 (own_LA i0 i1 j2 n mm b (.val (.int r7)) (.val (.int sb.toInt32)) (.val (.int (r ||| (0 : Int32)))) (.val (.int w))) [(.int w)])) _
    refine XS.aload X0.here hx rfl (hb hby at_291) rfl rfl ?_
    show Steps p.tables e below (T0.setTop (mkF m 293 (own_LA i0 i1 j2 n mm b (.val (.int r7)) (.val (.int sb.toInt32)) (.val (.int (r ||| (0 : Int32)))) (.val (.int w))) [(.ref b), (.int w)])) _
    refine XS.iload X0.here hx rfl (hb hby at_293) rfl ?_
    show Steps p.tables e below (T0.setTop (mkF m 295 (own_LA i0 i1 j2 n mm b (.val (.int r7)) (.val (.int sb.toInt32)) (.val (.int (r ||| (0 : Int32)))) (.val (.int w))) [(.int sb.toInt32), (.ref b), (.int w)])) _
    refine st2 _ ?_
    show Steps p.tables e below (T2.setTop (mkF m 298 (own_LA i0 i1 j2 n mm b (.val (.int r7)) (.val (.int sb.toInt32)) (.val (.int (r ||| (0 : Int32)))) (.val (.int w))) [(.int (own_g cl (sb + 0))), (.int w)])) _
    refine st3 _ ?_
    show Steps p.tables e below (T3.setTop (mkF m 301 (own_LA i0 i1 j2 n mm b (.val (.int r7)) (.val (.int sb.toInt32)) (.val (.int (r ||| (0 : Int32)))) (.val (.int w))) [(.int (own_ws (own_g cl (sb + 0)))), (.int w)])) _
    refine XS.iand X3.here hx rfl (hb hby at_301) rfl ?_
    show Steps p.tables e below (T3.setTop (mkF m 302 (own_LA i0 i1 j2 n mm b (.val (.int r7)) (.val (.int sb.toInt32)) (.val (.int (r ||| (0 : Int32)))) (.val (.int w))) [(.int (w &&& (own_ws (own_g cl (sb + 0)))))])) _
    refine XS.istore X3.here hx rfl (hb hby at_302) rfl (l' := (own_LA i0 i1 j2 n mm b (.val (.int r7)) (.val (.int sb.toInt32)) (.val (.int (r ||| (0 : Int32)))) (.val (.int (w &&& (own_ws (own_g cl (sb + 0)))))))) rfl ?_
    exact kt
  by_cases h60 : (own_g cl (sb + 0)) = (60 : Int32)
  · have er : (own_r (own_g cl) r w (sb + 0)) = (r ||| (1 : Int32)) := by unfold own_r; rw [if_pos ⟨hw0, h60⟩]
    have ewn : (own_w (own_g cl) w (sb + 0)) = (w &&& own_ws (own_g cl (sb + 0))) := rfl
    rw [er, ewn]
    obtain ⟨T1, W1, st1⟩ := own_at W0 hx hZ hw hby hml hown Z0 (q := 273) (Ls := (own_LA i0 i1 j2 n mm b (.val (.int r7)) (.val (.int sb.toInt32)) (.val (.int r)) (.val (.int w)))) rfl b cl (sb + 0) Ar Hi hsz (by omega) [(.int r)] (Nat.le_of_ble_eq_true rfl) at_273
    obtain ⟨T2, W2, st2⟩ := own_at W1 hx hZ hw hby hml hown Z0 (q := 295) (Ls := (own_LA i0 i1 j2 n mm b (.val (.int r7)) (.val (.int sb.toInt32)) (.val (.int (r ||| (1 : Int32)))) (.val (.int w)))) rfl b cl (sb + 0) Ar Hi hsz (by omega) [(.int w)] (Nat.le_of_ble_eq_true rfl) at_295
    obtain ⟨T3, W3, st3⟩ := own_isWs W2 hx hZ hw hby hml hown Z0 (q := 298) (Ls := (own_LA i0 i1 j2 n mm b (.val (.int r7)) (.val (.int sb.toInt32)) (.val (.int (r ||| (1 : Int32)))) (.val (.int w)))) rfl (own_g cl (sb + 0)) [(.int w)] (Nat.le_of_ble_eq_true rfl) at_298
    have W3' := W3
    obtain ⟨locs, X0, e0, N0⟩ := W0
    obtain ⟨locs1, X1, e1, N1⟩ := W1
    obtain ⟨locs2, X2, e2, N2⟩ := W2
    obtain ⟨locs3, X3, e3, N3⟩ := W3'
    refine ⟨T3, W3, fun target kt => ?_⟩
    show Steps p.tables e below (T0.setTop (mkF m 262 (own_LA i0 i1 j2 n mm b (.val (.int r7)) (.val (.int sb.toInt32)) (.val (.int r)) (.val (.int w))) [])) _
    refine XS.iload X0.here hx rfl (hb hby at_262) rfl ?_
    show Steps p.tables e below (T0.setTop (mkF m 264 (own_LA i0 i1 j2 n mm b (.val (.int r7)) (.val (.int sb.toInt32)) (.val (.int r)) (.val (.int w))) [(.int r)])) _
    refine XS.iload X0.here hx rfl (hb hby at_264) rfl ?_
    show Steps p.tables e below (T0.setTop (mkF m 266 (own_LA i0 i1 j2 n mm b (.val (.int r7)) (.val (.int sb.toInt32)) (.val (.int r)) (.val (.int w))) [(.int w), (.int r)])) _
    refine XS.ifNo X0.here hx rfl (hb hby at_266) rfl ((if0 _ _).trans (feq hw0).1) ?_
    show Steps p.tables e below (T0.setTop (mkF m 269 (own_LA i0 i1 j2 n mm b (.val (.int r7)) (.val (.int sb.toInt32)) (.val (.int r)) (.val (.int w))) [(.int r)])) _
    refine XS.aload X0.here hx rfl (hb hby at_269) rfl rfl ?_
    show Steps p.tables e below (T0.setTop (mkF m 271 (own_LA i0 i1 j2 n mm b (.val (.int r7)) (.val (.int sb.toInt32)) (.val (.int r)) (.val (.int w))) [(.ref b), (.int r)])) _
    refine XS.iload X0.here hx rfl (hb hby at_271) rfl ?_
    show Steps p.tables e below (T0.setTop (mkF m 273 (own_LA i0 i1 j2 n mm b (.val (.int r7)) (.val (.int sb.toInt32)) (.val (.int r)) (.val (.int w))) [(.int sb.toInt32), (.ref b), (.int r)])) _
    refine st1 _ ?_
    show Steps p.tables e below (T1.setTop (mkF m 276 (own_LA i0 i1 j2 n mm b (.val (.int r7)) (.val (.int sb.toInt32)) (.val (.int r)) (.val (.int w))) [(.int (own_g cl (sb + 0))), (.int r)])) _
    refine XS.bipush X1.here hx rfl (hb hby at_276) ?_
    show Steps p.tables e below (T1.setTop (mkF m 278 (own_LA i0 i1 j2 n mm b (.val (.int r7)) (.val (.int sb.toInt32)) (.val (.int r)) (.val (.int w))) [(.int (60 : Int32)), (.int (own_g cl (sb + 0))), (.int r)])) _
    refine XS.icmpNo X1.here hx rfl (hb hby at_278) rfl (teq h60).2 ?_
    show Steps p.tables e below (T1.setTop (mkF m 281 (own_LA i0 i1 j2 n mm b (.val (.int r7)) (.val (.int sb.toInt32)) (.val (.int r)) (.val (.int w))) [(.int r)])) _
    refine XS.iconst X1.here hx rfl (hb hby at_281) ?_
    show Steps p.tables e below (T1.setTop (mkF m 282 (own_LA i0 i1 j2 n mm b (.val (.int r7)) (.val (.int sb.toInt32)) (.val (.int r)) (.val (.int w))) [(.int (1 : Int32)), (.int r)])) _
    refine XS.goto X1.here hx rfl (pc0 := 282) (pc' := 286) rfl (hb hby at_282) (by decide) (by decide) ?_
    show Steps p.tables e below (T1.setTop (mkF m 286 (own_LA i0 i1 j2 n mm b (.val (.int r7)) (.val (.int sb.toInt32)) (.val (.int r)) (.val (.int w))) [(.int (1 : Int32)), (.int r)])) _
    refine XS.ior X1.here hx rfl (hb hby at_286) rfl ?_
    show Steps p.tables e below (T1.setTop (mkF m 287 (own_LA i0 i1 j2 n mm b (.val (.int r7)) (.val (.int sb.toInt32)) (.val (.int r)) (.val (.int w))) [(.int (r ||| (1 : Int32)))])) _
    refine XS.istore X1.here hx rfl (hb hby at_287) rfl (l' := (own_LA i0 i1 j2 n mm b (.val (.int r7)) (.val (.int sb.toInt32)) (.val (.int (r ||| (1 : Int32)))) (.val (.int w)))) rfl ?_
    show Steps p.tables e below (T1.setTop (mkF m 289 (own_LA i0 i1 j2 n mm b (.val (.int r7)) (.val (.int sb.toInt32)) (.val (.int (r ||| (1 : Int32)))) (.val (.int w))) [])) _
    refine XS.iload X1.here hx rfl (hb hby at_289) rfl ?_
    show Steps p.tables e below (T1.setTop (mkF m 291 (own_LA i0 i1 j2 n mm b (.val (.int r7)) (.val (.int sb.toInt32)) (.val (.int (r ||| (1 : Int32)))) (.val (.int w))) [(.int w)])) _
    refine XS.aload X1.here hx rfl (hb hby at_291) rfl rfl ?_
    show Steps p.tables e below (T1.setTop (mkF m 293 (own_LA i0 i1 j2 n mm b (.val (.int r7)) (.val (.int sb.toInt32)) (.val (.int (r ||| (1 : Int32)))) (.val (.int w))) [(.ref b), (.int w)])) _
    refine XS.iload X1.here hx rfl (hb hby at_293) rfl ?_
    show Steps p.tables e below (T1.setTop (mkF m 295 (own_LA i0 i1 j2 n mm b (.val (.int r7)) (.val (.int sb.toInt32)) (.val (.int (r ||| (1 : Int32)))) (.val (.int w))) [(.int sb.toInt32), (.ref b), (.int w)])) _
    refine st2 _ ?_
    show Steps p.tables e below (T2.setTop (mkF m 298 (own_LA i0 i1 j2 n mm b (.val (.int r7)) (.val (.int sb.toInt32)) (.val (.int (r ||| (1 : Int32)))) (.val (.int w))) [(.int (own_g cl (sb + 0))), (.int w)])) _
    refine st3 _ ?_
    show Steps p.tables e below (T3.setTop (mkF m 301 (own_LA i0 i1 j2 n mm b (.val (.int r7)) (.val (.int sb.toInt32)) (.val (.int (r ||| (1 : Int32)))) (.val (.int w))) [(.int (own_ws (own_g cl (sb + 0)))), (.int w)])) _
    refine XS.iand X3.here hx rfl (hb hby at_301) rfl ?_
    show Steps p.tables e below (T3.setTop (mkF m 302 (own_LA i0 i1 j2 n mm b (.val (.int r7)) (.val (.int sb.toInt32)) (.val (.int (r ||| (1 : Int32)))) (.val (.int w))) [(.int (w &&& (own_ws (own_g cl (sb + 0)))))])) _
    refine XS.istore X3.here hx rfl (hb hby at_302) rfl (l' := (own_LA i0 i1 j2 n mm b (.val (.int r7)) (.val (.int sb.toInt32)) (.val (.int (r ||| (1 : Int32)))) (.val (.int (w &&& (own_ws (own_g cl (sb + 0)))))))) rfl ?_
    exact kt
  · have er : (own_r (own_g cl) r w (sb + 0)) = (r ||| (0 : Int32)) := by unfold own_r; rw [if_neg (fun q => h60 q.2)]
    have ewn : (own_w (own_g cl) w (sb + 0)) = (w &&& own_ws (own_g cl (sb + 0))) := rfl
    rw [er, ewn]
    obtain ⟨T1, W1, st1⟩ := own_at W0 hx hZ hw hby hml hown Z0 (q := 273) (Ls := (own_LA i0 i1 j2 n mm b (.val (.int r7)) (.val (.int sb.toInt32)) (.val (.int r)) (.val (.int w)))) rfl b cl (sb + 0) Ar Hi hsz (by omega) [(.int r)] (Nat.le_of_ble_eq_true rfl) at_273
    obtain ⟨T2, W2, st2⟩ := own_at W1 hx hZ hw hby hml hown Z0 (q := 295) (Ls := (own_LA i0 i1 j2 n mm b (.val (.int r7)) (.val (.int sb.toInt32)) (.val (.int (r ||| (0 : Int32)))) (.val (.int w)))) rfl b cl (sb + 0) Ar Hi hsz (by omega) [(.int w)] (Nat.le_of_ble_eq_true rfl) at_295
    obtain ⟨T3, W3, st3⟩ := own_isWs W2 hx hZ hw hby hml hown Z0 (q := 298) (Ls := (own_LA i0 i1 j2 n mm b (.val (.int r7)) (.val (.int sb.toInt32)) (.val (.int (r ||| (0 : Int32)))) (.val (.int w)))) rfl (own_g cl (sb + 0)) [(.int w)] (Nat.le_of_ble_eq_true rfl) at_298
    have W3' := W3
    obtain ⟨locs, X0, e0, N0⟩ := W0
    obtain ⟨locs1, X1, e1, N1⟩ := W1
    obtain ⟨locs2, X2, e2, N2⟩ := W2
    obtain ⟨locs3, X3, e3, N3⟩ := W3'
    refine ⟨T3, W3, fun target kt => ?_⟩
    show Steps p.tables e below (T0.setTop (mkF m 262 (own_LA i0 i1 j2 n mm b (.val (.int r7)) (.val (.int sb.toInt32)) (.val (.int r)) (.val (.int w))) [])) _
    refine XS.iload X0.here hx rfl (hb hby at_262) rfl ?_
    show Steps p.tables e below (T0.setTop (mkF m 264 (own_LA i0 i1 j2 n mm b (.val (.int r7)) (.val (.int sb.toInt32)) (.val (.int r)) (.val (.int w))) [(.int r)])) _
    refine XS.iload X0.here hx rfl (hb hby at_264) rfl ?_
    show Steps p.tables e below (T0.setTop (mkF m 266 (own_LA i0 i1 j2 n mm b (.val (.int r7)) (.val (.int sb.toInt32)) (.val (.int r)) (.val (.int w))) [(.int w), (.int r)])) _
    refine XS.ifNo X0.here hx rfl (hb hby at_266) rfl ((if0 _ _).trans (feq hw0).1) ?_
    show Steps p.tables e below (T0.setTop (mkF m 269 (own_LA i0 i1 j2 n mm b (.val (.int r7)) (.val (.int sb.toInt32)) (.val (.int r)) (.val (.int w))) [(.int r)])) _
    refine XS.aload X0.here hx rfl (hb hby at_269) rfl rfl ?_
    show Steps p.tables e below (T0.setTop (mkF m 271 (own_LA i0 i1 j2 n mm b (.val (.int r7)) (.val (.int sb.toInt32)) (.val (.int r)) (.val (.int w))) [(.ref b), (.int r)])) _
    refine XS.iload X0.here hx rfl (hb hby at_271) rfl ?_
    show Steps p.tables e below (T0.setTop (mkF m 273 (own_LA i0 i1 j2 n mm b (.val (.int r7)) (.val (.int sb.toInt32)) (.val (.int r)) (.val (.int w))) [(.int sb.toInt32), (.ref b), (.int r)])) _
    refine st1 _ ?_
    show Steps p.tables e below (T1.setTop (mkF m 276 (own_LA i0 i1 j2 n mm b (.val (.int r7)) (.val (.int sb.toInt32)) (.val (.int r)) (.val (.int w))) [(.int (own_g cl (sb + 0))), (.int r)])) _
    refine XS.bipush X1.here hx rfl (hb hby at_276) ?_
    show Steps p.tables e below (T1.setTop (mkF m 278 (own_LA i0 i1 j2 n mm b (.val (.int r7)) (.val (.int sb.toInt32)) (.val (.int r)) (.val (.int w))) [(.int (60 : Int32)), (.int (own_g cl (sb + 0))), (.int r)])) _
    refine XS.icmpYes X1.here hx rfl (pc0 := 278) (pc' := 285) rfl (hb hby at_278) rfl (feq h60).2 (by decide) (by decide) ?_
    show Steps p.tables e below (T1.setTop (mkF m 285 (own_LA i0 i1 j2 n mm b (.val (.int r7)) (.val (.int sb.toInt32)) (.val (.int r)) (.val (.int w))) [(.int r)])) _
    refine XS.iconst X1.here hx rfl (hb hby at_285) ?_
    show Steps p.tables e below (T1.setTop (mkF m 286 (own_LA i0 i1 j2 n mm b (.val (.int r7)) (.val (.int sb.toInt32)) (.val (.int r)) (.val (.int w))) [(.int (0 : Int32)), (.int r)])) _
    refine XS.ior X1.here hx rfl (hb hby at_286) rfl ?_
    show Steps p.tables e below (T1.setTop (mkF m 287 (own_LA i0 i1 j2 n mm b (.val (.int r7)) (.val (.int sb.toInt32)) (.val (.int r)) (.val (.int w))) [(.int (r ||| (0 : Int32)))])) _
    refine XS.istore X1.here hx rfl (hb hby at_287) rfl (l' := (own_LA i0 i1 j2 n mm b (.val (.int r7)) (.val (.int sb.toInt32)) (.val (.int (r ||| (0 : Int32)))) (.val (.int w)))) rfl ?_
    show Steps p.tables e below (T1.setTop (mkF m 289 (own_LA i0 i1 j2 n mm b (.val (.int r7)) (.val (.int sb.toInt32)) (.val (.int (r ||| (0 : Int32)))) (.val (.int w))) [])) _
    refine XS.iload X1.here hx rfl (hb hby at_289) rfl ?_
    show Steps p.tables e below (T1.setTop (mkF m 291 (own_LA i0 i1 j2 n mm b (.val (.int r7)) (.val (.int sb.toInt32)) (.val (.int (r ||| (0 : Int32)))) (.val (.int w))) [(.int w)])) _
    refine XS.aload X1.here hx rfl (hb hby at_291) rfl rfl ?_
    show Steps p.tables e below (T1.setTop (mkF m 293 (own_LA i0 i1 j2 n mm b (.val (.int r7)) (.val (.int sb.toInt32)) (.val (.int (r ||| (0 : Int32)))) (.val (.int w))) [(.ref b), (.int w)])) _
    refine XS.iload X1.here hx rfl (hb hby at_293) rfl ?_
    show Steps p.tables e below (T1.setTop (mkF m 295 (own_LA i0 i1 j2 n mm b (.val (.int r7)) (.val (.int sb.toInt32)) (.val (.int (r ||| (0 : Int32)))) (.val (.int w))) [(.int sb.toInt32), (.ref b), (.int w)])) _
    refine st2 _ ?_
    show Steps p.tables e below (T2.setTop (mkF m 298 (own_LA i0 i1 j2 n mm b (.val (.int r7)) (.val (.int sb.toInt32)) (.val (.int (r ||| (0 : Int32)))) (.val (.int w))) [(.int (own_g cl (sb + 0))), (.int w)])) _
    refine st3 _ ?_
    show Steps p.tables e below (T3.setTop (mkF m 301 (own_LA i0 i1 j2 n mm b (.val (.int r7)) (.val (.int sb.toInt32)) (.val (.int (r ||| (0 : Int32)))) (.val (.int w))) [(.int (own_ws (own_g cl (sb + 0)))), (.int w)])) _
    refine XS.iand X3.here hx rfl (hb hby at_301) rfl ?_
    show Steps p.tables e below (T3.setTop (mkF m 302 (own_LA i0 i1 j2 n mm b (.val (.int r7)) (.val (.int sb.toInt32)) (.val (.int (r ||| (0 : Int32)))) (.val (.int w))) [(.int (w &&& (own_ws (own_g cl (sb + 0)))))])) _
    refine XS.istore X3.here hx rfl (hb hby at_302) rfl (l' := (own_LA i0 i1 j2 n mm b (.val (.int r7)) (.val (.int sb.toInt32)) (.val (.int (r ||| (0 : Int32)))) (.val (.int (w &&& (own_ws (own_g cl (sb + 0)))))))) rfl ?_
    exact kt
set_option maxRecDepth 65536 in
set_option maxHeartbeats 40000000 in
theorem own_rd1 (W0 : own_W p l e s m args below meth c n0 T0 h0) (hx : p.tables.exec = Jvm.exec) (hZ : Z.Warmed39 s.vm) (hw : ∀ d ∈ tables_1, d.before a0 Z = true) (hby : c.code = code) (hml : c.maxLocals = 11) (hown : s.vm.findClass "com/example/plinth/plinth/cli/InputFileIsXmlPinLaw" = some m.cls) (Z0 : n0 ≤ h0.size) (i0 i1 : Int32) (j2 : Int64) (n mm : Int32) (b : Addr) (r7 : Int32) (cl : Cell) (Ar : Arr Z h0 b cl .byte) (Hi : own_ints cl) (hsz : cl.slots.size ≤ 8) (sb : Nat) (hsb : sb ≤ 3) (r w : Int32) :
    ∃ (T' : State), own_W p l e s m args below meth c n0 T' h0 ∧ own_Ld p e below T0 (mkF m 304 (own_LA i0 i1 j2 n mm b (.val (.int r7)) (.val (.int sb.toInt32)) (.val (.int r)) (.val (.int w))) []) T' (mkF m 350 (own_LA i0 i1 j2 n mm b (.val (.int r7)) (.val (.int sb.toInt32)) (.val (.int (own_r (own_g cl) r w (sb + 1)))) (.val (.int (own_w (own_g cl) w (sb + 1))))) []) := by
  have hj : sb.toInt32 + (1 : Int32) = (sb + 1).toInt32 := (Int32.ofNat_add sb 1).symm
  by_cases hw0 : w = (0 : Int32)
  · have er : (own_r (own_g cl) r w (sb + 1)) = (r ||| (0 : Int32)) := by unfold own_r; rw [if_neg (fun q => q.1 hw0)]
    have ewn : (own_w (own_g cl) w (sb + 1)) = (w &&& own_ws (own_g cl (sb + 1))) := rfl
    rw [er, ewn]
    obtain ⟨T2, W2, st2⟩ := own_at W0 hx hZ hw hby hml hown Z0 (q := 341) (Ls := (own_LA i0 i1 j2 n mm b (.val (.int r7)) (.val (.int sb.toInt32)) (.val (.int (r ||| (0 : Int32)))) (.val (.int w)))) rfl b cl (sb + 1) Ar Hi hsz (by omega) [(.int w)] (Nat.le_of_ble_eq_true rfl) at_341
    obtain ⟨T3, W3, st3⟩ := own_isWs W2 hx hZ hw hby hml hown Z0 (q := 344) (Ls := (own_LA i0 i1 j2 n mm b (.val (.int r7)) (.val (.int sb.toInt32)) (.val (.int (r ||| (0 : Int32)))) (.val (.int w)))) rfl (own_g cl (sb + 1)) [(.int w)] (Nat.le_of_ble_eq_true rfl) at_344
    have W3' := W3
    obtain ⟨locs, X0, e0, N0⟩ := W0
    obtain ⟨locs2, X2, e2, N2⟩ := W2
    obtain ⟨locs3, X3, e3, N3⟩ := W3'
    refine ⟨T3, W3, fun target kt => ?_⟩
    show Steps p.tables e below (T0.setTop (mkF m 304 (own_LA i0 i1 j2 n mm b (.val (.int r7)) (.val (.int sb.toInt32)) (.val (.int r)) (.val (.int w))) [])) _
    refine XS.iload X0.here hx rfl (hb hby at_304) rfl ?_
    show Steps p.tables e below (T0.setTop (mkF m 306 (own_LA i0 i1 j2 n mm b (.val (.int r7)) (.val (.int sb.toInt32)) (.val (.int r)) (.val (.int w))) [(.int r)])) _
    refine XS.iload X0.here hx rfl (hb hby at_306) rfl ?_
    show Steps p.tables e below (T0.setTop (mkF m 308 (own_LA i0 i1 j2 n mm b (.val (.int r7)) (.val (.int sb.toInt32)) (.val (.int r)) (.val (.int w))) [(.int w), (.int r)])) _
    refine XS.ifYes X0.here hx rfl (pc0 := 308) (pc' := 329) rfl (hb hby at_308) rfl ((if0 _ _).trans (teq hw0).1) (by decide) (by decide) ?_
    show Steps p.tables e below (T0.setTop (mkF m 329 (own_LA i0 i1 j2 n mm b (.val (.int r7)) (.val (.int sb.toInt32)) (.val (.int r)) (.val (.int w))) [(.int r)])) _
    refine XS.iconst X0.here hx rfl (hb hby at_329) ?_
    show Steps p.tables e below (T0.setTop (mkF m 330 (own_LA i0 i1 j2 n mm b (.val (.int r7)) (.val (.int sb.toInt32)) (.val (.int r)) (.val (.int w))) [(.int (0 : Int32)), (.int r)])) _
    refine XS.ior X0.here hx rfl (hb hby at_330) rfl ?_
    show Steps p.tables e below (T0.setTop (mkF m 331 (own_LA i0 i1 j2 n mm b (.val (.int r7)) (.val (.int sb.toInt32)) (.val (.int r)) (.val (.int w))) [(.int (r ||| (0 : Int32)))])) _
    refine XS.istore X0.here hx rfl (hb hby at_331) rfl (l' := (own_LA i0 i1 j2 n mm b (.val (.int r7)) (.val (.int sb.toInt32)) (.val (.int (r ||| (0 : Int32)))) (.val (.int w)))) rfl ?_
    show Steps p.tables e below (T0.setTop (mkF m 333 (own_LA i0 i1 j2 n mm b (.val (.int r7)) (.val (.int sb.toInt32)) (.val (.int (r ||| (0 : Int32)))) (.val (.int w))) [])) _
    refine XS.iload X0.here hx rfl (hb hby at_333) rfl ?_
    show Steps p.tables e below (T0.setTop (mkF m 335 (own_LA i0 i1 j2 n mm b (.val (.int r7)) (.val (.int sb.toInt32)) (.val (.int (r ||| (0 : Int32)))) (.val (.int w))) [(.int w)])) _
    refine XS.aload X0.here hx rfl (hb hby at_335) rfl rfl ?_
    show Steps p.tables e below (T0.setTop (mkF m 337 (own_LA i0 i1 j2 n mm b (.val (.int r7)) (.val (.int sb.toInt32)) (.val (.int (r ||| (0 : Int32)))) (.val (.int w))) [(.ref b), (.int w)])) _
    refine XS.iload X0.here hx rfl (hb hby at_337) rfl ?_
    show Steps p.tables e below (T0.setTop (mkF m 339 (own_LA i0 i1 j2 n mm b (.val (.int r7)) (.val (.int sb.toInt32)) (.val (.int (r ||| (0 : Int32)))) (.val (.int w))) [(.int sb.toInt32), (.ref b), (.int w)])) _
    refine XS.iconst X0.here hx rfl (hb hby at_339) ?_
    show Steps p.tables e below (T0.setTop (mkF m 340 (own_LA i0 i1 j2 n mm b (.val (.int r7)) (.val (.int sb.toInt32)) (.val (.int (r ||| (0 : Int32)))) (.val (.int w))) [(.int (1 : Int32)), (.int sb.toInt32), (.ref b), (.int w)])) _
    refine XS.iadd X0.here hx rfl (hb hby at_340) rfl ?_
    show Steps p.tables e below (T0.setTop (mkF m 341 (own_LA i0 i1 j2 n mm b (.val (.int r7)) (.val (.int sb.toInt32)) (.val (.int (r ||| (0 : Int32)))) (.val (.int w))) [(.int (sb.toInt32 + (1 : Int32))), (.ref b), (.int w)])) _
    rw [hj]
    refine st2 _ ?_
    show Steps p.tables e below (T2.setTop (mkF m 344 (own_LA i0 i1 j2 n mm b (.val (.int r7)) (.val (.int sb.toInt32)) (.val (.int (r ||| (0 : Int32)))) (.val (.int w))) [(.int (own_g cl (sb + 1))), (.int w)])) _
    refine st3 _ ?_
    show Steps p.tables e below (T3.setTop (mkF m 347 (own_LA i0 i1 j2 n mm b (.val (.int r7)) (.val (.int sb.toInt32)) (.val (.int (r ||| (0 : Int32)))) (.val (.int w))) [(.int (own_ws (own_g cl (sb + 1)))), (.int w)])) _
    refine XS.iand X3.here hx rfl (hb hby at_347) rfl ?_
    show Steps p.tables e below (T3.setTop (mkF m 348 (own_LA i0 i1 j2 n mm b (.val (.int r7)) (.val (.int sb.toInt32)) (.val (.int (r ||| (0 : Int32)))) (.val (.int w))) [(.int (w &&& (own_ws (own_g cl (sb + 1)))))])) _
    refine XS.istore X3.here hx rfl (hb hby at_348) rfl (l' := (own_LA i0 i1 j2 n mm b (.val (.int r7)) (.val (.int sb.toInt32)) (.val (.int (r ||| (0 : Int32)))) (.val (.int (w &&& (own_ws (own_g cl (sb + 1)))))))) rfl ?_
    exact kt
  by_cases h60 : (own_g cl (sb + 1)) = (60 : Int32)
  · have er : (own_r (own_g cl) r w (sb + 1)) = (r ||| (1 : Int32)) := by unfold own_r; rw [if_pos ⟨hw0, h60⟩]
    have ewn : (own_w (own_g cl) w (sb + 1)) = (w &&& own_ws (own_g cl (sb + 1))) := rfl
    rw [er, ewn]
    obtain ⟨T1, W1, st1⟩ := own_at W0 hx hZ hw hby hml hown Z0 (q := 317) (Ls := (own_LA i0 i1 j2 n mm b (.val (.int r7)) (.val (.int sb.toInt32)) (.val (.int r)) (.val (.int w)))) rfl b cl (sb + 1) Ar Hi hsz (by omega) [(.int r)] (Nat.le_of_ble_eq_true rfl) at_317
    obtain ⟨T2, W2, st2⟩ := own_at W1 hx hZ hw hby hml hown Z0 (q := 341) (Ls := (own_LA i0 i1 j2 n mm b (.val (.int r7)) (.val (.int sb.toInt32)) (.val (.int (r ||| (1 : Int32)))) (.val (.int w)))) rfl b cl (sb + 1) Ar Hi hsz (by omega) [(.int w)] (Nat.le_of_ble_eq_true rfl) at_341
    obtain ⟨T3, W3, st3⟩ := own_isWs W2 hx hZ hw hby hml hown Z0 (q := 344) (Ls := (own_LA i0 i1 j2 n mm b (.val (.int r7)) (.val (.int sb.toInt32)) (.val (.int (r ||| (1 : Int32)))) (.val (.int w)))) rfl (own_g cl (sb + 1)) [(.int w)] (Nat.le_of_ble_eq_true rfl) at_344
    have W3' := W3
    obtain ⟨locs, X0, e0, N0⟩ := W0
    obtain ⟨locs1, X1, e1, N1⟩ := W1
    obtain ⟨locs2, X2, e2, N2⟩ := W2
    obtain ⟨locs3, X3, e3, N3⟩ := W3'
    refine ⟨T3, W3, fun target kt => ?_⟩
    show Steps p.tables e below (T0.setTop (mkF m 304 (own_LA i0 i1 j2 n mm b (.val (.int r7)) (.val (.int sb.toInt32)) (.val (.int r)) (.val (.int w))) [])) _
    refine XS.iload X0.here hx rfl (hb hby at_304) rfl ?_
    show Steps p.tables e below (T0.setTop (mkF m 306 (own_LA i0 i1 j2 n mm b (.val (.int r7)) (.val (.int sb.toInt32)) (.val (.int r)) (.val (.int w))) [(.int r)])) _
    refine XS.iload X0.here hx rfl (hb hby at_306) rfl ?_
    show Steps p.tables e below (T0.setTop (mkF m 308 (own_LA i0 i1 j2 n mm b (.val (.int r7)) (.val (.int sb.toInt32)) (.val (.int r)) (.val (.int w))) [(.int w), (.int r)])) _
    refine XS.ifNo X0.here hx rfl (hb hby at_308) rfl ((if0 _ _).trans (feq hw0).1) ?_
    show Steps p.tables e below (T0.setTop (mkF m 311 (own_LA i0 i1 j2 n mm b (.val (.int r7)) (.val (.int sb.toInt32)) (.val (.int r)) (.val (.int w))) [(.int r)])) _
    refine XS.aload X0.here hx rfl (hb hby at_311) rfl rfl ?_
    show Steps p.tables e below (T0.setTop (mkF m 313 (own_LA i0 i1 j2 n mm b (.val (.int r7)) (.val (.int sb.toInt32)) (.val (.int r)) (.val (.int w))) [(.ref b), (.int r)])) _
    refine XS.iload X0.here hx rfl (hb hby at_313) rfl ?_
    show Steps p.tables e below (T0.setTop (mkF m 315 (own_LA i0 i1 j2 n mm b (.val (.int r7)) (.val (.int sb.toInt32)) (.val (.int r)) (.val (.int w))) [(.int sb.toInt32), (.ref b), (.int r)])) _
    refine XS.iconst X0.here hx rfl (hb hby at_315) ?_
    show Steps p.tables e below (T0.setTop (mkF m 316 (own_LA i0 i1 j2 n mm b (.val (.int r7)) (.val (.int sb.toInt32)) (.val (.int r)) (.val (.int w))) [(.int (1 : Int32)), (.int sb.toInt32), (.ref b), (.int r)])) _
    refine XS.iadd X0.here hx rfl (hb hby at_316) rfl ?_
    show Steps p.tables e below (T0.setTop (mkF m 317 (own_LA i0 i1 j2 n mm b (.val (.int r7)) (.val (.int sb.toInt32)) (.val (.int r)) (.val (.int w))) [(.int (sb.toInt32 + (1 : Int32))), (.ref b), (.int r)])) _
    rw [hj]
    refine st1 _ ?_
    show Steps p.tables e below (T1.setTop (mkF m 320 (own_LA i0 i1 j2 n mm b (.val (.int r7)) (.val (.int sb.toInt32)) (.val (.int r)) (.val (.int w))) [(.int (own_g cl (sb + 1))), (.int r)])) _
    refine XS.bipush X1.here hx rfl (hb hby at_320) ?_
    show Steps p.tables e below (T1.setTop (mkF m 322 (own_LA i0 i1 j2 n mm b (.val (.int r7)) (.val (.int sb.toInt32)) (.val (.int r)) (.val (.int w))) [(.int (60 : Int32)), (.int (own_g cl (sb + 1))), (.int r)])) _
    refine XS.icmpNo X1.here hx rfl (hb hby at_322) rfl (teq h60).2 ?_
    show Steps p.tables e below (T1.setTop (mkF m 325 (own_LA i0 i1 j2 n mm b (.val (.int r7)) (.val (.int sb.toInt32)) (.val (.int r)) (.val (.int w))) [(.int r)])) _
    refine XS.iconst X1.here hx rfl (hb hby at_325) ?_
    show Steps p.tables e below (T1.setTop (mkF m 326 (own_LA i0 i1 j2 n mm b (.val (.int r7)) (.val (.int sb.toInt32)) (.val (.int r)) (.val (.int w))) [(.int (1 : Int32)), (.int r)])) _
    refine XS.goto X1.here hx rfl (pc0 := 326) (pc' := 330) rfl (hb hby at_326) (by decide) (by decide) ?_
    show Steps p.tables e below (T1.setTop (mkF m 330 (own_LA i0 i1 j2 n mm b (.val (.int r7)) (.val (.int sb.toInt32)) (.val (.int r)) (.val (.int w))) [(.int (1 : Int32)), (.int r)])) _
    refine XS.ior X1.here hx rfl (hb hby at_330) rfl ?_
    show Steps p.tables e below (T1.setTop (mkF m 331 (own_LA i0 i1 j2 n mm b (.val (.int r7)) (.val (.int sb.toInt32)) (.val (.int r)) (.val (.int w))) [(.int (r ||| (1 : Int32)))])) _
    refine XS.istore X1.here hx rfl (hb hby at_331) rfl (l' := (own_LA i0 i1 j2 n mm b (.val (.int r7)) (.val (.int sb.toInt32)) (.val (.int (r ||| (1 : Int32)))) (.val (.int w)))) rfl ?_
    show Steps p.tables e below (T1.setTop (mkF m 333 (own_LA i0 i1 j2 n mm b (.val (.int r7)) (.val (.int sb.toInt32)) (.val (.int (r ||| (1 : Int32)))) (.val (.int w))) [])) _
    refine XS.iload X1.here hx rfl (hb hby at_333) rfl ?_
    show Steps p.tables e below (T1.setTop (mkF m 335 (own_LA i0 i1 j2 n mm b (.val (.int r7)) (.val (.int sb.toInt32)) (.val (.int (r ||| (1 : Int32)))) (.val (.int w))) [(.int w)])) _
    refine XS.aload X1.here hx rfl (hb hby at_335) rfl rfl ?_
    show Steps p.tables e below (T1.setTop (mkF m 337 (own_LA i0 i1 j2 n mm b (.val (.int r7)) (.val (.int sb.toInt32)) (.val (.int (r ||| (1 : Int32)))) (.val (.int w))) [(.ref b), (.int w)])) _
    refine XS.iload X1.here hx rfl (hb hby at_337) rfl ?_
    show Steps p.tables e below (T1.setTop (mkF m 339 (own_LA i0 i1 j2 n mm b (.val (.int r7)) (.val (.int sb.toInt32)) (.val (.int (r ||| (1 : Int32)))) (.val (.int w))) [(.int sb.toInt32), (.ref b), (.int w)])) _
    refine XS.iconst X1.here hx rfl (hb hby at_339) ?_
    show Steps p.tables e below (T1.setTop (mkF m 340 (own_LA i0 i1 j2 n mm b (.val (.int r7)) (.val (.int sb.toInt32)) (.val (.int (r ||| (1 : Int32)))) (.val (.int w))) [(.int (1 : Int32)), (.int sb.toInt32), (.ref b), (.int w)])) _
    refine XS.iadd X1.here hx rfl (hb hby at_340) rfl ?_
    show Steps p.tables e below (T1.setTop (mkF m 341 (own_LA i0 i1 j2 n mm b (.val (.int r7)) (.val (.int sb.toInt32)) (.val (.int (r ||| (1 : Int32)))) (.val (.int w))) [(.int (sb.toInt32 + (1 : Int32))), (.ref b), (.int w)])) _
    rw [hj]
    refine st2 _ ?_
    show Steps p.tables e below (T2.setTop (mkF m 344 (own_LA i0 i1 j2 n mm b (.val (.int r7)) (.val (.int sb.toInt32)) (.val (.int (r ||| (1 : Int32)))) (.val (.int w))) [(.int (own_g cl (sb + 1))), (.int w)])) _
    refine st3 _ ?_
    show Steps p.tables e below (T3.setTop (mkF m 347 (own_LA i0 i1 j2 n mm b (.val (.int r7)) (.val (.int sb.toInt32)) (.val (.int (r ||| (1 : Int32)))) (.val (.int w))) [(.int (own_ws (own_g cl (sb + 1)))), (.int w)])) _
    refine XS.iand X3.here hx rfl (hb hby at_347) rfl ?_
    show Steps p.tables e below (T3.setTop (mkF m 348 (own_LA i0 i1 j2 n mm b (.val (.int r7)) (.val (.int sb.toInt32)) (.val (.int (r ||| (1 : Int32)))) (.val (.int w))) [(.int (w &&& (own_ws (own_g cl (sb + 1)))))])) _
    refine XS.istore X3.here hx rfl (hb hby at_348) rfl (l' := (own_LA i0 i1 j2 n mm b (.val (.int r7)) (.val (.int sb.toInt32)) (.val (.int (r ||| (1 : Int32)))) (.val (.int (w &&& (own_ws (own_g cl (sb + 1)))))))) rfl ?_
    exact kt
  · have er : (own_r (own_g cl) r w (sb + 1)) = (r ||| (0 : Int32)) := by unfold own_r; rw [if_neg (fun q => h60 q.2)]
    have ewn : (own_w (own_g cl) w (sb + 1)) = (w &&& own_ws (own_g cl (sb + 1))) := rfl
    rw [er, ewn]
    obtain ⟨T1, W1, st1⟩ := own_at W0 hx hZ hw hby hml hown Z0 (q := 317) (Ls := (own_LA i0 i1 j2 n mm b (.val (.int r7)) (.val (.int sb.toInt32)) (.val (.int r)) (.val (.int w)))) rfl b cl (sb + 1) Ar Hi hsz (by omega) [(.int r)] (Nat.le_of_ble_eq_true rfl) at_317
    obtain ⟨T2, W2, st2⟩ := own_at W1 hx hZ hw hby hml hown Z0 (q := 341) (Ls := (own_LA i0 i1 j2 n mm b (.val (.int r7)) (.val (.int sb.toInt32)) (.val (.int (r ||| (0 : Int32)))) (.val (.int w)))) rfl b cl (sb + 1) Ar Hi hsz (by omega) [(.int w)] (Nat.le_of_ble_eq_true rfl) at_341
    obtain ⟨T3, W3, st3⟩ := own_isWs W2 hx hZ hw hby hml hown Z0 (q := 344) (Ls := (own_LA i0 i1 j2 n mm b (.val (.int r7)) (.val (.int sb.toInt32)) (.val (.int (r ||| (0 : Int32)))) (.val (.int w)))) rfl (own_g cl (sb + 1)) [(.int w)] (Nat.le_of_ble_eq_true rfl) at_344
    have W3' := W3
    obtain ⟨locs, X0, e0, N0⟩ := W0
    obtain ⟨locs1, X1, e1, N1⟩ := W1
    obtain ⟨locs2, X2, e2, N2⟩ := W2
    obtain ⟨locs3, X3, e3, N3⟩ := W3'
    refine ⟨T3, W3, fun target kt => ?_⟩
    show Steps p.tables e below (T0.setTop (mkF m 304 (own_LA i0 i1 j2 n mm b (.val (.int r7)) (.val (.int sb.toInt32)) (.val (.int r)) (.val (.int w))) [])) _
    refine XS.iload X0.here hx rfl (hb hby at_304) rfl ?_
    show Steps p.tables e below (T0.setTop (mkF m 306 (own_LA i0 i1 j2 n mm b (.val (.int r7)) (.val (.int sb.toInt32)) (.val (.int r)) (.val (.int w))) [(.int r)])) _
    refine XS.iload X0.here hx rfl (hb hby at_306) rfl ?_
    show Steps p.tables e below (T0.setTop (mkF m 308 (own_LA i0 i1 j2 n mm b (.val (.int r7)) (.val (.int sb.toInt32)) (.val (.int r)) (.val (.int w))) [(.int w), (.int r)])) _
    refine XS.ifNo X0.here hx rfl (hb hby at_308) rfl ((if0 _ _).trans (feq hw0).1) ?_
    show Steps p.tables e below (T0.setTop (mkF m 311 (own_LA i0 i1 j2 n mm b (.val (.int r7)) (.val (.int sb.toInt32)) (.val (.int r)) (.val (.int w))) [(.int r)])) _
    refine XS.aload X0.here hx rfl (hb hby at_311) rfl rfl ?_
    show Steps p.tables e below (T0.setTop (mkF m 313 (own_LA i0 i1 j2 n mm b (.val (.int r7)) (.val (.int sb.toInt32)) (.val (.int r)) (.val (.int w))) [(.ref b), (.int r)])) _
    refine XS.iload X0.here hx rfl (hb hby at_313) rfl ?_
    show Steps p.tables e below (T0.setTop (mkF m 315 (own_LA i0 i1 j2 n mm b (.val (.int r7)) (.val (.int sb.toInt32)) (.val (.int r)) (.val (.int w))) [(.int sb.toInt32), (.ref b), (.int r)])) _
    refine XS.iconst X0.here hx rfl (hb hby at_315) ?_
    show Steps p.tables e below (T0.setTop (mkF m 316 (own_LA i0 i1 j2 n mm b (.val (.int r7)) (.val (.int sb.toInt32)) (.val (.int r)) (.val (.int w))) [(.int (1 : Int32)), (.int sb.toInt32), (.ref b), (.int r)])) _
    refine XS.iadd X0.here hx rfl (hb hby at_316) rfl ?_
    show Steps p.tables e below (T0.setTop (mkF m 317 (own_LA i0 i1 j2 n mm b (.val (.int r7)) (.val (.int sb.toInt32)) (.val (.int r)) (.val (.int w))) [(.int (sb.toInt32 + (1 : Int32))), (.ref b), (.int r)])) _
    rw [hj]
    refine st1 _ ?_
    show Steps p.tables e below (T1.setTop (mkF m 320 (own_LA i0 i1 j2 n mm b (.val (.int r7)) (.val (.int sb.toInt32)) (.val (.int r)) (.val (.int w))) [(.int (own_g cl (sb + 1))), (.int r)])) _
    refine XS.bipush X1.here hx rfl (hb hby at_320) ?_
    show Steps p.tables e below (T1.setTop (mkF m 322 (own_LA i0 i1 j2 n mm b (.val (.int r7)) (.val (.int sb.toInt32)) (.val (.int r)) (.val (.int w))) [(.int (60 : Int32)), (.int (own_g cl (sb + 1))), (.int r)])) _
    refine XS.icmpYes X1.here hx rfl (pc0 := 322) (pc' := 329) rfl (hb hby at_322) rfl (feq h60).2 (by decide) (by decide) ?_
    show Steps p.tables e below (T1.setTop (mkF m 329 (own_LA i0 i1 j2 n mm b (.val (.int r7)) (.val (.int sb.toInt32)) (.val (.int r)) (.val (.int w))) [(.int r)])) _
    refine XS.iconst X1.here hx rfl (hb hby at_329) ?_
    show Steps p.tables e below (T1.setTop (mkF m 330 (own_LA i0 i1 j2 n mm b (.val (.int r7)) (.val (.int sb.toInt32)) (.val (.int r)) (.val (.int w))) [(.int (0 : Int32)), (.int r)])) _
    refine XS.ior X1.here hx rfl (hb hby at_330) rfl ?_
    show Steps p.tables e below (T1.setTop (mkF m 331 (own_LA i0 i1 j2 n mm b (.val (.int r7)) (.val (.int sb.toInt32)) (.val (.int r)) (.val (.int w))) [(.int (r ||| (0 : Int32)))])) _
    refine XS.istore X1.here hx rfl (hb hby at_331) rfl (l' := (own_LA i0 i1 j2 n mm b (.val (.int r7)) (.val (.int sb.toInt32)) (.val (.int (r ||| (0 : Int32)))) (.val (.int w)))) rfl ?_
    show Steps p.tables e below (T1.setTop (mkF m 333 (own_LA i0 i1 j2 n mm b (.val (.int r7)) (.val (.int sb.toInt32)) (.val (.int (r ||| (0 : Int32)))) (.val (.int w))) [])) _
    refine XS.iload X1.here hx rfl (hb hby at_333) rfl ?_
    show Steps p.tables e below (T1.setTop (mkF m 335 (own_LA i0 i1 j2 n mm b (.val (.int r7)) (.val (.int sb.toInt32)) (.val (.int (r ||| (0 : Int32)))) (.val (.int w))) [(.int w)])) _
    refine XS.aload X1.here hx rfl (hb hby at_335) rfl rfl ?_
    show Steps p.tables e below (T1.setTop (mkF m 337 (own_LA i0 i1 j2 n mm b (.val (.int r7)) (.val (.int sb.toInt32)) (.val (.int (r ||| (0 : Int32)))) (.val (.int w))) [(.ref b), (.int w)])) _
    refine XS.iload X1.here hx rfl (hb hby at_337) rfl ?_
    show Steps p.tables e below (T1.setTop (mkF m 339 (own_LA i0 i1 j2 n mm b (.val (.int r7)) (.val (.int sb.toInt32)) (.val (.int (r ||| (0 : Int32)))) (.val (.int w))) [(.int sb.toInt32), (.ref b), (.int w)])) _
    refine XS.iconst X1.here hx rfl (hb hby at_339) ?_
    show Steps p.tables e below (T1.setTop (mkF m 340 (own_LA i0 i1 j2 n mm b (.val (.int r7)) (.val (.int sb.toInt32)) (.val (.int (r ||| (0 : Int32)))) (.val (.int w))) [(.int (1 : Int32)), (.int sb.toInt32), (.ref b), (.int w)])) _
    refine XS.iadd X1.here hx rfl (hb hby at_340) rfl ?_
    show Steps p.tables e below (T1.setTop (mkF m 341 (own_LA i0 i1 j2 n mm b (.val (.int r7)) (.val (.int sb.toInt32)) (.val (.int (r ||| (0 : Int32)))) (.val (.int w))) [(.int (sb.toInt32 + (1 : Int32))), (.ref b), (.int w)])) _
    rw [hj]
    refine st2 _ ?_
    show Steps p.tables e below (T2.setTop (mkF m 344 (own_LA i0 i1 j2 n mm b (.val (.int r7)) (.val (.int sb.toInt32)) (.val (.int (r ||| (0 : Int32)))) (.val (.int w))) [(.int (own_g cl (sb + 1))), (.int w)])) _
    refine st3 _ ?_
    show Steps p.tables e below (T3.setTop (mkF m 347 (own_LA i0 i1 j2 n mm b (.val (.int r7)) (.val (.int sb.toInt32)) (.val (.int (r ||| (0 : Int32)))) (.val (.int w))) [(.int (own_ws (own_g cl (sb + 1)))), (.int w)])) _
    refine XS.iand X3.here hx rfl (hb hby at_347) rfl ?_
    show Steps p.tables e below (T3.setTop (mkF m 348 (own_LA i0 i1 j2 n mm b (.val (.int r7)) (.val (.int sb.toInt32)) (.val (.int (r ||| (0 : Int32)))) (.val (.int w))) [(.int (w &&& (own_ws (own_g cl (sb + 1)))))])) _
    refine XS.istore X3.here hx rfl (hb hby at_348) rfl (l' := (own_LA i0 i1 j2 n mm b (.val (.int r7)) (.val (.int sb.toInt32)) (.val (.int (r ||| (0 : Int32)))) (.val (.int (w &&& (own_ws (own_g cl (sb + 1)))))))) rfl ?_
    exact kt
set_option maxRecDepth 65536 in
set_option maxHeartbeats 40000000 in
theorem own_rd2 (W0 : own_W p l e s m args below meth c n0 T0 h0) (hx : p.tables.exec = Jvm.exec) (hZ : Z.Warmed39 s.vm) (hw : ∀ d ∈ tables_1, d.before a0 Z = true) (hby : c.code = code) (hml : c.maxLocals = 11) (hown : s.vm.findClass "com/example/plinth/plinth/cli/InputFileIsXmlPinLaw" = some m.cls) (Z0 : n0 ≤ h0.size) (i0 i1 : Int32) (j2 : Int64) (n mm : Int32) (b : Addr) (r7 : Int32) (cl : Cell) (Ar : Arr Z h0 b cl .byte) (Hi : own_ints cl) (hsz : cl.slots.size ≤ 8) (sb : Nat) (hsb : sb ≤ 3) (r w : Int32) :
    ∃ (T' : State), own_W p l e s m args below meth c n0 T' h0 ∧ own_Ld p e below T0 (mkF m 350 (own_LA i0 i1 j2 n mm b (.val (.int r7)) (.val (.int sb.toInt32)) (.val (.int r)) (.val (.int w))) []) T' (mkF m 396 (own_LA i0 i1 j2 n mm b (.val (.int r7)) (.val (.int sb.toInt32)) (.val (.int (own_r (own_g cl) r w (sb + 2)))) (.val (.int (own_w (own_g cl) w (sb + 2))))) []) := by
  have hj : sb.toInt32 + (2 : Int32) = (sb + 2).toInt32 := (Int32.ofNat_add sb 2).symm
  by_cases hw0 : w = (0 : Int32)
  · have er : (own_r (own_g cl) r w (sb + 2)) = (r ||| (0 : Int32)) := by unfold own_r; rw [if_neg (fun q => q.1 hw0)]
    have ewn : (own_w (own_g cl) w (sb + 2)) = (w &&& own_ws (own_g cl (sb + 2))) := rfl
    rw [er, ewn]
    obtain ⟨T2, W2, st2⟩ := own_at W0 hx hZ hw hby hml hown Z0 (q := 387) (Ls := (own_LA i0 i1 j2 n mm b (.val (.int r7)) (.val (.int sb.toInt32)) (.val (.int (r ||| (0 : Int32)))) (.val (.int w)))) rfl b cl (sb + 2) Ar Hi hsz (by omega) [(.int w)] (Nat.le_of_ble_eq_true rfl) at_387
    obtain ⟨T3, W3, st3⟩ := own_isWs W2 hx hZ hw hby hml hown Z0 (q := 390) (Ls := (own_LA i0 i1 j2 n mm b (.val (.int r7)) (.val (.int sb.toInt32)) (.val (.int (r ||| (0 : Int32)))) (.val (.int w)))) rfl (own_g cl (sb + 2)) [(.int w)] (Nat.le_of_ble_eq_true rfl) at_390
    have W3' := W3
    obtain ⟨locs, X0, e0, N0⟩ := W0
    obtain ⟨locs2, X2, e2, N2⟩ := W2
    obtain ⟨locs3, X3, e3, N3⟩ := W3'
    refine ⟨T3, W3, fun target kt => ?_⟩
    show Steps p.tables e below (T0.setTop (mkF m 350 (own_LA i0 i1 j2 n mm b (.val (.int r7)) (.val (.int sb.toInt32)) (.val (.int r)) (.val (.int w))) [])) _
    refine XS.iload X0.here hx rfl (hb hby at_350) rfl ?_
    show Steps p.tables e below (T0.setTop (mkF m 352 (own_LA i0 i1 j2 n mm b (.val (.int r7)) (.val (.int sb.toInt32)) (.val (.int r)) (.val (.int w))) [(.int r)])) _
    refine XS.iload X0.here hx rfl (hb hby at_352) rfl ?_
    show Steps p.tables e below (T0.setTop (mkF m 354 (own_LA i0 i1 j2 n mm b (.val (.int r7)) (.val (.int sb.toInt32)) (.val (.int r)) (.val (.int w))) [(.int w), (.int r)])) _
    refine XS.ifYes X0.here hx rfl (pc0 := 354) (pc' := 375) rfl (hb hby at_354) rfl ((if0 _ _).trans (teq hw0).1) (by decide) (by decide) ?_
    show Steps p.tables e below (T0.setTop (mkF m 375 (own_LA i0 i1 j2 n mm b (.val (.int r7)) (.val (.int sb.toInt32)) (.val (.int r)) (.val (.int w))) [(.int r)])) _
    refine XS.iconst X0.here hx rfl (hb hby at_375) ?_
    show Steps p.tables e below (T0.setTop (mkF m 376 (own_LA i0 i1 j2 n mm b (.val (.int r7)) (.val (.int sb.toInt32)) (.val (.int r)) (.val (.int w))) [(.int (0 : Int32)), (.int r)])) _
    refine XS.ior X0.here hx rfl (hb hby at_376) rfl ?_
    show Steps p.tables e below (T0.setTop (mkF m 377 (own_LA i0 i1 j2 n mm b (.val (.int r7)) (.val (.int sb.toInt32)) (.val (.int r)) (.val (.int w))) [(.int (r ||| (0 : Int32)))])) _
    refine XS.istore X0.here hx rfl (hb hby at_377) rfl (l' := (own_LA i0 i1 j2 n mm b (.val (.int r7)) (.val (.int sb.toInt32)) (.val (.int (r ||| (0 : Int32)))) (.val (.int w)))) rfl ?_
    show Steps p.tables e below (T0.setTop (mkF m 379 (own_LA i0 i1 j2 n mm b (.val (.int r7)) (.val (.int sb.toInt32)) (.val (.int (r ||| (0 : Int32)))) (.val (.int w))) [])) _
    refine XS.iload X0.here hx rfl (hb hby at_379) rfl ?_
    show Steps p.tables e below (T0.setTop (mkF m 381 (own_LA i0 i1 j2 n mm b (.val (.int r7)) (.val (.int sb.toInt32)) (.val (.int (r ||| (0 : Int32)))) (.val (.int w))) [(.int w)])) _
    refine XS.aload X0.here hx rfl (hb hby at_381) rfl rfl ?_
    show Steps p.tables e below (T0.setTop (mkF m 383 (own_LA i0 i1 j2 n mm b (.val (.int r7)) (.val (.int sb.toInt32)) (.val (.int (r ||| (0 : Int32)))) (.val (.int w))) [(.ref b), (.int w)])) _
    refine XS.iload X0.here hx rfl (hb hby at_383) rfl ?_
    show Steps p.tables e below (T0.setTop (mkF m 385 (own_LA i0 i1 j2 n mm b (.val (.int r7)) (.val (.int sb.toInt32)) (.val (.int (r ||| (0 : Int32)))) (.val (.int w))) [(.int sb.toInt32), (.ref b), (.int w)])) _
    refine XS.iconst X0.here hx rfl (hb hby at_385) ?_
    show Steps p.tables e below (T0.setTop (mkF m 386 (own_LA i0 i1 j2 n mm b (.val (.int r7)) (.val (.int sb.toInt32)) (.val (.int (r ||| (0 : Int32)))) (.val (.int w))) [(.int (2 : Int32)), (.int sb.toInt32), (.ref b), (.int w)])) _
    refine XS.iadd X0.here hx rfl (hb hby at_386) rfl ?_
    show Steps p.tables e below (T0.setTop (mkF m 387 (own_LA i0 i1 j2 n mm b (.val (.int r7)) (.val (.int sb.toInt32)) (.val (.int (r ||| (0 : Int32)))) (.val (.int w))) [(.int (sb.toInt32 + (2 : Int32))), (.ref b), (.int w)])) _
    rw [hj]
    refine st2 _ ?_
    show Steps p.tables e below (T2.setTop (mkF m 390 (own_LA i0 i1 j2 n mm b (.val (.int r7)) (.val (.int sb.toInt32)) (.val (.int (r ||| (0 : Int32)))) (.val (.int w))) [(.int (own_g cl (sb + 2))), (.int w)])) _
    refine st3 _ ?_
    show Steps p.tables e below (T3.setTop (mkF m 393 (own_LA i0 i1 j2 n mm b (.val (.int r7)) (.val (.int sb.toInt32)) (.val (.int (r ||| (0 : Int32)))) (.val (.int w))) [(.int (own_ws (own_g cl (sb + 2)))), (.int w)])) _
    refine XS.iand X3.here hx rfl (hb hby at_393) rfl ?_
    show Steps p.tables e below (T3.setTop (mkF m 394 (own_LA i0 i1 j2 n mm b (.val (.int r7)) (.val (.int sb.toInt32)) (.val (.int (r ||| (0 : Int32)))) (.val (.int w))) [(.int (w &&& (own_ws (own_g cl (sb + 2)))))])) _
    refine XS.istore X3.here hx rfl (hb hby at_394) rfl (l' := (own_LA i0 i1 j2 n mm b (.val (.int r7)) (.val (.int sb.toInt32)) (.val (.int (r ||| (0 : Int32)))) (.val (.int (w &&& (own_ws (own_g cl (sb + 2)))))))) rfl ?_
    exact kt
  by_cases h60 : (own_g cl (sb + 2)) = (60 : Int32)
  · have er : (own_r (own_g cl) r w (sb + 2)) = (r ||| (1 : Int32)) := by unfold own_r; rw [if_pos ⟨hw0, h60⟩]
    have ewn : (own_w (own_g cl) w (sb + 2)) = (w &&& own_ws (own_g cl (sb + 2))) := rfl
    rw [er, ewn]
    obtain ⟨T1, W1, st1⟩ := own_at W0 hx hZ hw hby hml hown Z0 (q := 363) (Ls := (own_LA i0 i1 j2 n mm b (.val (.int r7)) (.val (.int sb.toInt32)) (.val (.int r)) (.val (.int w)))) rfl b cl (sb + 2) Ar Hi hsz (by omega) [(.int r)] (Nat.le_of_ble_eq_true rfl) at_363
    obtain ⟨T2, W2, st2⟩ := own_at W1 hx hZ hw hby hml hown Z0 (q := 387) (Ls := (own_LA i0 i1 j2 n mm b (.val (.int r7)) (.val (.int sb.toInt32)) (.val (.int (r ||| (1 : Int32)))) (.val (.int w)))) rfl b cl (sb + 2) Ar Hi hsz (by omega) [(.int w)] (Nat.le_of_ble_eq_true rfl) at_387
    obtain ⟨T3, W3, st3⟩ := own_isWs W2 hx hZ hw hby hml hown Z0 (q := 390) (Ls := (own_LA i0 i1 j2 n mm b (.val (.int r7)) (.val (.int sb.toInt32)) (.val (.int (r ||| (1 : Int32)))) (.val (.int w)))) rfl (own_g cl (sb + 2)) [(.int w)] (Nat.le_of_ble_eq_true rfl) at_390
    have W3' := W3
    obtain ⟨locs, X0, e0, N0⟩ := W0
    obtain ⟨locs1, X1, e1, N1⟩ := W1
    obtain ⟨locs2, X2, e2, N2⟩ := W2
    obtain ⟨locs3, X3, e3, N3⟩ := W3'
    refine ⟨T3, W3, fun target kt => ?_⟩
    show Steps p.tables e below (T0.setTop (mkF m 350 (own_LA i0 i1 j2 n mm b (.val (.int r7)) (.val (.int sb.toInt32)) (.val (.int r)) (.val (.int w))) [])) _
    refine XS.iload X0.here hx rfl (hb hby at_350) rfl ?_
    show Steps p.tables e below (T0.setTop (mkF m 352 (own_LA i0 i1 j2 n mm b (.val (.int r7)) (.val (.int sb.toInt32)) (.val (.int r)) (.val (.int w))) [(.int r)])) _
    refine XS.iload X0.here hx rfl (hb hby at_352) rfl ?_
    show Steps p.tables e below (T0.setTop (mkF m 354 (own_LA i0 i1 j2 n mm b (.val (.int r7)) (.val (.int sb.toInt32)) (.val (.int r)) (.val (.int w))) [(.int w), (.int r)])) _
    refine XS.ifNo X0.here hx rfl (hb hby at_354) rfl ((if0 _ _).trans (feq hw0).1) ?_
    show Steps p.tables e below (T0.setTop (mkF m 357 (own_LA i0 i1 j2 n mm b (.val (.int r7)) (.val (.int sb.toInt32)) (.val (.int r)) (.val (.int w))) [(.int r)])) _
    refine XS.aload X0.here hx rfl (hb hby at_357) rfl rfl ?_
    show Steps p.tables e below (T0.setTop (mkF m 359 (own_LA i0 i1 j2 n mm b (.val (.int r7)) (.val (.int sb.toInt32)) (.val (.int r)) (.val (.int w))) [(.ref b), (.int r)])) _
    refine XS.iload X0.here hx rfl (hb hby at_359) rfl ?_
    show Steps p.tables e below (T0.setTop (mkF m 361 (own_LA i0 i1 j2 n mm b (.val (.int r7)) (.val (.int sb.toInt32)) (.val (.int r)) (.val (.int w))) [(.int sb.toInt32), (.ref b), (.int r)])) _
    refine XS.iconst X0.here hx rfl (hb hby at_361) ?_
    show Steps p.tables e below (T0.setTop (mkF m 362 (own_LA i0 i1 j2 n mm b (.val (.int r7)) (.val (.int sb.toInt32)) (.val (.int r)) (.val (.int w))) [(.int (2 : Int32)), (.int sb.toInt32), (.ref b), (.int r)])) _
    refine XS.iadd X0.here hx rfl (hb hby at_362) rfl ?_
    show Steps p.tables e below (T0.setTop (mkF m 363 (own_LA i0 i1 j2 n mm b (.val (.int r7)) (.val (.int sb.toInt32)) (.val (.int r)) (.val (.int w))) [(.int (sb.toInt32 + (2 : Int32))), (.ref b), (.int r)])) _
    rw [hj]
    refine st1 _ ?_
    show Steps p.tables e below (T1.setTop (mkF m 366 (own_LA i0 i1 j2 n mm b (.val (.int r7)) (.val (.int sb.toInt32)) (.val (.int r)) (.val (.int w))) [(.int (own_g cl (sb + 2))), (.int r)])) _
    refine XS.bipush X1.here hx rfl (hb hby at_366) ?_
    show Steps p.tables e below (T1.setTop (mkF m 368 (own_LA i0 i1 j2 n mm b (.val (.int r7)) (.val (.int sb.toInt32)) (.val (.int r)) (.val (.int w))) [(.int (60 : Int32)), (.int (own_g cl (sb + 2))), (.int r)])) _
    refine XS.icmpNo X1.here hx rfl (hb hby at_368) rfl (teq h60).2 ?_
    show Steps p.tables e below (T1.setTop (mkF m 371 (own_LA i0 i1 j2 n mm b (.val (.int r7)) (.val (.int sb.toInt32)) (.val (.int r)) (.val (.int w))) [(.int r)])) _
    refine XS.iconst X1.here hx rfl (hb hby at_371) ?_
    show Steps p.tables e below (T1.setTop (mkF m 372 (own_LA i0 i1 j2 n mm b (.val (.int r7)) (.val (.int sb.toInt32)) (.val (.int r)) (.val (.int w))) [(.int (1 : Int32)), (.int r)])) _
    refine XS.goto X1.here hx rfl (pc0 := 372) (pc' := 376) rfl (hb hby at_372) (by decide) (by decide) ?_
    show Steps p.tables e below (T1.setTop (mkF m 376 (own_LA i0 i1 j2 n mm b (.val (.int r7)) (.val (.int sb.toInt32)) (.val (.int r)) (.val (.int w))) [(.int (1 : Int32)), (.int r)])) _
    refine XS.ior X1.here hx rfl (hb hby at_376) rfl ?_
    show Steps p.tables e below (T1.setTop (mkF m 377 (own_LA i0 i1 j2 n mm b (.val (.int r7)) (.val (.int sb.toInt32)) (.val (.int r)) (.val (.int w))) [(.int (r ||| (1 : Int32)))])) _
    refine XS.istore X1.here hx rfl (hb hby at_377) rfl (l' := (own_LA i0 i1 j2 n mm b (.val (.int r7)) (.val (.int sb.toInt32)) (.val (.int (r ||| (1 : Int32)))) (.val (.int w)))) rfl ?_
    show Steps p.tables e below (T1.setTop (mkF m 379 (own_LA i0 i1 j2 n mm b (.val (.int r7)) (.val (.int sb.toInt32)) (.val (.int (r ||| (1 : Int32)))) (.val (.int w))) [])) _
    refine XS.iload X1.here hx rfl (hb hby at_379) rfl ?_
    show Steps p.tables e below (T1.setTop (mkF m 381 (own_LA i0 i1 j2 n mm b (.val (.int r7)) (.val (.int sb.toInt32)) (.val (.int (r ||| (1 : Int32)))) (.val (.int w))) [(.int w)])) _
    refine XS.aload X1.here hx rfl (hb hby at_381) rfl rfl ?_
    show Steps p.tables e below (T1.setTop (mkF m 383 (own_LA i0 i1 j2 n mm b (.val (.int r7)) (.val (.int sb.toInt32)) (.val (.int (r ||| (1 : Int32)))) (.val (.int w))) [(.ref b), (.int w)])) _
    refine XS.iload X1.here hx rfl (hb hby at_383) rfl ?_
    show Steps p.tables e below (T1.setTop (mkF m 385 (own_LA i0 i1 j2 n mm b (.val (.int r7)) (.val (.int sb.toInt32)) (.val (.int (r ||| (1 : Int32)))) (.val (.int w))) [(.int sb.toInt32), (.ref b), (.int w)])) _
    refine XS.iconst X1.here hx rfl (hb hby at_385) ?_
    show Steps p.tables e below (T1.setTop (mkF m 386 (own_LA i0 i1 j2 n mm b (.val (.int r7)) (.val (.int sb.toInt32)) (.val (.int (r ||| (1 : Int32)))) (.val (.int w))) [(.int (2 : Int32)), (.int sb.toInt32), (.ref b), (.int w)])) _
    refine XS.iadd X1.here hx rfl (hb hby at_386) rfl ?_
    show Steps p.tables e below (T1.setTop (mkF m 387 (own_LA i0 i1 j2 n mm b (.val (.int r7)) (.val (.int sb.toInt32)) (.val (.int (r ||| (1 : Int32)))) (.val (.int w))) [(.int (sb.toInt32 + (2 : Int32))), (.ref b), (.int w)])) _
    rw [hj]
    refine st2 _ ?_
    show Steps p.tables e below (T2.setTop (mkF m 390 (own_LA i0 i1 j2 n mm b (.val (.int r7)) (.val (.int sb.toInt32)) (.val (.int (r ||| (1 : Int32)))) (.val (.int w))) [(.int (own_g cl (sb + 2))), (.int w)])) _
    refine st3 _ ?_
    show Steps p.tables e below (T3.setTop (mkF m 393 (own_LA i0 i1 j2 n mm b (.val (.int r7)) (.val (.int sb.toInt32)) (.val (.int (r ||| (1 : Int32)))) (.val (.int w))) [(.int (own_ws (own_g cl (sb + 2)))), (.int w)])) _
    refine XS.iand X3.here hx rfl (hb hby at_393) rfl ?_
    show Steps p.tables e below (T3.setTop (mkF m 394 (own_LA i0 i1 j2 n mm b (.val (.int r7)) (.val (.int sb.toInt32)) (.val (.int (r ||| (1 : Int32)))) (.val (.int w))) [(.int (w &&& (own_ws (own_g cl (sb + 2)))))])) _
    refine XS.istore X3.here hx rfl (hb hby at_394) rfl (l' := (own_LA i0 i1 j2 n mm b (.val (.int r7)) (.val (.int sb.toInt32)) (.val (.int (r ||| (1 : Int32)))) (.val (.int (w &&& (own_ws (own_g cl (sb + 2)))))))) rfl ?_
    exact kt
  · have er : (own_r (own_g cl) r w (sb + 2)) = (r ||| (0 : Int32)) := by unfold own_r; rw [if_neg (fun q => h60 q.2)]
    have ewn : (own_w (own_g cl) w (sb + 2)) = (w &&& own_ws (own_g cl (sb + 2))) := rfl
    rw [er, ewn]
    obtain ⟨T1, W1, st1⟩ := own_at W0 hx hZ hw hby hml hown Z0 (q := 363) (Ls := (own_LA i0 i1 j2 n mm b (.val (.int r7)) (.val (.int sb.toInt32)) (.val (.int r)) (.val (.int w)))) rfl b cl (sb + 2) Ar Hi hsz (by omega) [(.int r)] (Nat.le_of_ble_eq_true rfl) at_363
    obtain ⟨T2, W2, st2⟩ := own_at W1 hx hZ hw hby hml hown Z0 (q := 387) (Ls := (own_LA i0 i1 j2 n mm b (.val (.int r7)) (.val (.int sb.toInt32)) (.val (.int (r ||| (0 : Int32)))) (.val (.int w)))) rfl b cl (sb + 2) Ar Hi hsz (by omega) [(.int w)] (Nat.le_of_ble_eq_true rfl) at_387
    obtain ⟨T3, W3, st3⟩ := own_isWs W2 hx hZ hw hby hml hown Z0 (q := 390) (Ls := (own_LA i0 i1 j2 n mm b (.val (.int r7)) (.val (.int sb.toInt32)) (.val (.int (r ||| (0 : Int32)))) (.val (.int w)))) rfl (own_g cl (sb + 2)) [(.int w)] (Nat.le_of_ble_eq_true rfl) at_390
    have W3' := W3
    obtain ⟨locs, X0, e0, N0⟩ := W0
    obtain ⟨locs1, X1, e1, N1⟩ := W1
    obtain ⟨locs2, X2, e2, N2⟩ := W2
    obtain ⟨locs3, X3, e3, N3⟩ := W3'
    refine ⟨T3, W3, fun target kt => ?_⟩
    show Steps p.tables e below (T0.setTop (mkF m 350 (own_LA i0 i1 j2 n mm b (.val (.int r7)) (.val (.int sb.toInt32)) (.val (.int r)) (.val (.int w))) [])) _
    refine XS.iload X0.here hx rfl (hb hby at_350) rfl ?_
    show Steps p.tables e below (T0.setTop (mkF m 352 (own_LA i0 i1 j2 n mm b (.val (.int r7)) (.val (.int sb.toInt32)) (.val (.int r)) (.val (.int w))) [(.int r)])) _
    refine XS.iload X0.here hx rfl (hb hby at_352) rfl ?_
    show Steps p.tables e below (T0.setTop (mkF m 354 (own_LA i0 i1 j2 n mm b (.val (.int r7)) (.val (.int sb.toInt32)) (.val (.int r)) (.val (.int w))) [(.int w), (.int r)])) _
    refine XS.ifNo X0.here hx rfl (hb hby at_354) rfl ((if0 _ _).trans (feq hw0).1) ?_
    show Steps p.tables e below (T0.setTop (mkF m 357 (own_LA i0 i1 j2 n mm b (.val (.int r7)) (.val (.int sb.toInt32)) (.val (.int r)) (.val (.int w))) [(.int r)])) _
    refine XS.aload X0.here hx rfl (hb hby at_357) rfl rfl ?_
    show Steps p.tables e below (T0.setTop (mkF m 359 (own_LA i0 i1 j2 n mm b (.val (.int r7)) (.val (.int sb.toInt32)) (.val (.int r)) (.val (.int w))) [(.ref b), (.int r)])) _
    refine XS.iload X0.here hx rfl (hb hby at_359) rfl ?_
    show Steps p.tables e below (T0.setTop (mkF m 361 (own_LA i0 i1 j2 n mm b (.val (.int r7)) (.val (.int sb.toInt32)) (.val (.int r)) (.val (.int w))) [(.int sb.toInt32), (.ref b), (.int r)])) _
    refine XS.iconst X0.here hx rfl (hb hby at_361) ?_
    show Steps p.tables e below (T0.setTop (mkF m 362 (own_LA i0 i1 j2 n mm b (.val (.int r7)) (.val (.int sb.toInt32)) (.val (.int r)) (.val (.int w))) [(.int (2 : Int32)), (.int sb.toInt32), (.ref b), (.int r)])) _
    refine XS.iadd X0.here hx rfl (hb hby at_362) rfl ?_
    show Steps p.tables e below (T0.setTop (mkF m 363 (own_LA i0 i1 j2 n mm b (.val (.int r7)) (.val (.int sb.toInt32)) (.val (.int r)) (.val (.int w))) [(.int (sb.toInt32 + (2 : Int32))), (.ref b), (.int r)])) _
    rw [hj]
    refine st1 _ ?_
    show Steps p.tables e below (T1.setTop (mkF m 366 (own_LA i0 i1 j2 n mm b (.val (.int r7)) (.val (.int sb.toInt32)) (.val (.int r)) (.val (.int w))) [(.int (own_g cl (sb + 2))), (.int r)])) _
    refine XS.bipush X1.here hx rfl (hb hby at_366) ?_
    show Steps p.tables e below (T1.setTop (mkF m 368 (own_LA i0 i1 j2 n mm b (.val (.int r7)) (.val (.int sb.toInt32)) (.val (.int r)) (.val (.int w))) [(.int (60 : Int32)), (.int (own_g cl (sb + 2))), (.int r)])) _
    refine XS.icmpYes X1.here hx rfl (pc0 := 368) (pc' := 375) rfl (hb hby at_368) rfl (feq h60).2 (by decide) (by decide) ?_
    show Steps p.tables e below (T1.setTop (mkF m 375 (own_LA i0 i1 j2 n mm b (.val (.int r7)) (.val (.int sb.toInt32)) (.val (.int r)) (.val (.int w))) [(.int r)])) _
    refine XS.iconst X1.here hx rfl (hb hby at_375) ?_
    show Steps p.tables e below (T1.setTop (mkF m 376 (own_LA i0 i1 j2 n mm b (.val (.int r7)) (.val (.int sb.toInt32)) (.val (.int r)) (.val (.int w))) [(.int (0 : Int32)), (.int r)])) _
    refine XS.ior X1.here hx rfl (hb hby at_376) rfl ?_
    show Steps p.tables e below (T1.setTop (mkF m 377 (own_LA i0 i1 j2 n mm b (.val (.int r7)) (.val (.int sb.toInt32)) (.val (.int r)) (.val (.int w))) [(.int (r ||| (0 : Int32)))])) _
    refine XS.istore X1.here hx rfl (hb hby at_377) rfl (l' := (own_LA i0 i1 j2 n mm b (.val (.int r7)) (.val (.int sb.toInt32)) (.val (.int (r ||| (0 : Int32)))) (.val (.int w)))) rfl ?_
    show Steps p.tables e below (T1.setTop (mkF m 379 (own_LA i0 i1 j2 n mm b (.val (.int r7)) (.val (.int sb.toInt32)) (.val (.int (r ||| (0 : Int32)))) (.val (.int w))) [])) _
    refine XS.iload X1.here hx rfl (hb hby at_379) rfl ?_
    show Steps p.tables e below (T1.setTop (mkF m 381 (own_LA i0 i1 j2 n mm b (.val (.int r7)) (.val (.int sb.toInt32)) (.val (.int (r ||| (0 : Int32)))) (.val (.int w))) [(.int w)])) _
    refine XS.aload X1.here hx rfl (hb hby at_381) rfl rfl ?_
    show Steps p.tables e below (T1.setTop (mkF m 383 (own_LA i0 i1 j2 n mm b (.val (.int r7)) (.val (.int sb.toInt32)) (.val (.int (r ||| (0 : Int32)))) (.val (.int w))) [(.ref b), (.int w)])) _
    refine XS.iload X1.here hx rfl (hb hby at_383) rfl ?_
    show Steps p.tables e below (T1.setTop (mkF m 385 (own_LA i0 i1 j2 n mm b (.val (.int r7)) (.val (.int sb.toInt32)) (.val (.int (r ||| (0 : Int32)))) (.val (.int w))) [(.int sb.toInt32), (.ref b), (.int w)])) _
    refine XS.iconst X1.here hx rfl (hb hby at_385) ?_
    show Steps p.tables e below (T1.setTop (mkF m 386 (own_LA i0 i1 j2 n mm b (.val (.int r7)) (.val (.int sb.toInt32)) (.val (.int (r ||| (0 : Int32)))) (.val (.int w))) [(.int (2 : Int32)), (.int sb.toInt32), (.ref b), (.int w)])) _
    refine XS.iadd X1.here hx rfl (hb hby at_386) rfl ?_
    show Steps p.tables e below (T1.setTop (mkF m 387 (own_LA i0 i1 j2 n mm b (.val (.int r7)) (.val (.int sb.toInt32)) (.val (.int (r ||| (0 : Int32)))) (.val (.int w))) [(.int (sb.toInt32 + (2 : Int32))), (.ref b), (.int w)])) _
    rw [hj]
    refine st2 _ ?_
    show Steps p.tables e below (T2.setTop (mkF m 390 (own_LA i0 i1 j2 n mm b (.val (.int r7)) (.val (.int sb.toInt32)) (.val (.int (r ||| (0 : Int32)))) (.val (.int w))) [(.int (own_g cl (sb + 2))), (.int w)])) _
    refine st3 _ ?_
    show Steps p.tables e below (T3.setTop (mkF m 393 (own_LA i0 i1 j2 n mm b (.val (.int r7)) (.val (.int sb.toInt32)) (.val (.int (r ||| (0 : Int32)))) (.val (.int w))) [(.int (own_ws (own_g cl (sb + 2)))), (.int w)])) _
    refine XS.iand X3.here hx rfl (hb hby at_393) rfl ?_
    show Steps p.tables e below (T3.setTop (mkF m 394 (own_LA i0 i1 j2 n mm b (.val (.int r7)) (.val (.int sb.toInt32)) (.val (.int (r ||| (0 : Int32)))) (.val (.int w))) [(.int (w &&& (own_ws (own_g cl (sb + 2)))))])) _
    refine XS.istore X3.here hx rfl (hb hby at_394) rfl (l' := (own_LA i0 i1 j2 n mm b (.val (.int r7)) (.val (.int sb.toInt32)) (.val (.int (r ||| (0 : Int32)))) (.val (.int (w &&& (own_ws (own_g cl (sb + 2)))))))) rfl ?_
    exact kt
set_option maxRecDepth 65536 in
set_option maxHeartbeats 40000000 in
theorem own_rd3 (W0 : own_W p l e s m args below meth c n0 T0 h0) (hx : p.tables.exec = Jvm.exec) (hZ : Z.Warmed39 s.vm) (hw : ∀ d ∈ tables_1, d.before a0 Z = true) (hby : c.code = code) (hml : c.maxLocals = 11) (hown : s.vm.findClass "com/example/plinth/plinth/cli/InputFileIsXmlPinLaw" = some m.cls) (Z0 : n0 ≤ h0.size) (i0 i1 : Int32) (j2 : Int64) (n mm : Int32) (b : Addr) (r7 : Int32) (cl : Cell) (Ar : Arr Z h0 b cl .byte) (Hi : own_ints cl) (hsz : cl.slots.size ≤ 8) (sb : Nat) (hsb : sb ≤ 3) (r w : Int32) :
    ∃ (T' : State), own_W p l e s m args below meth c n0 T' h0 ∧ own_Ld p e below T0 (mkF m 396 (own_LA i0 i1 j2 n mm b (.val (.int r7)) (.val (.int sb.toInt32)) (.val (.int r)) (.val (.int w))) []) T' (mkF m 442 (own_LA i0 i1 j2 n mm b (.val (.int r7)) (.val (.int sb.toInt32)) (.val (.int (own_r (own_g cl) r w (sb + 3)))) (.val (.int (own_w (own_g cl) w (sb + 3))))) []) := by
  have hj : sb.toInt32 + (3 : Int32) = (sb + 3).toInt32 := (Int32.ofNat_add sb 3).symm
  by_cases hw0 : w = (0 : Int32)
  · have er : (own_r (own_g cl) r w (sb + 3)) = (r ||| (0 : Int32)) := by unfold own_r; rw [if_neg (fun q => q.1 hw0)]
    have ewn : (own_w (own_g cl) w (sb + 3)) = (w &&& own_ws (own_g cl (sb + 3))) := rfl
    rw [er, ewn]
    obtain ⟨T2, W2, st2⟩ := own_at W0 hx hZ hw hby hml hown Z0 (q := 433) (Ls := (own_LA i0 i1 j2 n mm b (.val (.int r7)) (.val (.int sb.toInt32)) (.val (.int (r ||| (0 : Int32)))) (.val (.int w)))) rfl b cl (sb + 3) Ar Hi hsz (by omega) [(.int w)] (Nat.le_of_ble_eq_true rfl) at_433
    obtain ⟨T3, W3, st3⟩ := own_isWs W2 hx hZ hw hby hml hown Z0 (q := 436) (Ls := (own_LA i0 i1 j2 n mm b (.val (.int r7)) (.val (.int sb.toInt32)) (.val (.int (r ||| (0 : Int32)))) (.val (.int w)))) rfl (own_g cl (sb + 3)) [(.int w)] (Nat.le_of_ble_eq_true rfl) at_436
    have W3' := W3
    obtain ⟨locs, X0, e0, N0⟩ := W0
    obtain ⟨locs2, X2, e2, N2⟩ := W2
    obtain ⟨locs3, X3, e3, N3⟩ := W3'
    refine ⟨T3, W3, fun target kt => ?_⟩
    show Steps p.tables e below (T0.setTop (mkF m 396 (own_LA i0 i1 j2 n mm b (.val (.int r7)) (.val (.int sb.toInt32)) (.val (.int r)) (.val (.int w))) [])) _
    refine XS.iload X0.here hx rfl (hb hby at_396) rfl ?_
    show Steps p.tables e below (T0.setTop (mkF m 398 (own_LA i0 i1 j2 n mm b (.val (.int r7)) (.val (.int sb.toInt32)) (.val (.int r)) (.val (.int w))) [(.int r)])) _
    refine XS.iload X0.here hx rfl (hb hby at_398) rfl ?_
    show Steps p.tables e below (T0.setTop (mkF m 400 (own_LA i0 i1 j2 n mm b (.val (.int r7)) (.val (.int sb.toInt32)) (.val (.int r)) (.val (.int w))) [(.int w), (.int r)])) _
    refine XS.ifYes X0.here hx rfl (pc0 := 400) (pc' := 421) rfl (hb hby at_400) rfl ((if0 _ _).trans (teq hw0).1) (by decide) (by decide) ?_
    show Steps p.tables e below (T0.setTop (mkF m 421 (own_LA i0 i1 j2 n mm b (.val (.int r7)) (.val (.int sb.toInt32)) (.val (.int r)) (.val (.int w))) [(.int r)])) _
    refine XS.iconst X0.here hx rfl (hb hby at_421) ?_
    show Steps p.tables e below (T0.setTop (mkF m 422 (own_LA i0 i1 j2 n mm b (.val (.int r7)) (.val (.int sb.toInt32)) (.val (.int r)) (.val (.int w))) [(.int (0 : Int32)), (.int r)])) _
    refine XS.ior X0.here hx rfl (hb hby at_422) rfl ?_
    show Steps p.tables e below (T0.setTop (mkF m 423 (own_LA i0 i1 j2 n mm b (.val (.int r7)) (.val (.int sb.toInt32)) (.val (.int r)) (.val (.int w))) [(.int (r ||| (0 : Int32)))])) _
    refine XS.istore X0.here hx rfl (hb hby at_423) rfl (l' := (own_LA i0 i1 j2 n mm b (.val (.int r7)) (.val (.int sb.toInt32)) (.val (.int (r ||| (0 : Int32)))) (.val (.int w)))) rfl ?_
    show Steps p.tables e below (T0.setTop (mkF m 425 (own_LA i0 i1 j2 n mm b (.val (.int r7)) (.val (.int sb.toInt32)) (.val (.int (r ||| (0 : Int32)))) (.val (.int w))) [])) _
    refine XS.iload X0.here hx rfl (hb hby at_425) rfl ?_
    show Steps p.tables e below (T0.setTop (mkF m 427 (own_LA i0 i1 j2 n mm b (.val (.int r7)) (.val (.int sb.toInt32)) (.val (.int (r ||| (0 : Int32)))) (.val (.int w))) [(.int w)])) _
    refine XS.aload X0.here hx rfl (hb hby at_427) rfl rfl ?_
    show Steps p.tables e below (T0.setTop (mkF m 429 (own_LA i0 i1 j2 n mm b (.val (.int r7)) (.val (.int sb.toInt32)) (.val (.int (r ||| (0 : Int32)))) (.val (.int w))) [(.ref b), (.int w)])) _
    refine XS.iload X0.here hx rfl (hb hby at_429) rfl ?_
    show Steps p.tables e below (T0.setTop (mkF m 431 (own_LA i0 i1 j2 n mm b (.val (.int r7)) (.val (.int sb.toInt32)) (.val (.int (r ||| (0 : Int32)))) (.val (.int w))) [(.int sb.toInt32), (.ref b), (.int w)])) _
    refine XS.iconst X0.here hx rfl (hb hby at_431) ?_
    show Steps p.tables e below (T0.setTop (mkF m 432 (own_LA i0 i1 j2 n mm b (.val (.int r7)) (.val (.int sb.toInt32)) (.val (.int (r ||| (0 : Int32)))) (.val (.int w))) [(.int (3 : Int32)), (.int sb.toInt32), (.ref b), (.int w)])) _
    refine XS.iadd X0.here hx rfl (hb hby at_432) rfl ?_
    show Steps p.tables e below (T0.setTop (mkF m 433 (own_LA i0 i1 j2 n mm b (.val (.int r7)) (.val (.int sb.toInt32)) (.val (.int (r ||| (0 : Int32)))) (.val (.int w))) [(.int (sb.toInt32 + (3 : Int32))), (.ref b), (.int w)])) _
    rw [hj]
    refine st2 _ ?_
    show Steps p.tables e below (T2.setTop (mkF m 436 (own_LA i0 i1 j2 n mm b (.val (.int r7)) (.val (.int sb.toInt32)) (.val (.int (r ||| (0 : Int32)))) (.val (.int w))) [(.int (own_g cl (sb + 3))), (.int w)])) _
    refine st3 _ ?_
    show Steps p.tables e below (T3.setTop (mkF m 439 (own_LA i0 i1 j2 n mm b (.val (.int r7)) (.val (.int sb.toInt32)) (.val (.int (r ||| (0 : Int32)))) (.val (.int w))) [(.int (own_ws (own_g cl (sb + 3)))), (.int w)])) _
    refine XS.iand X3.here hx rfl (hb hby at_439) rfl ?_
    show Steps p.tables e below (T3.setTop (mkF m 440 (own_LA i0 i1 j2 n mm b (.val (.int r7)) (.val (.int sb.toInt32)) (.val (.int (r ||| (0 : Int32)))) (.val (.int w))) [(.int (w &&& (own_ws (own_g cl (sb + 3)))))])) _
    refine XS.istore X3.here hx rfl (hb hby at_440) rfl (l' := (own_LA i0 i1 j2 n mm b (.val (.int r7)) (.val (.int sb.toInt32)) (.val (.int (r ||| (0 : Int32)))) (.val (.int (w &&& (own_ws (own_g cl (sb + 3)))))))) rfl ?_
    exact kt
  by_cases h60 : (own_g cl (sb + 3)) = (60 : Int32)
  · have er : (own_r (own_g cl) r w (sb + 3)) = (r ||| (1 : Int32)) := by unfold own_r; rw [if_pos ⟨hw0, h60⟩]
    have ewn : (own_w (own_g cl) w (sb + 3)) = (w &&& own_ws (own_g cl (sb + 3))) := rfl
    rw [er, ewn]
    obtain ⟨T1, W1, st1⟩ := own_at W0 hx hZ hw hby hml hown Z0 (q := 409) (Ls := (own_LA i0 i1 j2 n mm b (.val (.int r7)) (.val (.int sb.toInt32)) (.val (.int r)) (.val (.int w)))) rfl b cl (sb + 3) Ar Hi hsz (by omega) [(.int r)] (Nat.le_of_ble_eq_true rfl) at_409
    obtain ⟨T2, W2, st2⟩ := own_at W1 hx hZ hw hby hml hown Z0 (q := 433) (Ls := (own_LA i0 i1 j2 n mm b (.val (.int r7)) (.val (.int sb.toInt32)) (.val (.int (r ||| (1 : Int32)))) (.val (.int w)))) rfl b cl (sb + 3) Ar Hi hsz (by omega) [(.int w)] (Nat.le_of_ble_eq_true rfl) at_433
    obtain ⟨T3, W3, st3⟩ := own_isWs W2 hx hZ hw hby hml hown Z0 (q := 436) (Ls := (own_LA i0 i1 j2 n mm b (.val (.int r7)) (.val (.int sb.toInt32)) (.val (.int (r ||| (1 : Int32)))) (.val (.int w)))) rfl (own_g cl (sb + 3)) [(.int w)] (Nat.le_of_ble_eq_true rfl) at_436
    have W3' := W3
    obtain ⟨locs, X0, e0, N0⟩ := W0
    obtain ⟨locs1, X1, e1, N1⟩ := W1
    obtain ⟨locs2, X2, e2, N2⟩ := W2
    obtain ⟨locs3, X3, e3, N3⟩ := W3'
    refine ⟨T3, W3, fun target kt => ?_⟩
    show Steps p.tables e below (T0.setTop (mkF m 396 (own_LA i0 i1 j2 n mm b (.val (.int r7)) (.val (.int sb.toInt32)) (.val (.int r)) (.val (.int w))) [])) _
    refine XS.iload X0.here hx rfl (hb hby at_396) rfl ?_
    show Steps p.tables e below (T0.setTop (mkF m 398 (own_LA i0 i1 j2 n mm b (.val (.int r7)) (.val (.int sb.toInt32)) (.val (.int r)) (.val (.int w))) [(.int r)])) _
    refine XS.iload X0.here hx rfl (hb hby at_398) rfl ?_
    show Steps p.tables e below (T0.setTop (mkF m 400 (own_LA i0 i1 j2 n mm b (.val (.int r7)) (.val (.int sb.toInt32)) (.val (.int r)) (.val (.int w))) [(.int w), (.int r)])) _
    refine XS.ifNo X0.here hx rfl (hb hby at_400) rfl ((if0 _ _).trans (feq hw0).1) ?_
    show Steps p.tables e below (T0.setTop (mkF m 403 (own_LA i0 i1 j2 n mm b (.val (.int r7)) (.val (.int sb.toInt32)) (.val (.int r)) (.val (.int w))) [(.int r)])) _
    refine XS.aload X0.here hx rfl (hb hby at_403) rfl rfl ?_
    show Steps p.tables e below (T0.setTop (mkF m 405 (own_LA i0 i1 j2 n mm b (.val (.int r7)) (.val (.int sb.toInt32)) (.val (.int r)) (.val (.int w))) [(.ref b), (.int r)])) _
    refine XS.iload X0.here hx rfl (hb hby at_405) rfl ?_
    show Steps p.tables e below (T0.setTop (mkF m 407 (own_LA i0 i1 j2 n mm b (.val (.int r7)) (.val (.int sb.toInt32)) (.val (.int r)) (.val (.int w))) [(.int sb.toInt32), (.ref b), (.int r)])) _
    refine XS.iconst X0.here hx rfl (hb hby at_407) ?_
    show Steps p.tables e below (T0.setTop (mkF m 408 (own_LA i0 i1 j2 n mm b (.val (.int r7)) (.val (.int sb.toInt32)) (.val (.int r)) (.val (.int w))) [(.int (3 : Int32)), (.int sb.toInt32), (.ref b), (.int r)])) _
    refine XS.iadd X0.here hx rfl (hb hby at_408) rfl ?_
    show Steps p.tables e below (T0.setTop (mkF m 409 (own_LA i0 i1 j2 n mm b (.val (.int r7)) (.val (.int sb.toInt32)) (.val (.int r)) (.val (.int w))) [(.int (sb.toInt32 + (3 : Int32))), (.ref b), (.int r)])) _
    rw [hj]
    refine st1 _ ?_
    show Steps p.tables e below (T1.setTop (mkF m 412 (own_LA i0 i1 j2 n mm b (.val (.int r7)) (.val (.int sb.toInt32)) (.val (.int r)) (.val (.int w))) [(.int (own_g cl (sb + 3))), (.int r)])) _
    refine XS.bipush X1.here hx rfl (hb hby at_412) ?_
    show Steps p.tables e below (T1.setTop (mkF m 414 (own_LA i0 i1 j2 n mm b (.val (.int r7)) (.val (.int sb.toInt32)) (.val (.int r)) (.val (.int w))) [(.int (60 : Int32)), (.int (own_g cl (sb + 3))), (.int r)])) _
    refine XS.icmpNo X1.here hx rfl (hb hby at_414) rfl (teq h60).2 ?_
    show Steps p.tables e below (T1.setTop (mkF m 417 (own_LA i0 i1 j2 n mm b (.val (.int r7)) (.val (.int sb.toInt32)) (.val (.int r)) (.val (.int w))) [(.int r)])) _
    refine XS.iconst X1.here hx rfl (hb hby at_417) ?_
    show Steps p.tables e below (T1.setTop (mkF m 418 (own_LA i0 i1 j2 n mm b (.val (.int r7)) (.val (.int sb.toInt32)) (.val (.int r)) (.val (.int w))) [(.int (1 : Int32)), (.int r)])) _
    refine XS.goto X1.here hx rfl (pc0 := 418) (pc' := 422) rfl (hb hby at_418) (by decide) (by decide) ?_
    show Steps p.tables e below (T1.setTop (mkF m 422 (own_LA i0 i1 j2 n mm b (.val (.int r7)) (.val (.int sb.toInt32)) (.val (.int r)) (.val (.int w))) [(.int (1 : Int32)), (.int r)])) _
    refine XS.ior X1.here hx rfl (hb hby at_422) rfl ?_
    show Steps p.tables e below (T1.setTop (mkF m 423 (own_LA i0 i1 j2 n mm b (.val (.int r7)) (.val (.int sb.toInt32)) (.val (.int r)) (.val (.int w))) [(.int (r ||| (1 : Int32)))])) _
    refine XS.istore X1.here hx rfl (hb hby at_423) rfl (l' := (own_LA i0 i1 j2 n mm b (.val (.int r7)) (.val (.int sb.toInt32)) (.val (.int (r ||| (1 : Int32)))) (.val (.int w)))) rfl ?_
    show Steps p.tables e below (T1.setTop (mkF m 425 (own_LA i0 i1 j2 n mm b (.val (.int r7)) (.val (.int sb.toInt32)) (.val (.int (r ||| (1 : Int32)))) (.val (.int w))) [])) _
    refine XS.iload X1.here hx rfl (hb hby at_425) rfl ?_
    show Steps p.tables e below (T1.setTop (mkF m 427 (own_LA i0 i1 j2 n mm b (.val (.int r7)) (.val (.int sb.toInt32)) (.val (.int (r ||| (1 : Int32)))) (.val (.int w))) [(.int w)])) _
    refine XS.aload X1.here hx rfl (hb hby at_427) rfl rfl ?_
    show Steps p.tables e below (T1.setTop (mkF m 429 (own_LA i0 i1 j2 n mm b (.val (.int r7)) (.val (.int sb.toInt32)) (.val (.int (r ||| (1 : Int32)))) (.val (.int w))) [(.ref b), (.int w)])) _
    refine XS.iload X1.here hx rfl (hb hby at_429) rfl ?_
    show Steps p.tables e below (T1.setTop (mkF m 431 (own_LA i0 i1 j2 n mm b (.val (.int r7)) (.val (.int sb.toInt32)) (.val (.int (r ||| (1 : Int32)))) (.val (.int w))) [(.int sb.toInt32), (.ref b), (.int w)])) _
    refine XS.iconst X1.here hx rfl (hb hby at_431) ?_
    show Steps p.tables e below (T1.setTop (mkF m 432 (own_LA i0 i1 j2 n mm b (.val (.int r7)) (.val (.int sb.toInt32)) (.val (.int (r ||| (1 : Int32)))) (.val (.int w))) [(.int (3 : Int32)), (.int sb.toInt32), (.ref b), (.int w)])) _
    refine XS.iadd X1.here hx rfl (hb hby at_432) rfl ?_
    show Steps p.tables e below (T1.setTop (mkF m 433 (own_LA i0 i1 j2 n mm b (.val (.int r7)) (.val (.int sb.toInt32)) (.val (.int (r ||| (1 : Int32)))) (.val (.int w))) [(.int (sb.toInt32 + (3 : Int32))), (.ref b), (.int w)])) _
    rw [hj]
    refine st2 _ ?_
    show Steps p.tables e below (T2.setTop (mkF m 436 (own_LA i0 i1 j2 n mm b (.val (.int r7)) (.val (.int sb.toInt32)) (.val (.int (r ||| (1 : Int32)))) (.val (.int w))) [(.int (own_g cl (sb + 3))), (.int w)])) _
    refine st3 _ ?_
    show Steps p.tables e below (T3.setTop (mkF m 439 (own_LA i0 i1 j2 n mm b (.val (.int r7)) (.val (.int sb.toInt32)) (.val (.int (r ||| (1 : Int32)))) (.val (.int w))) [(.int (own_ws (own_g cl (sb + 3)))), (.int w)])) _
    refine XS.iand X3.here hx rfl (hb hby at_439) rfl ?_
    show Steps p.tables e below (T3.setTop (mkF m 440 (own_LA i0 i1 j2 n mm b (.val (.int r7)) (.val (.int sb.toInt32)) (.val (.int (r ||| (1 : Int32)))) (.val (.int w))) [(.int (w &&& (own_ws (own_g cl (sb + 3)))))])) _
    refine XS.istore X3.here hx rfl (hb hby at_440) rfl (l' := (own_LA i0 i1 j2 n mm b (.val (.int r7)) (.val (.int sb.toInt32)) (.val (.int (r ||| (1 : Int32)))) (.val (.int (w &&& (own_ws (own_g cl (sb + 3)))))))) rfl ?_
    exact kt
  · have er : (own_r (own_g cl) r w (sb + 3)) = (r ||| (0 : Int32)) := by unfold own_r; rw [if_neg (fun q => h60 q.2)]
    have ewn : (own_w (own_g cl) w (sb + 3)) = (w &&& own_ws (own_g cl (sb + 3))) := rfl
    rw [er, ewn]
    obtain ⟨T1, W1, st1⟩ := own_at W0 hx hZ hw hby hml hown Z0 (q := 409) (Ls := (own_LA i0 i1 j2 n mm b (.val (.int r7)) (.val (.int sb.toInt32)) (.val (.int r)) (.val (.int w)))) rfl b cl (sb + 3) Ar Hi hsz (by omega) [(.int r)] (Nat.le_of_ble_eq_true rfl) at_409
    obtain ⟨T2, W2, st2⟩ := own_at W1 hx hZ hw hby hml hown Z0 (q := 433) (Ls := (own_LA i0 i1 j2 n mm b (.val (.int r7)) (.val (.int sb.toInt32)) (.val (.int (r ||| (0 : Int32)))) (.val (.int w)))) rfl b cl (sb + 3) Ar Hi hsz (by omega) [(.int w)] (Nat.le_of_ble_eq_true rfl) at_433
    obtain ⟨T3, W3, st3⟩ := own_isWs W2 hx hZ hw hby hml hown Z0 (q := 436) (Ls := (own_LA i0 i1 j2 n mm b (.val (.int r7)) (.val (.int sb.toInt32)) (.val (.int (r ||| (0 : Int32)))) (.val (.int w)))) rfl (own_g cl (sb + 3)) [(.int w)] (Nat.le_of_ble_eq_true rfl) at_436
    have W3' := W3
    obtain ⟨locs, X0, e0, N0⟩ := W0
    obtain ⟨locs1, X1, e1, N1⟩ := W1
    obtain ⟨locs2, X2, e2, N2⟩ := W2
    obtain ⟨locs3, X3, e3, N3⟩ := W3'
    refine ⟨T3, W3, fun target kt => ?_⟩
    show Steps p.tables e below (T0.setTop (mkF m 396 (own_LA i0 i1 j2 n mm b (.val (.int r7)) (.val (.int sb.toInt32)) (.val (.int r)) (.val (.int w))) [])) _
    refine XS.iload X0.here hx rfl (hb hby at_396) rfl ?_
    show Steps p.tables e below (T0.setTop (mkF m 398 (own_LA i0 i1 j2 n mm b (.val (.int r7)) (.val (.int sb.toInt32)) (.val (.int r)) (.val (.int w))) [(.int r)])) _
    refine XS.iload X0.here hx rfl (hb hby at_398) rfl ?_
    show Steps p.tables e below (T0.setTop (mkF m 400 (own_LA i0 i1 j2 n mm b (.val (.int r7)) (.val (.int sb.toInt32)) (.val (.int r)) (.val (.int w))) [(.int w), (.int r)])) _
    refine XS.ifNo X0.here hx rfl (hb hby at_400) rfl ((if0 _ _).trans (feq hw0).1) ?_
    show Steps p.tables e below (T0.setTop (mkF m 403 (own_LA i0 i1 j2 n mm b (.val (.int r7)) (.val (.int sb.toInt32)) (.val (.int r)) (.val (.int w))) [(.int r)])) _
    refine XS.aload X0.here hx rfl (hb hby at_403) rfl rfl ?_
    show Steps p.tables e below (T0.setTop (mkF m 405 (own_LA i0 i1 j2 n mm b (.val (.int r7)) (.val (.int sb.toInt32)) (.val (.int r)) (.val (.int w))) [(.ref b), (.int r)])) _
    refine XS.iload X0.here hx rfl (hb hby at_405) rfl ?_
    show Steps p.tables e below (T0.setTop (mkF m 407 (own_LA i0 i1 j2 n mm b (.val (.int r7)) (.val (.int sb.toInt32)) (.val (.int r)) (.val (.int w))) [(.int sb.toInt32), (.ref b), (.int r)])) _
    refine XS.iconst X0.here hx rfl (hb hby at_407) ?_
    show Steps p.tables e below (T0.setTop (mkF m 408 (own_LA i0 i1 j2 n mm b (.val (.int r7)) (.val (.int sb.toInt32)) (.val (.int r)) (.val (.int w))) [(.int (3 : Int32)), (.int sb.toInt32), (.ref b), (.int r)])) _
    refine XS.iadd X0.here hx rfl (hb hby at_408) rfl ?_
    show Steps p.tables e below (T0.setTop (mkF m 409 (own_LA i0 i1 j2 n mm b (.val (.int r7)) (.val (.int sb.toInt32)) (.val (.int r)) (.val (.int w))) [(.int (sb.toInt32 + (3 : Int32))), (.ref b), (.int r)])) _
    rw [hj]
    refine st1 _ ?_
    show Steps p.tables e below (T1.setTop (mkF m 412 (own_LA i0 i1 j2 n mm b (.val (.int r7)) (.val (.int sb.toInt32)) (.val (.int r)) (.val (.int w))) [(.int (own_g cl (sb + 3))), (.int r)])) _
    refine XS.bipush X1.here hx rfl (hb hby at_412) ?_
    show Steps p.tables e below (T1.setTop (mkF m 414 (own_LA i0 i1 j2 n mm b (.val (.int r7)) (.val (.int sb.toInt32)) (.val (.int r)) (.val (.int w))) [(.int (60 : Int32)), (.int (own_g cl (sb + 3))), (.int r)])) _
    refine XS.icmpYes X1.here hx rfl (pc0 := 414) (pc' := 421) rfl (hb hby at_414) rfl (feq h60).2 (by decide) (by decide) ?_
    show Steps p.tables e below (T1.setTop (mkF m 421 (own_LA i0 i1 j2 n mm b (.val (.int r7)) (.val (.int sb.toInt32)) (.val (.int r)) (.val (.int w))) [(.int r)])) _
    refine XS.iconst X1.here hx rfl (hb hby at_421) ?_
    show Steps p.tables e below (T1.setTop (mkF m 422 (own_LA i0 i1 j2 n mm b (.val (.int r7)) (.val (.int sb.toInt32)) (.val (.int r)) (.val (.int w))) [(.int (0 : Int32)), (.int r)])) _
    refine XS.ior X1.here hx rfl (hb hby at_422) rfl ?_
    show Steps p.tables e below (T1.setTop (mkF m 423 (own_LA i0 i1 j2 n mm b (.val (.int r7)) (.val (.int sb.toInt32)) (.val (.int r)) (.val (.int w))) [(.int (r ||| (0 : Int32)))])) _
    refine XS.istore X1.here hx rfl (hb hby at_423) rfl (l' := (own_LA i0 i1 j2 n mm b (.val (.int r7)) (.val (.int sb.toInt32)) (.val (.int (r ||| (0 : Int32)))) (.val (.int w)))) rfl ?_
    show Steps p.tables e below (T1.setTop (mkF m 425 (own_LA i0 i1 j2 n mm b (.val (.int r7)) (.val (.int sb.toInt32)) (.val (.int (r ||| (0 : Int32)))) (.val (.int w))) [])) _
    refine XS.iload X1.here hx rfl (hb hby at_425) rfl ?_
    show Steps p.tables e below (T1.setTop (mkF m 427 (own_LA i0 i1 j2 n mm b (.val (.int r7)) (.val (.int sb.toInt32)) (.val (.int (r ||| (0 : Int32)))) (.val (.int w))) [(.int w)])) _
    refine XS.aload X1.here hx rfl (hb hby at_427) rfl rfl ?_
    show Steps p.tables e below (T1.setTop (mkF m 429 (own_LA i0 i1 j2 n mm b (.val (.int r7)) (.val (.int sb.toInt32)) (.val (.int (r ||| (0 : Int32)))) (.val (.int w))) [(.ref b), (.int w)])) _
    refine XS.iload X1.here hx rfl (hb hby at_429) rfl ?_
    show Steps p.tables e below (T1.setTop (mkF m 431 (own_LA i0 i1 j2 n mm b (.val (.int r7)) (.val (.int sb.toInt32)) (.val (.int (r ||| (0 : Int32)))) (.val (.int w))) [(.int sb.toInt32), (.ref b), (.int w)])) _
    refine XS.iconst X1.here hx rfl (hb hby at_431) ?_
    show Steps p.tables e below (T1.setTop (mkF m 432 (own_LA i0 i1 j2 n mm b (.val (.int r7)) (.val (.int sb.toInt32)) (.val (.int (r ||| (0 : Int32)))) (.val (.int w))) [(.int (3 : Int32)), (.int sb.toInt32), (.ref b), (.int w)])) _
    refine XS.iadd X1.here hx rfl (hb hby at_432) rfl ?_
    show Steps p.tables e below (T1.setTop (mkF m 433 (own_LA i0 i1 j2 n mm b (.val (.int r7)) (.val (.int sb.toInt32)) (.val (.int (r ||| (0 : Int32)))) (.val (.int w))) [(.int (sb.toInt32 + (3 : Int32))), (.ref b), (.int w)])) _
    rw [hj]
    refine st2 _ ?_
    show Steps p.tables e below (T2.setTop (mkF m 436 (own_LA i0 i1 j2 n mm b (.val (.int r7)) (.val (.int sb.toInt32)) (.val (.int (r ||| (0 : Int32)))) (.val (.int w))) [(.int (own_g cl (sb + 3))), (.int w)])) _
    refine st3 _ ?_
    show Steps p.tables e below (T3.setTop (mkF m 439 (own_LA i0 i1 j2 n mm b (.val (.int r7)) (.val (.int sb.toInt32)) (.val (.int (r ||| (0 : Int32)))) (.val (.int w))) [(.int (own_ws (own_g cl (sb + 3)))), (.int w)])) _
    refine XS.iand X3.here hx rfl (hb hby at_439) rfl ?_
    show Steps p.tables e below (T3.setTop (mkF m 440 (own_LA i0 i1 j2 n mm b (.val (.int r7)) (.val (.int sb.toInt32)) (.val (.int (r ||| (0 : Int32)))) (.val (.int w))) [(.int (w &&& (own_ws (own_g cl (sb + 3)))))])) _
    refine XS.istore X3.here hx rfl (hb hby at_440) rfl (l' := (own_LA i0 i1 j2 n mm b (.val (.int r7)) (.val (.int sb.toInt32)) (.val (.int (r ||| (0 : Int32)))) (.val (.int (w &&& (own_ws (own_g cl (sb + 3)))))))) rfl ?_
    exact kt
set_option maxRecDepth 65536 in
set_option maxHeartbeats 40000000 in
theorem own_rd4 (W0 : own_W p l e s m args below meth c n0 T0 h0) (hx : p.tables.exec = Jvm.exec) (hZ : Z.Warmed39 s.vm) (hw : ∀ d ∈ tables_1, d.before a0 Z = true) (hby : c.code = code) (hml : c.maxLocals = 11) (hown : s.vm.findClass "com/example/plinth/plinth/cli/InputFileIsXmlPinLaw" = some m.cls) (Z0 : n0 ≤ h0.size) (i0 i1 : Int32) (j2 : Int64) (n mm : Int32) (b : Addr) (r7 : Int32) (cl : Cell) (Ar : Arr Z h0 b cl .byte) (Hi : own_ints cl) (hsz : cl.slots.size ≤ 8) (sb : Nat) (hsb : sb ≤ 3) (r w : Int32) :
    ∃ (T' : State), own_W p l e s m args below meth c n0 T' h0 ∧ own_Ld p e below T0 (mkF m 442 (own_LA i0 i1 j2 n mm b (.val (.int r7)) (.val (.int sb.toInt32)) (.val (.int r)) (.val (.int w))) []) T' (mkF m 488 (own_LA i0 i1 j2 n mm b (.val (.int r7)) (.val (.int sb.toInt32)) (.val (.int (own_r (own_g cl) r w (sb + 4)))) (.val (.int (own_w (own_g cl) w (sb + 4))))) []) := by
  have hj : sb.toInt32 + (4 : Int32) = (sb + 4).toInt32 := (Int32.ofNat_add sb 4).symm
  by_cases hw0 : w = (0 : Int32)
  · have er : (own_r (own_g cl) r w (sb + 4)) = (r ||| (0 : Int32)) := by unfold own_r; rw [if_neg (fun q => q.1 hw0)]
    have ewn : (own_w (own_g cl) w (sb + 4)) = (w &&& own_ws (own_g cl (sb + 4))) := rfl
    rw [er, ewn]
    obtain ⟨T2, W2, st2⟩ := own_at W0 hx hZ hw hby hml hown Z0 (q := 479) (Ls := (own_LA i0 i1 j2 n mm b (.val (.int r7)) (.val (.int sb.toInt32)) (.val (.int (r ||| (0 : Int32)))) (.val (.int w)))) rfl b cl (sb + 4) Ar Hi hsz (by omega) [(.int w)] (Nat.le_of_ble_eq_true rfl) at_479
    obtain ⟨T3, W3, st3⟩ := own_isWs W2 hx hZ hw hby hml hown Z0 (q := 482) (Ls := (own_LA i0 i1 j2 n mm b (.val (.int r7)) (.val (.int sb.toInt32)) (.val (.int (r ||| (0 : Int32)))) (.val (.int w)))) rfl (own_g cl (sb + 4)) [(.int w)] (Nat.le_of_ble_eq_true rfl) at_482
    have W3' := W3
    obtain ⟨locs, X0, e0, N0⟩ := W0
    obtain ⟨locs2, X2, e2, N2⟩ := W2
    obtain ⟨locs3, X3, e3, N3⟩ := W3'
    refine ⟨T3, W3, fun target kt => ?_⟩
    show Steps p.tables e below (T0.setTop (mkF m 442 (own_LA i0 i1 j2 n mm b (.val (.int r7)) (.val (.int sb.toInt32)) (.val (.int r)) (.val (.int w))) [])) _
    refine XS.iload X0.here hx rfl (hb hby at_442) rfl ?_
    show Steps p.tables e below (T0.setTop (mkF m 444 (own_LA i0 i1 j2 n mm b (.val (.int r7)) (.val (.int sb.toInt32)) (.val (.int r)) (.val (.int w))) [(.int r)])) _
    refine XS.iload X0.here hx rfl (hb hby at_444) rfl ?_
    show Steps p.tables e below (T0.setTop (mkF m 446 (own_LA i0 i1 j2 n mm b (.val (.int r7)) (.val (.int sb.toInt32)) (.val (.int r)) (.val (.int w))) [(.int w), (.int r)])) _
    refine XS.ifYes X0.here hx rfl (pc0 := 446) (pc' := 467) rfl (hb hby at_446) rfl ((if0 _ _).trans (teq hw0).1) (by decide) (by decide) ?_
    show Steps p.tables e below (T0.setTop (mkF m 467 (own_LA i0 i1 j2 n mm b (.val (.int r7)) (.val (.int sb.toInt32)) (.val (.int r)) (.val (.int w))) [(.int r)])) _
    refine XS.iconst X0.here hx rfl (hb hby at_467) ?_
    show Steps p.tables e below (T0.setTop (mkF m 468 (own_LA i0 i1 j2 n mm b (.val (.int r7)) (.val (.int sb.toInt32)) (.val (.int r)) (.val (.int w))) [(.int (0 : Int32)), (.int r)])) _
    refine XS.ior X0.here hx rfl (hb hby at_468) rfl ?_
    show Steps p.tables e below (T0.setTop (mkF m 469 (own_LA i0 i1 j2 n mm b (.val (.int r7)) (.val (.int sb.toInt32)) (.val (.int r)) (.val (.int w))) [(.int (r ||| (0 : Int32)))])) _
    refine XS.istore X0.here hx rfl (hb hby at_469) rfl (l' := (own_LA i0 i1 j2 n mm b (.val (.int r7)) (.val (.int sb.toInt32)) (.val (.int (r ||| (0 : Int32)))) (.val (.int w)))) rfl ?_
    show Steps p.tables e below (T0.setTop (mkF m 471 (own_LA i0 i1 j2 n mm b (.val (.int r7)) (.val (.int sb.toInt32)) (.val (.int (r ||| (0 : Int32)))) (.val (.int w))) [])) _
    refine XS.iload X0.here hx rfl (hb hby at_471) rfl ?_
    show Steps p.tables e below (T0.setTop (mkF m 473 (own_LA i0 i1 j2 n mm b (.val (.int r7)) (.val (.int sb.toInt32)) (.val (.int (r ||| (0 : Int32)))) (.val (.int w))) [(.int w)])) _
    refine XS.aload X0.here hx rfl (hb hby at_473) rfl rfl ?_
    show Steps p.tables e below (T0.setTop (mkF m 475 (own_LA i0 i1 j2 n mm b (.val (.int r7)) (.val (.int sb.toInt32)) (.val (.int (r ||| (0 : Int32)))) (.val (.int w))) [(.ref b), (.int w)])) _
    refine XS.iload X0.here hx rfl (hb hby at_475) rfl ?_
    show Steps p.tables e below (T0.setTop (mkF m 477 (own_LA i0 i1 j2 n mm b (.val (.int r7)) (.val (.int sb.toInt32)) (.val (.int (r ||| (0 : Int32)))) (.val (.int w))) [(.int sb.toInt32), (.ref b), (.int w)])) _
    refine XS.iconst X0.here hx rfl (hb hby at_477) ?_
    show Steps p.tables e below (T0.setTop (mkF m 478 (own_LA i0 i1 j2 n mm b (.val (.int r7)) (.val (.int sb.toInt32)) (.val (.int (r ||| (0 : Int32)))) (.val (.int w))) [(.int (4 : Int32)), (.int sb.toInt32), (.ref b), (.int w)])) _
    refine XS.iadd X0.here hx rfl (hb hby at_478) rfl ?_
    show Steps p.tables e below (T0.setTop (mkF m 479 (own_LA i0 i1 j2 n mm b (.val (.int r7)) (.val (.int sb.toInt32)) (.val (.int (r ||| (0 : Int32)))) (.val (.int w))) [(.int (sb.toInt32 + (4 : Int32))), (.ref b), (.int w)])) _
    rw [hj]
    refine st2 _ ?_
    show Steps p.tables e below (T2.setTop (mkF m 482 (own_LA i0 i1 j2 n mm b (.val (.int r7)) (.val (.int sb.toInt32)) (.val (.int (r ||| (0 : Int32)))) (.val (.int w))) [(.int (own_g cl (sb + 4))), (.int w)])) _
    refine st3 _ ?_
    show Steps p.tables e below (T3.setTop (mkF m 485 (own_LA i0 i1 j2 n mm b (.val (.int r7)) (.val (.int sb.toInt32)) (.val (.int (r ||| (0 : Int32)))) (.val (.int w))) [(.int (own_ws (own_g cl (sb + 4)))), (.int w)])) _
    refine XS.iand X3.here hx rfl (hb hby at_485) rfl ?_
    show Steps p.tables e below (T3.setTop (mkF m 486 (own_LA i0 i1 j2 n mm b (.val (.int r7)) (.val (.int sb.toInt32)) (.val (.int (r ||| (0 : Int32)))) (.val (.int w))) [(.int (w &&& (own_ws (own_g cl (sb + 4)))))])) _
    refine XS.istore X3.here hx rfl (hb hby at_486) rfl (l' := (own_LA i0 i1 j2 n mm b (.val (.int r7)) (.val (.int sb.toInt32)) (.val (.int (r ||| (0 : Int32)))) (.val (.int (w &&& (own_ws (own_g cl (sb + 4)))))))) rfl ?_
    exact kt
  by_cases h60 : (own_g cl (sb + 4)) = (60 : Int32)
  · have er : (own_r (own_g cl) r w (sb + 4)) = (r ||| (1 : Int32)) := by unfold own_r; rw [if_pos ⟨hw0, h60⟩]
    have ewn : (own_w (own_g cl) w (sb + 4)) = (w &&& own_ws (own_g cl (sb + 4))) := rfl
    rw [er, ewn]
    obtain ⟨T1, W1, st1⟩ := own_at W0 hx hZ hw hby hml hown Z0 (q := 455) (Ls := (own_LA i0 i1 j2 n mm b (.val (.int r7)) (.val (.int sb.toInt32)) (.val (.int r)) (.val (.int w)))) rfl b cl (sb + 4) Ar Hi hsz (by omega) [(.int r)] (Nat.le_of_ble_eq_true rfl) at_455
    obtain ⟨T2, W2, st2⟩ := own_at W1 hx hZ hw hby hml hown Z0 (q := 479) (Ls := (own_LA i0 i1 j2 n mm b (.val (.int r7)) (.val (.int sb.toInt32)) (.val (.int (r ||| (1 : Int32)))) (.val (.int w)))) rfl b cl (sb + 4) Ar Hi hsz (by omega) [(.int w)] (Nat.le_of_ble_eq_true rfl) at_479
    obtain ⟨T3, W3, st3⟩ := own_isWs W2 hx hZ hw hby hml hown Z0 (q := 482) (Ls := (own_LA i0 i1 j2 n mm b (.val (.int r7)) (.val (.int sb.toInt32)) (.val (.int (r ||| (1 : Int32)))) (.val (.int w)))) rfl (own_g cl (sb + 4)) [(.int w)] (Nat.le_of_ble_eq_true rfl) at_482
    have W3' := W3
    obtain ⟨locs, X0, e0, N0⟩ := W0
    obtain ⟨locs1, X1, e1, N1⟩ := W1
    obtain ⟨locs2, X2, e2, N2⟩ := W2
    obtain ⟨locs3, X3, e3, N3⟩ := W3'
    refine ⟨T3, W3, fun target kt => ?_⟩
    show Steps p.tables e below (T0.setTop (mkF m 442 (own_LA i0 i1 j2 n mm b (.val (.int r7)) (.val (.int sb.toInt32)) (.val (.int r)) (.val (.int w))) [])) _
    refine XS.iload X0.here hx rfl (hb hby at_442) rfl ?_
    show Steps p.tables e below (T0.setTop (mkF m 444 (own_LA i0 i1 j2 n mm b (.val (.int r7)) (.val (.int sb.toInt32)) (.val (.int r)) (.val (.int w))) [(.int r)])) _
    refine XS.iload X0.here hx rfl (hb hby at_444) rfl ?_
    show Steps p.tables e below (T0.setTop (mkF m 446 (own_LA i0 i1 j2 n mm b (.val (.int r7)) (.val (.int sb.toInt32)) (.val (.int r)) (.val (.int w))) [(.int w), (.int r)])) _
    refine XS.ifNo X0.here hx rfl (hb hby at_446) rfl ((if0 _ _).trans (feq hw0).1) ?_
    show Steps p.tables e below (T0.setTop (mkF m 449 (own_LA i0 i1 j2 n mm b (.val (.int r7)) (.val (.int sb.toInt32)) (.val (.int r)) (.val (.int w))) [(.int r)])) _
    refine XS.aload X0.here hx rfl (hb hby at_449) rfl rfl ?_
    show Steps p.tables e below (T0.setTop (mkF m 451 (own_LA i0 i1 j2 n mm b (.val (.int r7)) (.val (.int sb.toInt32)) (.val (.int r)) (.val (.int w))) [(.ref b), (.int r)])) _
    refine XS.iload X0.here hx rfl (hb hby at_451) rfl ?_
    show Steps p.tables e below (T0.setTop (mkF m 453 (own_LA i0 i1 j2 n mm b (.val (.int r7)) (.val (.int sb.toInt32)) (.val (.int r)) (.val (.int w))) [(.int sb.toInt32), (.ref b), (.int r)])) _
    refine XS.iconst X0.here hx rfl (hb hby at_453) ?_
    show Steps p.tables e below (T0.setTop (mkF m 454 (own_LA i0 i1 j2 n mm b (.val (.int r7)) (.val (.int sb.toInt32)) (.val (.int r)) (.val (.int w))) [(.int (4 : Int32)), (.int sb.toInt32), (.ref b), (.int r)])) _
    refine XS.iadd X0.here hx rfl (hb hby at_454) rfl ?_
    show Steps p.tables e below (T0.setTop (mkF m 455 (own_LA i0 i1 j2 n mm b (.val (.int r7)) (.val (.int sb.toInt32)) (.val (.int r)) (.val (.int w))) [(.int (sb.toInt32 + (4 : Int32))), (.ref b), (.int r)])) _
    rw [hj]
    refine st1 _ ?_
    show Steps p.tables e below (T1.setTop (mkF m 458 (own_LA i0 i1 j2 n mm b (.val (.int r7)) (.val (.int sb.toInt32)) (.val (.int r)) (.val (.int w))) [(.int (own_g cl (sb + 4))), (.int r)])) _
    refine XS.bipush X1.here hx rfl (hb hby at_458) ?_
    show Steps p.tables e below (T1.setTop (mkF m 460 (own_LA i0 i1 j2 n mm b (.val (.int r7)) (.val (.int sb.toInt32)) (.val (.int r)) (.val (.int w))) [(.int (60 : Int32)), (.int (own_g cl (sb + 4))), (.int r)])) _
    refine XS.icmpNo X1.here hx rfl (hb hby at_460) rfl (teq h60).2 ?_
    show Steps p.tables e below (T1.setTop (mkF m 463 (own_LA i0 i1 j2 n mm b (.val (.int r7)) (.val (.int sb.toInt32)) (.val (.int r)) (.val (.int w))) [(.int r)])) _
    refine XS.iconst X1.here hx rfl (hb hby at_463) ?_
    show Steps p.tables e below (T1.setTop (mkF m 464 (own_LA i0 i1 j2 n mm b (.val (.int r7)) (.val (.int sb.toInt32)) (.val (.int r)) (.val (.int w))) [(.int (1 : Int32)), (.int r)])) _
    refine XS.goto X1.here hx rfl (pc0 := 464) (pc' := 468) rfl (hb hby at_464) (by decide) (by decide) ?_
    show Steps p.tables e below (T1.setTop (mkF m 468 (own_LA i0 i1 j2 n mm b (.val (.int r7)) (.val (.int sb.toInt32)) (.val (.int r)) (.val (.int w))) [(.int (1 : Int32)), (.int r)])) _
    refine XS.ior X1.here hx rfl (hb hby at_468) rfl ?_
    show Steps p.tables e below (T1.setTop (mkF m 469 (own_LA i0 i1 j2 n mm b (.val (.int r7)) (.val (.int sb.toInt32)) (.val (.int r)) (.val (.int w))) [(.int (r ||| (1 : Int32)))])) _
    refine XS.istore X1.here hx rfl (hb hby at_469) rfl (l' := (own_LA i0 i1 j2 n mm b (.val (.int r7)) (.val (.int sb.toInt32)) (.val (.int (r ||| (1 : Int32)))) (.val (.int w)))) rfl ?_
    show Steps p.tables e below (T1.setTop (mkF m 471 (own_LA i0 i1 j2 n mm b (.val (.int r7)) (.val (.int sb.toInt32)) (.val (.int (r ||| (1 : Int32)))) (.val (.int w))) [])) _
    refine XS.iload X1.here hx rfl (hb hby at_471) rfl ?_
    show Steps p.tables e below (T1.setTop (mkF m 473 (own_LA i0 i1 j2 n mm b (.val (.int r7)) (.val (.int sb.toInt32)) (.val (.int (r ||| (1 : Int32)))) (.val (.int w))) [(.int w)])) _
    refine XS.aload X1.here hx rfl (hb hby at_473) rfl rfl ?_
    show Steps p.tables e below (T1.setTop (mkF m 475 (own_LA i0 i1 j2 n mm b (.val (.int r7)) (.val (.int sb.toInt32)) (.val (.int (r ||| (1 : Int32)))) (.val (.int w))) [(.ref b), (.int w)])) _
    refine XS.iload X1.here hx rfl (hb hby at_475) rfl ?_
    show Steps p.tables e below (T1.setTop (mkF m 477 (own_LA i0 i1 j2 n mm b (.val (.int r7)) (.val (.int sb.toInt32)) (.val (.int (r ||| (1 : Int32)))) (.val (.int w))) [(.int sb.toInt32), (.ref b), (.int w)])) _
    refine XS.iconst X1.here hx rfl (hb hby at_477) ?_
    show Steps p.tables e below (T1.setTop (mkF m 478 (own_LA i0 i1 j2 n mm b (.val (.int r7)) (.val (.int sb.toInt32)) (.val (.int (r ||| (1 : Int32)))) (.val (.int w))) [(.int (4 : Int32)), (.int sb.toInt32), (.ref b), (.int w)])) _
    refine XS.iadd X1.here hx rfl (hb hby at_478) rfl ?_
    show Steps p.tables e below (T1.setTop (mkF m 479 (own_LA i0 i1 j2 n mm b (.val (.int r7)) (.val (.int sb.toInt32)) (.val (.int (r ||| (1 : Int32)))) (.val (.int w))) [(.int (sb.toInt32 + (4 : Int32))), (.ref b), (.int w)])) _
    rw [hj]
    refine st2 _ ?_
    show Steps p.tables e below (T2.setTop (mkF m 482 (own_LA i0 i1 j2 n mm b (.val (.int r7)) (.val (.int sb.toInt32)) (.val (.int (r ||| (1 : Int32)))) (.val (.int w))) [(.int (own_g cl (sb + 4))), (.int w)])) _
    refine st3 _ ?_
    show Steps p.tables e below (T3.setTop (mkF m 485 (own_LA i0 i1 j2 n mm b (.val (.int r7)) (.val (.int sb.toInt32)) (.val (.int (r ||| (1 : Int32)))) (.val (.int w))) [(.int (own_ws (own_g cl (sb + 4)))), (.int w)])) _
    refine XS.iand X3.here hx rfl (hb hby at_485) rfl ?_
    show Steps p.tables e below (T3.setTop (mkF m 486 (own_LA i0 i1 j2 n mm b (.val (.int r7)) (.val (.int sb.toInt32)) (.val (.int (r ||| (1 : Int32)))) (.val (.int w))) [(.int (w &&& (own_ws (own_g cl (sb + 4)))))])) _
    refine XS.istore X3.here hx rfl (hb hby at_486) rfl (l' := (own_LA i0 i1 j2 n mm b (.val (.int r7)) (.val (.int sb.toInt32)) (.val (.int (r ||| (1 : Int32)))) (.val (.int (w &&& (own_ws (own_g cl (sb + 4)))))))) rfl ?_
    exact kt
  · have er : (own_r (own_g cl) r w (sb + 4)) = (r ||| (0 : Int32)) := by unfold own_r; rw [if_neg (fun q => h60 q.2)]
    have ewn : (own_w (own_g cl) w (sb + 4)) = (w &&& own_ws (own_g cl (sb + 4))) := rfl
    rw [er, ewn]
    obtain ⟨T1, W1, st1⟩ := own_at W0 hx hZ hw hby hml hown Z0 (q := 455) (Ls := (own_LA i0 i1 j2 n mm b (.val (.int r7)) (.val (.int sb.toInt32)) (.val (.int r)) (.val (.int w)))) rfl b cl (sb + 4) Ar Hi hsz (by omega) [(.int r)] (Nat.le_of_ble_eq_true rfl) at_455
    obtain ⟨T2, W2, st2⟩ := own_at W1 hx hZ hw hby hml hown Z0 (q := 479) (Ls := (own_LA i0 i1 j2 n mm b (.val (.int r7)) (.val (.int sb.toInt32)) (.val (.int (r ||| (0 : Int32)))) (.val (.int w)))) rfl b cl (sb + 4) Ar Hi hsz (by omega) [(.int w)] (Nat.le_of_ble_eq_true rfl) at_479
    obtain ⟨T3, W3, st3⟩ := own_isWs W2 hx hZ hw hby hml hown Z0 (q := 482) (Ls := (own_LA i0 i1 j2 n mm b (.val (.int r7)) (.val (.int sb.toInt32)) (.val (.int (r ||| (0 : Int32)))) (.val (.int w)))) rfl (own_g cl (sb + 4)) [(.int w)] (Nat.le_of_ble_eq_true rfl) at_482
    have W3' := W3
    obtain ⟨locs, X0, e0, N0⟩ := W0
    obtain ⟨locs1, X1, e1, N1⟩ := W1
    obtain ⟨locs2, X2, e2, N2⟩ := W2
    obtain ⟨locs3, X3, e3, N3⟩ := W3'
    refine ⟨T3, W3, fun target kt => ?_⟩
    show Steps p.tables e below (T0.setTop (mkF m 442 (own_LA i0 i1 j2 n mm b (.val (.int r7)) (.val (.int sb.toInt32)) (.val (.int r)) (.val (.int w))) [])) _
    refine XS.iload X0.here hx rfl (hb hby at_442) rfl ?_
    show Steps p.tables e below (T0.setTop (mkF m 444 (own_LA i0 i1 j2 n mm b (.val (.int r7)) (.val (.int sb.toInt32)) (.val (.int r)) (.val (.int w))) [(.int r)])) _
    refine XS.iload X0.here hx rfl (hb hby at_444) rfl ?_
    show Steps p.tables e below (T0.setTop (mkF m 446 (own_LA i0 i1 j2 n mm b (.val (.int r7)) (.val (.int sb.toInt32)) (.val (.int r)) (.val (.int w))) [(.int w), (.int r)])) _
    refine XS.ifNo X0.here hx rfl (hb hby at_446) rfl ((if0 _ _).trans (feq hw0).1) ?_
    show Steps p.tables e below (T0.setTop (mkF m 449 (own_LA i0 i1 j2 n mm b (.val (.int r7)) (.val (.int sb.toInt32)) (.val (.int r)) (.val (.int w))) [(.int r)])) _
    refine XS.aload X0.here hx rfl (hb hby at_449) rfl rfl ?_
    show Steps p.tables e below (T0.setTop (mkF m 451 (own_LA i0 i1 j2 n mm b (.val (.int r7)) (.val (.int sb.toInt32)) (.val (.int r)) (.val (.int w))) [(.ref b), (.int r)])) _
    refine XS.iload X0.here hx rfl (hb hby at_451) rfl ?_
    show Steps p.tables e below (T0.setTop (mkF m 453 (own_LA i0 i1 j2 n mm b (.val (.int r7)) (.val (.int sb.toInt32)) (.val (.int r)) (.val (.int w))) [(.int sb.toInt32), (.ref b), (.int r)])) _
    refine XS.iconst X0.here hx rfl (hb hby at_453) ?_
    show Steps p.tables e below (T0.setTop (mkF m 454 (own_LA i0 i1 j2 n mm b (.val (.int r7)) (.val (.int sb.toInt32)) (.val (.int r)) (.val (.int w))) [(.int (4 : Int32)), (.int sb.toInt32), (.ref b), (.int r)])) _
    refine XS.iadd X0.here hx rfl (hb hby at_454) rfl ?_
    show Steps p.tables e below (T0.setTop (mkF m 455 (own_LA i0 i1 j2 n mm b (.val (.int r7)) (.val (.int sb.toInt32)) (.val (.int r)) (.val (.int w))) [(.int (sb.toInt32 + (4 : Int32))), (.ref b), (.int r)])) _
    rw [hj]
    refine st1 _ ?_
    show Steps p.tables e below (T1.setTop (mkF m 458 (own_LA i0 i1 j2 n mm b (.val (.int r7)) (.val (.int sb.toInt32)) (.val (.int r)) (.val (.int w))) [(.int (own_g cl (sb + 4))), (.int r)])) _
    refine XS.bipush X1.here hx rfl (hb hby at_458) ?_
    show Steps p.tables e below (T1.setTop (mkF m 460 (own_LA i0 i1 j2 n mm b (.val (.int r7)) (.val (.int sb.toInt32)) (.val (.int r)) (.val (.int w))) [(.int (60 : Int32)), (.int (own_g cl (sb + 4))), (.int r)])) _
    refine XS.icmpYes X1.here hx rfl (pc0 := 460) (pc' := 467) rfl (hb hby at_460) rfl (feq h60).2 (by decide) (by decide) ?_
    show Steps p.tables e below (T1.setTop (mkF m 467 (own_LA i0 i1 j2 n mm b (.val (.int r7)) (.val (.int sb.toInt32)) (.val (.int r)) (.val (.int w))) [(.int r)])) _
    refine XS.iconst X1.here hx rfl (hb hby at_467) ?_
    show Steps p.tables e below (T1.setTop (mkF m 468 (own_LA i0 i1 j2 n mm b (.val (.int r7)) (.val (.int sb.toInt32)) (.val (.int r)) (.val (.int w))) [(.int (0 : Int32)), (.int r)])) _
    refine XS.ior X1.here hx rfl (hb hby at_468) rfl ?_
    show Steps p.tables e below (T1.setTop (mkF m 469 (own_LA i0 i1 j2 n mm b (.val (.int r7)) (.val (.int sb.toInt32)) (.val (.int r)) (.val (.int w))) [(.int (r ||| (0 : Int32)))])) _
    refine XS.istore X1.here hx rfl (hb hby at_469) rfl (l' := (own_LA i0 i1 j2 n mm b (.val (.int r7)) (.val (.int sb.toInt32)) (.val (.int (r ||| (0 : Int32)))) (.val (.int w)))) rfl ?_
    show Steps p.tables e below (T1.setTop (mkF m 471 (own_LA i0 i1 j2 n mm b (.val (.int r7)) (.val (.int sb.toInt32)) (.val (.int (r ||| (0 : Int32)))) (.val (.int w))) [])) _
    refine XS.iload X1.here hx rfl (hb hby at_471) rfl ?_
    show Steps p.tables e below (T1.setTop (mkF m 473 (own_LA i0 i1 j2 n mm b (.val (.int r7)) (.val (.int sb.toInt32)) (.val (.int (r ||| (0 : Int32)))) (.val (.int w))) [(.int w)])) _
    refine XS.aload X1.here hx rfl (hb hby at_473) rfl rfl ?_
    show Steps p.tables e below (T1.setTop (mkF m 475 (own_LA i0 i1 j2 n mm b (.val (.int r7)) (.val (.int sb.toInt32)) (.val (.int (r ||| (0 : Int32)))) (.val (.int w))) [(.ref b), (.int w)])) _
    refine XS.iload X1.here hx rfl (hb hby at_475) rfl ?_
    show Steps p.tables e below (T1.setTop (mkF m 477 (own_LA i0 i1 j2 n mm b (.val (.int r7)) (.val (.int sb.toInt32)) (.val (.int (r ||| (0 : Int32)))) (.val (.int w))) [(.int sb.toInt32), (.ref b), (.int w)])) _
    refine XS.iconst X1.here hx rfl (hb hby at_477) ?_
    show Steps p.tables e below (T1.setTop (mkF m 478 (own_LA i0 i1 j2 n mm b (.val (.int r7)) (.val (.int sb.toInt32)) (.val (.int (r ||| (0 : Int32)))) (.val (.int w))) [(.int (4 : Int32)), (.int sb.toInt32), (.ref b), (.int w)])) _
    refine XS.iadd X1.here hx rfl (hb hby at_478) rfl ?_
    show Steps p.tables e below (T1.setTop (mkF m 479 (own_LA i0 i1 j2 n mm b (.val (.int r7)) (.val (.int sb.toInt32)) (.val (.int (r ||| (0 : Int32)))) (.val (.int w))) [(.int (sb.toInt32 + (4 : Int32))), (.ref b), (.int w)])) _
    rw [hj]
    refine st2 _ ?_
    show Steps p.tables e below (T2.setTop (mkF m 482 (own_LA i0 i1 j2 n mm b (.val (.int r7)) (.val (.int sb.toInt32)) (.val (.int (r ||| (0 : Int32)))) (.val (.int w))) [(.int (own_g cl (sb + 4))), (.int w)])) _
    refine st3 _ ?_
    show Steps p.tables e below (T3.setTop (mkF m 485 (own_LA i0 i1 j2 n mm b (.val (.int r7)) (.val (.int sb.toInt32)) (.val (.int (r ||| (0 : Int32)))) (.val (.int w))) [(.int (own_ws (own_g cl (sb + 4)))), (.int w)])) _
    refine XS.iand X3.here hx rfl (hb hby at_485) rfl ?_
    show Steps p.tables e below (T3.setTop (mkF m 486 (own_LA i0 i1 j2 n mm b (.val (.int r7)) (.val (.int sb.toInt32)) (.val (.int (r ||| (0 : Int32)))) (.val (.int w))) [(.int (w &&& (own_ws (own_g cl (sb + 4)))))])) _
    refine XS.istore X3.here hx rfl (hb hby at_486) rfl (l' := (own_LA i0 i1 j2 n mm b (.val (.int r7)) (.val (.int sb.toInt32)) (.val (.int (r ||| (0 : Int32)))) (.val (.int (w &&& (own_ws (own_g cl (sb + 4)))))))) rfl ?_
    exact kt
set_option maxRecDepth 65536 in
set_option maxHeartbeats 40000000 in
theorem own_rd5 (W0 : own_W p l e s m args below meth c n0 T0 h0) (hx : p.tables.exec = Jvm.exec) (hZ : Z.Warmed39 s.vm) (hw : ∀ d ∈ tables_1, d.before a0 Z = true) (hby : c.code = code) (hml : c.maxLocals = 11) (hown : s.vm.findClass "com/example/plinth/plinth/cli/InputFileIsXmlPinLaw" = some m.cls) (Z0 : n0 ≤ h0.size) (i0 i1 : Int32) (j2 : Int64) (n mm : Int32) (b : Addr) (r7 : Int32) (cl : Cell) (Ar : Arr Z h0 b cl .byte) (Hi : own_ints cl) (hsz : cl.slots.size ≤ 8) (sb : Nat) (hsb : sb ≤ 3) (r w : Int32) :
    ∃ (T' : State), own_W p l e s m args below meth c n0 T' h0 ∧ own_Ld p e below T0 (mkF m 488 (own_LA i0 i1 j2 n mm b (.val (.int r7)) (.val (.int sb.toInt32)) (.val (.int r)) (.val (.int w))) []) T' (mkF m 534 (own_LA i0 i1 j2 n mm b (.val (.int r7)) (.val (.int sb.toInt32)) (.val (.int (own_r (own_g cl) r w (sb + 5)))) (.val (.int (own_w (own_g cl) w (sb + 5))))) []) := by
  have hj : sb.toInt32 + (5 : Int32) = (sb + 5).toInt32 := (Int32.ofNat_add sb 5).symm
  by_cases hw0 : w = (0 : Int32)
  · have er : (own_r (own_g cl) r w (sb + 5)) = (r ||| (0 : Int32)) := by unfold own_r; rw [if_neg (fun q => q.1 hw0)]
    have ewn : (own_w (own_g cl) w (sb + 5)) = (w &&& own_ws (own_g cl (sb + 5))) := rfl
    rw [er, ewn]
    obtain ⟨T2, W2, st2⟩ := own_at W0 hx hZ hw hby hml hown Z0 (q := 525) (Ls := (own_LA i0 i1 j2 n mm b (.val (.int r7)) (.val (.int sb.toInt32)) (.val (.int (r ||| (0 : Int32)))) (.val (.int w)))) rfl b cl (sb + 5) Ar Hi hsz (by omega) [(.int w)] (Nat.le_of_ble_eq_true rfl) at_525
    obtain ⟨T3, W3, st3⟩ := own_isWs W2 hx hZ hw hby hml hown Z0 (q := 528) (Ls := (own_LA i0 i1 j2 n mm b (.val (.int r7)) (.val (.int sb.toInt32)) (.val (.int (r ||| (0 : Int32)))) (.val (.int w)))) rfl (own_g cl (sb + 5)) [(.int w)] (Nat.le_of_ble_eq_true rfl) at_528
    have W3' := W3
    obtain ⟨locs, X0, e0, N0⟩ := W0
    obtain ⟨locs2, X2, e2, N2⟩ := W2
    obtain ⟨locs3, X3, e3, N3⟩ := W3'
    refine ⟨T3, W3, fun target kt => ?_⟩
    show Steps p.tables e below (T0.setTop (mkF m 488 (own_LA i0 i1 j2 n mm b (.val (.int r7)) (.val (.int sb.toInt32)) (.val (.int r)) (.val (.int w))) [])) _
    refine XS.iload X0.here hx rfl (hb hby at_488) rfl ?_
    show Steps p.tables e below (T0.setTop (mkF m 490 (own_LA i0 i1 j2 n mm b (.val (.int r7)) (.val (.int sb.toInt32)) (.val (.int r)) (.val (.int w))) [(.int r)])) _
    refine XS.iload X0.here hx rfl (hb hby at_490) rfl ?_
    show Steps p.tables e below (T0.setTop (mkF m 492 (own_LA i0 i1 j2 n mm b (.val (.int r7)) (.val (.int sb.toInt32)) (.val (.int r)) (.val (.int w))) [(.int w), (.int r)])) _
    refine XS.ifYes X0.here hx rfl (pc0 := 492) (pc' := 513) rfl (hb hby at_492) rfl ((if0 _ _).trans (teq hw0).1) (by decide) (by decide) ?_
    show Steps p.tables e below (T0.setTop (mkF m 513 (own_LA i0 i1 j2 n mm b (.val (.int r7)) (.val (.int sb.toInt32)) (.val (.int r)) (.val (.int w))) [(.int r)])) _
    refine XS.iconst X0.here hx rfl (hb hby at_513) ?_
    show Steps p.tables e below (T0.setTop (mkF m 514 (own_LA i0 i1 j2 n mm b (.val (.int r7)) (.val (.int sb.toInt32)) (.val (.int r)) (.val (.int w))) [(.int (0 : Int32)), (.int r)])) _
    refine XS.ior X0.here hx rfl (hb hby at_514) rfl ?_
    show Steps p.tables e below (T0.setTop (mkF m 515 (own_LA i0 i1 j2 n mm b (.val (.int r7)) (.val (.int sb.toInt32)) (.val (.int r)) (.val (.int w))) [(.int (r ||| (0 : Int32)))])) _
    refine XS.istore X0.here hx rfl (hb hby at_515) rfl (l' := (own_LA i0 i1 j2 n mm b (.val (.int r7)) (.val (.int sb.toInt32)) (.val (.int (r ||| (0 : Int32)))) (.val (.int w)))) rfl ?_
    show Steps p.tables e below (T0.setTop (mkF m 517 (own_LA i0 i1 j2 n mm b (.val (.int r7)) (.val (.int sb.toInt32)) (.val (.int (r ||| (0 : Int32)))) (.val (.int w))) [])) _
    refine XS.iload X0.here hx rfl (hb hby at_517) rfl ?_
    show Steps p.tables e below (T0.setTop (mkF m 519 (own_LA i0 i1 j2 n mm b (.val (.int r7)) (.val (.int sb.toInt32)) (.val (.int (r ||| (0 : Int32)))) (.val (.int w))) [(.int w)])) _
    refine XS.aload X0.here hx rfl (hb hby at_519) rfl rfl ?_
    show Steps p.tables e below (T0.setTop (mkF m 521 (own_LA i0 i1 j2 n mm b (.val (.int r7)) (.val (.int sb.toInt32)) (.val (.int (r ||| (0 : Int32)))) (.val (.int w))) [(.ref b), (.int w)])) _
    refine XS.iload X0.here hx rfl (hb hby at_521) rfl ?_
    show Steps p.tables e below (T0.setTop (mkF m 523 (own_LA i0 i1 j2 n mm b (.val (.int r7)) (.val (.int sb.toInt32)) (.val (.int (r ||| (0 : Int32)))) (.val (.int w))) [(.int sb.toInt32), (.ref b), (.int w)])) _
    refine XS.iconst X0.here hx rfl (hb hby at_523) ?_
    show Steps p.tables e below (T0.setTop (mkF m 524 (own_LA i0 i1 j2 n mm b (.val (.int r7)) (.val (.int sb.toInt32)) (.val (.int (r ||| (0 : Int32)))) (.val (.int w))) [(.int (5 : Int32)), (.int sb.toInt32), (.ref b), (.int w)])) _
    refine XS.iadd X0.here hx rfl (hb hby at_524) rfl ?_
    show Steps p.tables e below (T0.setTop (mkF m 525 (own_LA i0 i1 j2 n mm b (.val (.int r7)) (.val (.int sb.toInt32)) (.val (.int (r ||| (0 : Int32)))) (.val (.int w))) [(.int (sb.toInt32 + (5 : Int32))), (.ref b), (.int w)])) _
    rw [hj]
    refine st2 _ ?_
    show Steps p.tables e below (T2.setTop (mkF m 528 (own_LA i0 i1 j2 n mm b (.val (.int r7)) (.val (.int sb.toInt32)) (.val (.int (r ||| (0 : Int32)))) (.val (.int w))) [(.int (own_g cl (sb + 5))), (.int w)])) _
    refine st3 _ ?_
    show Steps p.tables e below (T3.setTop (mkF m 531 (own_LA i0 i1 j2 n mm b (.val (.int r7)) (.val (.int sb.toInt32)) (.val (.int (r ||| (0 : Int32)))) (.val (.int w))) [(.int (own_ws (own_g cl (sb + 5)))), (.int w)])) _
    refine XS.iand X3.here hx rfl (hb hby at_531) rfl ?_
    show Steps p.tables e below (T3.setTop (mkF m 532 (own_LA i0 i1 j2 n mm b (.val (.int r7)) (.val (.int sb.toInt32)) (.val (.int (r ||| (0 : Int32)))) (.val (.int w))) [(.int (w &&& (own_ws (own_g cl (sb + 5)))))])) _
    refine XS.istore X3.here hx rfl (hb hby at_532) rfl (l' := (own_LA i0 i1 j2 n mm b (.val (.int r7)) (.val (.int sb.toInt32)) (.val (.int (r ||| (0 : Int32)))) (.val (.int (w &&& (own_ws (own_g cl (sb + 5)))))))) rfl ?_
    exact kt
  by_cases h60 : (own_g cl (sb + 5)) = (60 : Int32)
  · have er : (own_r (own_g cl) r w (sb + 5)) = (r ||| (1 : Int32)) := by unfold own_r; rw [if_pos ⟨hw0, h60⟩]
    have ewn : (own_w (own_g cl) w (sb + 5)) = (w &&& own_ws (own_g cl (sb + 5))) := rfl
    rw [er, ewn]
    obtain ⟨T1, W1, st1⟩ := own_at W0 hx hZ hw hby hml hown Z0 (q := 501) (Ls := (own_LA i0 i1 j2 n mm b (.val (.int r7)) (.val (.int sb.toInt32)) (.val (.int r)) (.val (.int w)))) rfl b cl (sb + 5) Ar Hi hsz (by omega) [(.int r)] (Nat.le_of_ble_eq_true rfl) at_501
    obtain ⟨T2, W2, st2⟩ := own_at W1 hx hZ hw hby hml hown Z0 (q := 525) (Ls := (own_LA i0 i1 j2 n mm b (.val (.int r7)) (.val (.int sb.toInt32)) (.val (.int (r ||| (1 : Int32)))) (.val (.int w)))) rfl b cl (sb + 5) Ar Hi hsz (by omega) [(.int w)] (Nat.le_of_ble_eq_true rfl) at_525
    obtain ⟨T3, W3, st3⟩ := own_isWs W2 hx hZ hw hby hml hown Z0 (q := 528) (Ls := (own_LA i0 i1 j2 n mm b (.val (.int r7)) (.val (.int sb.toInt32)) (.val (.int (r ||| (1 : Int32)))) (.val (.int w)))) rfl (own_g cl (sb + 5)) [(.int w)] (Nat.le_of_ble_eq_true rfl) at_528
    have W3' := W3
    obtain ⟨locs, X0, e0, N0⟩ := W0
    obtain ⟨locs1, X1, e1, N1⟩ := W1
    obtain ⟨locs2, X2, e2, N2⟩ := W2
    obtain ⟨locs3, X3, e3, N3⟩ := W3'
    refine ⟨T3, W3, fun target kt => ?_⟩
    show Steps p.tables e below (T0.setTop (mkF m 488 (own_LA i0 i1 j2 n mm b (.val (.int r7)) (.val (.int sb.toInt32)) (.val (.int r)) (.val (.int w))) [])) _
    refine XS.iload X0.here hx rfl (hb hby at_488) rfl ?_
    show Steps p.tables e below (T0.setTop (mkF m 490 (own_LA i0 i1 j2 n mm b (.val (.int r7)) (.val (.int sb.toInt32)) (.val (.int r)) (.val (.int w))) [(.int r)])) _
    refine XS.iload X0.here hx rfl (hb hby at_490) rfl ?_
    show Steps p.tables e below (T0.setTop (mkF m 492 (own_LA i0 i1 j2 n mm b (.val (.int r7)) (.val (.int sb.toInt32)) (.val (.int r)) (.val (.int w))) [(.int w), (.int r)])) _
    refine XS.ifNo X0.here hx rfl (hb hby at_492) rfl ((if0 _ _).trans (feq hw0).1) ?_
    show Steps p.tables e below (T0.setTop (mkF m 495 (own_LA i0 i1 j2 n mm b (.val (.int r7)) (.val (.int sb.toInt32)) (.val (.int r)) (.val (.int w))) [(.int r)])) _
    refine XS.aload X0.here hx rfl (hb hby at_495) rfl rfl ?_
    show Steps p.tables e below (T0.setTop (mkF m 497 (own_LA i0 i1 j2 n mm b (.val (.int r7)) (.val (.int sb.toInt32)) (.val (.int r)) (.val (.int w))) [(.ref b), (.int r)])) _
    refine XS.iload X0.here hx rfl (hb hby at_497) rfl ?_
    show Steps p.tables e below (T0.setTop (mkF m 499 (own_LA i0 i1 j2 n mm b (.val (.int r7)) (.val (.int sb.toInt32)) (.val (.int r)) (.val (.int w))) [(.int sb.toInt32), (.ref b), (.int r)])) _
    refine XS.iconst X0.here hx rfl (hb hby at_499) ?_
    show Steps p.tables e below (T0.setTop (mkF m 500 (own_LA i0 i1 j2 n mm b (.val (.int r7)) (.val (.int sb.toInt32)) (.val (.int r)) (.val (.int w))) [(.int (5 : Int32)), (.int sb.toInt32), (.ref b), (.int r)])) _
    refine XS.iadd X0.here hx rfl (hb hby at_500) rfl ?_
    show Steps p.tables e below (T0.setTop (mkF m 501 (own_LA i0 i1 j2 n mm b (.val (.int r7)) (.val (.int sb.toInt32)) (.val (.int r)) (.val (.int w))) [(.int (sb.toInt32 + (5 : Int32))), (.ref b), (.int r)])) _
    rw [hj]
    refine st1 _ ?_
    show Steps p.tables e below (T1.setTop (mkF m 504 (own_LA i0 i1 j2 n mm b (.val (.int r7)) (.val (.int sb.toInt32)) (.val (.int r)) (.val (.int w))) [(.int (own_g cl (sb + 5))), (.int r)])) _
    refine XS.bipush X1.here hx rfl (hb hby at_504) ?_
    show Steps p.tables e below (T1.setTop (mkF m 506 (own_LA i0 i1 j2 n mm b (.val (.int r7)) (.val (.int sb.toInt32)) (.val (.int r)) (.val (.int w))) [(.int (60 : Int32)), (.int (own_g cl (sb + 5))), (.int r)])) _
    refine XS.icmpNo X1.here hx rfl (hb hby at_506) rfl (teq h60).2 ?_
    show Steps p.tables e below (T1.setTop (mkF m 509 (own_LA i0 i1 j2 n mm b (.val (.int r7)) (.val (.int sb.toInt32)) (.val (.int r)) (.val (.int w))) [(.int r)])) _
    refine XS.iconst X1.here hx rfl (hb hby at_509) ?_
    show Steps p.tables e below (T1.setTop (mkF m 510 (own_LA i0 i1 j2 n mm b (.val (.int r7)) (.val (.int sb.toInt32)) (.val (.int r)) (.val (.int w))) [(.int (1 : Int32)), (.int r)])) _
    refine XS.goto X1.here hx rfl (pc0 := 510) (pc' := 514) rfl (hb hby at_510) (by decide) (by decide) ?_
    show Steps p.tables e below (T1.setTop (mkF m 514 (own_LA i0 i1 j2 n mm b (.val (.int r7)) (.val (.int sb.toInt32)) (.val (.int r)) (.val (.int w))) [(.int (1 : Int32)), (.int r)])) _
    refine XS.ior X1.here hx rfl (hb hby at_514) rfl ?_
    show Steps p.tables e below (T1.setTop (mkF m 515 (own_LA i0 i1 j2 n mm b (.val (.int r7)) (.val (.int sb.toInt32)) (.val (.int r)) (.val (.int w))) [(.int (r ||| (1 : Int32)))])) _
    refine XS.istore X1.here hx rfl (hb hby at_515) rfl (l' := (own_LA i0 i1 j2 n mm b (.val (.int r7)) (.val (.int sb.toInt32)) (.val (.int (r ||| (1 : Int32)))) (.val (.int w)))) rfl ?_
    show Steps p.tables e below (T1.setTop (mkF m 517 (own_LA i0 i1 j2 n mm b (.val (.int r7)) (.val (.int sb.toInt32)) (.val (.int (r ||| (1 : Int32)))) (.val (.int w))) [])) _
    refine XS.iload X1.here hx rfl (hb hby at_517) rfl ?_
    show Steps p.tables e below (T1.setTop (mkF m 519 (own_LA i0 i1 j2 n mm b (.val (.int r7)) (.val (.int sb.toInt32)) (.val (.int (r ||| (1 : Int32)))) (.val (.int w))) [(.int w)])) _
    refine XS.aload X1.here hx rfl (hb hby at_519) rfl rfl ?_
    show Steps p.tables e below (T1.setTop (mkF m 521 (own_LA i0 i1 j2 n mm b (.val (.int r7)) (.val (.int sb.toInt32)) (.val (.int (r ||| (1 : Int32)))) (.val (.int w))) [(.ref b), (.int w)])) _
    refine XS.iload X1.here hx rfl (hb hby at_521) rfl ?_
    show Steps p.tables e below (T1.setTop (mkF m 523 (own_LA i0 i1 j2 n mm b (.val (.int r7)) (.val (.int sb.toInt32)) (.val (.int (r ||| (1 : Int32)))) (.val (.int w))) [(.int sb.toInt32), (.ref b), (.int w)])) _
    refine XS.iconst X1.here hx rfl (hb hby at_523) ?_
    show Steps p.tables e below (T1.setTop (mkF m 524 (own_LA i0 i1 j2 n mm b (.val (.int r7)) (.val (.int sb.toInt32)) (.val (.int (r ||| (1 : Int32)))) (.val (.int w))) [(.int (5 : Int32)), (.int sb.toInt32), (.ref b), (.int w)])) _
    refine XS.iadd X1.here hx rfl (hb hby at_524) rfl ?_
    show Steps p.tables e below (T1.setTop (mkF m 525 (own_LA i0 i1 j2 n mm b (.val (.int r7)) (.val (.int sb.toInt32)) (.val (.int (r ||| (1 : Int32)))) (.val (.int w))) [(.int (sb.toInt32 + (5 : Int32))), (.ref b), (.int w)])) _
    rw [hj]
    refine st2 _ ?_
    show Steps p.tables e below (T2.setTop (mkF m 528 (own_LA i0 i1 j2 n mm b (.val (.int r7)) (.val (.int sb.toInt32)) (.val (.int (r ||| (1 : Int32)))) (.val (.int w))) [(.int (own_g cl (sb + 5))), (.int w)])) _
    refine st3 _ ?_
    show Steps p.tables e below (T3.setTop (mkF m 531 (own_LA i0 i1 j2 n mm b (.val (.int r7)) (.val (.int sb.toInt32)) (.val (.int (r ||| (1 : Int32)))) (.val (.int w))) [(.int (own_ws (own_g cl (sb + 5)))), (.int w)])) _
    refine XS.iand X3.here hx rfl (hb hby at_531) rfl ?_
    show Steps p.tables e below (T3.setTop (mkF m 532 (own_LA i0 i1 j2 n mm b (.val (.int r7)) (.val (.int sb.toInt32)) (.val (.int (r ||| (1 : Int32)))) (.val (.int w))) [(.int (w &&& (own_ws (own_g cl (sb + 5)))))])) _
    refine XS.istore X3.here hx rfl (hb hby at_532) rfl (l' := (own_LA i0 i1 j2 n mm b (.val (.int r7)) (.val (.int sb.toInt32)) (.val (.int (r ||| (1 : Int32)))) (.val (.int (w &&& (own_ws (own_g cl (sb + 5)))))))) rfl ?_
    exact kt
  · have er : (own_r (own_g cl) r w (sb + 5)) = (r ||| (0 : Int32)) := by unfold own_r; rw [if_neg (fun q => h60 q.2)]
    have ewn : (own_w (own_g cl) w (sb + 5)) = (w &&& own_ws (own_g cl (sb + 5))) := rfl
    rw [er, ewn]
    obtain ⟨T1, W1, st1⟩ := own_at W0 hx hZ hw hby hml hown Z0 (q := 501) (Ls := (own_LA i0 i1 j2 n mm b (.val (.int r7)) (.val (.int sb.toInt32)) (.val (.int r)) (.val (.int w)))) rfl b cl (sb + 5) Ar Hi hsz (by omega) [(.int r)] (Nat.le_of_ble_eq_true rfl) at_501
    obtain ⟨T2, W2, st2⟩ := own_at W1 hx hZ hw hby hml hown Z0 (q := 525) (Ls := (own_LA i0 i1 j2 n mm b (.val (.int r7)) (.val (.int sb.toInt32)) (.val (.int (r ||| (0 : Int32)))) (.val (.int w)))) rfl b cl (sb + 5) Ar Hi hsz (by omega) [(.int w)] (Nat.le_of_ble_eq_true rfl) at_525
    obtain ⟨T3, W3, st3⟩ := own_isWs W2 hx hZ hw hby hml hown Z0 (q := 528) (Ls := (own_LA i0 i1 j2 n mm b (.val (.int r7)) (.val (.int sb.toInt32)) (.val (.int (r ||| (0 : Int32)))) (.val (.int w)))) rfl (own_g cl (sb + 5)) [(.int w)] (Nat.le_of_ble_eq_true rfl) at_528
    have W3' := W3
    obtain ⟨locs, X0, e0, N0⟩ := W0
    obtain ⟨locs1, X1, e1, N1⟩ := W1
    obtain ⟨locs2, X2, e2, N2⟩ := W2
    obtain ⟨locs3, X3, e3, N3⟩ := W3'
    refine ⟨T3, W3, fun target kt => ?_⟩
    show Steps p.tables e below (T0.setTop (mkF m 488 (own_LA i0 i1 j2 n mm b (.val (.int r7)) (.val (.int sb.toInt32)) (.val (.int r)) (.val (.int w))) [])) _
    refine XS.iload X0.here hx rfl (hb hby at_488) rfl ?_
    show Steps p.tables e below (T0.setTop (mkF m 490 (own_LA i0 i1 j2 n mm b (.val (.int r7)) (.val (.int sb.toInt32)) (.val (.int r)) (.val (.int w))) [(.int r)])) _
    refine XS.iload X0.here hx rfl (hb hby at_490) rfl ?_
    show Steps p.tables e below (T0.setTop (mkF m 492 (own_LA i0 i1 j2 n mm b (.val (.int r7)) (.val (.int sb.toInt32)) (.val (.int r)) (.val (.int w))) [(.int w), (.int r)])) _
    refine XS.ifNo X0.here hx rfl (hb hby at_492) rfl ((if0 _ _).trans (feq hw0).1) ?_
    show Steps p.tables e below (T0.setTop (mkF m 495 (own_LA i0 i1 j2 n mm b (.val (.int r7)) (.val (.int sb.toInt32)) (.val (.int r)) (.val (.int w))) [(.int r)])) _
    refine XS.aload X0.here hx rfl (hb hby at_495) rfl rfl ?_
    show Steps p.tables e below (T0.setTop (mkF m 497 (own_LA i0 i1 j2 n mm b (.val (.int r7)) (.val (.int sb.toInt32)) (.val (.int r)) (.val (.int w))) [(.ref b), (.int r)])) _
    refine XS.iload X0.here hx rfl (hb hby at_497) rfl ?_
    show Steps p.tables e below (T0.setTop (mkF m 499 (own_LA i0 i1 j2 n mm b (.val (.int r7)) (.val (.int sb.toInt32)) (.val (.int r)) (.val (.int w))) [(.int sb.toInt32), (.ref b), (.int r)])) _
    refine XS.iconst X0.here hx rfl (hb hby at_499) ?_
    show Steps p.tables e below (T0.setTop (mkF m 500 (own_LA i0 i1 j2 n mm b (.val (.int r7)) (.val (.int sb.toInt32)) (.val (.int r)) (.val (.int w))) [(.int (5 : Int32)), (.int sb.toInt32), (.ref b), (.int r)])) _
    refine XS.iadd X0.here hx rfl (hb hby at_500) rfl ?_
    show Steps p.tables e below (T0.setTop (mkF m 501 (own_LA i0 i1 j2 n mm b (.val (.int r7)) (.val (.int sb.toInt32)) (.val (.int r)) (.val (.int w))) [(.int (sb.toInt32 + (5 : Int32))), (.ref b), (.int r)])) _
    rw [hj]
    refine st1 _ ?_
    show Steps p.tables e below (T1.setTop (mkF m 504 (own_LA i0 i1 j2 n mm b (.val (.int r7)) (.val (.int sb.toInt32)) (.val (.int r)) (.val (.int w))) [(.int (own_g cl (sb + 5))), (.int r)])) _
    refine XS.bipush X1.here hx rfl (hb hby at_504) ?_
    show Steps p.tables e below (T1.setTop (mkF m 506 (own_LA i0 i1 j2 n mm b (.val (.int r7)) (.val (.int sb.toInt32)) (.val (.int r)) (.val (.int w))) [(.int (60 : Int32)), (.int (own_g cl (sb + 5))), (.int r)])) _
    refine XS.icmpYes X1.here hx rfl (pc0 := 506) (pc' := 513) rfl (hb hby at_506) rfl (feq h60).2 (by decide) (by decide) ?_
    show Steps p.tables e below (T1.setTop (mkF m 513 (own_LA i0 i1 j2 n mm b (.val (.int r7)) (.val (.int sb.toInt32)) (.val (.int r)) (.val (.int w))) [(.int r)])) _
    refine XS.iconst X1.here hx rfl (hb hby at_513) ?_
    show Steps p.tables e below (T1.setTop (mkF m 514 (own_LA i0 i1 j2 n mm b (.val (.int r7)) (.val (.int sb.toInt32)) (.val (.int r)) (.val (.int w))) [(.int (0 : Int32)), (.int r)])) _
    refine XS.ior X1.here hx rfl (hb hby at_514) rfl ?_
    show Steps p.tables e below (T1.setTop (mkF m 515 (own_LA i0 i1 j2 n mm b (.val (.int r7)) (.val (.int sb.toInt32)) (.val (.int r)) (.val (.int w))) [(.int (r ||| (0 : Int32)))])) _
    refine XS.istore X1.here hx rfl (hb hby at_515) rfl (l' := (own_LA i0 i1 j2 n mm b (.val (.int r7)) (.val (.int sb.toInt32)) (.val (.int (r ||| (0 : Int32)))) (.val (.int w)))) rfl ?_
    show Steps p.tables e below (T1.setTop (mkF m 517 (own_LA i0 i1 j2 n mm b (.val (.int r7)) (.val (.int sb.toInt32)) (.val (.int (r ||| (0 : Int32)))) (.val (.int w))) [])) _
    refine XS.iload X1.here hx rfl (hb hby at_517) rfl ?_
    show Steps p.tables e below (T1.setTop (mkF m 519 (own_LA i0 i1 j2 n mm b (.val (.int r7)) (.val (.int sb.toInt32)) (.val (.int (r ||| (0 : Int32)))) (.val (.int w))) [(.int w)])) _
    refine XS.aload X1.here hx rfl (hb hby at_519) rfl rfl ?_
    show Steps p.tables e below (T1.setTop (mkF m 521 (own_LA i0 i1 j2 n mm b (.val (.int r7)) (.val (.int sb.toInt32)) (.val (.int (r ||| (0 : Int32)))) (.val (.int w))) [(.ref b), (.int w)])) _
    refine XS.iload X1.here hx rfl (hb hby at_521) rfl ?_
    show Steps p.tables e below (T1.setTop (mkF m 523 (own_LA i0 i1 j2 n mm b (.val (.int r7)) (.val (.int sb.toInt32)) (.val (.int (r ||| (0 : Int32)))) (.val (.int w))) [(.int sb.toInt32), (.ref b), (.int w)])) _
    refine XS.iconst X1.here hx rfl (hb hby at_523) ?_
    show Steps p.tables e below (T1.setTop (mkF m 524 (own_LA i0 i1 j2 n mm b (.val (.int r7)) (.val (.int sb.toInt32)) (.val (.int (r ||| (0 : Int32)))) (.val (.int w))) [(.int (5 : Int32)), (.int sb.toInt32), (.ref b), (.int w)])) _
    refine XS.iadd X1.here hx rfl (hb hby at_524) rfl ?_
    show Steps p.tables e below (T1.setTop (mkF m 525 (own_LA i0 i1 j2 n mm b (.val (.int r7)) (.val (.int sb.toInt32)) (.val (.int (r ||| (0 : Int32)))) (.val (.int w))) [(.int (sb.toInt32 + (5 : Int32))), (.ref b), (.int w)])) _
    rw [hj]
    refine st2 _ ?_
    show Steps p.tables e below (T2.setTop (mkF m 528 (own_LA i0 i1 j2 n mm b (.val (.int r7)) (.val (.int sb.toInt32)) (.val (.int (r ||| (0 : Int32)))) (.val (.int w))) [(.int (own_g cl (sb + 5))), (.int w)])) _
    refine st3 _ ?_
    show Steps p.tables e below (T3.setTop (mkF m 531 (own_LA i0 i1 j2 n mm b (.val (.int r7)) (.val (.int sb.toInt32)) (.val (.int (r ||| (0 : Int32)))) (.val (.int w))) [(.int (own_ws (own_g cl (sb + 5)))), (.int w)])) _
    refine XS.iand X3.here hx rfl (hb hby at_531) rfl ?_
    show Steps p.tables e below (T3.setTop (mkF m 532 (own_LA i0 i1 j2 n mm b (.val (.int r7)) (.val (.int sb.toInt32)) (.val (.int (r ||| (0 : Int32)))) (.val (.int w))) [(.int (w &&& (own_ws (own_g cl (sb + 5)))))])) _
    refine XS.istore X3.here hx rfl (hb hby at_532) rfl (l' := (own_LA i0 i1 j2 n mm b (.val (.int r7)) (.val (.int sb.toInt32)) (.val (.int (r ||| (0 : Int32)))) (.val (.int (w &&& (own_ws (own_g cl (sb + 5)))))))) rfl ?_
    exact kt
set_option maxRecDepth 65536 in
set_option maxHeartbeats 40000000 in
theorem own_rd6 (W0 : own_W p l e s m args below meth c n0 T0 h0) (hx : p.tables.exec = Jvm.exec) (hZ : Z.Warmed39 s.vm) (hw : ∀ d ∈ tables_1, d.before a0 Z = true) (hby : c.code = code) (hml : c.maxLocals = 11) (hown : s.vm.findClass "com/example/plinth/plinth/cli/InputFileIsXmlPinLaw" = some m.cls) (Z0 : n0 ≤ h0.size) (i0 i1 : Int32) (j2 : Int64) (n mm : Int32) (b : Addr) (r7 : Int32) (cl : Cell) (Ar : Arr Z h0 b cl .byte) (Hi : own_ints cl) (hsz : cl.slots.size ≤ 8) (sb : Nat) (hsb : sb ≤ 3) (r w : Int32) :
    ∃ (T' : State), own_W p l e s m args below meth c n0 T' h0 ∧ own_Ld p e below T0 (mkF m 534 (own_LA i0 i1 j2 n mm b (.val (.int r7)) (.val (.int sb.toInt32)) (.val (.int r)) (.val (.int w))) []) T' (mkF m 582 (own_LA i0 i1 j2 n mm b (.val (.int r7)) (.val (.int sb.toInt32)) (.val (.int (own_r (own_g cl) r w (sb + 6)))) (.val (.int (own_w (own_g cl) w (sb + 6))))) []) := by
  have hj : sb.toInt32 + (6 : Int32) = (sb + 6).toInt32 := (Int32.ofNat_add sb 6).symm
  by_cases hw0 : w = (0 : Int32)
  · have er : (own_r (own_g cl) r w (sb + 6)) = (r ||| (0 : Int32)) := by unfold own_r; rw [if_neg (fun q => q.1 hw0)]
    have ewn : (own_w (own_g cl) w (sb + 6)) = (w &&& own_ws (own_g cl (sb + 6))) := rfl
    rw [er, ewn]
    obtain ⟨T2, W2, st2⟩ := own_at W0 hx hZ hw hby hml hown Z0 (q := 573) (Ls := (own_LA i0 i1 j2 n mm b (.val (.int r7)) (.val (.int sb.toInt32)) (.val (.int (r ||| (0 : Int32)))) (.val (.int w)))) rfl b cl (sb + 6) Ar Hi hsz (by omega) [(.int w)] (Nat.le_of_ble_eq_true rfl) at_573
    obtain ⟨T3, W3, st3⟩ := own_isWs W2 hx hZ hw hby hml hown Z0 (q := 576) (Ls := (own_LA i0 i1 j2 n mm b (.val (.int r7)) (.val (.int sb.toInt32)) (.val (.int (r ||| (0 : Int32)))) (.val (.int w)))) rfl (own_g cl (sb + 6)) [(.int w)] (Nat.le_of_ble_eq_true rfl) at_576
    have W3' := W3
    obtain ⟨locs, X0, e0, N0⟩ := W0
    obtain ⟨locs2, X2, e2, N2⟩ := W2
    obtain ⟨locs3, X3, e3, N3⟩ := W3'
    refine ⟨T3, W3, fun target kt => ?_⟩
    show Steps p.tables e below (T0.setTop (mkF m 534 (own_LA i0 i1 j2 n mm b (.val (.int r7)) (.val (.int sb.toInt32)) (.val (.int r)) (.val (.int w))) [])) _
    refine XS.iload X0.here hx rfl (hb hby at_534) rfl ?_
    show Steps p.tables e below (T0.setTop (mkF m 536 (own_LA i0 i1 j2 n mm b (.val (.int r7)) (.val (.int sb.toInt32)) (.val (.int r)) (.val (.int w))) [(.int r)])) _
    refine XS.iload X0.here hx rfl (hb hby at_536) rfl ?_
    show Steps p.tables e below (T0.setTop (mkF m 538 (own_LA i0 i1 j2 n mm b (.val (.int r7)) (.val (.int sb.toInt32)) (.val (.int r)) (.val (.int w))) [(.int w), (.int r)])) _
    refine XS.ifYes X0.here hx rfl (pc0 := 538) (pc' := 560) rfl (hb hby at_538) rfl ((if0 _ _).trans (teq hw0).1) (by decide) (by decide) ?_
    show Steps p.tables e below (T0.setTop (mkF m 560 (own_LA i0 i1 j2 n mm b (.val (.int r7)) (.val (.int sb.toInt32)) (.val (.int r)) (.val (.int w))) [(.int r)])) _
    refine XS.iconst X0.here hx rfl (hb hby at_560) ?_
    show Steps p.tables e below (T0.setTop (mkF m 561 (own_LA i0 i1 j2 n mm b (.val (.int r7)) (.val (.int sb.toInt32)) (.val (.int r)) (.val (.int w))) [(.int (0 : Int32)), (.int r)])) _
    refine XS.ior X0.here hx rfl (hb hby at_561) rfl ?_
    show Steps p.tables e below (T0.setTop (mkF m 562 (own_LA i0 i1 j2 n mm b (.val (.int r7)) (.val (.int sb.toInt32)) (.val (.int r)) (.val (.int w))) [(.int (r ||| (0 : Int32)))])) _
    refine XS.istore X0.here hx rfl (hb hby at_562) rfl (l' := (own_LA i0 i1 j2 n mm b (.val (.int r7)) (.val (.int sb.toInt32)) (.val (.int (r ||| (0 : Int32)))) (.val (.int w)))) rfl ?_
    show Steps p.tables e below (T0.setTop (mkF m 564 (own_LA i0 i1 j2 n mm b (.val (.int r7)) (.val (.int sb.toInt32)) (.val (.int (r ||| (0 : Int32)))) (.val (.int w))) [])) _
    refine XS.iload X0.here hx rfl (hb hby at_564) rfl ?_
    show Steps p.tables e below (T0.setTop (mkF m 566 (own_LA i0 i1 j2 n mm b (.val (.int r7)) (.val (.int sb.toInt32)) (.val (.int (r ||| (0 : Int32)))) (.val (.int w))) [(.int w)])) _
    refine XS.aload X0.here hx rfl (hb hby at_566) rfl rfl ?_
    show Steps p.tables e below (T0.setTop (mkF m 568 (own_LA i0 i1 j2 n mm b (.val (.int r7)) (.val (.int sb.toInt32)) (.val (.int (r ||| (0 : Int32)))) (.val (.int w))) [(.ref b), (.int w)])) _
    refine XS.iload X0.here hx rfl (hb hby at_568) rfl ?_
    show Steps p.tables e below (T0.setTop (mkF m 570 (own_LA i0 i1 j2 n mm b (.val (.int r7)) (.val (.int sb.toInt32)) (.val (.int (r ||| (0 : Int32)))) (.val (.int w))) [(.int sb.toInt32), (.ref b), (.int w)])) _
    refine XS.bipush X0.here hx rfl (hb hby at_570) ?_
    show Steps p.tables e below (T0.setTop (mkF m 572 (own_LA i0 i1 j2 n mm b (.val (.int r7)) (.val (.int sb.toInt32)) (.val (.int (r ||| (0 : Int32)))) (.val (.int w))) [(.int (6 : Int32)), (.int sb.toInt32), (.ref b), (.int w)])) _
    refine XS.iadd X0.here hx rfl (hb hby at_572) rfl ?_
    show Steps p.tables e below (T0.setTop (mkF m 573 (own_LA i0 i1 j2 n mm b (.val (.int r7)) (.val (.int sb.toInt32)) (.val (.int (r ||| (0 : Int32)))) (.val (.int w))) [(.int (sb.toInt32 + (6 : Int32))), (.ref b), (.int w)])) _
    rw [hj]
    refine st2 _ ?_
    show Steps p.tables e below (T2.setTop (mkF m 576 (own_LA i0 i1 j2 n mm b (.val (.int r7)) (.val (.int sb.toInt32)) (.val (.int (r ||| (0 : Int32)))) (.val (.int w))) [(.int (own_g cl (sb + 6))), (.int w)])) _
    refine st3 _ ?_
    show Steps p.tables e below (T3.setTop (mkF m 579 (own_LA i0 i1 j2 n mm b (.val (.int r7)) (.val (.int sb.toInt32)) (.val (.int (r ||| (0 : Int32)))) (.val (.int w))) [(.int (own_ws (own_g cl (sb + 6)))), (.int w)])) _
    refine XS.iand X3.here hx rfl (hb hby at_579) rfl ?_
    show Steps p.tables e below (T3.setTop (mkF m 580 (own_LA i0 i1 j2 n mm b (.val (.int r7)) (.val (.int sb.toInt32)) (.val (.int (r ||| (0 : Int32)))) (.val (.int w))) [(.int (w &&& (own_ws (own_g cl (sb + 6)))))])) _
    refine XS.istore X3.here hx rfl (hb hby at_580) rfl (l' := (own_LA i0 i1 j2 n mm b (.val (.int r7)) (.val (.int sb.toInt32)) (.val (.int (r ||| (0 : Int32)))) (.val (.int (w &&& (own_ws (own_g cl (sb + 6)))))))) rfl ?_
    exact kt
  by_cases h60 : (own_g cl (sb + 6)) = (60 : Int32)
  · have er : (own_r (own_g cl) r w (sb + 6)) = (r ||| (1 : Int32)) := by unfold own_r; rw [if_pos ⟨hw0, h60⟩]
    have ewn : (own_w (own_g cl) w (sb + 6)) = (w &&& own_ws (own_g cl (sb + 6))) := rfl
    rw [er, ewn]
    obtain ⟨T1, W1, st1⟩ := own_at W0 hx hZ hw hby hml hown Z0 (q := 548) (Ls := (own_LA i0 i1 j2 n mm b (.val (.int r7)) (.val (.int sb.toInt32)) (.val (.int r)) (.val (.int w)))) rfl b cl (sb + 6) Ar Hi hsz (by omega) [(.int r)] (Nat.le_of_ble_eq_true rfl) at_548
    obtain ⟨T2, W2, st2⟩ := own_at W1 hx hZ hw hby hml hown Z0 (q := 573) (Ls := (own_LA i0 i1 j2 n mm b (.val (.int r7)) (.val (.int sb.toInt32)) (.val (.int (r ||| (1 : Int32)))) (.val (.int w)))) rfl b cl (sb + 6) Ar Hi hsz (by omega) [(.int w)] (Nat.le_of_ble_eq_true rfl) at_573
    obtain ⟨T3, W3, st3⟩ := own_isWs W2 hx hZ hw hby hml hown Z0 (q := 576) (Ls := (own_LA i0 i1 j2 n mm b (.val (.int r7)) (.val (.int sb.toInt32)) (.val (.int (r ||| (1 : Int32)))) (.val (.int w)))) rfl (own_g cl (sb + 6)) [(.int w)] (Nat.le_of_ble_eq_true rfl) at_576
    have W3' := W3
    obtain ⟨locs, X0, e0, N0⟩ := W0
    obtain ⟨locs1, X1, e1, N1⟩ := W1
    obtain ⟨locs2, X2, e2, N2⟩ := W2
    obtain ⟨locs3, X3, e3, N3⟩ := W3'
    refine ⟨T3, W3, fun target kt => ?_⟩
    show Steps p.tables e below (T0.setTop (mkF m 534 (own_LA i0 i1 j2 n mm b (.val (.int r7)) (.val (.int sb.toInt32)) (.val (.int r)) (.val (.int w))) [])) _
    refine XS.iload X0.here hx rfl (hb hby at_534) rfl ?_
    show Steps p.tables e below (T0.setTop (mkF m 536 (own_LA i0 i1 j2 n mm b (.val (.int r7)) (.val (.int sb.toInt32)) (.val (.int r)) (.val (.int w))) [(.int r)])) _
    refine XS.iload X0.here hx rfl (hb hby at_536) rfl ?_
    show Steps p.tables e below (T0.setTop (mkF m 538 (own_LA i0 i1 j2 n mm b (.val (.int r7)) (.val (.int sb.toInt32)) (.val (.int r)) (.val (.int w))) [(.int w), (.int r)])) _
    refine XS.ifNo X0.here hx rfl (hb hby at_538) rfl ((if0 _ _).trans (feq hw0).1) ?_
    show Steps p.tables e below (T0.setTop (mkF m 541 (own_LA i0 i1 j2 n mm b (.val (.int r7)) (.val (.int sb.toInt32)) (.val (.int r)) (.val (.int w))) [(.int r)])) _
    refine XS.aload X0.here hx rfl (hb hby at_541) rfl rfl ?_
    show Steps p.tables e below (T0.setTop (mkF m 543 (own_LA i0 i1 j2 n mm b (.val (.int r7)) (.val (.int sb.toInt32)) (.val (.int r)) (.val (.int w))) [(.ref b), (.int r)])) _
    refine XS.iload X0.here hx rfl (hb hby at_543) rfl ?_
    show Steps p.tables e below (T0.setTop (mkF m 545 (own_LA i0 i1 j2 n mm b (.val (.int r7)) (.val (.int sb.toInt32)) (.val (.int r)) (.val (.int w))) [(.int sb.toInt32), (.ref b), (.int r)])) _
    refine XS.bipush X0.here hx rfl (hb hby at_545) ?_
    show Steps p.tables e below (T0.setTop (mkF m 547 (own_LA i0 i1 j2 n mm b (.val (.int r7)) (.val (.int sb.toInt32)) (.val (.int r)) (.val (.int w))) [(.int (6 : Int32)), (.int sb.toInt32), (.ref b), (.int r)])) _
    refine XS.iadd X0.here hx rfl (hb hby at_547) rfl ?_
    show Steps p.tables e below (T0.setTop (mkF m 548 (own_LA i0 i1 j2 n mm b (.val (.int r7)) (.val (.int sb.toInt32)) (.val (.int r)) (.val (.int w))) [(.int (sb.toInt32 + (6 : Int32))), (.ref b), (.int r)])) _
    rw [hj]
    refine st1 _ ?_
    show Steps p.tables e below (T1.setTop (mkF m 551 (own_LA i0 i1 j2 n mm b (.val (.int r7)) (.val (.int sb.toInt32)) (.val (.int r)) (.val (.int w))) [(.int (own_g cl (sb + 6))), (.int r)])) _
    refine XS.bipush X1.here hx rfl (hb hby at_551) ?_
    show Steps p.tables e below (T1.setTop (mkF m 553 (own_LA i0 i1 j2 n mm b (.val (.int r7)) (.val (.int sb.toInt32)) (.val (.int r)) (.val (.int w))) [(.int (60 : Int32)), (.int (own_g cl (sb + 6))), (.int r)])) _
    refine XS.icmpNo X1.here hx rfl (hb hby at_553) rfl (teq h60).2 ?_
    show Steps p.tables e below (T1.setTop (mkF m 556 (own_LA i0 i1 j2 n mm b (.val (.int r7)) (.val (.int sb.toInt32)) (.val (.int r)) (.val (.int w))) [(.int r)])) _
    refine XS.iconst X1.here hx rfl (hb hby at_556) ?_
    show Steps p.tables e below (T1.setTop (mkF m 557 (own_LA i0 i1 j2 n mm b (.val (.int r7)) (.val (.int sb.toInt32)) (.val (.int r)) (.val (.int w))) [(.int (1 : Int32)), (.int r)])) _
    refine XS.goto X1.here hx rfl (pc0 := 557) (pc' := 561) rfl (hb hby at_557) (by decide) (by decide) ?_
    show Steps p.tables e below (T1.setTop (mkF m 561 (own_LA i0 i1 j2 n mm b (.val (.int r7)) (.val (.int sb.toInt32)) (.val (.int r)) (.val (.int w))) [(.int (1 : Int32)), (.int r)])) _
    refine XS.ior X1.here hx rfl (hb hby at_561) rfl ?_
    show Steps p.tables e below (T1.setTop (mkF m 562 (own_LA i0 i1 j2 n mm b (.val (.int r7)) (.val (.int sb.toInt32)) (.val (.int r)) (.val (.int w))) [(.int (r ||| (1 : Int32)))])) _
    refine XS.istore X1.here hx rfl (hb hby at_562) rfl (l' := (own_LA i0 i1 j2 n mm b (.val (.int r7)) (.val (.int sb.toInt32)) (.val (.int (r ||| (1 : Int32)))) (.val (.int w)))) rfl ?_
    show Steps p.tables e below (T1.setTop (mkF m 564 (own_LA i0 i1 j2 n mm b (.val (.int r7)) (.val (.int sb.toInt32)) (.val (.int (r ||| (1 : Int32)))) (.val (.int w))) [])) _
    refine XS.iload X1.here hx rfl (hb hby at_564) rfl ?_
    show Steps p.tables e below (T1.setTop (mkF m 566 (own_LA i0 i1 j2 n mm b (.val (.int r7)) (.val (.int sb.toInt32)) (.val (.int (r ||| (1 : Int32)))) (.val (.int w))) [(.int w)])) _
    refine XS.aload X1.here hx rfl (hb hby at_566) rfl rfl ?_
    show Steps p.tables e below (T1.setTop (mkF m 568 (own_LA i0 i1 j2 n mm b (.val (.int r7)) (.val (.int sb.toInt32)) (.val (.int (r ||| (1 : Int32)))) (.val (.int w))) [(.ref b), (.int w)])) _
    refine XS.iload X1.here hx rfl (hb hby at_568) rfl ?_
    show Steps p.tables e below (T1.setTop (mkF m 570 (own_LA i0 i1 j2 n mm b (.val (.int r7)) (.val (.int sb.toInt32)) (.val (.int (r ||| (1 : Int32)))) (.val (.int w))) [(.int sb.toInt32), (.ref b), (.int w)])) _
    refine XS.bipush X1.here hx rfl (hb hby at_570) ?_
    show Steps p.tables e below (T1.setTop (mkF m 572 (own_LA i0 i1 j2 n mm b (.val (.int r7)) (.val (.int sb.toInt32)) (.val (.int (r ||| (1 : Int32)))) (.val (.int w))) [(.int (6 : Int32)), (.int sb.toInt32), (.ref b), (.int w)])) _
    refine XS.iadd X1.here hx rfl (hb hby at_572) rfl ?_
    show Steps p.tables e below (T1.setTop (mkF m 573 (own_LA i0 i1 j2 n mm b (.val (.int r7)) (.val (.int sb.toInt32)) (.val (.int (r ||| (1 : Int32)))) (.val (.int w))) [(.int (sb.toInt32 + (6 : Int32))), (.ref b), (.int w)])) _
    rw [hj]
    refine st2 _ ?_
    show Steps p.tables e below (T2.setTop (mkF m 576 (own_LA i0 i1 j2 n mm b (.val (.int r7)) (.val (.int sb.toInt32)) (.val (.int (r ||| (1 : Int32)))) (.val (.int w))) [(.int (own_g cl (sb + 6))), (.int w)])) _
    refine st3 _ ?_
    show Steps p.tables e below (T3.setTop (mkF m 579 (own_LA i0 i1 j2 n mm b (.val (.int r7)) (.val (.int sb.toInt32)) (.val (.int (r ||| (1 : Int32)))) (.val (.int w))) [(.int (own_ws (own_g cl (sb + 6)))), (.int w)])) _
    refine XS.iand X3.here hx rfl (hb hby at_579) rfl ?_
    show Steps p.tables e below (T3.setTop (mkF m 580 (own_LA i0 i1 j2 n mm b (.val (.int r7)) (.val (.int sb.toInt32)) (.val (.int (r ||| (1 : Int32)))) (.val (.int w))) [(.int (w &&& (own_ws (own_g cl (sb + 6)))))])) _
    refine XS.istore X3.here hx rfl (hb hby at_580) rfl (l' := (own_LA i0 i1 j2 n mm b (.val (.int r7)) (.val (.int sb.toInt32)) (.val (.int (r ||| (1 : Int32)))) (.val (.int (w &&& (own_ws (own_g cl (sb + 6)))))))) rfl ?_
    exact kt
  · have er : (own_r (own_g cl) r w (sb + 6)) = (r ||| (0 : Int32)) := by unfold own_r; rw [if_neg (fun q => h60 q.2)]
    have ewn : (own_w (own_g cl) w (sb + 6)) = (w &&& own_ws (own_g cl (sb + 6))) := rfl
    rw [er, ewn]
    obtain ⟨T1, W1, st1⟩ := own_at W0 hx hZ hw hby hml hown Z0 (q := 548) (Ls := (own_LA i0 i1 j2 n mm b (.val (.int r7)) (.val (.int sb.toInt32)) (.val (.int r)) (.val (.int w)))) rfl b cl (sb + 6) Ar Hi hsz (by omega) [(.int r)] (Nat.le_of_ble_eq_true rfl) at_548
    obtain ⟨T2, W2, st2⟩ := own_at W1 hx hZ hw hby hml hown Z0 (q := 573) (Ls := (own_LA i0 i1 j2 n mm b (.val (.int r7)) (.val (.int sb.toInt32)) (.val (.int (r ||| (0 : Int32)))) (.val (.int w)))) rfl b cl (sb + 6) Ar Hi hsz (by omega) [(.int w)] (Nat.le_of_ble_eq_true rfl) at_573
    obtain ⟨T3, W3, st3⟩ := own_isWs W2 hx hZ hw hby hml hown Z0 (q := 576) (Ls := (own_LA i0 i1 j2 n mm b (.val (.int r7)) (.val (.int sb.toInt32)) (.val (.int (r ||| (0 : Int32)))) (.val (.int w)))) rfl (own_g cl (sb + 6)) [(.int w)] (Nat.le_of_ble_eq_true rfl) at_576
    have W3' := W3
    obtain ⟨locs, X0, e0, N0⟩ := W0
    obtain ⟨locs1, X1, e1, N1⟩ := W1
    obtain ⟨locs2, X2, e2, N2⟩ := W2
    obtain ⟨locs3, X3, e3, N3⟩ := W3'
    refine ⟨T3, W3, fun target kt => ?_⟩
    show Steps p.tables e below (T0.setTop (mkF m 534 (own_LA i0 i1 j2 n mm b (.val (.int r7)) (.val (.int sb.toInt32)) (.val (.int r)) (.val (.int w))) [])) _
    refine XS.iload X0.here hx rfl (hb hby at_534) rfl ?_
    show Steps p.tables e below (T0.setTop (mkF m 536 (own_LA i0 i1 j2 n mm b (.val (.int r7)) (.val (.int sb.toInt32)) (.val (.int r)) (.val (.int w))) [(.int r)])) _
    refine XS.iload X0.here hx rfl (hb hby at_536) rfl ?_
    show Steps p.tables e below (T0.setTop (mkF m 538 (own_LA i0 i1 j2 n mm b (.val (.int r7)) (.val (.int sb.toInt32)) (.val (.int r)) (.val (.int w))) [(.int w), (.int r)])) _
    refine XS.ifNo X0.here hx rfl (hb hby at_538) rfl ((if0 _ _).trans (feq hw0).1) ?_
    show Steps p.tables e below (T0.setTop (mkF m 541 (own_LA i0 i1 j2 n mm b (.val (.int r7)) (.val (.int sb.toInt32)) (.val (.int r)) (.val (.int w))) [(.int r)])) _
    refine XS.aload X0.here hx rfl (hb hby at_541) rfl rfl ?_
    show Steps p.tables e below (T0.setTop (mkF m 543 (own_LA i0 i1 j2 n mm b (.val (.int r7)) (.val (.int sb.toInt32)) (.val (.int r)) (.val (.int w))) [(.ref b), (.int r)])) _
    refine XS.iload X0.here hx rfl (hb hby at_543) rfl ?_
    show Steps p.tables e below (T0.setTop (mkF m 545 (own_LA i0 i1 j2 n mm b (.val (.int r7)) (.val (.int sb.toInt32)) (.val (.int r)) (.val (.int w))) [(.int sb.toInt32), (.ref b), (.int r)])) _
    refine XS.bipush X0.here hx rfl (hb hby at_545) ?_
    show Steps p.tables e below (T0.setTop (mkF m 547 (own_LA i0 i1 j2 n mm b (.val (.int r7)) (.val (.int sb.toInt32)) (.val (.int r)) (.val (.int w))) [(.int (6 : Int32)), (.int sb.toInt32), (.ref b), (.int r)])) _
    refine XS.iadd X0.here hx rfl (hb hby at_547) rfl ?_
    show Steps p.tables e below (T0.setTop (mkF m 548 (own_LA i0 i1 j2 n mm b (.val (.int r7)) (.val (.int sb.toInt32)) (.val (.int r)) (.val (.int w))) [(.int (sb.toInt32 + (6 : Int32))), (.ref b), (.int r)])) _
    rw [hj]
    refine st1 _ ?_
    show Steps p.tables e below (T1.setTop (mkF m 551 (own_LA i0 i1 j2 n mm b (.val (.int r7)) (.val (.int sb.toInt32)) (.val (.int r)) (.val (.int w))) [(.int (own_g cl (sb + 6))), (.int r)])) _
    refine XS.bipush X1.here hx rfl (hb hby at_551) ?_
    show Steps p.tables e below (T1.setTop (mkF m 553 (own_LA i0 i1 j2 n mm b (.val (.int r7)) (.val (.int sb.toInt32)) (.val (.int r)) (.val (.int w))) [(.int (60 : Int32)), (.int (own_g cl (sb + 6))), (.int r)])) _
    refine XS.icmpYes X1.here hx rfl (pc0 := 553) (pc' := 560) rfl (hb hby at_553) rfl (feq h60).2 (by decide) (by decide) ?_
    show Steps p.tables e below (T1.setTop (mkF m 560 (own_LA i0 i1 j2 n mm b (.val (.int r7)) (.val (.int sb.toInt32)) (.val (.int r)) (.val (.int w))) [(.int r)])) _
    refine XS.iconst X1.here hx rfl (hb hby at_560) ?_
    show Steps p.tables e below (T1.setTop (mkF m 561 (own_LA i0 i1 j2 n mm b (.val (.int r7)) (.val (.int sb.toInt32)) (.val (.int r)) (.val (.int w))) [(.int (0 : Int32)), (.int r)])) _
    refine XS.ior X1.here hx rfl (hb hby at_561) rfl ?_
    show Steps p.tables e below (T1.setTop (mkF m 562 (own_LA i0 i1 j2 n mm b (.val (.int r7)) (.val (.int sb.toInt32)) (.val (.int r)) (.val (.int w))) [(.int (r ||| (0 : Int32)))])) _
    refine XS.istore X1.here hx rfl (hb hby at_562) rfl (l' := (own_LA i0 i1 j2 n mm b (.val (.int r7)) (.val (.int sb.toInt32)) (.val (.int (r ||| (0 : Int32)))) (.val (.int w)))) rfl ?_
    show Steps p.tables e below (T1.setTop (mkF m 564 (own_LA i0 i1 j2 n mm b (.val (.int r7)) (.val (.int sb.toInt32)) (.val (.int (r ||| (0 : Int32)))) (.val (.int w))) [])) _
    refine XS.iload X1.here hx rfl (hb hby at_564) rfl ?_
    show Steps p.tables e below (T1.setTop (mkF m 566 (own_LA i0 i1 j2 n mm b (.val (.int r7)) (.val (.int sb.toInt32)) (.val (.int (r ||| (0 : Int32)))) (.val (.int w))) [(.int w)])) _
    refine XS.aload X1.here hx rfl (hb hby at_566) rfl rfl ?_
    show Steps p.tables e below (T1.setTop (mkF m 568 (own_LA i0 i1 j2 n mm b (.val (.int r7)) (.val (.int sb.toInt32)) (.val (.int (r ||| (0 : Int32)))) (.val (.int w))) [(.ref b), (.int w)])) _
    refine XS.iload X1.here hx rfl (hb hby at_568) rfl ?_
    show Steps p.tables e below (T1.setTop (mkF m 570 (own_LA i0 i1 j2 n mm b (.val (.int r7)) (.val (.int sb.toInt32)) (.val (.int (r ||| (0 : Int32)))) (.val (.int w))) [(.int sb.toInt32), (.ref b), (.int w)])) _
    refine XS.bipush X1.here hx rfl (hb hby at_570) ?_
    show Steps p.tables e below (T1.setTop (mkF m 572 (own_LA i0 i1 j2 n mm b (.val (.int r7)) (.val (.int sb.toInt32)) (.val (.int (r ||| (0 : Int32)))) (.val (.int w))) [(.int (6 : Int32)), (.int sb.toInt32), (.ref b), (.int w)])) _
    refine XS.iadd X1.here hx rfl (hb hby at_572) rfl ?_
    show Steps p.tables e below (T1.setTop (mkF m 573 (own_LA i0 i1 j2 n mm b (.val (.int r7)) (.val (.int sb.toInt32)) (.val (.int (r ||| (0 : Int32)))) (.val (.int w))) [(.int (sb.toInt32 + (6 : Int32))), (.ref b), (.int w)])) _
    rw [hj]
    refine st2 _ ?_
    show Steps p.tables e below (T2.setTop (mkF m 576 (own_LA i0 i1 j2 n mm b (.val (.int r7)) (.val (.int sb.toInt32)) (.val (.int (r ||| (0 : Int32)))) (.val (.int w))) [(.int (own_g cl (sb + 6))), (.int w)])) _
    refine st3 _ ?_
    show Steps p.tables e below (T3.setTop (mkF m 579 (own_LA i0 i1 j2 n mm b (.val (.int r7)) (.val (.int sb.toInt32)) (.val (.int (r ||| (0 : Int32)))) (.val (.int w))) [(.int (own_ws (own_g cl (sb + 6)))), (.int w)])) _
    refine XS.iand X3.here hx rfl (hb hby at_579) rfl ?_
    show Steps p.tables e below (T3.setTop (mkF m 580 (own_LA i0 i1 j2 n mm b (.val (.int r7)) (.val (.int sb.toInt32)) (.val (.int (r ||| (0 : Int32)))) (.val (.int w))) [(.int (w &&& (own_ws (own_g cl (sb + 6)))))])) _
    refine XS.istore X3.here hx rfl (hb hby at_580) rfl (l' := (own_LA i0 i1 j2 n mm b (.val (.int r7)) (.val (.int sb.toInt32)) (.val (.int (r ||| (0 : Int32)))) (.val (.int (w &&& (own_ws (own_g cl (sb + 6)))))))) rfl ?_
    exact kt
set_option maxRecDepth 65536 in
set_option maxHeartbeats 40000000 in
theorem own_rd7 (W0 : own_W p l e s m args below meth c n0 T0 h0) (hx : p.tables.exec = Jvm.exec) (hZ : Z.Warmed39 s.vm) (hw : ∀ d ∈ tables_1, d.before a0 Z = true) (hby : c.code = code) (hml : c.maxLocals = 11) (hown : s.vm.findClass "com/example/plinth/plinth/cli/InputFileIsXmlPinLaw" = some m.cls) (Z0 : n0 ≤ h0.size) (i0 i1 : Int32) (j2 : Int64) (n mm : Int32) (b : Addr) (r7 : Int32) (cl : Cell) (Ar : Arr Z h0 b cl .byte) (Hi : own_ints cl) (hsz : cl.slots.size ≤ 8) (sb : Nat) (hsb : sb ≤ 3) (r w : Int32) :
    ∃ (T' : State), own_W p l e s m args below meth c n0 T' h0 ∧ own_Ld p e below T0 (mkF m 582 (own_LA i0 i1 j2 n mm b (.val (.int r7)) (.val (.int sb.toInt32)) (.val (.int r)) (.val (.int w))) []) T' (mkF m 630 (own_LA i0 i1 j2 n mm b (.val (.int r7)) (.val (.int sb.toInt32)) (.val (.int (own_r (own_g cl) r w (sb + 7)))) (.val (.int (own_w (own_g cl) w (sb + 7))))) []) := by
  have hj : sb.toInt32 + (7 : Int32) = (sb + 7).toInt32 := (Int32.ofNat_add sb 7).symm
  by_cases hw0 : w = (0 : Int32)
  · have er : (own_r (own_g cl) r w (sb + 7)) = (r ||| (0 : Int32)) := by unfold own_r; rw [if_neg (fun q => q.1 hw0)]
    have ewn : (own_w (own_g cl) w (sb + 7)) = (w &&& own_ws (own_g cl (sb + 7))) := rfl
    rw [er, ewn]
    obtain ⟨T2, W2, st2⟩ := own_at W0 hx hZ hw hby hml hown Z0 (q := 621) (Ls := (own_LA i0 i1 j2 n mm b (.val (.int r7)) (.val (.int sb.toInt32)) (.val (.int (r ||| (0 : Int32)))) (.val (.int w)))) rfl b cl (sb + 7) Ar Hi hsz (by omega) [(.int w)] (Nat.le_of_ble_eq_true rfl) at_621
    obtain ⟨T3, W3, st3⟩ := own_isWs W2 hx hZ hw hby hml hown Z0 (q := 624) (Ls := (own_LA i0 i1 j2 n mm b (.val (.int r7)) (.val (.int sb.toInt32)) (.val (.int (r ||| (0 : Int32)))) (.val (.int w)))) rfl (own_g cl (sb + 7)) [(.int w)] (Nat.le_of_ble_eq_true rfl) at_624
    have W3' := W3
    obtain ⟨locs, X0, e0, N0⟩ := W0
    obtain ⟨locs2, X2, e2, N2⟩ := W2
    obtain ⟨locs3, X3, e3, N3⟩ := W3'
    refine ⟨T3, W3, fun target kt => ?_⟩
    show Steps p.tables e below (T0.setTop (mkF m 582 (own_LA i0 i1 j2 n mm b (.val (.int r7)) (.val (.int sb.toInt32)) (.val (.int r)) (.val (.int w))) [])) _
    refine XS.iload X0.here hx rfl (hb hby at_582) rfl ?_
    show Steps p.tables e below (T0.setTop (mkF m 584 (own_LA i0 i1 j2 n mm b (.val (.int r7)) (.val (.int sb.toInt32)) (.val (.int r)) (.val (.int w))) [(.int r)])) _
    refine XS.iload X0.here hx rfl (hb hby at_584) rfl ?_
    show Steps p.tables e below (T0.setTop (mkF m 586 (own_LA i0 i1 j2 n mm b (.val (.int r7)) (.val (.int sb.toInt32)) (.val (.int r)) (.val (.int w))) [(.int w), (.int r)])) _
    refine XS.ifYes X0.here hx rfl (pc0 := 586) (pc' := 608) rfl (hb hby at_586) rfl ((if0 _ _).trans (teq hw0).1) (by decide) (by decide) ?_
    show Steps p.tables e below (T0.setTop (mkF m 608 (own_LA i0 i1 j2 n mm b (.val (.int r7)) (.val (.int sb.toInt32)) (.val (.int r)) (.val (.int w))) [(.int r)])) _
    refine XS.iconst X0.here hx rfl (hb hby at_608) ?_
    show Steps p.tables e below (T0.setTop (mkF m 609 (own_LA i0 i1 j2 n mm b (.val (.int r7)) (.val (.int sb.toInt32)) (.val (.int r)) (.val (.int w))) [(.int (0 : Int32)), (.int r)])) _
    refine XS.ior X0.here hx rfl (hb hby at_609) rfl ?_
    show Steps p.tables e below (T0.setTop (mkF m 610 (own_LA i0 i1 j2 n mm b (.val (.int r7)) (.val (.int sb.toInt32)) (.val (.int r)) (.val (.int w))) [(.int (r ||| (0 : Int32)))])) _
    refine XS.istore X0.here hx rfl (hb hby at_610) rfl (l' := (own_LA i0 i1 j2 n mm b (.val (.int r7)) (.val (.int sb.toInt32)) (.val (.int (r ||| (0 : Int32)))) (.val (.int w)))) rfl ?_
    show Steps p.tables e below (T0.setTop (mkF m 612 (own_LA i0 i1 j2 n mm b (.val (.int r7)) (.val (.int sb.toInt32)) (.val (.int (r ||| (0 : Int32)))) (.val (.int w))) [])) _
    refine XS.iload X0.here hx rfl (hb hby at_612) rfl ?_
    show Steps p.tables e below (T0.setTop (mkF m 614 (own_LA i0 i1 j2 n mm b (.val (.int r7)) (.val (.int sb.toInt32)) (.val (.int (r ||| (0 : Int32)))) (.val (.int w))) [(.int w)])) _
    refine XS.aload X0.here hx rfl (hb hby at_614) rfl rfl ?_
    show Steps p.tables e below (T0.setTop (mkF m 616 (own_LA i0 i1 j2 n mm b (.val (.int r7)) (.val (.int sb.toInt32)) (.val (.int (r ||| (0 : Int32)))) (.val (.int w))) [(.ref b), (.int w)])) _
    refine XS.iload X0.here hx rfl (hb hby at_616) rfl ?_
    show Steps p.tables e below (T0.setTop (mkF m 618 (own_LA i0 i1 j2 n mm b (.val (.int r7)) (.val (.int sb.toInt32)) (.val (.int (r ||| (0 : Int32)))) (.val (.int w))) [(.int sb.toInt32), (.ref b), (.int w)])) _
    refine XS.bipush X0.here hx rfl (hb hby at_618) ?_
    show Steps p.tables e below (T0.setTop (mkF m 620 (own_LA i0 i1 j2 n mm b (.val (.int r7)) (.val (.int sb.toInt32)) (.val (.int (r ||| (0 : Int32)))) (.val (.int w))) [(.int (7 : Int32)), (.int sb.toInt32), (.ref b), (.int w)])) _
    refine XS.iadd X0.here hx rfl (hb hby at_620) rfl ?_
    show Steps p.tables e below (T0.setTop (mkF m 621 (own_LA i0 i1 j2 n mm b (.val (.int r7)) (.val (.int sb.toInt32)) (.val (.int (r ||| (0 : Int32)))) (.val (.int w))) [(.int (sb.toInt32 + (7 : Int32))), (.ref b), (.int w)])) _
    rw [hj]
    refine st2 _ ?_
    show Steps p.tables e below (T2.setTop (mkF m 624 (own_LA i0 i1 j2 n mm b (.val (.int r7)) (.val (.int sb.toInt32)) (.val (.int (r ||| (0 : Int32)))) (.val (.int w))) [(.int (own_g cl (sb + 7))), (.int w)])) _
    refine st3 _ ?_
    show Steps p.tables e below (T3.setTop (mkF m 627 (own_LA i0 i1 j2 n mm b (.val (.int r7)) (.val (.int sb.toInt32)) (.val (.int (r ||| (0 : Int32)))) (.val (.int w))) [(.int (own_ws (own_g cl (sb + 7)))), (.int w)])) _
    refine XS.iand X3.here hx rfl (hb hby at_627) rfl ?_
    show Steps p.tables e below (T3.setTop (mkF m 628 (own_LA i0 i1 j2 n mm b (.val (.int r7)) (.val (.int sb.toInt32)) (.val (.int (r ||| (0 : Int32)))) (.val (.int w))) [(.int (w &&& (own_ws (own_g cl (sb + 7)))))])) _
    refine XS.istore X3.here hx rfl (hb hby at_628) rfl (l' := (own_LA i0 i1 j2 n mm b (.val (.int r7)) (.val (.int sb.toInt32)) (.val (.int (r ||| (0 : Int32)))) (.val (.int (w &&& (own_ws (own_g cl (sb + 7)))))))) rfl ?_
    exact kt
  by_cases h60 : (own_g cl (sb + 7)) = (60 : Int32)
  · have er : (own_r (own_g cl) r w (sb + 7)) = (r ||| (1 : Int32)) := by unfold own_r; rw [if_pos ⟨hw0, h60⟩]
    have ewn : (own_w (own_g cl) w (sb + 7)) = (w &&& own_ws (own_g cl (sb + 7))) := rfl
    rw [er, ewn]
    obtain ⟨T1, W1, st1⟩ := own_at W0 hx hZ hw hby hml hown Z0 (q := 596) (Ls := (own_LA i0 i1 j2 n mm b (.val (.int r7)) (.val (.int sb.toInt32)) (.val (.int r)) (.val (.int w)))) rfl b cl (sb + 7) Ar Hi hsz (by omega) [(.int r)] (Nat.le_of_ble_eq_true rfl) at_596
    obtain ⟨T2, W2, st2⟩ := own_at W1 hx hZ hw hby hml hown Z0 (q := 621) (Ls := (own_LA i0 i1 j2 n mm b (.val (.int r7)) (.val (.int sb.toInt32)) (.val (.int (r ||| (1 : Int32)))) (.val (.int w)))) rfl b cl (sb + 7) Ar Hi hsz (by omega) [(.int w)] (Nat.le_of_ble_eq_true rfl) at_621
    obtain ⟨T3, W3, st3⟩ := own_isWs W2 hx hZ hw hby hml hown Z0 (q := 624) (Ls := (own_LA i0 i1 j2 n mm b (.val (.int r7)) (.val (.int sb.toInt32)) (.val (.int (r ||| (1 : Int32)))) (.val (.int w)))) rfl (own_g cl (sb + 7)) [(.int w)] (Nat.le_of_ble_eq_true rfl) at_624
    have W3' := W3
    obtain ⟨locs, X0, e0, N0⟩ := W0
    obtain ⟨locs1, X1, e1, N1⟩ := W1
    obtain ⟨locs2, X2, e2, N2⟩ := W2
    obtain ⟨locs3, X3, e3, N3⟩ := W3'
    refine ⟨T3, W3, fun target kt => ?_⟩
    show Steps p.tables e below (T0.setTop (mkF m 582 (own_LA i0 i1 j2 n mm b (.val (.int r7)) (.val (.int sb.toInt32)) (.val (.int r)) (.val (.int w))) [])) _
    refine XS.iload X0.here hx rfl (hb hby at_582) rfl ?_
    show Steps p.tables e below (T0.setTop (mkF m 584 (own_LA i0 i1 j2 n mm b (.val (.int r7)) (.val (.int sb.toInt32)) (.val (.int r)) (.val (.int w))) [(.int r)])) _
    refine XS.iload X0.here hx rfl (hb hby at_584) rfl ?_
    show Steps p.tables e below (T0.setTop (mkF m 586 (own_LA i0 i1 j2 n mm b (.val (.int r7)) (.val (.int sb.toInt32)) (.val (.int r)) (.val (.int w))) [(.int w), (.int r)])) _
    refine XS.ifNo X0.here hx rfl (hb hby at_586) rfl ((if0 _ _).trans (feq hw0).1) ?_
    show Steps p.tables e below (T0.setTop (mkF m 589 (own_LA i0 i1 j2 n mm b (.val (.int r7)) (.val (.int sb.toInt32)) (.val (.int r)) (.val (.int w))) [(.int r)])) _
    refine XS.aload X0.here hx rfl (hb hby at_589) rfl rfl ?_
    show Steps p.tables e below (T0.setTop (mkF m 591 (own_LA i0 i1 j2 n mm b (.val (.int r7)) (.val (.int sb.toInt32)) (.val (.int r)) (.val (.int w))) [(.ref b), (.int r)])) _
    refine XS.iload X0.here hx rfl (hb hby at_591) rfl ?_
    show Steps p.tables e below (T0.setTop (mkF m 593 (own_LA i0 i1 j2 n mm b (.val (.int r7)) (.val (.int sb.toInt32)) (.val (.int r)) (.val (.int w))) [(.int sb.toInt32), (.ref b), (.int r)])) _
    refine XS.bipush X0.here hx rfl (hb hby at_593) ?_
    show Steps p.tables e below (T0.setTop (mkF m 595 (own_LA i0 i1 j2 n mm b (.val (.int r7)) (.val (.int sb.toInt32)) (.val (.int r)) (.val (.int w))) [(.int (7 : Int32)), (.int sb.toInt32), (.ref b), (.int r)])) _
    refine XS.iadd X0.here hx rfl (hb hby at_595) rfl ?_
    show Steps p.tables e below (T0.setTop (mkF m 596 (own_LA i0 i1 j2 n mm b (.val (.int r7)) (.val (.int sb.toInt32)) (.val (.int r)) (.val (.int w))) [(.int (sb.toInt32 + (7 : Int32))), (.ref b), (.int r)])) _
    rw [hj]
    refine st1 _ ?_
    show Steps p.tables e below (T1.setTop (mkF m 599 (own_LA i0 i1 j2 n mm b (.val (.int r7)) (.val (.int sb.toInt32)) (.val (.int r)) (.val (.int w))) [(.int (own_g cl (sb + 7))), (.int r)])) _
    refine XS.bipush X1.here hx rfl (hb hby at_599) ?_
    show Steps p.tables e below (T1.setTop (mkF m 601 (own_LA i0 i1 j2 n mm b (.val (.int r7)) (.val (.int sb.toInt32)) (.val (.int r)) (.val (.int w))) [(.int (60 : Int32)), (.int (own_g cl (sb + 7))), (.int r)])) _
    refine XS.icmpNo X1.here hx rfl (hb hby at_601) rfl (teq h60).2 ?_
    show Steps p.tables e below (T1.setTop (mkF m 604 (own_LA i0 i1 j2 n mm b (.val (.int r7)) (.val (.int sb.toInt32)) (.val (.int r)) (.val (.int w))) [(.int r)])) _
    refine XS.iconst X1.here hx rfl (hb hby at_604) ?_
    show Steps p.tables e below (T1.setTop (mkF m 605 (own_LA i0 i1 j2 n mm b (.val (.int r7)) (.val (.int sb.toInt32)) (.val (.int r)) (.val (.int w))) [(.int (1 : Int32)), (.int r)])) _
    refine XS.goto X1.here hx rfl (pc0 := 605) (pc' := 609) rfl (hb hby at_605) (by decide) (by decide) ?_
    show Steps p.tables e below (T1.setTop (mkF m 609 (own_LA i0 i1 j2 n mm b (.val (.int r7)) (.val (.int sb.toInt32)) (.val (.int r)) (.val (.int w))) [(.int (1 : Int32)), (.int r)])) _
    refine XS.ior X1.here hx rfl (hb hby at_609) rfl ?_
    show Steps p.tables e below (T1.setTop (mkF m 610 (own_LA i0 i1 j2 n mm b (.val (.int r7)) (.val (.int sb.toInt32)) (.val (.int r)) (.val (.int w))) [(.int (r ||| (1 : Int32)))])) _
    refine XS.istore X1.here hx rfl (hb hby at_610) rfl (l' := (own_LA i0 i1 j2 n mm b (.val (.int r7)) (.val (.int sb.toInt32)) (.val (.int (r ||| (1 : Int32)))) (.val (.int w)))) rfl ?_
    show Steps p.tables e below (T1.setTop (mkF m 612 (own_LA i0 i1 j2 n mm b (.val (.int r7)) (.val (.int sb.toInt32)) (.val (.int (r ||| (1 : Int32)))) (.val (.int w))) [])) _
    refine XS.iload X1.here hx rfl (hb hby at_612) rfl ?_
    show Steps p.tables e below (T1.setTop (mkF m 614 (own_LA i0 i1 j2 n mm b (.val (.int r7)) (.val (.int sb.toInt32)) (.val (.int (r ||| (1 : Int32)))) (.val (.int w))) [(.int w)])) _
    refine XS.aload X1.here hx rfl (hb hby at_614) rfl rfl ?_
    show Steps p.tables e below (T1.setTop (mkF m 616 (own_LA i0 i1 j2 n mm b (.val (.int r7)) (.val (.int sb.toInt32)) (.val (.int (r ||| (1 : Int32)))) (.val (.int w))) [(.ref b), (.int w)])) _
    refine XS.iload X1.here hx rfl (hb hby at_616) rfl ?_
    show Steps p.tables e below (T1.setTop (mkF m 618 (own_LA i0 i1 j2 n mm b (.val (.int r7)) (.val (.int sb.toInt32)) (.val (.int (r ||| (1 : Int32)))) (.val (.int w))) [(.int sb.toInt32), (.ref b), (.int w)])) _
    refine XS.bipush X1.here hx rfl (hb hby at_618) ?_
    show Steps p.tables e below (T1.setTop (mkF m 620 (own_LA i0 i1 j2 n mm b (.val (.int r7)) (.val (.int sb.toInt32)) (.val (.int (r ||| (1 : Int32)))) (.val (.int w))) [(.int (7 : Int32)), (.int sb.toInt32), (.ref b), (.int w)])) _
    refine XS.iadd X1.here hx rfl (hb hby at_620) rfl ?_
    show Steps p.tables e below (T1.setTop (mkF m 621 (own_LA i0 i1 j2 n mm b (.val (.int r7)) (.val (.int sb.toInt32)) (.val (.int (r ||| (1 : Int32)))) (.val (.int w))) [(.int (sb.toInt32 + (7 : Int32))), (.ref b), (.int w)])) _
    rw [hj]
    refine st2 _ ?_
    show Steps p.tables e below (T2.setTop (mkF m 624 (own_LA i0 i1 j2 n mm b (.val (.int r7)) (.val (.int sb.toInt32)) (.val (.int (r ||| (1 : Int32)))) (.val (.int w))) [(.int (own_g cl (sb + 7))), (.int w)])) _
    refine st3 _ ?_
    show Steps p.tables e below (T3.setTop (mkF m 627 (own_LA i0 i1 j2 n mm b (.val (.int r7)) (.val (.int sb.toInt32)) (.val (.int (r ||| (1 : Int32)))) (.val (.int w))) [(.int (own_ws (own_g cl (sb + 7)))), (.int w)])) _
    refine XS.iand X3.here hx rfl (hb hby at_627) rfl ?_
    show Steps p.tables e below (T3.setTop (mkF m 628 (own_LA i0 i1 j2 n mm b (.val (.int r7)) (.val (.int sb.toInt32)) (.val (.int (r ||| (1 : Int32)))) (.val (.int w))) [(.int (w &&& (own_ws (own_g cl (sb + 7)))))])) _
    refine XS.istore X3.here hx rfl (hb hby at_628) rfl (l' := (own_LA i0 i1 j2 n mm b (.val (.int r7)) (.val (.int sb.toInt32)) (.val (.int (r ||| (1 : Int32)))) (.val (.int (w &&& (own_ws (own_g cl (sb + 7)))))))) rfl ?_
    exact kt
  · have er : (own_r (own_g cl) r w (sb + 7)) = (r ||| (0 : Int32)) := by unfold own_r; rw [if_neg (fun q => h60 q.2)]
    have ewn : (own_w (own_g cl) w (sb + 7)) = (w &&& own_ws (own_g cl (sb + 7))) := rfl
    rw [er, ewn]
    obtain ⟨T1, W1, st1⟩ := own_at W0 hx hZ hw hby hml hown Z0 (q := 596) (Ls := (own_LA i0 i1 j2 n mm b (.val (.int r7)) (.val (.int sb.toInt32)) (.val (.int r)) (.val (.int w)))) rfl b cl (sb + 7) Ar Hi hsz (by omega) [(.int r)] (Nat.le_of_ble_eq_true rfl) at_596
    obtain ⟨T2, W2, st2⟩ := own_at W1 hx hZ hw hby hml hown Z0 (q := 621) (Ls := (own_LA i0 i1 j2 n mm b (.val (.int r7)) (.val (.int sb.toInt32)) (.val (.int (r ||| (0 : Int32)))) (.val (.int w)))) rfl b cl (sb + 7) Ar Hi hsz (by omega) [(.int w)] (Nat.le_of_ble_eq_true rfl) at_621
    obtain ⟨T3, W3, st3⟩ := own_isWs W2 hx hZ hw hby hml hown Z0 (q := 624) (Ls := (own_LA i0 i1 j2 n mm b (.val (.int r7)) (.val (.int sb.toInt32)) (.val (.int (r ||| (0 : Int32)))) (.val (.int w)))) rfl (own_g cl (sb + 7)) [(.int w)] (Nat.le_of_ble_eq_true rfl) at_624
    have W3' := W3
    obtain ⟨locs, X0, e0, N0⟩ := W0
    obtain ⟨locs1, X1, e1, N1⟩ := W1
    obtain ⟨locs2, X2, e2, N2⟩ := W2
    obtain ⟨locs3, X3, e3, N3⟩ := W3'
    refine ⟨T3, W3, fun target kt => ?_⟩
    show Steps p.tables e below (T0.setTop (mkF m 582 (own_LA i0 i1 j2 n mm b (.val (.int r7)) (.val (.int sb.toInt32)) (.val (.int r)) (.val (.int w))) [])) _
    refine XS.iload X0.here hx rfl (hb hby at_582) rfl ?_
    show Steps p.tables e below (T0.setTop (mkF m 584 (own_LA i0 i1 j2 n mm b (.val (.int r7)) (.val (.int sb.toInt32)) (.val (.int r)) (.val (.int w))) [(.int r)])) _
    refine XS.iload X0.here hx rfl (hb hby at_584) rfl ?_
    show Steps p.tables e below (T0.setTop (mkF m 586 (own_LA i0 i1 j2 n mm b (.val (.int r7)) (.val (.int sb.toInt32)) (.val (.int r)) (.val (.int w))) [(.int w), (.int r)])) _
    refine XS.ifNo X0.here hx rfl (hb hby at_586) rfl ((if0 _ _).trans (feq hw0).1) ?_
    show Steps p.tables e below (T0.setTop (mkF m 589 (own_LA i0 i1 j2 n mm b (.val (.int r7)) (.val (.int sb.toInt32)) (.val (.int r)) (.val (.int w))) [(.int r)])) _
    refine XS.aload X0.here hx rfl (hb hby at_589) rfl rfl ?_
    show Steps p.tables e below (T0.setTop (mkF m 591 (own_LA i0 i1 j2 n mm b (.val (.int r7)) (.val (.int sb.toInt32)) (.val (.int r)) (.val (.int w))) [(.ref b), (.int r)])) _
    refine XS.iload X0.here hx rfl (hb hby at_591) rfl ?_
    show Steps p.tables e below (T0.setTop (mkF m 593 (own_LA i0 i1 j2 n mm b (.val (.int r7)) (.val (.int sb.toInt32)) (.val (.int r)) (.val (.int w))) [(.int sb.toInt32), (.ref b), (.int r)])) _
    refine XS.bipush X0.here hx rfl (hb hby at_593) ?_
    show Steps p.tables e below (T0.setTop (mkF m 595 (own_LA i0 i1 j2 n mm b (.val (.int r7)) (.val (.int sb.toInt32)) (.val (.int r)) (.val (.int w))) [(.int (7 : Int32)), (.int sb.toInt32), (.ref b), (.int r)])) _
    refine XS.iadd X0.here hx rfl (hb hby at_595) rfl ?_
    show Steps p.tables e below (T0.setTop (mkF m 596 (own_LA i0 i1 j2 n mm b (.val (.int r7)) (.val (.int sb.toInt32)) (.val (.int r)) (.val (.int w))) [(.int (sb.toInt32 + (7 : Int32))), (.ref b), (.int r)])) _
    rw [hj]
    refine st1 _ ?_
    show Steps p.tables e below (T1.setTop (mkF m 599 (own_LA i0 i1 j2 n mm b (.val (.int r7)) (.val (.int sb.toInt32)) (.val (.int r)) (.val (.int w))) [(.int (own_g cl (sb + 7))), (.int r)])) _
    refine XS.bipush X1.here hx rfl (hb hby at_599) ?_
    show Steps p.tables e below (T1.setTop (mkF m 601 (own_LA i0 i1 j2 n mm b (.val (.int r7)) (.val (.int sb.toInt32)) (.val (.int r)) (.val (.int w))) [(.int (60 : Int32)), (.int (own_g cl (sb + 7))), (.int r)])) _
    refine XS.icmpYes X1.here hx rfl (pc0 := 601) (pc' := 608) rfl (hb hby at_601) rfl (feq h60).2 (by decide) (by decide) ?_
    show Steps p.tables e below (T1.setTop (mkF m 608 (own_LA i0 i1 j2 n mm b (.val (.int r7)) (.val (.int sb.toInt32)) (.val (.int r)) (.val (.int w))) [(.int r)])) _
    refine XS.iconst X1.here hx rfl (hb hby at_608) ?_
    show Steps p.tables e below (T1.setTop (mkF m 609 (own_LA i0 i1 j2 n mm b (.val (.int r7)) (.val (.int sb.toInt32)) (.val (.int r)) (.val (.int w))) [(.int (0 : Int32)), (.int r)])) _
    refine XS.ior X1.here hx rfl (hb hby at_609) rfl ?_
    show Steps p.tables e below (T1.setTop (mkF m 610 (own_LA i0 i1 j2 n mm b (.val (.int r7)) (.val (.int sb.toInt32)) (.val (.int r)) (.val (.int w))) [(.int (r ||| (0 : Int32)))])) _
    refine XS.istore X1.here hx rfl (hb hby at_610) rfl (l' := (own_LA i0 i1 j2 n mm b (.val (.int r7)) (.val (.int sb.toInt32)) (.val (.int (r ||| (0 : Int32)))) (.val (.int w)))) rfl ?_
    show Steps p.tables e below (T1.setTop (mkF m 612 (own_LA i0 i1 j2 n mm b (.val (.int r7)) (.val (.int sb.toInt32)) (.val (.int (r ||| (0 : Int32)))) (.val (.int w))) [])) _
    refine XS.iload X1.here hx rfl (hb hby at_612) rfl ?_
    show Steps p.tables e below (T1.setTop (mkF m 614 (own_LA i0 i1 j2 n mm b (.val (.int r7)) (.val (.int sb.toInt32)) (.val (.int (r ||| (0 : Int32)))) (.val (.int w))) [(.int w)])) _
    refine XS.aload X1.here hx rfl (hb hby at_614) rfl rfl ?_
    show Steps p.tables e below (T1.setTop (mkF m 616 (own_LA i0 i1 j2 n mm b (.val (.int r7)) (.val (.int sb.toInt32)) (.val (.int (r ||| (0 : Int32)))) (.val (.int w))) [(.ref b), (.int w)])) _
    refine XS.iload X1.here hx rfl (hb hby at_616) rfl ?_
    show Steps p.tables e below (T1.setTop (mkF m 618 (own_LA i0 i1 j2 n mm b (.val (.int r7)) (.val (.int sb.toInt32)) (.val (.int (r ||| (0 : Int32)))) (.val (.int w))) [(.int sb.toInt32), (.ref b), (.int w)])) _
    refine XS.bipush X1.here hx rfl (hb hby at_618) ?_
    show Steps p.tables e below (T1.setTop (mkF m 620 (own_LA i0 i1 j2 n mm b (.val (.int r7)) (.val (.int sb.toInt32)) (.val (.int (r ||| (0 : Int32)))) (.val (.int w))) [(.int (7 : Int32)), (.int sb.toInt32), (.ref b), (.int w)])) _
    refine XS.iadd X1.here hx rfl (hb hby at_620) rfl ?_
    show Steps p.tables e below (T1.setTop (mkF m 621 (own_LA i0 i1 j2 n mm b (.val (.int r7)) (.val (.int sb.toInt32)) (.val (.int (r ||| (0 : Int32)))) (.val (.int w))) [(.int (sb.toInt32 + (7 : Int32))), (.ref b), (.int w)])) _
    rw [hj]
    refine st2 _ ?_
    show Steps p.tables e below (T2.setTop (mkF m 624 (own_LA i0 i1 j2 n mm b (.val (.int r7)) (.val (.int sb.toInt32)) (.val (.int (r ||| (0 : Int32)))) (.val (.int w))) [(.int (own_g cl (sb + 7))), (.int w)])) _
    refine st3 _ ?_
    show Steps p.tables e below (T3.setTop (mkF m 627 (own_LA i0 i1 j2 n mm b (.val (.int r7)) (.val (.int sb.toInt32)) (.val (.int (r ||| (0 : Int32)))) (.val (.int w))) [(.int (own_ws (own_g cl (sb + 7)))), (.int w)])) _
    refine XS.iand X3.here hx rfl (hb hby at_627) rfl ?_
    show Steps p.tables e below (T3.setTop (mkF m 628 (own_LA i0 i1 j2 n mm b (.val (.int r7)) (.val (.int sb.toInt32)) (.val (.int (r ||| (0 : Int32)))) (.val (.int w))) [(.int (w &&& (own_ws (own_g cl (sb + 7)))))])) _
    refine XS.istore X3.here hx rfl (hb hby at_628) rfl (l' := (own_LA i0 i1 j2 n mm b (.val (.int r7)) (.val (.int sb.toInt32)) (.val (.int (r ||| (0 : Int32)))) (.val (.int (w &&& (own_ws (own_g cl (sb + 7)))))))) rfl ?_
    exact kt
end Law
def Q0 (h0 : Heap) (n0 : Nat) (v : Option Value) (h : Heap) (L : List Loc) : Prop := v = some (.int 1) ∧ Fr n0 L
set_option maxRecDepth 65536 in
set_option maxHeartbeats 40000000 in
theorem rm0 (l : Launch) (Z : State) (a0 : Array Value) (hw : ∀ d ∈ tables_1, d.before a0 Z = true) (ws : List Jvm.Cond) (p1 : Int32) (p2 : Int32) (p3 : Int64) (h0 : Heap) (n0 : Nat) (Z0 : n0 ≤ h0.size) :
    MetFree l x (head1 (Jvm.Cond.code x code 11 ret :: ws) room_1) (fun a U => a = #[(.int p1), (.int p2), (.long p3)] ∧ Z.Warmed39 U.vm ∧ U.heap = h0) (fun _ _ _ _ _ => True) (fun _ U o U' => ∃ v L, o = .returned v ∧ Q0  h0 n0 v U'.heap L ∧ FrameEnd U o U' L room_1.cells room_1.slots) := by
  refine MetFree.of_bodySF (plainFor_of_name pn_0) hisR ?_
  intro p e s m args below meth c s₁ Bd hml0 hP hK
  obtain ⟨rfl, hZ, hh⟩ := hP
  have hx := Bd.exec
  have hby := Bd.bytes
  have hml : c.maxLocals = 11 := hml0
  have hown : s.vm.findClass "com/example/plinth/plinth/cli/InputFileIsXmlPinLaw" = some m.cls := findClass_of_methodNamed Bd.named
  have hnm := (name_of_methodNamed Bd.named Bd.method).1
  have X0 : Stand p l e room_1 s m #[(.int p1), (.int p2), (.long p3)] below meth c s₁ [] 0 0 := Stand.of_body Bd
  have e0 : s₁.heap = h0 := by rw [← hh, Bd.state]; rfl
  have N0 := Fr.nil n0
  have pre0 : ∀ t, Steps p.tables e below (s₁.setTop (mkF m 0 #[.val (.int p1), .val (.int p2), .val (.long p3), .second, .unset, .unset, .unset, .unset, .unset, .unset, .unset] [])) t → Steps p.tables e below (s₁.setTop (entryFrame m #[(.int p1), (.int p2), (.long p3)] 11)) t := fun t kt0 => castTop (ef_0 m p1 p2 p3) kt0

  obtain ⟨hn0, hn8⟩ := own_n9 p1
  obtain ⟨n, hne⟩ : ∃ n : Int32, ((p1 &&& (15 : Int32)) - ((p1 &&& (15 : Int32)) / (9 : Int32)) * (9 : Int32)) = n := ⟨_, rfl⟩
  obtain ⟨mm, hme⟩ : ∃ mm : Int32, ((((p1).toUInt32 >>> ((4 : Int32) &&& 31).toUInt32).toInt32) &&& (3 : Int32)) = mm := ⟨_, rfl⟩
  rw [hne] at hn0 hn8
  obtain ⟨T1, h1, k1, X1, e1, E1, A1, st1⟩ := newP X0 hx hZ (hw _ (List.mem_of_getElem? (i := 0) rfl)) e0 (g := (mkF m 18 #[.val (.int p1), .val (.int p2), .val (.long p3), .second, .val (.int n), .val (.int mm), .unset, .unset, .unset, .unset, .unset] [(.int n)])) rfl (hb hby at_18) rfl hn0 (cap := 8) hn8 (by decide) (by decide) (by decide)
  obtain ⟨b, gb⟩ : ∃ z, z = h0.size := ⟨_, rfl⟩
  rw [← gb] at A1 st1
  have V1 : own_A Z h1 b n := ⟨_, A1, sz_new _ _ _, own_ints_new _ _⟩
  have W1 : own_W p l e s m #[(.int p1), (.int p2), (.long p3)] below meth c n0 T1 h1 := ⟨_, X1, e1, N0⟩
  have Z1 : n0 ≤ h1.size := Nat.le_trans Z0 E1.1
  have hgb : n0 ≤ b := by omega
  obtain ⟨T2, h2, W2, V2, Z2, st2⟩ := own_st0 W1 hx hZ hw hby hml hown Z1 p1 p2 p3 n mm b V1 hgb
  obtain ⟨T3, h3, W3, V3, Z3, st3⟩ := own_st1 W2 hx hZ hw hby hml hown Z2 p1 p2 p3 n mm b V2 hgb
  obtain ⟨T4, h4, W4, V4, Z4, st4⟩ := own_st2 W3 hx hZ hw hby hml hown Z3 p1 p2 p3 n mm b V3 hgb
  obtain ⟨T5, h5, W5, V5, Z5, st5⟩ := own_st3 W4 hx hZ hw hby hml hown Z4 p1 p2 p3 n mm b V4 hgb
  obtain ⟨T6, h6, W6, V6, Z6, st6⟩ := own_st4 W5 hx hZ hw hby hml hown Z5 p1 p2 p3 n mm b V5 hgb
  obtain ⟨T7, h7, W7, V7, Z7, st7⟩ := own_st5 W6 hx hZ hw hby hml hown Z6 p1 p2 p3 n mm b V6 hgb
  obtain ⟨T8, h8, W8, V8, Z8, st8⟩ := own_st6 W7 hx hZ hw hby hml hown Z7 p1 p2 p3 n mm b V7 hgb
  obtain ⟨T9, h9, W9, V9, Z9, st9⟩ := own_st7 W8 hx hZ hw hby hml hown Z8 p1 p2 p3 n mm b V8 hgb
  obtain ⟨T10, h10, W10, V10, Z10, st10⟩ := own_sm0 W9 hx hZ hw hby hml hown Z9 p1 p2 p3 n mm b V9 hgb
  obtain ⟨T11, h11, W11, V11, Z11, st11⟩ := own_sm1 W10 hx hZ hw hby hml hown Z10 p1 p2 p3 n mm b V10 hgb
  obtain ⟨T12, h12, W12, V12, Z12, st12⟩ := own_sm2 W11 hx hZ hw hby hml hown Z11 p1 p2 p3 n mm b V11 hgb
  obtain ⟨cl, Ar, S, Hi⟩ := V12
  have hsz : cl.slots.size ≤ 8 := by rw [S]; exact hn8
  obtain ⟨TX, WX, stX⟩ := own_isXml W12 hx hZ hw hby hml hown Z12 (q := 211) (Ls := (own_LA p1 p2 p3 n mm b .unset .unset .unset .unset)) rfl b cl Ar Hi hsz [] (Nat.le_of_ble_eq_true rfl) at_211
  obtain ⟨r7, h7⟩ : ∃ r7 : Int32, (own_scan (own_g cl) 8 (own_bom (own_g cl))) = r7 := ⟨_, rfl⟩
  rw [h7] at stX
  obtain ⟨TM, WM, stM⟩ := own_mark WX hx hZ hw hby hml hown Z12 p1 p2 p3 n mm b r7 cl Ar Hi hsz
  have hsb : own_bom (own_g cl) ≤ 3 := by unfold own_bom; split <;> omega
  obtain ⟨sb, hsbe⟩ : ∃ sb : Nat, own_bom (own_g cl) = sb := ⟨_, rfl⟩
  rw [hsbe] at stM hsb h7
  obtain ⟨TR0, WR0, stR0⟩ := own_rd0 WM hx hZ hw hby hml hown Z12 p1 p2 p3 n mm b r7 cl Ar Hi hsz sb hsb (0 : Int32) (1 : Int32)
  obtain ⟨r_0, hr_0⟩ : ∃ z : Int32, own_r (own_g cl) (0 : Int32) (1 : Int32) (sb + 0) = z := ⟨_, rfl⟩
  obtain ⟨w_0, hw_0⟩ : ∃ z : Int32, own_w (own_g cl) (1 : Int32) (sb + 0) = z := ⟨_, rfl⟩
  rw [hr_0, hw_0] at stR0
  obtain ⟨TR1, WR1, stR1⟩ := own_rd1 WR0 hx hZ hw hby hml hown Z12 p1 p2 p3 n mm b r7 cl Ar Hi hsz sb hsb r_0 w_0
  obtain ⟨r_1, hr_1⟩ : ∃ z : Int32, own_r (own_g cl) r_0 w_0 (sb + 1) = z := ⟨_, rfl⟩
  obtain ⟨w_1, hw_1⟩ : ∃ z : Int32, own_w (own_g cl) w_0 (sb + 1) = z := ⟨_, rfl⟩
  rw [hr_1, hw_1] at stR1
  obtain ⟨TR2, WR2, stR2⟩ := own_rd2 WR1 hx hZ hw hby hml hown Z12 p1 p2 p3 n mm b r7 cl Ar Hi hsz sb hsb r_1 w_1
  obtain ⟨r_2, hr_2⟩ : ∃ z : Int32, own_r (own_g cl) r_1 w_1 (sb + 2) = z := ⟨_, rfl⟩
  obtain ⟨w_2, hw_2⟩ : ∃ z : Int32, own_w (own_g cl) w_1 (sb + 2) = z := ⟨_, rfl⟩
  rw [hr_2, hw_2] at stR2
  obtain ⟨TR3, WR3, stR3⟩ := own_rd3 WR2 hx hZ hw hby hml hown Z12 p1 p2 p3 n mm b r7 cl Ar Hi hsz sb hsb r_2 w_2
  obtain ⟨r_3, hr_3⟩ : ∃ z : Int32, own_r (own_g cl) r_2 w_2 (sb + 3) = z := ⟨_, rfl⟩
  obtain ⟨w_3, hw_3⟩ : ∃ z : Int32, own_w (own_g cl) w_2 (sb + 3) = z := ⟨_, rfl⟩
  rw [hr_3, hw_3] at stR3
  obtain ⟨TR4, WR4, stR4⟩ := own_rd4 WR3 hx hZ hw hby hml hown Z12 p1 p2 p3 n mm b r7 cl Ar Hi hsz sb hsb r_3 w_3
  obtain ⟨r_4, hr_4⟩ : ∃ z : Int32, own_r (own_g cl) r_3 w_3 (sb + 4) = z := ⟨_, rfl⟩
  obtain ⟨w_4, hw_4⟩ : ∃ z : Int32, own_w (own_g cl) w_3 (sb + 4) = z := ⟨_, rfl⟩
  rw [hr_4, hw_4] at stR4
  obtain ⟨TR5, WR5, stR5⟩ := own_rd5 WR4 hx hZ hw hby hml hown Z12 p1 p2 p3 n mm b r7 cl Ar Hi hsz sb hsb r_4 w_4
  obtain ⟨r_5, hr_5⟩ : ∃ z : Int32, own_r (own_g cl) r_4 w_4 (sb + 5) = z := ⟨_, rfl⟩
  obtain ⟨w_5, hw_5⟩ : ∃ z : Int32, own_w (own_g cl) w_4 (sb + 5) = z := ⟨_, rfl⟩
  rw [hr_5, hw_5] at stR5
  obtain ⟨TR6, WR6, stR6⟩ := own_rd6 WR5 hx hZ hw hby hml hown Z12 p1 p2 p3 n mm b r7 cl Ar Hi hsz sb hsb r_5 w_5
  obtain ⟨r_6, hr_6⟩ : ∃ z : Int32, own_r (own_g cl) r_5 w_5 (sb + 6) = z := ⟨_, rfl⟩
  obtain ⟨w_6, hw_6⟩ : ∃ z : Int32, own_w (own_g cl) w_5 (sb + 6) = z := ⟨_, rfl⟩
  rw [hr_6, hw_6] at stR6
  obtain ⟨TR7, WR7, stR7⟩ := own_rd7 WR6 hx hZ hw hby hml hown Z12 p1 p2 p3 n mm b r7 cl Ar Hi hsz sb hsb r_6 w_6
  obtain ⟨r_7, hr_7⟩ : ∃ z : Int32, own_r (own_g cl) r_6 w_6 (sb + 7) = z := ⟨_, rfl⟩
  obtain ⟨w_7, hw_7⟩ : ∃ z : Int32, own_w (own_g cl) w_6 (sb + 7) = z := ⟨_, rfl⟩
  rw [hr_7, hw_7] at stR7
  have heq : r_7 = r7 := by
    have q := own_fold_scan (own_g cl) 8 sb
    simp only [own_fold, Nat.add_assoc, Nat.reduceAdd, Nat.add_zero] at q
    simp only [Nat.add_zero] at hr_0 hw_0
    rw [hr_0, hw_0, hr_1, hw_1, hr_2, hw_2, hr_3, hw_3, hr_4, hw_4, hr_5, hw_5, hr_6, hw_6, hr_7] at q
    rw [q, h7]
  obtain ⟨locsX, XX, eX, NX⟩ := WX
  obtain ⟨locsM, XM, eM, NM⟩ := WM
  obtain ⟨locsE, XE, eE, NE⟩ := WR7
  obtain ⟨fs, hr, hrun, hended, hW, hsame⟩ := XE.leave (v := some (.int (1 : Int32))) (fun h => by rw [Bd.returns] at h; cases h)
  obtain ⟨locsF, XF, eF, NF⟩ := W12
  refine ⟨_, _, pre0 _ ?_, hrun, hended, _, _, rfl, ?_, ⟨_, rfl⟩, hW, hsame.mono (by decide) (by decide)⟩
  rotate_left
  · show Q0 h0 n0 _ TR7.heap _
    exact ⟨rfl, NE⟩
  show Steps p.tables e below (s₁.setTop (mkF m 0 #[.val (.int p1), .val (.int p2), .val (.long p3), .second, .unset, .unset, .unset, .unset, .unset, .unset, .unset] [])) _
  refine XS.iloadN X0.here hx rfl (hb hby at_0) rfl ?_
  show Steps p.tables e below (s₁.setTop (mkF m 1 #[.val (.int p1), .val (.int p2), .val (.long p3), .second, .unset, .unset, .unset, .unset, .unset, .unset, .unset] [(.int p1)])) _
  refine XS.bipush X0.here hx rfl (hb hby at_1) ?_
  show Steps p.tables e below (s₁.setTop (mkF m 3 #[.val (.int p1), .val (.int p2), .val (.long p3), .second, .unset, .unset, .unset, .unset, .unset, .unset, .unset] [(.int (15 : Int32)), (.int p1)])) _
  refine XS.iand X0.here hx rfl (hb hby at_3) rfl ?_
  show Steps p.tables e below (s₁.setTop (mkF m 4 #[.val (.int p1), .val (.int p2), .val (.long p3), .second, .unset, .unset, .unset, .unset, .unset, .unset, .unset] [(.int (p1 &&& (15 : Int32)))])) _
  refine XS.bipush X0.here hx rfl (hb hby at_4) ?_
  show Steps p.tables e below (s₁.setTop (mkF m 6 #[.val (.int p1), .val (.int p2), .val (.long p3), .second, .unset, .unset, .unset, .unset, .unset, .unset, .unset] [(.int (9 : Int32)), (.int (p1 &&& (15 : Int32)))])) _
  refine XS.irem X0.here hx rfl (hb hby at_6) rfl (by decide) ?_
  show Steps p.tables e below (s₁.setTop (mkF m 7 #[.val (.int p1), .val (.int p2), .val (.long p3), .second, .unset, .unset, .unset, .unset, .unset, .unset, .unset] [(.int ((p1 &&& (15 : Int32)) - ((p1 &&& (15 : Int32)) / (9 : Int32)) * (9 : Int32)))])) _
  rw [hne]
  show Steps p.tables e below (s₁.setTop (mkF m 7 #[.val (.int p1), .val (.int p2), .val (.long p3), .second, .unset, .unset, .unset, .unset, .unset, .unset, .unset] [(.int n)])) _
  refine XS.istore X0.here hx rfl (hb hby at_7) rfl (l' := #[.val (.int p1), .val (.int p2), .val (.long p3), .second, .val (.int n), .unset, .unset, .unset, .unset, .unset, .unset]) rfl ?_
  show Steps p.tables e below (s₁.setTop (mkF m 9 #[.val (.int p1), .val (.int p2), .val (.long p3), .second, .val (.int n), .unset, .unset, .unset, .unset, .unset, .unset] [])) _
  refine XS.iloadN X0.here hx rfl (hb hby at_9) rfl ?_
  show Steps p.tables e below (s₁.setTop (mkF m 10 #[.val (.int p1), .val (.int p2), .val (.long p3), .second, .val (.int n), .unset, .unset, .unset, .unset, .unset, .unset] [(.int p1)])) _
  refine XS.iconst X0.here hx rfl (hb hby at_10) ?_
  show Steps p.tables e below (s₁.setTop (mkF m 11 #[.val (.int p1), .val (.int p2), .val (.long p3), .second, .val (.int n), .unset, .unset, .unset, .unset, .unset, .unset] [(.int (4 : Int32)), (.int p1)])) _
  refine XS.iushr X0.here hx rfl (hb hby at_11) rfl ?_
  show Steps p.tables e below (s₁.setTop (mkF m 12 #[.val (.int p1), .val (.int p2), .val (.long p3), .second, .val (.int n), .unset, .unset, .unset, .unset, .unset, .unset] [(.int (((p1).toUInt32 >>> ((4 : Int32) &&& 31).toUInt32).toInt32))])) _
  refine XS.iconst X0.here hx rfl (hb hby at_12) ?_
  show Steps p.tables e below (s₁.setTop (mkF m 13 #[.val (.int p1), .val (.int p2), .val (.long p3), .second, .val (.int n), .unset, .unset, .unset, .unset, .unset, .unset] [(.int (3 : Int32)), (.int (((p1).toUInt32 >>> ((4 : Int32) &&& 31).toUInt32).toInt32))])) _
  refine XS.iand X0.here hx rfl (hb hby at_13) rfl ?_
  show Steps p.tables e below (s₁.setTop (mkF m 14 #[.val (.int p1), .val (.int p2), .val (.long p3), .second, .val (.int n), .unset, .unset, .unset, .unset, .unset, .unset] [(.int ((((p1).toUInt32 >>> ((4 : Int32) &&& 31).toUInt32).toInt32) &&& (3 : Int32)))])) _
  rw [hme]
  show Steps p.tables e below (s₁.setTop (mkF m 14 #[.val (.int p1), .val (.int p2), .val (.long p3), .second, .val (.int n), .unset, .unset, .unset, .unset, .unset, .unset] [(.int mm)])) _
  refine XS.istore X0.here hx rfl (hb hby at_14) rfl (l' := #[.val (.int p1), .val (.int p2), .val (.long p3), .second, .val (.int n), .val (.int mm), .unset, .unset, .unset, .unset, .unset]) rfl ?_
  show Steps p.tables e below (s₁.setTop (mkF m 16 #[.val (.int p1), .val (.int p2), .val (.long p3), .second, .val (.int n), .val (.int mm), .unset, .unset, .unset, .unset, .unset] [])) _
  refine XS.iload X0.here hx rfl (hb hby at_16) rfl ?_
  show Steps p.tables e below (s₁.setTop (mkF m 18 #[.val (.int p1), .val (.int p2), .val (.long p3), .second, .val (.int n), .val (.int mm), .unset, .unset, .unset, .unset, .unset] [(.int n)])) _
  refine st1 _ ?_
  show Steps p.tables e below (T1.setTop (mkF m 20 #[.val (.int p1), .val (.int p2), .val (.long p3), .second, .val (.int n), .val (.int mm), .unset, .unset, .unset, .unset, .unset] [(.ref b)])) _
  refine XS.astore X1.here hx rfl (hb hby at_20) rfl rfl (l' := #[.val (.int p1), .val (.int p2), .val (.long p3), .second, .val (.int n), .val (.int mm), .val (.ref b), .unset, .unset, .unset, .unset]) rfl ?_
  show Steps p.tables e below (T1.setTop (mkF m 22 (own_LA p1 p2 p3 n mm b .unset .unset .unset .unset) [])) _
  refine st2 _ ?_
  refine st3 _ ?_
  refine st4 _ ?_
  refine st5 _ ?_
  refine st6 _ ?_
  refine st7 _ ?_
  refine st8 _ ?_
  refine st9 _ ?_
  refine st10 _ ?_
  refine st11 _ ?_
  refine st12 _ ?_
  show Steps p.tables e below (T12.setTop (mkF m 209 (own_LA p1 p2 p3 n mm b .unset .unset .unset .unset) [])) _
  refine XS.aload XF.here hx rfl (hb hby at_209) rfl rfl ?_
  refine stX _ ?_
  show Steps p.tables e below (TX.setTop (mkF m 214 (own_LA p1 p2 p3 n mm b .unset .unset .unset .unset) [(.int r7)])) _
  refine XS.istore XX.here hx rfl (hb hby at_214) rfl (l' := (own_LA p1 p2 p3 n mm b (.val (.int r7)) .unset .unset .unset)) rfl ?_
  refine stM _ ?_
  show Steps p.tables e below (TM.setTop (mkF m 254 (own_LA p1 p2 p3 n mm b (.val (.int r7)) .unset .unset .unset) [(.int sb.toInt32)])) _
  refine XS.istore XM.here hx rfl (hb hby at_254) rfl (l' := (own_LA p1 p2 p3 n mm b (.val (.int r7)) (.val (.int sb.toInt32)) .unset .unset)) rfl ?_
  show Steps p.tables e below (TM.setTop (mkF m 256 (own_LA p1 p2 p3 n mm b (.val (.int r7)) (.val (.int sb.toInt32)) .unset .unset) [])) _
  refine XS.iconst XM.here hx rfl (hb hby at_256) ?_
  show Steps p.tables e below (TM.setTop (mkF m 257 (own_LA p1 p2 p3 n mm b (.val (.int r7)) (.val (.int sb.toInt32)) .unset .unset) [(.int (0 : Int32))])) _
  refine XS.istore XM.here hx rfl (hb hby at_257) rfl (l' := (own_LA p1 p2 p3 n mm b (.val (.int r7)) (.val (.int sb.toInt32)) (.val (.int (0 : Int32))) .unset)) rfl ?_
  show Steps p.tables e below (TM.setTop (mkF m 259 (own_LA p1 p2 p3 n mm b (.val (.int r7)) (.val (.int sb.toInt32)) (.val (.int (0 : Int32))) .unset) [])) _
  refine XS.iconst XM.here hx rfl (hb hby at_259) ?_
  show Steps p.tables e below (TM.setTop (mkF m 260 (own_LA p1 p2 p3 n mm b (.val (.int r7)) (.val (.int sb.toInt32)) (.val (.int (0 : Int32))) .unset) [(.int (1 : Int32))])) _
  refine XS.istore XM.here hx rfl (hb hby at_260) rfl (l' := (own_LA p1 p2 p3 n mm b (.val (.int r7)) (.val (.int sb.toInt32)) (.val (.int (0 : Int32))) (.val (.int (1 : Int32))))) rfl ?_
  refine stR0 _ ?_
  refine stR1 _ ?_
  refine stR2 _ ?_
  refine stR3 _ ?_
  refine stR4 _ ?_
  refine stR5 _ ?_
  refine stR6 _ ?_
  refine stR7 _ ?_
  show Steps p.tables e below (TR7.setTop (mkF m 630 (own_LA p1 p2 p3 n mm b (.val (.int r7)) (.val (.int sb.toInt32)) (.val (.int r_7)) (.val (.int w_7))) [])) _
  refine XS.iload XE.here hx rfl (hb hby at_630) rfl ?_
  show Steps p.tables e below (TR7.setTop (mkF m 632 (own_LA p1 p2 p3 n mm b (.val (.int r7)) (.val (.int sb.toInt32)) (.val (.int r_7)) (.val (.int w_7))) [(.int r7)])) _
  refine XS.iload XE.here hx rfl (hb hby at_632) rfl ?_
  show Steps p.tables e below (TR7.setTop (mkF m 634 (own_LA p1 p2 p3 n mm b (.val (.int r7)) (.val (.int sb.toInt32)) (.val (.int r_7)) (.val (.int w_7))) [(.int r_7), (.int r7)])) _
  refine XS.icmpNo XE.here hx rfl (hb hby at_634) rfl (teq heq.symm).2 ?_
  show Steps p.tables e below (TR7.setTop (mkF m 637 (own_LA p1 p2 p3 n mm b (.val (.int r7)) (.val (.int sb.toInt32)) (.val (.int r_7)) (.val (.int w_7))) [])) _
  refine XS.iconst XE.here hx rfl (hb hby at_637) ?_
  show Steps p.tables e below (TR7.setTop (mkF m 638 (own_LA p1 p2 p3 n mm b (.val (.int r7)) (.val (.int sb.toInt32)) (.val (.int r_7)) (.val (.int w_7))) [(.int (1 : Int32))])) _
  refine XS.goto XE.here hx rfl (pc0 := 638) (pc' := 642) rfl (hb hby at_638) (by decide) (by decide) ?_
  show Steps p.tables e below (TR7.setTop (mkF m 642 (own_LA p1 p2 p3 n mm b (.val (.int r7)) (.val (.int sb.toInt32)) (.val (.int r_7)) (.val (.int w_7))) [(.int (1 : Int32))])) _
  exact retN XE hx (t := .boolean) Bd.returns (by simp) (hb hby at_642) hr
set_option maxRecDepth 65536 in
set_option maxHeartbeats 40000000 in
theorem comes_1 {Post : Tables → Env → Array Value → State → Outcome → State → Prop} (hpost : ∀ tb e args s v u, (limb_1_1.after args s (.returned v) u = true ∧ limb_1_2.after args s (.returned v) u = true ∧ True) → FrameEnd s (.returned v) u (Jvm.fieldLocs frame_1_writes args s ++ Jvm.arrayLocs frame_1_arrays args s ++ Jvm.staticLocs frame_1_statics s) 16 128 → Post tb e args s (.returned v) u) :
    ArmFor flags0 classFile x code maxLocals ret World_1 tables_1 room_1 Calls_1 rest_1 Pre_1 Post := by
  intro l hfl _ _ p e ha hc hk s m args below hf hA hF happ hP
  obtain ⟨hcalls, hrest, hpre⟩ := hP
  obtain ⟨-, -, -, hnamed, -, -, -, hat⟩ := (Spec.applies_iff hf).mp happ
  obtain ⟨hg, hn⟩ := and_e (Cond.before_iff.mp (show (Jvm.Cond.and given_1 narrow_1).before args s = true from hpre))
  obtain ⟨h1, h2⟩ := and_e hg
  obtain ⟨h3, h4⟩ := and_e h2
  obtain ⟨h5, h6⟩ := and_e h4
  obtain ⟨w0, w1, w2, rfl⟩ : ∃ w0 w1 w2 : Value, args = #[w0, w1, w2] := by
    have hs : args.size = 3 := by simpa [Cond.value, given_1] using h1
    obtain ⟨L⟩ := args
    match L, hs with
    | [w0, w1, w2], _ => exact ⟨w0, w1, w2, rfl⟩
  have hw := fun d (hd : d ∈ tables_1) => atoms_spec (ws := Jvm.Cond.code x code maxLocals ret :: tables_1) hat d (List.mem_cons_of_mem _ hd)
  obtain ⟨i4, e4⟩ := is_v h3
  obtain rfl : w0 = (.int i4) := Option.some.inj e4
  obtain ⟨i5, e5⟩ := is_v h5
  obtain rfl : w1 = (.int i5) := Option.some.inj e5
  obtain ⟨i6, e6⟩ : ∃ j : Int64, w2 = .long j := by
    have q : (Jvm.Cond.isLong (Jvm.Term.arg 2)).before #[.int i4, .int i5, w2] s = true := Cond.before_iff.mpr h6
    cases w2 <;> simp [Cond.before, Cond.holds, Cond.value, Term.eval] at q
    exact ⟨_, rfl⟩
  subst e6
  obtain ⟨n, o, h1, h2, h3, _, L, rfl, ⟨rfl, N⟩, hq⟩ := rm0 l s _ hw tables_1 i4 i5 i6 s.heap s.heap.size (Nat.le_refl _) p e ha hc hk s m _ below hf ((Spec.applies_iff_loose hf).mp happ).1 ⟨rfl, State.Warmed39.refl s, rfl⟩ trivial
  refine ⟨n, _, h1, h2, h3, hpost _ _ _ _ _ _ ⟨Cond.after_iff.mpr rfl, Cond.after_iff.mpr (eq_i res_at (Term.int_eval (1)) rfl), trivial⟩ ⟨hq.1, hq.2.1, (hq.2.2.sift fun y hy => Or.inr (N y hy)).mono (by decide) (by decide)⟩⟩
theorem main_1_1 : Claimed_1_1 := comes_1 fun _ _ _ _ _ _ h hF => ⟨h.1, hF⟩
theorem main_1_2 : Claimed_1_2 := comes_1 fun _ _ _ _ _ _ h hF => ⟨h.2.1, hF⟩
end Jvm.Pilot.@@N@@
namespace Jvm.Pilot.@@N@@
open Jvm Jvm.ClassFile Sem Op Lib Jvm.Free Jvm.Stand Jvm.Pilot.@@N@@.Jvm.D
/-! MADE BY PROGRAM (witnessworld.py) out of the Statement's table words and the real class files: 9 classes; the members and pool entries that the words name. The judged class is class 1, her method 1. -/
namespace start1
open Jvm.ClassFile
def u (s : String) : CpInfo := .utf8 (stringToUtf16 s)
/-- a pool by its gaps: so many unusable entries, then the entry; so many at the end -/
def gap : Nat → List CpInfo → List CpInfo
  | 0, r => r
  | n + 1, r => .unusable :: gap n r
def poolList (es : List (Nat × CpInfo)) (last : Nat) : List CpInfo := es.foldr (fun e r => gap e.1 (e.2 :: r)) (gap last [])
def pool (es : List (Nat × CpInfo)) (last : Nat) : Array CpInfo := ⟨poolList es last⟩
def fileOf (pool : Array CpInfo) (this : Nat) (attrs : Array Attribute := #[]) (ms : Array MethodInfo := #[]) (fl : Nat := 33) (sup : Nat := 0) (ifs : Array Nat := #[]) (fds : Array FieldInfo := #[]) : ClassFile where
  minorVersion := 0
  majorVersion := 65
  constantPool := pool
  accessFlags := fl
  thisClass := this
  superClass := sup
  interfaces := ifs
  fields := fds
  methods := ms
  attributes := attrs
def plain (name : String) (sup : Option ClassId) : Class where
  name := name
  kind := .ordinary
  loader := none
  accessFlags := 33
  super := sup
  interfaces := #[]
  cf := none
  fields := #[]
  methods := #[]
  instanceTypes := #[]
  staticTypes := #[]
  resolved := #[]
  callSites := []
  init := .initialized
  statics := none
  mirror := none

def pool0 : Array CpInfo := pool [(5, u "<init>"), (0, u "()V"), (1, .class_ 10), (1, u "java/lang/Object")] 113

def k0m0 : Method := { name := "<init>", desc := "()V", sig := { parameters := [], returnType := none }, accessFlags := 1, code := none }
/-- java/lang/Object -/
def k0 : Class := { plain "java/lang/Object" none with
  accessFlags := 33
  interfaces := #[]
  cf := some (fileOf pool0 8 #[] #[{ accessFlags := 1, nameIndex := 5, descriptorIndex := 6, attributes := #[] }] 33 0 #[] #[])
  fields := #[]
  methods := #[k0m0]
  instanceTypes := #[]
  staticTypes := #[]
  resolved := Array.replicate 124 none
  statics := none }

def pool1 : Array CpInfo := pool [(2, .class_ 4), (1, u "java/lang/Object"), (0, u "<init>"), (0, u "()V"), (0, .methodref 8 9), (0, .class_ 10), (0, .nameAndType 11 12), (0, u "com/example/plinth/plinth/cli/InputFileIsXmlPinLaw"), (0, u "pick"), (0, u "(IJI)B"), (0, .methodref 14 15), (0, .class_ 16), (0, .nameAndType 17 18), (0, u "com/example/plinth/plinth/cli/InputFile"), (0, u "isXml"), (0, u "([B)Z"), (0, .methodref 8 20), (0, .nameAndType 21 22), (0, u "at"), (0, u "([BI)I"), (0, .methodref 8 24), (0, .nameAndType 25 26), (0, u "isWs"), (0, u "(I)Z"), (2, u "law"), (0, u "(IIJ)Z")] 5

def k1m0 : Method := { name := "<init>", desc := "()V", sig := { parameters := [], returnType := none }, accessFlags := 2, code := none }
def k1c1 : Code := { maxStack := 6, maxLocals := 11, code := code, exceptionTable := #[], attributes := #[] }
def k1m1 : Method := { name := "law", desc := "(IIJ)Z", sig := { parameters := [.int, .int, .long], returnType := some .boolean }, accessFlags := 9, code := some k1c1 }
def k1c2 : Code := { maxStack := 2, maxLocals := 2, code := method_3_code, exceptionTable := #[], attributes := #[] }
def k1m2 : Method := { name := "at", desc := "([BI)I", sig := { parameters := [(.array .byte), .int], returnType := some .int }, accessFlags := 10, code := some k1c2 }
def k1c3 : Code := { maxStack := 2, maxLocals := 1, code := method_4_code, exceptionTable := #[], attributes := #[] }
def k1m3 : Method := { name := "isWs", desc := "(I)Z", sig := { parameters := [.int], returnType := some .boolean }, accessFlags := 10, code := some k1c3 }
def k1c4 : Code := { maxStack := 4, maxLocals := 5, code := method_5_code, exceptionTable := #[], attributes := #[] }
def k1m4 : Method := { name := "pick", desc := "(IJI)B", sig := { parameters := [.int, .long, .int], returnType := some .byte }, accessFlags := 10, code := some k1c4 }
/-- com/example/plinth/plinth/cli/InputFileIsXmlPinLaw -/
def k1 : Class := { plain "com/example/plinth/plinth/cli/InputFileIsXmlPinLaw" (some 0) with
  accessFlags := 49
  interfaces := #[]
  cf := some (fileOf pool1 8 #[] #[{ accessFlags := 2, nameIndex := 5, descriptorIndex := 6, attributes := #[] }, { accessFlags := 9, nameIndex := 29, descriptorIndex := 30, attributes := #[] }, { accessFlags := 10, nameIndex := 21, descriptorIndex := 22, attributes := #[] }, { accessFlags := 10, nameIndex := 25, descriptorIndex := 26, attributes := #[] }, { accessFlags := 10, nameIndex := 11, descriptorIndex := 12, attributes := #[] }] 49 2 #[] #[])
  fields := #[]
  methods := #[k1m0, k1m1, k1m2, k1m3, k1m4]
  instanceTypes := #[]
  staticTypes := #[]
  resolved := Array.replicate 36 none
  statics := none }

def pool2 : Array CpInfo := pool [(4, .class_ 6), (1, u "java/lang/Object"), (3, .class_ 12), (1, u "com/example/plinth/plinth/cli/InputFile"), (0, u "bytes"), (0, u "[B"), (2, u "resource"), (0, u "Lcom/example/plinth/plinth/JsonObject;"), (34, .class_ 55), (1, u "com/example/plinth/plinth/cli/InputFile$Format"), (3, .class_ 60), (0, u "com/example/plinth/plinth/cli/InputFile$UnreadableException"), (73, .class_ 135), (0, u "com/example/plinth/plinth/cli/InputFile$TooLargeException"), (84, u "MAX_BYTES"), (0, u "I"), (2, u "CHUNK"), (0, u "MAX_NAME_BYTES"), (1, u "TOO_LONG_PATH_BYTES"), (1, u "LOOP"), (0, u "Ljava/lang/String;"), (4, u "isXml"), (0, u "([B)Z")] 45

def k2c0 : Code := { maxStack := 2, maxLocals := 2, code := prog_494_method_3_code, exceptionTable := #[], attributes := #[] }
def k2m0 : Method := { name := "isXml", desc := "([B)Z", sig := { parameters := [(.array .byte)], returnType := some .boolean }, accessFlags := 8, code := some k2c0 }
/-- com/example/plinth/plinth/cli/InputFile -/
def k2 : Class := { plain "com/example/plinth/plinth/cli/InputFile" (some 0) with
  accessFlags := 48
  interfaces := #[]
  cf := some (fileOf pool2 10 #[.nestMembers #[59, 134, 53]] #[{ accessFlags := 8, nameIndex := 235, descriptorIndex := 236, attributes := #[] }] 48 4 #[] #[{ accessFlags := 26, nameIndex := 220, descriptorIndex := 221, attributes := #[] }, { accessFlags := 26, nameIndex := 224, descriptorIndex := 221, attributes := #[] }, { accessFlags := 26, nameIndex := 225, descriptorIndex := 221, attributes := #[] }, { accessFlags := 26, nameIndex := 227, descriptorIndex := 221, attributes := #[] }, { accessFlags := 26, nameIndex := 229, descriptorIndex := 230, attributes := #[] }, { accessFlags := 18, nameIndex := 13, descriptorIndex := 14, attributes := #[] }, { accessFlags := 18, nameIndex := 17, descriptorIndex := 18, attributes := #[] }])
  fields := #[{ name := "MAX_BYTES", type := .int, accessFlags := 26, slot := 0, constantValue := 0 }, { name := "CHUNK", type := .int, accessFlags := 26, slot := 1, constantValue := 0 }, { name := "MAX_NAME_BYTES", type := .int, accessFlags := 26, slot := 2, constantValue := 0 }, { name := "TOO_LONG_PATH_BYTES", type := .int, accessFlags := 26, slot := 3, constantValue := 0 }, { name := "LOOP", type := (.object "java/lang/String"), accessFlags := 26, slot := 4, constantValue := 0 }, { name := "bytes", type := (.array .byte), accessFlags := 18, slot := 0, constantValue := 0 }, { name := "resource", type := (.object "com/example/plinth/plinth/JsonObject"), accessFlags := 18, slot := 1, constantValue := 0 }]
  methods := #[k2m0]
  instanceTypes := #[(.array .byte), (.object "com/example/plinth/plinth/JsonObject")]
  staticTypes := #[.int, .int, .int, .int, (.object "java/lang/String")]
  resolved := Array.replicate 282 none
  statics := none }

def pool3 : Array CpInfo := pool [(1, u "java/lang/Cloneable"), (0, .class_ 1), (0, u "java/lang/Object"), (0, .class_ 3)] 3

/-- java/lang/Cloneable -/
def k3 : Class := { plain "java/lang/Cloneable" (some 0) with
  accessFlags := 1537
  interfaces := #[]
  cf := some (fileOf pool3 2 #[] #[] 1537 4 #[] #[])
  fields := #[]
  methods := #[]
  instanceTypes := #[]
  staticTypes := #[]
  resolved := Array.replicate 8 none
  statics := none }

def pool4 : Array CpInfo := pool [(1, u "java/io/Serializable"), (0, .class_ 1), (0, u "java/lang/Object"), (0, .class_ 3)] 3

/-- java/io/Serializable -/
def k4 : Class := { plain "java/io/Serializable" (some 0) with
  accessFlags := 1537
  interfaces := #[]
  cf := some (fileOf pool4 2 #[] #[] 1537 4 #[] #[])
  fields := #[]
  methods := #[]
  instanceTypes := #[]
  staticTypes := #[]
  resolved := Array.replicate 8 none
  statics := none }

/-- the primitive byte -/
def k5 : Class := { plain "byte" none with kind := .primitive 'B', accessFlags := 0x411 }
/-- [B -/
def k6 : Class := { plain "[B" (some 0) with kind := .array 5 .byte, interfaces := #[3, 4], accessFlags := 1041 }

/-- the primitive int -/
def k7 : Class := { plain "int" none with kind := .primitive 'I', accessFlags := 0x411 }
/-- [I -/
def k8 : Class := { plain "[I" (some 0) with kind := .array 7 .int, interfaces := #[3, 4], accessFlags := 1041 }

def heap : Heap := #[]
def classes : Array Class := #[k0, k1, k2, k3, k4, k5, k6, k7, k8]
def interned : List (Array UInt16 × Addr) := []
def slotsUsed : Nat := 0
def theMethod : MethodId := ⟨1, 1⟩
def args0 : Array Value := #[.int 5, .int 300, .long 7]
def aboutOver (below : List Frame) : State where
  vm := { classes := classes, interned := interned.toArray }
  heap := heap
  slotsUsed := slotsUsed
  threads := #[{ frames := .invoking theMethod args0 :: below }]
def below0 : List Frame := [.native { method := ⟨0, 0⟩, args := #[] }]
def about1 : State := aboutOver below0
def p0 : Program := .bare "" "" ""
def e0 : Env := launch0.env 0 0 0
theorem w_frames : about1.frames = Frame.invoking theMethod args0 :: below0 := rfl
set_option maxRecDepth 65536 in
theorem w_args : argsFit about1.vm theMethod args0 = true := by decide +kernel
set_option maxRecDepth 65536 in
theorem w_heap : heapFits about1 = true := by decide +kernel
set_option maxRecDepth 65536 in
theorem w_runnable : about1.curStatus? = some .runnable := by decide +kernel
set_option maxRecDepth 65536 in
theorem w_alone : about1.alone = true := by decide +kernel
set_option maxRecDepth 65536 in
theorem w_named : about1.methodNamed? x = some theMethod := by decide +kernel
set_option maxRecDepth 65536 in
theorem w_hears : about1.hears theMethod below0 = true := by decide +kernel
set_option maxRecDepth 65536 in
theorem w_ripe : about1.ripe theMethod args0 below0 = true := by decide +kernel
theorem w_running : about1.status = .running := rfl
set_option maxRecDepth 65536 in
theorem w_room : about1.hasRoom e0.platform room_1 = true :=
  launch0.hasRoom_least _ room_1 (by decide +kernel) (by decide +kernel) (by decide +kernel) (by decide +kernel) (by decide +kernel) (by decide +kernel)
theorem allAtoms_all (ts : List Jvm.Cond) (a : Array Jvm.Value) (st : Jvm.State) : (allAtoms ts).before a st = ts.all (fun c => c.before a st) := by
  induction ts with
  | nil => rfl
  | cons c t ih =>
    show (Jvm.Cond.and c (allAtoms t)).before a st = _
    rw [Jvm.Cond.before_and, ih, List.all_cons]
def words1 : List Jvm.Cond := Jvm.Cond.code x code maxLocals ret :: tables_1
/-- a 'code' word, met by the world's own term for the bytes: nothing is compared byte by byte -/
theorem code_word {y : MethodName} {bytes : ByteArray} {mx : Nat} {rt : Option FieldType} {a : Array Value} {s : State} {m : MethodId} {meth : Method} {c : Code} (h1 : s.methodNamed? y = some m) (h2 : s.vm.method? m = some meth) (h3 : meth.code = some c) (h4 : c.code = bytes)
    (h5 : (c.maxLocals == mx && c.exceptionTable.isEmpty && decide (c.maxStack ≤ mostOperands) && decide (meth.sig.returnType = rt) && !meth.locks && decide (parseMethodDescriptor y.desc = some meth.sig)) = true) : (Jvm.Cond.code y bytes mx rt).before a s = true := by
  simp only [Bool.and_eq_true, beq_iff_eq, Bool.not_eq_true', decide_eq_true_eq] at h5
  obtain ⟨⟨⟨⟨⟨g1, g2⟩, g3⟩, g4⟩, g5⟩, g6⟩ := h5
  simp [Cond.before, Cond.holds, Cond.value, h1, h2, h3, h4, g1, g2, g3, g4, g5, g6]
def isCode : Jvm.Cond → Bool
  | .code _ _ _ _ => true
  | _ => false
theorem all_split {L : List Jvm.Cond} {P : Jvm.Cond → Bool} (h1 : L.all (fun c => isCode c || P c) = true) (h2 : ∀ c ∈ L.filter isCode, P c = true) : L.all P = true := by
  refine List.all_eq_true.mpr fun c hc => ?_
  have h := List.all_eq_true.mp h1 c hc
  rcases Bool.eq_false_or_eq_true (isCode c) with hi | hi
  · exact h2 c (List.mem_filter.mpr ⟨hc, hi⟩)
  · simpa [hi] using h
set_option maxRecDepth 65536 in
theorem w_c0 : (Jvm.Cond.code x code maxLocals ret).before args0 about1 = true := code_word (m := ⟨1, 1⟩) (meth := k1m1) (c := k1c1) (by decide +kernel) rfl rfl rfl (by decide +kernel)
set_option maxRecDepth 65536 in
theorem w_c1 : (Jvm.Cond.code ({ cls := "com/example/plinth/plinth/cli/InputFile", name := "isXml", desc := "([B)Z" } : Jvm.MethodName) prog_494_method_3_code (2 : Nat) (Option.some Jvm.ClassFile.FieldType.boolean)).before args0 about1 = true := code_word (m := ⟨2, 0⟩) (meth := k2m0) (c := k2c0) (by decide +kernel) rfl rfl rfl (by decide +kernel)
set_option maxRecDepth 65536 in
theorem w_c2 : (Jvm.Cond.code ({ cls := "com/example/plinth/plinth/cli/InputFileIsXmlPinLaw", name := "at", desc := "([BI)I" } : Jvm.MethodName) method_3_code (2 : Nat) (Option.some Jvm.ClassFile.FieldType.int)).before args0 about1 = true := code_word (m := ⟨1, 2⟩) (meth := k1m2) (c := k1c2) (by decide +kernel) rfl rfl rfl (by decide +kernel)
set_option maxRecDepth 65536 in
theorem w_c3 : (Jvm.Cond.code ({ cls := "com/example/plinth/plinth/cli/InputFileIsXmlPinLaw", name := "isWs", desc := "(I)Z" } : Jvm.MethodName) method_4_code (1 : Nat) (Option.some Jvm.ClassFile.FieldType.boolean)).before args0 about1 = true := code_word (m := ⟨1, 3⟩) (meth := k1m3) (c := k1c3) (by decide +kernel) rfl rfl rfl (by decide +kernel)
set_option maxRecDepth 65536 in
theorem w_c4 : (Jvm.Cond.code ({ cls := "com/example/plinth/plinth/cli/InputFileIsXmlPinLaw", name := "pick", desc := "(IJI)B" } : Jvm.MethodName) method_5_code (5 : Nat) (Option.some Jvm.ClassFile.FieldType.byte)).before args0 about1 = true := code_word (m := ⟨1, 4⟩) (meth := k1m4) (c := k1c4) (by decide +kernel) rfl rfl rfl (by decide +kernel)
def codes1 : List Jvm.Cond := [Jvm.Cond.code x code maxLocals ret, Jvm.Cond.code ({ cls := "com/example/plinth/plinth/cli/InputFile", name := "isXml", desc := "([B)Z" } : Jvm.MethodName) prog_494_method_3_code (2 : Nat) (Option.some Jvm.ClassFile.FieldType.boolean), Jvm.Cond.code ({ cls := "com/example/plinth/plinth/cli/InputFileIsXmlPinLaw", name := "at", desc := "([BI)I" } : Jvm.MethodName) method_3_code (2 : Nat) (Option.some Jvm.ClassFile.FieldType.int), Jvm.Cond.code ({ cls := "com/example/plinth/plinth/cli/InputFileIsXmlPinLaw", name := "isWs", desc := "(I)Z" } : Jvm.MethodName) method_4_code (1 : Nat) (Option.some Jvm.ClassFile.FieldType.boolean), Jvm.Cond.code ({ cls := "com/example/plinth/plinth/cli/InputFileIsXmlPinLaw", name := "pick", desc := "(IJI)B" } : Jvm.MethodName) method_5_code (5 : Nat) (Option.some Jvm.ClassFile.FieldType.byte)]
set_option maxRecDepth 65536 in
theorem codes_eq : words1.filter isCode = codes1 := rfl
theorem w_codes : ∀ c ∈ words1.filter isCode, c.before args0 about1 = true := by
  rw [codes_eq]
  intro c hc
  simp only [codes1, List.mem_cons, List.not_mem_nil, or_false] at hc
  rcases hc with rfl | rfl | rfl | rfl | rfl
  · exact w_c0
  · exact w_c1
  · exact w_c2
  · exact w_c3
  · exact w_c4
set_option maxRecDepth 65536 in
theorem w_t1 : words1.all (fun c => isCode c || c.before args0 about1) = true := by decide +kernel
theorem w_tables : (allAtoms (Jvm.Cond.code x code maxLocals ret :: tables_1)).before args0 about1 = true := by
  rw [allAtoms_all]
  show words1.all (fun c => c.before args0 about1) = true
  refine all_split ?_ w_codes
  rw [w_t1]
set_option maxRecDepth 65536 in
theorem w_case : (Jvm.Cond.and given_1 narrow_1).before args0 about1 = true := by decide +kernel
theorem w_applies : (headSpec (Jvm.Cond.code x code maxLocals ret :: tables_1) room_1).applies x e0.platform about1 = true :=
  (Spec.applies_iff w_frames).mpr ⟨w_running, w_runnable, w_alone, w_named, w_hears, w_ripe, w_room, w_tables⟩
theorem atStart : AtStart classFile x code maxLocals ret World_1 tables_1 room_1 Calls_1 rest_1 Pre_1 launch0 p0 e0 about1 theMethod args0 below0 :=
  ⟨lists_1, trivial, launch0.admits_env _ _ _, launch0.least_env, fairChoices_fair.cas, fairChoices_fair.clock, w_frames, w_args, w_heap, w_applies, trivial, trivial, w_case⟩
end start1
theorem witness_1 : WitnessClaimed_1 := ⟨start1.p0, start1.e0, start1.about1, start1.theMethod, start1.args0, start1.below0, start1.atStart⟩
end Jvm.Pilot.@@N@@
