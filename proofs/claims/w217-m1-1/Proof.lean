import JvmDerived
import JvmDerived.Pilot.@@N@@Statement
import JvmDerived.Pilot.@@N@@Code
set_option linter.unusedVariables false
set_option linter.unusedSimpArgs false

namespace Jvm.Pilot.@@N@@
open Jvm Jvm.ClassFile Sem Op Lib Jvm.Free Jvm.Stand Jvm.LawKit Jvm.RoadKit Bundle Jvm.Pilot.@@N@@.Jvm.D

def own_due (n r : Int64) : Int32 := if n - r < 0 then 0 else 1
theorem own_yes {n r : Int64} (h : ¬ (n - r < 0)) : own_due n r = 1 := if_neg h
theorem own_no {n r : Int64} (h : n - r < 0) : own_due n r = 0 := if_pos h
theorem own_cancel (a b : Int64) : a + b - a = b := by rw [Int64.add_comm]; exact Int64.add_sub_cancel b a
theorem d1_0 : decode prog_1_method_1_code 0 = .ok (.aload_n 0, 1) := by decide +kernel
theorem d1_1 : decode prog_1_method_1_code 1 = .ok (.invokespecial 1, 3) := by decide +kernel
theorem d1_4 : decode prog_1_method_1_code 4 = .ok (.aload_n 0, 1) := by decide +kernel
theorem d1_5 : decode prog_1_method_1_code 5 = .ok (.new 2, 3) := by decide +kernel
theorem d1_8 : decode prog_1_method_1_code 8 = .ok (.dup, 1) := by decide +kernel
theorem d1_9 : decode prog_1_method_1_code 9 = .ok (.invokespecial 1, 3) := by decide +kernel
theorem d1_12 : decode prog_1_method_1_code 12 = .ok (.putfield 7, 3) := by decide +kernel
theorem d1_15 : decode prog_1_method_1_code 15 = .ok (.aload_n 0, 1) := by decide +kernel
theorem d1_16 : decode prog_1_method_1_code 16 = .ok (.aload_n 1, 1) := by decide +kernel
theorem d1_17 : decode prog_1_method_1_code 17 = .ok (.putfield 13, 3) := by decide +kernel
theorem d1_20 : decode prog_1_method_1_code 20 = .ok (.aload_n 0, 1) := by decide +kernel
theorem d1_21 : decode prog_1_method_1_code 21 = .ok (.aload_n 2, 1) := by decide +kernel
theorem d1_22 : decode prog_1_method_1_code 22 = .ok (.putfield 17, 3) := by decide +kernel
theorem d1_25 : decode prog_1_method_1_code 25 = .ok (.aload_n 0, 1) := by decide +kernel
theorem d1_26 : decode prog_1_method_1_code 26 = .ok (.lload_n 3, 1) := by decide +kernel
theorem d1_27 : decode prog_1_method_1_code 27 = .ok (.putfield 20, 3) := by decide +kernel
theorem d1_30 : decode prog_1_method_1_code 30 = .ok (.aload_n 0, 1) := by decide +kernel
theorem d1_31 : decode prog_1_method_1_code 31 = .ok (.lload 5, 2) := by decide +kernel
theorem d1_33 : decode prog_1_method_1_code 33 = .ok (.putfield 24, 3) := by decide +kernel
theorem d1_36 : decode prog_1_method_1_code 36 = .ok (.aload_n 0, 1) := by decide +kernel
theorem d1_37 : decode prog_1_method_1_code 37 = .ok (.lload 7, 2) := by decide +kernel
theorem d1_39 : decode prog_1_method_1_code 39 = .ok (.putfield 27, 3) := by decide +kernel
theorem d1_42 : decode prog_1_method_1_code 42 = .ok (.return_, 1) := by decide +kernel
theorem pn_1 : plainName "com/example/airtight_latch/airtightlatch/Grant" = true := by first | (simp [plainName, overriddenIn]; done) | decide +kernel
theorem ef_1 (m : MethodId) (x0 : Addr) (x1 : Addr) (x2 : Addr) (x3 : Int64) (x4 : Int64) (x5 : Int64) : entryFrame m #[(.ref x0), (.ref x1), (.ref x2), (.long x3), (.long x4), (.long x5)] 9 = mkF m 0 #[.val (.ref x0), .val (.ref x1), .val (.ref x2), .val (.long x3), .second, .val (.long x4), .second, .val (.long x5), .second] [] := by first | (simp [entryFrame, mkF, argsToLocals, Value.category]; done) | rfl
def Q1 (Z : State) (a1 : Addr) (a2 : Addr) (a3 : Addr) (q1 : Int64) (q2 : Int64) (q3 : Int64) (h0 : Heap) (n0 : Nat) (v : Option Value) (h : Heap) (L : List Loc) : Prop := v = none ∧ Fr n0 L ∧ Keep h0 h [a1] ∧ Fld Z h a1 "com/example/airtight_latch/airtightlatch/Grant" "renewAt" "J" (.long q2)
set_option maxRecDepth 65536 in
set_option maxHeartbeats 40000000 in
theorem rm1 (l : Launch) (Z : State) (a0 : Array Value) (hw : ∀ d ∈ tables_1, d.before a0 Z = true) (ws : List Jvm.Cond) (a1 : Addr) (a2 : Addr) (a3 : Addr) (q1 : Int64) (q2 : Int64) (q3 : Int64) (h0 : Heap) (n0 : Nat) (Z0 : n0 ≤ h0.size) (F0 : Fld Z h0 a1 "com/example/airtight_latch/airtightlatch/Grant" "lease" "Ljava/lang/Object;" .null) (F1 : Fld Z h0 a1 "com/example/airtight_latch/airtightlatch/Grant" "name" "Ljava/lang/String;" .null) (F2 : Fld Z h0 a1 "com/example/airtight_latch/airtightlatch/Grant" "holder" "Ljava/lang/String;" .null) (F3 : Fld Z h0 a1 "com/example/airtight_latch/airtightlatch/Grant" "token" "J" (.long (0 : Int64))) (F4 : Fld Z h0 a1 "com/example/airtight_latch/airtightlatch/Grant" "renewAt" "J" (.long (0 : Int64))) (F5 : Fld Z h0 a1 "com/example/airtight_latch/airtightlatch/Grant" "lapsesAt" "J" (.long (0 : Int64))) (EX : Exa Z h0 a1 "com/example/airtight_latch/airtightlatch/Grant") (g_a1 : n0 ≤ a1) :
    MetFree l (⟨"com/example/airtight_latch/airtightlatch/Grant", "<init>", "(Ljava/lang/String;Ljava/lang/String;JJJ)V"⟩ : MethodName) (head1 (Jvm.Cond.code (⟨"com/example/airtight_latch/airtightlatch/Grant", "<init>", "(Ljava/lang/String;Ljava/lang/String;JJJ)V"⟩ : MethodName) prog_1_method_1_code 9 none :: ws) ({ frames := 1, cells := 1, slots := 0, locals := 14 } : Room)) (fun a U => a = #[(.ref a1), (.ref a2), (.ref a3), (.long q1), (.long q2), (.long q3)] ∧ Z.Warmed39 U.vm ∧ U.heap = h0) (fun _ _ _ _ _ => True) (fun _ U o U' => ∃ v L, o = .returned v ∧ Q1 Z a1 a2 a3 q1 q2 q3 h0 n0 v U'.heap L ∧ FrameEnd U o U' L ({ frames := 1, cells := 1, slots := 0, locals := 14 } : Room).cells ({ frames := 1, cells := 1, slots := 0, locals := 14 } : Room).slots) := by
  refine MetFree.of_bodySF (plainFor_of_name pn_1) hisR ?_
  intro p e s m args below meth c s₁ Bd hml0 hP hK
  obtain ⟨rfl, hZ, hh⟩ := hP
  have hx := Bd.exec
  have hby := Bd.bytes
  have hml : c.maxLocals = 9 := hml0
  have hown : s.vm.findClass "com/example/airtight_latch/airtightlatch/Grant" = some m.cls := findClass_of_methodNamed Bd.named
  have hnm := (name_of_methodNamed Bd.named Bd.method).1
  have X0 : Stand p l e ({ frames := 1, cells := 1, slots := 0, locals := 14 } : Room) s m #[(.ref a1), (.ref a2), (.ref a3), (.long q1), (.long q2), (.long q3)] below meth c s₁ [] 0 0 := Stand.of_body Bd
  have e0 : s₁.heap = h0 := by rw [← hh, Bd.state]; rfl
  have N0 := Fr.nil n0
  have pre0 : ∀ t, Steps p.tables e below (s₁.setTop (mkF m 0 #[.val (.ref a1), .val (.ref a2), .val (.ref a3), .val (.long q1), .second, .val (.long q2), .second, .val (.long q3), .second] [])) t → Steps p.tables e below (s₁.setTop (entryFrame m #[(.ref a1), (.ref a2), (.ref a3), (.long q1), (.long q2), (.long q3)] 9)) t := fun t k => castTop (ef_1 m a1 a2 a3 q1 q2 q3) k
  obtain ⟨T1, X1, e1, st1⟩ := initO X0 hx hZ hown (hw _ (List.mem_of_getElem? (i := 15) rfl)) (hw _ (List.mem_of_getElem? (i := 16) rfl)) (hw _ (List.mem_of_getElem? (i := 17) rfl)) e0 (g := (mkF m 1 #[.val (.ref a1), .val (.ref a2), .val (.ref a3), .val (.long q1), .second, .val (.long q2), .second, .val (.long q3), .second] [(.ref a1)])) rfl (by rw [hml]; rfl) rfl (hb hby d1_1) (by decide) (W := 0) (by show 2 * 0 + _ ≤ _; exact Nat.le_of_eq rfl) (by decide)
  obtain ⟨T2, h2, X2, e2, E2, A2, D2, -, st2⟩ := newO X1 hx hZ hown (hw _ (List.mem_of_getElem? (i := 18) rfl)) (hw _ (List.mem_of_getElem? (i := 19) rfl)) (hw _ (List.mem_of_getElem? (i := 20) rfl)) e1 (g := (mkF m 5 #[.val (.ref a1), .val (.ref a2), .val (.ref a3), .val (.long q1), .second, .val (.long q2), .second, .val (.long q3), .second] [(.ref a1)])) rfl (hb hby d1_5) (by decide) (by decide)
  obtain ⟨b1, g2⟩ : ∃ z, z = h0.size := ⟨_, rfl⟩
  rw [← g2] at A2 D2 st2
  have ne3 : a1 ≠ b1 := Nat.ne_of_lt (Nat.lt_of_lt_of_le F0.lt (Nat.le_of_eq g2.symm))
  have g_b1 : n0 ≤ b1 := Nat.le_trans Z0 (Nat.le_of_eq g2.symm)
  have sz_b1 : h0.size ≤ b1 := Nat.le_trans (Keep.refl h0 [a1]).1 (Nat.le_of_eq g2.symm)
  have f4 : Fld Z h2 a1 "com/example/airtight_latch/airtightlatch/Grant" "lease" "Ljava/lang/Object;" .null := F0.ext E2
  have f5 : Fld Z h2 a1 "com/example/airtight_latch/airtightlatch/Grant" "name" "Ljava/lang/String;" .null := F1.ext E2
  have f6 : Fld Z h2 a1 "com/example/airtight_latch/airtightlatch/Grant" "holder" "Ljava/lang/String;" .null := F2.ext E2
  have f7 : Fld Z h2 a1 "com/example/airtight_latch/airtightlatch/Grant" "token" "J" (.long (0 : Int64)) := F3.ext E2
  have f8 : Fld Z h2 a1 "com/example/airtight_latch/airtightlatch/Grant" "renewAt" "J" (.long (0 : Int64)) := F4.ext E2
  have f9 : Fld Z h2 a1 "com/example/airtight_latch/airtightlatch/Grant" "lapsesAt" "J" (.long (0 : Int64)) := F5.ext E2
  have f10 : Exa Z h2 a1 "com/example/airtight_latch/airtightlatch/Grant" := EX.ext E2
  have K11 : Keep h0 h2 [a1] := (Keep.refl h0 [a1]).ext E2
  have Z12 : n0 ≤ h2.size := Nat.le_trans Z0 E2.1
  obtain ⟨T13, X13, e13, st13⟩ := initO X2 hx hZ hown (hw _ (List.mem_of_getElem? (i := 15) rfl)) (hw _ (List.mem_of_getElem? (i := 16) rfl)) (hw _ (List.mem_of_getElem? (i := 17) rfl)) e2 (g := (mkF m 9 #[.val (.ref a1), .val (.ref a2), .val (.ref a3), .val (.long q1), .second, .val (.long q2), .second, .val (.long q3), .second] [(.ref b1), (.ref b1), (.ref a1)])) rfl (by rw [hml]; rfl) rfl (hb hby d1_9) (by decide) (W := 2) (by show 2 * 0 + _ ≤ _; exact Nat.le_of_eq rfl) (by decide)
  obtain ⟨T14, h14, X14, e14, W14, st14⟩ := putF X13 hx hZ hown (host := "") (Or.inl (hw _ (List.mem_of_getElem? (i := 21) rfl))) Via.refl e13 f4 f10 (Or.inr ⟨(hw _ (List.mem_of_getElem? (i := 22) rfl)), rfl, hnm⟩) (hw _ (List.mem_of_getElem? (i := 1) rfl)) (ty := (.object "java/lang/Object")) (by decide) rfl rfl (g := (mkF m 12 #[.val (.ref a1), .val (.ref a2), .val (.ref a3), .val (.long q1), .second, .val (.long q2), .second, .val (.long q3), .second] [(.ref b1), (.ref a1)])) rfl rfl (hb hby d1_12)
  have f15 : Fld Z h14 a1 "com/example/airtight_latch/airtightlatch/Grant" "lease" "Ljava/lang/Object;" (.ref b1) := f4.same W14
  have f16 : Fld Z h14 a1 "com/example/airtight_latch/airtightlatch/Grant" "name" "Ljava/lang/String;" .null := f5.other W14 (Or.inr (slot_ne (Or.inr (hw _ (List.mem_of_getElem? (i := 24) rfl))) (Or.inr (hw _ (List.mem_of_getElem? (i := 22) rfl))) (by decide) (t := (.object "java/lang/String")) (t' := (.object "java/lang/Object")) (by decide) (by decide)))
  have f17 : Fld Z h14 a1 "com/example/airtight_latch/airtightlatch/Grant" "holder" "Ljava/lang/String;" .null := f6.other W14 (Or.inr (slot_ne (Or.inr (hw _ (List.mem_of_getElem? (i := 26) rfl))) (Or.inr (hw _ (List.mem_of_getElem? (i := 22) rfl))) (by decide) (t := (.object "java/lang/String")) (t' := (.object "java/lang/Object")) (by decide) (by decide)))
  have f18 : Fld Z h14 a1 "com/example/airtight_latch/airtightlatch/Grant" "token" "J" (.long (0 : Int64)) := f7.other W14 (Or.inr (slot_ne (Or.inr (hw _ (List.mem_of_getElem? (i := 28) rfl))) (Or.inr (hw _ (List.mem_of_getElem? (i := 22) rfl))) (by decide) (t := .long) (t' := (.object "java/lang/Object")) (by decide) (by decide)))
  have f19 : Fld Z h14 a1 "com/example/airtight_latch/airtightlatch/Grant" "renewAt" "J" (.long (0 : Int64)) := f8.other W14 (Or.inr (slot_ne (Or.inl (hw _ (List.mem_of_getElem? (i := 30) rfl))) (Or.inr (hw _ (List.mem_of_getElem? (i := 22) rfl))) (by decide) (t := .long) (t' := (.object "java/lang/Object")) (by decide) (by decide)))
  have f20 : Fld Z h14 a1 "com/example/airtight_latch/airtightlatch/Grant" "lapsesAt" "J" (.long (0 : Int64)) := f9.other W14 (Or.inr (slot_ne (Or.inl (hw _ (List.mem_of_getElem? (i := 32) rfl))) (Or.inr (hw _ (List.mem_of_getElem? (i := 22) rfl))) (by decide) (t := .long) (t' := (.object "java/lang/Object")) (by decide) (by decide)))
  have f21 : Exa Z h14 a1 "com/example/airtight_latch/airtightlatch/Grant" := f10.wr W14
  have f22 : Exa Z h14 b1 "java/lang/Object" := A2.wr W14
  have N14 := Fr.snoc X14 N0 g_a1
  have K23 : Keep h0 h14 [a1] := K11.wr W14 (Or.inl (List.mem_of_getElem? (i := 0) rfl))
  have Z24 : n0 ≤ h14.size := Nat.le_trans Z12 (Keep.of_wr W14).1
  obtain ⟨T25, h25, X25, e25, W25, st25⟩ := putF X14 hx hZ hown (host := "") (Or.inl (hw _ (List.mem_of_getElem? (i := 23) rfl))) Via.refl e14 f16 f21 (Or.inr ⟨(hw _ (List.mem_of_getElem? (i := 24) rfl)), rfl, hnm⟩) (hw _ (List.mem_of_getElem? (i := 1) rfl)) (ty := (.object "java/lang/String")) (by decide) rfl rfl (g := (mkF m 17 #[.val (.ref a1), .val (.ref a2), .val (.ref a3), .val (.long q1), .second, .val (.long q2), .second, .val (.long q3), .second] [(.ref a2), (.ref a1)])) rfl rfl (hb hby d1_17)
  have f26 : Fld Z h25 a1 "com/example/airtight_latch/airtightlatch/Grant" "lease" "Ljava/lang/Object;" (.ref b1) := f15.other W25 (Or.inr (slot_ne (Or.inr (hw _ (List.mem_of_getElem? (i := 22) rfl))) (Or.inr (hw _ (List.mem_of_getElem? (i := 24) rfl))) (by decide) (t := (.object "java/lang/Object")) (t' := (.object "java/lang/String")) (by decide) (by decide)))
  have f27 : Fld Z h25 a1 "com/example/airtight_latch/airtightlatch/Grant" "name" "Ljava/lang/String;" (.ref a2) := f16.same W25
  have f28 : Fld Z h25 a1 "com/example/airtight_latch/airtightlatch/Grant" "holder" "Ljava/lang/String;" .null := f17.other W25 (Or.inr (slot_ne (Or.inr (hw _ (List.mem_of_getElem? (i := 26) rfl))) (Or.inr (hw _ (List.mem_of_getElem? (i := 24) rfl))) (by decide) (t := (.object "java/lang/String")) (t' := (.object "java/lang/String")) (by decide) (by decide)))
  have f29 : Fld Z h25 a1 "com/example/airtight_latch/airtightlatch/Grant" "token" "J" (.long (0 : Int64)) := f18.other W25 (Or.inr (slot_ne (Or.inr (hw _ (List.mem_of_getElem? (i := 28) rfl))) (Or.inr (hw _ (List.mem_of_getElem? (i := 24) rfl))) (by decide) (t := .long) (t' := (.object "java/lang/String")) (by decide) (by decide)))
  have f30 : Fld Z h25 a1 "com/example/airtight_latch/airtightlatch/Grant" "renewAt" "J" (.long (0 : Int64)) := f19.other W25 (Or.inr (slot_ne (Or.inl (hw _ (List.mem_of_getElem? (i := 30) rfl))) (Or.inr (hw _ (List.mem_of_getElem? (i := 24) rfl))) (by decide) (t := .long) (t' := (.object "java/lang/String")) (by decide) (by decide)))
  have f31 : Fld Z h25 a1 "com/example/airtight_latch/airtightlatch/Grant" "lapsesAt" "J" (.long (0 : Int64)) := f20.other W25 (Or.inr (slot_ne (Or.inl (hw _ (List.mem_of_getElem? (i := 32) rfl))) (Or.inr (hw _ (List.mem_of_getElem? (i := 24) rfl))) (by decide) (t := .long) (t' := (.object "java/lang/String")) (by decide) (by decide)))
  have f32 : Exa Z h25 a1 "com/example/airtight_latch/airtightlatch/Grant" := f21.wr W25
  have f33 : Exa Z h25 b1 "java/lang/Object" := f22.wr W25
  have N25 := Fr.snoc X25 N14 g_a1
  have K34 : Keep h0 h25 [a1] := K23.wr W25 (Or.inl (List.mem_of_getElem? (i := 0) rfl))
  have Z35 : n0 ≤ h25.size := Nat.le_trans Z24 (Keep.of_wr W25).1
  obtain ⟨T36, h36, X36, e36, W36, st36⟩ := putF X25 hx hZ hown (host := "") (Or.inl (hw _ (List.mem_of_getElem? (i := 25) rfl))) Via.refl e25 f28 f32 (Or.inr ⟨(hw _ (List.mem_of_getElem? (i := 26) rfl)), rfl, hnm⟩) (hw _ (List.mem_of_getElem? (i := 1) rfl)) (ty := (.object "java/lang/String")) (by decide) rfl rfl (g := (mkF m 22 #[.val (.ref a1), .val (.ref a2), .val (.ref a3), .val (.long q1), .second, .val (.long q2), .second, .val (.long q3), .second] [(.ref a3), (.ref a1)])) rfl rfl (hb hby d1_22)
  have f37 : Fld Z h36 a1 "com/example/airtight_latch/airtightlatch/Grant" "lease" "Ljava/lang/Object;" (.ref b1) := f26.other W36 (Or.inr (slot_ne (Or.inr (hw _ (List.mem_of_getElem? (i := 22) rfl))) (Or.inr (hw _ (List.mem_of_getElem? (i := 26) rfl))) (by decide) (t := (.object "java/lang/Object")) (t' := (.object "java/lang/String")) (by decide) (by decide)))
  have f38 : Fld Z h36 a1 "com/example/airtight_latch/airtightlatch/Grant" "name" "Ljava/lang/String;" (.ref a2) := f27.other W36 (Or.inr (slot_ne (Or.inr (hw _ (List.mem_of_getElem? (i := 24) rfl))) (Or.inr (hw _ (List.mem_of_getElem? (i := 26) rfl))) (by decide) (t := (.object "java/lang/String")) (t' := (.object "java/lang/String")) (by decide) (by decide)))
  have f39 : Fld Z h36 a1 "com/example/airtight_latch/airtightlatch/Grant" "holder" "Ljava/lang/String;" (.ref a3) := f28.same W36
  have f40 : Fld Z h36 a1 "com/example/airtight_latch/airtightlatch/Grant" "token" "J" (.long (0 : Int64)) := f29.other W36 (Or.inr (slot_ne (Or.inr (hw _ (List.mem_of_getElem? (i := 28) rfl))) (Or.inr (hw _ (List.mem_of_getElem? (i := 26) rfl))) (by decide) (t := .long) (t' := (.object "java/lang/String")) (by decide) (by decide)))
  have f41 : Fld Z h36 a1 "com/example/airtight_latch/airtightlatch/Grant" "renewAt" "J" (.long (0 : Int64)) := f30.other W36 (Or.inr (slot_ne (Or.inl (hw _ (List.mem_of_getElem? (i := 30) rfl))) (Or.inr (hw _ (List.mem_of_getElem? (i := 26) rfl))) (by decide) (t := .long) (t' := (.object "java/lang/String")) (by decide) (by decide)))
  have f42 : Fld Z h36 a1 "com/example/airtight_latch/airtightlatch/Grant" "lapsesAt" "J" (.long (0 : Int64)) := f31.other W36 (Or.inr (slot_ne (Or.inl (hw _ (List.mem_of_getElem? (i := 32) rfl))) (Or.inr (hw _ (List.mem_of_getElem? (i := 26) rfl))) (by decide) (t := .long) (t' := (.object "java/lang/String")) (by decide) (by decide)))
  have f43 : Exa Z h36 a1 "com/example/airtight_latch/airtightlatch/Grant" := f32.wr W36
  have f44 : Exa Z h36 b1 "java/lang/Object" := f33.wr W36
  have N36 := Fr.snoc X36 N25 g_a1
  have K45 : Keep h0 h36 [a1] := K34.wr W36 (Or.inl (List.mem_of_getElem? (i := 0) rfl))
  have Z46 : n0 ≤ h36.size := Nat.le_trans Z35 (Keep.of_wr W36).1
  obtain ⟨T47, h47, X47, e47, W47, st47⟩ := putF X36 hx hZ hown (host := "") (Or.inl (hw _ (List.mem_of_getElem? (i := 27) rfl))) Via.refl e36 f40 f43 (Or.inr ⟨(hw _ (List.mem_of_getElem? (i := 28) rfl)), rfl, hnm⟩) (hw _ (List.mem_of_getElem? (i := 1) rfl)) (ty := .long) (by decide) rfl rfl (g := (mkF m 27 #[.val (.ref a1), .val (.ref a2), .val (.ref a3), .val (.long q1), .second, .val (.long q2), .second, .val (.long q3), .second] [(.long q1), (.ref a1)])) rfl rfl (hb hby d1_27)
  have f48 : Fld Z h47 a1 "com/example/airtight_latch/airtightlatch/Grant" "lease" "Ljava/lang/Object;" (.ref b1) := f37.other W47 (Or.inr (slot_ne (Or.inr (hw _ (List.mem_of_getElem? (i := 22) rfl))) (Or.inr (hw _ (List.mem_of_getElem? (i := 28) rfl))) (by decide) (t := (.object "java/lang/Object")) (t' := .long) (by decide) (by decide)))
  have f49 : Fld Z h47 a1 "com/example/airtight_latch/airtightlatch/Grant" "name" "Ljava/lang/String;" (.ref a2) := f38.other W47 (Or.inr (slot_ne (Or.inr (hw _ (List.mem_of_getElem? (i := 24) rfl))) (Or.inr (hw _ (List.mem_of_getElem? (i := 28) rfl))) (by decide) (t := (.object "java/lang/String")) (t' := .long) (by decide) (by decide)))
  have f50 : Fld Z h47 a1 "com/example/airtight_latch/airtightlatch/Grant" "holder" "Ljava/lang/String;" (.ref a3) := f39.other W47 (Or.inr (slot_ne (Or.inr (hw _ (List.mem_of_getElem? (i := 26) rfl))) (Or.inr (hw _ (List.mem_of_getElem? (i := 28) rfl))) (by decide) (t := (.object "java/lang/String")) (t' := .long) (by decide) (by decide)))
  have f51 : Fld Z h47 a1 "com/example/airtight_latch/airtightlatch/Grant" "token" "J" (.long q1) := f40.same W47
  have f52 : Fld Z h47 a1 "com/example/airtight_latch/airtightlatch/Grant" "renewAt" "J" (.long (0 : Int64)) := f41.other W47 (Or.inr (slot_ne (Or.inl (hw _ (List.mem_of_getElem? (i := 30) rfl))) (Or.inr (hw _ (List.mem_of_getElem? (i := 28) rfl))) (by decide) (t := .long) (t' := .long) (by decide) (by decide)))
  have f53 : Fld Z h47 a1 "com/example/airtight_latch/airtightlatch/Grant" "lapsesAt" "J" (.long (0 : Int64)) := f42.other W47 (Or.inr (slot_ne (Or.inl (hw _ (List.mem_of_getElem? (i := 32) rfl))) (Or.inr (hw _ (List.mem_of_getElem? (i := 28) rfl))) (by decide) (t := .long) (t' := .long) (by decide) (by decide)))
  have f54 : Exa Z h47 a1 "com/example/airtight_latch/airtightlatch/Grant" := f43.wr W47
  have f55 : Exa Z h47 b1 "java/lang/Object" := f44.wr W47
  have N47 := Fr.snoc X47 N36 g_a1
  have K56 : Keep h0 h47 [a1] := K45.wr W47 (Or.inl (List.mem_of_getElem? (i := 0) rfl))
  have Z57 : n0 ≤ h47.size := Nat.le_trans Z46 (Keep.of_wr W47).1
  obtain ⟨T58, h58, X58, e58, W58, st58⟩ := putF X47 hx hZ hown (host := "") (Or.inl (hw _ (List.mem_of_getElem? (i := 29) rfl))) Via.refl e47 f52 f54 (Or.inl (hw _ (List.mem_of_getElem? (i := 30) rfl))) (hw _ (List.mem_of_getElem? (i := 1) rfl)) (ty := .long) (by decide) rfl rfl (g := (mkF m 33 #[.val (.ref a1), .val (.ref a2), .val (.ref a3), .val (.long q1), .second, .val (.long q2), .second, .val (.long q3), .second] [(.long q2), (.ref a1)])) rfl rfl (hb hby d1_33)
  have f59 : Fld Z h58 a1 "com/example/airtight_latch/airtightlatch/Grant" "lease" "Ljava/lang/Object;" (.ref b1) := f48.other W58 (Or.inr (slot_ne (Or.inr (hw _ (List.mem_of_getElem? (i := 22) rfl))) (Or.inl (hw _ (List.mem_of_getElem? (i := 30) rfl))) (by decide) (t := (.object "java/lang/Object")) (t' := .long) (by decide) (by decide)))
  have f60 : Fld Z h58 a1 "com/example/airtight_latch/airtightlatch/Grant" "name" "Ljava/lang/String;" (.ref a2) := f49.other W58 (Or.inr (slot_ne (Or.inr (hw _ (List.mem_of_getElem? (i := 24) rfl))) (Or.inl (hw _ (List.mem_of_getElem? (i := 30) rfl))) (by decide) (t := (.object "java/lang/String")) (t' := .long) (by decide) (by decide)))
  have f61 : Fld Z h58 a1 "com/example/airtight_latch/airtightlatch/Grant" "holder" "Ljava/lang/String;" (.ref a3) := f50.other W58 (Or.inr (slot_ne (Or.inr (hw _ (List.mem_of_getElem? (i := 26) rfl))) (Or.inl (hw _ (List.mem_of_getElem? (i := 30) rfl))) (by decide) (t := (.object "java/lang/String")) (t' := .long) (by decide) (by decide)))
  have f62 : Fld Z h58 a1 "com/example/airtight_latch/airtightlatch/Grant" "token" "J" (.long q1) := f51.other W58 (Or.inr (slot_ne (Or.inr (hw _ (List.mem_of_getElem? (i := 28) rfl))) (Or.inl (hw _ (List.mem_of_getElem? (i := 30) rfl))) (by decide) (t := .long) (t' := .long) (by decide) (by decide)))
  have f63 : Fld Z h58 a1 "com/example/airtight_latch/airtightlatch/Grant" "renewAt" "J" (.long q2) := f52.same W58
  have f64 : Fld Z h58 a1 "com/example/airtight_latch/airtightlatch/Grant" "lapsesAt" "J" (.long (0 : Int64)) := f53.other W58 (Or.inr (slot_ne (Or.inl (hw _ (List.mem_of_getElem? (i := 32) rfl))) (Or.inl (hw _ (List.mem_of_getElem? (i := 30) rfl))) (by decide) (t := .long) (t' := .long) (by decide) (by decide)))
  have f65 : Exa Z h58 a1 "com/example/airtight_latch/airtightlatch/Grant" := f54.wr W58
  have f66 : Exa Z h58 b1 "java/lang/Object" := f55.wr W58
  have N58 := Fr.snoc X58 N47 g_a1
  have K67 : Keep h0 h58 [a1] := K56.wr W58 (Or.inl (List.mem_of_getElem? (i := 0) rfl))
  have Z68 : n0 ≤ h58.size := Nat.le_trans Z57 (Keep.of_wr W58).1
  obtain ⟨T69, h69, X69, e69, W69, st69⟩ := putF X58 hx hZ hown (host := "") (Or.inl (hw _ (List.mem_of_getElem? (i := 31) rfl))) Via.refl e58 f64 f65 (Or.inl (hw _ (List.mem_of_getElem? (i := 32) rfl))) (hw _ (List.mem_of_getElem? (i := 1) rfl)) (ty := .long) (by decide) rfl rfl (g := (mkF m 39 #[.val (.ref a1), .val (.ref a2), .val (.ref a3), .val (.long q1), .second, .val (.long q2), .second, .val (.long q3), .second] [(.long q3), (.ref a1)])) rfl rfl (hb hby d1_39)
  have f70 : Fld Z h69 a1 "com/example/airtight_latch/airtightlatch/Grant" "lease" "Ljava/lang/Object;" (.ref b1) := f59.other W69 (Or.inr (slot_ne (Or.inr (hw _ (List.mem_of_getElem? (i := 22) rfl))) (Or.inl (hw _ (List.mem_of_getElem? (i := 32) rfl))) (by decide) (t := (.object "java/lang/Object")) (t' := .long) (by decide) (by decide)))
  have f71 : Fld Z h69 a1 "com/example/airtight_latch/airtightlatch/Grant" "name" "Ljava/lang/String;" (.ref a2) := f60.other W69 (Or.inr (slot_ne (Or.inr (hw _ (List.mem_of_getElem? (i := 24) rfl))) (Or.inl (hw _ (List.mem_of_getElem? (i := 32) rfl))) (by decide) (t := (.object "java/lang/String")) (t' := .long) (by decide) (by decide)))
  have f72 : Fld Z h69 a1 "com/example/airtight_latch/airtightlatch/Grant" "holder" "Ljava/lang/String;" (.ref a3) := f61.other W69 (Or.inr (slot_ne (Or.inr (hw _ (List.mem_of_getElem? (i := 26) rfl))) (Or.inl (hw _ (List.mem_of_getElem? (i := 32) rfl))) (by decide) (t := (.object "java/lang/String")) (t' := .long) (by decide) (by decide)))
  have f73 : Fld Z h69 a1 "com/example/airtight_latch/airtightlatch/Grant" "token" "J" (.long q1) := f62.other W69 (Or.inr (slot_ne (Or.inr (hw _ (List.mem_of_getElem? (i := 28) rfl))) (Or.inl (hw _ (List.mem_of_getElem? (i := 32) rfl))) (by decide) (t := .long) (t' := .long) (by decide) (by decide)))
  have f74 : Fld Z h69 a1 "com/example/airtight_latch/airtightlatch/Grant" "renewAt" "J" (.long q2) := f63.other W69 (Or.inr (slot_ne (Or.inl (hw _ (List.mem_of_getElem? (i := 30) rfl))) (Or.inl (hw _ (List.mem_of_getElem? (i := 32) rfl))) (by decide) (t := .long) (t' := .long) (by decide) (by decide)))
  have f75 : Fld Z h69 a1 "com/example/airtight_latch/airtightlatch/Grant" "lapsesAt" "J" (.long q3) := f64.same W69
  have f76 : Exa Z h69 a1 "com/example/airtight_latch/airtightlatch/Grant" := f65.wr W69
  have f77 : Exa Z h69 b1 "java/lang/Object" := f66.wr W69
  have N69 := Fr.snoc X69 N58 g_a1
  have K78 : Keep h0 h69 [a1] := K67.wr W69 (Or.inl (List.mem_of_getElem? (i := 0) rfl))
  have Z79 : n0 ≤ h69.size := Nat.le_trans Z68 (Keep.of_wr W69).1
  obtain ⟨fs, hr, hrun, hended, hW, hsame⟩ := X69.leave (v := none) (fun _ => rfl)
  refine ⟨_, _, pre0 _ ?_, hrun, hended, _, _, rfl, ?_, ⟨_, rfl⟩, hW, hsame.mono (by decide) (by decide)⟩
  · show Steps p.tables e below (s₁.setTop (mkF m 0 #[.val (.ref a1), .val (.ref a2), .val (.ref a3), .val (.long q1), .second, .val (.long q2), .second, .val (.long q3), .second] [])) _
    refine XS.aloadN X0.here hx rfl (hb hby d1_0) rfl rfl ?_
    show Steps p.tables e below (s₁.setTop (mkF m 1 #[.val (.ref a1), .val (.ref a2), .val (.ref a3), .val (.long q1), .second, .val (.long q2), .second, .val (.long q3), .second] [(.ref a1)])) _
    refine st1 _ ?_
    show Steps p.tables e below (T1.setTop (mkF m 4 #[.val (.ref a1), .val (.ref a2), .val (.ref a3), .val (.long q1), .second, .val (.long q2), .second, .val (.long q3), .second] [])) _
    refine XS.aloadN X1.here hx rfl (hb hby d1_4) rfl rfl ?_
    show Steps p.tables e below (T1.setTop (mkF m 5 #[.val (.ref a1), .val (.ref a2), .val (.ref a3), .val (.long q1), .second, .val (.long q2), .second, .val (.long q3), .second] [(.ref a1)])) _
    refine st2 _ ?_
    show Steps p.tables e below (T2.setTop (mkF m 8 #[.val (.ref a1), .val (.ref a2), .val (.ref a3), .val (.long q1), .second, .val (.long q2), .second, .val (.long q3), .second] [(.ref b1), (.ref a1)])) _
    refine XS.dup X2.here hx rfl (hb hby d1_8) rfl rfl ?_
    show Steps p.tables e below (T2.setTop (mkF m 9 #[.val (.ref a1), .val (.ref a2), .val (.ref a3), .val (.long q1), .second, .val (.long q2), .second, .val (.long q3), .second] [(.ref b1), (.ref b1), (.ref a1)])) _
    refine st13 _ ?_
    show Steps p.tables e below (T13.setTop (mkF m 12 #[.val (.ref a1), .val (.ref a2), .val (.ref a3), .val (.long q1), .second, .val (.long q2), .second, .val (.long q3), .second] [(.ref b1), (.ref a1)])) _
    refine st14 _ ?_
    show Steps p.tables e below (T14.setTop (mkF m 15 #[.val (.ref a1), .val (.ref a2), .val (.ref a3), .val (.long q1), .second, .val (.long q2), .second, .val (.long q3), .second] [])) _
    refine XS.aloadN X14.here hx rfl (hb hby d1_15) rfl rfl ?_
    show Steps p.tables e below (T14.setTop (mkF m 16 #[.val (.ref a1), .val (.ref a2), .val (.ref a3), .val (.long q1), .second, .val (.long q2), .second, .val (.long q3), .second] [(.ref a1)])) _
    refine XS.aloadN X14.here hx rfl (hb hby d1_16) rfl rfl ?_
    show Steps p.tables e below (T14.setTop (mkF m 17 #[.val (.ref a1), .val (.ref a2), .val (.ref a3), .val (.long q1), .second, .val (.long q2), .second, .val (.long q3), .second] [(.ref a2), (.ref a1)])) _
    refine st25 _ ?_
    show Steps p.tables e below (T25.setTop (mkF m 20 #[.val (.ref a1), .val (.ref a2), .val (.ref a3), .val (.long q1), .second, .val (.long q2), .second, .val (.long q3), .second] [])) _
    refine XS.aloadN X25.here hx rfl (hb hby d1_20) rfl rfl ?_
    show Steps p.tables e below (T25.setTop (mkF m 21 #[.val (.ref a1), .val (.ref a2), .val (.ref a3), .val (.long q1), .second, .val (.long q2), .second, .val (.long q3), .second] [(.ref a1)])) _
    refine XS.aloadN X25.here hx rfl (hb hby d1_21) rfl rfl ?_
    show Steps p.tables e below (T25.setTop (mkF m 22 #[.val (.ref a1), .val (.ref a2), .val (.ref a3), .val (.long q1), .second, .val (.long q2), .second, .val (.long q3), .second] [(.ref a3), (.ref a1)])) _
    refine st36 _ ?_
    show Steps p.tables e below (T36.setTop (mkF m 25 #[.val (.ref a1), .val (.ref a2), .val (.ref a3), .val (.long q1), .second, .val (.long q2), .second, .val (.long q3), .second] [])) _
    refine XS.aloadN X36.here hx rfl (hb hby d1_25) rfl rfl ?_
    show Steps p.tables e below (T36.setTop (mkF m 26 #[.val (.ref a1), .val (.ref a2), .val (.ref a3), .val (.long q1), .second, .val (.long q2), .second, .val (.long q3), .second] [(.ref a1)])) _
    refine XS.lloadN X36.here hx rfl (hb hby d1_26) rfl ?_
    show Steps p.tables e below (T36.setTop (mkF m 27 #[.val (.ref a1), .val (.ref a2), .val (.ref a3), .val (.long q1), .second, .val (.long q2), .second, .val (.long q3), .second] [(.long q1), (.ref a1)])) _
    refine st47 _ ?_
    show Steps p.tables e below (T47.setTop (mkF m 30 #[.val (.ref a1), .val (.ref a2), .val (.ref a3), .val (.long q1), .second, .val (.long q2), .second, .val (.long q3), .second] [])) _
    refine XS.aloadN X47.here hx rfl (hb hby d1_30) rfl rfl ?_
    show Steps p.tables e below (T47.setTop (mkF m 31 #[.val (.ref a1), .val (.ref a2), .val (.ref a3), .val (.long q1), .second, .val (.long q2), .second, .val (.long q3), .second] [(.ref a1)])) _
    refine XS.lload X47.here hx rfl (hb hby d1_31) rfl ?_
    show Steps p.tables e below (T47.setTop (mkF m 33 #[.val (.ref a1), .val (.ref a2), .val (.ref a3), .val (.long q1), .second, .val (.long q2), .second, .val (.long q3), .second] [(.long q2), (.ref a1)])) _
    refine st58 _ ?_
    show Steps p.tables e below (T58.setTop (mkF m 36 #[.val (.ref a1), .val (.ref a2), .val (.ref a3), .val (.long q1), .second, .val (.long q2), .second, .val (.long q3), .second] [])) _
    refine XS.aloadN X58.here hx rfl (hb hby d1_36) rfl rfl ?_
    show Steps p.tables e below (T58.setTop (mkF m 37 #[.val (.ref a1), .val (.ref a2), .val (.ref a3), .val (.long q1), .second, .val (.long q2), .second, .val (.long q3), .second] [(.ref a1)])) _
    refine XS.lload X58.here hx rfl (hb hby d1_37) rfl ?_
    show Steps p.tables e below (T58.setTop (mkF m 39 #[.val (.ref a1), .val (.ref a2), .val (.ref a3), .val (.long q1), .second, .val (.long q2), .second, .val (.long q3), .second] [(.long q3), (.ref a1)])) _
    refine st69 _ ?_
    show Steps p.tables e below (T69.setTop (mkF m 42 #[.val (.ref a1), .val (.ref a2), .val (.ref a3), .val (.long q1), .second, .val (.long q2), .second, .val (.long q3), .second] [])) _
    exact X69.returnOut hx Bd.returns (hb hby d1_42) hr
  · show Q1 Z a1 a2 a3 q1 q2 q3 h0 n0 _ T69.heap _
    rw [e69]
    exact ⟨rfl, N69, K78, f74⟩
theorem d3_0 : decode prog_1_method_7_code 0 = .ok (.lload_n 1, 1) := by decide +kernel
theorem d3_1 : decode prog_1_method_7_code 1 = .ok (.aload_n 0, 1) := by decide +kernel
theorem d3_2 : decode prog_1_method_7_code 2 = .ok (.getfield 24, 3) := by decide +kernel
theorem d3_5 : decode prog_1_method_7_code 5 = .ok (.lsub, 1) := by decide +kernel
theorem d3_6 : decode prog_1_method_7_code 6 = .ok (.lconst 0, 1) := by decide +kernel
theorem d3_7 : decode prog_1_method_7_code 7 = .ok (.lcmp, 1) := by decide +kernel
theorem d3_8 : decode prog_1_method_7_code 8 = .ok (.ifCond .lt 7, 3) := by decide +kernel
theorem d3_11 : decode prog_1_method_7_code 11 = .ok (.iconst 1, 1) := by decide +kernel
theorem d3_12 : decode prog_1_method_7_code 12 = .ok (.goto 4, 3) := by decide +kernel
theorem d3_15 : decode prog_1_method_7_code 15 = .ok (.iconst 0, 1) := by decide +kernel
theorem d3_16 : decode prog_1_method_7_code 16 = .ok (.ireturn, 1) := by decide +kernel
theorem ef_3 (m : MethodId) (x0 : Addr) (x1 : Int64) : entryFrame m #[(.ref x0), (.long x1)] 3 = mkF m 0 #[.val (.ref x0), .val (.long x1), .second] [] := by first | (simp [entryFrame, mkF, argsToLocals, Value.category]; done) | rfl
def Q3 (Z : State) (a1 : Addr) (q1 : Int64) (q2 : Int64) (h0 : Heap) (n0 : Nat) (v : Option Value) (h : Heap) (L : List Loc) : Prop := v = some (.int (own_due q1 q2)) ∧ Fr n0 L ∧ h = h0
set_option maxRecDepth 65536 in
set_option maxHeartbeats 40000000 in
theorem rm3 (l : Launch) (Z : State) (a0 : Array Value) (hw : ∀ d ∈ tables_1, d.before a0 Z = true) (ws : List Jvm.Cond) (a1 : Addr) (q1 : Int64) (q2 : Int64) (h0 : Heap) (n0 : Nat) (Z0 : n0 ≤ h0.size) (F0 : Fld Z h0 a1 "com/example/airtight_latch/airtightlatch/Grant" "renewAt" "J" (.long q2)) :
    MetFree l (⟨"com/example/airtight_latch/airtightlatch/Grant", "isDue", "(J)Z"⟩ : MethodName) (head1 (Jvm.Cond.code (⟨"com/example/airtight_latch/airtightlatch/Grant", "isDue", "(J)Z"⟩ : MethodName) prog_1_method_7_code 3 (some .boolean) :: ws) ({ frames := 0, cells := 0, slots := 0, locals := 0 } : Room)) (fun a U => a = #[(.ref a1), (.long q1)] ∧ Z.Warmed39 U.vm ∧ U.heap = h0) (fun _ _ _ _ _ => True) (fun _ U o U' => ∃ v L, o = .returned v ∧ Q3 Z a1 q1 q2 h0 n0 v U'.heap L ∧ FrameEnd U o U' L ({ frames := 0, cells := 0, slots := 0, locals := 0 } : Room).cells ({ frames := 0, cells := 0, slots := 0, locals := 0 } : Room).slots) := by
  refine MetFree.of_bodySF (plainFor_of_name pn_1) hisR ?_
  intro p e s m args below meth c s₁ Bd hml0 hP hK
  obtain ⟨rfl, hZ, hh⟩ := hP
  have hx := Bd.exec
  have hby := Bd.bytes
  have hml : c.maxLocals = 3 := hml0
  have hown : s.vm.findClass "com/example/airtight_latch/airtightlatch/Grant" = some m.cls := findClass_of_methodNamed Bd.named
  have hnm := (name_of_methodNamed Bd.named Bd.method).1
  have X0 : Stand p l e ({ frames := 0, cells := 0, slots := 0, locals := 0 } : Room) s m #[(.ref a1), (.long q1)] below meth c s₁ [] 0 0 := Stand.of_body Bd
  have e0 : s₁.heap = h0 := by rw [← hh, Bd.state]; rfl
  have N0 := Fr.nil n0
  have pre0 : ∀ t, Steps p.tables e below (s₁.setTop (mkF m 0 #[.val (.ref a1), .val (.long q1), .second] [])) t → Steps p.tables e below (s₁.setTop (entryFrame m #[(.ref a1), (.long q1)] 3)) t := fun t k => castTop (ef_3 m a1 q1) k
  obtain ⟨T1, X1, e1, st1⟩ := getF X0 hx hZ hown (host := "") (Or.inl (hw _ (List.mem_of_getElem? (i := 29) rfl))) Via.refl e0 F0 (g := (mkF m 2 #[.val (.ref a1), .val (.long q1), .second] [(.ref a1), (.long q1)])) rfl rfl (hb hby d3_2)
  by_cases hc8 : (q1 - q2) < (0 : Int64)
  · obtain ⟨fs, hr, hrun, hended, hW, hsame⟩ := X1.leave (v := some (.int (0 : Int32))) (fun h => by rw [Bd.returns] at h; cases h)
    refine ⟨_, _, pre0 _ ?_, hrun, hended, _, _, rfl, ?_, ⟨_, rfl⟩, hW, hsame.mono (by decide) (by decide)⟩
    · show Steps p.tables e below (s₁.setTop (mkF m 0 #[.val (.ref a1), .val (.long q1), .second] [])) _
      refine XS.lloadN X0.here hx rfl (hb hby d3_0) rfl ?_
      show Steps p.tables e below (s₁.setTop (mkF m 1 #[.val (.ref a1), .val (.long q1), .second] [(.long q1)])) _
      refine XS.aloadN X0.here hx rfl (hb hby d3_1) rfl rfl ?_
      show Steps p.tables e below (s₁.setTop (mkF m 2 #[.val (.ref a1), .val (.long q1), .second] [(.ref a1), (.long q1)])) _
      refine st1 _ ?_
      show Steps p.tables e below (T1.setTop (mkF m 5 #[.val (.ref a1), .val (.long q1), .second] [(.long q2), (.long q1)])) _
      refine XS.lsub X1.here hx rfl (hb hby d3_5) rfl ?_
      show Steps p.tables e below (T1.setTop (mkF m 6 #[.val (.ref a1), .val (.long q1), .second] [(.long (q1 - q2))])) _
      refine XS.lconst X1.here hx rfl (hb hby d3_6) ?_
      show Steps p.tables e below (T1.setTop (mkF m 7 #[.val (.ref a1), .val (.long q1), .second] [(.long (0 : Int64)), (.long (q1 - q2))])) _
      refine XS.lcmp X1.here hx rfl (hb hby d3_7) rfl ?_
      show Steps p.tables e below (T1.setTop (mkF m 8 #[.val (.ref a1), .val (.long q1), .second] [(.int (lcmpW (q1 - q2) (0 : Int64)))])) _
      refine XS.ifYes X1.here hx rfl (pc0 := 8) (pc' := 15) rfl (hb hby d3_8) rfl ((if0 _ _).trans (tlt ((lw_lt _ _).mpr hc8)).1) (by decide) (by decide) ?_
      show Steps p.tables e below (T1.setTop (mkF m 15 #[.val (.ref a1), .val (.long q1), .second] [])) _
      refine XS.iconst X1.here hx rfl (hb hby d3_15) ?_
      show Steps p.tables e below (T1.setTop (mkF m 16 #[.val (.ref a1), .val (.long q1), .second] [(.int (0 : Int32))])) _
      exact retN X1 hx (t := .boolean) Bd.returns (by simp) (hb hby d3_16) hr
    · show Q3 Z a1 q1 q2 h0 n0 _ T1.heap _
      rw [e1]
      exact ⟨by rw [own_no hc8], N0, rfl⟩
  · obtain ⟨fs, hr, hrun, hended, hW, hsame⟩ := X1.leave (v := some (.int (1 : Int32))) (fun h => by rw [Bd.returns] at h; cases h)
    refine ⟨_, _, pre0 _ ?_, hrun, hended, _, _, rfl, ?_, ⟨_, rfl⟩, hW, hsame.mono (by decide) (by decide)⟩
    · show Steps p.tables e below (s₁.setTop (mkF m 0 #[.val (.ref a1), .val (.long q1), .second] [])) _
      refine XS.lloadN X0.here hx rfl (hb hby d3_0) rfl ?_
      show Steps p.tables e below (s₁.setTop (mkF m 1 #[.val (.ref a1), .val (.long q1), .second] [(.long q1)])) _
      refine XS.aloadN X0.here hx rfl (hb hby d3_1) rfl rfl ?_
      show Steps p.tables e below (s₁.setTop (mkF m 2 #[.val (.ref a1), .val (.long q1), .second] [(.ref a1), (.long q1)])) _
      refine st1 _ ?_
      show Steps p.tables e below (T1.setTop (mkF m 5 #[.val (.ref a1), .val (.long q1), .second] [(.long q2), (.long q1)])) _
      refine XS.lsub X1.here hx rfl (hb hby d3_5) rfl ?_
      show Steps p.tables e below (T1.setTop (mkF m 6 #[.val (.ref a1), .val (.long q1), .second] [(.long (q1 - q2))])) _
      refine XS.lconst X1.here hx rfl (hb hby d3_6) ?_
      show Steps p.tables e below (T1.setTop (mkF m 7 #[.val (.ref a1), .val (.long q1), .second] [(.long (0 : Int64)), (.long (q1 - q2))])) _
      refine XS.lcmp X1.here hx rfl (hb hby d3_7) rfl ?_
      show Steps p.tables e below (T1.setTop (mkF m 8 #[.val (.ref a1), .val (.long q1), .second] [(.int (lcmpW (q1 - q2) (0 : Int64)))])) _
      refine XS.ifNo X1.here hx rfl (hb hby d3_8) rfl ((if0 _ _).trans (flt (fun q => hc8 ((lw_lt _ _).mp q))).1) ?_
      show Steps p.tables e below (T1.setTop (mkF m 11 #[.val (.ref a1), .val (.long q1), .second] [])) _
      refine XS.iconst X1.here hx rfl (hb hby d3_11) ?_
      show Steps p.tables e below (T1.setTop (mkF m 12 #[.val (.ref a1), .val (.long q1), .second] [(.int (1 : Int32))])) _
      refine XS.goto X1.here hx rfl (pc0 := 12) (pc' := 16) rfl (hb hby d3_12) (by decide) (by decide) ?_
      show Steps p.tables e below (T1.setTop (mkF m 16 #[.val (.ref a1), .val (.long q1), .second] [(.int (1 : Int32))])) _
      exact retN X1 hx (t := .boolean) Bd.returns (by simp) (hb hby d3_16) hr
    · show Q3 Z a1 q1 q2 h0 n0 _ T1.heap _
      rw [e1]
      exact ⟨by rw [own_yes hc8], N0, rfl⟩
theorem pd_35 : parseMethodDescriptor "(Ljava/lang/String;Ljava/lang/String;JJJ)V" = some ⟨[(.object "java/lang/String"), (.object "java/lang/String"), .long, .long, .long], none⟩ := by decide +kernel
theorem pd_36 : parseMethodDescriptor "(J)Z" = some ⟨[.long], some .boolean⟩ := by decide +kernel
theorem pn_0 : plainName "com/example/airtight_latch/airtightlatch/GrantIsDuePinLaw" = true := by first | (simp [plainName, overriddenIn]; done) | decide +kernel
theorem ef_0 (m : MethodId) (x0 : Int64) (x1 : Int64) (x2 : Int64) (x3 : Int64) : entryFrame m #[(.long x0), (.long x1), (.long x2), (.long x3)] maxLocals = mkF m 0 #[.val (.long x0), .second, .val (.long x1), .second, .val (.long x2), .second, .val (.long x3), .second, .unset, .unset, .unset, .unset] [] := by first | (simp [entryFrame, mkF, argsToLocals, Value.category, maxLocals]; done) | rfl
def Q0 (Z : State) (q1 : Int64) (q2 : Int64) (q3 : Int64) (q4 : Int64) (h0 : Heap) (n0 : Nat) (v : Option Value) (h : Heap) (L : List Loc) : Prop := v = some (.int (1 : Int32)) ∧ Fr n0 L
set_option maxRecDepth 65536 in
set_option maxHeartbeats 40000000 in
theorem rm0 (l : Launch) (Z : State) (a0 : Array Value) (hw : ∀ d ∈ tables_1, d.before a0 Z = true) (ws : List Jvm.Cond) (q1 : Int64) (q2 : Int64) (q3 : Int64) (q4 : Int64) (h0 : Heap) (n0 : Nat) (Z0 : n0 ≤ h0.size) :
    MetFree l x (head1 (Jvm.Cond.code x code maxLocals ret :: ws) room_1) (fun a U => a = #[(.long q1), (.long q2), (.long q3), (.long q4)] ∧ Z.Warmed39 U.vm ∧ U.heap = h0) (fun _ _ _ _ _ => True) (fun _ U o U' => ∃ v L, o = .returned v ∧ Q0 Z q1 q2 q3 q4 h0 n0 v U'.heap L ∧ ReturnedEndW U o U' L room_1.cells room_1.slots) := by
  refine MetFree.of_bodySF (plainFor_of_name pn_0) hisR ?_
  intro p e s m args below meth c s₁ Bd hml0 hP hK
  obtain ⟨rfl, hZ, hh⟩ := hP
  have hx := Bd.exec
  have hby := Bd.bytes
  have hml : c.maxLocals = 12 := hml0
  have hown : s.vm.findClass "com/example/airtight_latch/airtightlatch/GrantIsDuePinLaw" = some m.cls := findClass_of_methodNamed Bd.named
  have hnm := (name_of_methodNamed Bd.named Bd.method).1
  have X0 : Stand p l e room_1 s m #[(.long q1), (.long q2), (.long q3), (.long q4)] below meth c s₁ [] 0 0 := Stand.of_body Bd
  have e0 : s₁.heap = h0 := by rw [← hh, Bd.state]; rfl
  have N0 := Fr.nil n0
  have pre0 : ∀ t, Steps p.tables e below (s₁.setTop (mkF m 0 #[.val (.long q1), .second, .val (.long q2), .second, .val (.long q3), .second, .val (.long q4), .second, .unset, .unset, .unset, .unset] [])) t → Steps p.tables e below (s₁.setTop (entryFrame m #[(.long q1), (.long q2), (.long q3), (.long q4)] maxLocals)) t := fun t k => castTop (ef_0 m q1 q2 q3 q4) k
  have hSA : ∀ d ∈ Bundle.stringAtoms, d.before a0 Z = true := by
    intro d hd
    rcases List.mem_cons.mp hd with rfl | hd
    · exact (hw _ (List.mem_of_getElem? (i := 4) rfl))
    rcases List.mem_cons.mp hd with rfl | hd
    · exact (hw _ (List.mem_of_getElem? (i := 5) rfl))
    rcases List.mem_cons.mp hd with rfl | hd
    · exact (hw _ (List.mem_of_getElem? (i := 6) rfl))
    rcases List.mem_cons.mp hd with rfl | hd
    · exact (hw _ (List.mem_of_getElem? (i := 7) rfl))
    rcases List.mem_cons.mp hd with rfl | hd
    · exact (hw _ (List.mem_of_getElem? (i := 8) rfl))
    rcases List.mem_cons.mp hd with rfl | hd
    · exact (hw _ (List.mem_of_getElem? (i := 9) rfl))
    rcases List.mem_cons.mp hd with rfl | hd
    · exact (hw _ (List.mem_of_getElem? (i := 10) rfl))
    cases hd
  obtain ⟨T1, h1, X1, e1, E1, A1, D1, -, st1⟩ := newO X0 hx hZ hown (hw _ (List.mem_of_getElem? (i := 0) rfl)) (hw _ (List.mem_of_getElem? (i := 1) rfl)) (hw _ (List.mem_of_getElem? (i := 2) rfl)) e0 (g := (mkF m 0 #[.val (.long q1), .second, .val (.long q2), .second, .val (.long q3), .second, .val (.long q4), .second, .unset, .unset, .unset, .unset] [])) rfl (hb hby at_0) (by decide) (by decide)
  obtain ⟨b1, g1⟩ : ∃ z, z = h0.size := ⟨_, rfl⟩
  rw [← g1] at A1 D1 st1
  have g_b1 : n0 ≤ b1 := Nat.le_trans Z0 (Nat.le_of_eq g1.symm)
  have Z2 : n0 ≤ h1.size := Nat.le_trans Z0 E1.1
  have f3 : Fld Z h1 b1 "com/example/airtight_latch/airtightlatch/Grant" "lease" "Ljava/lang/Object;" .null := D1 (Or.inr (hw _ (List.mem_of_getElem? (i := 22) rfl))) (ty := (.object "java/lang/Object")) (by decide)
  have f4 : Fld Z h1 b1 "com/example/airtight_latch/airtightlatch/Grant" "name" "Ljava/lang/String;" .null := D1 (Or.inr (hw _ (List.mem_of_getElem? (i := 24) rfl))) (ty := (.object "java/lang/String")) (by decide)
  have f5 : Fld Z h1 b1 "com/example/airtight_latch/airtightlatch/Grant" "holder" "Ljava/lang/String;" .null := D1 (Or.inr (hw _ (List.mem_of_getElem? (i := 26) rfl))) (ty := (.object "java/lang/String")) (by decide)
  have f6 : Fld Z h1 b1 "com/example/airtight_latch/airtightlatch/Grant" "token" "J" (.long (0 : Int64)) := D1 (Or.inr (hw _ (List.mem_of_getElem? (i := 28) rfl))) (ty := .long) (by decide)
  have f7 : Fld Z h1 b1 "com/example/airtight_latch/airtightlatch/Grant" "renewAt" "J" (.long (0 : Int64)) := D1 (Or.inl (hw _ (List.mem_of_getElem? (i := 30) rfl))) (ty := .long) (by decide)
  have f8 : Fld Z h1 b1 "com/example/airtight_latch/airtightlatch/Grant" "lapsesAt" "J" (.long (0 : Int64)) := D1 (Or.inl (hw _ (List.mem_of_getElem? (i := 32) rfl))) (ty := .long) (by decide)
  obtain ⟨a2, T9, h9, k9, X9, e9, E9, hS9, hk9, hZ9, hown9, st9⟩ := ldcS (s := s) (vm0 := s.vm) X1 hx hZ hown (hw _ (List.mem_of_getElem? (i := 3) rfl)) hSA e1 ((State.WarmedH.refl s).since 0) (Nat.zero_le _) (g := (mkF m 4 #[.val (.long q1), .second, .val (.long q2), .second, .val (.long q3), .second, .val (.long q4), .second, .unset, .unset, .unset, .unset] [(.ref b1), (.ref b1)])) rfl (hb hby at_4) (n := 16) (by decide) (by decide) (by decide) (by decide)
  have f10 : Fld Z h9 b1 "com/example/airtight_latch/airtightlatch/Grant" "lease" "Ljava/lang/Object;" .null := f3.ext E9
  have f11 : Fld Z h9 b1 "com/example/airtight_latch/airtightlatch/Grant" "name" "Ljava/lang/String;" .null := f4.ext E9
  have f12 : Fld Z h9 b1 "com/example/airtight_latch/airtightlatch/Grant" "holder" "Ljava/lang/String;" .null := f5.ext E9
  have f13 : Fld Z h9 b1 "com/example/airtight_latch/airtightlatch/Grant" "token" "J" (.long (0 : Int64)) := f6.ext E9
  have f14 : Fld Z h9 b1 "com/example/airtight_latch/airtightlatch/Grant" "renewAt" "J" (.long (0 : Int64)) := f7.ext E9
  have f15 : Fld Z h9 b1 "com/example/airtight_latch/airtightlatch/Grant" "lapsesAt" "J" (.long (0 : Int64)) := f8.ext E9
  have f16 : Exa Z h9 b1 "com/example/airtight_latch/airtightlatch/Grant" := A1.ext E9
  have Z17 : n0 ≤ h9.size := Nat.le_trans Z2 E9.1
  obtain ⟨a3, T18, h18, k18, X18, e18, E18, hS18, hk18, hZ18, hown18, st18⟩ := ldcS (s := s) (vm0 := T9.vm) X9 hx hZ9 hown9 (hw _ (List.mem_of_getElem? (i := 11) rfl)) hSA e9 hS9 hk9 (g := (mkF m 6 #[.val (.long q1), .second, .val (.long q2), .second, .val (.long q3), .second, .val (.long q4), .second, .unset, .unset, .unset, .unset] [(.ref a2), (.ref b1), (.ref b1)])) rfl (hb hby at_6) (n := 32) (by decide) (by decide) (by decide) (by decide)
  have f19 : Fld Z h18 b1 "com/example/airtight_latch/airtightlatch/Grant" "lease" "Ljava/lang/Object;" .null := f10.ext E18
  have f20 : Fld Z h18 b1 "com/example/airtight_latch/airtightlatch/Grant" "name" "Ljava/lang/String;" .null := f11.ext E18
  have f21 : Fld Z h18 b1 "com/example/airtight_latch/airtightlatch/Grant" "holder" "Ljava/lang/String;" .null := f12.ext E18
  have f22 : Fld Z h18 b1 "com/example/airtight_latch/airtightlatch/Grant" "token" "J" (.long (0 : Int64)) := f13.ext E18
  have f23 : Fld Z h18 b1 "com/example/airtight_latch/airtightlatch/Grant" "renewAt" "J" (.long (0 : Int64)) := f14.ext E18
  have f24 : Fld Z h18 b1 "com/example/airtight_latch/airtightlatch/Grant" "lapsesAt" "J" (.long (0 : Int64)) := f15.ext E18
  have f25 : Exa Z h18 b1 "com/example/airtight_latch/airtightlatch/Grant" := f16.ext E18
  have Z26 : n0 ≤ h18.size := Nat.le_trans Z17 E18.1
  obtain ⟨_, _, ⟨T27, L27, k27, n27⟩, -, X27, ⟨Lc27, hQ27, l27, y27, z27⟩, st27⟩ := X18.specialBack hx (y := (⟨"com/example/airtight_latch/airtightlatch/Grant", "<init>", "(Ljava/lang/String;Ljava/lang/String;JJJ)V"⟩ : MethodName)) rfl hown18 (mvT hZ18 (hw _ (List.mem_of_getElem? (i := 12) rfl))) (mvT hZ18 (hw _ (List.mem_of_getElem? (i := 13) rfl))) (mvT hZ18 (hw _ (List.mem_of_getElem? (i := 14) rfl))) (by decide) (backOf (W := 1) (rm1 l Z a0 hw [] b1 a2 a3 q3 q1 q4 h18 n0 Z26 f19 f20 f21 f22 f23 f24 f25 g_b1) hZ18 (hw _ (List.mem_of_getElem? (i := 14) rfl)) (hw _ (List.mem_of_getElem? (i := 2) rfl)) (by decide) (by decide)) (g := (mkF m 13 #[.val (.long q1), .second, .val (.long q2), .second, .val (.long q3), .second, .val (.long q4), .second, .unset, .unset, .unset, .unset] [(.long q4), (.long q1), (.long q3), (.ref a3), (.ref a2), (.ref b1), (.ref b1)])) rfl (by rw [hml]; rfl) (Steps.refl _) (a := b1) (argsL := [(.ref a2), (.ref a3), (.long q3), (.long q1), (.long q4)]) (rest := [(.ref b1)]) (lenOf pd_35 rfl) rfl (by show 2 * 0 + _ ≤ _; exact Nat.le_of_eq rfl) (hb hby at_13) (fun _ _ => ⟨rfl, e18, (by decide : 5 + 1 ≤ _), (by decide : 63 + 0 ≤ _)⟩)
  dsimp only [Pt.U, Pt.locs, Pt.cells, Pt.slots] at X27 l27 y27 z27 st27 hQ27
  subst l27 y27 z27
  obtain ⟨rfl, N27q, K27q, r27⟩ := hQ27
  have N27 := Fr.app N0 N27q
  have K27 := K27q
  have f28 : Exa Z T27.heap b1 "com/example/airtight_latch/airtightlatch/Grant" := f25.keep K27
  have Z29 : n0 ≤ T27.heap.size := Nat.le_trans Z26 K27.1
  have kz30 : k18 ≤ T27.heap.size := Nat.le_trans hk18 K27.1
  have seg31 : ∀ target, Steps p.tables e below (T27.setTop (mkF m 36 #[.val (.long q1), .second, .val (.long q2), .second, .val (.long q3), .second, .val (.long q4), .second, .val (.ref b1), .val (.long (q1 + q2)), .second, .val (.int (own_due (q1 + q2) q1))] [])) target → Steps p.tables e below (T27.setTop (mkF m 23 #[.val (.long q1), .second, .val (.long q2), .second, .val (.long q3), .second, .val (.long q4), .second, .val (.ref b1), .val (.long (q1 + q2)), .second, .unset] [])) target := by
    intro target kt
    by_cases hc26 : q2 < (0 : Int64)
    · rw [show (own_due (q1 + q2) q1) = (0 : Int32) from own_no (by rw [own_cancel]; exact hc26)] at kt
      show Steps p.tables e below (T27.setTop (mkF m 23 #[.val (.long q1), .second, .val (.long q2), .second, .val (.long q3), .second, .val (.long q4), .second, .val (.ref b1), .val (.long (q1 + q2)), .second, .unset] [])) _
      refine XS.lloadN X27.here hx rfl (hb hby at_23) rfl ?_
      show Steps p.tables e below (T27.setTop (mkF m 24 #[.val (.long q1), .second, .val (.long q2), .second, .val (.long q3), .second, .val (.long q4), .second, .val (.ref b1), .val (.long (q1 + q2)), .second, .unset] [(.long q2)])) _
      refine XS.lconst X27.here hx rfl (hb hby at_24) ?_
      show Steps p.tables e below (T27.setTop (mkF m 25 #[.val (.long q1), .second, .val (.long q2), .second, .val (.long q3), .second, .val (.long q4), .second, .val (.ref b1), .val (.long (q1 + q2)), .second, .unset] [(.long (0 : Int64)), (.long q2)])) _
      refine XS.lcmp X27.here hx rfl (hb hby at_25) rfl ?_
      show Steps p.tables e below (T27.setTop (mkF m 26 #[.val (.long q1), .second, .val (.long q2), .second, .val (.long q3), .second, .val (.long q4), .second, .val (.ref b1), .val (.long (q1 + q2)), .second, .unset] [(.int (lcmpW q2 (0 : Int64)))])) _
      refine XS.ifYes X27.here hx rfl (pc0 := 26) (pc' := 33) rfl (hb hby at_26) rfl ((if0 _ _).trans (tlt ((lw_lt _ _).mpr hc26)).1) (by decide) (by decide) ?_
      show Steps p.tables e below (T27.setTop (mkF m 33 #[.val (.long q1), .second, .val (.long q2), .second, .val (.long q3), .second, .val (.long q4), .second, .val (.ref b1), .val (.long (q1 + q2)), .second, .unset] [])) _
      refine XS.iconst X27.here hx rfl (hb hby at_33) ?_
      show Steps p.tables e below (T27.setTop (mkF m 34 #[.val (.long q1), .second, .val (.long q2), .second, .val (.long q3), .second, .val (.long q4), .second, .val (.ref b1), .val (.long (q1 + q2)), .second, .unset] [(.int (0 : Int32))])) _
      refine XS.istore X27.here hx rfl (hb hby at_34) rfl (l' := #[.val (.long q1), .second, .val (.long q2), .second, .val (.long q3), .second, .val (.long q4), .second, .val (.ref b1), .val (.long (q1 + q2)), .second, .val (.int (0 : Int32))]) rfl ?_
      exact kt
    · rw [show (own_due (q1 + q2) q1) = (1 : Int32) from own_yes (by rw [own_cancel]; exact hc26)] at kt
      show Steps p.tables e below (T27.setTop (mkF m 23 #[.val (.long q1), .second, .val (.long q2), .second, .val (.long q3), .second, .val (.long q4), .second, .val (.ref b1), .val (.long (q1 + q2)), .second, .unset] [])) _
      refine XS.lloadN X27.here hx rfl (hb hby at_23) rfl ?_
      show Steps p.tables e below (T27.setTop (mkF m 24 #[.val (.long q1), .second, .val (.long q2), .second, .val (.long q3), .second, .val (.long q4), .second, .val (.ref b1), .val (.long (q1 + q2)), .second, .unset] [(.long q2)])) _
      refine XS.lconst X27.here hx rfl (hb hby at_24) ?_
      show Steps p.tables e below (T27.setTop (mkF m 25 #[.val (.long q1), .second, .val (.long q2), .second, .val (.long q3), .second, .val (.long q4), .second, .val (.ref b1), .val (.long (q1 + q2)), .second, .unset] [(.long (0 : Int64)), (.long q2)])) _
      refine XS.lcmp X27.here hx rfl (hb hby at_25) rfl ?_
      show Steps p.tables e below (T27.setTop (mkF m 26 #[.val (.long q1), .second, .val (.long q2), .second, .val (.long q3), .second, .val (.long q4), .second, .val (.ref b1), .val (.long (q1 + q2)), .second, .unset] [(.int (lcmpW q2 (0 : Int64)))])) _
      refine XS.ifNo X27.here hx rfl (hb hby at_26) rfl ((if0 _ _).trans (flt (fun q => hc26 ((lw_lt _ _).mp q))).1) ?_
      show Steps p.tables e below (T27.setTop (mkF m 29 #[.val (.long q1), .second, .val (.long q2), .second, .val (.long q3), .second, .val (.long q4), .second, .val (.ref b1), .val (.long (q1 + q2)), .second, .unset] [])) _
      refine XS.iconst X27.here hx rfl (hb hby at_29) ?_
      show Steps p.tables e below (T27.setTop (mkF m 30 #[.val (.long q1), .second, .val (.long q2), .second, .val (.long q3), .second, .val (.long q4), .second, .val (.ref b1), .val (.long (q1 + q2)), .second, .unset] [(.int (1 : Int32))])) _
      refine XS.goto X27.here hx rfl (pc0 := 30) (pc' := 34) rfl (hb hby at_30) (by decide) (by decide) ?_
      show Steps p.tables e below (T27.setTop (mkF m 34 #[.val (.long q1), .second, .val (.long q2), .second, .val (.long q3), .second, .val (.long q4), .second, .val (.ref b1), .val (.long (q1 + q2)), .second, .unset] [(.int (1 : Int32))])) _
      refine XS.istore X27.here hx rfl (hb hby at_34) rfl (l' := #[.val (.long q1), .second, .val (.long q2), .second, .val (.long q3), .second, .val (.long q4), .second, .val (.ref b1), .val (.long (q1 + q2)), .second, .val (.int (1 : Int32))]) rfl ?_
      exact kt
  obtain ⟨cq32, kq32, q32a, q32b, q32c⟩ := isOf hZ18 rfl f28
  obtain ⟨_, _, ⟨T32, L32, k32, n32⟩, -, X32, ⟨Lc32, hQ32, l32, y32, z32⟩, st32⟩ := X27.virtualBack hx (y := (⟨"com/example/airtight_latch/airtightlatch/Grant", "isDue", "(J)Z"⟩ : MethodName)) (z := (⟨"com/example/airtight_latch/airtightlatch/Grant", "isDue", "(J)Z"⟩ : MethodName)) hown18 (mvT hZ18 (hw _ (List.mem_of_getElem? (i := 33) rfl))) (mvT hZ18 (hw _ (List.mem_of_getElem? (i := 34) rfl))) (notFace_of_selects (args := #[]) (mvT hZ18 (hw _ (List.mem_of_getElem? (i := 36) rfl)))) (mvT hZ18 (hw _ (List.mem_of_getElem? (i := 36) rfl))) (mvT hZ18 (hw _ (List.mem_of_getElem? (i := 35) rfl))) (by decide) (backOf (W := 0) (rm3 l Z a0 hw [] b1 (q1 + q2) q1 T27.heap n0 Z29 r27) hZ18 (hw _ (List.mem_of_getElem? (i := 37) rfl)) (hw _ (List.mem_of_getElem? (i := 2) rfl)) (by decide) (by decide)) q32a q32c (g := (mkF m 40 #[.val (.long q1), .second, .val (.long q2), .second, .val (.long q3), .second, .val (.long q4), .second, .val (.ref b1), .val (.long (q1 + q2)), .second, .val (.int (own_due (q1 + q2) q1))] [(.long (q1 + q2)), (.ref b1)])) rfl (by rw [hml]; rfl) (Steps.refl _) (argsL := [(.long (q1 + q2))]) (rest := []) (lenOf pd_36 rfl) rfl (by show 2 * 0 + _ ≤ _; exact Nat.le_of_eq rfl) (hb hby at_40) (fun _ _ => ⟨rfl, rfl, (by decide : 6 + 0 ≤ _), (by decide : 63 + 0 ≤ _)⟩)
  dsimp only [Pt.U, Pt.locs, Pt.cells, Pt.slots] at X32 l32 y32 z32 st32 hQ32
  subst l32 y32 z32
  obtain ⟨rfl, N32q, e32⟩ := hQ32
  have N32 := Fr.app N27 N32q
  obtain ⟨fs, hr, hrun, hended, -, hWW, hBB, hSS⟩ := X32.leaveW (s := s) hS18 (by rw [e32]; exact kz30) (v := some (.int (1 : Int32))) (fun h => by rw [Bd.returns] at h; cases h)
  refine ⟨_, _, pre0 _ ?_, hrun, hended, _, _, rfl, ?_, ⟨_, rfl⟩, hWW, hBB, hSS.mono (by decide) (by decide)⟩
  · show Steps p.tables e below (s₁.setTop (mkF m 0 #[.val (.long q1), .second, .val (.long q2), .second, .val (.long q3), .second, .val (.long q4), .second, .unset, .unset, .unset, .unset] [])) _
    refine st1 _ ?_
    show Steps p.tables e below (T1.setTop (mkF m 3 #[.val (.long q1), .second, .val (.long q2), .second, .val (.long q3), .second, .val (.long q4), .second, .unset, .unset, .unset, .unset] [(.ref b1)])) _
    refine XS.dup X1.here hx rfl (hb hby at_3) rfl rfl ?_
    show Steps p.tables e below (T1.setTop (mkF m 4 #[.val (.long q1), .second, .val (.long q2), .second, .val (.long q3), .second, .val (.long q4), .second, .unset, .unset, .unset, .unset] [(.ref b1), (.ref b1)])) _
    refine st9 _ ?_
    show Steps p.tables e below (T9.setTop (mkF m 6 #[.val (.long q1), .second, .val (.long q2), .second, .val (.long q3), .second, .val (.long q4), .second, .unset, .unset, .unset, .unset] [(.ref a2), (.ref b1), (.ref b1)])) _
    refine st18 _ ?_
    show Steps p.tables e below (T18.setTop (mkF m 8 #[.val (.long q1), .second, .val (.long q2), .second, .val (.long q3), .second, .val (.long q4), .second, .unset, .unset, .unset, .unset] [(.ref a3), (.ref a2), (.ref b1), (.ref b1)])) _
    refine XS.lload X18.here hx rfl (hb hby at_8) rfl ?_
    show Steps p.tables e below (T18.setTop (mkF m 10 #[.val (.long q1), .second, .val (.long q2), .second, .val (.long q3), .second, .val (.long q4), .second, .unset, .unset, .unset, .unset] [(.long q3), (.ref a3), (.ref a2), (.ref b1), (.ref b1)])) _
    refine XS.lloadN X18.here hx rfl (hb hby at_10) rfl ?_
    show Steps p.tables e below (T18.setTop (mkF m 11 #[.val (.long q1), .second, .val (.long q2), .second, .val (.long q3), .second, .val (.long q4), .second, .unset, .unset, .unset, .unset] [(.long q1), (.long q3), (.ref a3), (.ref a2), (.ref b1), (.ref b1)])) _
    refine XS.lload X18.here hx rfl (hb hby at_11) rfl ?_
    show Steps p.tables e below (T18.setTop (mkF m 13 #[.val (.long q1), .second, .val (.long q2), .second, .val (.long q3), .second, .val (.long q4), .second, .unset, .unset, .unset, .unset] [(.long q4), (.long q1), (.long q3), (.ref a3), (.ref a2), (.ref b1), (.ref b1)])) _
    refine st27.trans ?_
    show Steps p.tables e below (T27.setTop (mkF m 16 #[.val (.long q1), .second, .val (.long q2), .second, .val (.long q3), .second, .val (.long q4), .second, .unset, .unset, .unset, .unset] [(.ref b1)])) _
    refine XS.astore X27.here hx rfl (hb hby at_16) rfl rfl (l' := #[.val (.long q1), .second, .val (.long q2), .second, .val (.long q3), .second, .val (.long q4), .second, .val (.ref b1), .unset, .unset, .unset]) rfl ?_
    show Steps p.tables e below (T27.setTop (mkF m 18 #[.val (.long q1), .second, .val (.long q2), .second, .val (.long q3), .second, .val (.long q4), .second, .val (.ref b1), .unset, .unset, .unset] [])) _
    refine XS.lloadN X27.here hx rfl (hb hby at_18) rfl ?_
    show Steps p.tables e below (T27.setTop (mkF m 19 #[.val (.long q1), .second, .val (.long q2), .second, .val (.long q3), .second, .val (.long q4), .second, .val (.ref b1), .unset, .unset, .unset] [(.long q1)])) _
    refine XS.lloadN X27.here hx rfl (hb hby at_19) rfl ?_
    show Steps p.tables e below (T27.setTop (mkF m 20 #[.val (.long q1), .second, .val (.long q2), .second, .val (.long q3), .second, .val (.long q4), .second, .val (.ref b1), .unset, .unset, .unset] [(.long q2), (.long q1)])) _
    refine XS.ladd X27.here hx rfl (hb hby at_20) rfl ?_
    show Steps p.tables e below (T27.setTop (mkF m 21 #[.val (.long q1), .second, .val (.long q2), .second, .val (.long q3), .second, .val (.long q4), .second, .val (.ref b1), .unset, .unset, .unset] [(.long (q1 + q2))])) _
    refine XS.lstore X27.here hx rfl (hb hby at_21) rfl (l' := #[.val (.long q1), .second, .val (.long q2), .second, .val (.long q3), .second, .val (.long q4), .second, .val (.ref b1), .val (.long (q1 + q2)), .second, .unset]) rfl ?_
    show Steps p.tables e below (T27.setTop (mkF m 23 #[.val (.long q1), .second, .val (.long q2), .second, .val (.long q3), .second, .val (.long q4), .second, .val (.ref b1), .val (.long (q1 + q2)), .second, .unset] [])) _
    refine seg31 _ ?_
    show Steps p.tables e below (T27.setTop (mkF m 36 #[.val (.long q1), .second, .val (.long q2), .second, .val (.long q3), .second, .val (.long q4), .second, .val (.ref b1), .val (.long (q1 + q2)), .second, .val (.int (own_due (q1 + q2) q1))] [])) _
    refine XS.aload X27.here hx rfl (hb hby at_36) rfl rfl ?_
    show Steps p.tables e below (T27.setTop (mkF m 38 #[.val (.long q1), .second, .val (.long q2), .second, .val (.long q3), .second, .val (.long q4), .second, .val (.ref b1), .val (.long (q1 + q2)), .second, .val (.int (own_due (q1 + q2) q1))] [(.ref b1)])) _
    refine XS.lload X27.here hx rfl (hb hby at_38) rfl ?_
    show Steps p.tables e below (T27.setTop (mkF m 40 #[.val (.long q1), .second, .val (.long q2), .second, .val (.long q3), .second, .val (.long q4), .second, .val (.ref b1), .val (.long (q1 + q2)), .second, .val (.int (own_due (q1 + q2) q1))] [(.long (q1 + q2)), (.ref b1)])) _
    refine st32.trans ?_
    show Steps p.tables e below (T32.setTop (mkF m 43 #[.val (.long q1), .second, .val (.long q2), .second, .val (.long q3), .second, .val (.long q4), .second, .val (.ref b1), .val (.long (q1 + q2)), .second, .val (.int (own_due (q1 + q2) q1))] [(.int (own_due (q1 + q2) q1))])) _
    refine XS.iload X32.here hx rfl (hb hby at_43) rfl ?_
    show Steps p.tables e below (T32.setTop (mkF m 45 #[.val (.long q1), .second, .val (.long q2), .second, .val (.long q3), .second, .val (.long q4), .second, .val (.ref b1), .val (.long (q1 + q2)), .second, .val (.int (own_due (q1 + q2) q1))] [(.int (own_due (q1 + q2) q1)), (.int (own_due (q1 + q2) q1))])) _
    refine XS.icmpNo X32.here hx rfl (hb hby at_45) rfl (teq rfl).2 ?_
    show Steps p.tables e below (T32.setTop (mkF m 48 #[.val (.long q1), .second, .val (.long q2), .second, .val (.long q3), .second, .val (.long q4), .second, .val (.ref b1), .val (.long (q1 + q2)), .second, .val (.int (own_due (q1 + q2) q1))] [])) _
    refine XS.iconst X32.here hx rfl (hb hby at_48) ?_
    show Steps p.tables e below (T32.setTop (mkF m 49 #[.val (.long q1), .second, .val (.long q2), .second, .val (.long q3), .second, .val (.long q4), .second, .val (.ref b1), .val (.long (q1 + q2)), .second, .val (.int (own_due (q1 + q2) q1))] [(.int (1 : Int32))])) _
    refine XS.goto X32.here hx rfl (pc0 := 49) (pc' := 53) rfl (hb hby at_49) (by decide) (by decide) ?_
    show Steps p.tables e below (T32.setTop (mkF m 53 #[.val (.long q1), .second, .val (.long q2), .second, .val (.long q3), .second, .val (.long q4), .second, .val (.ref b1), .val (.long (q1 + q2)), .second, .val (.int (own_due (q1 + q2) q1))] [(.int (1 : Int32))])) _
    exact retN X32 hx (t := .boolean) Bd.returns (by simp) (hb hby at_53) hr
  · show Q0 Z q1 q2 q3 q4 h0 n0 _ T32.heap _
    rw [e32]
    exact ⟨rfl, N32⟩
set_option maxRecDepth 65536 in
set_option maxHeartbeats 40000000 in
theorem comes_1 {Post : Tables → Env → Array Value → State → Outcome → State → Prop} (hpost : ∀ tb e args s v u, (limb_1_1.after args s (.returned v) u = true ∧ limb_1_2.after args s (.returned v) u = true ∧ True) → ReturnedEndW s (.returned v) u (Jvm.fieldLocs frame_1_writes args s ++ Jvm.arrayLocs frame_1_arrays args s ++ Jvm.staticLocs frame_1_statics s) 16 2176 → Post tb e args s (.returned v) u) :
    ArmFor flags0 classFile x code maxLocals ret World_1 tables_1 room_1 Calls_1 rest_1 Pre_1 Post := by
  intro l hfl _ _ p e ha hc hk s m args below hf hA hF happ hP
  obtain ⟨hcalls, hrest, hpre⟩ := hP
  obtain ⟨-, -, -, hnamed, -, -, -, hat⟩ := (Spec.applies_iff hf).mp happ
  obtain ⟨hg, hn⟩ := and_e (Cond.before_iff.mp (show (Jvm.Cond.and given_1 narrow_1).before args s = true from hpre))
  obtain ⟨gc, gr0⟩ := and_e hg
  obtain ⟨ga0, gr1⟩ := and_e gr0
  obtain ⟨ga1, gr2⟩ := and_e gr1
  obtain ⟨ga2, gr3⟩ := and_e gr2
  have ga3 := gr3
  obtain ⟨w0, w1, w2, w3, rfl⟩ : ∃ w0 w1 w2 w3 : Value, args = #[w0, w1, w2, w3] := by
    have hs : args.size = 4 := by simpa [Cond.value, given_1] using gc
    obtain ⟨L⟩ := args
    match L, hs with
    | [w0, w1, w2, w3], _ => exact ⟨w0, w1, w2, w3, rfl⟩
  have hw := fun d (hd : d ∈ tables_1) => atoms_spec (ws := Jvm.Cond.code x code maxLocals ret :: tables_1) hat d (List.mem_cons_of_mem _ hd)
  obtain ⟨i0, ei0⟩ := isL_v ga0
  obtain rfl : w0 = (.long i0) := Option.some.inj ei0
  obtain ⟨i1, ei1⟩ := isL_v ga1
  obtain rfl : w1 = (.long i1) := Option.some.inj ei1
  obtain ⟨i2, ei2⟩ := isL_v ga2
  obtain rfl : w2 = (.long i2) := Option.some.inj ei2
  obtain ⟨i3, ei3⟩ := isL_v ga3
  obtain rfl : w3 = (.long i3) := Option.some.inj ei3
  obtain ⟨n, o, h1, h2, h3, _, L, rfl, ⟨rfl, N⟩, hq⟩ := rm0 l s _ hw tables_1 i0 i1 i2 i3 s.heap s.heap.size (Nat.le_refl _) p e ha hc hk s m _ below hf ((Spec.applies_iff_loose hf).mp happ).1 ⟨rfl, State.Warmed39.refl s, rfl⟩ trivial
  refine ⟨n, _, h1, h2, h3, hpost _ _ _ _ _ _ ⟨Cond.after_iff.mpr rfl, Cond.after_iff.mpr (eq_i res_at (Term.int_eval (1)) rfl), trivial⟩ ⟨hq.1, hq.2.1, hq.2.2.1, (hq.2.2.2.sift fun y hy => Or.inr (N y hy)).mono (by decide) (by decide)⟩⟩
theorem main_1_1 : Claimed_1_1 := comes_1 fun _ _ _ _ _ _ h hF => ⟨h.1, hF⟩
theorem main_1_2 : Claimed_1_2 := comes_1 fun _ _ _ _ _ _ h hF => ⟨h.2.1, hF⟩
end Jvm.Pilot.@@N@@
namespace Jvm.Pilot.@@N@@
open Jvm Jvm.ClassFile Sem Op Lib Jvm.Free Jvm.Stand Jvm.Pilot.@@N@@.Jvm.D
/-! MADE BY PROGRAM (witnessworld.py) out of the Statement's table words and the real class files: 12 classes; the members and pool entries that the words name. The judged class is class 1, her method 1. -/
namespace start1
open Jvm.ClassFile
def u (s : String) : CpInfo := .utf8 (stringToUtf16 s)
/-- a pool by its gaps: so many unusable entries, then the entry; so many at the end -/
def gap : Nat → List CpInfo → List CpInfo
  | 0, r => r
  | n + 1, r => .unusable :: gap n r
def poolList (es : List (Nat × CpInfo)) (last : Nat) : List CpInfo := es.foldr (fun e r => gap e.1 (e.2 :: r)) (gap last [])
def pool (es : List (Nat × CpInfo)) (last : Nat) : Array CpInfo := ⟨poolList es last⟩
def fileOf (pool : Array CpInfo) (this : Nat) (attrs : Array Attribute := #[]) (ms : Array MethodInfo := #[]) (fl : Nat := 33) (sup : Nat := 0) (ifs : Array Nat := #[]) (fds : Array FieldInfo := #[]) : ClassFile where
  minorVersion := 0
  majorVersion := 65
  constantPool := pool
  accessFlags := fl
  thisClass := this
  superClass := sup
  interfaces := ifs
  fields := fds
  methods := ms
  attributes := attrs
def plain (name : String) (sup : Option ClassId) : Class where
  name := name
  kind := .ordinary
  loader := none
  accessFlags := 33
  super := sup
  interfaces := #[]
  cf := none
  fields := #[]
  methods := #[]
  instanceTypes := #[]
  staticTypes := #[]
  resolved := #[]
  callSites := []
  init := .initialized
  statics := none
  mirror := none

def pool0 : Array CpInfo := pool [(5, u "<init>"), (0, u "()V"), (1, .class_ 10), (1, u "java/lang/Object")] 113

def k0c0 : Code := { maxStack := 0, maxLocals := 1, code := object_method_1_code, exceptionTable := #[], attributes := #[] }
def k0m0 : Method := { name := "<init>", desc := "()V", sig := { parameters := [], returnType := none }, accessFlags := 1, code := some k0c0 }
/-- java/lang/Object -/
def k0 : Class := { plain "java/lang/Object" none with
  accessFlags := 33
  interfaces := #[]
  cf := some (fileOf pool0 8 #[] #[{ accessFlags := 1, nameIndex := 5, descriptorIndex := 6, attributes := #[] }] 33 0 #[] #[])
  fields := #[]
  methods := #[k0m0]
  instanceTypes := #[]
  staticTypes := #[]
  resolved := Array.replicate 124 none
  statics := none }

def pool1 : Array CpInfo := pool [(2, .class_ 4), (1, u "java/lang/Object"), (0, u "<init>"), (0, u "()V"), (0, .class_ 8), (0, u "com/example/airtight_latch/airtightlatch/Grant"), (0, .string 10), (0, u "lock"), (0, .string 12), (0, u "client:1"), (0, .methodref 7 14), (0, .nameAndType 5 15), (0, u "(Ljava/lang/String;Ljava/lang/String;JJJ)V"), (0, .methodref 7 17), (0, .nameAndType 18 19), (0, u "isDue"), (0, u "(J)Z"), (0, .class_ 21), (0, u "com/example/airtight_latch/airtightlatch/GrantIsDuePinLaw"), (2, u "law"), (0, u "(JJJJ)Z")] 3

def k1m0 : Method := { name := "<init>", desc := "()V", sig := { parameters := [], returnType := none }, accessFlags := 1, code := none }
def k1c1 : Code := { maxStack := 10, maxLocals := 12, code := code, exceptionTable := #[], attributes := #[] }
def k1m1 : Method := { name := "law", desc := "(JJJJ)Z", sig := { parameters := [.long, .long, .long, .long], returnType := some .boolean }, accessFlags := 9, code := some k1c1 }
/-- com/example/airtight_latch/airtightlatch/GrantIsDuePinLaw -/
def k1 : Class := { plain "com/example/airtight_latch/airtightlatch/GrantIsDuePinLaw" (some 0) with
  accessFlags := 49
  interfaces := #[]
  cf := some (fileOf pool1 20 #[] #[{ accessFlags := 1, nameIndex := 5, descriptorIndex := 6, attributes := #[] }, { accessFlags := 9, nameIndex := 24, descriptorIndex := 25, attributes := #[] }] 49 2 #[] #[])
  fields := #[]
  methods := #[k1m0, k1m1]
  instanceTypes := #[]
  staticTypes := #[]
  resolved := Array.replicate 29 none
  statics := none }

def pool2 : Array CpInfo := pool [(1, .methodref 2 3), (0, .class_ 4), (0, .nameAndType 5 6), (0, u "java/lang/Object"), (0, u "<init>"), (0, u "()V"), (0, .fieldref 8 9), (0, .class_ 10), (0, .nameAndType 11 12), (0, u "com/example/airtight_latch/airtightlatch/Grant"), (0, u "lease"), (0, u "Ljava/lang/Object;"), (0, .fieldref 8 14), (0, .nameAndType 15 16), (0, u "name"), (0, u "Ljava/lang/String;"), (0, .fieldref 8 18), (0, .nameAndType 19 16), (0, u "holder"), (0, .fieldref 8 21), (0, .nameAndType 22 23), (0, u "token"), (0, u "J"), (0, .fieldref 8 25), (0, .nameAndType 26 23), (0, u "renewAt"), (0, .fieldref 8 28), (0, .nameAndType 29 23), (0, u "lapsesAt"), (2, u "ended"), (0, u "Z"), (10, u "(Ljava/lang/String;Ljava/lang/String;JJJ)V"), (7, u "isDue"), (0, u "(J)Z")] 4

def k2c0 : Code := { maxStack := 3, maxLocals := 9, code := prog_1_method_1_code, exceptionTable := #[], attributes := #[] }
def k2m0 : Method := { name := "<init>", desc := "(Ljava/lang/String;Ljava/lang/String;JJJ)V", sig := { parameters := [(.object "java/lang/String"), (.object "java/lang/String"), .long, .long, .long], returnType := none }, accessFlags := 0, code := some k2c0 }
def k2c1 : Code := { maxStack := 4, maxLocals := 3, code := prog_1_method_7_code, exceptionTable := #[], attributes := #[] }
def k2m1 : Method := { name := "isDue", desc := "(J)Z", sig := { parameters := [.long], returnType := some .boolean }, accessFlags := 0, code := some k2c1 }
/-- com/example/airtight_latch/airtightlatch/Grant -/
def k2 : Class := { plain "com/example/airtight_latch/airtightlatch/Grant" (some 0) with
  accessFlags := 48
  interfaces := #[]
  cf := some (fileOf pool2 8 #[] #[{ accessFlags := 0, nameIndex := 5, descriptorIndex := 44, attributes := #[] }, { accessFlags := 0, nameIndex := 52, descriptorIndex := 53, attributes := #[] }] 48 2 #[] #[{ accessFlags := 18, nameIndex := 15, descriptorIndex := 16, attributes := #[] }, { accessFlags := 18, nameIndex := 19, descriptorIndex := 16, attributes := #[] }, { accessFlags := 18, nameIndex := 22, descriptorIndex := 23, attributes := #[] }, { accessFlags := 18, nameIndex := 11, descriptorIndex := 12, attributes := #[] }, { accessFlags := 2, nameIndex := 32, descriptorIndex := 33, attributes := #[] }, { accessFlags := 2, nameIndex := 29, descriptorIndex := 23, attributes := #[] }, { accessFlags := 66, nameIndex := 26, descriptorIndex := 23, attributes := #[] }])
  fields := #[{ name := "name", type := (.object "java/lang/String"), accessFlags := 18, slot := 0, constantValue := 0 }, { name := "holder", type := (.object "java/lang/String"), accessFlags := 18, slot := 1, constantValue := 0 }, { name := "token", type := .long, accessFlags := 18, slot := 2, constantValue := 0 }, { name := "lease", type := (.object "java/lang/Object"), accessFlags := 18, slot := 3, constantValue := 0 }, { name := "ended", type := .boolean, accessFlags := 2, slot := 4, constantValue := 0 }, { name := "lapsesAt", type := .long, accessFlags := 2, slot := 5, constantValue := 0 }, { name := "renewAt", type := .long, accessFlags := 66, slot := 6, constantValue := 0 }]
  methods := #[k2m0, k2m1]
  instanceTypes := #[(.object "java/lang/String"), (.object "java/lang/String"), .long, (.object "java/lang/Object"), .boolean, .long, .long]
  staticTypes := #[]
  resolved := Array.replicate 58 none
  statics := none }

def pool3 : Array CpInfo := pool [(1, .class_ 2), (0, u "java/io/Serializable"), (0, .class_ 4), (0, u "java/lang/Object")] 2

/-- java/io/Serializable -/
def k3 : Class := { plain "java/io/Serializable" (some 0) with
  accessFlags := 1537
  interfaces := #[]
  cf := some (fileOf pool3 1 #[] #[] 1537 3 #[] #[])
  fields := #[]
  methods := #[]
  instanceTypes := #[]
  staticTypes := #[]
  resolved := Array.replicate 7 none
  statics := none }

def pool4 : Array CpInfo := pool [(1, .class_ 2), (0, u "java/lang/Comparable"), (0, .class_ 4), (0, u "java/lang/Object")] 7

/-- java/lang/Comparable -/
def k4 : Class := { plain "java/lang/Comparable" (some 0) with
  accessFlags := 1537
  interfaces := #[]
  cf := some (fileOf pool4 1 #[] #[] 1537 3 #[] #[])
  fields := #[]
  methods := #[]
  instanceTypes := #[]
  staticTypes := #[]
  resolved := Array.replicate 12 none
  statics := none }

def pool5 : Array CpInfo := pool [(2, .class_ 4), (1, u "java/lang/CharSequence"), (42, .class_ 48), (0, u "java/lang/CharSequence$1CodePointIterator"), (10, .class_ 60), (0, u "java/lang/CharSequence$1CharIterator"), (5, .class_ 67), (0, u "java/lang/Object")] 63

/-- java/lang/CharSequence -/
def k5 : Class := { plain "java/lang/CharSequence" (some 0) with
  accessFlags := 1537
  interfaces := #[]
  cf := some (fileOf pool5 2 #[.nestMembers #[47, 59]] #[] 1537 66 #[] #[])
  fields := #[]
  methods := #[]
  instanceTypes := #[]
  staticTypes := #[]
  resolved := Array.replicate 131 none
  statics := none }

def pool6 : Array CpInfo := pool [(1, .class_ 2), (0, u "java/lang/constant/Constable"), (0, .class_ 4), (0, u "java/lang/Object")] 6

/-- java/lang/constant/Constable -/
def k6 : Class := { plain "java/lang/constant/Constable" (some 0) with
  accessFlags := 1537
  interfaces := #[]
  cf := some (fileOf pool6 1 #[] #[] 1537 3 #[] #[])
  fields := #[]
  methods := #[]
  instanceTypes := #[]
  staticTypes := #[]
  resolved := Array.replicate 11 none
  statics := none }

def pool7 : Array CpInfo := pool [(1, .class_ 2), (0, u "java/lang/constant/ConstantDesc"), (0, .class_ 4), (0, u "java/lang/Object")] 32

/-- java/lang/constant/ConstantDesc -/
def k7 : Class := { plain "java/lang/constant/ConstantDesc" (some 0) with
  accessFlags := 1537
  interfaces := #[]
  cf := some (fileOf pool7 1 #[] #[] 1537 3 #[] #[])
  fields := #[]
  methods := #[]
  instanceTypes := #[]
  staticTypes := #[]
  resolved := Array.replicate 37 none
  statics := none }

def pool8 : Array CpInfo := pool [(2, .class_ 4), (1, u "java/lang/Object"), (0, u "<init>"), (0, u "()V"), (3, .class_ 12), (1, u "java/lang/String"), (0, u "value"), (0, u "[B"), (2, u "coder"), (0, u "B"), (2, u "hash"), (0, u "I"), (2, u "hashIsZero"), (0, u "Z"), (13, u "COMPACT_STRINGS"), (534, .class_ 576), (0, u "java/lang/CharSequence"), (22, u "CASE_INSENSITIVE_ORDER"), (0, u "Ljava/util/Comparator;"), (500, u "serialPersistentFields"), (0, u "[Ljava/io/ObjectStreamField;"), (0, .class_ 1104), (0, u "java/lang/String$CaseInsensitiveComparator"), (1, .class_ 1107), (0, u "java/io/Serializable"), (0, .class_ 1109), (0, u "java/lang/Comparable"), (0, .class_ 1111), (0, u "java/lang/constant/Constable"), (0, .class_ 1113), (0, u "java/lang/constant/ConstantDesc"), (2, u "serialVersionUID"), (0, u "J"), (3, u "REPL"), (0, u "C"), (2, u "LATIN1"), (1, u "UTF16")] 323

def k8m0 : Method := { name := "<init>", desc := "()V", sig := { parameters := [], returnType := none }, accessFlags := 1, code := none }
/-- java/lang/String -/
def k8 : Class := { plain "java/lang/String" (some 0) with
  accessFlags := 49
  interfaces := #[3, 4, 5, 6, 7]
  cf := some (fileOf pool8 10 #[.nestMembers #[1103]] #[{ accessFlags := 1, nameIndex := 5, descriptorIndex := 6, attributes := #[] }] 49 2 #[1106, 1108, 575, 1110, 1112] #[{ accessFlags := 18, nameIndex := 13, descriptorIndex := 14, attributes := #[] }, { accessFlags := 18, nameIndex := 17, descriptorIndex := 18, attributes := #[] }, { accessFlags := 2, nameIndex := 21, descriptorIndex := 22, attributes := #[] }, { accessFlags := 2, nameIndex := 25, descriptorIndex := 26, attributes := #[] }, { accessFlags := 26, nameIndex := 1116, descriptorIndex := 1117, attributes := #[] }, { accessFlags := 24, nameIndex := 40, descriptorIndex := 26, attributes := #[] }, { accessFlags := 26, nameIndex := 1101, descriptorIndex := 1102, attributes := #[] }, { accessFlags := 26, nameIndex := 1121, descriptorIndex := 1122, attributes := #[] }, { accessFlags := 25, nameIndex := 599, descriptorIndex := 600, attributes := #[] }, { accessFlags := 24, nameIndex := 1125, descriptorIndex := 18, attributes := #[] }, { accessFlags := 24, nameIndex := 1127, descriptorIndex := 18, attributes := #[] }])
  fields := #[{ name := "value", type := (.array .byte), accessFlags := 18, slot := 0, constantValue := 0 }, { name := "coder", type := .byte, accessFlags := 18, slot := 1, constantValue := 0 }, { name := "hash", type := .int, accessFlags := 2, slot := 2, constantValue := 0 }, { name := "hashIsZero", type := .boolean, accessFlags := 2, slot := 3, constantValue := 0 }, { name := "serialVersionUID", type := .long, accessFlags := 26, slot := 0, constantValue := 0 }, { name := "COMPACT_STRINGS", type := .boolean, accessFlags := 24, slot := 1, constantValue := 0 }, { name := "serialPersistentFields", type := (.array (.object "java/io/ObjectStreamField")), accessFlags := 26, slot := 2, constantValue := 0 }, { name := "REPL", type := .char, accessFlags := 26, slot := 3, constantValue := 0 }, { name := "CASE_INSENSITIVE_ORDER", type := (.object "java/util/Comparator"), accessFlags := 25, slot := 4, constantValue := 0 }, { name := "LATIN1", type := .byte, accessFlags := 24, slot := 5, constantValue := 0 }, { name := "UTF16", type := .byte, accessFlags := 24, slot := 6, constantValue := 0 }]
  methods := #[k8m0]
  instanceTypes := #[(.array .byte), .byte, .int, .boolean]
  staticTypes := #[.long, .boolean, (.array (.object "java/io/ObjectStreamField")), .char, (.object "java/util/Comparator"), .byte, .byte]
  resolved := Array.replicate 1451 none
  statics := none }

def pool9 : Array CpInfo := pool [(1, u "java/lang/Cloneable"), (0, .class_ 1), (0, u "java/lang/Object"), (0, .class_ 3)] 3

/-- java/lang/Cloneable -/
def k9 : Class := { plain "java/lang/Cloneable" (some 0) with
  accessFlags := 1537
  interfaces := #[]
  cf := some (fileOf pool9 2 #[] #[] 1537 4 #[] #[])
  fields := #[]
  methods := #[]
  instanceTypes := #[]
  staticTypes := #[]
  resolved := Array.replicate 8 none
  statics := none }

/-- the primitive byte -/
def k10 : Class := { plain "byte" none with kind := .primitive 'B', accessFlags := 0x411 }
/-- [B -/
def k11 : Class := { plain "[B" (some 0) with kind := .array 10 .byte, interfaces := #[9, 3], accessFlags := 1041 }

def heap : Heap := #[]
def classes : Array Class := #[k0, k1, k2, k3, k4, k5, k6, k7, k8, k9, k10, k11]
def interned : List (Array UInt16 × Addr) := []
def slotsUsed : Nat := 0
def theMethod : MethodId := ⟨1, 1⟩
def args0 : Array Value := #[.long 5, .long 7, .long 1, .long 9]
def aboutOver (below : List Frame) : State where
  vm := { classes := classes, interned := interned.toArray }
  heap := heap
  slotsUsed := slotsUsed
  threads := #[{ frames := .invoking theMethod args0 :: below }]
def below0 : List Frame := [.native { method := ⟨0, 0⟩, args := #[] }]
def about1 : State := aboutOver below0
def p0 : Program := .bare "" "" ""
def e0 : Env := launch0.env 0 0 0
theorem w_frames : about1.frames = Frame.invoking theMethod args0 :: below0 := rfl
set_option maxRecDepth 65536 in
theorem w_args : argsFit about1.vm theMethod args0 = true := by decide +kernel
set_option maxRecDepth 65536 in
theorem w_heap : heapFits about1 = true := by decide +kernel
set_option maxRecDepth 65536 in
theorem w_runnable : about1.curStatus? = some .runnable := by decide +kernel
set_option maxRecDepth 65536 in
theorem w_alone : about1.alone = true := by decide +kernel
set_option maxRecDepth 65536 in
theorem w_named : about1.methodNamed? x = some theMethod := by decide +kernel
set_option maxRecDepth 65536 in
theorem w_hears : about1.hears theMethod below0 = true := by decide +kernel
set_option maxRecDepth 65536 in
theorem w_ripe : about1.ripe theMethod args0 below0 = true := by decide +kernel
theorem w_running : about1.status = .running := rfl
set_option maxRecDepth 65536 in
theorem w_room : about1.hasRoom e0.platform room_1 = true :=
  launch0.hasRoom_least _ room_1 (by decide +kernel) (by decide +kernel) (by decide +kernel) (by decide +kernel) (by decide +kernel) (by decide +kernel)
theorem allAtoms_all (ts : List Jvm.Cond) (a : Array Jvm.Value) (st : Jvm.State) : (allAtoms ts).before a st = ts.all (fun c => c.before a st) := by
  induction ts with
  | nil => rfl
  | cons c t ih =>
    show (Jvm.Cond.and c (allAtoms t)).before a st = _
    rw [Jvm.Cond.before_and, ih, List.all_cons]
def words1 : List Jvm.Cond := Jvm.Cond.code x code maxLocals ret :: tables_1
/-- a 'code' word, met by the world's own term for the bytes: nothing is compared byte by byte -/
theorem code_word {y : MethodName} {bytes : ByteArray} {mx : Nat} {rt : Option FieldType} {a : Array Value} {s : State} {m : MethodId} {meth : Method} {c : Code} (h1 : s.methodNamed? y = some m) (h2 : s.vm.method? m = some meth) (h3 : meth.code = some c) (h4 : c.code = bytes)
    (h5 : (c.maxLocals == mx && c.exceptionTable.isEmpty && decide (c.maxStack ≤ mostOperands) && decide (meth.sig.returnType = rt) && !meth.locks && decide (parseMethodDescriptor y.desc = some meth.sig)) = true) : (Jvm.Cond.code y bytes mx rt).before a s = true := by
  simp only [Bool.and_eq_true, beq_iff_eq, Bool.not_eq_true', decide_eq_true_eq] at h5
  obtain ⟨⟨⟨⟨⟨g1, g2⟩, g3⟩, g4⟩, g5⟩, g6⟩ := h5
  simp [Cond.before, Cond.holds, Cond.value, h1, h2, h3, h4, g1, g2, g3, g4, g5, g6]
def isCode : Jvm.Cond → Bool
  | .code _ _ _ _ => true
  | _ => false
theorem all_split {L : List Jvm.Cond} {P : Jvm.Cond → Bool} (h1 : L.all (fun c => isCode c || P c) = true) (h2 : ∀ c ∈ L.filter isCode, P c = true) : L.all P = true := by
  refine List.all_eq_true.mpr fun c hc => ?_
  have h := List.all_eq_true.mp h1 c hc
  rcases Bool.eq_false_or_eq_true (isCode c) with hi | hi
  · exact h2 c (List.mem_filter.mpr ⟨hc, hi⟩)
  · simpa [hi] using h
set_option maxRecDepth 65536 in
theorem w_c0 : (Jvm.Cond.code x code maxLocals ret).before args0 about1 = true := code_word (m := ⟨1, 1⟩) (meth := k1m1) (c := k1c1) (by decide +kernel) rfl rfl rfl (by decide +kernel)
set_option maxRecDepth 65536 in
theorem w_c1 : (Jvm.Cond.code ({ cls := "com/example/airtight_latch/airtightlatch/Grant", name := "<init>", desc := "(Ljava/lang/String;Ljava/lang/String;JJJ)V" } : Jvm.MethodName) prog_1_method_1_code (9 : Nat) (Option.none : Option Jvm.ClassFile.FieldType)).before args0 about1 = true := code_word (m := ⟨2, 0⟩) (meth := k2m0) (c := k2c0) (by decide +kernel) rfl rfl rfl (by decide +kernel)
set_option maxRecDepth 65536 in
theorem w_c2 : (Jvm.Cond.code ({ cls := "java/lang/Object", name := "<init>", desc := "()V" } : Jvm.MethodName) object_method_1_code (1 : Nat) (Option.none : Option Jvm.ClassFile.FieldType)).before args0 about1 = true := code_word (m := ⟨0, 0⟩) (meth := k0m0) (c := k0c0) (by decide +kernel) rfl rfl rfl (by decide +kernel)
set_option maxRecDepth 65536 in
theorem w_c3 : (Jvm.Cond.code ({ cls := "com/example/airtight_latch/airtightlatch/Grant", name := "isDue", desc := "(J)Z" } : Jvm.MethodName) prog_1_method_7_code (3 : Nat) (Option.some Jvm.ClassFile.FieldType.boolean)).before args0 about1 = true := code_word (m := ⟨2, 1⟩) (meth := k2m1) (c := k2c1) (by decide +kernel) rfl rfl rfl (by decide +kernel)
def codes1 : List Jvm.Cond := [Jvm.Cond.code x code maxLocals ret, Jvm.Cond.code ({ cls := "com/example/airtight_latch/airtightlatch/Grant", name := "<init>", desc := "(Ljava/lang/String;Ljava/lang/String;JJJ)V" } : Jvm.MethodName) prog_1_method_1_code (9 : Nat) (Option.none : Option Jvm.ClassFile.FieldType), Jvm.Cond.code ({ cls := "java/lang/Object", name := "<init>", desc := "()V" } : Jvm.MethodName) object_method_1_code (1 : Nat) (Option.none : Option Jvm.ClassFile.FieldType), Jvm.Cond.code ({ cls := "com/example/airtight_latch/airtightlatch/Grant", name := "isDue", desc := "(J)Z" } : Jvm.MethodName) prog_1_method_7_code (3 : Nat) (Option.some Jvm.ClassFile.FieldType.boolean)]
set_option maxRecDepth 65536 in
theorem codes_eq : words1.filter isCode = codes1 := rfl
theorem w_codes : ∀ c ∈ words1.filter isCode, c.before args0 about1 = true := by
  rw [codes_eq]
  intro c hc
  simp only [codes1, List.mem_cons, List.not_mem_nil, or_false] at hc
  rcases hc with rfl | rfl | rfl | rfl
  · exact w_c0
  · exact w_c1
  · exact w_c2
  · exact w_c3
set_option maxRecDepth 65536 in
theorem w_t1 : (words1.take 24).all (fun c => isCode c || c.before args0 about1) = true := by decide +kernel
set_option maxRecDepth 65536 in
theorem w_t2 : (words1.drop 24).all (fun c => isCode c || c.before args0 about1) = true := by decide +kernel
theorem w_tables : (allAtoms (Jvm.Cond.code x code maxLocals ret :: tables_1)).before args0 about1 = true := by
  rw [allAtoms_all]
  show words1.all (fun c => c.before args0 about1) = true
  refine all_split ?_ w_codes
  rw [← List.take_append_drop 24 words1, List.all_append, w_t1, w_t2]
  rfl
set_option maxRecDepth 65536 in
theorem w_case : (Jvm.Cond.and given_1 narrow_1).before args0 about1 = true := by decide +kernel
theorem w_applies : (headSpec (Jvm.Cond.code x code maxLocals ret :: tables_1) room_1).applies x e0.platform about1 = true :=
  (Spec.applies_iff w_frames).mpr ⟨w_running, w_runnable, w_alone, w_named, w_hears, w_ripe, w_room, w_tables⟩
theorem atStart : AtStart classFile x code maxLocals ret World_1 tables_1 room_1 Calls_1 rest_1 Pre_1 launch0 p0 e0 about1 theMethod args0 below0 :=
  ⟨lists_1, trivial, launch0.admits_env _ _ _, launch0.least_env, fairChoices_fair.cas, fairChoices_fair.clock, w_frames, w_args, w_heap, w_applies, trivial, trivial, w_case⟩
end start1
theorem witness_1 : WitnessClaimed_1 := ⟨start1.p0, start1.e0, start1.about1, start1.theMethod, start1.args0, start1.below0, start1.atStart⟩
end Jvm.Pilot.@@N@@
