import JvmDerived
import JvmDerived.Pilot.@@N@@Statement
import JvmDerived.Pilot.@@N@@Code
set_option linter.unusedVariables false
set_option linter.unusedSimpArgs false

namespace Jvm.Pilot.@@N@@
open Jvm Jvm.ClassFile Sem Op Lib Jvm.Free Jvm.Stand Jvm.LawKit Jvm.RoadKit Bundle Jvm.Pilot.@@N@@.Jvm.D

def own_end (a : Int64) (b : Int32) (c : Int64) : Int32 := if a = 0 ∧ b = 0 ∧ c = 0 then 1 else 0
theorem own_yes {a : Int64} {b : Int32} {c : Int64} (h1 : a = 0) (h2 : b = 0) (h3 : c = 0) : own_end a b c = 1 := if_pos ⟨h1, h2, h3⟩
theorem own_no {a : Int64} {b : Int32} {c : Int64} (h : ¬ (a = 0 ∧ b = 0 ∧ c = 0)) : own_end a b c = 0 := if_neg h
theorem own_or0 {a b : Int64} : (a ||| b) = 0 ↔ a = 0 ∧ b = 0 := by
  constructor
  · intro h
    have q : a.toBitVec ||| b.toBitVec = 0#64 := by rw [← Int64.toBitVec_or, h]; rfl
    have q1 : a.toBitVec = 0#64 := by
      apply BitVec.eq_of_getLsbD_eq
      intro i hi
      have t := congrArg (fun z => z.getLsbD i) q
      simp only [BitVec.getLsbD_or, BitVec.getLsbD_zero, Bool.or_eq_false_iff] at t
      simp [t.1]
    have q2 : b.toBitVec = 0#64 := by
      apply BitVec.eq_of_getLsbD_eq
      intro i hi
      have t := congrArg (fun z => z.getLsbD i) q
      simp only [BitVec.getLsbD_or, BitVec.getLsbD_zero, Bool.or_eq_false_iff] at t
      simp [t.2]
    exact ⟨Int64.toBitVec_inj.mp q1, Int64.toBitVec_inj.mp q2⟩
  · rintro ⟨rfl, rfl⟩; rfl
theorem own_i2l {b : Int32} : b.toInt64 = 0 ↔ b = 0 := by
  rw [← Int64.toInt_inj, ← Int32.toInt_inj, Int32.toInt_toInt64]
  exact Iff.rfl
theorem own_all {a : Int64} {b : Int32} {c : Int64} : (a ||| b.toInt64 ||| c) = 0 ↔ (a = 0 ∧ b = 0 ∧ c = 0) := by
  rw [own_or0, own_or0, own_i2l, and_assoc]
theorem d2_0 : decode jdk_30_method_1_code 0 = .ok (.aload_n 0, 1) := by decide +kernel
theorem d2_1 : decode jdk_30_method_1_code 1 = .ok (.invokespecial 1, 3) := by decide +kernel
theorem d2_4 : decode jdk_30_method_1_code 4 = .ok (.return_, 1) := by decide +kernel
theorem pn_2 : plainName "java/lang/Record" = true := by first | (simp [plainName, overriddenIn]; done) | decide +kernel
theorem ef_2 (m : MethodId) (x0 : Addr) : entryFrame m #[(.ref x0)] 1 = mkF m 0 #[.val (.ref x0)] [] := by first | (simp [entryFrame, mkF, argsToLocals, Value.category]; done) | rfl
def Q2 (Z : State) (a1 : Addr) (h0 : Heap) (n0 : Nat) (v : Option Value) (h : Heap) (L : List Loc) : Prop := v = none ∧ Fr n0 L ∧ h = h0
set_option maxRecDepth 65536 in
set_option maxHeartbeats 40000000 in
theorem rm2 (l : Launch) (Z : State) (a0 : Array Value) (hw : ∀ d ∈ tables_1, d.before a0 Z = true) (ws : List Jvm.Cond) (a1 : Addr) (h0 : Heap) (n0 : Nat) (Z0 : n0 ≤ h0.size) :
    MetFree l (⟨"java/lang/Record", "<init>", "()V"⟩ : MethodName) (head1 (Jvm.Cond.code (⟨"java/lang/Record", "<init>", "()V"⟩ : MethodName) jdk_30_method_1_code 1 none :: ws) ({ frames := 1, cells := 0, slots := 0, locals := 12 } : Room)) (fun a U => a = #[(.ref a1)] ∧ Z.Warmed39 U.vm ∧ U.heap = h0) (fun _ _ _ _ _ => True) (fun _ U o U' => ∃ v L, o = .returned v ∧ Q2 Z a1 h0 n0 v U'.heap L ∧ FrameEnd U o U' L ({ frames := 1, cells := 0, slots := 0, locals := 12 } : Room).cells ({ frames := 1, cells := 0, slots := 0, locals := 12 } : Room).slots) := by
  refine MetFree.of_bodySF (plainFor_of_name pn_2) hisR ?_
  intro p e s m args below meth c s₁ Bd hml0 hP hK
  obtain ⟨rfl, hZ, hh⟩ := hP
  have hx := Bd.exec
  have hby := Bd.bytes
  have hml : c.maxLocals = 1 := hml0
  have hown : s.vm.findClass "java/lang/Record" = some m.cls := findClass_of_methodNamed Bd.named
  have hnm := (name_of_methodNamed Bd.named Bd.method).1
  have X0 : Stand p l e ({ frames := 1, cells := 0, slots := 0, locals := 12 } : Room) s m #[(.ref a1)] below meth c s₁ [] 0 0 := Stand.of_body Bd
  have e0 : s₁.heap = h0 := by rw [← hh, Bd.state]; rfl
  have N0 := Fr.nil n0
  have pre0 : ∀ t, Steps p.tables e below (s₁.setTop (mkF m 0 #[.val (.ref a1)] [])) t → Steps p.tables e below (s₁.setTop (entryFrame m #[(.ref a1)] 1)) t := fun t k => castTop (ef_2 m a1) k
  obtain ⟨T1, X1, e1, st1⟩ := initO X0 hx hZ hown (hw _ (List.mem_of_getElem? (i := 11) rfl)) (hw _ (List.mem_of_getElem? (i := 12) rfl)) (hw _ (List.mem_of_getElem? (i := 13) rfl)) e0 (g := (mkF m 1 #[.val (.ref a1)] [(.ref a1)])) rfl (by rw [hml]; rfl) rfl (hb hby d2_1) (by decide) (W := 0) (by show 2 * 0 + _ ≤ _; exact Nat.le_of_eq rfl) (by decide)
  obtain ⟨fs, hr, hrun, hended, hW, hsame⟩ := X1.leave (v := none) (fun _ => rfl)
  refine ⟨_, _, pre0 _ ?_, hrun, hended, _, _, rfl, ?_, ⟨_, rfl⟩, hW, hsame.mono (by decide) (by decide)⟩
  · show Steps p.tables e below (s₁.setTop (mkF m 0 #[.val (.ref a1)] [])) _
    refine XS.aloadN X0.here hx rfl (hb hby d2_0) rfl rfl ?_
    show Steps p.tables e below (s₁.setTop (mkF m 1 #[.val (.ref a1)] [(.ref a1)])) _
    refine st1 _ ?_
    show Steps p.tables e below (T1.setTop (mkF m 4 #[.val (.ref a1)] [])) _
    exact X1.returnOut hx Bd.returns (hb hby d2_4) hr
  · show Q2 Z a1 h0 n0 _ T1.heap _
    rw [e1]
    exact ⟨rfl, N0, rfl⟩
theorem d1_0 : decode prog_3_method_1_code 0 = .ok (.aload_n 0, 1) := by decide +kernel
theorem d1_1 : decode prog_3_method_1_code 1 = .ok (.invokespecial 1, 3) := by decide +kernel
theorem d1_4 : decode prog_3_method_1_code 4 = .ok (.aload_n 0, 1) := by decide +kernel
theorem d1_5 : decode prog_3_method_1_code 5 = .ok (.lload_n 1, 1) := by decide +kernel
theorem d1_6 : decode prog_3_method_1_code 6 = .ok (.putfield 7, 3) := by decide +kernel
theorem d1_9 : decode prog_3_method_1_code 9 = .ok (.aload_n 0, 1) := by decide +kernel
theorem d1_10 : decode prog_3_method_1_code 10 = .ok (.iload_n 3, 1) := by decide +kernel
theorem d1_11 : decode prog_3_method_1_code 11 = .ok (.putfield 13, 3) := by decide +kernel
theorem d1_14 : decode prog_3_method_1_code 14 = .ok (.aload_n 0, 1) := by decide +kernel
theorem d1_15 : decode prog_3_method_1_code 15 = .ok (.lload 4, 2) := by decide +kernel
theorem d1_17 : decode prog_3_method_1_code 17 = .ok (.putfield 17, 3) := by decide +kernel
theorem d1_20 : decode prog_3_method_1_code 20 = .ok (.return_, 1) := by decide +kernel
theorem pd_4 : parseMethodDescriptor "()V" = some ⟨[], none⟩ := by decide +kernel
theorem pn_1 : plainName "com/example/stratalog/stratalog/io/ConsumeQueueEntry" = true := by first | (simp [plainName, overriddenIn]; done) | decide +kernel
theorem ef_1 (m : MethodId) (x0 : Addr) (x1 : Int64) (x2 : Int32) (x3 : Int64) : entryFrame m #[(.ref x0), (.long x1), (.int x2), (.long x3)] 6 = mkF m 0 #[.val (.ref x0), .val (.long x1), .second, .val (.int x2), .val (.long x3), .second] [] := by first | (simp [entryFrame, mkF, argsToLocals, Value.category]; done) | rfl
def Q1 (Z : State) (a1 : Addr) (q1 : Int64) (p1 : Int32) (q2 : Int64) (h0 : Heap) (n0 : Nat) (v : Option Value) (h : Heap) (L : List Loc) : Prop := v = none ∧ Fr n0 L ∧ Keep h0 h [a1] ∧ Exa Z h a1 "com/example/stratalog/stratalog/io/ConsumeQueueEntry" ∧ Fld Z h a1 "com/example/stratalog/stratalog/io/ConsumeQueueEntry" "physicalOffset" "J" (.long q1) ∧ Fld Z h a1 "com/example/stratalog/stratalog/io/ConsumeQueueEntry" "size" "I" (.int p1) ∧ Fld Z h a1 "com/example/stratalog/stratalog/io/ConsumeQueueEntry" "tagCode" "J" (.long q2)
set_option maxRecDepth 65536 in
set_option maxHeartbeats 40000000 in
theorem rm1 (l : Launch) (Z : State) (a0 : Array Value) (hw : ∀ d ∈ tables_1, d.before a0 Z = true) (ws : List Jvm.Cond) (a1 : Addr) (q1 : Int64) (p1 : Int32) (q2 : Int64) (h0 : Heap) (n0 : Nat) (Z0 : n0 ≤ h0.size) (F0 : Fld Z h0 a1 "com/example/stratalog/stratalog/io/ConsumeQueueEntry" "physicalOffset" "J" (.long (0 : Int64))) (F1 : Fld Z h0 a1 "com/example/stratalog/stratalog/io/ConsumeQueueEntry" "size" "I" (.int (0 : Int32))) (F2 : Fld Z h0 a1 "com/example/stratalog/stratalog/io/ConsumeQueueEntry" "tagCode" "J" (.long (0 : Int64))) (EX : Exa Z h0 a1 "com/example/stratalog/stratalog/io/ConsumeQueueEntry") (g_a1 : n0 ≤ a1) :
    MetFree l (⟨"com/example/stratalog/stratalog/io/ConsumeQueueEntry", "<init>", "(JIJ)V"⟩ : MethodName) (head1 (Jvm.Cond.code (⟨"com/example/stratalog/stratalog/io/ConsumeQueueEntry", "<init>", "(JIJ)V"⟩ : MethodName) prog_3_method_1_code 6 none :: ws) ({ frames := 2, cells := 0, slots := 0, locals := 24 } : Room)) (fun a U => a = #[(.ref a1), (.long q1), (.int p1), (.long q2)] ∧ Z.Warmed39 U.vm ∧ U.heap = h0) (fun _ _ _ _ _ => True) (fun _ U o U' => ∃ v L, o = .returned v ∧ Q1 Z a1 q1 p1 q2 h0 n0 v U'.heap L ∧ FrameEnd U o U' L ({ frames := 2, cells := 0, slots := 0, locals := 24 } : Room).cells ({ frames := 2, cells := 0, slots := 0, locals := 24 } : Room).slots) := by
  refine MetFree.of_bodySF (plainFor_of_name pn_1) hisR ?_
  intro p e s m args below meth c s₁ Bd hml0 hP hK
  obtain ⟨rfl, hZ, hh⟩ := hP
  have hx := Bd.exec
  have hby := Bd.bytes
  have hml : c.maxLocals = 6 := hml0
  have hown : s.vm.findClass "com/example/stratalog/stratalog/io/ConsumeQueueEntry" = some m.cls := findClass_of_methodNamed Bd.named
  have hnm := (name_of_methodNamed Bd.named Bd.method).1
  have X0 : Stand p l e ({ frames := 2, cells := 0, slots := 0, locals := 24 } : Room) s m #[(.ref a1), (.long q1), (.int p1), (.long q2)] below meth c s₁ [] 0 0 := Stand.of_body Bd
  have e0 : s₁.heap = h0 := by rw [← hh, Bd.state]; rfl
  have N0 := Fr.nil n0
  have pre0 : ∀ t, Steps p.tables e below (s₁.setTop (mkF m 0 #[.val (.ref a1), .val (.long q1), .second, .val (.int p1), .val (.long q2), .second] [])) t → Steps p.tables e below (s₁.setTop (entryFrame m #[(.ref a1), (.long q1), (.int p1), (.long q2)] 6)) t := fun t k => castTop (ef_1 m a1 q1 p1 q2) k
  obtain ⟨_, _, ⟨T1, L1, k1, n1⟩, -, X1, ⟨Lc1, hQ1, l1, y1, z1⟩, st1⟩ := X0.specialBack hx (y := (⟨"java/lang/Record", "<init>", "()V"⟩ : MethodName)) rfl hown (mvT hZ (hw _ (List.mem_of_getElem? (i := 6) rfl))) (mvT hZ (hw _ (List.mem_of_getElem? (i := 7) rfl))) (mvT hZ (hw _ (List.mem_of_getElem? (i := 10) rfl))) (by decide) (backOf (W := 0) (rm2 l Z a0 hw [] a1 h0 n0 Z0) hZ (hw _ (List.mem_of_getElem? (i := 10) rfl)) (hw _ (List.mem_of_getElem? (i := 9) rfl)) (by decide) (by decide)) (g := (mkF m 1 #[.val (.ref a1), .val (.long q1), .second, .val (.int p1), .val (.long q2), .second] [(.ref a1)])) rfl (by rw [hml]; rfl) (Steps.refl _) (a := a1) (argsL := []) (rest := []) (lenOf pd_4 rfl) rfl (by show 2 * 0 + _ ≤ _; exact Nat.le_of_eq rfl) (hb hby d1_1) (fun _ _ => ⟨rfl, e0, (by decide : 0 + 0 ≤ _), (by decide : 0 + 0 ≤ _)⟩)
  dsimp only [Pt.U, Pt.locs, Pt.cells, Pt.slots] at X1 l1 y1 z1 st1 hQ1
  subst l1 y1 z1
  obtain ⟨rfl, N1q, e1⟩ := hQ1
  have N1 := Fr.app N0 N1q
  obtain ⟨T2, h2, X2, e2, W2, st2⟩ := putF X1 hx hZ hown (host := "") (Or.inl (hw _ (List.mem_of_getElem? (i := 14) rfl))) Via.refl e1 F0 EX (Or.inr ⟨(hw _ (List.mem_of_getElem? (i := 15) rfl)), rfl, hnm⟩) (hw _ (List.mem_of_getElem? (i := 1) rfl)) (ty := .long) (by decide) rfl rfl (g := (mkF m 6 #[.val (.ref a1), .val (.long q1), .second, .val (.int p1), .val (.long q2), .second] [(.long q1), (.ref a1)])) rfl rfl (hb hby d1_6)
  have f3 : Fld Z h2 a1 "com/example/stratalog/stratalog/io/ConsumeQueueEntry" "physicalOffset" "J" (.long q1) := F0.same W2
  have f4 : Fld Z h2 a1 "com/example/stratalog/stratalog/io/ConsumeQueueEntry" "size" "I" (.int (0 : Int32)) := F1.other W2 (Or.inr (slot_ne (Or.inr (hw _ (List.mem_of_getElem? (i := 17) rfl))) (Or.inr (hw _ (List.mem_of_getElem? (i := 15) rfl))) (by decide) (t := .int) (t' := .long) (by decide) (by decide)))
  have f5 : Fld Z h2 a1 "com/example/stratalog/stratalog/io/ConsumeQueueEntry" "tagCode" "J" (.long (0 : Int64)) := F2.other W2 (Or.inr (slot_ne (Or.inr (hw _ (List.mem_of_getElem? (i := 19) rfl))) (Or.inr (hw _ (List.mem_of_getElem? (i := 15) rfl))) (by decide) (t := .long) (t' := .long) (by decide) (by decide)))
  have f6 : Exa Z h2 a1 "com/example/stratalog/stratalog/io/ConsumeQueueEntry" := EX.wr W2
  have N2 := Fr.snoc X2 N1 g_a1
  have K7 : Keep h0 h2 [a1] := (Keep.refl h0 [a1]).wr W2 (Or.inl (List.mem_of_getElem? (i := 0) rfl))
  have Z8 : n0 ≤ h2.size := Nat.le_trans Z0 (Keep.of_wr W2).1
  obtain ⟨T9, h9, X9, e9, W9, st9⟩ := putF X2 hx hZ hown (host := "") (Or.inl (hw _ (List.mem_of_getElem? (i := 16) rfl))) Via.refl e2 f4 f6 (Or.inr ⟨(hw _ (List.mem_of_getElem? (i := 17) rfl)), rfl, hnm⟩) (hw _ (List.mem_of_getElem? (i := 1) rfl)) (ty := .int) (by decide) rfl rfl (g := (mkF m 11 #[.val (.ref a1), .val (.long q1), .second, .val (.int p1), .val (.long q2), .second] [(.int p1), (.ref a1)])) rfl rfl (hb hby d1_11)
  have f10 : Fld Z h9 a1 "com/example/stratalog/stratalog/io/ConsumeQueueEntry" "physicalOffset" "J" (.long q1) := f3.other W9 (Or.inr (slot_ne (Or.inr (hw _ (List.mem_of_getElem? (i := 15) rfl))) (Or.inr (hw _ (List.mem_of_getElem? (i := 17) rfl))) (by decide) (t := .long) (t' := .int) (by decide) (by decide)))
  have f11 : Fld Z h9 a1 "com/example/stratalog/stratalog/io/ConsumeQueueEntry" "size" "I" (.int p1) := f4.same W9
  have f12 : Fld Z h9 a1 "com/example/stratalog/stratalog/io/ConsumeQueueEntry" "tagCode" "J" (.long (0 : Int64)) := f5.other W9 (Or.inr (slot_ne (Or.inr (hw _ (List.mem_of_getElem? (i := 19) rfl))) (Or.inr (hw _ (List.mem_of_getElem? (i := 17) rfl))) (by decide) (t := .long) (t' := .int) (by decide) (by decide)))
  have f13 : Exa Z h9 a1 "com/example/stratalog/stratalog/io/ConsumeQueueEntry" := f6.wr W9
  have N9 := Fr.snoc X9 N2 g_a1
  have K14 : Keep h0 h9 [a1] := K7.wr W9 (Or.inl (List.mem_of_getElem? (i := 0) rfl))
  have Z15 : n0 ≤ h9.size := Nat.le_trans Z8 (Keep.of_wr W9).1
  obtain ⟨T16, h16, X16, e16, W16, st16⟩ := putF X9 hx hZ hown (host := "") (Or.inl (hw _ (List.mem_of_getElem? (i := 18) rfl))) Via.refl e9 f12 f13 (Or.inr ⟨(hw _ (List.mem_of_getElem? (i := 19) rfl)), rfl, hnm⟩) (hw _ (List.mem_of_getElem? (i := 1) rfl)) (ty := .long) (by decide) rfl rfl (g := (mkF m 17 #[.val (.ref a1), .val (.long q1), .second, .val (.int p1), .val (.long q2), .second] [(.long q2), (.ref a1)])) rfl rfl (hb hby d1_17)
  have f17 : Fld Z h16 a1 "com/example/stratalog/stratalog/io/ConsumeQueueEntry" "physicalOffset" "J" (.long q1) := f10.other W16 (Or.inr (slot_ne (Or.inr (hw _ (List.mem_of_getElem? (i := 15) rfl))) (Or.inr (hw _ (List.mem_of_getElem? (i := 19) rfl))) (by decide) (t := .long) (t' := .long) (by decide) (by decide)))
  have f18 : Fld Z h16 a1 "com/example/stratalog/stratalog/io/ConsumeQueueEntry" "size" "I" (.int p1) := f11.other W16 (Or.inr (slot_ne (Or.inr (hw _ (List.mem_of_getElem? (i := 17) rfl))) (Or.inr (hw _ (List.mem_of_getElem? (i := 19) rfl))) (by decide) (t := .int) (t' := .long) (by decide) (by decide)))
  have f19 : Fld Z h16 a1 "com/example/stratalog/stratalog/io/ConsumeQueueEntry" "tagCode" "J" (.long q2) := f12.same W16
  have f20 : Exa Z h16 a1 "com/example/stratalog/stratalog/io/ConsumeQueueEntry" := f13.wr W16
  have N16 := Fr.snoc X16 N9 g_a1
  have K21 : Keep h0 h16 [a1] := K14.wr W16 (Or.inl (List.mem_of_getElem? (i := 0) rfl))
  have Z22 : n0 ≤ h16.size := Nat.le_trans Z15 (Keep.of_wr W16).1
  obtain ⟨fs, hr, hrun, hended, hW, hsame⟩ := X16.leave (v := none) (fun _ => rfl)
  refine ⟨_, _, pre0 _ ?_, hrun, hended, _, _, rfl, ?_, ⟨_, rfl⟩, hW, hsame.mono (by decide) (by decide)⟩
  · show Steps p.tables e below (s₁.setTop (mkF m 0 #[.val (.ref a1), .val (.long q1), .second, .val (.int p1), .val (.long q2), .second] [])) _
    refine XS.aloadN X0.here hx rfl (hb hby d1_0) rfl rfl ?_
    show Steps p.tables e below (s₁.setTop (mkF m 1 #[.val (.ref a1), .val (.long q1), .second, .val (.int p1), .val (.long q2), .second] [(.ref a1)])) _
    refine st1.trans ?_
    show Steps p.tables e below (T1.setTop (mkF m 4 #[.val (.ref a1), .val (.long q1), .second, .val (.int p1), .val (.long q2), .second] [])) _
    refine XS.aloadN X1.here hx rfl (hb hby d1_4) rfl rfl ?_
    show Steps p.tables e below (T1.setTop (mkF m 5 #[.val (.ref a1), .val (.long q1), .second, .val (.int p1), .val (.long q2), .second] [(.ref a1)])) _
    refine XS.lloadN X1.here hx rfl (hb hby d1_5) rfl ?_
    show Steps p.tables e below (T1.setTop (mkF m 6 #[.val (.ref a1), .val (.long q1), .second, .val (.int p1), .val (.long q2), .second] [(.long q1), (.ref a1)])) _
    refine st2 _ ?_
    show Steps p.tables e below (T2.setTop (mkF m 9 #[.val (.ref a1), .val (.long q1), .second, .val (.int p1), .val (.long q2), .second] [])) _
    refine XS.aloadN X2.here hx rfl (hb hby d1_9) rfl rfl ?_
    show Steps p.tables e below (T2.setTop (mkF m 10 #[.val (.ref a1), .val (.long q1), .second, .val (.int p1), .val (.long q2), .second] [(.ref a1)])) _
    refine XS.iloadN X2.here hx rfl (hb hby d1_10) rfl ?_
    show Steps p.tables e below (T2.setTop (mkF m 11 #[.val (.ref a1), .val (.long q1), .second, .val (.int p1), .val (.long q2), .second] [(.int p1), (.ref a1)])) _
    refine st9 _ ?_
    show Steps p.tables e below (T9.setTop (mkF m 14 #[.val (.ref a1), .val (.long q1), .second, .val (.int p1), .val (.long q2), .second] [])) _
    refine XS.aloadN X9.here hx rfl (hb hby d1_14) rfl rfl ?_
    show Steps p.tables e below (T9.setTop (mkF m 15 #[.val (.ref a1), .val (.long q1), .second, .val (.int p1), .val (.long q2), .second] [(.ref a1)])) _
    refine XS.lload X9.here hx rfl (hb hby d1_15) rfl ?_
    show Steps p.tables e below (T9.setTop (mkF m 17 #[.val (.ref a1), .val (.long q1), .second, .val (.int p1), .val (.long q2), .second] [(.long q2), (.ref a1)])) _
    refine st16 _ ?_
    show Steps p.tables e below (T16.setTop (mkF m 20 #[.val (.ref a1), .val (.long q1), .second, .val (.int p1), .val (.long q2), .second] [])) _
    exact X16.returnOut hx Bd.returns (hb hby d1_20) hr
  · show Q1 Z a1 q1 p1 q2 h0 n0 _ T16.heap _
    rw [e16]
    exact ⟨rfl, N16, K21, f20, f17, f18, f19⟩
theorem d4_0 : decode prog_3_method_5_code 0 = .ok (.aload_n 0, 1) := by decide +kernel
theorem d4_1 : decode prog_3_method_5_code 1 = .ok (.getfield 7, 3) := by decide +kernel
theorem d4_4 : decode prog_3_method_5_code 4 = .ok (.lconst 0, 1) := by decide +kernel
theorem d4_5 : decode prog_3_method_5_code 5 = .ok (.lcmp, 1) := by decide +kernel
theorem d4_6 : decode prog_3_method_5_code 6 = .ok (.ifCond .ne 23, 3) := by decide +kernel
theorem d4_9 : decode prog_3_method_5_code 9 = .ok (.aload_n 0, 1) := by decide +kernel
theorem d4_10 : decode prog_3_method_5_code 10 = .ok (.getfield 13, 3) := by decide +kernel
theorem d4_13 : decode prog_3_method_5_code 13 = .ok (.ifCond .ne 16, 3) := by decide +kernel
theorem d4_16 : decode prog_3_method_5_code 16 = .ok (.aload_n 0, 1) := by decide +kernel
theorem d4_17 : decode prog_3_method_5_code 17 = .ok (.getfield 17, 3) := by decide +kernel
theorem d4_20 : decode prog_3_method_5_code 20 = .ok (.lconst 0, 1) := by decide +kernel
theorem d4_21 : decode prog_3_method_5_code 21 = .ok (.lcmp, 1) := by decide +kernel
theorem d4_22 : decode prog_3_method_5_code 22 = .ok (.ifCond .ne 7, 3) := by decide +kernel
theorem d4_25 : decode prog_3_method_5_code 25 = .ok (.iconst 1, 1) := by decide +kernel
theorem d4_26 : decode prog_3_method_5_code 26 = .ok (.goto 4, 3) := by decide +kernel
theorem d4_29 : decode prog_3_method_5_code 29 = .ok (.iconst 0, 1) := by decide +kernel
theorem d4_30 : decode prog_3_method_5_code 30 = .ok (.ireturn, 1) := by decide +kernel
theorem ef_4 (m : MethodId) (x0 : Addr) : entryFrame m #[(.ref x0)] 1 = mkF m 0 #[.val (.ref x0)] [] := by first | (simp [entryFrame, mkF, argsToLocals, Value.category]; done) | rfl
def Q4 (Z : State) (a1 : Addr) (q1 : Int64) (p1 : Int32) (q2 : Int64) (h0 : Heap) (n0 : Nat) (v : Option Value) (h : Heap) (L : List Loc) : Prop := v = some (.int (own_end q1 p1 q2)) ∧ Fr n0 L ∧ h = h0
set_option maxRecDepth 65536 in
set_option maxHeartbeats 40000000 in
theorem rm4 (l : Launch) (Z : State) (a0 : Array Value) (hw : ∀ d ∈ tables_1, d.before a0 Z = true) (ws : List Jvm.Cond) (a1 : Addr) (q1 : Int64) (p1 : Int32) (q2 : Int64) (h0 : Heap) (n0 : Nat) (Z0 : n0 ≤ h0.size) (F0 : Fld Z h0 a1 "com/example/stratalog/stratalog/io/ConsumeQueueEntry" "physicalOffset" "J" (.long q1)) (F1 : Fld Z h0 a1 "com/example/stratalog/stratalog/io/ConsumeQueueEntry" "size" "I" (.int p1)) (F2 : Fld Z h0 a1 "com/example/stratalog/stratalog/io/ConsumeQueueEntry" "tagCode" "J" (.long q2)) :
    MetFree l (⟨"com/example/stratalog/stratalog/io/ConsumeQueueEntry", "isEnd", "()Z"⟩ : MethodName) (head1 (Jvm.Cond.code (⟨"com/example/stratalog/stratalog/io/ConsumeQueueEntry", "isEnd", "()Z"⟩ : MethodName) prog_3_method_5_code 1 (some .boolean) :: ws) ({ frames := 0, cells := 0, slots := 0, locals := 0 } : Room)) (fun a U => a = #[(.ref a1)] ∧ Z.Warmed39 U.vm ∧ U.heap = h0) (fun _ _ _ _ _ => True) (fun _ U o U' => ∃ v L, o = .returned v ∧ Q4 Z a1 q1 p1 q2 h0 n0 v U'.heap L ∧ FrameEnd U o U' L ({ frames := 0, cells := 0, slots := 0, locals := 0 } : Room).cells ({ frames := 0, cells := 0, slots := 0, locals := 0 } : Room).slots) := by
  refine MetFree.of_bodySF (plainFor_of_name pn_1) hisR ?_
  intro p e s m args below meth c s₁ Bd hml0 hP hK
  obtain ⟨rfl, hZ, hh⟩ := hP
  have hx := Bd.exec
  have hby := Bd.bytes
  have hml : c.maxLocals = 1 := hml0
  have hown : s.vm.findClass "com/example/stratalog/stratalog/io/ConsumeQueueEntry" = some m.cls := findClass_of_methodNamed Bd.named
  have hnm := (name_of_methodNamed Bd.named Bd.method).1
  have X0 : Stand p l e ({ frames := 0, cells := 0, slots := 0, locals := 0 } : Room) s m #[(.ref a1)] below meth c s₁ [] 0 0 := Stand.of_body Bd
  have e0 : s₁.heap = h0 := by rw [← hh, Bd.state]; rfl
  have N0 := Fr.nil n0
  have pre0 : ∀ t, Steps p.tables e below (s₁.setTop (mkF m 0 #[.val (.ref a1)] [])) t → Steps p.tables e below (s₁.setTop (entryFrame m #[(.ref a1)] 1)) t := fun t k => castTop (ef_4 m a1) k
  obtain ⟨T1, X1, e1, st1⟩ := getF X0 hx hZ hown (host := "") (Or.inl (hw _ (List.mem_of_getElem? (i := 14) rfl))) Via.refl e0 F0 (g := (mkF m 1 #[.val (.ref a1)] [(.ref a1)])) rfl rfl (hb hby d4_1)
  by_cases hc6 : q1 = (0 : Int64)
  · obtain ⟨T2, X2, e2, st2⟩ := getF X1 hx hZ hown (host := "") (Or.inl (hw _ (List.mem_of_getElem? (i := 16) rfl))) Via.refl e1 F1 (g := (mkF m 10 #[.val (.ref a1)] [(.ref a1)])) rfl rfl (hb hby d4_10)
    by_cases hc13 : p1 = (0 : Int32)
    · obtain ⟨T3, X3, e3, st3⟩ := getF X2 hx hZ hown (host := "") (Or.inl (hw _ (List.mem_of_getElem? (i := 18) rfl))) Via.refl e2 F2 (g := (mkF m 17 #[.val (.ref a1)] [(.ref a1)])) rfl rfl (hb hby d4_17)
      by_cases hc22 : q2 = (0 : Int64)
      · obtain ⟨fs, hr, hrun, hended, hW, hsame⟩ := X3.leave (v := some (.int (1 : Int32))) (fun h => by rw [Bd.returns] at h; cases h)
        refine ⟨_, _, pre0 _ ?_, hrun, hended, _, _, rfl, ?_, ⟨_, rfl⟩, hW, hsame.mono (by decide) (by decide)⟩
        · show Steps p.tables e below (s₁.setTop (mkF m 0 #[.val (.ref a1)] [])) _
          refine XS.aloadN X0.here hx rfl (hb hby d4_0) rfl rfl ?_
          show Steps p.tables e below (s₁.setTop (mkF m 1 #[.val (.ref a1)] [(.ref a1)])) _
          refine st1 _ ?_
          show Steps p.tables e below (T1.setTop (mkF m 4 #[.val (.ref a1)] [(.long q1)])) _
          refine XS.lconst X1.here hx rfl (hb hby d4_4) ?_
          show Steps p.tables e below (T1.setTop (mkF m 5 #[.val (.ref a1)] [(.long (0 : Int64)), (.long q1)])) _
          refine XS.lcmp X1.here hx rfl (hb hby d4_5) rfl ?_
          show Steps p.tables e below (T1.setTop (mkF m 6 #[.val (.ref a1)] [(.int (lcmpW q1 (0 : Int64)))])) _
          refine XS.ifNo X1.here hx rfl (hb hby d4_6) rfl ((if0 _ _).trans (teq ((lw_eq _ _).mpr hc6)).2) ?_
          show Steps p.tables e below (T1.setTop (mkF m 9 #[.val (.ref a1)] [])) _
          refine XS.aloadN X1.here hx rfl (hb hby d4_9) rfl rfl ?_
          show Steps p.tables e below (T1.setTop (mkF m 10 #[.val (.ref a1)] [(.ref a1)])) _
          refine st2 _ ?_
          show Steps p.tables e below (T2.setTop (mkF m 13 #[.val (.ref a1)] [(.int p1)])) _
          refine XS.ifNo X2.here hx rfl (hb hby d4_13) rfl ((if0 _ _).trans (teq hc13).2) ?_
          show Steps p.tables e below (T2.setTop (mkF m 16 #[.val (.ref a1)] [])) _
          refine XS.aloadN X2.here hx rfl (hb hby d4_16) rfl rfl ?_
          show Steps p.tables e below (T2.setTop (mkF m 17 #[.val (.ref a1)] [(.ref a1)])) _
          refine st3 _ ?_
          show Steps p.tables e below (T3.setTop (mkF m 20 #[.val (.ref a1)] [(.long q2)])) _
          refine XS.lconst X3.here hx rfl (hb hby d4_20) ?_
          show Steps p.tables e below (T3.setTop (mkF m 21 #[.val (.ref a1)] [(.long (0 : Int64)), (.long q2)])) _
          refine XS.lcmp X3.here hx rfl (hb hby d4_21) rfl ?_
          show Steps p.tables e below (T3.setTop (mkF m 22 #[.val (.ref a1)] [(.int (lcmpW q2 (0 : Int64)))])) _
          refine XS.ifNo X3.here hx rfl (hb hby d4_22) rfl ((if0 _ _).trans (teq ((lw_eq _ _).mpr hc22)).2) ?_
          show Steps p.tables e below (T3.setTop (mkF m 25 #[.val (.ref a1)] [])) _
          refine XS.iconst X3.here hx rfl (hb hby d4_25) ?_
          show Steps p.tables e below (T3.setTop (mkF m 26 #[.val (.ref a1)] [(.int (1 : Int32))])) _
          refine XS.goto X3.here hx rfl (pc0 := 26) (pc' := 30) rfl (hb hby d4_26) (by decide) (by decide) ?_
          show Steps p.tables e below (T3.setTop (mkF m 30 #[.val (.ref a1)] [(.int (1 : Int32))])) _
          exact retN X3 hx (t := .boolean) Bd.returns (by simp) (hb hby d4_30) hr
        · show Q4 Z a1 q1 p1 q2 h0 n0 _ T3.heap _
          rw [e3]
          exact ⟨by rw [own_yes hc6 hc13 hc22], N0, rfl⟩
      · obtain ⟨fs, hr, hrun, hended, hW, hsame⟩ := X3.leave (v := some (.int (0 : Int32))) (fun h => by rw [Bd.returns] at h; cases h)
        refine ⟨_, _, pre0 _ ?_, hrun, hended, _, _, rfl, ?_, ⟨_, rfl⟩, hW, hsame.mono (by decide) (by decide)⟩
        · show Steps p.tables e below (s₁.setTop (mkF m 0 #[.val (.ref a1)] [])) _
          refine XS.aloadN X0.here hx rfl (hb hby d4_0) rfl rfl ?_
          show Steps p.tables e below (s₁.setTop (mkF m 1 #[.val (.ref a1)] [(.ref a1)])) _
          refine st1 _ ?_
          show Steps p.tables e below (T1.setTop (mkF m 4 #[.val (.ref a1)] [(.long q1)])) _
          refine XS.lconst X1.here hx rfl (hb hby d4_4) ?_
          show Steps p.tables e below (T1.setTop (mkF m 5 #[.val (.ref a1)] [(.long (0 : Int64)), (.long q1)])) _
          refine XS.lcmp X1.here hx rfl (hb hby d4_5) rfl ?_
          show Steps p.tables e below (T1.setTop (mkF m 6 #[.val (.ref a1)] [(.int (lcmpW q1 (0 : Int64)))])) _
          refine XS.ifNo X1.here hx rfl (hb hby d4_6) rfl ((if0 _ _).trans (teq ((lw_eq _ _).mpr hc6)).2) ?_
          show Steps p.tables e below (T1.setTop (mkF m 9 #[.val (.ref a1)] [])) _
          refine XS.aloadN X1.here hx rfl (hb hby d4_9) rfl rfl ?_
          show Steps p.tables e below (T1.setTop (mkF m 10 #[.val (.ref a1)] [(.ref a1)])) _
          refine st2 _ ?_
          show Steps p.tables e below (T2.setTop (mkF m 13 #[.val (.ref a1)] [(.int p1)])) _
          refine XS.ifNo X2.here hx rfl (hb hby d4_13) rfl ((if0 _ _).trans (teq hc13).2) ?_
          show Steps p.tables e below (T2.setTop (mkF m 16 #[.val (.ref a1)] [])) _
          refine XS.aloadN X2.here hx rfl (hb hby d4_16) rfl rfl ?_
          show Steps p.tables e below (T2.setTop (mkF m 17 #[.val (.ref a1)] [(.ref a1)])) _
          refine st3 _ ?_
          show Steps p.tables e below (T3.setTop (mkF m 20 #[.val (.ref a1)] [(.long q2)])) _
          refine XS.lconst X3.here hx rfl (hb hby d4_20) ?_
          show Steps p.tables e below (T3.setTop (mkF m 21 #[.val (.ref a1)] [(.long (0 : Int64)), (.long q2)])) _
          refine XS.lcmp X3.here hx rfl (hb hby d4_21) rfl ?_
          show Steps p.tables e below (T3.setTop (mkF m 22 #[.val (.ref a1)] [(.int (lcmpW q2 (0 : Int64)))])) _
          refine XS.ifYes X3.here hx rfl (pc0 := 22) (pc' := 29) rfl (hb hby d4_22) rfl ((if0 _ _).trans (feq (fun q => hc22 ((lw_eq _ _).mp q))).2) (by decide) (by decide) ?_
          show Steps p.tables e below (T3.setTop (mkF m 29 #[.val (.ref a1)] [])) _
          refine XS.iconst X3.here hx rfl (hb hby d4_29) ?_
          show Steps p.tables e below (T3.setTop (mkF m 30 #[.val (.ref a1)] [(.int (0 : Int32))])) _
          exact retN X3 hx (t := .boolean) Bd.returns (by simp) (hb hby d4_30) hr
        · show Q4 Z a1 q1 p1 q2 h0 n0 _ T3.heap _
          rw [e3]
          exact ⟨by rw [own_no (fun q => hc22 q.2.2)], N0, rfl⟩
    · obtain ⟨fs, hr, hrun, hended, hW, hsame⟩ := X2.leave (v := some (.int (0 : Int32))) (fun h => by rw [Bd.returns] at h; cases h)
      refine ⟨_, _, pre0 _ ?_, hrun, hended, _, _, rfl, ?_, ⟨_, rfl⟩, hW, hsame.mono (by decide) (by decide)⟩
      · show Steps p.tables e below (s₁.setTop (mkF m 0 #[.val (.ref a1)] [])) _
        refine XS.aloadN X0.here hx rfl (hb hby d4_0) rfl rfl ?_
        show Steps p.tables e below (s₁.setTop (mkF m 1 #[.val (.ref a1)] [(.ref a1)])) _
        refine st1 _ ?_
        show Steps p.tables e below (T1.setTop (mkF m 4 #[.val (.ref a1)] [(.long q1)])) _
        refine XS.lconst X1.here hx rfl (hb hby d4_4) ?_
        show Steps p.tables e below (T1.setTop (mkF m 5 #[.val (.ref a1)] [(.long (0 : Int64)), (.long q1)])) _
        refine XS.lcmp X1.here hx rfl (hb hby d4_5) rfl ?_
        show Steps p.tables e below (T1.setTop (mkF m 6 #[.val (.ref a1)] [(.int (lcmpW q1 (0 : Int64)))])) _
        refine XS.ifNo X1.here hx rfl (hb hby d4_6) rfl ((if0 _ _).trans (teq ((lw_eq _ _).mpr hc6)).2) ?_
        show Steps p.tables e below (T1.setTop (mkF m 9 #[.val (.ref a1)] [])) _
        refine XS.aloadN X1.here hx rfl (hb hby d4_9) rfl rfl ?_
        show Steps p.tables e below (T1.setTop (mkF m 10 #[.val (.ref a1)] [(.ref a1)])) _
        refine st2 _ ?_
        show Steps p.tables e below (T2.setTop (mkF m 13 #[.val (.ref a1)] [(.int p1)])) _
        refine XS.ifYes X2.here hx rfl (pc0 := 13) (pc' := 29) rfl (hb hby d4_13) rfl ((if0 _ _).trans (feq hc13).2) (by decide) (by decide) ?_
        show Steps p.tables e below (T2.setTop (mkF m 29 #[.val (.ref a1)] [])) _
        refine XS.iconst X2.here hx rfl (hb hby d4_29) ?_
        show Steps p.tables e below (T2.setTop (mkF m 30 #[.val (.ref a1)] [(.int (0 : Int32))])) _
        exact retN X2 hx (t := .boolean) Bd.returns (by simp) (hb hby d4_30) hr
      · show Q4 Z a1 q1 p1 q2 h0 n0 _ T2.heap _
        rw [e2]
        exact ⟨by rw [own_no (fun q => hc13 q.2.1)], N0, rfl⟩
  · obtain ⟨fs, hr, hrun, hended, hW, hsame⟩ := X1.leave (v := some (.int (0 : Int32))) (fun h => by rw [Bd.returns] at h; cases h)
    refine ⟨_, _, pre0 _ ?_, hrun, hended, _, _, rfl, ?_, ⟨_, rfl⟩, hW, hsame.mono (by decide) (by decide)⟩
    · show Steps p.tables e below (s₁.setTop (mkF m 0 #[.val (.ref a1)] [])) _
      refine XS.aloadN X0.here hx rfl (hb hby d4_0) rfl rfl ?_
      show Steps p.tables e below (s₁.setTop (mkF m 1 #[.val (.ref a1)] [(.ref a1)])) _
      refine st1 _ ?_
      show Steps p.tables e below (T1.setTop (mkF m 4 #[.val (.ref a1)] [(.long q1)])) _
      refine XS.lconst X1.here hx rfl (hb hby d4_4) ?_
      show Steps p.tables e below (T1.setTop (mkF m 5 #[.val (.ref a1)] [(.long (0 : Int64)), (.long q1)])) _
      refine XS.lcmp X1.here hx rfl (hb hby d4_5) rfl ?_
      show Steps p.tables e below (T1.setTop (mkF m 6 #[.val (.ref a1)] [(.int (lcmpW q1 (0 : Int64)))])) _
      refine XS.ifYes X1.here hx rfl (pc0 := 6) (pc' := 29) rfl (hb hby d4_6) rfl ((if0 _ _).trans (feq (fun q => hc6 ((lw_eq _ _).mp q))).2) (by decide) (by decide) ?_
      show Steps p.tables e below (T1.setTop (mkF m 29 #[.val (.ref a1)] [])) _
      refine XS.iconst X1.here hx rfl (hb hby d4_29) ?_
      show Steps p.tables e below (T1.setTop (mkF m 30 #[.val (.ref a1)] [(.int (0 : Int32))])) _
      exact retN X1 hx (t := .boolean) Bd.returns (by simp) (hb hby d4_30) hr
    · show Q4 Z a1 q1 p1 q2 h0 n0 _ T1.heap _
      rw [e1]
      exact ⟨by rw [own_no (fun q => hc6 q.1)], N0, rfl⟩
theorem pd_35 : parseMethodDescriptor "(JIJ)V" = some ⟨[.long, .int, .long], none⟩ := by decide +kernel
theorem pd_36 : parseMethodDescriptor "()Z" = some ⟨[], some .boolean⟩ := by decide +kernel
theorem pn_0 : plainName "com/example/stratalog/stratalog/io/ConsumeQueueEntryIsEndPinLaw" = true := by first | (simp [plainName, overriddenIn]; done) | decide +kernel
theorem ef_0 (m : MethodId) (x0 : Int64) (x1 : Int32) (x2 : Int64) (x3 : Int32) : entryFrame m #[(.long x0), (.int x1), (.long x2), (.int x3)] maxLocals = mkF m 0 #[.val (.long x0), .second, .val (.int x1), .val (.long x2), .second, .val (.int x3), .unset, .unset, .unset, .unset, .unset, .unset, .unset] [] := by first | (simp [entryFrame, mkF, argsToLocals, Value.category, maxLocals]; done) | rfl
def Q0 (Z : State) (q1 : Int64) (p1 : Int32) (q2 : Int64) (p2 : Int32) (h0 : Heap) (n0 : Nat) (v : Option Value) (h : Heap) (L : List Loc) : Prop := v = some (.int (1 : Int32)) ∧ Fr n0 L
set_option maxRecDepth 65536 in
set_option maxHeartbeats 40000000 in
theorem rm0 (l : Launch) (Z : State) (a0 : Array Value) (hw : ∀ d ∈ tables_1, d.before a0 Z = true) (ws : List Jvm.Cond) (q1 : Int64) (p1 : Int32) (q2 : Int64) (p2 : Int32) (h0 : Heap) (n0 : Nat) (Z0 : n0 ≤ h0.size) :
    MetFree l x (head1 (Jvm.Cond.code x code maxLocals ret :: ws) room_1) (fun a U => a = #[(.long q1), (.int p1), (.long q2), (.int p2)] ∧ Z.Warmed39 U.vm ∧ U.heap = h0) (fun _ _ _ _ _ => True) (fun _ U o U' => ∃ v L, o = .returned v ∧ Q0 Z q1 p1 q2 p2 h0 n0 v U'.heap L ∧ FrameEnd U o U' L room_1.cells room_1.slots) := by
  refine MetFree.of_bodySF (plainFor_of_name pn_0) hisR ?_
  intro p e s m args below meth c s₁ Bd hml0 hP hK
  obtain ⟨rfl, hZ, hh⟩ := hP
  have hx := Bd.exec
  have hby := Bd.bytes
  have hml : c.maxLocals = 13 := hml0
  have hown : s.vm.findClass "com/example/stratalog/stratalog/io/ConsumeQueueEntryIsEndPinLaw" = some m.cls := findClass_of_methodNamed Bd.named
  have hnm := (name_of_methodNamed Bd.named Bd.method).1
  have X0 : Stand p l e room_1 s m #[(.long q1), (.int p1), (.long q2), (.int p2)] below meth c s₁ [] 0 0 := Stand.of_body Bd
  have e0 : s₁.heap = h0 := by rw [← hh, Bd.state]; rfl
  have N0 := Fr.nil n0
  have pre0 : ∀ t, Steps p.tables e below (s₁.setTop (mkF m 0 #[.val (.long q1), .second, .val (.int p1), .val (.long q2), .second, .val (.int p2), .unset, .unset, .unset, .unset, .unset, .unset, .unset] [])) t → Steps p.tables e below (s₁.setTop (entryFrame m #[(.long q1), (.int p1), (.long q2), (.int p2)] maxLocals)) t := fun t k => castTop (ef_0 m q1 p1 q2 p2) k
  obtain ⟨P, seg1⟩ : ∃ P : Int64, ∀ target, Steps p.tables e below (s₁.setTop (mkF m 14 #[.val (.long q1), .second, .val (.int p1), .val (.long q2), .second, .val (.int p2), .val (.long P), .second, .unset, .unset, .unset, .unset, .unset] [])) target → Steps p.tables e below (s₁.setTop (mkF m 0 #[.val (.long q1), .second, .val (.int p1), .val (.long q2), .second, .val (.int p2), .unset, .unset, .unset, .unset, .unset, .unset, .unset] [])) target := by
    by_cases hc4 : (p2 &&& (1 : Int32)) = (0 : Int32)
    · refine ⟨q1, fun target kt => ?_⟩
      show Steps p.tables e below (s₁.setTop (mkF m 0 #[.val (.long q1), .second, .val (.int p1), .val (.long q2), .second, .val (.int p2), .unset, .unset, .unset, .unset, .unset, .unset, .unset] [])) _
      refine XS.iload X0.here hx rfl (hb hby at_0) rfl ?_
      show Steps p.tables e below (s₁.setTop (mkF m 2 #[.val (.long q1), .second, .val (.int p1), .val (.long q2), .second, .val (.int p2), .unset, .unset, .unset, .unset, .unset, .unset, .unset] [(.int p2)])) _
      refine XS.iconst X0.here hx rfl (hb hby at_2) ?_
      show Steps p.tables e below (s₁.setTop (mkF m 3 #[.val (.long q1), .second, .val (.int p1), .val (.long q2), .second, .val (.int p2), .unset, .unset, .unset, .unset, .unset, .unset, .unset] [(.int (1 : Int32)), (.int p2)])) _
      refine XS.iand X0.here hx rfl (hb hby at_3) rfl ?_
      show Steps p.tables e below (s₁.setTop (mkF m 4 #[.val (.long q1), .second, .val (.int p1), .val (.long q2), .second, .val (.int p2), .unset, .unset, .unset, .unset, .unset, .unset, .unset] [(.int (p2 &&& (1 : Int32)))])) _
      refine XS.ifYes X0.here hx rfl (pc0 := 4) (pc' := 11) rfl (hb hby at_4) rfl ((if0 _ _).trans (teq hc4).1) (by decide) (by decide) ?_
      show Steps p.tables e below (s₁.setTop (mkF m 11 #[.val (.long q1), .second, .val (.int p1), .val (.long q2), .second, .val (.int p2), .unset, .unset, .unset, .unset, .unset, .unset, .unset] [])) _
      refine XS.lloadN X0.here hx rfl (hb hby at_11) rfl ?_
      show Steps p.tables e below (s₁.setTop (mkF m 12 #[.val (.long q1), .second, .val (.int p1), .val (.long q2), .second, .val (.int p2), .unset, .unset, .unset, .unset, .unset, .unset, .unset] [(.long q1)])) _
      refine XS.lstore X0.here hx rfl (hb hby at_12) rfl (l' := #[.val (.long q1), .second, .val (.int p1), .val (.long q2), .second, .val (.int p2), .val (.long q1), .second, .unset, .unset, .unset, .unset, .unset]) rfl ?_
      exact kt
    · refine ⟨(0 : Int64), fun target kt => ?_⟩
      show Steps p.tables e below (s₁.setTop (mkF m 0 #[.val (.long q1), .second, .val (.int p1), .val (.long q2), .second, .val (.int p2), .unset, .unset, .unset, .unset, .unset, .unset, .unset] [])) _
      refine XS.iload X0.here hx rfl (hb hby at_0) rfl ?_
      show Steps p.tables e below (s₁.setTop (mkF m 2 #[.val (.long q1), .second, .val (.int p1), .val (.long q2), .second, .val (.int p2), .unset, .unset, .unset, .unset, .unset, .unset, .unset] [(.int p2)])) _
      refine XS.iconst X0.here hx rfl (hb hby at_2) ?_
      show Steps p.tables e below (s₁.setTop (mkF m 3 #[.val (.long q1), .second, .val (.int p1), .val (.long q2), .second, .val (.int p2), .unset, .unset, .unset, .unset, .unset, .unset, .unset] [(.int (1 : Int32)), (.int p2)])) _
      refine XS.iand X0.here hx rfl (hb hby at_3) rfl ?_
      show Steps p.tables e below (s₁.setTop (mkF m 4 #[.val (.long q1), .second, .val (.int p1), .val (.long q2), .second, .val (.int p2), .unset, .unset, .unset, .unset, .unset, .unset, .unset] [(.int (p2 &&& (1 : Int32)))])) _
      refine XS.ifNo X0.here hx rfl (hb hby at_4) rfl ((if0 _ _).trans (feq hc4).1) ?_
      show Steps p.tables e below (s₁.setTop (mkF m 7 #[.val (.long q1), .second, .val (.int p1), .val (.long q2), .second, .val (.int p2), .unset, .unset, .unset, .unset, .unset, .unset, .unset] [])) _
      refine XS.lconst X0.here hx rfl (hb hby at_7) ?_
      show Steps p.tables e below (s₁.setTop (mkF m 8 #[.val (.long q1), .second, .val (.int p1), .val (.long q2), .second, .val (.int p2), .unset, .unset, .unset, .unset, .unset, .unset, .unset] [(.long (0 : Int64))])) _
      refine XS.goto X0.here hx rfl (pc0 := 8) (pc' := 12) rfl (hb hby at_8) (by decide) (by decide) ?_
      show Steps p.tables e below (s₁.setTop (mkF m 12 #[.val (.long q1), .second, .val (.int p1), .val (.long q2), .second, .val (.int p2), .unset, .unset, .unset, .unset, .unset, .unset, .unset] [(.long (0 : Int64))])) _
      refine XS.lstore X0.here hx rfl (hb hby at_12) rfl (l' := #[.val (.long q1), .second, .val (.int p1), .val (.long q2), .second, .val (.int p2), .val (.long (0 : Int64)), .second, .unset, .unset, .unset, .unset, .unset]) rfl ?_
      exact kt
  obtain ⟨S, seg2⟩ : ∃ S : Int32, ∀ target, Steps p.tables e below (s₁.setTop (mkF m 28 #[.val (.long q1), .second, .val (.int p1), .val (.long q2), .second, .val (.int p2), .val (.long P), .second, .val (.int S), .unset, .unset, .unset, .unset] [])) target → Steps p.tables e below (s₁.setTop (mkF m 14 #[.val (.long q1), .second, .val (.int p1), .val (.long q2), .second, .val (.int p2), .val (.long P), .second, .unset, .unset, .unset, .unset, .unset] [])) target := by
    by_cases hc18 : (p2 &&& (2 : Int32)) = (0 : Int32)
    · refine ⟨p1, fun target kt => ?_⟩
      show Steps p.tables e below (s₁.setTop (mkF m 14 #[.val (.long q1), .second, .val (.int p1), .val (.long q2), .second, .val (.int p2), .val (.long P), .second, .unset, .unset, .unset, .unset, .unset] [])) _
      refine XS.iload X0.here hx rfl (hb hby at_14) rfl ?_
      show Steps p.tables e below (s₁.setTop (mkF m 16 #[.val (.long q1), .second, .val (.int p1), .val (.long q2), .second, .val (.int p2), .val (.long P), .second, .unset, .unset, .unset, .unset, .unset] [(.int p2)])) _
      refine XS.iconst X0.here hx rfl (hb hby at_16) ?_
      show Steps p.tables e below (s₁.setTop (mkF m 17 #[.val (.long q1), .second, .val (.int p1), .val (.long q2), .second, .val (.int p2), .val (.long P), .second, .unset, .unset, .unset, .unset, .unset] [(.int (2 : Int32)), (.int p2)])) _
      refine XS.iand X0.here hx rfl (hb hby at_17) rfl ?_
      show Steps p.tables e below (s₁.setTop (mkF m 18 #[.val (.long q1), .second, .val (.int p1), .val (.long q2), .second, .val (.int p2), .val (.long P), .second, .unset, .unset, .unset, .unset, .unset] [(.int (p2 &&& (2 : Int32)))])) _
      refine XS.ifYes X0.here hx rfl (pc0 := 18) (pc' := 25) rfl (hb hby at_18) rfl ((if0 _ _).trans (teq hc18).1) (by decide) (by decide) ?_
      show Steps p.tables e below (s₁.setTop (mkF m 25 #[.val (.long q1), .second, .val (.int p1), .val (.long q2), .second, .val (.int p2), .val (.long P), .second, .unset, .unset, .unset, .unset, .unset] [])) _
      refine XS.iloadN X0.here hx rfl (hb hby at_25) rfl ?_
      show Steps p.tables e below (s₁.setTop (mkF m 26 #[.val (.long q1), .second, .val (.int p1), .val (.long q2), .second, .val (.int p2), .val (.long P), .second, .unset, .unset, .unset, .unset, .unset] [(.int p1)])) _
      refine XS.istore X0.here hx rfl (hb hby at_26) rfl (l' := #[.val (.long q1), .second, .val (.int p1), .val (.long q2), .second, .val (.int p2), .val (.long P), .second, .val (.int p1), .unset, .unset, .unset, .unset]) rfl ?_
      exact kt
    · refine ⟨(0 : Int32), fun target kt => ?_⟩
      show Steps p.tables e below (s₁.setTop (mkF m 14 #[.val (.long q1), .second, .val (.int p1), .val (.long q2), .second, .val (.int p2), .val (.long P), .second, .unset, .unset, .unset, .unset, .unset] [])) _
      refine XS.iload X0.here hx rfl (hb hby at_14) rfl ?_
      show Steps p.tables e below (s₁.setTop (mkF m 16 #[.val (.long q1), .second, .val (.int p1), .val (.long q2), .second, .val (.int p2), .val (.long P), .second, .unset, .unset, .unset, .unset, .unset] [(.int p2)])) _
      refine XS.iconst X0.here hx rfl (hb hby at_16) ?_
      show Steps p.tables e below (s₁.setTop (mkF m 17 #[.val (.long q1), .second, .val (.int p1), .val (.long q2), .second, .val (.int p2), .val (.long P), .second, .unset, .unset, .unset, .unset, .unset] [(.int (2 : Int32)), (.int p2)])) _
      refine XS.iand X0.here hx rfl (hb hby at_17) rfl ?_
      show Steps p.tables e below (s₁.setTop (mkF m 18 #[.val (.long q1), .second, .val (.int p1), .val (.long q2), .second, .val (.int p2), .val (.long P), .second, .unset, .unset, .unset, .unset, .unset] [(.int (p2 &&& (2 : Int32)))])) _
      refine XS.ifNo X0.here hx rfl (hb hby at_18) rfl ((if0 _ _).trans (feq hc18).1) ?_
      show Steps p.tables e below (s₁.setTop (mkF m 21 #[.val (.long q1), .second, .val (.int p1), .val (.long q2), .second, .val (.int p2), .val (.long P), .second, .unset, .unset, .unset, .unset, .unset] [])) _
      refine XS.iconst X0.here hx rfl (hb hby at_21) ?_
      show Steps p.tables e below (s₁.setTop (mkF m 22 #[.val (.long q1), .second, .val (.int p1), .val (.long q2), .second, .val (.int p2), .val (.long P), .second, .unset, .unset, .unset, .unset, .unset] [(.int (0 : Int32))])) _
      refine XS.goto X0.here hx rfl (pc0 := 22) (pc' := 26) rfl (hb hby at_22) (by decide) (by decide) ?_
      show Steps p.tables e below (s₁.setTop (mkF m 26 #[.val (.long q1), .second, .val (.int p1), .val (.long q2), .second, .val (.int p2), .val (.long P), .second, .unset, .unset, .unset, .unset, .unset] [(.int (0 : Int32))])) _
      refine XS.istore X0.here hx rfl (hb hby at_26) rfl (l' := #[.val (.long q1), .second, .val (.int p1), .val (.long q2), .second, .val (.int p2), .val (.long P), .second, .val (.int (0 : Int32)), .unset, .unset, .unset, .unset]) rfl ?_
      exact kt
  obtain ⟨U, seg3⟩ : ∃ U : Int64, ∀ target, Steps p.tables e below (s₁.setTop (mkF m 42 #[.val (.long q1), .second, .val (.int p1), .val (.long q2), .second, .val (.int p2), .val (.long P), .second, .val (.int S), .val (.long U), .second, .unset, .unset] [])) target → Steps p.tables e below (s₁.setTop (mkF m 28 #[.val (.long q1), .second, .val (.int p1), .val (.long q2), .second, .val (.int p2), .val (.long P), .second, .val (.int S), .unset, .unset, .unset, .unset] [])) target := by
    by_cases hc32 : (p2 &&& (4 : Int32)) = (0 : Int32)
    · refine ⟨q2, fun target kt => ?_⟩
      show Steps p.tables e below (s₁.setTop (mkF m 28 #[.val (.long q1), .second, .val (.int p1), .val (.long q2), .second, .val (.int p2), .val (.long P), .second, .val (.int S), .unset, .unset, .unset, .unset] [])) _
      refine XS.iload X0.here hx rfl (hb hby at_28) rfl ?_
      show Steps p.tables e below (s₁.setTop (mkF m 30 #[.val (.long q1), .second, .val (.int p1), .val (.long q2), .second, .val (.int p2), .val (.long P), .second, .val (.int S), .unset, .unset, .unset, .unset] [(.int p2)])) _
      refine XS.iconst X0.here hx rfl (hb hby at_30) ?_
      show Steps p.tables e below (s₁.setTop (mkF m 31 #[.val (.long q1), .second, .val (.int p1), .val (.long q2), .second, .val (.int p2), .val (.long P), .second, .val (.int S), .unset, .unset, .unset, .unset] [(.int (4 : Int32)), (.int p2)])) _
      refine XS.iand X0.here hx rfl (hb hby at_31) rfl ?_
      show Steps p.tables e below (s₁.setTop (mkF m 32 #[.val (.long q1), .second, .val (.int p1), .val (.long q2), .second, .val (.int p2), .val (.long P), .second, .val (.int S), .unset, .unset, .unset, .unset] [(.int (p2 &&& (4 : Int32)))])) _
      refine XS.ifYes X0.here hx rfl (pc0 := 32) (pc' := 39) rfl (hb hby at_32) rfl ((if0 _ _).trans (teq hc32).1) (by decide) (by decide) ?_
      show Steps p.tables e below (s₁.setTop (mkF m 39 #[.val (.long q1), .second, .val (.int p1), .val (.long q2), .second, .val (.int p2), .val (.long P), .second, .val (.int S), .unset, .unset, .unset, .unset] [])) _
      refine XS.lloadN X0.here hx rfl (hb hby at_39) rfl ?_
      show Steps p.tables e below (s₁.setTop (mkF m 40 #[.val (.long q1), .second, .val (.int p1), .val (.long q2), .second, .val (.int p2), .val (.long P), .second, .val (.int S), .unset, .unset, .unset, .unset] [(.long q2)])) _
      refine XS.lstore X0.here hx rfl (hb hby at_40) rfl (l' := #[.val (.long q1), .second, .val (.int p1), .val (.long q2), .second, .val (.int p2), .val (.long P), .second, .val (.int S), .val (.long q2), .second, .unset, .unset]) rfl ?_
      exact kt
    · refine ⟨(0 : Int64), fun target kt => ?_⟩
      show Steps p.tables e below (s₁.setTop (mkF m 28 #[.val (.long q1), .second, .val (.int p1), .val (.long q2), .second, .val (.int p2), .val (.long P), .second, .val (.int S), .unset, .unset, .unset, .unset] [])) _
      refine XS.iload X0.here hx rfl (hb hby at_28) rfl ?_
      show Steps p.tables e below (s₁.setTop (mkF m 30 #[.val (.long q1), .second, .val (.int p1), .val (.long q2), .second, .val (.int p2), .val (.long P), .second, .val (.int S), .unset, .unset, .unset, .unset] [(.int p2)])) _
      refine XS.iconst X0.here hx rfl (hb hby at_30) ?_
      show Steps p.tables e below (s₁.setTop (mkF m 31 #[.val (.long q1), .second, .val (.int p1), .val (.long q2), .second, .val (.int p2), .val (.long P), .second, .val (.int S), .unset, .unset, .unset, .unset] [(.int (4 : Int32)), (.int p2)])) _
      refine XS.iand X0.here hx rfl (hb hby at_31) rfl ?_
      show Steps p.tables e below (s₁.setTop (mkF m 32 #[.val (.long q1), .second, .val (.int p1), .val (.long q2), .second, .val (.int p2), .val (.long P), .second, .val (.int S), .unset, .unset, .unset, .unset] [(.int (p2 &&& (4 : Int32)))])) _
      refine XS.ifNo X0.here hx rfl (hb hby at_32) rfl ((if0 _ _).trans (feq hc32).1) ?_
      show Steps p.tables e below (s₁.setTop (mkF m 35 #[.val (.long q1), .second, .val (.int p1), .val (.long q2), .second, .val (.int p2), .val (.long P), .second, .val (.int S), .unset, .unset, .unset, .unset] [])) _
      refine XS.lconst X0.here hx rfl (hb hby at_35) ?_
      show Steps p.tables e below (s₁.setTop (mkF m 36 #[.val (.long q1), .second, .val (.int p1), .val (.long q2), .second, .val (.int p2), .val (.long P), .second, .val (.int S), .unset, .unset, .unset, .unset] [(.long (0 : Int64))])) _
      refine XS.goto X0.here hx rfl (pc0 := 36) (pc' := 40) rfl (hb hby at_36) (by decide) (by decide) ?_
      show Steps p.tables e below (s₁.setTop (mkF m 40 #[.val (.long q1), .second, .val (.int p1), .val (.long q2), .second, .val (.int p2), .val (.long P), .second, .val (.int S), .unset, .unset, .unset, .unset] [(.long (0 : Int64))])) _
      refine XS.lstore X0.here hx rfl (hb hby at_40) rfl (l' := #[.val (.long q1), .second, .val (.int p1), .val (.long q2), .second, .val (.int p2), .val (.long P), .second, .val (.int S), .val (.long (0 : Int64)), .second, .unset, .unset]) rfl ?_
      exact kt
  obtain ⟨T4, h4, X4, e4, E4, A4, D4, -, st4⟩ := newO X0 hx hZ hown (hw _ (List.mem_of_getElem? (i := 0) rfl)) (hw _ (List.mem_of_getElem? (i := 1) rfl)) (hw _ (List.mem_of_getElem? (i := 2) rfl)) e0 (g := (mkF m 42 #[.val (.long q1), .second, .val (.int p1), .val (.long q2), .second, .val (.int p2), .val (.long P), .second, .val (.int S), .val (.long U), .second, .unset, .unset] [])) rfl (hb hby at_42) (by decide) (by decide)
  obtain ⟨b1, g4⟩ : ∃ z, z = h0.size := ⟨_, rfl⟩
  rw [← g4] at A4 D4 st4
  have g_b1 : n0 ≤ b1 := Nat.le_trans Z0 (Nat.le_of_eq g4.symm)
  have Z5 : n0 ≤ h4.size := Nat.le_trans Z0 E4.1
  have f6 : Fld Z h4 b1 "com/example/stratalog/stratalog/io/ConsumeQueueEntry" "physicalOffset" "J" (.long (0 : Int64)) := D4 (Or.inr (hw _ (List.mem_of_getElem? (i := 15) rfl))) (ty := .long) (by decide)
  have f7 : Fld Z h4 b1 "com/example/stratalog/stratalog/io/ConsumeQueueEntry" "size" "I" (.int (0 : Int32)) := D4 (Or.inr (hw _ (List.mem_of_getElem? (i := 17) rfl))) (ty := .int) (by decide)
  have f8 : Fld Z h4 b1 "com/example/stratalog/stratalog/io/ConsumeQueueEntry" "tagCode" "J" (.long (0 : Int64)) := D4 (Or.inr (hw _ (List.mem_of_getElem? (i := 19) rfl))) (ty := .long) (by decide)
  obtain ⟨_, _, ⟨T9, L9, k9, n9⟩, -, X9, ⟨Lc9, hQ9, l9, y9, z9⟩, st9⟩ := X4.specialBack hx (y := (⟨"com/example/stratalog/stratalog/io/ConsumeQueueEntry", "<init>", "(JIJ)V"⟩ : MethodName)) rfl hown (mvT hZ (hw _ (List.mem_of_getElem? (i := 3) rfl))) (mvT hZ (hw _ (List.mem_of_getElem? (i := 4) rfl))) (mvT hZ (hw _ (List.mem_of_getElem? (i := 5) rfl))) (by decide) (backOf (W := 1) (rm1 l Z a0 hw [] b1 P S U h4 n0 Z5 f6 f7 f8 A4 g_b1) hZ (hw _ (List.mem_of_getElem? (i := 5) rfl)) (hw _ (List.mem_of_getElem? (i := 2) rfl)) (by decide) (by decide)) (g := (mkF m 52 #[.val (.long q1), .second, .val (.int p1), .val (.long q2), .second, .val (.int p2), .val (.long P), .second, .val (.int S), .val (.long U), .second, .unset, .unset] [(.long U), (.int S), (.long P), (.ref b1), (.ref b1)])) rfl (by rw [hml]; rfl) (Steps.refl _) (a := b1) (argsL := [(.long P), (.int S), (.long U)]) (rest := [(.ref b1)]) (lenOf pd_35 rfl) rfl (by show 2 * 0 + _ ≤ _; exact Nat.le_of_eq rfl) (hb hby at_52) (fun _ _ => ⟨rfl, e4, (by decide : 1 + 0 ≤ _), (by decide : 3 + 0 ≤ _)⟩)
  dsimp only [Pt.U, Pt.locs, Pt.cells, Pt.slots] at X9 l9 y9 z9 st9 hQ9
  subst l9 y9 z9
  obtain ⟨rfl, N9q, K9q, -, r9_0, r9_1, r9_2⟩ := hQ9
  have N9 := Fr.app N0 N9q
  have K9 := K9q
  have f10 : Exa Z T9.heap b1 "com/example/stratalog/stratalog/io/ConsumeQueueEntry" := A4.keep K9
  have Z11 : n0 ≤ T9.heap.size := Nat.le_trans Z5 K9.1
  have seg12 : ∀ target, Steps p.tables e below (T9.setTop (mkF m 78 #[.val (.long q1), .second, .val (.int p1), .val (.long q2), .second, .val (.int p2), .val (.long P), .second, .val (.int S), .val (.long U), .second, .val (.ref b1), .val (.int (own_end P S U))] [])) target → Steps p.tables e below (T9.setTop (mkF m 57 #[.val (.long q1), .second, .val (.int p1), .val (.long q2), .second, .val (.int p2), .val (.long P), .second, .val (.int S), .val (.long U), .second, .val (.ref b1), .unset] [])) target := by
    intro target kt
    by_cases hc68 : ((P ||| (S.toInt64)) ||| U) = (0 : Int64)
    · rw [show (own_end P S U) = (1 : Int32) from own_yes (own_all.mp hc68).1 (own_all.mp hc68).2.1 (own_all.mp hc68).2.2] at kt
      show Steps p.tables e below (T9.setTop (mkF m 57 #[.val (.long q1), .second, .val (.int p1), .val (.long q2), .second, .val (.int p2), .val (.long P), .second, .val (.int S), .val (.long U), .second, .val (.ref b1), .unset] [])) _
      refine XS.lload X9.here hx rfl (hb hby at_57) rfl ?_
      show Steps p.tables e below (T9.setTop (mkF m 59 #[.val (.long q1), .second, .val (.int p1), .val (.long q2), .second, .val (.int p2), .val (.long P), .second, .val (.int S), .val (.long U), .second, .val (.ref b1), .unset] [(.long P)])) _
      refine XS.iload X9.here hx rfl (hb hby at_59) rfl ?_
      show Steps p.tables e below (T9.setTop (mkF m 61 #[.val (.long q1), .second, .val (.int p1), .val (.long q2), .second, .val (.int p2), .val (.long P), .second, .val (.int S), .val (.long U), .second, .val (.ref b1), .unset] [(.int S), (.long P)])) _
      refine XS.i2l X9.here hx rfl (hb hby at_61) rfl ?_
      show Steps p.tables e below (T9.setTop (mkF m 62 #[.val (.long q1), .second, .val (.int p1), .val (.long q2), .second, .val (.int p2), .val (.long P), .second, .val (.int S), .val (.long U), .second, .val (.ref b1), .unset] [(.long (S.toInt64)), (.long P)])) _
      refine XS.lor X9.here hx rfl (hb hby at_62) rfl ?_
      show Steps p.tables e below (T9.setTop (mkF m 63 #[.val (.long q1), .second, .val (.int p1), .val (.long q2), .second, .val (.int p2), .val (.long P), .second, .val (.int S), .val (.long U), .second, .val (.ref b1), .unset] [(.long (P ||| (S.toInt64)))])) _
      refine XS.lload X9.here hx rfl (hb hby at_63) rfl ?_
      show Steps p.tables e below (T9.setTop (mkF m 65 #[.val (.long q1), .second, .val (.int p1), .val (.long q2), .second, .val (.int p2), .val (.long P), .second, .val (.int S), .val (.long U), .second, .val (.ref b1), .unset] [(.long U), (.long (P ||| (S.toInt64)))])) _
      refine XS.lor X9.here hx rfl (hb hby at_65) rfl ?_
      show Steps p.tables e below (T9.setTop (mkF m 66 #[.val (.long q1), .second, .val (.int p1), .val (.long q2), .second, .val (.int p2), .val (.long P), .second, .val (.int S), .val (.long U), .second, .val (.ref b1), .unset] [(.long ((P ||| (S.toInt64)) ||| U))])) _
      refine XS.lconst X9.here hx rfl (hb hby at_66) ?_
      show Steps p.tables e below (T9.setTop (mkF m 67 #[.val (.long q1), .second, .val (.int p1), .val (.long q2), .second, .val (.int p2), .val (.long P), .second, .val (.int S), .val (.long U), .second, .val (.ref b1), .unset] [(.long (0 : Int64)), (.long ((P ||| (S.toInt64)) ||| U))])) _
      refine XS.lcmp X9.here hx rfl (hb hby at_67) rfl ?_
      show Steps p.tables e below (T9.setTop (mkF m 68 #[.val (.long q1), .second, .val (.int p1), .val (.long q2), .second, .val (.int p2), .val (.long P), .second, .val (.int S), .val (.long U), .second, .val (.ref b1), .unset] [(.int (lcmpW ((P ||| (S.toInt64)) ||| U) (0 : Int64)))])) _
      refine XS.ifNo X9.here hx rfl (hb hby at_68) rfl ((if0 _ _).trans (teq ((lw_eq _ _).mpr hc68)).2) ?_
      show Steps p.tables e below (T9.setTop (mkF m 71 #[.val (.long q1), .second, .val (.int p1), .val (.long q2), .second, .val (.int p2), .val (.long P), .second, .val (.int S), .val (.long U), .second, .val (.ref b1), .unset] [])) _
      refine XS.iconst X9.here hx rfl (hb hby at_71) ?_
      show Steps p.tables e below (T9.setTop (mkF m 72 #[.val (.long q1), .second, .val (.int p1), .val (.long q2), .second, .val (.int p2), .val (.long P), .second, .val (.int S), .val (.long U), .second, .val (.ref b1), .unset] [(.int (1 : Int32))])) _
      refine XS.goto X9.here hx rfl (pc0 := 72) (pc' := 76) rfl (hb hby at_72) (by decide) (by decide) ?_
      show Steps p.tables e below (T9.setTop (mkF m 76 #[.val (.long q1), .second, .val (.int p1), .val (.long q2), .second, .val (.int p2), .val (.long P), .second, .val (.int S), .val (.long U), .second, .val (.ref b1), .unset] [(.int (1 : Int32))])) _
      refine XS.istore X9.here hx rfl (hb hby at_76) rfl (l' := #[.val (.long q1), .second, .val (.int p1), .val (.long q2), .second, .val (.int p2), .val (.long P), .second, .val (.int S), .val (.long U), .second, .val (.ref b1), .val (.int (1 : Int32))]) rfl ?_
      exact kt
    · rw [show (own_end P S U) = (0 : Int32) from own_no (fun q => hc68 (own_all.mpr q))] at kt
      show Steps p.tables e below (T9.setTop (mkF m 57 #[.val (.long q1), .second, .val (.int p1), .val (.long q2), .second, .val (.int p2), .val (.long P), .second, .val (.int S), .val (.long U), .second, .val (.ref b1), .unset] [])) _
      refine XS.lload X9.here hx rfl (hb hby at_57) rfl ?_
      show Steps p.tables e below (T9.setTop (mkF m 59 #[.val (.long q1), .second, .val (.int p1), .val (.long q2), .second, .val (.int p2), .val (.long P), .second, .val (.int S), .val (.long U), .second, .val (.ref b1), .unset] [(.long P)])) _
      refine XS.iload X9.here hx rfl (hb hby at_59) rfl ?_
      show Steps p.tables e below (T9.setTop (mkF m 61 #[.val (.long q1), .second, .val (.int p1), .val (.long q2), .second, .val (.int p2), .val (.long P), .second, .val (.int S), .val (.long U), .second, .val (.ref b1), .unset] [(.int S), (.long P)])) _
      refine XS.i2l X9.here hx rfl (hb hby at_61) rfl ?_
      show Steps p.tables e below (T9.setTop (mkF m 62 #[.val (.long q1), .second, .val (.int p1), .val (.long q2), .second, .val (.int p2), .val (.long P), .second, .val (.int S), .val (.long U), .second, .val (.ref b1), .unset] [(.long (S.toInt64)), (.long P)])) _
      refine XS.lor X9.here hx rfl (hb hby at_62) rfl ?_
      show Steps p.tables e below (T9.setTop (mkF m 63 #[.val (.long q1), .second, .val (.int p1), .val (.long q2), .second, .val (.int p2), .val (.long P), .second, .val (.int S), .val (.long U), .second, .val (.ref b1), .unset] [(.long (P ||| (S.toInt64)))])) _
      refine XS.lload X9.here hx rfl (hb hby at_63) rfl ?_
      show Steps p.tables e below (T9.setTop (mkF m 65 #[.val (.long q1), .second, .val (.int p1), .val (.long q2), .second, .val (.int p2), .val (.long P), .second, .val (.int S), .val (.long U), .second, .val (.ref b1), .unset] [(.long U), (.long (P ||| (S.toInt64)))])) _
      refine XS.lor X9.here hx rfl (hb hby at_65) rfl ?_
      show Steps p.tables e below (T9.setTop (mkF m 66 #[.val (.long q1), .second, .val (.int p1), .val (.long q2), .second, .val (.int p2), .val (.long P), .second, .val (.int S), .val (.long U), .second, .val (.ref b1), .unset] [(.long ((P ||| (S.toInt64)) ||| U))])) _
      refine XS.lconst X9.here hx rfl (hb hby at_66) ?_
      show Steps p.tables e below (T9.setTop (mkF m 67 #[.val (.long q1), .second, .val (.int p1), .val (.long q2), .second, .val (.int p2), .val (.long P), .second, .val (.int S), .val (.long U), .second, .val (.ref b1), .unset] [(.long (0 : Int64)), (.long ((P ||| (S.toInt64)) ||| U))])) _
      refine XS.lcmp X9.here hx rfl (hb hby at_67) rfl ?_
      show Steps p.tables e below (T9.setTop (mkF m 68 #[.val (.long q1), .second, .val (.int p1), .val (.long q2), .second, .val (.int p2), .val (.long P), .second, .val (.int S), .val (.long U), .second, .val (.ref b1), .unset] [(.int (lcmpW ((P ||| (S.toInt64)) ||| U) (0 : Int64)))])) _
      refine XS.ifYes X9.here hx rfl (pc0 := 68) (pc' := 75) rfl (hb hby at_68) rfl ((if0 _ _).trans (feq (fun q => hc68 ((lw_eq _ _).mp q))).2) (by decide) (by decide) ?_
      show Steps p.tables e below (T9.setTop (mkF m 75 #[.val (.long q1), .second, .val (.int p1), .val (.long q2), .second, .val (.int p2), .val (.long P), .second, .val (.int S), .val (.long U), .second, .val (.ref b1), .unset] [])) _
      refine XS.iconst X9.here hx rfl (hb hby at_75) ?_
      show Steps p.tables e below (T9.setTop (mkF m 76 #[.val (.long q1), .second, .val (.int p1), .val (.long q2), .second, .val (.int p2), .val (.long P), .second, .val (.int S), .val (.long U), .second, .val (.ref b1), .unset] [(.int (0 : Int32))])) _
      refine XS.istore X9.here hx rfl (hb hby at_76) rfl (l' := #[.val (.long q1), .second, .val (.int p1), .val (.long q2), .second, .val (.int p2), .val (.long P), .second, .val (.int S), .val (.long U), .second, .val (.ref b1), .val (.int (0 : Int32))]) rfl ?_
      exact kt
  obtain ⟨cq13, kq13, q13a, q13b, q13c⟩ := isOf hZ rfl f10
  obtain ⟨_, _, ⟨T13, L13, k13, n13⟩, -, X13, ⟨Lc13, hQ13, l13, y13, z13⟩, st13⟩ := X9.virtualBack hx (y := (⟨"com/example/stratalog/stratalog/io/ConsumeQueueEntry", "isEnd", "()Z"⟩ : MethodName)) (z := (⟨"com/example/stratalog/stratalog/io/ConsumeQueueEntry", "isEnd", "()Z"⟩ : MethodName)) hown (mvT hZ (hw _ (List.mem_of_getElem? (i := 20) rfl))) (mvT hZ (hw _ (List.mem_of_getElem? (i := 21) rfl))) (notFace_of_selects (args := #[]) (mvT hZ (hw _ (List.mem_of_getElem? (i := 23) rfl)))) (mvT hZ (hw _ (List.mem_of_getElem? (i := 23) rfl))) (mvT hZ (hw _ (List.mem_of_getElem? (i := 22) rfl))) (by decide) (backOf (W := 0) (rm4 l Z a0 hw [] b1 P S U T9.heap n0 Z11 r9_0 r9_1 r9_2) hZ (hw _ (List.mem_of_getElem? (i := 24) rfl)) (hw _ (List.mem_of_getElem? (i := 2) rfl)) (by decide) (by decide)) q13a q13c (g := (mkF m 80 #[.val (.long q1), .second, .val (.int p1), .val (.long q2), .second, .val (.int p2), .val (.long P), .second, .val (.int S), .val (.long U), .second, .val (.ref b1), .val (.int (own_end P S U))] [(.ref b1)])) rfl (by rw [hml]; rfl) (Steps.refl _) (argsL := []) (rest := []) (lenOf pd_36 rfl) rfl (by show 2 * 0 + _ ≤ _; exact Nat.le_of_eq rfl) (hb hby at_80) (fun _ _ => ⟨rfl, rfl, (by decide : 1 + 0 ≤ _), (by decide : 3 + 0 ≤ _)⟩)
  dsimp only [Pt.U, Pt.locs, Pt.cells, Pt.slots] at X13 l13 y13 z13 st13 hQ13
  subst l13 y13 z13
  obtain ⟨rfl, N13q, e13⟩ := hQ13
  have N13 := Fr.app N9 N13q
  obtain ⟨fs, hr, hrun, hended, hW, hsame⟩ := X13.leave (v := some (.int (1 : Int32))) (fun h => by rw [Bd.returns] at h; cases h)
  refine ⟨_, _, pre0 _ ?_, hrun, hended, _, _, rfl, ?_, ⟨_, rfl⟩, hW, hsame.mono (by decide) (by decide)⟩
  · show Steps p.tables e below (s₁.setTop (mkF m 0 #[.val (.long q1), .second, .val (.int p1), .val (.long q2), .second, .val (.int p2), .unset, .unset, .unset, .unset, .unset, .unset, .unset] [])) _
    refine seg1 _ ?_
    show Steps p.tables e below (s₁.setTop (mkF m 14 #[.val (.long q1), .second, .val (.int p1), .val (.long q2), .second, .val (.int p2), .val (.long P), .second, .unset, .unset, .unset, .unset, .unset] [])) _
    refine seg2 _ ?_
    show Steps p.tables e below (s₁.setTop (mkF m 28 #[.val (.long q1), .second, .val (.int p1), .val (.long q2), .second, .val (.int p2), .val (.long P), .second, .val (.int S), .unset, .unset, .unset, .unset] [])) _
    refine seg3 _ ?_
    show Steps p.tables e below (s₁.setTop (mkF m 42 #[.val (.long q1), .second, .val (.int p1), .val (.long q2), .second, .val (.int p2), .val (.long P), .second, .val (.int S), .val (.long U), .second, .unset, .unset] [])) _
    refine st4 _ ?_
    show Steps p.tables e below (T4.setTop (mkF m 45 #[.val (.long q1), .second, .val (.int p1), .val (.long q2), .second, .val (.int p2), .val (.long P), .second, .val (.int S), .val (.long U), .second, .unset, .unset] [(.ref b1)])) _
    refine XS.dup X4.here hx rfl (hb hby at_45) rfl rfl ?_
    show Steps p.tables e below (T4.setTop (mkF m 46 #[.val (.long q1), .second, .val (.int p1), .val (.long q2), .second, .val (.int p2), .val (.long P), .second, .val (.int S), .val (.long U), .second, .unset, .unset] [(.ref b1), (.ref b1)])) _
    refine XS.lload X4.here hx rfl (hb hby at_46) rfl ?_
    show Steps p.tables e below (T4.setTop (mkF m 48 #[.val (.long q1), .second, .val (.int p1), .val (.long q2), .second, .val (.int p2), .val (.long P), .second, .val (.int S), .val (.long U), .second, .unset, .unset] [(.long P), (.ref b1), (.ref b1)])) _
    refine XS.iload X4.here hx rfl (hb hby at_48) rfl ?_
    show Steps p.tables e below (T4.setTop (mkF m 50 #[.val (.long q1), .second, .val (.int p1), .val (.long q2), .second, .val (.int p2), .val (.long P), .second, .val (.int S), .val (.long U), .second, .unset, .unset] [(.int S), (.long P), (.ref b1), (.ref b1)])) _
    refine XS.lload X4.here hx rfl (hb hby at_50) rfl ?_
    show Steps p.tables e below (T4.setTop (mkF m 52 #[.val (.long q1), .second, .val (.int p1), .val (.long q2), .second, .val (.int p2), .val (.long P), .second, .val (.int S), .val (.long U), .second, .unset, .unset] [(.long U), (.int S), (.long P), (.ref b1), (.ref b1)])) _
    refine st9.trans ?_
    show Steps p.tables e below (T9.setTop (mkF m 55 #[.val (.long q1), .second, .val (.int p1), .val (.long q2), .second, .val (.int p2), .val (.long P), .second, .val (.int S), .val (.long U), .second, .unset, .unset] [(.ref b1)])) _
    refine XS.astore X9.here hx rfl (hb hby at_55) rfl rfl (l' := #[.val (.long q1), .second, .val (.int p1), .val (.long q2), .second, .val (.int p2), .val (.long P), .second, .val (.int S), .val (.long U), .second, .val (.ref b1), .unset]) rfl ?_
    show Steps p.tables e below (T9.setTop (mkF m 57 #[.val (.long q1), .second, .val (.int p1), .val (.long q2), .second, .val (.int p2), .val (.long P), .second, .val (.int S), .val (.long U), .second, .val (.ref b1), .unset] [])) _
    refine seg12 _ ?_
    show Steps p.tables e below (T9.setTop (mkF m 78 #[.val (.long q1), .second, .val (.int p1), .val (.long q2), .second, .val (.int p2), .val (.long P), .second, .val (.int S), .val (.long U), .second, .val (.ref b1), .val (.int (own_end P S U))] [])) _
    refine XS.aload X9.here hx rfl (hb hby at_78) rfl rfl ?_
    show Steps p.tables e below (T9.setTop (mkF m 80 #[.val (.long q1), .second, .val (.int p1), .val (.long q2), .second, .val (.int p2), .val (.long P), .second, .val (.int S), .val (.long U), .second, .val (.ref b1), .val (.int (own_end P S U))] [(.ref b1)])) _
    refine st13.trans ?_
    show Steps p.tables e below (T13.setTop (mkF m 83 #[.val (.long q1), .second, .val (.int p1), .val (.long q2), .second, .val (.int p2), .val (.long P), .second, .val (.int S), .val (.long U), .second, .val (.ref b1), .val (.int (own_end P S U))] [(.int (own_end P S U))])) _
    refine XS.iload X13.here hx rfl (hb hby at_83) rfl ?_
    show Steps p.tables e below (T13.setTop (mkF m 85 #[.val (.long q1), .second, .val (.int p1), .val (.long q2), .second, .val (.int p2), .val (.long P), .second, .val (.int S), .val (.long U), .second, .val (.ref b1), .val (.int (own_end P S U))] [(.int (own_end P S U)), (.int (own_end P S U))])) _
    refine XS.icmpNo X13.here hx rfl (hb hby at_85) rfl (teq rfl).2 ?_
    show Steps p.tables e below (T13.setTop (mkF m 88 #[.val (.long q1), .second, .val (.int p1), .val (.long q2), .second, .val (.int p2), .val (.long P), .second, .val (.int S), .val (.long U), .second, .val (.ref b1), .val (.int (own_end P S U))] [])) _
    refine XS.iconst X13.here hx rfl (hb hby at_88) ?_
    show Steps p.tables e below (T13.setTop (mkF m 89 #[.val (.long q1), .second, .val (.int p1), .val (.long q2), .second, .val (.int p2), .val (.long P), .second, .val (.int S), .val (.long U), .second, .val (.ref b1), .val (.int (own_end P S U))] [(.int (1 : Int32))])) _
    refine XS.goto X13.here hx rfl (pc0 := 89) (pc' := 93) rfl (hb hby at_89) (by decide) (by decide) ?_
    show Steps p.tables e below (T13.setTop (mkF m 93 #[.val (.long q1), .second, .val (.int p1), .val (.long q2), .second, .val (.int p2), .val (.long P), .second, .val (.int S), .val (.long U), .second, .val (.ref b1), .val (.int (own_end P S U))] [(.int (1 : Int32))])) _
    exact retN X13 hx (t := .boolean) Bd.returns (by simp) (hb hby at_93) hr
  · show Q0 Z q1 p1 q2 p2 h0 n0 _ T13.heap _
    rw [e13]
    exact ⟨rfl, N13⟩
set_option maxRecDepth 65536 in
set_option maxHeartbeats 40000000 in
theorem comes_1 {Post : Tables → Env → Array Value → State → Outcome → State → Prop} (hpost : ∀ tb e args s v u, (limb_1_1.after args s (.returned v) u = true ∧ limb_1_2.after args s (.returned v) u = true ∧ True) → FrameEnd s (.returned v) u (Jvm.fieldLocs frame_1_writes args s ++ Jvm.arrayLocs frame_1_arrays args s ++ Jvm.staticLocs frame_1_statics s) 16 128 → Post tb e args s (.returned v) u) :
    ArmFor flags0 classFile x code maxLocals ret World_1 tables_1 room_1 Calls_1 rest_1 Pre_1 Post := by
  intro l hfl _ _ p e ha hc hk s m args below hf hA hF happ hP
  obtain ⟨hcalls, hrest, hpre⟩ := hP
  obtain ⟨-, -, -, hnamed, -, -, -, hat⟩ := (Spec.applies_iff hf).mp happ
  obtain ⟨hg, hn⟩ := and_e (Cond.before_iff.mp (show (Jvm.Cond.and given_1 narrow_1).before args s = true from hpre))
  obtain ⟨gc, gr0⟩ := and_e hg
  obtain ⟨ga0, gr1⟩ := and_e gr0
  obtain ⟨ga1, gr2⟩ := and_e gr1
  obtain ⟨ga2, gr3⟩ := and_e gr2
  have ga3 := gr3
  obtain ⟨w0, w1, w2, w3, rfl⟩ : ∃ w0 w1 w2 w3 : Value, args = #[w0, w1, w2, w3] := by
    have hs : args.size = 4 := by simpa [Cond.value, given_1] using gc
    obtain ⟨L⟩ := args
    match L, hs with
    | [w0, w1, w2, w3], _ => exact ⟨w0, w1, w2, w3, rfl⟩
  have hw := fun d (hd : d ∈ tables_1) => atoms_spec (ws := Jvm.Cond.code x code maxLocals ret :: tables_1) hat d (List.mem_cons_of_mem _ hd)
  obtain ⟨i0, ei0⟩ := isL_v ga0
  obtain rfl : w0 = (.long i0) := Option.some.inj ei0
  obtain ⟨i1, ei1⟩ := is_v ga1
  obtain rfl : w1 = (.int i1) := Option.some.inj ei1
  obtain ⟨i2, ei2⟩ := isL_v ga2
  obtain rfl : w2 = (.long i2) := Option.some.inj ei2
  obtain ⟨i3, ei3⟩ := is_v ga3
  obtain rfl : w3 = (.int i3) := Option.some.inj ei3
  obtain ⟨n, o, h1, h2, h3, _, L, rfl, ⟨rfl, N⟩, hq⟩ := rm0 l s _ hw tables_1 i0 i1 i2 i3 s.heap s.heap.size (Nat.le_refl _) p e ha hc hk s m _ below hf ((Spec.applies_iff_loose hf).mp happ).1 ⟨rfl, State.Warmed39.refl s, rfl⟩ trivial
  refine ⟨n, _, h1, h2, h3, hpost _ _ _ _ _ _ ⟨Cond.after_iff.mpr rfl, Cond.after_iff.mpr (eq_i res_at (Term.int_eval (1)) rfl), trivial⟩ ⟨hq.1, hq.2.1, (hq.2.2.sift fun y hy => Or.inr (N y hy)).mono (by decide) (by decide)⟩⟩
theorem main_1_1 : Claimed_1_1 := comes_1 fun _ _ _ _ _ _ h hF => ⟨h.1, hF⟩
theorem main_1_2 : Claimed_1_2 := comes_1 fun _ _ _ _ _ _ h hF => ⟨h.2.1, hF⟩
end Jvm.Pilot.@@N@@
namespace Jvm.Pilot.@@N@@
open Jvm Jvm.ClassFile Sem Op Lib Jvm.Free Jvm.Stand Jvm.Pilot.@@N@@.Jvm.D
/-! MADE BY PROGRAM (witnessworld.py) out of the Statement's table words and the real class files: 8 classes; the members and pool entries that the words name. The judged class is class 1, her method 1. -/
namespace start1
open Jvm.ClassFile
def u (s : String) : CpInfo := .utf8 (stringToUtf16 s)
/-- a pool by its gaps: so many unusable entries, then the entry; so many at the end -/
def gap : Nat → List CpInfo → List CpInfo
  | 0, r => r
  | n + 1, r => .unusable :: gap n r
def poolList (es : List (Nat × CpInfo)) (last : Nat) : List CpInfo := es.foldr (fun e r => gap e.1 (e.2 :: r)) (gap last [])
def pool (es : List (Nat × CpInfo)) (last : Nat) : Array CpInfo := ⟨poolList es last⟩
def fileOf (pool : Array CpInfo) (this : Nat) (attrs : Array Attribute := #[]) (ms : Array MethodInfo := #[]) (fl : Nat := 33) (sup : Nat := 0) (ifs : Array Nat := #[]) (fds : Array FieldInfo := #[]) : ClassFile where
  minorVersion := 0
  majorVersion := 65
  constantPool := pool
  accessFlags := fl
  thisClass := this
  superClass := sup
  interfaces := ifs
  fields := fds
  methods := ms
  attributes := attrs
def plain (name : String) (sup : Option ClassId) : Class where
  name := name
  kind := .ordinary
  loader := none
  accessFlags := 33
  super := sup
  interfaces := #[]
  cf := none
  fields := #[]
  methods := #[]
  instanceTypes := #[]
  staticTypes := #[]
  resolved := #[]
  callSites := []
  init := .initialized
  statics := none
  mirror := none

def pool0 : Array CpInfo := pool [(5, u "<init>"), (0, u "()V"), (1, .class_ 10), (1, u "java/lang/Object")] 113

def k0c0 : Code := { maxStack := 0, maxLocals := 1, code := object_method_1_code, exceptionTable := #[], attributes := #[] }
def k0m0 : Method := { name := "<init>", desc := "()V", sig := { parameters := [], returnType := none }, accessFlags := 1, code := some k0c0 }
/-- java/lang/Object -/
def k0 : Class := { plain "java/lang/Object" none with
  accessFlags := 33
  interfaces := #[]
  cf := some (fileOf pool0 8 #[] #[{ accessFlags := 1, nameIndex := 5, descriptorIndex := 6, attributes := #[] }] 33 0 #[] #[])
  fields := #[]
  methods := #[k0m0]
  instanceTypes := #[]
  staticTypes := #[]
  resolved := Array.replicate 124 none
  statics := none }

def pool1 : Array CpInfo := pool [(2, .class_ 4), (1, u "java/lang/Object"), (0, u "<init>"), (0, u "()V"), (0, .class_ 8), (0, u "com/example/stratalog/stratalog/io/ConsumeQueueEntry"), (0, .methodref 7 10), (0, .nameAndType 5 11), (0, u "(JIJ)V"), (0, .methodref 7 13), (0, .nameAndType 14 15), (0, u "isEnd"), (0, u "()Z"), (0, .class_ 17), (0, u "com/example/stratalog/stratalog/io/ConsumeQueueEntryIsEndPinLaw"), (2, u "law"), (0, u "(JIJI)Z")] 3

def k1m0 : Method := { name := "<init>", desc := "()V", sig := { parameters := [], returnType := none }, accessFlags := 1, code := none }
def k1c1 : Code := { maxStack := 7, maxLocals := 13, code := code, exceptionTable := #[], attributes := #[] }
def k1m1 : Method := { name := "law", desc := "(JIJI)Z", sig := { parameters := [.long, .int, .long, .int], returnType := some .boolean }, accessFlags := 9, code := some k1c1 }
/-- com/example/stratalog/stratalog/io/ConsumeQueueEntryIsEndPinLaw -/
def k1 : Class := { plain "com/example/stratalog/stratalog/io/ConsumeQueueEntryIsEndPinLaw" (some 0) with
  accessFlags := 49
  interfaces := #[]
  cf := some (fileOf pool1 16 #[] #[{ accessFlags := 1, nameIndex := 5, descriptorIndex := 6, attributes := #[] }, { accessFlags := 9, nameIndex := 20, descriptorIndex := 21, attributes := #[] }] 49 2 #[] #[])
  fields := #[]
  methods := #[k1m0, k1m1]
  instanceTypes := #[]
  staticTypes := #[]
  resolved := Array.replicate 25 none
  statics := none }

def pool2 : Array CpInfo := pool [(1, .methodref 2 3), (0, .class_ 4), (0, .nameAndType 5 6), (0, u "java/lang/Object"), (0, u "<init>"), (0, u "()V"), (0, .class_ 8), (0, u "java/lang/Record")] 13

def k2c0 : Code := { maxStack := 1, maxLocals := 1, code := jdk_30_method_1_code, exceptionTable := #[], attributes := #[] }
def k2m0 : Method := { name := "<init>", desc := "()V", sig := { parameters := [], returnType := none }, accessFlags := 4, code := some k2c0 }
/-- java/lang/Record -/
def k2 : Class := { plain "java/lang/Record" (some 0) with
  accessFlags := 1057
  interfaces := #[]
  cf := some (fileOf pool2 7 #[] #[{ accessFlags := 4, nameIndex := 5, descriptorIndex := 6, attributes := #[] }] 1057 2 #[] #[])
  fields := #[]
  methods := #[k2m0]
  instanceTypes := #[]
  staticTypes := #[]
  resolved := Array.replicate 22 none
  statics := none }

def pool3 : Array CpInfo := pool [(1, .methodref 2 3), (0, .class_ 4), (0, .nameAndType 5 6), (0, u "java/lang/Record"), (0, u "<init>"), (0, u "()V"), (0, .fieldref 8 9), (0, .class_ 10), (0, .nameAndType 11 12), (0, u "com/example/stratalog/stratalog/io/ConsumeQueueEntry"), (0, u "physicalOffset"), (0, u "J"), (0, .fieldref 8 14), (0, .nameAndType 15 16), (0, u "size"), (0, u "I"), (0, .fieldref 8 18), (0, .nameAndType 19 12), (0, u "tagCode"), (18, u "(JIJ)V"), (19, u "SIZE"), (11, u "isEnd"), (0, u "()Z")] 25

def k3c0 : Code := { maxStack := 3, maxLocals := 6, code := prog_3_method_1_code, exceptionTable := #[], attributes := #[] }
def k3m0 : Method := { name := "<init>", desc := "(JIJ)V", sig := { parameters := [.long, .int, .long], returnType := none }, accessFlags := 1, code := some k3c0 }
def k3c1 : Code := { maxStack := 4, maxLocals := 1, code := prog_3_method_5_code, exceptionTable := #[], attributes := #[] }
def k3m1 : Method := { name := "isEnd", desc := "()Z", sig := { parameters := [], returnType := some .boolean }, accessFlags := 1, code := some k3c1 }
/-- com/example/stratalog/stratalog/io/ConsumeQueueEntry -/
def k3 : Class := { plain "com/example/stratalog/stratalog/io/ConsumeQueueEntry" (some 2) with
  accessFlags := 49
  interfaces := #[]
  cf := some (fileOf pool3 8 #[] #[{ accessFlags := 1, nameIndex := 5, descriptorIndex := 38, attributes := #[] }, { accessFlags := 1, nameIndex := 70, descriptorIndex := 71, attributes := #[] }] 49 2 #[] #[{ accessFlags := 18, nameIndex := 11, descriptorIndex := 12, attributes := #[] }, { accessFlags := 18, nameIndex := 15, descriptorIndex := 16, attributes := #[] }, { accessFlags := 18, nameIndex := 19, descriptorIndex := 12, attributes := #[] }, { accessFlags := 25, nameIndex := 58, descriptorIndex := 16, attributes := #[] }])
  fields := #[{ name := "physicalOffset", type := .long, accessFlags := 18, slot := 0, constantValue := 0 }, { name := "size", type := .int, accessFlags := 18, slot := 1, constantValue := 0 }, { name := "tagCode", type := .long, accessFlags := 18, slot := 2, constantValue := 0 }, { name := "SIZE", type := .int, accessFlags := 25, slot := 0, constantValue := 0 }]
  methods := #[k3m0, k3m1]
  instanceTypes := #[.long, .int, .long]
  staticTypes := #[.int]
  resolved := Array.replicate 97 none
  statics := none }

def pool4 : Array CpInfo := pool [(1, u "java/lang/Cloneable"), (0, .class_ 1), (0, u "java/lang/Object"), (0, .class_ 3)] 3

/-- java/lang/Cloneable -/
def k4 : Class := { plain "java/lang/Cloneable" (some 0) with
  accessFlags := 1537
  interfaces := #[]
  cf := some (fileOf pool4 2 #[] #[] 1537 4 #[] #[])
  fields := #[]
  methods := #[]
  instanceTypes := #[]
  staticTypes := #[]
  resolved := Array.replicate 8 none
  statics := none }

def pool5 : Array CpInfo := pool [(1, u "java/io/Serializable"), (0, .class_ 1), (0, u "java/lang/Object"), (0, .class_ 3)] 3

/-- java/io/Serializable -/
def k5 : Class := { plain "java/io/Serializable" (some 0) with
  accessFlags := 1537
  interfaces := #[]
  cf := some (fileOf pool5 2 #[] #[] 1537 4 #[] #[])
  fields := #[]
  methods := #[]
  instanceTypes := #[]
  staticTypes := #[]
  resolved := Array.replicate 8 none
  statics := none }

/-- the primitive byte -/
def k6 : Class := { plain "byte" none with kind := .primitive 'B', accessFlags := 0x411 }
/-- [B -/
def k7 : Class := { plain "[B" (some 0) with kind := .array 6 .byte, interfaces := #[4, 5], accessFlags := 1041 }

def heap : Heap := #[]
def classes : Array Class := #[k0, k1, k2, k3, k4, k5, k6, k7]
def interned : List (Array UInt16 × Addr) := []
def slotsUsed : Nat := 0
def theMethod : MethodId := ⟨1, 1⟩
def args0 : Array Value := #[.long 5, .int 7, .long 1, .int 0]
def aboutOver (below : List Frame) : State where
  vm := { classes := classes, interned := interned.toArray }
  heap := heap
  slotsUsed := slotsUsed
  threads := #[{ frames := .invoking theMethod args0 :: below }]
def below0 : List Frame := [.native { method := ⟨0, 0⟩, args := #[] }]
def about1 : State := aboutOver below0
def p0 : Program := .bare "" "" ""
def e0 : Env := launch0.env 0 0 0
theorem w_frames : about1.frames = Frame.invoking theMethod args0 :: below0 := rfl
set_option maxRecDepth 65536 in
theorem w_args : argsFit about1.vm theMethod args0 = true := by decide +kernel
set_option maxRecDepth 65536 in
theorem w_heap : heapFits about1 = true := by decide +kernel
set_option maxRecDepth 65536 in
theorem w_runnable : about1.curStatus? = some .runnable := by decide +kernel
set_option maxRecDepth 65536 in
theorem w_alone : about1.alone = true := by decide +kernel
set_option maxRecDepth 65536 in
theorem w_named : about1.methodNamed? x = some theMethod := by decide +kernel
set_option maxRecDepth 65536 in
theorem w_hears : about1.hears theMethod below0 = true := by decide +kernel
set_option maxRecDepth 65536 in
theorem w_ripe : about1.ripe theMethod args0 below0 = true := by decide +kernel
theorem w_running : about1.status = .running := rfl
set_option maxRecDepth 65536 in
theorem w_room : about1.hasRoom e0.platform room_1 = true :=
  launch0.hasRoom_least _ room_1 (by decide +kernel) (by decide +kernel) (by decide +kernel) (by decide +kernel) (by decide +kernel) (by decide +kernel)
theorem allAtoms_all (ts : List Jvm.Cond) (a : Array Jvm.Value) (st : Jvm.State) : (allAtoms ts).before a st = ts.all (fun c => c.before a st) := by
  induction ts with
  | nil => rfl
  | cons c t ih =>
    show (Jvm.Cond.and c (allAtoms t)).before a st = _
    rw [Jvm.Cond.before_and, ih, List.all_cons]
def words1 : List Jvm.Cond := Jvm.Cond.code x code maxLocals ret :: tables_1
/-- a 'code' word, met by the world's own term for the bytes: nothing is compared byte by byte -/
theorem code_word {y : MethodName} {bytes : ByteArray} {mx : Nat} {rt : Option FieldType} {a : Array Value} {s : State} {m : MethodId} {meth : Method} {c : Code} (h1 : s.methodNamed? y = some m) (h2 : s.vm.method? m = some meth) (h3 : meth.code = some c) (h4 : c.code = bytes)
    (h5 : (c.maxLocals == mx && c.exceptionTable.isEmpty && decide (c.maxStack ≤ mostOperands) && decide (meth.sig.returnType = rt) && !meth.locks && decide (parseMethodDescriptor y.desc = some meth.sig)) = true) : (Jvm.Cond.code y bytes mx rt).before a s = true := by
  simp only [Bool.and_eq_true, beq_iff_eq, Bool.not_eq_true', decide_eq_true_eq] at h5
  obtain ⟨⟨⟨⟨⟨g1, g2⟩, g3⟩, g4⟩, g5⟩, g6⟩ := h5
  simp [Cond.before, Cond.holds, Cond.value, h1, h2, h3, h4, g1, g2, g3, g4, g5, g6]
def isCode : Jvm.Cond → Bool
  | .code _ _ _ _ => true
  | _ => false
theorem all_split {L : List Jvm.Cond} {P : Jvm.Cond → Bool} (h1 : L.all (fun c => isCode c || P c) = true) (h2 : ∀ c ∈ L.filter isCode, P c = true) : L.all P = true := by
  refine List.all_eq_true.mpr fun c hc => ?_
  have h := List.all_eq_true.mp h1 c hc
  rcases Bool.eq_false_or_eq_true (isCode c) with hi | hi
  · exact h2 c (List.mem_filter.mpr ⟨hc, hi⟩)
  · simpa [hi] using h
set_option maxRecDepth 65536 in
theorem w_c0 : (Jvm.Cond.code x code maxLocals ret).before args0 about1 = true := code_word (m := ⟨1, 1⟩) (meth := k1m1) (c := k1c1) (by decide +kernel) rfl rfl rfl (by decide +kernel)
set_option maxRecDepth 65536 in
theorem w_c1 : (Jvm.Cond.code ({ cls := "com/example/stratalog/stratalog/io/ConsumeQueueEntry", name := "<init>", desc := "(JIJ)V" } : Jvm.MethodName) prog_3_method_1_code (6 : Nat) (Option.none : Option Jvm.ClassFile.FieldType)).before args0 about1 = true := code_word (m := ⟨3, 0⟩) (meth := k3m0) (c := k3c0) (by decide +kernel) rfl rfl rfl (by decide +kernel)
set_option maxRecDepth 65536 in
theorem w_c2 : (Jvm.Cond.code ({ cls := "java/lang/Record", name := "<init>", desc := "()V" } : Jvm.MethodName) jdk_30_method_1_code (1 : Nat) (Option.none : Option Jvm.ClassFile.FieldType)).before args0 about1 = true := code_word (m := ⟨2, 0⟩) (meth := k2m0) (c := k2c0) (by decide +kernel) rfl rfl rfl (by decide +kernel)
set_option maxRecDepth 65536 in
theorem w_c3 : (Jvm.Cond.code ({ cls := "java/lang/Object", name := "<init>", desc := "()V" } : Jvm.MethodName) object_method_1_code (1 : Nat) (Option.none : Option Jvm.ClassFile.FieldType)).before args0 about1 = true := code_word (m := ⟨0, 0⟩) (meth := k0m0) (c := k0c0) (by decide +kernel) rfl rfl rfl (by decide +kernel)
set_option maxRecDepth 65536 in
theorem w_c4 : (Jvm.Cond.code ({ cls := "com/example/stratalog/stratalog/io/ConsumeQueueEntry", name := "isEnd", desc := "()Z" } : Jvm.MethodName) prog_3_method_5_code (1 : Nat) (Option.some Jvm.ClassFile.FieldType.boolean)).before args0 about1 = true := code_word (m := ⟨3, 1⟩) (meth := k3m1) (c := k3c1) (by decide +kernel) rfl rfl rfl (by decide +kernel)
def codes1 : List Jvm.Cond := [Jvm.Cond.code x code maxLocals ret, Jvm.Cond.code ({ cls := "com/example/stratalog/stratalog/io/ConsumeQueueEntry", name := "<init>", desc := "(JIJ)V" } : Jvm.MethodName) prog_3_method_1_code (6 : Nat) (Option.none : Option Jvm.ClassFile.FieldType), Jvm.Cond.code ({ cls := "java/lang/Record", name := "<init>", desc := "()V" } : Jvm.MethodName) jdk_30_method_1_code (1 : Nat) (Option.none : Option Jvm.ClassFile.FieldType), Jvm.Cond.code ({ cls := "java/lang/Object", name := "<init>", desc := "()V" } : Jvm.MethodName) object_method_1_code (1 : Nat) (Option.none : Option Jvm.ClassFile.FieldType), Jvm.Cond.code ({ cls := "com/example/stratalog/stratalog/io/ConsumeQueueEntry", name := "isEnd", desc := "()Z" } : Jvm.MethodName) prog_3_method_5_code (1 : Nat) (Option.some Jvm.ClassFile.FieldType.boolean)]
set_option maxRecDepth 65536 in
theorem codes_eq : words1.filter isCode = codes1 := rfl
theorem w_codes : ∀ c ∈ words1.filter isCode, c.before args0 about1 = true := by
  rw [codes_eq]
  intro c hc
  simp only [codes1, List.mem_cons, List.not_mem_nil, or_false] at hc
  rcases hc with rfl | rfl | rfl | rfl | rfl
  · exact w_c0
  · exact w_c1
  · exact w_c2
  · exact w_c3
  · exact w_c4
set_option maxRecDepth 65536 in
theorem w_t1 : (words1.take 24).all (fun c => isCode c || c.before args0 about1) = true := by decide +kernel
set_option maxRecDepth 65536 in
theorem w_t2 : (words1.drop 24).all (fun c => isCode c || c.before args0 about1) = true := by decide +kernel
theorem w_tables : (allAtoms (Jvm.Cond.code x code maxLocals ret :: tables_1)).before args0 about1 = true := by
  rw [allAtoms_all]
  show words1.all (fun c => c.before args0 about1) = true
  refine all_split ?_ w_codes
  rw [← List.take_append_drop 24 words1, List.all_append, w_t1, w_t2]
  rfl
set_option maxRecDepth 65536 in
theorem w_case : (Jvm.Cond.and given_1 narrow_1).before args0 about1 = true := by decide +kernel
theorem w_applies : (headSpec (Jvm.Cond.code x code maxLocals ret :: tables_1) room_1).applies x e0.platform about1 = true :=
  (Spec.applies_iff w_frames).mpr ⟨w_running, w_runnable, w_alone, w_named, w_hears, w_ripe, w_room, w_tables⟩
theorem atStart : AtStart classFile x code maxLocals ret World_1 tables_1 room_1 Calls_1 rest_1 Pre_1 launch0 p0 e0 about1 theMethod args0 below0 :=
  ⟨lists_1, trivial, launch0.admits_env _ _ _, launch0.least_env, fairChoices_fair.cas, fairChoices_fair.clock, w_frames, w_args, w_heap, w_applies, trivial, trivial, w_case⟩
end start1
theorem witness_1 : WitnessClaimed_1 := ⟨start1.p0, start1.e0, start1.about1, start1.theMethod, start1.args0, start1.below0, start1.atStart⟩
end Jvm.Pilot.@@N@@
