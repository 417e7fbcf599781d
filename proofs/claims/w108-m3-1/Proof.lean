import JvmDerived
import JvmDerived.Pilot.@@N@@Statement
import JvmDerived.Pilot.@@N@@Code
set_option linter.unusedVariables false
set_option linter.unusedSimpArgs false
namespace Jvm.RoadKit
open Sem ClassFile Op Lib Jvm.Stand Jvm.Free Jvm.LawKit
section New
variable {p : Program} {l : Launch} {e : Env} {R : Room} {s : State} {m : MethodId} {args : Array Value} {below : List Frame} {meth : Method} {c : Code} {T : State} {locs : List Loc} {cells slots : Nat}
theorem retI (X : Stand p l e R s m args below meth c T locs cells slots) (hx : p.tables.exec = Jvm.exec) {pc : Nat} {Ls : Array Slot} {z : Int32} {rest : List Value} (hret : meth.sig.returnType = some .int) (hd : decode c.code pc = .ok (.ireturn, 1)) {fs : List Frame}
    (hl : ∀ (f : JFrame) (acts : List Action), f.method = m → f.locked = none → f.entered = [] → (doReturn e (T.setTop f) acts (some (.int z))).1 = T.setFrames fs) : Steps p.tables e below (T.setTop (mkF m pc Ls (.int z :: rest))) (T.setFrames fs) := by
  have hm' : T.vm.method? m = some meth := X.method'
  have hn : narrow .int (.int z) = .int z := rfl
  show Steps p.tables e below (T.setTop { method := m, pc := pc, locals := Ls, stack := _ :: rest, locked := none }) _
  jvm_step X.here [X.here.top, hx, hd, hm', hret, hn]
  first | (intro acts; rw [hl _ acts rfl rfl rfl]) | rw [hl _ _ rfl rfl rfl]
  exact Steps.refl _
end New
end Jvm.RoadKit
namespace Jvm.Pilot.@@N@@
open Jvm Jvm.ClassFile Sem Op Lib Jvm.Free Jvm.Stand Jvm.LawKit Jvm.RoadKit Bundle Jvm.Pilot.@@N@@.Jvm.D

def own_sh (x k : Int32) : Int32 := nar .byte (((x.toUInt32 >>> (k &&& 31).toUInt32).toInt32).toInt8.toInt32)
def own_lo (x : Int32) : Int32 := nar .byte (x.toInt8.toInt32)
def own_rd (a b c d : Int32) : Int32 := ((((a &&& 255) <<< ((24 : Int32) &&& 31)) ||| ((b &&& 255) <<< ((16 : Int32) &&& 31))) ||| ((c &&& 255) <<< ((8 : Int32) &&& 31))) ||| (d &&& 255)
theorem own_and (z : BitVec 32) : (z &&& 255#32).toNat = z.toNat % 256 := by
  rw [BitVec.toNat_and]
  exact Nat.and_two_pow_sub_one_eq_mod z.toNat 8
theorem own_n8 (z : Int32) : (z.toInt8.toInt32).toBitVec.toNat % 256 = z.toBitVec.toNat % 256 := by
  have h := (c_i2b z).1
  have l1 := z.toInt8.toInt32.toBitVec.isLt
  have l2 := z.toBitVec.isLt
  change (z.toInt8.toInt32.toBitVec.toInt - z.toBitVec.toInt) % 256 = 0 at h
  rw [BitVec.toInt_eq_toNat_cond, BitVec.toInt_eq_toNat_cond] at h
  split at h <;> split at h <;> omega
theorem own_nar (z : Int32) : (nar .byte (z.toInt8.toInt32)).toBitVec.toNat % 256 = z.toBitVec.toNat % 256 := by
  show (z.toInt8.toInt32.toInt8.toInt32).toBitVec.toNat % 256 = _
  rw [own_n8, own_n8]
theorem own_byte (x k : Int32) (n : Nat) (hk : (k &&& 31).toBitVec.toNat = n) (hn : n < 32) : ((own_sh x k) &&& 255).toBitVec.toNat = x.toBitVec.toNat / 2 ^ n % 256 := by
  show ((own_sh x k).toBitVec &&& 255#32).toNat = _
  rw [own_and]
  show (nar .byte (((x.toUInt32 >>> (k &&& 31).toUInt32).toInt32).toInt8.toInt32)).toBitVec.toNat % 256 = _
  rw [own_nar]
  have e : ((x.toUInt32 >>> (k &&& 31).toUInt32).toInt32).toBitVec.toNat = x.toBitVec.toNat / 2 ^ n := by
    show (x.toUInt32 >>> (k &&& 31).toUInt32).toNat = _
    rw [UInt32.toNat_shiftRight]
    have q : (k &&& 31).toUInt32.toNat = n := hk
    rw [q, Nat.mod_eq_of_lt hn, Nat.shiftRight_eq_div_pow]
    rfl
  rw [e]
theorem own_low (x : Int32) : ((own_lo x) &&& 255).toBitVec.toNat = x.toBitVec.toNat % 256 := by
  show ((own_lo x).toBitVec &&& 255#32).toNat = _
  rw [own_and]
  exact own_nar x
theorem own_join {P b : Nat} (a k : Nat) (hb : b < 2 ^ k) (hP : P = 2 ^ k * a) : P ||| b = P + b := by
  subst hP; exact (Nat.two_pow_add_eq_or_of_lt hb a).symm
theorem own_key (n : Nat) (h : n < 2 ^ 32) : (((n / 2 ^ 24 % 256 * 16777216 % 2 ^ 32) ||| (n / 2 ^ 16 % 256 * 65536 % 2 ^ 32)) ||| (n / 2 ^ 8 % 256 * 256 % 2 ^ 32)) ||| (n % 256) = n := by
  have ha : n / 2 ^ 24 % 256 < 256 := Nat.mod_lt _ (by decide)
  have hb : n / 2 ^ 16 % 256 < 256 := Nat.mod_lt _ (by decide)
  have hc : n / 2 ^ 8 % 256 < 256 := Nat.mod_lt _ (by decide)
  have hd : n % 256 < 256 := Nat.mod_lt _ (by decide)
  have hs : n = n / 2 ^ 24 % 256 * 16777216 + n / 2 ^ 16 % 256 * 65536 + n / 2 ^ 8 % 256 * 256 + n % 256 := by omega
  generalize n / 2 ^ 24 % 256 = a at *
  generalize n / 2 ^ 16 % 256 = b at *
  generalize n / 2 ^ 8 % 256 = c at *
  generalize n % 256 = d at *
  rw [Nat.mod_eq_of_lt (show a * 16777216 < 2 ^ 32 by omega), Nat.mod_eq_of_lt (show b * 65536 < 2 ^ 32 by omega), Nat.mod_eq_of_lt (show c * 256 < 2 ^ 32 by omega)]
  have o1 : a * 16777216 ||| b * 65536 = a * 16777216 + b * 65536 := own_join a 24 (by omega) (by omega)
  have o2 : (a * 16777216 + b * 65536) ||| c * 256 = a * 16777216 + b * 65536 + c * 256 := own_join (a * 256 + b) 16 (by omega) (by omega)
  have o3 : (a * 16777216 + b * 65536 + c * 256) ||| d = a * 16777216 + b * 65536 + c * 256 + d := own_join (a * 65536 + b * 256 + c) 8 (by omega) (by omega)
  rw [o1, o2, o3]
  omega
theorem own_rd_eq (x : Int32) : own_rd (own_sh x 24) (own_sh x 16) (own_sh x 8) (own_lo x) = x := by
  have e1 := own_byte x 24 24 (by decide) (by decide)
  have e2 := own_byte x 16 16 (by decide) (by decide)
  have e3 := own_byte x 8 8 (by decide) (by decide)
  have e4 := own_low x
  apply Int32.toBitVec_inj.mp
  apply BitVec.eq_of_toNat_eq
  rw [own_rd, shlm (k := 24) (m := 16777216) (by decide), shlm (k := 16) (m := 65536) (by decide), shlm (k := 8) (m := 256) (by decide)]
  show ((((own_sh x 24 &&& 255).toBitVec * 16777216#32 ||| (own_sh x 16 &&& 255).toBitVec * 65536#32) ||| (own_sh x 8 &&& 255).toBitVec * 256#32) ||| (own_lo x &&& 255).toBitVec).toNat = x.toBitVec.toNat
  rw [BitVec.toNat_or, BitVec.toNat_or, BitVec.toNat_or, BitVec.toNat_mul, BitVec.toNat_mul, BitVec.toNat_mul, e1, e2, e3, e4]
  exact own_key _ x.toBitVec.isLt
theorem d1_0 : decode prog_37_method_1_code 0 = .ok (.aload_n 0, 1) := by decide +kernel
theorem d1_1 : decode prog_37_method_1_code 1 = .ok (.invokespecial 1, 3) := by decide +kernel
theorem d1_4 : decode prog_37_method_1_code 4 = .ok (.aload_n 0, 1) := by decide +kernel
theorem d1_5 : decode prog_37_method_1_code 5 = .ok (.iload_n 1, 1) := by decide +kernel
theorem d1_6 : decode prog_37_method_1_code 6 = .ok (.newarray .byte, 2) := by decide +kernel
theorem d1_8 : decode prog_37_method_1_code 8 = .ok (.putfield 7, 3) := by decide +kernel
theorem d1_11 : decode prog_37_method_1_code 11 = .ok (.return_, 1) := by decide +kernel
theorem pn_1 : plainName "com/example/handoff/handoff/RecordWriter" = true := by first | (simp [plainName, overriddenIn]; done) | decide +kernel
theorem ef_1 (m : MethodId) (x0 : Addr) (x1 : Int32) : entryFrame m #[(.ref x0), (.int x1)] 2 = mkF m 0 #[.val (.ref x0), .val (.int x1)] [] := by first | (simp [entryFrame, mkF, argsToLocals, Value.category]; done) | rfl
def Q1 (Z : State) (a1 : Addr) (h0 : Heap) (n0 : Nat) (v : Option Value) (h : Heap) (L : List Loc) : Prop := v = none ∧ Fr n0 L ∧ Keep h0 h [a1] ∧ Fld Z h a1 "com/example/handoff/handoff/RecordWriter" "at" "I" (.int (0 : Int32)) ∧ ∃ (t : Addr) (k : ClassId), n0 ≤ t ∧ a1 ≠ t ∧ Fld Z h a1 "com/example/handoff/handoff/RecordWriter" "bytes" "[B" (.ref t) ∧ Arv Z h t k .byte (8 : Int32) [(.int (0 : Int32)), (.int (0 : Int32)), (.int (0 : Int32)), (.int (0 : Int32)), (.int (0 : Int32)), (.int (0 : Int32)), (.int (0 : Int32)), (.int (0 : Int32))] (.int (0 : Int32))
set_option maxRecDepth 65536 in
set_option maxHeartbeats 40000000 in
theorem rm1 (l : Launch) (Z : State) (a0 : Array Value) (hw : ∀ d ∈ tables_1, d.before a0 Z = true) (ws : List Jvm.Cond) (a1 : Addr) (h0 : Heap) (n0 : Nat) (Z0 : n0 ≤ h0.size) (F0 : Fld Z h0 a1 "com/example/handoff/handoff/RecordWriter" "bytes" "[B" .null) (F1 : Fld Z h0 a1 "com/example/handoff/handoff/RecordWriter" "at" "I" (.int (0 : Int32))) (EX : Exa Z h0 a1 "com/example/handoff/handoff/RecordWriter") (g_a1 : n0 ≤ a1) :
    MetFree l (⟨"com/example/handoff/handoff/RecordWriter", "<init>", "(I)V"⟩ : MethodName) (head1 (Jvm.Cond.code (⟨"com/example/handoff/handoff/RecordWriter", "<init>", "(I)V"⟩ : MethodName) prog_37_method_1_code 2 none :: ws) ({ frames := 1, cells := 1, slots := 8, locals := 12 } : Room)) (fun a U => a = #[(.ref a1), (.int (8 : Int32))] ∧ Z.Warmed39 U.vm ∧ U.heap = h0) (fun _ _ _ _ _ => True) (fun _ U o U' => ∃ v L, o = .returned v ∧ Q1 Z a1 h0 n0 v U'.heap L ∧ FrameEnd U o U' L ({ frames := 1, cells := 1, slots := 8, locals := 12 } : Room).cells ({ frames := 1, cells := 1, slots := 8, locals := 12 } : Room).slots) := by
  refine MetFree.of_bodySF (plainFor_of_name pn_1) hisR ?_
  intro p e s m args below meth c s₁ Bd hml0 hP hK
  obtain ⟨rfl, hZ, hh⟩ := hP
  have hx := Bd.exec
  have hby := Bd.bytes
  have hml : c.maxLocals = 2 := hml0
  have hown : s.vm.findClass "com/example/handoff/handoff/RecordWriter" = some m.cls := findClass_of_methodNamed Bd.named
  have hnm := (name_of_methodNamed Bd.named Bd.method).1
  have X0 : Stand p l e ({ frames := 1, cells := 1, slots := 8, locals := 12 } : Room) s m #[(.ref a1), (.int (8 : Int32))] below meth c s₁ [] 0 0 := Stand.of_body Bd
  have e0 : s₁.heap = h0 := by rw [← hh, Bd.state]; rfl
  have N0 := Fr.nil n0
  have pre0 : ∀ t, Steps p.tables e below (s₁.setTop (mkF m 0 #[.val (.ref a1), .val (.int (8 : Int32))] [])) t → Steps p.tables e below (s₁.setTop (entryFrame m #[(.ref a1), (.int (8 : Int32))] 2)) t := fun t k => castTop (ef_1 m a1 (8 : Int32)) k
  obtain ⟨T1, X1, e1, st1⟩ := initO X0 hx hZ hown (hw _ (List.mem_of_getElem? (i := 6) rfl)) (hw _ (List.mem_of_getElem? (i := 7) rfl)) (hw _ (List.mem_of_getElem? (i := 8) rfl)) e0 (g := (mkF m 1 #[.val (.ref a1), .val (.int (8 : Int32))] [(.ref a1)])) rfl (by rw [hml]; rfl) rfl (hb hby d1_1) (by decide) (W := 0) (by show 2 * 0 + _ ≤ _; exact Nat.le_of_eq rfl) (by decide)
  obtain ⟨T2, h2, k2, X2, e2, E2, A2, st2⟩ := newP X1 hx hZ (hw _ (List.mem_of_getElem? (i := 9) rfl)) e1 (g := (mkF m 6 #[.val (.ref a1), .val (.int (8 : Int32))] [(.int (8 : Int32)), (.ref a1)])) rfl (hb hby d1_6) rfl (by decide) (cap := 8) (by decide) (by decide) (by decide) (by decide)
  obtain ⟨t1, g2⟩ : ∃ z, z = h0.size := ⟨_, rfl⟩
  rw [← g2] at A2 st2
  have ne3 : a1 ≠ t1 := Nat.ne_of_lt (Nat.lt_of_lt_of_le F0.lt (Nat.le_of_eq g2.symm))
  have g_t1 : n0 ≤ t1 := Nat.le_trans Z0 (Nat.le_of_eq g2.symm)
  have sz_t1 : h0.size ≤ t1 := Nat.le_trans (Keep.refl h0 [a1]).1 (Nat.le_of_eq g2.symm)
  have f4 : Fld Z h2 a1 "com/example/handoff/handoff/RecordWriter" "bytes" "[B" .null := F0.ext E2
  have f5 : Fld Z h2 a1 "com/example/handoff/handoff/RecordWriter" "at" "I" (.int (0 : Int32)) := F1.ext E2
  have f6 : Exa Z h2 a1 "com/example/handoff/handoff/RecordWriter" := EX.ext E2
  have K7 : Keep h0 h2 [a1] := (Keep.refl h0 [a1]).ext E2
  have Z8 : n0 ≤ h2.size := Nat.le_trans Z0 E2.1
  have f9 : Arv Z h2 t1 k2 .byte (8 : Int32) [(.int (0 : Int32)), (.int (0 : Int32)), (.int (0 : Int32)), (.int (0 : Int32)), (.int (0 : Int32)), (.int (0 : Int32)), (.int (0 : Int32)), (.int (0 : Int32))] (.int (0 : Int32)) := (Arv.new A2 (by decide)).pad (pad_rep [] (.int (0 : Int32)) 8)
  obtain ⟨T10, h10, X10, e10, W10, st10⟩ := putF X2 hx hZ hown (host := "") (Or.inl (hw _ (List.mem_of_getElem? (i := 10) rfl))) Via.refl e2 f4 f6 (Or.inr ⟨(hw _ (List.mem_of_getElem? (i := 11) rfl)), rfl, hnm⟩) (hw _ (List.mem_of_getElem? (i := 1) rfl)) (ty := (.array .byte)) (by decide) rfl rfl (g := (mkF m 8 #[.val (.ref a1), .val (.int (8 : Int32))] [(.ref t1), (.ref a1)])) rfl rfl (hb hby d1_8)
  have f11 : Fld Z h10 a1 "com/example/handoff/handoff/RecordWriter" "bytes" "[B" (.ref t1) := f4.same W10
  have f12 : Fld Z h10 a1 "com/example/handoff/handoff/RecordWriter" "at" "I" (.int (0 : Int32)) := f5.other W10 (Or.inr (slot_ne (Or.inl (hw _ (List.mem_of_getElem? (i := 18) rfl))) (Or.inr (hw _ (List.mem_of_getElem? (i := 11) rfl))) (by decide) (t := .int) (t' := (.array .byte)) (by decide) (by decide)))
  have f13 : Exa Z h10 a1 "com/example/handoff/handoff/RecordWriter" := f6.wr W10
  have f14 : Arv Z h10 t1 k2 .byte (8 : Int32) [(.int (0 : Int32)), (.int (0 : Int32)), (.int (0 : Int32)), (.int (0 : Int32)), (.int (0 : Int32)), (.int (0 : Int32)), (.int (0 : Int32)), (.int (0 : Int32))] (.int (0 : Int32)) := f9.other W10 (Ne.symm ne3)
  have N10 := Fr.snoc X10 N0 g_a1
  have K15 : Keep h0 h10 [a1] := K7.wr W10 (Or.inl (List.mem_of_getElem? (i := 0) rfl))
  have Z16 : n0 ≤ h10.size := Nat.le_trans Z8 (Keep.of_wr W10).1
  obtain ⟨fs, hr, hrun, hended, hW, hsame⟩ := X10.leave (v := none) (fun _ => rfl)
  refine ⟨_, _, pre0 _ ?_, hrun, hended, _, _, rfl, ?_, ⟨_, rfl⟩, hW, hsame.mono (by decide) (by decide)⟩
  · show Steps p.tables e below (s₁.setTop (mkF m 0 #[.val (.ref a1), .val (.int (8 : Int32))] [])) _
    refine XS.aloadN X0.here hx rfl (hb hby d1_0) rfl rfl ?_
    show Steps p.tables e below (s₁.setTop (mkF m 1 #[.val (.ref a1), .val (.int (8 : Int32))] [(.ref a1)])) _
    refine st1 _ ?_
    show Steps p.tables e below (T1.setTop (mkF m 4 #[.val (.ref a1), .val (.int (8 : Int32))] [])) _
    refine XS.aloadN X1.here hx rfl (hb hby d1_4) rfl rfl ?_
    show Steps p.tables e below (T1.setTop (mkF m 5 #[.val (.ref a1), .val (.int (8 : Int32))] [(.ref a1)])) _
    refine XS.iloadN X1.here hx rfl (hb hby d1_5) rfl ?_
    show Steps p.tables e below (T1.setTop (mkF m 6 #[.val (.ref a1), .val (.int (8 : Int32))] [(.int (8 : Int32)), (.ref a1)])) _
    refine st2 _ ?_
    show Steps p.tables e below (T2.setTop (mkF m 8 #[.val (.ref a1), .val (.int (8 : Int32))] [(.ref t1), (.ref a1)])) _
    refine st10 _ ?_
    show Steps p.tables e below (T10.setTop (mkF m 11 #[.val (.ref a1), .val (.int (8 : Int32))] [])) _
    exact X10.returnOut hx Bd.returns (hb hby d1_11) hr
  · show Q1 Z a1 h0 n0 _ T10.heap _
    rw [e10]
    exact ⟨rfl, N10, K15, f12, t1, k2, g_t1, ne3, f11, f14⟩
theorem d3_0 : decode prog_37_method_3_code 0 = .ok (.aload_n 0, 1) := by decide +kernel
theorem d3_1 : decode prog_37_method_3_code 1 = .ok (.getfield 7, 3) := by decide +kernel
theorem d3_4 : decode prog_37_method_3_code 4 = .ok (.aload_n 0, 1) := by decide +kernel
theorem d3_5 : decode prog_37_method_3_code 5 = .ok (.getfield 17, 3) := by decide +kernel
theorem d3_8 : decode prog_37_method_3_code 8 = .ok (.iload_n 1, 1) := by decide +kernel
theorem d3_9 : decode prog_37_method_3_code 9 = .ok (.bipush 24, 2) := by decide +kernel
theorem d3_11 : decode prog_37_method_3_code 11 = .ok (.iushr, 1) := by decide +kernel
theorem d3_12 : decode prog_37_method_3_code 12 = .ok (.i2b, 1) := by decide +kernel
theorem d3_13 : decode prog_37_method_3_code 13 = .ok (.bastore, 1) := by decide +kernel
theorem d3_14 : decode prog_37_method_3_code 14 = .ok (.aload_n 0, 1) := by decide +kernel
theorem d3_15 : decode prog_37_method_3_code 15 = .ok (.getfield 7, 3) := by decide +kernel
theorem d3_18 : decode prog_37_method_3_code 18 = .ok (.aload_n 0, 1) := by decide +kernel
theorem d3_19 : decode prog_37_method_3_code 19 = .ok (.getfield 17, 3) := by decide +kernel
theorem d3_22 : decode prog_37_method_3_code 22 = .ok (.iconst 1, 1) := by decide +kernel
theorem d3_23 : decode prog_37_method_3_code 23 = .ok (.iadd, 1) := by decide +kernel
theorem d3_24 : decode prog_37_method_3_code 24 = .ok (.iload_n 1, 1) := by decide +kernel
theorem d3_25 : decode prog_37_method_3_code 25 = .ok (.bipush 16, 2) := by decide +kernel
theorem d3_27 : decode prog_37_method_3_code 27 = .ok (.iushr, 1) := by decide +kernel
theorem d3_28 : decode prog_37_method_3_code 28 = .ok (.i2b, 1) := by decide +kernel
theorem d3_29 : decode prog_37_method_3_code 29 = .ok (.bastore, 1) := by decide +kernel
theorem d3_30 : decode prog_37_method_3_code 30 = .ok (.aload_n 0, 1) := by decide +kernel
theorem d3_31 : decode prog_37_method_3_code 31 = .ok (.getfield 7, 3) := by decide +kernel
theorem d3_34 : decode prog_37_method_3_code 34 = .ok (.aload_n 0, 1) := by decide +kernel
theorem d3_35 : decode prog_37_method_3_code 35 = .ok (.getfield 17, 3) := by decide +kernel
theorem d3_38 : decode prog_37_method_3_code 38 = .ok (.iconst 2, 1) := by decide +kernel
theorem d3_39 : decode prog_37_method_3_code 39 = .ok (.iadd, 1) := by decide +kernel
theorem d3_40 : decode prog_37_method_3_code 40 = .ok (.iload_n 1, 1) := by decide +kernel
theorem d3_41 : decode prog_37_method_3_code 41 = .ok (.bipush 8, 2) := by decide +kernel
theorem d3_43 : decode prog_37_method_3_code 43 = .ok (.iushr, 1) := by decide +kernel
theorem d3_44 : decode prog_37_method_3_code 44 = .ok (.i2b, 1) := by decide +kernel
theorem d3_45 : decode prog_37_method_3_code 45 = .ok (.bastore, 1) := by decide +kernel
theorem d3_46 : decode prog_37_method_3_code 46 = .ok (.aload_n 0, 1) := by decide +kernel
theorem d3_47 : decode prog_37_method_3_code 47 = .ok (.getfield 7, 3) := by decide +kernel
theorem d3_50 : decode prog_37_method_3_code 50 = .ok (.aload_n 0, 1) := by decide +kernel
theorem d3_51 : decode prog_37_method_3_code 51 = .ok (.getfield 17, 3) := by decide +kernel
theorem d3_54 : decode prog_37_method_3_code 54 = .ok (.iconst 3, 1) := by decide +kernel
theorem d3_55 : decode prog_37_method_3_code 55 = .ok (.iadd, 1) := by decide +kernel
theorem d3_56 : decode prog_37_method_3_code 56 = .ok (.iload_n 1, 1) := by decide +kernel
theorem d3_57 : decode prog_37_method_3_code 57 = .ok (.i2b, 1) := by decide +kernel
theorem d3_58 : decode prog_37_method_3_code 58 = .ok (.bastore, 1) := by decide +kernel
theorem d3_59 : decode prog_37_method_3_code 59 = .ok (.aload_n 0, 1) := by decide +kernel
theorem d3_60 : decode prog_37_method_3_code 60 = .ok (.dup, 1) := by decide +kernel
theorem d3_61 : decode prog_37_method_3_code 61 = .ok (.getfield 17, 3) := by decide +kernel
theorem d3_64 : decode prog_37_method_3_code 64 = .ok (.iconst 4, 1) := by decide +kernel
theorem d3_65 : decode prog_37_method_3_code 65 = .ok (.iadd, 1) := by decide +kernel
theorem d3_66 : decode prog_37_method_3_code 66 = .ok (.putfield 17, 3) := by decide +kernel
theorem d3_69 : decode prog_37_method_3_code 69 = .ok (.aload_n 0, 1) := by decide +kernel
theorem d3_70 : decode prog_37_method_3_code 70 = .ok (.areturn, 1) := by decide +kernel
theorem ef_3a (m : MethodId) (x0 : Addr) (x1 : Int32) : entryFrame m #[(.ref x0), (.int x1)] 2 = mkF m 0 #[.val (.ref x0), .val (.int x1)] [] := by first | (simp [entryFrame, mkF, argsToLocals, Value.category]; done) | rfl
def Q3a (Z : State) (a1 : Addr) (p1 : Int32) (t1 : Addr) (k1 : ClassId) (h0 : Heap) (n0 : Nat) (v : Option Value) (h : Heap) (L : List Loc) : Prop := v = some (.ref a1) ∧ Fr n0 L ∧ Keep h0 h [a1, t1] ∧ Fld Z h a1 "com/example/handoff/handoff/RecordWriter" "bytes" "[B" (.ref t1) ∧ Fld Z h a1 "com/example/handoff/handoff/RecordWriter" "at" "I" (.int (4 : Int32)) ∧ Arv Z h t1 k1 .byte (8 : Int32) [(.int (own_sh p1 24)), (.int (own_sh p1 16)), (.int (own_sh p1 8)), (.int (own_lo p1)), (.int (0 : Int32)), (.int (0 : Int32)), (.int (0 : Int32)), (.int (0 : Int32))] (.int (0 : Int32))
set_option maxRecDepth 65536 in
set_option maxHeartbeats 40000000 in
theorem rm3a (l : Launch) (Z : State) (a0 : Array Value) (hw : ∀ d ∈ tables_1, d.before a0 Z = true) (ws : List Jvm.Cond) (a1 : Addr) (p1 : Int32) (t1 : Addr) (k1 : ClassId) (h0 : Heap) (n0 : Nat) (Z0 : n0 ≤ h0.size) (F0 : Fld Z h0 a1 "com/example/handoff/handoff/RecordWriter" "bytes" "[B" (.ref t1)) (F1 : Fld Z h0 a1 "com/example/handoff/handoff/RecordWriter" "at" "I" (.int (0 : Int32))) (EX : Exa Z h0 a1 "com/example/handoff/handoff/RecordWriter") (A0 : Arv Z h0 t1 k1 .byte (8 : Int32) [(.int (0 : Int32)), (.int (0 : Int32)), (.int (0 : Int32)), (.int (0 : Int32)), (.int (0 : Int32)), (.int (0 : Int32)), (.int (0 : Int32)), (.int (0 : Int32))] (.int (0 : Int32))) (g_a1 : n0 ≤ a1) (g_t1 : n0 ≤ t1) (ne1 : a1 ≠ t1) :
    MetFree l (⟨"com/example/handoff/handoff/RecordWriter", "putInt", "(I)Lcom/example/handoff/handoff/RecordWriter;"⟩ : MethodName) (head1 (Jvm.Cond.code (⟨"com/example/handoff/handoff/RecordWriter", "putInt", "(I)Lcom/example/handoff/handoff/RecordWriter;"⟩ : MethodName) prog_37_method_3_code 2 (some (.object "com/example/handoff/handoff/RecordWriter")) :: ws) ({ frames := 0, cells := 0, slots := 0, locals := 0 } : Room)) (fun a U => a = #[(.ref a1), (.int p1)] ∧ Z.Warmed39 U.vm ∧ U.heap = h0) (fun _ _ _ _ _ => True) (fun _ U o U' => ∃ v L, o = .returned v ∧ Q3a Z a1 p1 t1 k1 h0 n0 v U'.heap L ∧ FrameEnd U o U' L ({ frames := 0, cells := 0, slots := 0, locals := 0 } : Room).cells ({ frames := 0, cells := 0, slots := 0, locals := 0 } : Room).slots) := by
  refine MetFree.of_bodySF (plainFor_of_name pn_1) hisR ?_
  intro p e s m args below meth c s₁ Bd hml0 hP hK
  obtain ⟨rfl, hZ, hh⟩ := hP
  have hx := Bd.exec
  have hby := Bd.bytes
  have hml : c.maxLocals = 2 := hml0
  have hown : s.vm.findClass "com/example/handoff/handoff/RecordWriter" = some m.cls := findClass_of_methodNamed Bd.named
  have hnm := (name_of_methodNamed Bd.named Bd.method).1
  have X0 : Stand p l e ({ frames := 0, cells := 0, slots := 0, locals := 0 } : Room) s m #[(.ref a1), (.int p1)] below meth c s₁ [] 0 0 := Stand.of_body Bd
  have e0 : s₁.heap = h0 := by rw [← hh, Bd.state]; rfl
  have N0 := Fr.nil n0
  have pre0 : ∀ t, Steps p.tables e below (s₁.setTop (mkF m 0 #[.val (.ref a1), .val (.int p1)] [])) t → Steps p.tables e below (s₁.setTop (entryFrame m #[(.ref a1), (.int p1)] 2)) t := fun t k => castTop (ef_3a m a1 p1) k
  obtain ⟨T1, X1, e1, st1⟩ := getF X0 hx hZ hown (host := "") (Or.inl (hw _ (List.mem_of_getElem? (i := 10) rfl))) Via.refl e0 F0 (g := (mkF m 1 #[.val (.ref a1), .val (.int p1)] [(.ref a1)])) rfl rfl (hb hby d3_1)
  obtain ⟨T2, X2, e2, st2⟩ := getF X1 hx hZ hown (host := "") (Or.inl (hw _ (List.mem_of_getElem? (i := 17) rfl))) Via.refl e1 F1 (g := (mkF m 5 #[.val (.ref a1), .val (.int p1)] [(.ref a1), (.ref t1)])) rfl rfl (hb hby d3_5)
  obtain ⟨cl3, Ar3, q3, S3, M3, H3, G3⟩ := id A0
  have hin3 : ¬ ((0 : Int32) < 0 ∨ cl3.slots.size ≤ ((0 : Int32)).toNatClampNeg) := inb_of S3 ⟨by decide, by decide⟩
  obtain ⟨T4, h4, X4, e4, W4, st4⟩ := stB X2 hx hZ e2 Ar3 (j := (0 : Int32)) hin3 (g := (mkF m 13 #[.val (.ref a1), .val (.int p1)] [(.int (((p1.toUInt32 >>> ((24 : Int32) &&& 31).toUInt32).toInt32).toInt8.toInt32)), (.int (0 : Int32)), (.ref t1)])) rfl rfl (hb hby d3_13)
  have f6 : Fld Z h4 a1 "com/example/handoff/handoff/RecordWriter" "bytes" "[B" (.ref t1) := F0.other W4 (Or.inl ne1)
  have f7 : Fld Z h4 a1 "com/example/handoff/handoff/RecordWriter" "at" "I" (.int (0 : Int32)) := F1.other W4 (Or.inl ne1)
  have f8 : Exa Z h4 a1 "com/example/handoff/handoff/RecordWriter" := EX.wr W4
  have f9 : Arv Z h4 t1 k1 .byte (8 : Int32) [(.int (nar .byte (((p1.toUInt32 >>> ((24 : Int32) &&& 31).toUInt32).toInt32).toInt8.toInt32))), (.int (0 : Int32)), (.int (0 : Int32)), (.int (0 : Int32)), (.int (0 : Int32)), (.int (0 : Int32)), (.int (0 : Int32)), (.int (0 : Int32))] (.int (0 : Int32)) := Arv.set Ar3 q3 S3 M3 H3 G3 (fits_nar_byte _) W4 0 (by decide) (Nat.le_of_ble_eq_true rfl)
  have N4 := Fr.snoc X4 N0 g_t1
  have K10 : Keep h0 h4 [a1, t1] := (Keep.refl h0 [a1, t1]).wr W4 (Or.inl (List.mem_of_getElem? (i := 1) rfl))
  have Z11 : n0 ≤ h4.size := Nat.le_trans Z0 (Keep.of_wr W4).1
  obtain ⟨T12, X12, e12, st12⟩ := getF X4 hx hZ hown (host := "") (Or.inl (hw _ (List.mem_of_getElem? (i := 10) rfl))) Via.refl e4 f6 (g := (mkF m 15 #[.val (.ref a1), .val (.int p1)] [(.ref a1)])) rfl rfl (hb hby d3_15)
  obtain ⟨T13, X13, e13, st13⟩ := getF X12 hx hZ hown (host := "") (Or.inl (hw _ (List.mem_of_getElem? (i := 17) rfl))) Via.refl e12 f7 (g := (mkF m 19 #[.val (.ref a1), .val (.int p1)] [(.ref a1), (.ref t1)])) rfl rfl (hb hby d3_19)
  obtain ⟨cl14, Ar14, q14, S14, M14, H14, G14⟩ := id f9
  have hin14 : ¬ (((0 : Int32) + (1 : Int32)) < 0 ∨ cl14.slots.size ≤ (((0 : Int32) + (1 : Int32))).toNatClampNeg) := inb_of S14 ⟨by decide, by decide⟩
  obtain ⟨T15, h15, X15, e15, W15, st15⟩ := stB X13 hx hZ e13 Ar14 (j := ((0 : Int32) + (1 : Int32))) hin14 (g := (mkF m 29 #[.val (.ref a1), .val (.int p1)] [(.int (((p1.toUInt32 >>> ((16 : Int32) &&& 31).toUInt32).toInt32).toInt8.toInt32)), (.int ((0 : Int32) + (1 : Int32))), (.ref t1)])) rfl rfl (hb hby d3_29)
  have f17 : Fld Z h15 a1 "com/example/handoff/handoff/RecordWriter" "bytes" "[B" (.ref t1) := f6.other W15 (Or.inl ne1)
  have f18 : Fld Z h15 a1 "com/example/handoff/handoff/RecordWriter" "at" "I" (.int (0 : Int32)) := f7.other W15 (Or.inl ne1)
  have f19 : Exa Z h15 a1 "com/example/handoff/handoff/RecordWriter" := f8.wr W15
  have f20 : Arv Z h15 t1 k1 .byte (8 : Int32) [(.int (nar .byte (((p1.toUInt32 >>> ((24 : Int32) &&& 31).toUInt32).toInt32).toInt8.toInt32))), (.int (nar .byte (((p1.toUInt32 >>> ((16 : Int32) &&& 31).toUInt32).toInt32).toInt8.toInt32))), (.int (0 : Int32)), (.int (0 : Int32)), (.int (0 : Int32)), (.int (0 : Int32)), (.int (0 : Int32)), (.int (0 : Int32))] (.int (0 : Int32)) := Arv.set Ar14 q14 S14 M14 H14 G14 (fits_nar_byte _) W15 1 (by decide) (Nat.le_of_ble_eq_true rfl)
  have N15 := Fr.snoc X15 N4 g_t1
  have K21 : Keep h0 h15 [a1, t1] := K10.wr W15 (Or.inl (List.mem_of_getElem? (i := 1) rfl))
  have Z22 : n0 ≤ h15.size := Nat.le_trans Z11 (Keep.of_wr W15).1
  obtain ⟨T23, X23, e23, st23⟩ := getF X15 hx hZ hown (host := "") (Or.inl (hw _ (List.mem_of_getElem? (i := 10) rfl))) Via.refl e15 f17 (g := (mkF m 31 #[.val (.ref a1), .val (.int p1)] [(.ref a1)])) rfl rfl (hb hby d3_31)
  obtain ⟨T24, X24, e24, st24⟩ := getF X23 hx hZ hown (host := "") (Or.inl (hw _ (List.mem_of_getElem? (i := 17) rfl))) Via.refl e23 f18 (g := (mkF m 35 #[.val (.ref a1), .val (.int p1)] [(.ref a1), (.ref t1)])) rfl rfl (hb hby d3_35)
  obtain ⟨cl25, Ar25, q25, S25, M25, H25, G25⟩ := id f20
  have hin25 : ¬ (((0 : Int32) + (2 : Int32)) < 0 ∨ cl25.slots.size ≤ (((0 : Int32) + (2 : Int32))).toNatClampNeg) := inb_of S25 ⟨by decide, by decide⟩
  obtain ⟨T26, h26, X26, e26, W26, st26⟩ := stB X24 hx hZ e24 Ar25 (j := ((0 : Int32) + (2 : Int32))) hin25 (g := (mkF m 45 #[.val (.ref a1), .val (.int p1)] [(.int (((p1.toUInt32 >>> ((8 : Int32) &&& 31).toUInt32).toInt32).toInt8.toInt32)), (.int ((0 : Int32) + (2 : Int32))), (.ref t1)])) rfl rfl (hb hby d3_45)
  have f28 : Fld Z h26 a1 "com/example/handoff/handoff/RecordWriter" "bytes" "[B" (.ref t1) := f17.other W26 (Or.inl ne1)
  have f29 : Fld Z h26 a1 "com/example/handoff/handoff/RecordWriter" "at" "I" (.int (0 : Int32)) := f18.other W26 (Or.inl ne1)
  have f30 : Exa Z h26 a1 "com/example/handoff/handoff/RecordWriter" := f19.wr W26
  have f31 : Arv Z h26 t1 k1 .byte (8 : Int32) [(.int (nar .byte (((p1.toUInt32 >>> ((24 : Int32) &&& 31).toUInt32).toInt32).toInt8.toInt32))), (.int (nar .byte (((p1.toUInt32 >>> ((16 : Int32) &&& 31).toUInt32).toInt32).toInt8.toInt32))), (.int (nar .byte (((p1.toUInt32 >>> ((8 : Int32) &&& 31).toUInt32).toInt32).toInt8.toInt32))), (.int (0 : Int32)), (.int (0 : Int32)), (.int (0 : Int32)), (.int (0 : Int32)), (.int (0 : Int32))] (.int (0 : Int32)) := Arv.set Ar25 q25 S25 M25 H25 G25 (fits_nar_byte _) W26 2 (by decide) (Nat.le_of_ble_eq_true rfl)
  have N26 := Fr.snoc X26 N15 g_t1
  have K32 : Keep h0 h26 [a1, t1] := K21.wr W26 (Or.inl (List.mem_of_getElem? (i := 1) rfl))
  have Z33 : n0 ≤ h26.size := Nat.le_trans Z22 (Keep.of_wr W26).1
  obtain ⟨T34, X34, e34, st34⟩ := getF X26 hx hZ hown (host := "") (Or.inl (hw _ (List.mem_of_getElem? (i := 10) rfl))) Via.refl e26 f28 (g := (mkF m 47 #[.val (.ref a1), .val (.int p1)] [(.ref a1)])) rfl rfl (hb hby d3_47)
  obtain ⟨T35, X35, e35, st35⟩ := getF X34 hx hZ hown (host := "") (Or.inl (hw _ (List.mem_of_getElem? (i := 17) rfl))) Via.refl e34 f29 (g := (mkF m 51 #[.val (.ref a1), .val (.int p1)] [(.ref a1), (.ref t1)])) rfl rfl (hb hby d3_51)
  obtain ⟨cl36, Ar36, q36, S36, M36, H36, G36⟩ := id f31
  have hin36 : ¬ (((0 : Int32) + (3 : Int32)) < 0 ∨ cl36.slots.size ≤ (((0 : Int32) + (3 : Int32))).toNatClampNeg) := inb_of S36 ⟨by decide, by decide⟩
  obtain ⟨T37, h37, X37, e37, W37, st37⟩ := stB X35 hx hZ e35 Ar36 (j := ((0 : Int32) + (3 : Int32))) hin36 (g := (mkF m 58 #[.val (.ref a1), .val (.int p1)] [(.int (p1.toInt8.toInt32)), (.int ((0 : Int32) + (3 : Int32))), (.ref t1)])) rfl rfl (hb hby d3_58)
  have f39 : Fld Z h37 a1 "com/example/handoff/handoff/RecordWriter" "bytes" "[B" (.ref t1) := f28.other W37 (Or.inl ne1)
  have f40 : Fld Z h37 a1 "com/example/handoff/handoff/RecordWriter" "at" "I" (.int (0 : Int32)) := f29.other W37 (Or.inl ne1)
  have f41 : Exa Z h37 a1 "com/example/handoff/handoff/RecordWriter" := f30.wr W37
  have f42 : Arv Z h37 t1 k1 .byte (8 : Int32) [(.int (nar .byte (((p1.toUInt32 >>> ((24 : Int32) &&& 31).toUInt32).toInt32).toInt8.toInt32))), (.int (nar .byte (((p1.toUInt32 >>> ((16 : Int32) &&& 31).toUInt32).toInt32).toInt8.toInt32))), (.int (nar .byte (((p1.toUInt32 >>> ((8 : Int32) &&& 31).toUInt32).toInt32).toInt8.toInt32))), (.int (nar .byte (p1.toInt8.toInt32))), (.int (0 : Int32)), (.int (0 : Int32)), (.int (0 : Int32)), (.int (0 : Int32))] (.int (0 : Int32)) := Arv.set Ar36 q36 S36 M36 H36 G36 (fits_nar_byte _) W37 3 (by decide) (Nat.le_of_ble_eq_true rfl)
  have N37 := Fr.snoc X37 N26 g_t1
  have K43 : Keep h0 h37 [a1, t1] := K32.wr W37 (Or.inl (List.mem_of_getElem? (i := 1) rfl))
  have Z44 : n0 ≤ h37.size := Nat.le_trans Z33 (Keep.of_wr W37).1
  obtain ⟨T45, X45, e45, st45⟩ := getF X37 hx hZ hown (host := "") (Or.inl (hw _ (List.mem_of_getElem? (i := 17) rfl))) Via.refl e37 f40 (g := (mkF m 61 #[.val (.ref a1), .val (.int p1)] [(.ref a1), (.ref a1)])) rfl rfl (hb hby d3_61)
  obtain ⟨T46, h46, X46, e46, W46, st46⟩ := putF X45 hx hZ hown (host := "") (Or.inl (hw _ (List.mem_of_getElem? (i := 17) rfl))) Via.refl e45 f40 f41 (Or.inl (hw _ (List.mem_of_getElem? (i := 18) rfl))) (hw _ (List.mem_of_getElem? (i := 1) rfl)) (ty := .int) (by decide) rfl rfl (g := (mkF m 66 #[.val (.ref a1), .val (.int p1)] [(.int ((0 : Int32) + (4 : Int32))), (.ref a1)])) rfl rfl (hb hby d3_66)
  have f47 : Fld Z h46 a1 "com/example/handoff/handoff/RecordWriter" "bytes" "[B" (.ref t1) := f39.other W46 (Or.inr (slot_ne (Or.inr (hw _ (List.mem_of_getElem? (i := 11) rfl))) (Or.inl (hw _ (List.mem_of_getElem? (i := 18) rfl))) (by decide) (t := (.array .byte)) (t' := .int) (by decide) (by decide)))
  have f48 : Fld Z h46 a1 "com/example/handoff/handoff/RecordWriter" "at" "I" (.int ((0 : Int32) + (4 : Int32))) := f40.same W46
  have f49 : Exa Z h46 a1 "com/example/handoff/handoff/RecordWriter" := f41.wr W46
  have f50 : Arv Z h46 t1 k1 .byte (8 : Int32) [(.int (nar .byte (((p1.toUInt32 >>> ((24 : Int32) &&& 31).toUInt32).toInt32).toInt8.toInt32))), (.int (nar .byte (((p1.toUInt32 >>> ((16 : Int32) &&& 31).toUInt32).toInt32).toInt8.toInt32))), (.int (nar .byte (((p1.toUInt32 >>> ((8 : Int32) &&& 31).toUInt32).toInt32).toInt8.toInt32))), (.int (nar .byte (p1.toInt8.toInt32))), (.int (0 : Int32)), (.int (0 : Int32)), (.int (0 : Int32)), (.int (0 : Int32))] (.int (0 : Int32)) := f42.other W46 (Ne.symm ne1)
  have N46 := Fr.snoc X46 N37 g_a1
  have K51 : Keep h0 h46 [a1, t1] := K43.wr W46 (Or.inl (List.mem_of_getElem? (i := 0) rfl))
  have Z52 : n0 ≤ h46.size := Nat.le_trans Z44 (Keep.of_wr W46).1
  obtain ⟨fs, hr, hrun, hended, hW, hsame⟩ := X46.leave (v := some (.ref a1)) (fun h => by rw [Bd.returns] at h; cases h)
  refine ⟨_, _, pre0 _ ?_, hrun, hended, _, _, rfl, ?_, ⟨_, rfl⟩, hW, hsame.mono (by decide) (by decide)⟩
  · show Steps p.tables e below (s₁.setTop (mkF m 0 #[.val (.ref a1), .val (.int p1)] [])) _
    refine XS.aloadN X0.here hx rfl (hb hby d3_0) rfl rfl ?_
    show Steps p.tables e below (s₁.setTop (mkF m 1 #[.val (.ref a1), .val (.int p1)] [(.ref a1)])) _
    refine st1 _ ?_
    show Steps p.tables e below (T1.setTop (mkF m 4 #[.val (.ref a1), .val (.int p1)] [(.ref t1)])) _
    refine XS.aloadN X1.here hx rfl (hb hby d3_4) rfl rfl ?_
    show Steps p.tables e below (T1.setTop (mkF m 5 #[.val (.ref a1), .val (.int p1)] [(.ref a1), (.ref t1)])) _
    refine st2 _ ?_
    show Steps p.tables e below (T2.setTop (mkF m 8 #[.val (.ref a1), .val (.int p1)] [(.int (0 : Int32)), (.ref t1)])) _
    refine XS.iloadN X2.here hx rfl (hb hby d3_8) rfl ?_
    show Steps p.tables e below (T2.setTop (mkF m 9 #[.val (.ref a1), .val (.int p1)] [(.int p1), (.int (0 : Int32)), (.ref t1)])) _
    refine XS.bipush X2.here hx rfl (hb hby d3_9) ?_
    show Steps p.tables e below (T2.setTop (mkF m 11 #[.val (.ref a1), .val (.int p1)] [(.int (24 : Int32)), (.int p1), (.int (0 : Int32)), (.ref t1)])) _
    refine XS.iushr X2.here hx rfl (hb hby d3_11) rfl ?_
    show Steps p.tables e below (T2.setTop (mkF m 12 #[.val (.ref a1), .val (.int p1)] [(.int ((p1.toUInt32 >>> ((24 : Int32) &&& 31).toUInt32).toInt32)), (.int (0 : Int32)), (.ref t1)])) _
    refine XS.i2b X2.here hx rfl (hb hby d3_12) rfl ?_
    show Steps p.tables e below (T2.setTop (mkF m 13 #[.val (.ref a1), .val (.int p1)] [(.int (((p1.toUInt32 >>> ((24 : Int32) &&& 31).toUInt32).toInt32).toInt8.toInt32)), (.int (0 : Int32)), (.ref t1)])) _
    refine st4 _ ?_
    show Steps p.tables e below (T4.setTop (mkF m 14 #[.val (.ref a1), .val (.int p1)] [])) _
    refine XS.aloadN X4.here hx rfl (hb hby d3_14) rfl rfl ?_
    show Steps p.tables e below (T4.setTop (mkF m 15 #[.val (.ref a1), .val (.int p1)] [(.ref a1)])) _
    refine st12 _ ?_
    show Steps p.tables e below (T12.setTop (mkF m 18 #[.val (.ref a1), .val (.int p1)] [(.ref t1)])) _
    refine XS.aloadN X12.here hx rfl (hb hby d3_18) rfl rfl ?_
    show Steps p.tables e below (T12.setTop (mkF m 19 #[.val (.ref a1), .val (.int p1)] [(.ref a1), (.ref t1)])) _
    refine st13 _ ?_
    show Steps p.tables e below (T13.setTop (mkF m 22 #[.val (.ref a1), .val (.int p1)] [(.int (0 : Int32)), (.ref t1)])) _
    refine XS.iconst X13.here hx rfl (hb hby d3_22) ?_
    show Steps p.tables e below (T13.setTop (mkF m 23 #[.val (.ref a1), .val (.int p1)] [(.int (1 : Int32)), (.int (0 : Int32)), (.ref t1)])) _
    refine XS.iadd X13.here hx rfl (hb hby d3_23) rfl ?_
    show Steps p.tables e below (T13.setTop (mkF m 24 #[.val (.ref a1), .val (.int p1)] [(.int ((0 : Int32) + (1 : Int32))), (.ref t1)])) _
    refine XS.iloadN X13.here hx rfl (hb hby d3_24) rfl ?_
    show Steps p.tables e below (T13.setTop (mkF m 25 #[.val (.ref a1), .val (.int p1)] [(.int p1), (.int ((0 : Int32) + (1 : Int32))), (.ref t1)])) _
    refine XS.bipush X13.here hx rfl (hb hby d3_25) ?_
    show Steps p.tables e below (T13.setTop (mkF m 27 #[.val (.ref a1), .val (.int p1)] [(.int (16 : Int32)), (.int p1), (.int ((0 : Int32) + (1 : Int32))), (.ref t1)])) _
    refine XS.iushr X13.here hx rfl (hb hby d3_27) rfl ?_
    show Steps p.tables e below (T13.setTop (mkF m 28 #[.val (.ref a1), .val (.int p1)] [(.int ((p1.toUInt32 >>> ((16 : Int32) &&& 31).toUInt32).toInt32)), (.int ((0 : Int32) + (1 : Int32))), (.ref t1)])) _
    refine XS.i2b X13.here hx rfl (hb hby d3_28) rfl ?_
    show Steps p.tables e below (T13.setTop (mkF m 29 #[.val (.ref a1), .val (.int p1)] [(.int (((p1.toUInt32 >>> ((16 : Int32) &&& 31).toUInt32).toInt32).toInt8.toInt32)), (.int ((0 : Int32) + (1 : Int32))), (.ref t1)])) _
    refine st15 _ ?_
    show Steps p.tables e below (T15.setTop (mkF m 30 #[.val (.ref a1), .val (.int p1)] [])) _
    refine XS.aloadN X15.here hx rfl (hb hby d3_30) rfl rfl ?_
    show Steps p.tables e below (T15.setTop (mkF m 31 #[.val (.ref a1), .val (.int p1)] [(.ref a1)])) _
    refine st23 _ ?_
    show Steps p.tables e below (T23.setTop (mkF m 34 #[.val (.ref a1), .val (.int p1)] [(.ref t1)])) _
    refine XS.aloadN X23.here hx rfl (hb hby d3_34) rfl rfl ?_
    show Steps p.tables e below (T23.setTop (mkF m 35 #[.val (.ref a1), .val (.int p1)] [(.ref a1), (.ref t1)])) _
    refine st24 _ ?_
    show Steps p.tables e below (T24.setTop (mkF m 38 #[.val (.ref a1), .val (.int p1)] [(.int (0 : Int32)), (.ref t1)])) _
    refine XS.iconst X24.here hx rfl (hb hby d3_38) ?_
    show Steps p.tables e below (T24.setTop (mkF m 39 #[.val (.ref a1), .val (.int p1)] [(.int (2 : Int32)), (.int (0 : Int32)), (.ref t1)])) _
    refine XS.iadd X24.here hx rfl (hb hby d3_39) rfl ?_
    show Steps p.tables e below (T24.setTop (mkF m 40 #[.val (.ref a1), .val (.int p1)] [(.int ((0 : Int32) + (2 : Int32))), (.ref t1)])) _
    refine XS.iloadN X24.here hx rfl (hb hby d3_40) rfl ?_
    show Steps p.tables e below (T24.setTop (mkF m 41 #[.val (.ref a1), .val (.int p1)] [(.int p1), (.int ((0 : Int32) + (2 : Int32))), (.ref t1)])) _
    refine XS.bipush X24.here hx rfl (hb hby d3_41) ?_
    show Steps p.tables e below (T24.setTop (mkF m 43 #[.val (.ref a1), .val (.int p1)] [(.int (8 : Int32)), (.int p1), (.int ((0 : Int32) + (2 : Int32))), (.ref t1)])) _
    refine XS.iushr X24.here hx rfl (hb hby d3_43) rfl ?_
    show Steps p.tables e below (T24.setTop (mkF m 44 #[.val (.ref a1), .val (.int p1)] [(.int ((p1.toUInt32 >>> ((8 : Int32) &&& 31).toUInt32).toInt32)), (.int ((0 : Int32) + (2 : Int32))), (.ref t1)])) _
    refine XS.i2b X24.here hx rfl (hb hby d3_44) rfl ?_
    show Steps p.tables e below (T24.setTop (mkF m 45 #[.val (.ref a1), .val (.int p1)] [(.int (((p1.toUInt32 >>> ((8 : Int32) &&& 31).toUInt32).toInt32).toInt8.toInt32)), (.int ((0 : Int32) + (2 : Int32))), (.ref t1)])) _
    refine st26 _ ?_
    show Steps p.tables e below (T26.setTop (mkF m 46 #[.val (.ref a1), .val (.int p1)] [])) _
    refine XS.aloadN X26.here hx rfl (hb hby d3_46) rfl rfl ?_
    show Steps p.tables e below (T26.setTop (mkF m 47 #[.val (.ref a1), .val (.int p1)] [(.ref a1)])) _
    refine st34 _ ?_
    show Steps p.tables e below (T34.setTop (mkF m 50 #[.val (.ref a1), .val (.int p1)] [(.ref t1)])) _
    refine XS.aloadN X34.here hx rfl (hb hby d3_50) rfl rfl ?_
    show Steps p.tables e below (T34.setTop (mkF m 51 #[.val (.ref a1), .val (.int p1)] [(.ref a1), (.ref t1)])) _
    refine st35 _ ?_
    show Steps p.tables e below (T35.setTop (mkF m 54 #[.val (.ref a1), .val (.int p1)] [(.int (0 : Int32)), (.ref t1)])) _
    refine XS.iconst X35.here hx rfl (hb hby d3_54) ?_
    show Steps p.tables e below (T35.setTop (mkF m 55 #[.val (.ref a1), .val (.int p1)] [(.int (3 : Int32)), (.int (0 : Int32)), (.ref t1)])) _
    refine XS.iadd X35.here hx rfl (hb hby d3_55) rfl ?_
    show Steps p.tables e below (T35.setTop (mkF m 56 #[.val (.ref a1), .val (.int p1)] [(.int ((0 : Int32) + (3 : Int32))), (.ref t1)])) _
    refine XS.iloadN X35.here hx rfl (hb hby d3_56) rfl ?_
    show Steps p.tables e below (T35.setTop (mkF m 57 #[.val (.ref a1), .val (.int p1)] [(.int p1), (.int ((0 : Int32) + (3 : Int32))), (.ref t1)])) _
    refine XS.i2b X35.here hx rfl (hb hby d3_57) rfl ?_
    show Steps p.tables e below (T35.setTop (mkF m 58 #[.val (.ref a1), .val (.int p1)] [(.int (p1.toInt8.toInt32)), (.int ((0 : Int32) + (3 : Int32))), (.ref t1)])) _
    refine st37 _ ?_
    show Steps p.tables e below (T37.setTop (mkF m 59 #[.val (.ref a1), .val (.int p1)] [])) _
    refine XS.aloadN X37.here hx rfl (hb hby d3_59) rfl rfl ?_
    show Steps p.tables e below (T37.setTop (mkF m 60 #[.val (.ref a1), .val (.int p1)] [(.ref a1)])) _
    refine XS.dup X37.here hx rfl (hb hby d3_60) rfl rfl ?_
    show Steps p.tables e below (T37.setTop (mkF m 61 #[.val (.ref a1), .val (.int p1)] [(.ref a1), (.ref a1)])) _
    refine st45 _ ?_
    show Steps p.tables e below (T45.setTop (mkF m 64 #[.val (.ref a1), .val (.int p1)] [(.int (0 : Int32)), (.ref a1)])) _
    refine XS.iconst X45.here hx rfl (hb hby d3_64) ?_
    show Steps p.tables e below (T45.setTop (mkF m 65 #[.val (.ref a1), .val (.int p1)] [(.int (4 : Int32)), (.int (0 : Int32)), (.ref a1)])) _
    refine XS.iadd X45.here hx rfl (hb hby d3_65) rfl ?_
    show Steps p.tables e below (T45.setTop (mkF m 66 #[.val (.ref a1), .val (.int p1)] [(.int ((0 : Int32) + (4 : Int32))), (.ref a1)])) _
    refine st46 _ ?_
    show Steps p.tables e below (T46.setTop (mkF m 69 #[.val (.ref a1), .val (.int p1)] [])) _
    refine XS.aloadN X46.here hx rfl (hb hby d3_69) rfl rfl ?_
    show Steps p.tables e below (T46.setTop (mkF m 70 #[.val (.ref a1), .val (.int p1)] [(.ref a1)])) _
    jvm_step X46.here [X46.here.top, hx, (hb hby d3_70), X46.method', Bd.returns, Value.isRef, FieldType.isReference]
    first | (intro acts; rw [hr _ acts rfl rfl rfl]) | rw [hr _ _ rfl rfl rfl]
    exact Steps.refl _
  · show Q3a Z a1 p1 t1 k1 h0 n0 _ T46.heap _
    rw [e46]
    refine ⟨rfl, N46, K51, f47, ?_, f50⟩
    rw [show (4 : Int32) = (0 : Int32) + (4 : Int32) from by decide]
    exact f48
theorem ef_3b (m : MethodId) (x0 : Addr) (x1 : Int32) : entryFrame m #[(.ref x0), (.int x1)] 2 = mkF m 0 #[.val (.ref x0), .val (.int x1)] [] := by first | (simp [entryFrame, mkF, argsToLocals, Value.category]; done) | rfl
def Q3b (Z : State) (a1 : Addr) (p1 : Int32) (t1 : Addr) (k1 : ClassId) (x0 : Int32) (x1 : Int32) (x2 : Int32) (x3 : Int32) (h0 : Heap) (n0 : Nat) (v : Option Value) (h : Heap) (L : List Loc) : Prop := v = some (.ref a1) ∧ Fr n0 L ∧ Keep h0 h [a1, t1] ∧ Fld Z h a1 "com/example/handoff/handoff/RecordWriter" "bytes" "[B" (.ref t1) ∧ Fld Z h a1 "com/example/handoff/handoff/RecordWriter" "at" "I" (.int (8 : Int32)) ∧ Arv Z h t1 k1 .byte (8 : Int32) [(.int x0), (.int x1), (.int x2), (.int x3), (.int (own_sh p1 24)), (.int (own_sh p1 16)), (.int (own_sh p1 8)), (.int (own_lo p1))] (.int (0 : Int32))
set_option maxRecDepth 65536 in
set_option maxHeartbeats 40000000 in
theorem rm3b (l : Launch) (Z : State) (a0 : Array Value) (hw : ∀ d ∈ tables_1, d.before a0 Z = true) (ws : List Jvm.Cond) (a1 : Addr) (p1 : Int32) (t1 : Addr) (k1 : ClassId) (x0 : Int32) (x1 : Int32) (x2 : Int32) (x3 : Int32) (h0 : Heap) (n0 : Nat) (Z0 : n0 ≤ h0.size) (F0 : Fld Z h0 a1 "com/example/handoff/handoff/RecordWriter" "bytes" "[B" (.ref t1)) (F1 : Fld Z h0 a1 "com/example/handoff/handoff/RecordWriter" "at" "I" (.int (4 : Int32))) (EX : Exa Z h0 a1 "com/example/handoff/handoff/RecordWriter") (A0 : Arv Z h0 t1 k1 .byte (8 : Int32) [(.int x0), (.int x1), (.int x2), (.int x3), (.int (0 : Int32)), (.int (0 : Int32)), (.int (0 : Int32)), (.int (0 : Int32))] (.int (0 : Int32))) (g_a1 : n0 ≤ a1) (g_t1 : n0 ≤ t1) (ne1 : a1 ≠ t1) :
    MetFree l (⟨"com/example/handoff/handoff/RecordWriter", "putInt", "(I)Lcom/example/handoff/handoff/RecordWriter;"⟩ : MethodName) (head1 (Jvm.Cond.code (⟨"com/example/handoff/handoff/RecordWriter", "putInt", "(I)Lcom/example/handoff/handoff/RecordWriter;"⟩ : MethodName) prog_37_method_3_code 2 (some (.object "com/example/handoff/handoff/RecordWriter")) :: ws) ({ frames := 0, cells := 0, slots := 0, locals := 0 } : Room)) (fun a U => a = #[(.ref a1), (.int p1)] ∧ Z.Warmed39 U.vm ∧ U.heap = h0) (fun _ _ _ _ _ => True) (fun _ U o U' => ∃ v L, o = .returned v ∧ Q3b Z a1 p1 t1 k1 x0 x1 x2 x3 h0 n0 v U'.heap L ∧ FrameEnd U o U' L ({ frames := 0, cells := 0, slots := 0, locals := 0 } : Room).cells ({ frames := 0, cells := 0, slots := 0, locals := 0 } : Room).slots) := by
  refine MetFree.of_bodySF (plainFor_of_name pn_1) hisR ?_
  intro p e s m args below meth c s₁ Bd hml0 hP hK
  obtain ⟨rfl, hZ, hh⟩ := hP
  have hx := Bd.exec
  have hby := Bd.bytes
  have hml : c.maxLocals = 2 := hml0
  have hown : s.vm.findClass "com/example/handoff/handoff/RecordWriter" = some m.cls := findClass_of_methodNamed Bd.named
  have hnm := (name_of_methodNamed Bd.named Bd.method).1
  have X0 : Stand p l e ({ frames := 0, cells := 0, slots := 0, locals := 0 } : Room) s m #[(.ref a1), (.int p1)] below meth c s₁ [] 0 0 := Stand.of_body Bd
  have e0 : s₁.heap = h0 := by rw [← hh, Bd.state]; rfl
  have N0 := Fr.nil n0
  have pre0 : ∀ t, Steps p.tables e below (s₁.setTop (mkF m 0 #[.val (.ref a1), .val (.int p1)] [])) t → Steps p.tables e below (s₁.setTop (entryFrame m #[(.ref a1), (.int p1)] 2)) t := fun t k => castTop (ef_3b m a1 p1) k
  obtain ⟨T1, X1, e1, st1⟩ := getF X0 hx hZ hown (host := "") (Or.inl (hw _ (List.mem_of_getElem? (i := 10) rfl))) Via.refl e0 F0 (g := (mkF m 1 #[.val (.ref a1), .val (.int p1)] [(.ref a1)])) rfl rfl (hb hby d3_1)
  obtain ⟨T2, X2, e2, st2⟩ := getF X1 hx hZ hown (host := "") (Or.inl (hw _ (List.mem_of_getElem? (i := 17) rfl))) Via.refl e1 F1 (g := (mkF m 5 #[.val (.ref a1), .val (.int p1)] [(.ref a1), (.ref t1)])) rfl rfl (hb hby d3_5)
  obtain ⟨cl3, Ar3, q3, S3, M3, H3, G3⟩ := id A0
  have hin3 : ¬ ((4 : Int32) < 0 ∨ cl3.slots.size ≤ ((4 : Int32)).toNatClampNeg) := inb_of S3 ⟨by decide, by decide⟩
  obtain ⟨T4, h4, X4, e4, W4, st4⟩ := stB X2 hx hZ e2 Ar3 (j := (4 : Int32)) hin3 (g := (mkF m 13 #[.val (.ref a1), .val (.int p1)] [(.int (((p1.toUInt32 >>> ((24 : Int32) &&& 31).toUInt32).toInt32).toInt8.toInt32)), (.int (4 : Int32)), (.ref t1)])) rfl rfl (hb hby d3_13)
  have f6 : Fld Z h4 a1 "com/example/handoff/handoff/RecordWriter" "bytes" "[B" (.ref t1) := F0.other W4 (Or.inl ne1)
  have f7 : Fld Z h4 a1 "com/example/handoff/handoff/RecordWriter" "at" "I" (.int (4 : Int32)) := F1.other W4 (Or.inl ne1)
  have f8 : Exa Z h4 a1 "com/example/handoff/handoff/RecordWriter" := EX.wr W4
  have f9 : Arv Z h4 t1 k1 .byte (8 : Int32) [(.int x0), (.int x1), (.int x2), (.int x3), (.int (nar .byte (((p1.toUInt32 >>> ((24 : Int32) &&& 31).toUInt32).toInt32).toInt8.toInt32))), (.int (0 : Int32)), (.int (0 : Int32)), (.int (0 : Int32))] (.int (0 : Int32)) := Arv.set Ar3 q3 S3 M3 H3 G3 (fits_nar_byte _) W4 4 (by decide) (Nat.le_of_ble_eq_true rfl)
  have N4 := Fr.snoc X4 N0 g_t1
  have K10 : Keep h0 h4 [a1, t1] := (Keep.refl h0 [a1, t1]).wr W4 (Or.inl (List.mem_of_getElem? (i := 1) rfl))
  have Z11 : n0 ≤ h4.size := Nat.le_trans Z0 (Keep.of_wr W4).1
  obtain ⟨T12, X12, e12, st12⟩ := getF X4 hx hZ hown (host := "") (Or.inl (hw _ (List.mem_of_getElem? (i := 10) rfl))) Via.refl e4 f6 (g := (mkF m 15 #[.val (.ref a1), .val (.int p1)] [(.ref a1)])) rfl rfl (hb hby d3_15)
  obtain ⟨T13, X13, e13, st13⟩ := getF X12 hx hZ hown (host := "") (Or.inl (hw _ (List.mem_of_getElem? (i := 17) rfl))) Via.refl e12 f7 (g := (mkF m 19 #[.val (.ref a1), .val (.int p1)] [(.ref a1), (.ref t1)])) rfl rfl (hb hby d3_19)
  obtain ⟨cl14, Ar14, q14, S14, M14, H14, G14⟩ := id f9
  have hin14 : ¬ (((4 : Int32) + (1 : Int32)) < 0 ∨ cl14.slots.size ≤ (((4 : Int32) + (1 : Int32))).toNatClampNeg) := inb_of S14 ⟨by decide, by decide⟩
  obtain ⟨T15, h15, X15, e15, W15, st15⟩ := stB X13 hx hZ e13 Ar14 (j := ((4 : Int32) + (1 : Int32))) hin14 (g := (mkF m 29 #[.val (.ref a1), .val (.int p1)] [(.int (((p1.toUInt32 >>> ((16 : Int32) &&& 31).toUInt32).toInt32).toInt8.toInt32)), (.int ((4 : Int32) + (1 : Int32))), (.ref t1)])) rfl rfl (hb hby d3_29)
  have f17 : Fld Z h15 a1 "com/example/handoff/handoff/RecordWriter" "bytes" "[B" (.ref t1) := f6.other W15 (Or.inl ne1)
  have f18 : Fld Z h15 a1 "com/example/handoff/handoff/RecordWriter" "at" "I" (.int (4 : Int32)) := f7.other W15 (Or.inl ne1)
  have f19 : Exa Z h15 a1 "com/example/handoff/handoff/RecordWriter" := f8.wr W15
  have f20 : Arv Z h15 t1 k1 .byte (8 : Int32) [(.int x0), (.int x1), (.int x2), (.int x3), (.int (nar .byte (((p1.toUInt32 >>> ((24 : Int32) &&& 31).toUInt32).toInt32).toInt8.toInt32))), (.int (nar .byte (((p1.toUInt32 >>> ((16 : Int32) &&& 31).toUInt32).toInt32).toInt8.toInt32))), (.int (0 : Int32)), (.int (0 : Int32))] (.int (0 : Int32)) := Arv.set Ar14 q14 S14 M14 H14 G14 (fits_nar_byte _) W15 5 (by decide) (Nat.le_of_ble_eq_true rfl)
  have N15 := Fr.snoc X15 N4 g_t1
  have K21 : Keep h0 h15 [a1, t1] := K10.wr W15 (Or.inl (List.mem_of_getElem? (i := 1) rfl))
  have Z22 : n0 ≤ h15.size := Nat.le_trans Z11 (Keep.of_wr W15).1
  obtain ⟨T23, X23, e23, st23⟩ := getF X15 hx hZ hown (host := "") (Or.inl (hw _ (List.mem_of_getElem? (i := 10) rfl))) Via.refl e15 f17 (g := (mkF m 31 #[.val (.ref a1), .val (.int p1)] [(.ref a1)])) rfl rfl (hb hby d3_31)
  obtain ⟨T24, X24, e24, st24⟩ := getF X23 hx hZ hown (host := "") (Or.inl (hw _ (List.mem_of_getElem? (i := 17) rfl))) Via.refl e23 f18 (g := (mkF m 35 #[.val (.ref a1), .val (.int p1)] [(.ref a1), (.ref t1)])) rfl rfl (hb hby d3_35)
  obtain ⟨cl25, Ar25, q25, S25, M25, H25, G25⟩ := id f20
  have hin25 : ¬ (((4 : Int32) + (2 : Int32)) < 0 ∨ cl25.slots.size ≤ (((4 : Int32) + (2 : Int32))).toNatClampNeg) := inb_of S25 ⟨by decide, by decide⟩
  obtain ⟨T26, h26, X26, e26, W26, st26⟩ := stB X24 hx hZ e24 Ar25 (j := ((4 : Int32) + (2 : Int32))) hin25 (g := (mkF m 45 #[.val (.ref a1), .val (.int p1)] [(.int (((p1.toUInt32 >>> ((8 : Int32) &&& 31).toUInt32).toInt32).toInt8.toInt32)), (.int ((4 : Int32) + (2 : Int32))), (.ref t1)])) rfl rfl (hb hby d3_45)
  have f28 : Fld Z h26 a1 "com/example/handoff/handoff/RecordWriter" "bytes" "[B" (.ref t1) := f17.other W26 (Or.inl ne1)
  have f29 : Fld Z h26 a1 "com/example/handoff/handoff/RecordWriter" "at" "I" (.int (4 : Int32)) := f18.other W26 (Or.inl ne1)
  have f30 : Exa Z h26 a1 "com/example/handoff/handoff/RecordWriter" := f19.wr W26
  have f31 : Arv Z h26 t1 k1 .byte (8 : Int32) [(.int x0), (.int x1), (.int x2), (.int x3), (.int (nar .byte (((p1.toUInt32 >>> ((24 : Int32) &&& 31).toUInt32).toInt32).toInt8.toInt32))), (.int (nar .byte (((p1.toUInt32 >>> ((16 : Int32) &&& 31).toUInt32).toInt32).toInt8.toInt32))), (.int (nar .byte (((p1.toUInt32 >>> ((8 : Int32) &&& 31).toUInt32).toInt32).toInt8.toInt32))), (.int (0 : Int32))] (.int (0 : Int32)) := Arv.set Ar25 q25 S25 M25 H25 G25 (fits_nar_byte _) W26 6 (by decide) (Nat.le_of_ble_eq_true rfl)
  have N26 := Fr.snoc X26 N15 g_t1
  have K32 : Keep h0 h26 [a1, t1] := K21.wr W26 (Or.inl (List.mem_of_getElem? (i := 1) rfl))
  have Z33 : n0 ≤ h26.size := Nat.le_trans Z22 (Keep.of_wr W26).1
  obtain ⟨T34, X34, e34, st34⟩ := getF X26 hx hZ hown (host := "") (Or.inl (hw _ (List.mem_of_getElem? (i := 10) rfl))) Via.refl e26 f28 (g := (mkF m 47 #[.val (.ref a1), .val (.int p1)] [(.ref a1)])) rfl rfl (hb hby d3_47)
  obtain ⟨T35, X35, e35, st35⟩ := getF X34 hx hZ hown (host := "") (Or.inl (hw _ (List.mem_of_getElem? (i := 17) rfl))) Via.refl e34 f29 (g := (mkF m 51 #[.val (.ref a1), .val (.int p1)] [(.ref a1), (.ref t1)])) rfl rfl (hb hby d3_51)
  obtain ⟨cl36, Ar36, q36, S36, M36, H36, G36⟩ := id f31
  have hin36 : ¬ (((4 : Int32) + (3 : Int32)) < 0 ∨ cl36.slots.size ≤ (((4 : Int32) + (3 : Int32))).toNatClampNeg) := inb_of S36 ⟨by decide, by decide⟩
  obtain ⟨T37, h37, X37, e37, W37, st37⟩ := stB X35 hx hZ e35 Ar36 (j := ((4 : Int32) + (3 : Int32))) hin36 (g := (mkF m 58 #[.val (.ref a1), .val (.int p1)] [(.int (p1.toInt8.toInt32)), (.int ((4 : Int32) + (3 : Int32))), (.ref t1)])) rfl rfl (hb hby d3_58)
  have f39 : Fld Z h37 a1 "com/example/handoff/handoff/RecordWriter" "bytes" "[B" (.ref t1) := f28.other W37 (Or.inl ne1)
  have f40 : Fld Z h37 a1 "com/example/handoff/handoff/RecordWriter" "at" "I" (.int (4 : Int32)) := f29.other W37 (Or.inl ne1)
  have f41 : Exa Z h37 a1 "com/example/handoff/handoff/RecordWriter" := f30.wr W37
  have f42 : Arv Z h37 t1 k1 .byte (8 : Int32) [(.int x0), (.int x1), (.int x2), (.int x3), (.int (nar .byte (((p1.toUInt32 >>> ((24 : Int32) &&& 31).toUInt32).toInt32).toInt8.toInt32))), (.int (nar .byte (((p1.toUInt32 >>> ((16 : Int32) &&& 31).toUInt32).toInt32).toInt8.toInt32))), (.int (nar .byte (((p1.toUInt32 >>> ((8 : Int32) &&& 31).toUInt32).toInt32).toInt8.toInt32))), (.int (nar .byte (p1.toInt8.toInt32)))] (.int (0 : Int32)) := Arv.set Ar36 q36 S36 M36 H36 G36 (fits_nar_byte _) W37 7 (by decide) (Nat.le_of_ble_eq_true rfl)
  have N37 := Fr.snoc X37 N26 g_t1
  have K43 : Keep h0 h37 [a1, t1] := K32.wr W37 (Or.inl (List.mem_of_getElem? (i := 1) rfl))
  have Z44 : n0 ≤ h37.size := Nat.le_trans Z33 (Keep.of_wr W37).1
  obtain ⟨T45, X45, e45, st45⟩ := getF X37 hx hZ hown (host := "") (Or.inl (hw _ (List.mem_of_getElem? (i := 17) rfl))) Via.refl e37 f40 (g := (mkF m 61 #[.val (.ref a1), .val (.int p1)] [(.ref a1), (.ref a1)])) rfl rfl (hb hby d3_61)
  obtain ⟨T46, h46, X46, e46, W46, st46⟩ := putF X45 hx hZ hown (host := "") (Or.inl (hw _ (List.mem_of_getElem? (i := 17) rfl))) Via.refl e45 f40 f41 (Or.inl (hw _ (List.mem_of_getElem? (i := 18) rfl))) (hw _ (List.mem_of_getElem? (i := 1) rfl)) (ty := .int) (by decide) rfl rfl (g := (mkF m 66 #[.val (.ref a1), .val (.int p1)] [(.int ((4 : Int32) + (4 : Int32))), (.ref a1)])) rfl rfl (hb hby d3_66)
  have f47 : Fld Z h46 a1 "com/example/handoff/handoff/RecordWriter" "bytes" "[B" (.ref t1) := f39.other W46 (Or.inr (slot_ne (Or.inr (hw _ (List.mem_of_getElem? (i := 11) rfl))) (Or.inl (hw _ (List.mem_of_getElem? (i := 18) rfl))) (by decide) (t := (.array .byte)) (t' := .int) (by decide) (by decide)))
  have f48 : Fld Z h46 a1 "com/example/handoff/handoff/RecordWriter" "at" "I" (.int ((4 : Int32) + (4 : Int32))) := f40.same W46
  have f49 : Exa Z h46 a1 "com/example/handoff/handoff/RecordWriter" := f41.wr W46
  have f50 : Arv Z h46 t1 k1 .byte (8 : Int32) [(.int x0), (.int x1), (.int x2), (.int x3), (.int (nar .byte (((p1.toUInt32 >>> ((24 : Int32) &&& 31).toUInt32).toInt32).toInt8.toInt32))), (.int (nar .byte (((p1.toUInt32 >>> ((16 : Int32) &&& 31).toUInt32).toInt32).toInt8.toInt32))), (.int (nar .byte (((p1.toUInt32 >>> ((8 : Int32) &&& 31).toUInt32).toInt32).toInt8.toInt32))), (.int (nar .byte (p1.toInt8.toInt32)))] (.int (0 : Int32)) := f42.other W46 (Ne.symm ne1)
  have N46 := Fr.snoc X46 N37 g_a1
  have K51 : Keep h0 h46 [a1, t1] := K43.wr W46 (Or.inl (List.mem_of_getElem? (i := 0) rfl))
  have Z52 : n0 ≤ h46.size := Nat.le_trans Z44 (Keep.of_wr W46).1
  obtain ⟨fs, hr, hrun, hended, hW, hsame⟩ := X46.leave (v := some (.ref a1)) (fun h => by rw [Bd.returns] at h; cases h)
  refine ⟨_, _, pre0 _ ?_, hrun, hended, _, _, rfl, ?_, ⟨_, rfl⟩, hW, hsame.mono (by decide) (by decide)⟩
  · show Steps p.tables e below (s₁.setTop (mkF m 0 #[.val (.ref a1), .val (.int p1)] [])) _
    refine XS.aloadN X0.here hx rfl (hb hby d3_0) rfl rfl ?_
    show Steps p.tables e below (s₁.setTop (mkF m 1 #[.val (.ref a1), .val (.int p1)] [(.ref a1)])) _
    refine st1 _ ?_
    show Steps p.tables e below (T1.setTop (mkF m 4 #[.val (.ref a1), .val (.int p1)] [(.ref t1)])) _
    refine XS.aloadN X1.here hx rfl (hb hby d3_4) rfl rfl ?_
    show Steps p.tables e below (T1.setTop (mkF m 5 #[.val (.ref a1), .val (.int p1)] [(.ref a1), (.ref t1)])) _
    refine st2 _ ?_
    show Steps p.tables e below (T2.setTop (mkF m 8 #[.val (.ref a1), .val (.int p1)] [(.int (4 : Int32)), (.ref t1)])) _
    refine XS.iloadN X2.here hx rfl (hb hby d3_8) rfl ?_
    show Steps p.tables e below (T2.setTop (mkF m 9 #[.val (.ref a1), .val (.int p1)] [(.int p1), (.int (4 : Int32)), (.ref t1)])) _
    refine XS.bipush X2.here hx rfl (hb hby d3_9) ?_
    show Steps p.tables e below (T2.setTop (mkF m 11 #[.val (.ref a1), .val (.int p1)] [(.int (24 : Int32)), (.int p1), (.int (4 : Int32)), (.ref t1)])) _
    refine XS.iushr X2.here hx rfl (hb hby d3_11) rfl ?_
    show Steps p.tables e below (T2.setTop (mkF m 12 #[.val (.ref a1), .val (.int p1)] [(.int ((p1.toUInt32 >>> ((24 : Int32) &&& 31).toUInt32).toInt32)), (.int (4 : Int32)), (.ref t1)])) _
    refine XS.i2b X2.here hx rfl (hb hby d3_12) rfl ?_
    show Steps p.tables e below (T2.setTop (mkF m 13 #[.val (.ref a1), .val (.int p1)] [(.int (((p1.toUInt32 >>> ((24 : Int32) &&& 31).toUInt32).toInt32).toInt8.toInt32)), (.int (4 : Int32)), (.ref t1)])) _
    refine st4 _ ?_
    show Steps p.tables e below (T4.setTop (mkF m 14 #[.val (.ref a1), .val (.int p1)] [])) _
    refine XS.aloadN X4.here hx rfl (hb hby d3_14) rfl rfl ?_
    show Steps p.tables e below (T4.setTop (mkF m 15 #[.val (.ref a1), .val (.int p1)] [(.ref a1)])) _
    refine st12 _ ?_
    show Steps p.tables e below (T12.setTop (mkF m 18 #[.val (.ref a1), .val (.int p1)] [(.ref t1)])) _
    refine XS.aloadN X12.here hx rfl (hb hby d3_18) rfl rfl ?_
    show Steps p.tables e below (T12.setTop (mkF m 19 #[.val (.ref a1), .val (.int p1)] [(.ref a1), (.ref t1)])) _
    refine st13 _ ?_
    show Steps p.tables e below (T13.setTop (mkF m 22 #[.val (.ref a1), .val (.int p1)] [(.int (4 : Int32)), (.ref t1)])) _
    refine XS.iconst X13.here hx rfl (hb hby d3_22) ?_
    show Steps p.tables e below (T13.setTop (mkF m 23 #[.val (.ref a1), .val (.int p1)] [(.int (1 : Int32)), (.int (4 : Int32)), (.ref t1)])) _
    refine XS.iadd X13.here hx rfl (hb hby d3_23) rfl ?_
    show Steps p.tables e below (T13.setTop (mkF m 24 #[.val (.ref a1), .val (.int p1)] [(.int ((4 : Int32) + (1 : Int32))), (.ref t1)])) _
    refine XS.iloadN X13.here hx rfl (hb hby d3_24) rfl ?_
    show Steps p.tables e below (T13.setTop (mkF m 25 #[.val (.ref a1), .val (.int p1)] [(.int p1), (.int ((4 : Int32) + (1 : Int32))), (.ref t1)])) _
    refine XS.bipush X13.here hx rfl (hb hby d3_25) ?_
    show Steps p.tables e below (T13.setTop (mkF m 27 #[.val (.ref a1), .val (.int p1)] [(.int (16 : Int32)), (.int p1), (.int ((4 : Int32) + (1 : Int32))), (.ref t1)])) _
    refine XS.iushr X13.here hx rfl (hb hby d3_27) rfl ?_
    show Steps p.tables e below (T13.setTop (mkF m 28 #[.val (.ref a1), .val (.int p1)] [(.int ((p1.toUInt32 >>> ((16 : Int32) &&& 31).toUInt32).toInt32)), (.int ((4 : Int32) + (1 : Int32))), (.ref t1)])) _
    refine XS.i2b X13.here hx rfl (hb hby d3_28) rfl ?_
    show Steps p.tables e below (T13.setTop (mkF m 29 #[.val (.ref a1), .val (.int p1)] [(.int (((p1.toUInt32 >>> ((16 : Int32) &&& 31).toUInt32).toInt32).toInt8.toInt32)), (.int ((4 : Int32) + (1 : Int32))), (.ref t1)])) _
    refine st15 _ ?_
    show Steps p.tables e below (T15.setTop (mkF m 30 #[.val (.ref a1), .val (.int p1)] [])) _
    refine XS.aloadN X15.here hx rfl (hb hby d3_30) rfl rfl ?_
    show Steps p.tables e below (T15.setTop (mkF m 31 #[.val (.ref a1), .val (.int p1)] [(.ref a1)])) _
    refine st23 _ ?_
    show Steps p.tables e below (T23.setTop (mkF m 34 #[.val (.ref a1), .val (.int p1)] [(.ref t1)])) _
    refine XS.aloadN X23.here hx rfl (hb hby d3_34) rfl rfl ?_
    show Steps p.tables e below (T23.setTop (mkF m 35 #[.val (.ref a1), .val (.int p1)] [(.ref a1), (.ref t1)])) _
    refine st24 _ ?_
    show Steps p.tables e below (T24.setTop (mkF m 38 #[.val (.ref a1), .val (.int p1)] [(.int (4 : Int32)), (.ref t1)])) _
    refine XS.iconst X24.here hx rfl (hb hby d3_38) ?_
    show Steps p.tables e below (T24.setTop (mkF m 39 #[.val (.ref a1), .val (.int p1)] [(.int (2 : Int32)), (.int (4 : Int32)), (.ref t1)])) _
    refine XS.iadd X24.here hx rfl (hb hby d3_39) rfl ?_
    show Steps p.tables e below (T24.setTop (mkF m 40 #[.val (.ref a1), .val (.int p1)] [(.int ((4 : Int32) + (2 : Int32))), (.ref t1)])) _
    refine XS.iloadN X24.here hx rfl (hb hby d3_40) rfl ?_
    show Steps p.tables e below (T24.setTop (mkF m 41 #[.val (.ref a1), .val (.int p1)] [(.int p1), (.int ((4 : Int32) + (2 : Int32))), (.ref t1)])) _
    refine XS.bipush X24.here hx rfl (hb hby d3_41) ?_
    show Steps p.tables e below (T24.setTop (mkF m 43 #[.val (.ref a1), .val (.int p1)] [(.int (8 : Int32)), (.int p1), (.int ((4 : Int32) + (2 : Int32))), (.ref t1)])) _
    refine XS.iushr X24.here hx rfl (hb hby d3_43) rfl ?_
    show Steps p.tables e below (T24.setTop (mkF m 44 #[.val (.ref a1), .val (.int p1)] [(.int ((p1.toUInt32 >>> ((8 : Int32) &&& 31).toUInt32).toInt32)), (.int ((4 : Int32) + (2 : Int32))), (.ref t1)])) _
    refine XS.i2b X24.here hx rfl (hb hby d3_44) rfl ?_
    show Steps p.tables e below (T24.setTop (mkF m 45 #[.val (.ref a1), .val (.int p1)] [(.int (((p1.toUInt32 >>> ((8 : Int32) &&& 31).toUInt32).toInt32).toInt8.toInt32)), (.int ((4 : Int32) + (2 : Int32))), (.ref t1)])) _
    refine st26 _ ?_
    show Steps p.tables e below (T26.setTop (mkF m 46 #[.val (.ref a1), .val (.int p1)] [])) _
    refine XS.aloadN X26.here hx rfl (hb hby d3_46) rfl rfl ?_
    show Steps p.tables e below (T26.setTop (mkF m 47 #[.val (.ref a1), .val (.int p1)] [(.ref a1)])) _
    refine st34 _ ?_
    show Steps p.tables e below (T34.setTop (mkF m 50 #[.val (.ref a1), .val (.int p1)] [(.ref t1)])) _
    refine XS.aloadN X34.here hx rfl (hb hby d3_50) rfl rfl ?_
    show Steps p.tables e below (T34.setTop (mkF m 51 #[.val (.ref a1), .val (.int p1)] [(.ref a1), (.ref t1)])) _
    refine st35 _ ?_
    show Steps p.tables e below (T35.setTop (mkF m 54 #[.val (.ref a1), .val (.int p1)] [(.int (4 : Int32)), (.ref t1)])) _
    refine XS.iconst X35.here hx rfl (hb hby d3_54) ?_
    show Steps p.tables e below (T35.setTop (mkF m 55 #[.val (.ref a1), .val (.int p1)] [(.int (3 : Int32)), (.int (4 : Int32)), (.ref t1)])) _
    refine XS.iadd X35.here hx rfl (hb hby d3_55) rfl ?_
    show Steps p.tables e below (T35.setTop (mkF m 56 #[.val (.ref a1), .val (.int p1)] [(.int ((4 : Int32) + (3 : Int32))), (.ref t1)])) _
    refine XS.iloadN X35.here hx rfl (hb hby d3_56) rfl ?_
    show Steps p.tables e below (T35.setTop (mkF m 57 #[.val (.ref a1), .val (.int p1)] [(.int p1), (.int ((4 : Int32) + (3 : Int32))), (.ref t1)])) _
    refine XS.i2b X35.here hx rfl (hb hby d3_57) rfl ?_
    show Steps p.tables e below (T35.setTop (mkF m 58 #[.val (.ref a1), .val (.int p1)] [(.int (p1.toInt8.toInt32)), (.int ((4 : Int32) + (3 : Int32))), (.ref t1)])) _
    refine st37 _ ?_
    show Steps p.tables e below (T37.setTop (mkF m 59 #[.val (.ref a1), .val (.int p1)] [])) _
    refine XS.aloadN X37.here hx rfl (hb hby d3_59) rfl rfl ?_
    show Steps p.tables e below (T37.setTop (mkF m 60 #[.val (.ref a1), .val (.int p1)] [(.ref a1)])) _
    refine XS.dup X37.here hx rfl (hb hby d3_60) rfl rfl ?_
    show Steps p.tables e below (T37.setTop (mkF m 61 #[.val (.ref a1), .val (.int p1)] [(.ref a1), (.ref a1)])) _
    refine st45 _ ?_
    show Steps p.tables e below (T45.setTop (mkF m 64 #[.val (.ref a1), .val (.int p1)] [(.int (4 : Int32)), (.ref a1)])) _
    refine XS.iconst X45.here hx rfl (hb hby d3_64) ?_
    show Steps p.tables e below (T45.setTop (mkF m 65 #[.val (.ref a1), .val (.int p1)] [(.int (4 : Int32)), (.int (4 : Int32)), (.ref a1)])) _
    refine XS.iadd X45.here hx rfl (hb hby d3_65) rfl ?_
    show Steps p.tables e below (T45.setTop (mkF m 66 #[.val (.ref a1), .val (.int p1)] [(.int ((4 : Int32) + (4 : Int32))), (.ref a1)])) _
    refine st46 _ ?_
    show Steps p.tables e below (T46.setTop (mkF m 69 #[.val (.ref a1), .val (.int p1)] [])) _
    refine XS.aloadN X46.here hx rfl (hb hby d3_69) rfl rfl ?_
    show Steps p.tables e below (T46.setTop (mkF m 70 #[.val (.ref a1), .val (.int p1)] [(.ref a1)])) _
    jvm_step X46.here [X46.here.top, hx, (hb hby d3_70), X46.method', Bd.returns, Value.isRef, FieldType.isReference]
    first | (intro acts; rw [hr _ acts rfl rfl rfl]) | rw [hr _ _ rfl rfl rfl]
    exact Steps.refl _
  · show Q3b Z a1 p1 t1 k1 x0 x1 x2 x3 h0 n0 _ T46.heap _
    rw [e46]
    refine ⟨rfl, N46, K51, f47, ?_, f50⟩
    rw [show (8 : Int32) = (4 : Int32) + (4 : Int32) from by decide]
    exact f48
theorem d4_0 : decode prog_37_method_8_code 0 = .ok (.aload_n 0, 1) := by decide +kernel
theorem d4_1 : decode prog_37_method_8_code 1 = .ok (.getfield 17, 3) := by decide +kernel
theorem d4_4 : decode prog_37_method_8_code 4 = .ok (.aload_n 0, 1) := by decide +kernel
theorem d4_5 : decode prog_37_method_8_code 5 = .ok (.getfield 7, 3) := by decide +kernel
theorem d4_8 : decode prog_37_method_8_code 8 = .ok (.arraylength, 1) := by decide +kernel
theorem d4_9 : decode prog_37_method_8_code 9 = .ok (.if_icmp .eq 25, 3) := by decide +kernel
theorem d4_34 : decode prog_37_method_8_code 34 = .ok (.aload_n 0, 1) := by decide +kernel
theorem d4_35 : decode prog_37_method_8_code 35 = .ok (.getfield 7, 3) := by decide +kernel
theorem d4_38 : decode prog_37_method_8_code 38 = .ok (.areturn, 1) := by decide +kernel
theorem ef_4 (m : MethodId) (x0 : Addr) : entryFrame m #[(.ref x0)] 1 = mkF m 0 #[.val (.ref x0)] [] := by first | (simp [entryFrame, mkF, argsToLocals, Value.category]; done) | rfl
def Q4 (Z : State) (a1 : Addr) (t1 : Addr) (k1 : ClassId) (vs : List Value) (h0 : Heap) (n0 : Nat) (v : Option Value) (h : Heap) (L : List Loc) : Prop := v = some (.ref t1) ∧ Fr n0 L ∧ h = h0
set_option maxRecDepth 65536 in
set_option maxHeartbeats 40000000 in
theorem rm4 (l : Launch) (Z : State) (a0 : Array Value) (hw : ∀ d ∈ tables_1, d.before a0 Z = true) (ws : List Jvm.Cond) (a1 : Addr) (t1 : Addr) (k1 : ClassId) (vs : List Value) (h0 : Heap) (n0 : Nat) (Z0 : n0 ≤ h0.size) (F0 : Fld Z h0 a1 "com/example/handoff/handoff/RecordWriter" "bytes" "[B" (.ref t1)) (F1 : Fld Z h0 a1 "com/example/handoff/handoff/RecordWriter" "at" "I" (.int (8 : Int32))) (A0 : Arv Z h0 t1 k1 .byte (8 : Int32) vs (.int (0 : Int32))) :
    MetFree l (⟨"com/example/handoff/handoff/RecordWriter", "bytes", "()[B"⟩ : MethodName) (head1 (Jvm.Cond.code (⟨"com/example/handoff/handoff/RecordWriter", "bytes", "()[B"⟩ : MethodName) prog_37_method_8_code 1 (some (.array .byte)) :: ws) ({ frames := 0, cells := 0, slots := 0, locals := 0 } : Room)) (fun a U => a = #[(.ref a1)] ∧ Z.Warmed39 U.vm ∧ U.heap = h0) (fun _ _ _ _ _ => True) (fun _ U o U' => ∃ v L, o = .returned v ∧ Q4 Z a1 t1 k1 vs h0 n0 v U'.heap L ∧ FrameEnd U o U' L ({ frames := 0, cells := 0, slots := 0, locals := 0 } : Room).cells ({ frames := 0, cells := 0, slots := 0, locals := 0 } : Room).slots) := by
  refine MetFree.of_bodySF (plainFor_of_name pn_1) hisR ?_
  intro p e s m args below meth c s₁ Bd hml0 hP hK
  obtain ⟨rfl, hZ, hh⟩ := hP
  have hx := Bd.exec
  have hby := Bd.bytes
  have hml : c.maxLocals = 1 := hml0
  have hown : s.vm.findClass "com/example/handoff/handoff/RecordWriter" = some m.cls := findClass_of_methodNamed Bd.named
  have hnm := (name_of_methodNamed Bd.named Bd.method).1
  have X0 : Stand p l e ({ frames := 0, cells := 0, slots := 0, locals := 0 } : Room) s m #[(.ref a1)] below meth c s₁ [] 0 0 := Stand.of_body Bd
  have e0 : s₁.heap = h0 := by rw [← hh, Bd.state]; rfl
  have N0 := Fr.nil n0
  have pre0 : ∀ t, Steps p.tables e below (s₁.setTop (mkF m 0 #[.val (.ref a1)] [])) t → Steps p.tables e below (s₁.setTop (entryFrame m #[(.ref a1)] 1)) t := fun t k => castTop (ef_4 m a1) k
  obtain ⟨T1, X1, e1, st1⟩ := getF X0 hx hZ hown (host := "") (Or.inl (hw _ (List.mem_of_getElem? (i := 17) rfl))) Via.refl e0 F1 (g := (mkF m 1 #[.val (.ref a1)] [(.ref a1)])) rfl rfl (hb hby d4_1)
  obtain ⟨T2, X2, e2, st2⟩ := getF X1 hx hZ hown (host := "") (Or.inl (hw _ (List.mem_of_getElem? (i := 10) rfl))) Via.refl e1 F0 (g := (mkF m 5 #[.val (.ref a1)] [(.ref a1), (.int (8 : Int32))])) rfl rfl (hb hby d4_5)
  obtain ⟨cl3, Ar3, q3, S3, M3, H3, G3⟩ := id A0
  obtain ⟨T4, X4, e4, st4⟩ := getF X2 hx hZ hown (host := "") (Or.inl (hw _ (List.mem_of_getElem? (i := 10) rfl))) Via.refl e2 F0 (g := (mkF m 35 #[.val (.ref a1)] [(.ref a1)])) rfl rfl (hb hby d4_35)
  obtain ⟨fs, hr, hrun, hended, hW, hsame⟩ := X4.leave (v := some (.ref t1)) (fun h => by rw [Bd.returns] at h; cases h)
  refine ⟨_, _, pre0 _ ?_, hrun, hended, _, _, rfl, ?_, ⟨_, rfl⟩, hW, hsame.mono (by decide) (by decide)⟩
  · show Steps p.tables e below (s₁.setTop (mkF m 0 #[.val (.ref a1)] [])) _
    refine XS.aloadN X0.here hx rfl (hb hby d4_0) rfl rfl ?_
    show Steps p.tables e below (s₁.setTop (mkF m 1 #[.val (.ref a1)] [(.ref a1)])) _
    refine st1 _ ?_
    show Steps p.tables e below (T1.setTop (mkF m 4 #[.val (.ref a1)] [(.int (8 : Int32))])) _
    refine XS.aloadN X1.here hx rfl (hb hby d4_4) rfl rfl ?_
    show Steps p.tables e below (T1.setTop (mkF m 5 #[.val (.ref a1)] [(.ref a1), (.int (8 : Int32))])) _
    refine st2 _ ?_
    show Steps p.tables e below (T2.setTop (mkF m 8 #[.val (.ref a1)] [(.ref t1), (.int (8 : Int32))])) _
    refine X2.arraylength hx (by rw [e2]; exact Ar3.1) (State.isArrayOf_alike hZ.alike Ar3.2.1) (g := (mkF m 8 #[.val (.ref a1)] [(.ref t1), (.int (8 : Int32))])) rfl rfl (hb hby d4_8) _ ?_
    rw [len_of S3 M3]
    show Steps p.tables e below (T2.setTop (mkF m 9 #[.val (.ref a1)] [(.int (8 : Int32)), (.int (8 : Int32))])) _
    refine XS.icmpYes X2.here hx rfl (pc0 := 9) (pc' := 34) rfl (hb hby d4_9) rfl (by decide) (by decide) (by decide) ?_
    show Steps p.tables e below (T2.setTop (mkF m 34 #[.val (.ref a1)] [])) _
    refine XS.aloadN X2.here hx rfl (hb hby d4_34) rfl rfl ?_
    show Steps p.tables e below (T2.setTop (mkF m 35 #[.val (.ref a1)] [(.ref a1)])) _
    refine st4 _ ?_
    show Steps p.tables e below (T4.setTop (mkF m 38 #[.val (.ref a1)] [(.ref t1)])) _
    jvm_step X4.here [X4.here.top, hx, (hb hby d4_38), X4.method', Bd.returns, Value.isRef, FieldType.isReference]
    first | (intro acts; rw [hr _ acts rfl rfl rfl]) | rw [hr _ _ rfl rfl rfl]
    exact Steps.refl _
  · show Q4 Z a1 t1 k1 vs h0 n0 _ T4.heap _
    rw [e4]
    exact ⟨rfl, N0, rfl⟩
theorem d5_0 : decode method_3_code 0 = .ok (.aload_n 0, 1) := by decide +kernel
theorem d5_1 : decode method_3_code 1 = .ok (.iload_n 1, 1) := by decide +kernel
theorem d5_2 : decode method_3_code 2 = .ok (.baload, 1) := by decide +kernel
theorem d5_3 : decode method_3_code 3 = .ok (.sipush 255, 3) := by decide +kernel
theorem d5_6 : decode method_3_code 6 = .ok (.iand, 1) := by decide +kernel
theorem d5_7 : decode method_3_code 7 = .ok (.bipush 24, 2) := by decide +kernel
theorem d5_9 : decode method_3_code 9 = .ok (.ishl, 1) := by decide +kernel
theorem d5_10 : decode method_3_code 10 = .ok (.aload_n 0, 1) := by decide +kernel
theorem d5_11 : decode method_3_code 11 = .ok (.iload_n 1, 1) := by decide +kernel
theorem d5_12 : decode method_3_code 12 = .ok (.iconst 1, 1) := by decide +kernel
theorem d5_13 : decode method_3_code 13 = .ok (.iadd, 1) := by decide +kernel
theorem d5_14 : decode method_3_code 14 = .ok (.baload, 1) := by decide +kernel
theorem d5_15 : decode method_3_code 15 = .ok (.sipush 255, 3) := by decide +kernel
theorem d5_18 : decode method_3_code 18 = .ok (.iand, 1) := by decide +kernel
theorem d5_19 : decode method_3_code 19 = .ok (.bipush 16, 2) := by decide +kernel
theorem d5_21 : decode method_3_code 21 = .ok (.ishl, 1) := by decide +kernel
theorem d5_22 : decode method_3_code 22 = .ok (.ior, 1) := by decide +kernel
theorem d5_23 : decode method_3_code 23 = .ok (.aload_n 0, 1) := by decide +kernel
theorem d5_24 : decode method_3_code 24 = .ok (.iload_n 1, 1) := by decide +kernel
theorem d5_25 : decode method_3_code 25 = .ok (.iconst 2, 1) := by decide +kernel
theorem d5_26 : decode method_3_code 26 = .ok (.iadd, 1) := by decide +kernel
theorem d5_27 : decode method_3_code 27 = .ok (.baload, 1) := by decide +kernel
theorem d5_28 : decode method_3_code 28 = .ok (.sipush 255, 3) := by decide +kernel
theorem d5_31 : decode method_3_code 31 = .ok (.iand, 1) := by decide +kernel
theorem d5_32 : decode method_3_code 32 = .ok (.bipush 8, 2) := by decide +kernel
theorem d5_34 : decode method_3_code 34 = .ok (.ishl, 1) := by decide +kernel
theorem d5_35 : decode method_3_code 35 = .ok (.ior, 1) := by decide +kernel
theorem d5_36 : decode method_3_code 36 = .ok (.aload_n 0, 1) := by decide +kernel
theorem d5_37 : decode method_3_code 37 = .ok (.iload_n 1, 1) := by decide +kernel
theorem d5_38 : decode method_3_code 38 = .ok (.iconst 3, 1) := by decide +kernel
theorem d5_39 : decode method_3_code 39 = .ok (.iadd, 1) := by decide +kernel
theorem d5_40 : decode method_3_code 40 = .ok (.baload, 1) := by decide +kernel
theorem d5_41 : decode method_3_code 41 = .ok (.sipush 255, 3) := by decide +kernel
theorem d5_44 : decode method_3_code 44 = .ok (.iand, 1) := by decide +kernel
theorem d5_45 : decode method_3_code 45 = .ok (.ior, 1) := by decide +kernel
theorem d5_46 : decode method_3_code 46 = .ok (.ireturn, 1) := by decide +kernel
theorem pn_5 : plainName "com/example/handoff/handoff/RecordWriterPutIntPinLaw" = true := by first | (simp [plainName, overriddenIn]; done) | decide +kernel
theorem ef_5a (m : MethodId) (x0 : Addr) (x1 : Int32) : entryFrame m #[(.ref x0), (.int x1)] 2 = mkF m 0 #[.val (.ref x0), .val (.int x1)] [] := by first | (simp [entryFrame, mkF, argsToLocals, Value.category]; done) | rfl
def Q5a (Z : State) (t1 : Addr) (k1 : ClassId) (x0 : Int32) (x1 : Int32) (x2 : Int32) (x3 : Int32) (x4 : Int32) (x5 : Int32) (x6 : Int32) (x7 : Int32) (h0 : Heap) (n0 : Nat) (v : Option Value) (h : Heap) (L : List Loc) : Prop := v = some (.int (own_rd x0 x1 x2 x3)) ∧ Fr n0 L ∧ h = h0
set_option maxRecDepth 65536 in
set_option maxHeartbeats 40000000 in
theorem rm5a (l : Launch) (Z : State) (a0 : Array Value) (hw : ∀ d ∈ tables_1, d.before a0 Z = true) (ws : List Jvm.Cond) (t1 : Addr) (k1 : ClassId) (x0 : Int32) (x1 : Int32) (x2 : Int32) (x3 : Int32) (x4 : Int32) (x5 : Int32) (x6 : Int32) (x7 : Int32) (h0 : Heap) (n0 : Nat) (Z0 : n0 ≤ h0.size) (A0 : Arv Z h0 t1 k1 .byte (8 : Int32) [(.int x0), (.int x1), (.int x2), (.int x3), (.int x4), (.int x5), (.int x6), (.int x7)] (.int (0 : Int32))) :
    MetFree l (⟨"com/example/handoff/handoff/RecordWriterPutIntPinLaw", "readInt", "([BI)I"⟩ : MethodName) (head1 (Jvm.Cond.code (⟨"com/example/handoff/handoff/RecordWriterPutIntPinLaw", "readInt", "([BI)I"⟩ : MethodName) method_3_code 2 (some .int) :: ws) ({ frames := 0, cells := 0, slots := 0, locals := 0 } : Room)) (fun a U => a = #[(.ref t1), (.int (0 : Int32))] ∧ Z.Warmed39 U.vm ∧ U.heap = h0) (fun _ _ _ _ _ => True) (fun _ U o U' => ∃ v L, o = .returned v ∧ Q5a Z t1 k1 x0 x1 x2 x3 x4 x5 x6 x7 h0 n0 v U'.heap L ∧ FrameEnd U o U' L ({ frames := 0, cells := 0, slots := 0, locals := 0 } : Room).cells ({ frames := 0, cells := 0, slots := 0, locals := 0 } : Room).slots) := by
  refine MetFree.of_bodySF (plainFor_of_name pn_5) hisR ?_
  intro p e s m args below meth c s₁ Bd hml0 hP hK
  obtain ⟨rfl, hZ, hh⟩ := hP
  have hx := Bd.exec
  have hby := Bd.bytes
  have hml : c.maxLocals = 2 := hml0
  have hown : s.vm.findClass "com/example/handoff/handoff/RecordWriterPutIntPinLaw" = some m.cls := findClass_of_methodNamed Bd.named
  have hnm := (name_of_methodNamed Bd.named Bd.method).1
  have X0 : Stand p l e ({ frames := 0, cells := 0, slots := 0, locals := 0 } : Room) s m #[(.ref t1), (.int (0 : Int32))] below meth c s₁ [] 0 0 := Stand.of_body Bd
  have e0 : s₁.heap = h0 := by rw [← hh, Bd.state]; rfl
  have N0 := Fr.nil n0
  have pre0 : ∀ t, Steps p.tables e below (s₁.setTop (mkF m 0 #[.val (.ref t1), .val (.int (0 : Int32))] [])) t → Steps p.tables e below (s₁.setTop (entryFrame m #[(.ref t1), (.int (0 : Int32))] 2)) t := fun t k => castTop (ef_5a m t1 (0 : Int32)) k
  obtain ⟨cl1, Ar1, q1, S1, M1, H1, G1⟩ := id A0
  have hin1 : ¬ ((0 : Int32) < 0 ∨ cl1.slots.size ≤ ((0 : Int32)).toNatClampNeg) := inb_of S1 ⟨by decide, by decide⟩
  have hat1 : cl1.slots[((0 : Int32)).toNatClampNeg]? = some (.int x0) := H1.at hin1 (by rw [show ((0 : Int32)).toNatClampNeg = 0 from by decide]; rfl)
  obtain ⟨cl2, Ar2, q2, S2, M2, H2, G2⟩ := id A0
  have hin2 : ¬ (((0 : Int32) + (1 : Int32)) < 0 ∨ cl2.slots.size ≤ (((0 : Int32) + (1 : Int32))).toNatClampNeg) := inb_of S2 ⟨by decide, by decide⟩
  have hat2 : cl2.slots[(((0 : Int32) + (1 : Int32))).toNatClampNeg]? = some (.int x1) := H2.at hin2 (by rw [show (((0 : Int32) + (1 : Int32))).toNatClampNeg = 1 from by decide]; rfl)
  obtain ⟨cl3, Ar3, q3, S3, M3, H3, G3⟩ := id A0
  have hin3 : ¬ (((0 : Int32) + (2 : Int32)) < 0 ∨ cl3.slots.size ≤ (((0 : Int32) + (2 : Int32))).toNatClampNeg) := inb_of S3 ⟨by decide, by decide⟩
  have hat3 : cl3.slots[(((0 : Int32) + (2 : Int32))).toNatClampNeg]? = some (.int x2) := H3.at hin3 (by rw [show (((0 : Int32) + (2 : Int32))).toNatClampNeg = 2 from by decide]; rfl)
  obtain ⟨cl4, Ar4, q4, S4, M4, H4, G4⟩ := id A0
  have hin4 : ¬ (((0 : Int32) + (3 : Int32)) < 0 ∨ cl4.slots.size ≤ (((0 : Int32) + (3 : Int32))).toNatClampNeg) := inb_of S4 ⟨by decide, by decide⟩
  have hat4 : cl4.slots[(((0 : Int32) + (3 : Int32))).toNatClampNeg]? = some (.int x3) := H4.at hin4 (by rw [show (((0 : Int32) + (3 : Int32))).toNatClampNeg = 3 from by decide]; rfl)
  obtain ⟨fs, hr, hrun, hended, hW, hsame⟩ := X0.leave (v := some (.int (((((x0 &&& (255 : Int32)) <<< ((24 : Int32) &&& 31)) ||| ((x1 &&& (255 : Int32)) <<< ((16 : Int32) &&& 31))) ||| ((x2 &&& (255 : Int32)) <<< ((8 : Int32) &&& 31))) ||| (x3 &&& (255 : Int32))))) (fun h => by rw [Bd.returns] at h; cases h)
  refine ⟨_, _, pre0 _ ?_, hrun, hended, _, _, rfl, ?_, ⟨_, rfl⟩, hW, hsame.mono (by decide) (by decide)⟩
  · show Steps p.tables e below (s₁.setTop (mkF m 0 #[.val (.ref t1), .val (.int (0 : Int32))] [])) _
    refine XS.aloadN X0.here hx rfl (hb hby d5_0) rfl rfl ?_
    show Steps p.tables e below (s₁.setTop (mkF m 1 #[.val (.ref t1), .val (.int (0 : Int32))] [(.ref t1)])) _
    refine XS.iloadN X0.here hx rfl (hb hby d5_1) rfl ?_
    show Steps p.tables e below (s₁.setTop (mkF m 2 #[.val (.ref t1), .val (.int (0 : Int32))] [(.int (0 : Int32)), (.ref t1)])) _
    refine X0.baloadBytes hx (j := (0 : Int32)) (v := (.int x0)) (by rw [e0]; exact Ar1.1) (State.isArrayOf_alike hZ.alike Ar1.2.1) Ar1.2.2 hin1 hat1 (g := (mkF m 2 #[.val (.ref t1), .val (.int (0 : Int32))] [(.int (0 : Int32)), (.ref t1)])) rfl rfl (hb hby d5_2) _ ?_
    show Steps p.tables e below (s₁.setTop (mkF m 3 #[.val (.ref t1), .val (.int (0 : Int32))] [(.int x0)])) _
    refine XS.sipush X0.here hx rfl (hb hby d5_3) ?_
    show Steps p.tables e below (s₁.setTop (mkF m 6 #[.val (.ref t1), .val (.int (0 : Int32))] [(.int (255 : Int32)), (.int x0)])) _
    refine XS.iand X0.here hx rfl (hb hby d5_6) rfl ?_
    show Steps p.tables e below (s₁.setTop (mkF m 7 #[.val (.ref t1), .val (.int (0 : Int32))] [(.int (x0 &&& (255 : Int32)))])) _
    refine XS.bipush X0.here hx rfl (hb hby d5_7) ?_
    show Steps p.tables e below (s₁.setTop (mkF m 9 #[.val (.ref t1), .val (.int (0 : Int32))] [(.int (24 : Int32)), (.int (x0 &&& (255 : Int32)))])) _
    refine XS.ishl X0.here hx rfl (hb hby d5_9) rfl ?_
    show Steps p.tables e below (s₁.setTop (mkF m 10 #[.val (.ref t1), .val (.int (0 : Int32))] [(.int ((x0 &&& (255 : Int32)) <<< ((24 : Int32) &&& 31)))])) _
    refine XS.aloadN X0.here hx rfl (hb hby d5_10) rfl rfl ?_
    show Steps p.tables e below (s₁.setTop (mkF m 11 #[.val (.ref t1), .val (.int (0 : Int32))] [(.ref t1), (.int ((x0 &&& (255 : Int32)) <<< ((24 : Int32) &&& 31)))])) _
    refine XS.iloadN X0.here hx rfl (hb hby d5_11) rfl ?_
    show Steps p.tables e below (s₁.setTop (mkF m 12 #[.val (.ref t1), .val (.int (0 : Int32))] [(.int (0 : Int32)), (.ref t1), (.int ((x0 &&& (255 : Int32)) <<< ((24 : Int32) &&& 31)))])) _
    refine XS.iconst X0.here hx rfl (hb hby d5_12) ?_
    show Steps p.tables e below (s₁.setTop (mkF m 13 #[.val (.ref t1), .val (.int (0 : Int32))] [(.int (1 : Int32)), (.int (0 : Int32)), (.ref t1), (.int ((x0 &&& (255 : Int32)) <<< ((24 : Int32) &&& 31)))])) _
    refine XS.iadd X0.here hx rfl (hb hby d5_13) rfl ?_
    show Steps p.tables e below (s₁.setTop (mkF m 14 #[.val (.ref t1), .val (.int (0 : Int32))] [(.int ((0 : Int32) + (1 : Int32))), (.ref t1), (.int ((x0 &&& (255 : Int32)) <<< ((24 : Int32) &&& 31)))])) _
    refine X0.baloadBytes hx (j := ((0 : Int32) + (1 : Int32))) (v := (.int x1)) (by rw [e0]; exact Ar2.1) (State.isArrayOf_alike hZ.alike Ar2.2.1) Ar2.2.2 hin2 hat2 (g := (mkF m 14 #[.val (.ref t1), .val (.int (0 : Int32))] [(.int ((0 : Int32) + (1 : Int32))), (.ref t1), (.int ((x0 &&& (255 : Int32)) <<< ((24 : Int32) &&& 31)))])) rfl rfl (hb hby d5_14) _ ?_
    show Steps p.tables e below (s₁.setTop (mkF m 15 #[.val (.ref t1), .val (.int (0 : Int32))] [(.int x1), (.int ((x0 &&& (255 : Int32)) <<< ((24 : Int32) &&& 31)))])) _
    refine XS.sipush X0.here hx rfl (hb hby d5_15) ?_
    show Steps p.tables e below (s₁.setTop (mkF m 18 #[.val (.ref t1), .val (.int (0 : Int32))] [(.int (255 : Int32)), (.int x1), (.int ((x0 &&& (255 : Int32)) <<< ((24 : Int32) &&& 31)))])) _
    refine XS.iand X0.here hx rfl (hb hby d5_18) rfl ?_
    show Steps p.tables e below (s₁.setTop (mkF m 19 #[.val (.ref t1), .val (.int (0 : Int32))] [(.int (x1 &&& (255 : Int32))), (.int ((x0 &&& (255 : Int32)) <<< ((24 : Int32) &&& 31)))])) _
    refine XS.bipush X0.here hx rfl (hb hby d5_19) ?_
    show Steps p.tables e below (s₁.setTop (mkF m 21 #[.val (.ref t1), .val (.int (0 : Int32))] [(.int (16 : Int32)), (.int (x1 &&& (255 : Int32))), (.int ((x0 &&& (255 : Int32)) <<< ((24 : Int32) &&& 31)))])) _
    refine XS.ishl X0.here hx rfl (hb hby d5_21) rfl ?_
    show Steps p.tables e below (s₁.setTop (mkF m 22 #[.val (.ref t1), .val (.int (0 : Int32))] [(.int ((x1 &&& (255 : Int32)) <<< ((16 : Int32) &&& 31))), (.int ((x0 &&& (255 : Int32)) <<< ((24 : Int32) &&& 31)))])) _
    refine XS.ior X0.here hx rfl (hb hby d5_22) rfl ?_
    show Steps p.tables e below (s₁.setTop (mkF m 23 #[.val (.ref t1), .val (.int (0 : Int32))] [(.int (((x0 &&& (255 : Int32)) <<< ((24 : Int32) &&& 31)) ||| ((x1 &&& (255 : Int32)) <<< ((16 : Int32) &&& 31))))])) _
    refine XS.aloadN X0.here hx rfl (hb hby d5_23) rfl rfl ?_
    show Steps p.tables e below (s₁.setTop (mkF m 24 #[.val (.ref t1), .val (.int (0 : Int32))] [(.ref t1), (.int (((x0 &&& (255 : Int32)) <<< ((24 : Int32) &&& 31)) ||| ((x1 &&& (255 : Int32)) <<< ((16 : Int32) &&& 31))))])) _
    refine XS.iloadN X0.here hx rfl (hb hby d5_24) rfl ?_
    show Steps p.tables e below (s₁.setTop (mkF m 25 #[.val (.ref t1), .val (.int (0 : Int32))] [(.int (0 : Int32)), (.ref t1), (.int (((x0 &&& (255 : Int32)) <<< ((24 : Int32) &&& 31)) ||| ((x1 &&& (255 : Int32)) <<< ((16 : Int32) &&& 31))))])) _
    refine XS.iconst X0.here hx rfl (hb hby d5_25) ?_
    show Steps p.tables e below (s₁.setTop (mkF m 26 #[.val (.ref t1), .val (.int (0 : Int32))] [(.int (2 : Int32)), (.int (0 : Int32)), (.ref t1), (.int (((x0 &&& (255 : Int32)) <<< ((24 : Int32) &&& 31)) ||| ((x1 &&& (255 : Int32)) <<< ((16 : Int32) &&& 31))))])) _
    refine XS.iadd X0.here hx rfl (hb hby d5_26) rfl ?_
    show Steps p.tables e below (s₁.setTop (mkF m 27 #[.val (.ref t1), .val (.int (0 : Int32))] [(.int ((0 : Int32) + (2 : Int32))), (.ref t1), (.int (((x0 &&& (255 : Int32)) <<< ((24 : Int32) &&& 31)) ||| ((x1 &&& (255 : Int32)) <<< ((16 : Int32) &&& 31))))])) _
    refine X0.baloadBytes hx (j := ((0 : Int32) + (2 : Int32))) (v := (.int x2)) (by rw [e0]; exact Ar3.1) (State.isArrayOf_alike hZ.alike Ar3.2.1) Ar3.2.2 hin3 hat3 (g := (mkF m 27 #[.val (.ref t1), .val (.int (0 : Int32))] [(.int ((0 : Int32) + (2 : Int32))), (.ref t1), (.int (((x0 &&& (255 : Int32)) <<< ((24 : Int32) &&& 31)) ||| ((x1 &&& (255 : Int32)) <<< ((16 : Int32) &&& 31))))])) rfl rfl (hb hby d5_27) _ ?_
    show Steps p.tables e below (s₁.setTop (mkF m 28 #[.val (.ref t1), .val (.int (0 : Int32))] [(.int x2), (.int (((x0 &&& (255 : Int32)) <<< ((24 : Int32) &&& 31)) ||| ((x1 &&& (255 : Int32)) <<< ((16 : Int32) &&& 31))))])) _
    refine XS.sipush X0.here hx rfl (hb hby d5_28) ?_
    show Steps p.tables e below (s₁.setTop (mkF m 31 #[.val (.ref t1), .val (.int (0 : Int32))] [(.int (255 : Int32)), (.int x2), (.int (((x0 &&& (255 : Int32)) <<< ((24 : Int32) &&& 31)) ||| ((x1 &&& (255 : Int32)) <<< ((16 : Int32) &&& 31))))])) _
    refine XS.iand X0.here hx rfl (hb hby d5_31) rfl ?_
    show Steps p.tables e below (s₁.setTop (mkF m 32 #[.val (.ref t1), .val (.int (0 : Int32))] [(.int (x2 &&& (255 : Int32))), (.int (((x0 &&& (255 : Int32)) <<< ((24 : Int32) &&& 31)) ||| ((x1 &&& (255 : Int32)) <<< ((16 : Int32) &&& 31))))])) _
    refine XS.bipush X0.here hx rfl (hb hby d5_32) ?_
    show Steps p.tables e below (s₁.setTop (mkF m 34 #[.val (.ref t1), .val (.int (0 : Int32))] [(.int (8 : Int32)), (.int (x2 &&& (255 : Int32))), (.int (((x0 &&& (255 : Int32)) <<< ((24 : Int32) &&& 31)) ||| ((x1 &&& (255 : Int32)) <<< ((16 : Int32) &&& 31))))])) _
    refine XS.ishl X0.here hx rfl (hb hby d5_34) rfl ?_
    show Steps p.tables e below (s₁.setTop (mkF m 35 #[.val (.ref t1), .val (.int (0 : Int32))] [(.int ((x2 &&& (255 : Int32)) <<< ((8 : Int32) &&& 31))), (.int (((x0 &&& (255 : Int32)) <<< ((24 : Int32) &&& 31)) ||| ((x1 &&& (255 : Int32)) <<< ((16 : Int32) &&& 31))))])) _
    refine XS.ior X0.here hx rfl (hb hby d5_35) rfl ?_
    show Steps p.tables e below (s₁.setTop (mkF m 36 #[.val (.ref t1), .val (.int (0 : Int32))] [(.int ((((x0 &&& (255 : Int32)) <<< ((24 : Int32) &&& 31)) ||| ((x1 &&& (255 : Int32)) <<< ((16 : Int32) &&& 31))) ||| ((x2 &&& (255 : Int32)) <<< ((8 : Int32) &&& 31))))])) _
    refine XS.aloadN X0.here hx rfl (hb hby d5_36) rfl rfl ?_
    show Steps p.tables e below (s₁.setTop (mkF m 37 #[.val (.ref t1), .val (.int (0 : Int32))] [(.ref t1), (.int ((((x0 &&& (255 : Int32)) <<< ((24 : Int32) &&& 31)) ||| ((x1 &&& (255 : Int32)) <<< ((16 : Int32) &&& 31))) ||| ((x2 &&& (255 : Int32)) <<< ((8 : Int32) &&& 31))))])) _
    refine XS.iloadN X0.here hx rfl (hb hby d5_37) rfl ?_
    show Steps p.tables e below (s₁.setTop (mkF m 38 #[.val (.ref t1), .val (.int (0 : Int32))] [(.int (0 : Int32)), (.ref t1), (.int ((((x0 &&& (255 : Int32)) <<< ((24 : Int32) &&& 31)) ||| ((x1 &&& (255 : Int32)) <<< ((16 : Int32) &&& 31))) ||| ((x2 &&& (255 : Int32)) <<< ((8 : Int32) &&& 31))))])) _
    refine XS.iconst X0.here hx rfl (hb hby d5_38) ?_
    show Steps p.tables e below (s₁.setTop (mkF m 39 #[.val (.ref t1), .val (.int (0 : Int32))] [(.int (3 : Int32)), (.int (0 : Int32)), (.ref t1), (.int ((((x0 &&& (255 : Int32)) <<< ((24 : Int32) &&& 31)) ||| ((x1 &&& (255 : Int32)) <<< ((16 : Int32) &&& 31))) ||| ((x2 &&& (255 : Int32)) <<< ((8 : Int32) &&& 31))))])) _
    refine XS.iadd X0.here hx rfl (hb hby d5_39) rfl ?_
    show Steps p.tables e below (s₁.setTop (mkF m 40 #[.val (.ref t1), .val (.int (0 : Int32))] [(.int ((0 : Int32) + (3 : Int32))), (.ref t1), (.int ((((x0 &&& (255 : Int32)) <<< ((24 : Int32) &&& 31)) ||| ((x1 &&& (255 : Int32)) <<< ((16 : Int32) &&& 31))) ||| ((x2 &&& (255 : Int32)) <<< ((8 : Int32) &&& 31))))])) _
    refine X0.baloadBytes hx (j := ((0 : Int32) + (3 : Int32))) (v := (.int x3)) (by rw [e0]; exact Ar4.1) (State.isArrayOf_alike hZ.alike Ar4.2.1) Ar4.2.2 hin4 hat4 (g := (mkF m 40 #[.val (.ref t1), .val (.int (0 : Int32))] [(.int ((0 : Int32) + (3 : Int32))), (.ref t1), (.int ((((x0 &&& (255 : Int32)) <<< ((24 : Int32) &&& 31)) ||| ((x1 &&& (255 : Int32)) <<< ((16 : Int32) &&& 31))) ||| ((x2 &&& (255 : Int32)) <<< ((8 : Int32) &&& 31))))])) rfl rfl (hb hby d5_40) _ ?_
    show Steps p.tables e below (s₁.setTop (mkF m 41 #[.val (.ref t1), .val (.int (0 : Int32))] [(.int x3), (.int ((((x0 &&& (255 : Int32)) <<< ((24 : Int32) &&& 31)) ||| ((x1 &&& (255 : Int32)) <<< ((16 : Int32) &&& 31))) ||| ((x2 &&& (255 : Int32)) <<< ((8 : Int32) &&& 31))))])) _
    refine XS.sipush X0.here hx rfl (hb hby d5_41) ?_
    show Steps p.tables e below (s₁.setTop (mkF m 44 #[.val (.ref t1), .val (.int (0 : Int32))] [(.int (255 : Int32)), (.int x3), (.int ((((x0 &&& (255 : Int32)) <<< ((24 : Int32) &&& 31)) ||| ((x1 &&& (255 : Int32)) <<< ((16 : Int32) &&& 31))) ||| ((x2 &&& (255 : Int32)) <<< ((8 : Int32) &&& 31))))])) _
    refine XS.iand X0.here hx rfl (hb hby d5_44) rfl ?_
    show Steps p.tables e below (s₁.setTop (mkF m 45 #[.val (.ref t1), .val (.int (0 : Int32))] [(.int (x3 &&& (255 : Int32))), (.int ((((x0 &&& (255 : Int32)) <<< ((24 : Int32) &&& 31)) ||| ((x1 &&& (255 : Int32)) <<< ((16 : Int32) &&& 31))) ||| ((x2 &&& (255 : Int32)) <<< ((8 : Int32) &&& 31))))])) _
    refine XS.ior X0.here hx rfl (hb hby d5_45) rfl ?_
    show Steps p.tables e below (s₁.setTop (mkF m 46 #[.val (.ref t1), .val (.int (0 : Int32))] [(.int (((((x0 &&& (255 : Int32)) <<< ((24 : Int32) &&& 31)) ||| ((x1 &&& (255 : Int32)) <<< ((16 : Int32) &&& 31))) ||| ((x2 &&& (255 : Int32)) <<< ((8 : Int32) &&& 31))) ||| (x3 &&& (255 : Int32))))])) _
    exact retI X0 hx Bd.returns (hb hby d5_46) hr
  · show Q5a Z t1 k1 x0 x1 x2 x3 x4 x5 x6 x7 h0 n0 _ s₁.heap _
    rw [e0]
    exact ⟨rfl, N0, rfl⟩
theorem ef_5b (m : MethodId) (x0 : Addr) (x1 : Int32) : entryFrame m #[(.ref x0), (.int x1)] 2 = mkF m 0 #[.val (.ref x0), .val (.int x1)] [] := by first | (simp [entryFrame, mkF, argsToLocals, Value.category]; done) | rfl
def Q5b (Z : State) (t1 : Addr) (k1 : ClassId) (x0 : Int32) (x1 : Int32) (x2 : Int32) (x3 : Int32) (x4 : Int32) (x5 : Int32) (x6 : Int32) (x7 : Int32) (h0 : Heap) (n0 : Nat) (v : Option Value) (h : Heap) (L : List Loc) : Prop := v = some (.int (own_rd x4 x5 x6 x7)) ∧ Fr n0 L ∧ h = h0
set_option maxRecDepth 65536 in
set_option maxHeartbeats 40000000 in
theorem rm5b (l : Launch) (Z : State) (a0 : Array Value) (hw : ∀ d ∈ tables_1, d.before a0 Z = true) (ws : List Jvm.Cond) (t1 : Addr) (k1 : ClassId) (x0 : Int32) (x1 : Int32) (x2 : Int32) (x3 : Int32) (x4 : Int32) (x5 : Int32) (x6 : Int32) (x7 : Int32) (h0 : Heap) (n0 : Nat) (Z0 : n0 ≤ h0.size) (A0 : Arv Z h0 t1 k1 .byte (8 : Int32) [(.int x0), (.int x1), (.int x2), (.int x3), (.int x4), (.int x5), (.int x6), (.int x7)] (.int (0 : Int32))) :
    MetFree l (⟨"com/example/handoff/handoff/RecordWriterPutIntPinLaw", "readInt", "([BI)I"⟩ : MethodName) (head1 (Jvm.Cond.code (⟨"com/example/handoff/handoff/RecordWriterPutIntPinLaw", "readInt", "([BI)I"⟩ : MethodName) method_3_code 2 (some .int) :: ws) ({ frames := 0, cells := 0, slots := 0, locals := 0 } : Room)) (fun a U => a = #[(.ref t1), (.int (4 : Int32))] ∧ Z.Warmed39 U.vm ∧ U.heap = h0) (fun _ _ _ _ _ => True) (fun _ U o U' => ∃ v L, o = .returned v ∧ Q5b Z t1 k1 x0 x1 x2 x3 x4 x5 x6 x7 h0 n0 v U'.heap L ∧ FrameEnd U o U' L ({ frames := 0, cells := 0, slots := 0, locals := 0 } : Room).cells ({ frames := 0, cells := 0, slots := 0, locals := 0 } : Room).slots) := by
  refine MetFree.of_bodySF (plainFor_of_name pn_5) hisR ?_
  intro p e s m args below meth c s₁ Bd hml0 hP hK
  obtain ⟨rfl, hZ, hh⟩ := hP
  have hx := Bd.exec
  have hby := Bd.bytes
  have hml : c.maxLocals = 2 := hml0
  have hown : s.vm.findClass "com/example/handoff/handoff/RecordWriterPutIntPinLaw" = some m.cls := findClass_of_methodNamed Bd.named
  have hnm := (name_of_methodNamed Bd.named Bd.method).1
  have X0 : Stand p l e ({ frames := 0, cells := 0, slots := 0, locals := 0 } : Room) s m #[(.ref t1), (.int (4 : Int32))] below meth c s₁ [] 0 0 := Stand.of_body Bd
  have e0 : s₁.heap = h0 := by rw [← hh, Bd.state]; rfl
  have N0 := Fr.nil n0
  have pre0 : ∀ t, Steps p.tables e below (s₁.setTop (mkF m 0 #[.val (.ref t1), .val (.int (4 : Int32))] [])) t → Steps p.tables e below (s₁.setTop (entryFrame m #[(.ref t1), (.int (4 : Int32))] 2)) t := fun t k => castTop (ef_5b m t1 (4 : Int32)) k
  obtain ⟨cl1, Ar1, q1, S1, M1, H1, G1⟩ := id A0
  have hin1 : ¬ ((4 : Int32) < 0 ∨ cl1.slots.size ≤ ((4 : Int32)).toNatClampNeg) := inb_of S1 ⟨by decide, by decide⟩
  have hat1 : cl1.slots[((4 : Int32)).toNatClampNeg]? = some (.int x4) := H1.at hin1 (by rw [show ((4 : Int32)).toNatClampNeg = 4 from by decide]; rfl)
  obtain ⟨cl2, Ar2, q2, S2, M2, H2, G2⟩ := id A0
  have hin2 : ¬ (((4 : Int32) + (1 : Int32)) < 0 ∨ cl2.slots.size ≤ (((4 : Int32) + (1 : Int32))).toNatClampNeg) := inb_of S2 ⟨by decide, by decide⟩
  have hat2 : cl2.slots[(((4 : Int32) + (1 : Int32))).toNatClampNeg]? = some (.int x5) := H2.at hin2 (by rw [show (((4 : Int32) + (1 : Int32))).toNatClampNeg = 5 from by decide]; rfl)
  obtain ⟨cl3, Ar3, q3, S3, M3, H3, G3⟩ := id A0
  have hin3 : ¬ (((4 : Int32) + (2 : Int32)) < 0 ∨ cl3.slots.size ≤ (((4 : Int32) + (2 : Int32))).toNatClampNeg) := inb_of S3 ⟨by decide, by decide⟩
  have hat3 : cl3.slots[(((4 : Int32) + (2 : Int32))).toNatClampNeg]? = some (.int x6) := H3.at hin3 (by rw [show (((4 : Int32) + (2 : Int32))).toNatClampNeg = 6 from by decide]; rfl)
  obtain ⟨cl4, Ar4, q4, S4, M4, H4, G4⟩ := id A0
  have hin4 : ¬ (((4 : Int32) + (3 : Int32)) < 0 ∨ cl4.slots.size ≤ (((4 : Int32) + (3 : Int32))).toNatClampNeg) := inb_of S4 ⟨by decide, by decide⟩
  have hat4 : cl4.slots[(((4 : Int32) + (3 : Int32))).toNatClampNeg]? = some (.int x7) := H4.at hin4 (by rw [show (((4 : Int32) + (3 : Int32))).toNatClampNeg = 7 from by decide]; rfl)
  obtain ⟨fs, hr, hrun, hended, hW, hsame⟩ := X0.leave (v := some (.int (((((x4 &&& (255 : Int32)) <<< ((24 : Int32) &&& 31)) ||| ((x5 &&& (255 : Int32)) <<< ((16 : Int32) &&& 31))) ||| ((x6 &&& (255 : Int32)) <<< ((8 : Int32) &&& 31))) ||| (x7 &&& (255 : Int32))))) (fun h => by rw [Bd.returns] at h; cases h)
  refine ⟨_, _, pre0 _ ?_, hrun, hended, _, _, rfl, ?_, ⟨_, rfl⟩, hW, hsame.mono (by decide) (by decide)⟩
  · show Steps p.tables e below (s₁.setTop (mkF m 0 #[.val (.ref t1), .val (.int (4 : Int32))] [])) _
    refine XS.aloadN X0.here hx rfl (hb hby d5_0) rfl rfl ?_
    show Steps p.tables e below (s₁.setTop (mkF m 1 #[.val (.ref t1), .val (.int (4 : Int32))] [(.ref t1)])) _
    refine XS.iloadN X0.here hx rfl (hb hby d5_1) rfl ?_
    show Steps p.tables e below (s₁.setTop (mkF m 2 #[.val (.ref t1), .val (.int (4 : Int32))] [(.int (4 : Int32)), (.ref t1)])) _
    refine X0.baloadBytes hx (j := (4 : Int32)) (v := (.int x4)) (by rw [e0]; exact Ar1.1) (State.isArrayOf_alike hZ.alike Ar1.2.1) Ar1.2.2 hin1 hat1 (g := (mkF m 2 #[.val (.ref t1), .val (.int (4 : Int32))] [(.int (4 : Int32)), (.ref t1)])) rfl rfl (hb hby d5_2) _ ?_
    show Steps p.tables e below (s₁.setTop (mkF m 3 #[.val (.ref t1), .val (.int (4 : Int32))] [(.int x4)])) _
    refine XS.sipush X0.here hx rfl (hb hby d5_3) ?_
    show Steps p.tables e below (s₁.setTop (mkF m 6 #[.val (.ref t1), .val (.int (4 : Int32))] [(.int (255 : Int32)), (.int x4)])) _
    refine XS.iand X0.here hx rfl (hb hby d5_6) rfl ?_
    show Steps p.tables e below (s₁.setTop (mkF m 7 #[.val (.ref t1), .val (.int (4 : Int32))] [(.int (x4 &&& (255 : Int32)))])) _
    refine XS.bipush X0.here hx rfl (hb hby d5_7) ?_
    show Steps p.tables e below (s₁.setTop (mkF m 9 #[.val (.ref t1), .val (.int (4 : Int32))] [(.int (24 : Int32)), (.int (x4 &&& (255 : Int32)))])) _
    refine XS.ishl X0.here hx rfl (hb hby d5_9) rfl ?_
    show Steps p.tables e below (s₁.setTop (mkF m 10 #[.val (.ref t1), .val (.int (4 : Int32))] [(.int ((x4 &&& (255 : Int32)) <<< ((24 : Int32) &&& 31)))])) _
    refine XS.aloadN X0.here hx rfl (hb hby d5_10) rfl rfl ?_
    show Steps p.tables e below (s₁.setTop (mkF m 11 #[.val (.ref t1), .val (.int (4 : Int32))] [(.ref t1), (.int ((x4 &&& (255 : Int32)) <<< ((24 : Int32) &&& 31)))])) _
    refine XS.iloadN X0.here hx rfl (hb hby d5_11) rfl ?_
    show Steps p.tables e below (s₁.setTop (mkF m 12 #[.val (.ref t1), .val (.int (4 : Int32))] [(.int (4 : Int32)), (.ref t1), (.int ((x4 &&& (255 : Int32)) <<< ((24 : Int32) &&& 31)))])) _
    refine XS.iconst X0.here hx rfl (hb hby d5_12) ?_
    show Steps p.tables e below (s₁.setTop (mkF m 13 #[.val (.ref t1), .val (.int (4 : Int32))] [(.int (1 : Int32)), (.int (4 : Int32)), (.ref t1), (.int ((x4 &&& (255 : Int32)) <<< ((24 : Int32) &&& 31)))])) _
    refine XS.iadd X0.here hx rfl (hb hby d5_13) rfl ?_
    show Steps p.tables e below (s₁.setTop (mkF m 14 #[.val (.ref t1), .val (.int (4 : Int32))] [(.int ((4 : Int32) + (1 : Int32))), (.ref t1), (.int ((x4 &&& (255 : Int32)) <<< ((24 : Int32) &&& 31)))])) _
    refine X0.baloadBytes hx (j := ((4 : Int32) + (1 : Int32))) (v := (.int x5)) (by rw [e0]; exact Ar2.1) (State.isArrayOf_alike hZ.alike Ar2.2.1) Ar2.2.2 hin2 hat2 (g := (mkF m 14 #[.val (.ref t1), .val (.int (4 : Int32))] [(.int ((4 : Int32) + (1 : Int32))), (.ref t1), (.int ((x4 &&& (255 : Int32)) <<< ((24 : Int32) &&& 31)))])) rfl rfl (hb hby d5_14) _ ?_
    show Steps p.tables e below (s₁.setTop (mkF m 15 #[.val (.ref t1), .val (.int (4 : Int32))] [(.int x5), (.int ((x4 &&& (255 : Int32)) <<< ((24 : Int32) &&& 31)))])) _
    refine XS.sipush X0.here hx rfl (hb hby d5_15) ?_
    show Steps p.tables e below (s₁.setTop (mkF m 18 #[.val (.ref t1), .val (.int (4 : Int32))] [(.int (255 : Int32)), (.int x5), (.int ((x4 &&& (255 : Int32)) <<< ((24 : Int32) &&& 31)))])) _
    refine XS.iand X0.here hx rfl (hb hby d5_18) rfl ?_
    show Steps p.tables e below (s₁.setTop (mkF m 19 #[.val (.ref t1), .val (.int (4 : Int32))] [(.int (x5 &&& (255 : Int32))), (.int ((x4 &&& (255 : Int32)) <<< ((24 : Int32) &&& 31)))])) _
    refine XS.bipush X0.here hx rfl (hb hby d5_19) ?_
    show Steps p.tables e below (s₁.setTop (mkF m 21 #[.val (.ref t1), .val (.int (4 : Int32))] [(.int (16 : Int32)), (.int (x5 &&& (255 : Int32))), (.int ((x4 &&& (255 : Int32)) <<< ((24 : Int32) &&& 31)))])) _
    refine XS.ishl X0.here hx rfl (hb hby d5_21) rfl ?_
    show Steps p.tables e below (s₁.setTop (mkF m 22 #[.val (.ref t1), .val (.int (4 : Int32))] [(.int ((x5 &&& (255 : Int32)) <<< ((16 : Int32) &&& 31))), (.int ((x4 &&& (255 : Int32)) <<< ((24 : Int32) &&& 31)))])) _
    refine XS.ior X0.here hx rfl (hb hby d5_22) rfl ?_
    show Steps p.tables e below (s₁.setTop (mkF m 23 #[.val (.ref t1), .val (.int (4 : Int32))] [(.int (((x4 &&& (255 : Int32)) <<< ((24 : Int32) &&& 31)) ||| ((x5 &&& (255 : Int32)) <<< ((16 : Int32) &&& 31))))])) _
    refine XS.aloadN X0.here hx rfl (hb hby d5_23) rfl rfl ?_
    show Steps p.tables e below (s₁.setTop (mkF m 24 #[.val (.ref t1), .val (.int (4 : Int32))] [(.ref t1), (.int (((x4 &&& (255 : Int32)) <<< ((24 : Int32) &&& 31)) ||| ((x5 &&& (255 : Int32)) <<< ((16 : Int32) &&& 31))))])) _
    refine XS.iloadN X0.here hx rfl (hb hby d5_24) rfl ?_
    show Steps p.tables e below (s₁.setTop (mkF m 25 #[.val (.ref t1), .val (.int (4 : Int32))] [(.int (4 : Int32)), (.ref t1), (.int (((x4 &&& (255 : Int32)) <<< ((24 : Int32) &&& 31)) ||| ((x5 &&& (255 : Int32)) <<< ((16 : Int32) &&& 31))))])) _
    refine XS.iconst X0.here hx rfl (hb hby d5_25) ?_
    show Steps p.tables e below (s₁.setTop (mkF m 26 #[.val (.ref t1), .val (.int (4 : Int32))] [(.int (2 : Int32)), (.int (4 : Int32)), (.ref t1), (.int (((x4 &&& (255 : Int32)) <<< ((24 : Int32) &&& 31)) ||| ((x5 &&& (255 : Int32)) <<< ((16 : Int32) &&& 31))))])) _
    refine XS.iadd X0.here hx rfl (hb hby d5_26) rfl ?_
    show Steps p.tables e below (s₁.setTop (mkF m 27 #[.val (.ref t1), .val (.int (4 : Int32))] [(.int ((4 : Int32) + (2 : Int32))), (.ref t1), (.int (((x4 &&& (255 : Int32)) <<< ((24 : Int32) &&& 31)) ||| ((x5 &&& (255 : Int32)) <<< ((16 : Int32) &&& 31))))])) _
    refine X0.baloadBytes hx (j := ((4 : Int32) + (2 : Int32))) (v := (.int x6)) (by rw [e0]; exact Ar3.1) (State.isArrayOf_alike hZ.alike Ar3.2.1) Ar3.2.2 hin3 hat3 (g := (mkF m 27 #[.val (.ref t1), .val (.int (4 : Int32))] [(.int ((4 : Int32) + (2 : Int32))), (.ref t1), (.int (((x4 &&& (255 : Int32)) <<< ((24 : Int32) &&& 31)) ||| ((x5 &&& (255 : Int32)) <<< ((16 : Int32) &&& 31))))])) rfl rfl (hb hby d5_27) _ ?_
    show Steps p.tables e below (s₁.setTop (mkF m 28 #[.val (.ref t1), .val (.int (4 : Int32))] [(.int x6), (.int (((x4 &&& (255 : Int32)) <<< ((24 : Int32) &&& 31)) ||| ((x5 &&& (255 : Int32)) <<< ((16 : Int32) &&& 31))))])) _
    refine XS.sipush X0.here hx rfl (hb hby d5_28) ?_
    show Steps p.tables e below (s₁.setTop (mkF m 31 #[.val (.ref t1), .val (.int (4 : Int32))] [(.int (255 : Int32)), (.int x6), (.int (((x4 &&& (255 : Int32)) <<< ((24 : Int32) &&& 31)) ||| ((x5 &&& (255 : Int32)) <<< ((16 : Int32) &&& 31))))])) _
    refine XS.iand X0.here hx rfl (hb hby d5_31) rfl ?_
    show Steps p.tables e below (s₁.setTop (mkF m 32 #[.val (.ref t1), .val (.int (4 : Int32))] [(.int (x6 &&& (255 : Int32))), (.int (((x4 &&& (255 : Int32)) <<< ((24 : Int32) &&& 31)) ||| ((x5 &&& (255 : Int32)) <<< ((16 : Int32) &&& 31))))])) _
    refine XS.bipush X0.here hx rfl (hb hby d5_32) ?_
    show Steps p.tables e below (s₁.setTop (mkF m 34 #[.val (.ref t1), .val (.int (4 : Int32))] [(.int (8 : Int32)), (.int (x6 &&& (255 : Int32))), (.int (((x4 &&& (255 : Int32)) <<< ((24 : Int32) &&& 31)) ||| ((x5 &&& (255 : Int32)) <<< ((16 : Int32) &&& 31))))])) _
    refine XS.ishl X0.here hx rfl (hb hby d5_34) rfl ?_
    show Steps p.tables e below (s₁.setTop (mkF m 35 #[.val (.ref t1), .val (.int (4 : Int32))] [(.int ((x6 &&& (255 : Int32)) <<< ((8 : Int32) &&& 31))), (.int (((x4 &&& (255 : Int32)) <<< ((24 : Int32) &&& 31)) ||| ((x5 &&& (255 : Int32)) <<< ((16 : Int32) &&& 31))))])) _
    refine XS.ior X0.here hx rfl (hb hby d5_35) rfl ?_
    show Steps p.tables e below (s₁.setTop (mkF m 36 #[.val (.ref t1), .val (.int (4 : Int32))] [(.int ((((x4 &&& (255 : Int32)) <<< ((24 : Int32) &&& 31)) ||| ((x5 &&& (255 : Int32)) <<< ((16 : Int32) &&& 31))) ||| ((x6 &&& (255 : Int32)) <<< ((8 : Int32) &&& 31))))])) _
    refine XS.aloadN X0.here hx rfl (hb hby d5_36) rfl rfl ?_
    show Steps p.tables e below (s₁.setTop (mkF m 37 #[.val (.ref t1), .val (.int (4 : Int32))] [(.ref t1), (.int ((((x4 &&& (255 : Int32)) <<< ((24 : Int32) &&& 31)) ||| ((x5 &&& (255 : Int32)) <<< ((16 : Int32) &&& 31))) ||| ((x6 &&& (255 : Int32)) <<< ((8 : Int32) &&& 31))))])) _
    refine XS.iloadN X0.here hx rfl (hb hby d5_37) rfl ?_
    show Steps p.tables e below (s₁.setTop (mkF m 38 #[.val (.ref t1), .val (.int (4 : Int32))] [(.int (4 : Int32)), (.ref t1), (.int ((((x4 &&& (255 : Int32)) <<< ((24 : Int32) &&& 31)) ||| ((x5 &&& (255 : Int32)) <<< ((16 : Int32) &&& 31))) ||| ((x6 &&& (255 : Int32)) <<< ((8 : Int32) &&& 31))))])) _
    refine XS.iconst X0.here hx rfl (hb hby d5_38) ?_
    show Steps p.tables e below (s₁.setTop (mkF m 39 #[.val (.ref t1), .val (.int (4 : Int32))] [(.int (3 : Int32)), (.int (4 : Int32)), (.ref t1), (.int ((((x4 &&& (255 : Int32)) <<< ((24 : Int32) &&& 31)) ||| ((x5 &&& (255 : Int32)) <<< ((16 : Int32) &&& 31))) ||| ((x6 &&& (255 : Int32)) <<< ((8 : Int32) &&& 31))))])) _
    refine XS.iadd X0.here hx rfl (hb hby d5_39) rfl ?_
    show Steps p.tables e below (s₁.setTop (mkF m 40 #[.val (.ref t1), .val (.int (4 : Int32))] [(.int ((4 : Int32) + (3 : Int32))), (.ref t1), (.int ((((x4 &&& (255 : Int32)) <<< ((24 : Int32) &&& 31)) ||| ((x5 &&& (255 : Int32)) <<< ((16 : Int32) &&& 31))) ||| ((x6 &&& (255 : Int32)) <<< ((8 : Int32) &&& 31))))])) _
    refine X0.baloadBytes hx (j := ((4 : Int32) + (3 : Int32))) (v := (.int x7)) (by rw [e0]; exact Ar4.1) (State.isArrayOf_alike hZ.alike Ar4.2.1) Ar4.2.2 hin4 hat4 (g := (mkF m 40 #[.val (.ref t1), .val (.int (4 : Int32))] [(.int ((4 : Int32) + (3 : Int32))), (.ref t1), (.int ((((x4 &&& (255 : Int32)) <<< ((24 : Int32) &&& 31)) ||| ((x5 &&& (255 : Int32)) <<< ((16 : Int32) &&& 31))) ||| ((x6 &&& (255 : Int32)) <<< ((8 : Int32) &&& 31))))])) rfl rfl (hb hby d5_40) _ ?_
    show Steps p.tables e below (s₁.setTop (mkF m 41 #[.val (.ref t1), .val (.int (4 : Int32))] [(.int x7), (.int ((((x4 &&& (255 : Int32)) <<< ((24 : Int32) &&& 31)) ||| ((x5 &&& (255 : Int32)) <<< ((16 : Int32) &&& 31))) ||| ((x6 &&& (255 : Int32)) <<< ((8 : Int32) &&& 31))))])) _
    refine XS.sipush X0.here hx rfl (hb hby d5_41) ?_
    show Steps p.tables e below (s₁.setTop (mkF m 44 #[.val (.ref t1), .val (.int (4 : Int32))] [(.int (255 : Int32)), (.int x7), (.int ((((x4 &&& (255 : Int32)) <<< ((24 : Int32) &&& 31)) ||| ((x5 &&& (255 : Int32)) <<< ((16 : Int32) &&& 31))) ||| ((x6 &&& (255 : Int32)) <<< ((8 : Int32) &&& 31))))])) _
    refine XS.iand X0.here hx rfl (hb hby d5_44) rfl ?_
    show Steps p.tables e below (s₁.setTop (mkF m 45 #[.val (.ref t1), .val (.int (4 : Int32))] [(.int (x7 &&& (255 : Int32))), (.int ((((x4 &&& (255 : Int32)) <<< ((24 : Int32) &&& 31)) ||| ((x5 &&& (255 : Int32)) <<< ((16 : Int32) &&& 31))) ||| ((x6 &&& (255 : Int32)) <<< ((8 : Int32) &&& 31))))])) _
    refine XS.ior X0.here hx rfl (hb hby d5_45) rfl ?_
    show Steps p.tables e below (s₁.setTop (mkF m 46 #[.val (.ref t1), .val (.int (4 : Int32))] [(.int (((((x4 &&& (255 : Int32)) <<< ((24 : Int32) &&& 31)) ||| ((x5 &&& (255 : Int32)) <<< ((16 : Int32) &&& 31))) ||| ((x6 &&& (255 : Int32)) <<< ((8 : Int32) &&& 31))) ||| (x7 &&& (255 : Int32))))])) _
    exact retI X0 hx Bd.returns (hb hby d5_46) hr
  · show Q5b Z t1 k1 x0 x1 x2 x3 x4 x5 x6 x7 h0 n0 _ s₁.heap _
    rw [e0]
    exact ⟨rfl, N0, rfl⟩
theorem pd_102 : parseMethodDescriptor "(I)V" = some ⟨[.int], none⟩ := by decide +kernel
theorem pd_103 : parseMethodDescriptor "(I)Lcom/example/handoff/handoff/RecordWriter;" = some ⟨[.int], some (.object "com/example/handoff/handoff/RecordWriter")⟩ := by decide +kernel
theorem pd_104 : parseMethodDescriptor "()[B" = some ⟨[], some (.array .byte)⟩ := by decide +kernel
theorem pd_105 : parseMethodDescriptor "([BI)I" = some ⟨[(.array .byte), .int], some .int⟩ := by decide +kernel
theorem ef_0 (m : MethodId) (x0 : Int32) (x1 : Int32) : entryFrame m #[(.int x0), (.int x1)] maxLocals = mkF m 0 #[.val (.int x0), .val (.int x1), .unset, .unset, .unset, .unset] [] := by first | (simp [entryFrame, mkF, argsToLocals, Value.category, maxLocals]; done) | rfl
def Q0 (Z : State) (p1 : Int32) (p2 : Int32) (h0 : Heap) (n0 : Nat) (v : Option Value) (h : Heap) (L : List Loc) : Prop := v = some (.int (1 : Int32)) ∧ Fr n0 L
set_option maxRecDepth 65536 in
set_option maxHeartbeats 40000000 in
theorem rm0 (l : Launch) (Z : State) (a0 : Array Value) (hw : ∀ d ∈ tables_1, d.before a0 Z = true) (ws : List Jvm.Cond) (p1 : Int32) (p2 : Int32) (h0 : Heap) (n0 : Nat) (Z0 : n0 ≤ h0.size) :
    MetFree l x (head1 (Jvm.Cond.code x code maxLocals ret :: ws) room_1) (fun a U => a = #[(.int p1), (.int p2)] ∧ Z.Warmed39 U.vm ∧ U.heap = h0) (fun _ _ _ _ _ => True) (fun _ U o U' => ∃ v L, o = .returned v ∧ Q0 Z p1 p2 h0 n0 v U'.heap L ∧ FrameEnd U o U' L room_1.cells room_1.slots) := by
  refine MetFree.of_bodySF (plainFor_of_name pn_5) hisR ?_
  intro p e s m args below meth c s₁ Bd hml0 hP hK
  obtain ⟨rfl, hZ, hh⟩ := hP
  have hx := Bd.exec
  have hby := Bd.bytes
  have hml : c.maxLocals = 6 := hml0
  have hown : s.vm.findClass "com/example/handoff/handoff/RecordWriterPutIntPinLaw" = some m.cls := findClass_of_methodNamed Bd.named
  have hnm := (name_of_methodNamed Bd.named Bd.method).1
  have X0 : Stand p l e room_1 s m #[(.int p1), (.int p2)] below meth c s₁ [] 0 0 := Stand.of_body Bd
  have e0 : s₁.heap = h0 := by rw [← hh, Bd.state]; rfl
  have N0 := Fr.nil n0
  have pre0 : ∀ t, Steps p.tables e below (s₁.setTop (mkF m 0 #[.val (.int p1), .val (.int p2), .unset, .unset, .unset, .unset] [])) t → Steps p.tables e below (s₁.setTop (entryFrame m #[(.int p1), (.int p2)] maxLocals)) t := fun t k => castTop (ef_0 m p1 p2) k
  obtain ⟨T1, h1, X1, e1, E1, A1, D1, -, st1⟩ := newO X0 hx hZ hown (hw _ (List.mem_of_getElem? (i := 0) rfl)) (hw _ (List.mem_of_getElem? (i := 1) rfl)) (hw _ (List.mem_of_getElem? (i := 2) rfl)) e0 (g := (mkF m 0 #[.val (.int p1), .val (.int p2), .unset, .unset, .unset, .unset] [])) rfl (hb hby at_0) (by decide) (by decide)
  obtain ⟨b1, g1⟩ : ∃ z, z = h0.size := ⟨_, rfl⟩
  rw [← g1] at A1 D1 st1
  have g_b1 : n0 ≤ b1 := Nat.le_trans Z0 (Nat.le_of_eq g1.symm)
  have Z2 : n0 ≤ h1.size := Nat.le_trans Z0 E1.1
  have f3 : Fld Z h1 b1 "com/example/handoff/handoff/RecordWriter" "bytes" "[B" .null := D1 (Or.inr (hw _ (List.mem_of_getElem? (i := 11) rfl))) (ty := (.array .byte)) (by decide)
  have f4 : Fld Z h1 b1 "com/example/handoff/handoff/RecordWriter" "at" "I" (.int (0 : Int32)) := D1 (Or.inl (hw _ (List.mem_of_getElem? (i := 18) rfl))) (ty := .int) (by decide)
  obtain ⟨_, _, ⟨T5, L5, k5, n5⟩, -, X5, ⟨Lc5, hQ5, l5, y5, z5⟩, st5⟩ := X1.specialBack hx (y := (⟨"com/example/handoff/handoff/RecordWriter", "<init>", "(I)V"⟩ : MethodName)) rfl hown (mvT hZ (hw _ (List.mem_of_getElem? (i := 3) rfl))) (mvT hZ (hw _ (List.mem_of_getElem? (i := 4) rfl))) (mvT hZ (hw _ (List.mem_of_getElem? (i := 5) rfl))) (by decide) (backOf (W := 1) (rm1 l Z a0 hw [] b1 h1 n0 Z2 f3 f4 A1 g_b1) hZ (hw _ (List.mem_of_getElem? (i := 5) rfl)) (hw _ (List.mem_of_getElem? (i := 2) rfl)) (by decide) (by decide)) (g := (mkF m 6 #[.val (.int p1), .val (.int p2), .unset, .unset, .unset, .unset] [(.int (8 : Int32)), (.ref b1), (.ref b1)])) rfl (by rw [hml]; rfl) (Steps.refl _) (a := b1) (argsL := [(.int (8 : Int32))]) (rest := [(.ref b1)]) (lenOf pd_102 rfl) rfl (by show 2 * 0 + _ ≤ _; exact Nat.le_of_eq rfl) (hb hby at_6) (fun _ _ => ⟨rfl, e1, (by decide : 1 + 1 ≤ _), (by decide : 2 + 8 ≤ _)⟩)
  dsimp only [Pt.U, Pt.locs, Pt.cells, Pt.slots] at X5 l5 y5 z5 st5 hQ5
  subst l5 y5 z5
  obtain ⟨rfl, N5q, K5q, ra5, t1, k1, g_t1, ne5x, rb5, rc5⟩ := hQ5
  have N5 := Fr.app N0 N5q
  have K5 := K5q
  have f6 : Exa Z T5.heap b1 "com/example/handoff/handoff/RecordWriter" := A1.keep K5
  have Z7 : n0 ≤ T5.heap.size := Nat.le_trans Z2 K5.1
  obtain ⟨cq8, kq8, q8a, q8b, q8c⟩ := isOf hZ rfl f6
  obtain ⟨_, _, ⟨T8, L8, k8, n8⟩, -, X8, ⟨Lc8, hQ8, l8, y8, z8⟩, st8⟩ := X5.virtualBack hx (y := (⟨"com/example/handoff/handoff/RecordWriter", "putInt", "(I)Lcom/example/handoff/handoff/RecordWriter;"⟩ : MethodName)) (z := (⟨"com/example/handoff/handoff/RecordWriter", "putInt", "(I)Lcom/example/handoff/handoff/RecordWriter;"⟩ : MethodName)) hown (mvT hZ (hw _ (List.mem_of_getElem? (i := 12) rfl))) (mvT hZ (hw _ (List.mem_of_getElem? (i := 13) rfl))) (notFace_of_selects (args := #[]) (mvT hZ (hw _ (List.mem_of_getElem? (i := 15) rfl)))) (mvT hZ (hw _ (List.mem_of_getElem? (i := 15) rfl))) (mvT hZ (hw _ (List.mem_of_getElem? (i := 14) rfl))) (by decide) (backOf (W := 0) (rm3a l Z a0 hw [] b1 p1 t1 k1  T5.heap n0 Z7 rb5 ra5 f6 rc5 g_b1 g_t1 ne5x) hZ (hw _ (List.mem_of_getElem? (i := 16) rfl)) (hw _ (List.mem_of_getElem? (i := 2) rfl)) (by decide) (by decide)) q8a q8c (g := (mkF m 12 #[.val (.int p1), .val (.int p2), .val (.ref b1), .unset, .unset, .unset] [(.int p1), (.ref b1)])) rfl (by rw [hml]; rfl) (Steps.refl _) (argsL := [(.int p1)]) (rest := []) (lenOf pd_103 rfl) rfl (by show 2 * 0 + _ ≤ _; exact Nat.le_of_eq rfl) (hb hby at_12) (fun _ _ => ⟨rfl, rfl, (by decide : 2 + 0 ≤ _), (by decide : 10 + 0 ≤ _)⟩)
  dsimp only [Pt.U, Pt.locs, Pt.cells, Pt.slots] at X8 l8 y8 z8 st8 hQ8
  subst l8 y8 z8
  obtain ⟨rfl, N8q, K8q, rb8, ra8, rc8⟩ := hQ8
  have N8 := Fr.app N5 N8q
  have K8 := K8q
  have f9 : Exa Z T8.heap b1 "com/example/handoff/handoff/RecordWriter" := f6.keep K8
  have Z10 : n0 ≤ T8.heap.size := Nat.le_trans Z7 K8.1
  obtain ⟨cq11, kq11, q11a, q11b, q11c⟩ := isOf hZ rfl f9
  obtain ⟨_, _, ⟨T11, L11, k11, n11⟩, -, X11, ⟨Lc11, hQ11, l11, y11, z11⟩, st11⟩ := X8.virtualBack hx (y := (⟨"com/example/handoff/handoff/RecordWriter", "putInt", "(I)Lcom/example/handoff/handoff/RecordWriter;"⟩ : MethodName)) (z := (⟨"com/example/handoff/handoff/RecordWriter", "putInt", "(I)Lcom/example/handoff/handoff/RecordWriter;"⟩ : MethodName)) hown (mvT hZ (hw _ (List.mem_of_getElem? (i := 12) rfl))) (mvT hZ (hw _ (List.mem_of_getElem? (i := 13) rfl))) (notFace_of_selects (args := #[]) (mvT hZ (hw _ (List.mem_of_getElem? (i := 15) rfl)))) (mvT hZ (hw _ (List.mem_of_getElem? (i := 15) rfl))) (mvT hZ (hw _ (List.mem_of_getElem? (i := 14) rfl))) (by decide) (backOf (W := 0) (rm3b l Z a0 hw [] b1 p2 t1 k1 (own_sh p1 24) (own_sh p1 16) (own_sh p1 8) (own_lo p1) T8.heap n0 Z10 rb8 ra8 f9 rc8 g_b1 g_t1 ne5x) hZ (hw _ (List.mem_of_getElem? (i := 16) rfl)) (hw _ (List.mem_of_getElem? (i := 2) rfl)) (by decide) (by decide)) q11a q11c (g := (mkF m 18 #[.val (.int p1), .val (.int p2), .val (.ref b1), .val (.ref b1), .unset, .unset] [(.int p2), (.ref b1)])) rfl (by rw [hml]; rfl) (Steps.refl _) (argsL := [(.int p2)]) (rest := []) (lenOf pd_103 rfl) rfl (by show 2 * 0 + _ ≤ _; exact Nat.le_of_eq rfl) (hb hby at_18) (fun _ _ => ⟨rfl, rfl, (by decide : 2 + 0 ≤ _), (by decide : 10 + 0 ≤ _)⟩)
  dsimp only [Pt.U, Pt.locs, Pt.cells, Pt.slots] at X11 l11 y11 z11 st11 hQ11
  subst l11 y11 z11
  obtain ⟨rfl, N11q, K11q, rb11, ra11, rc11⟩ := hQ11
  have N11 := Fr.app N8 N11q
  have K11 := K11q
  have f12 : Exa Z T11.heap b1 "com/example/handoff/handoff/RecordWriter" := f9.keep K11
  have Z13 : n0 ≤ T11.heap.size := Nat.le_trans Z10 K11.1
  obtain ⟨cq14, kq14, q14a, q14b, q14c⟩ := isOf hZ rfl f12
  obtain ⟨_, _, ⟨T14, L14, k14, n14⟩, -, X14, ⟨Lc14, hQ14, l14, y14, z14⟩, st14⟩ := X11.virtualBack hx (y := (⟨"com/example/handoff/handoff/RecordWriter", "bytes", "()[B"⟩ : MethodName)) (z := (⟨"com/example/handoff/handoff/RecordWriter", "bytes", "()[B"⟩ : MethodName)) hown (mvT hZ (hw _ (List.mem_of_getElem? (i := 19) rfl))) (mvT hZ (hw _ (List.mem_of_getElem? (i := 20) rfl))) (notFace_of_selects (args := #[]) (mvT hZ (hw _ (List.mem_of_getElem? (i := 22) rfl)))) (mvT hZ (hw _ (List.mem_of_getElem? (i := 22) rfl))) (mvT hZ (hw _ (List.mem_of_getElem? (i := 21) rfl))) (by decide) (backOf (W := 0) (rm4 l Z a0 hw [] b1 t1 k1 _ T11.heap n0 Z13 rb11 ra11 rc11) hZ (hw _ (List.mem_of_getElem? (i := 23) rfl)) (hw _ (List.mem_of_getElem? (i := 2) rfl)) (by decide) (by decide)) q14a q14c (g := (mkF m 24 #[.val (.int p1), .val (.int p2), .val (.ref b1), .val (.ref b1), .val (.ref b1), .unset] [(.ref b1)])) rfl (by rw [hml]; rfl) (Steps.refl _) (argsL := []) (rest := []) (lenOf pd_104 rfl) rfl (by show 2 * 0 + _ ≤ _; exact Nat.le_of_eq rfl) (hb hby at_24) (fun _ _ => ⟨rfl, rfl, (by decide : 2 + 0 ≤ _), (by decide : 10 + 0 ≤ _)⟩)
  dsimp only [Pt.U, Pt.locs, Pt.cells, Pt.slots] at X14 l14 y14 z14 st14 hQ14
  subst l14 y14 z14
  obtain ⟨rfl, N14q, e14⟩ := hQ14
  have N14 := Fr.app N11 N14q
  obtain ⟨cl15, Ar15, q15, S15, M15, H15, G15⟩ := id rc11
  obtain ⟨_, _, ⟨T16, L16, k16, n16⟩, -, X16, ⟨Lc16, hQ16, l16, y16, z16⟩, st16⟩ := Jvm.LawKit.callS X14 hx (y := (⟨"com/example/handoff/handoff/RecordWriterPutIntPinLaw", "readInt", "([BI)I"⟩ : MethodName)) hown (mvT hZ (hw _ (List.mem_of_getElem? (i := 24) rfl))) (mvT hZ (hw _ (List.mem_of_getElem? (i := 25) rfl))) (mvT hZ (hw _ (List.mem_of_getElem? (i := 26) rfl))) (mvT hZ (hw _ (List.mem_of_getElem? (i := 27) rfl))) (by decide) (backOf (W := 0) (rm5a l Z a0 hw [] t1 k1 (own_sh p1 24) (own_sh p1 16) (own_sh p1 8) (own_lo p1) (own_sh p2 24) (own_sh p2 16) (own_sh p2 8) (own_lo p2) T11.heap n0 Z13 rc11) hZ (hw _ (List.mem_of_getElem? (i := 27) rfl)) (hw _ (List.mem_of_getElem? (i := 26) rfl)) (by decide) (by decide)) (g := (mkF m 51 #[.val (.int p1), .val (.int p2), .val (.ref b1), .val (.ref b1), .val (.ref b1), .val (.ref t1)] [(.int (0 : Int32)), (.ref t1)])) rfl (by rw [hml]; rfl) (argsL := [(.ref t1), (.int (0 : Int32))]) (rest := []) (lenOf pd_105 rfl) rfl (by show 2 * 0 + _ ≤ _; exact Nat.le_of_eq rfl) (hb hby at_51) (fun _ _ => ⟨rfl, e14, (by decide : 2 + 0 ≤ _), (by decide : 10 + 0 ≤ _)⟩)
  dsimp only [Pt.U, Pt.locs, Pt.cells, Pt.slots] at X16 l16 y16 z16 st16 hQ16
  subst l16 y16 z16
  obtain ⟨rfl, N16q, e16⟩ := hQ16
  have N16 := Fr.app N14 N16q
  obtain ⟨_, _, ⟨T17, L17, k17, n17⟩, -, X17, ⟨Lc17, hQ17, l17, y17, z17⟩, st17⟩ := Jvm.LawKit.callS X16 hx (y := (⟨"com/example/handoff/handoff/RecordWriterPutIntPinLaw", "readInt", "([BI)I"⟩ : MethodName)) hown (mvT hZ (hw _ (List.mem_of_getElem? (i := 24) rfl))) (mvT hZ (hw _ (List.mem_of_getElem? (i := 25) rfl))) (mvT hZ (hw _ (List.mem_of_getElem? (i := 26) rfl))) (mvT hZ (hw _ (List.mem_of_getElem? (i := 27) rfl))) (by decide) (backOf (W := 0) (rm5b l Z a0 hw [] t1 k1 (own_sh p1 24) (own_sh p1 16) (own_sh p1 8) (own_lo p1) (own_sh p2 24) (own_sh p2 16) (own_sh p2 8) (own_lo p2) T11.heap n0 Z13 rc11) hZ (hw _ (List.mem_of_getElem? (i := 27) rfl)) (hw _ (List.mem_of_getElem? (i := 26) rfl)) (by decide) (by decide)) (g := (mkF m 61 #[.val (.int p1), .val (.int p2), .val (.ref b1), .val (.ref b1), .val (.ref b1), .val (.ref t1)] [(.int (4 : Int32)), (.ref t1)])) rfl (by rw [hml]; rfl) (argsL := [(.ref t1), (.int (4 : Int32))]) (rest := []) (lenOf pd_105 rfl) rfl (by show 2 * 0 + _ ≤ _; exact Nat.le_of_eq rfl) (hb hby at_61) (fun _ _ => ⟨rfl, e16, (by decide : 2 + 0 ≤ _), (by decide : 10 + 0 ≤ _)⟩)
  dsimp only [Pt.U, Pt.locs, Pt.cells, Pt.slots] at X17 l17 y17 z17 st17 hQ17
  subst l17 y17 z17
  obtain ⟨rfl, N17q, e17⟩ := hQ17
  have N17 := Fr.app N16 N17q
  obtain ⟨fs, hr, hrun, hended, hW, hsame⟩ := X17.leave (v := some (.int (1 : Int32))) (fun h => by rw [Bd.returns] at h; cases h)
  refine ⟨_, _, pre0 _ ?_, hrun, hended, _, _, rfl, ?_, ⟨_, rfl⟩, hW, hsame.mono (by decide) (by decide)⟩
  · show Steps p.tables e below (s₁.setTop (mkF m 0 #[.val (.int p1), .val (.int p2), .unset, .unset, .unset, .unset] [])) _
    refine st1 _ ?_
    show Steps p.tables e below (T1.setTop (mkF m 3 #[.val (.int p1), .val (.int p2), .unset, .unset, .unset, .unset] [(.ref b1)])) _
    refine XS.dup X1.here hx rfl (hb hby at_3) rfl rfl ?_
    show Steps p.tables e below (T1.setTop (mkF m 4 #[.val (.int p1), .val (.int p2), .unset, .unset, .unset, .unset] [(.ref b1), (.ref b1)])) _
    refine XS.bipush X1.here hx rfl (hb hby at_4) ?_
    show Steps p.tables e below (T1.setTop (mkF m 6 #[.val (.int p1), .val (.int p2), .unset, .unset, .unset, .unset] [(.int (8 : Int32)), (.ref b1), (.ref b1)])) _
    refine st5.trans ?_
    show Steps p.tables e below (T5.setTop (mkF m 9 #[.val (.int p1), .val (.int p2), .unset, .unset, .unset, .unset] [(.ref b1)])) _
    refine XS.astoreN X5.here hx rfl (hb hby at_9) rfl rfl (l' := #[.val (.int p1), .val (.int p2), .val (.ref b1), .unset, .unset, .unset]) rfl ?_
    show Steps p.tables e below (T5.setTop (mkF m 10 #[.val (.int p1), .val (.int p2), .val (.ref b1), .unset, .unset, .unset] [])) _
    refine XS.aloadN X5.here hx rfl (hb hby at_10) rfl rfl ?_
    show Steps p.tables e below (T5.setTop (mkF m 11 #[.val (.int p1), .val (.int p2), .val (.ref b1), .unset, .unset, .unset] [(.ref b1)])) _
    refine XS.iloadN X5.here hx rfl (hb hby at_11) rfl ?_
    show Steps p.tables e below (T5.setTop (mkF m 12 #[.val (.int p1), .val (.int p2), .val (.ref b1), .unset, .unset, .unset] [(.int p1), (.ref b1)])) _
    refine st8.trans ?_
    show Steps p.tables e below (T8.setTop (mkF m 15 #[.val (.int p1), .val (.int p2), .val (.ref b1), .unset, .unset, .unset] [(.ref b1)])) _
    refine XS.astoreN X8.here hx rfl (hb hby at_15) rfl rfl (l' := #[.val (.int p1), .val (.int p2), .val (.ref b1), .val (.ref b1), .unset, .unset]) rfl ?_
    show Steps p.tables e below (T8.setTop (mkF m 16 #[.val (.int p1), .val (.int p2), .val (.ref b1), .val (.ref b1), .unset, .unset] [])) _
    refine XS.aloadN X8.here hx rfl (hb hby at_16) rfl rfl ?_
    show Steps p.tables e below (T8.setTop (mkF m 17 #[.val (.int p1), .val (.int p2), .val (.ref b1), .val (.ref b1), .unset, .unset] [(.ref b1)])) _
    refine XS.iloadN X8.here hx rfl (hb hby at_17) rfl ?_
    show Steps p.tables e below (T8.setTop (mkF m 18 #[.val (.int p1), .val (.int p2), .val (.ref b1), .val (.ref b1), .unset, .unset] [(.int p2), (.ref b1)])) _
    refine st11.trans ?_
    show Steps p.tables e below (T11.setTop (mkF m 21 #[.val (.int p1), .val (.int p2), .val (.ref b1), .val (.ref b1), .unset, .unset] [(.ref b1)])) _
    refine XS.astore X11.here hx rfl (hb hby at_21) rfl rfl (l' := #[.val (.int p1), .val (.int p2), .val (.ref b1), .val (.ref b1), .val (.ref b1), .unset]) rfl ?_
    show Steps p.tables e below (T11.setTop (mkF m 23 #[.val (.int p1), .val (.int p2), .val (.ref b1), .val (.ref b1), .val (.ref b1), .unset] [])) _
    refine XS.aloadN X11.here hx rfl (hb hby at_23) rfl rfl ?_
    show Steps p.tables e below (T11.setTop (mkF m 24 #[.val (.int p1), .val (.int p2), .val (.ref b1), .val (.ref b1), .val (.ref b1), .unset] [(.ref b1)])) _
    refine st14.trans ?_
    show Steps p.tables e below (T14.setTop (mkF m 27 #[.val (.int p1), .val (.int p2), .val (.ref b1), .val (.ref b1), .val (.ref b1), .unset] [(.ref t1)])) _
    refine XS.astore X14.here hx rfl (hb hby at_27) rfl rfl (l' := #[.val (.int p1), .val (.int p2), .val (.ref b1), .val (.ref b1), .val (.ref b1), .val (.ref t1)]) rfl ?_
    show Steps p.tables e below (T14.setTop (mkF m 29 #[.val (.int p1), .val (.int p2), .val (.ref b1), .val (.ref b1), .val (.ref b1), .val (.ref t1)] [])) _
    refine XS.aloadN X14.here hx rfl (hb hby at_29) rfl rfl ?_
    show Steps p.tables e below (T14.setTop (mkF m 30 #[.val (.int p1), .val (.int p2), .val (.ref b1), .val (.ref b1), .val (.ref b1), .val (.ref t1)] [(.ref b1)])) _
    refine XS.aloadN X14.here hx rfl (hb hby at_30) rfl rfl ?_
    show Steps p.tables e below (T14.setTop (mkF m 31 #[.val (.int p1), .val (.int p2), .val (.ref b1), .val (.ref b1), .val (.ref b1), .val (.ref t1)] [(.ref b1), (.ref b1)])) _
    refine Jvm.RoadKit.acmp (g := (mkF m 31 #[.val (.int p1), .val (.int p2), .val (.ref b1), .val (.ref b1), .val (.ref b1), .val (.ref t1)] [(.ref b1), (.ref b1)])) X14 hx rfl rfl rfl (pc0 := 31) (pc' := 34) (same := true) rfl (hb hby at_31) rfl (decide_eq_true rfl) (by decide) (by decide) ?_
    show Steps p.tables e below (T14.setTop (mkF m 34 #[.val (.int p1), .val (.int p2), .val (.ref b1), .val (.ref b1), .val (.ref b1), .val (.ref t1)] [])) _
    refine XS.aload X14.here hx rfl (hb hby at_34) rfl rfl ?_
    show Steps p.tables e below (T14.setTop (mkF m 36 #[.val (.int p1), .val (.int p2), .val (.ref b1), .val (.ref b1), .val (.ref b1), .val (.ref t1)] [(.ref b1)])) _
    refine XS.aloadN X14.here hx rfl (hb hby at_36) rfl rfl ?_
    show Steps p.tables e below (T14.setTop (mkF m 37 #[.val (.int p1), .val (.int p2), .val (.ref b1), .val (.ref b1), .val (.ref b1), .val (.ref t1)] [(.ref b1), (.ref b1)])) _
    refine Jvm.RoadKit.acmp (g := (mkF m 37 #[.val (.int p1), .val (.int p2), .val (.ref b1), .val (.ref b1), .val (.ref b1), .val (.ref t1)] [(.ref b1), (.ref b1)])) X14 hx rfl rfl rfl (pc0 := 37) (pc' := 40) (same := true) rfl (hb hby at_37) rfl (decide_eq_true rfl) (by decide) (by decide) ?_
    show Steps p.tables e below (T14.setTop (mkF m 40 #[.val (.int p1), .val (.int p2), .val (.ref b1), .val (.ref b1), .val (.ref b1), .val (.ref t1)] [])) _
    refine XS.aload X14.here hx rfl (hb hby at_40) rfl rfl ?_
    show Steps p.tables e below (T14.setTop (mkF m 42 #[.val (.int p1), .val (.int p2), .val (.ref b1), .val (.ref b1), .val (.ref b1), .val (.ref t1)] [(.ref t1)])) _
    refine X14.arraylength hx (by rw [e14]; exact Ar15.1) (State.isArrayOf_alike hZ.alike Ar15.2.1) (g := (mkF m 42 #[.val (.int p1), .val (.int p2), .val (.ref b1), .val (.ref b1), .val (.ref b1), .val (.ref t1)] [(.ref t1)])) rfl rfl (hb hby at_42) _ ?_
    rw [len_of S15 M15]
    show Steps p.tables e below (T14.setTop (mkF m 43 #[.val (.int p1), .val (.int p2), .val (.ref b1), .val (.ref b1), .val (.ref b1), .val (.ref t1)] [(.int (8 : Int32))])) _
    refine XS.bipush X14.here hx rfl (hb hby at_43) ?_
    show Steps p.tables e below (T14.setTop (mkF m 45 #[.val (.int p1), .val (.int p2), .val (.ref b1), .val (.ref b1), .val (.ref b1), .val (.ref t1)] [(.int (8 : Int32)), (.int (8 : Int32))])) _
    refine XS.icmpNo X14.here hx rfl (hb hby at_45) rfl (by decide) ?_
    show Steps p.tables e below (T14.setTop (mkF m 48 #[.val (.int p1), .val (.int p2), .val (.ref b1), .val (.ref b1), .val (.ref b1), .val (.ref t1)] [])) _
    refine XS.aload X14.here hx rfl (hb hby at_48) rfl rfl ?_
    show Steps p.tables e below (T14.setTop (mkF m 50 #[.val (.int p1), .val (.int p2), .val (.ref b1), .val (.ref b1), .val (.ref b1), .val (.ref t1)] [(.ref t1)])) _
    refine XS.iconst X14.here hx rfl (hb hby at_50) ?_
    show Steps p.tables e below (T14.setTop (mkF m 51 #[.val (.int p1), .val (.int p2), .val (.ref b1), .val (.ref b1), .val (.ref b1), .val (.ref t1)] [(.int (0 : Int32)), (.ref t1)])) _
    refine st16 _ ?_
    show Steps p.tables e below (T16.setTop (mkF m 54 #[.val (.int p1), .val (.int p2), .val (.ref b1), .val (.ref b1), .val (.ref b1), .val (.ref t1)] [(.int (own_rd (own_sh p1 24) (own_sh p1 16) (own_sh p1 8) (own_lo p1)))])) _
    refine XS.iloadN X16.here hx rfl (hb hby at_54) rfl ?_
    show Steps p.tables e below (T16.setTop (mkF m 55 #[.val (.int p1), .val (.int p2), .val (.ref b1), .val (.ref b1), .val (.ref b1), .val (.ref t1)] [(.int p1), (.int (own_rd (own_sh p1 24) (own_sh p1 16) (own_sh p1 8) (own_lo p1)))])) _
    refine XS.icmpNo X16.here hx rfl (hb hby at_55) rfl (teq (own_rd_eq p1)).2 ?_
    show Steps p.tables e below (T16.setTop (mkF m 58 #[.val (.int p1), .val (.int p2), .val (.ref b1), .val (.ref b1), .val (.ref b1), .val (.ref t1)] [])) _
    refine XS.aload X16.here hx rfl (hb hby at_58) rfl rfl ?_
    show Steps p.tables e below (T16.setTop (mkF m 60 #[.val (.int p1), .val (.int p2), .val (.ref b1), .val (.ref b1), .val (.ref b1), .val (.ref t1)] [(.ref t1)])) _
    refine XS.iconst X16.here hx rfl (hb hby at_60) ?_
    show Steps p.tables e below (T16.setTop (mkF m 61 #[.val (.int p1), .val (.int p2), .val (.ref b1), .val (.ref b1), .val (.ref b1), .val (.ref t1)] [(.int (4 : Int32)), (.ref t1)])) _
    refine st17 _ ?_
    show Steps p.tables e below (T17.setTop (mkF m 64 #[.val (.int p1), .val (.int p2), .val (.ref b1), .val (.ref b1), .val (.ref b1), .val (.ref t1)] [(.int (own_rd (own_sh p2 24) (own_sh p2 16) (own_sh p2 8) (own_lo p2)))])) _
    refine XS.iloadN X17.here hx rfl (hb hby at_64) rfl ?_
    show Steps p.tables e below (T17.setTop (mkF m 65 #[.val (.int p1), .val (.int p2), .val (.ref b1), .val (.ref b1), .val (.ref b1), .val (.ref t1)] [(.int p2), (.int (own_rd (own_sh p2 24) (own_sh p2 16) (own_sh p2 8) (own_lo p2)))])) _
    refine XS.icmpNo X17.here hx rfl (hb hby at_65) rfl (teq (own_rd_eq p2)).2 ?_
    show Steps p.tables e below (T17.setTop (mkF m 68 #[.val (.int p1), .val (.int p2), .val (.ref b1), .val (.ref b1), .val (.ref b1), .val (.ref t1)] [])) _
    refine XS.iconst X17.here hx rfl (hb hby at_68) ?_
    show Steps p.tables e below (T17.setTop (mkF m 69 #[.val (.int p1), .val (.int p2), .val (.ref b1), .val (.ref b1), .val (.ref b1), .val (.ref t1)] [(.int (1 : Int32))])) _
    refine XS.goto X17.here hx rfl (pc0 := 69) (pc' := 73) rfl (hb hby at_69) (by decide) (by decide) ?_
    show Steps p.tables e below (T17.setTop (mkF m 73 #[.val (.int p1), .val (.int p2), .val (.ref b1), .val (.ref b1), .val (.ref b1), .val (.ref t1)] [(.int (1 : Int32))])) _
    exact retN X17 hx (t := .boolean) Bd.returns (by simp) (hb hby at_73) hr
  · show Q0 Z p1 p2 h0 n0 _ T17.heap _
    rw [e17]
    exact ⟨rfl, N17⟩
set_option maxRecDepth 65536 in
set_option maxHeartbeats 40000000 in
theorem comes_1 {Post : Tables → Env → Array Value → State → Outcome → State → Prop} (hpost : ∀ tb e args s v u, (limb_1_1.after args s (.returned v) u = true ∧ limb_1_2.after args s (.returned v) u = true ∧ True) → FrameEnd s (.returned v) u (Jvm.fieldLocs frame_1_writes args s ++ Jvm.arrayLocs frame_1_arrays args s ++ Jvm.staticLocs frame_1_statics s) 16 128 → Post tb e args s (.returned v) u) :
    ArmFor flags0 classFile x code maxLocals ret World_1 tables_1 room_1 Calls_1 rest_1 Pre_1 Post := by
  intro l hfl _ _ p e ha hc hk s m args below hf hA hF happ hP
  obtain ⟨hcalls, hrest, hpre⟩ := hP
  obtain ⟨-, -, -, hnamed, -, -, -, hat⟩ := (Spec.applies_iff hf).mp happ
  obtain ⟨hg, hn⟩ := and_e (Cond.before_iff.mp (show (Jvm.Cond.and given_1 narrow_1).before args s = true from hpre))
  obtain ⟨gc, gr0⟩ := and_e hg
  obtain ⟨ga0, gr1⟩ := and_e gr0
  have ga1 := gr1
  obtain ⟨w0, w1, rfl⟩ : ∃ w0 w1 : Value, args = #[w0, w1] := by
    have hs : args.size = 2 := by simpa [Cond.value, given_1] using gc
    obtain ⟨L⟩ := args
    match L, hs with
    | [w0, w1], _ => exact ⟨w0, w1, rfl⟩
  have hw := fun d (hd : d ∈ tables_1) => atoms_spec (ws := Jvm.Cond.code x code maxLocals ret :: tables_1) hat d (List.mem_cons_of_mem _ hd)
  obtain ⟨i0, ei0⟩ := is_v ga0
  obtain rfl : w0 = (.int i0) := Option.some.inj ei0
  obtain ⟨i1, ei1⟩ := is_v ga1
  obtain rfl : w1 = (.int i1) := Option.some.inj ei1
  obtain ⟨n, o, h1, h2, h3, _, L, rfl, ⟨rfl, N⟩, hq⟩ := rm0 l s _ hw tables_1 i0 i1 s.heap s.heap.size (Nat.le_refl _) p e ha hc hk s m _ below hf ((Spec.applies_iff_loose hf).mp happ).1 ⟨rfl, State.Warmed39.refl s, rfl⟩ trivial
  refine ⟨n, _, h1, h2, h3, hpost _ _ _ _ _ _ ⟨Cond.after_iff.mpr rfl, Cond.after_iff.mpr (eq_i res_at (Term.int_eval (1)) rfl), trivial⟩ ⟨hq.1, hq.2.1, (hq.2.2.sift fun y hy => Or.inr (N y hy)).mono (by decide) (by decide)⟩⟩
theorem main_1_1 : Claimed_1_1 := comes_1 fun _ _ _ _ _ _ h hF => ⟨h.1, hF⟩
theorem main_1_2 : Claimed_1_2 := comes_1 fun _ _ _ _ _ _ h hF => ⟨h.2.1, hF⟩
end Jvm.Pilot.@@N@@
namespace Jvm.Pilot.@@N@@
open Jvm Jvm.ClassFile Sem Op Lib Jvm.Free Jvm.Stand Jvm.Pilot.@@N@@.Jvm.D
/-! MADE BY PROGRAM (witnessworld.py) out of the Statement's table words and the real class files: 9 classes; the members and pool entries that the words name. The judged class is class 1, her method 1. -/
namespace start1
open Jvm.ClassFile
def u (s : String) : CpInfo := .utf8 (stringToUtf16 s)
/-- a pool by its gaps: so many unusable entries, then the entry; so many at the end -/
def gap : Nat → List CpInfo → List CpInfo
  | 0, r => r
  | n + 1, r => .unusable :: gap n r
def poolList (es : List (Nat × CpInfo)) (last : Nat) : List CpInfo := es.foldr (fun e r => gap e.1 (e.2 :: r)) (gap last [])
def pool (es : List (Nat × CpInfo)) (last : Nat) : Array CpInfo := ⟨poolList es last⟩
def fileOf (pool : Array CpInfo) (this : Nat) (attrs : Array Attribute := #[]) (ms : Array MethodInfo := #[]) (fl : Nat := 33) (sup : Nat := 0) (ifs : Array Nat := #[]) (fds : Array FieldInfo := #[]) : ClassFile where
  minorVersion := 0
  majorVersion := 65
  constantPool := pool
  accessFlags := fl
  thisClass := this
  superClass := sup
  interfaces := ifs
  fields := fds
  methods := ms
  attributes := attrs
def plain (name : String) (sup : Option ClassId) : Class where
  name := name
  kind := .ordinary
  loader := none
  accessFlags := 33
  super := sup
  interfaces := #[]
  cf := none
  fields := #[]
  methods := #[]
  instanceTypes := #[]
  staticTypes := #[]
  resolved := #[]
  callSites := []
  init := .initialized
  statics := none
  mirror := none

def pool0 : Array CpInfo := pool [(5, u "<init>"), (0, u "()V"), (1, .class_ 10), (1, u "java/lang/Object")] 113

def k0c0 : Code := { maxStack := 0, maxLocals := 1, code := object_method_1_code, exceptionTable := #[], attributes := #[] }
def k0m0 : Method := { name := "<init>", desc := "()V", sig := { parameters := [], returnType := none }, accessFlags := 1, code := some k0c0 }
/-- java/lang/Object -/
def k0 : Class := { plain "java/lang/Object" none with
  accessFlags := 33
  interfaces := #[]
  cf := some (fileOf pool0 8 #[] #[{ accessFlags := 1, nameIndex := 5, descriptorIndex := 6, attributes := #[] }] 33 0 #[] #[])
  fields := #[]
  methods := #[k0m0]
  instanceTypes := #[]
  staticTypes := #[]
  resolved := Array.replicate 124 none
  statics := none }

def pool1 : Array CpInfo := pool [(2, .class_ 4), (1, u "java/lang/Object"), (0, u "<init>"), (0, u "()V"), (0, .class_ 8), (0, u "com/example/handoff/handoff/RecordWriter"), (0, .methodref 7 10), (0, .nameAndType 5 11), (0, u "(I)V"), (0, .methodref 7 13), (0, .nameAndType 14 15), (0, u "putInt"), (0, u "(I)Lcom/example/handoff/handoff/RecordWriter;"), (0, .methodref 7 17), (0, .nameAndType 18 19), (0, u "bytes"), (0, u "()[B"), (0, .methodref 21 22), (0, .class_ 23), (0, .nameAndType 24 25), (0, u "com/example/handoff/handoff/RecordWriterPutIntPinLaw"), (0, u "readInt"), (0, u "([BI)I"), (2, u "law"), (0, u "(II)Z")] 5

def k1m0 : Method := { name := "<init>", desc := "()V", sig := { parameters := [], returnType := none }, accessFlags := 1, code := none }
def k1c1 : Code := { maxStack := 3, maxLocals := 6, code := code, exceptionTable := #[], attributes := #[] }
def k1m1 : Method := { name := "law", desc := "(II)Z", sig := { parameters := [.int, .int], returnType := some .boolean }, accessFlags := 9, code := some k1c1 }
def k1c2 : Code := { maxStack := 4, maxLocals := 2, code := method_3_code, exceptionTable := #[], attributes := #[] }
def k1m2 : Method := { name := "readInt", desc := "([BI)I", sig := { parameters := [(.array .byte), .int], returnType := some .int }, accessFlags := 10, code := some k1c2 }
/-- com/example/handoff/handoff/RecordWriterPutIntPinLaw -/
def k1 : Class := { plain "com/example/handoff/handoff/RecordWriterPutIntPinLaw" (some 0) with
  accessFlags := 49
  interfaces := #[]
  cf := some (fileOf pool1 21 #[] #[{ accessFlags := 1, nameIndex := 5, descriptorIndex := 6, attributes := #[] }, { accessFlags := 9, nameIndex := 28, descriptorIndex := 29, attributes := #[] }, { accessFlags := 10, nameIndex := 24, descriptorIndex := 25, attributes := #[] }] 49 2 #[] #[])
  fields := #[]
  methods := #[k1m0, k1m1, k1m2]
  instanceTypes := #[]
  staticTypes := #[]
  resolved := Array.replicate 35 none
  statics := none }

def pool2 : Array CpInfo := pool [(1, .methodref 2 3), (0, .class_ 4), (0, .nameAndType 5 6), (0, u "java/lang/Object"), (0, u "<init>"), (0, u "()V"), (0, .fieldref 8 9), (0, .class_ 10), (0, .nameAndType 11 12), (0, u "com/example/handoff/handoff/RecordWriter"), (0, u "bytes"), (0, u "[B"), (2, u "putInt"), (0, u "(I)Lcom/example/handoff/handoff/RecordWriter;"), (0, .fieldref 8 18), (0, .nameAndType 19 20), (0, u "at"), (0, u "I"), (48, u "(I)V"), (9, u "()[B")] 17

def k2c0 : Code := { maxStack := 2, maxLocals := 2, code := prog_37_method_1_code, exceptionTable := #[], attributes := #[] }
def k2m0 : Method := { name := "<init>", desc := "(I)V", sig := { parameters := [.int], returnType := none }, accessFlags := 0, code := some k2c0 }
def k2c1 : Code := { maxStack := 4, maxLocals := 2, code := prog_37_method_3_code, exceptionTable := #[], attributes := #[] }
def k2m1 : Method := { name := "putInt", desc := "(I)Lcom/example/handoff/handoff/RecordWriter;", sig := { parameters := [.int], returnType := some (.object "com/example/handoff/handoff/RecordWriter") }, accessFlags := 0, code := some k2c1 }
def k2c2 : Code := { maxStack := 4, maxLocals := 1, code := prog_37_method_8_code, exceptionTable := #[], attributes := #[] }
def k2m2 : Method := { name := "bytes", desc := "()[B", sig := { parameters := [], returnType := some (.array .byte) }, accessFlags := 0, code := some k2c2 }
/-- com/example/handoff/handoff/RecordWriter -/
def k2 : Class := { plain "com/example/handoff/handoff/RecordWriter" (some 0) with
  accessFlags := 48
  interfaces := #[]
  cf := some (fileOf pool2 8 #[] #[{ accessFlags := 0, nameIndex := 5, descriptorIndex := 69, attributes := #[] }, { accessFlags := 0, nameIndex := 15, descriptorIndex := 16, attributes := #[] }, { accessFlags := 0, nameIndex := 11, descriptorIndex := 79, attributes := #[] }] 48 2 #[] #[{ accessFlags := 18, nameIndex := 11, descriptorIndex := 12, attributes := #[] }, { accessFlags := 2, nameIndex := 19, descriptorIndex := 20, attributes := #[] }])
  fields := #[{ name := "bytes", type := (.array .byte), accessFlags := 18, slot := 0, constantValue := 0 }, { name := "at", type := .int, accessFlags := 2, slot := 1, constantValue := 0 }]
  methods := #[k2m0, k2m1, k2m2]
  instanceTypes := #[(.array .byte), .int]
  staticTypes := #[]
  resolved := Array.replicate 97 none
  statics := none }

def pool3 : Array CpInfo := pool [(1, u "java/lang/Cloneable"), (0, .class_ 1), (0, u "java/lang/Object"), (0, .class_ 3)] 3

/-- java/lang/Cloneable -/
def k3 : Class := { plain "java/lang/Cloneable" (some 0) with
  accessFlags := 1537
  interfaces := #[]
  cf := some (fileOf pool3 2 #[] #[] 1537 4 #[] #[])
  fields := #[]
  methods := #[]
  instanceTypes := #[]
  staticTypes := #[]
  resolved := Array.replicate 8 none
  statics := none }

def pool4 : Array CpInfo := pool [(1, u "java/io/Serializable"), (0, .class_ 1), (0, u "java/lang/Object"), (0, .class_ 3)] 3

/-- java/io/Serializable -/
def k4 : Class := { plain "java/io/Serializable" (some 0) with
  accessFlags := 1537
  interfaces := #[]
  cf := some (fileOf pool4 2 #[] #[] 1537 4 #[] #[])
  fields := #[]
  methods := #[]
  instanceTypes := #[]
  staticTypes := #[]
  resolved := Array.replicate 8 none
  statics := none }

/-- the primitive byte -/
def k5 : Class := { plain "byte" none with kind := .primitive 'B', accessFlags := 0x411 }
/-- [B -/
def k6 : Class := { plain "[B" (some 0) with kind := .array 5 .byte, interfaces := #[3, 4], accessFlags := 1041 }

/-- the primitive int -/
def k7 : Class := { plain "int" none with kind := .primitive 'I', accessFlags := 0x411 }
/-- [I -/
def k8 : Class := { plain "[I" (some 0) with kind := .array 7 .int, interfaces := #[3, 4], accessFlags := 1041 }

def heap : Heap := #[]
def classes : Array Class := #[k0, k1, k2, k3, k4, k5, k6, k7, k8]
def interned : List (Array UInt16 × Addr) := []
def slotsUsed : Nat := 0
def theMethod : MethodId := ⟨1, 1⟩
def args0 : Array Value := #[.int 5, .int 300]
def aboutOver (below : List Frame) : State where
  vm := { classes := classes, interned := interned.toArray }
  heap := heap
  slotsUsed := slotsUsed
  threads := #[{ frames := .invoking theMethod args0 :: below }]
def below0 : List Frame := [.native { method := ⟨0, 0⟩, args := #[] }]
def about1 : State := aboutOver below0
def p0 : Program := .bare "" "" ""
def e0 : Env := launch0.env 0 0 0
theorem w_frames : about1.frames = Frame.invoking theMethod args0 :: below0 := rfl
set_option maxRecDepth 65536 in
theorem w_args : argsFit about1.vm theMethod args0 = true := by decide +kernel
set_option maxRecDepth 65536 in
theorem w_heap : heapFits about1 = true := by decide +kernel
set_option maxRecDepth 65536 in
theorem w_runnable : about1.curStatus? = some .runnable := by decide +kernel
set_option maxRecDepth 65536 in
theorem w_alone : about1.alone = true := by decide +kernel
set_option maxRecDepth 65536 in
theorem w_named : about1.methodNamed? x = some theMethod := by decide +kernel
set_option maxRecDepth 65536 in
theorem w_hears : about1.hears theMethod below0 = true := by decide +kernel
set_option maxRecDepth 65536 in
theorem w_ripe : about1.ripe theMethod args0 below0 = true := by decide +kernel
theorem w_running : about1.status = .running := rfl
set_option maxRecDepth 65536 in
theorem w_room : about1.hasRoom e0.platform room_1 = true :=
  launch0.hasRoom_least _ room_1 (by decide +kernel) (by decide +kernel) (by decide +kernel) (by decide +kernel) (by decide +kernel) (by decide +kernel)
theorem allAtoms_all (ts : List Jvm.Cond) (a : Array Jvm.Value) (st : Jvm.State) : (allAtoms ts).before a st = ts.all (fun c => c.before a st) := by
  induction ts with
  | nil => rfl
  | cons c t ih =>
    show (Jvm.Cond.and c (allAtoms t)).before a st = _
    rw [Jvm.Cond.before_and, ih, List.all_cons]
def words1 : List Jvm.Cond := Jvm.Cond.code x code maxLocals ret :: tables_1
/-- a 'code' word, met by the world's own term for the bytes: nothing is compared byte by byte -/
theorem code_word {y : MethodName} {bytes : ByteArray} {mx : Nat} {rt : Option FieldType} {a : Array Value} {s : State} {m : MethodId} {meth : Method} {c : Code} (h1 : s.methodNamed? y = some m) (h2 : s.vm.method? m = some meth) (h3 : meth.code = some c) (h4 : c.code = bytes)
    (h5 : (c.maxLocals == mx && c.exceptionTable.isEmpty && decide (c.maxStack ≤ mostOperands) && decide (meth.sig.returnType = rt) && !meth.locks && decide (parseMethodDescriptor y.desc = some meth.sig)) = true) : (Jvm.Cond.code y bytes mx rt).before a s = true := by
  simp only [Bool.and_eq_true, beq_iff_eq, Bool.not_eq_true', decide_eq_true_eq] at h5
  obtain ⟨⟨⟨⟨⟨g1, g2⟩, g3⟩, g4⟩, g5⟩, g6⟩ := h5
  simp [Cond.before, Cond.holds, Cond.value, h1, h2, h3, h4, g1, g2, g3, g4, g5, g6]
def isCode : Jvm.Cond → Bool
  | .code _ _ _ _ => true
  | _ => false
theorem all_split {L : List Jvm.Cond} {P : Jvm.Cond → Bool} (h1 : L.all (fun c => isCode c || P c) = true) (h2 : ∀ c ∈ L.filter isCode, P c = true) : L.all P = true := by
  refine List.all_eq_true.mpr fun c hc => ?_
  have h := List.all_eq_true.mp h1 c hc
  rcases Bool.eq_false_or_eq_true (isCode c) with hi | hi
  · exact h2 c (List.mem_filter.mpr ⟨hc, hi⟩)
  · simpa [hi] using h
set_option maxRecDepth 65536 in
theorem w_c0 : (Jvm.Cond.code x code maxLocals ret).before args0 about1 = true := code_word (m := ⟨1, 1⟩) (meth := k1m1) (c := k1c1) (by decide +kernel) rfl rfl rfl (by decide +kernel)
set_option maxRecDepth 65536 in
theorem w_c1 : (Jvm.Cond.code ({ cls := "com/example/handoff/handoff/RecordWriter", name := "<init>", desc := "(I)V" } : Jvm.MethodName) prog_37_method_1_code (2 : Nat) (Option.none : Option Jvm.ClassFile.FieldType)).before args0 about1 = true := code_word (m := ⟨2, 0⟩) (meth := k2m0) (c := k2c0) (by decide +kernel) rfl rfl rfl (by decide +kernel)
set_option maxRecDepth 65536 in
theorem w_c2 : (Jvm.Cond.code ({ cls := "java/lang/Object", name := "<init>", desc := "()V" } : Jvm.MethodName) object_method_1_code (1 : Nat) (Option.none : Option Jvm.ClassFile.FieldType)).before args0 about1 = true := code_word (m := ⟨0, 0⟩) (meth := k0m0) (c := k0c0) (by decide +kernel) rfl rfl rfl (by decide +kernel)
set_option maxRecDepth 65536 in
theorem w_c3 : (Jvm.Cond.code ({ cls := "com/example/handoff/handoff/RecordWriter", name := "putInt", desc := "(I)Lcom/example/handoff/handoff/RecordWriter;" } : Jvm.MethodName) prog_37_method_3_code (2 : Nat) (Option.some (Jvm.ClassFile.FieldType.object "com/example/handoff/handoff/RecordWriter"))).before args0 about1 = true := code_word (m := ⟨2, 1⟩) (meth := k2m1) (c := k2c1) (by decide +kernel) rfl rfl rfl (by decide +kernel)
set_option maxRecDepth 65536 in
theorem w_c4 : (Jvm.Cond.code ({ cls := "com/example/handoff/handoff/RecordWriter", name := "bytes", desc := "()[B" } : Jvm.MethodName) prog_37_method_8_code (1 : Nat) (Option.some (Jvm.ClassFile.FieldType.array Jvm.ClassFile.FieldType.byte))).before args0 about1 = true := code_word (m := ⟨2, 2⟩) (meth := k2m2) (c := k2c2) (by decide +kernel) rfl rfl rfl (by decide +kernel)
set_option maxRecDepth 65536 in
theorem w_c5 : (Jvm.Cond.code ({ cls := "com/example/handoff/handoff/RecordWriterPutIntPinLaw", name := "readInt", desc := "([BI)I" } : Jvm.MethodName) method_3_code (2 : Nat) (Option.some Jvm.ClassFile.FieldType.int)).before args0 about1 = true := code_word (m := ⟨1, 2⟩) (meth := k1m2) (c := k1c2) (by decide +kernel) rfl rfl rfl (by decide +kernel)
def codes1 : List Jvm.Cond := [Jvm.Cond.code x code maxLocals ret, Jvm.Cond.code ({ cls := "com/example/handoff/handoff/RecordWriter", name := "<init>", desc := "(I)V" } : Jvm.MethodName) prog_37_method_1_code (2 : Nat) (Option.none : Option Jvm.ClassFile.FieldType), Jvm.Cond.code ({ cls := "java/lang/Object", name := "<init>", desc := "()V" } : Jvm.MethodName) object_method_1_code (1 : Nat) (Option.none : Option Jvm.ClassFile.FieldType), Jvm.Cond.code ({ cls := "com/example/handoff/handoff/RecordWriter", name := "putInt", desc := "(I)Lcom/example/handoff/handoff/RecordWriter;" } : Jvm.MethodName) prog_37_method_3_code (2 : Nat) (Option.some (Jvm.ClassFile.FieldType.object "com/example/handoff/handoff/RecordWriter")), Jvm.Cond.code ({ cls := "com/example/handoff/handoff/RecordWriter", name := "bytes", desc := "()[B" } : Jvm.MethodName) prog_37_method_8_code (1 : Nat) (Option.some (Jvm.ClassFile.FieldType.array Jvm.ClassFile.FieldType.byte)), Jvm.Cond.code ({ cls := "com/example/handoff/handoff/RecordWriterPutIntPinLaw", name := "readInt", desc := "([BI)I" } : Jvm.MethodName) method_3_code (2 : Nat) (Option.some Jvm.ClassFile.FieldType.int)]
set_option maxRecDepth 65536 in
theorem codes_eq : words1.filter isCode = codes1 := rfl
theorem w_codes : ∀ c ∈ words1.filter isCode, c.before args0 about1 = true := by
  rw [codes_eq]
  intro c hc
  simp only [codes1, List.mem_cons, List.not_mem_nil, or_false] at hc
  rcases hc with rfl | rfl | rfl | rfl | rfl | rfl
  · exact w_c0
  · exact w_c1
  · exact w_c2
  · exact w_c3
  · exact w_c4
  · exact w_c5
set_option maxRecDepth 65536 in
theorem w_t1 : (words1.take 24).all (fun c => isCode c || c.before args0 about1) = true := by decide +kernel
set_option maxRecDepth 65536 in
theorem w_t2 : (words1.drop 24).all (fun c => isCode c || c.before args0 about1) = true := by decide +kernel
theorem w_tables : (allAtoms (Jvm.Cond.code x code maxLocals ret :: tables_1)).before args0 about1 = true := by
  rw [allAtoms_all]
  show words1.all (fun c => c.before args0 about1) = true
  refine all_split ?_ w_codes
  rw [← List.take_append_drop 24 words1, List.all_append, w_t1, w_t2]
  rfl
set_option maxRecDepth 65536 in
theorem w_case : (Jvm.Cond.and given_1 narrow_1).before args0 about1 = true := by decide +kernel
theorem w_applies : (headSpec (Jvm.Cond.code x code maxLocals ret :: tables_1) room_1).applies x e0.platform about1 = true :=
  (Spec.applies_iff w_frames).mpr ⟨w_running, w_runnable, w_alone, w_named, w_hears, w_ripe, w_room, w_tables⟩
theorem atStart : AtStart classFile x code maxLocals ret World_1 tables_1 room_1 Calls_1 rest_1 Pre_1 launch0 p0 e0 about1 theMethod args0 below0 :=
  ⟨lists_1, trivial, launch0.admits_env _ _ _, launch0.least_env, fairChoices_fair.cas, fairChoices_fair.clock, w_frames, w_args, w_heap, w_applies, trivial, trivial, w_case⟩
end start1
theorem witness_1 : WitnessClaimed_1 := ⟨start1.p0, start1.e0, start1.about1, start1.theMethod, start1.args0, start1.below0, start1.atStart⟩
end Jvm.Pilot.@@N@@
