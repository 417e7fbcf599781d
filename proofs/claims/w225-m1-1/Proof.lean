import JvmDerived
import JvmDerived.Pilot.@@N@@Statement
import JvmDerived.Pilot.@@N@@Code
set_option linter.unusedVariables false
set_option linter.unusedSimpArgs false

namespace Jvm.Pilot.@@N@@
open Jvm Jvm.ClassFile Sem Op Lib Jvm.Free Jvm.Stand Jvm.LawKit Jvm.RoadKit Bundle Jvm.Pilot.@@N@@.Jvm.D

theorem own_ofN (z : Int32) (N : Nat) (hN : N < 2 ^ 31) (h1 : 0 ≤ z.toInt) (h2 : z.toInt ≤ N) : ∃ n : Nat, n ≤ N ∧ z = Int32.ofNat n := by
  refine ⟨z.toInt.toNat, by omega, ?_⟩
  apply Int32.toInt_inj.mp
  rw [Int32.toInt_ofNat_of_lt (by omega)]
  omega
theorem own_toInt {n : Nat} (h : n ≤ 8) : (Int32.ofNat n).toInt = (n : Int) := Int32.toInt_ofNat_of_lt (by omega)
theorem own_rem (u d : Int32) (hu : 0 ≤ u.toInt) (hd : 0 < d.toInt) : 0 ≤ (u % d).toInt ∧ (u % d).toInt < d.toInt :=
  ⟨((c_iremV u d).1 hu hd).1, ((c_iremV u d).1 hu hd).2.1⟩
theorem own_sub {k : Int32} {K n : Nat} (hk : k.toInt = K) (hK : K ≤ 8) (hn : n ≤ K) : (k - Int32.ofNat n).toInt = (K : Int) - n := by
  have h1 := c_isub k (Int32.ofNat n)
  have h2 := (k - Int32.ofNat n).le_toInt
  have h3 := (k - Int32.ofNat n).toInt_lt
  rw [hk, own_toInt (by omega)] at h1
  omega
theorem own_mod5 (r : Int32) : ∃ n : Nat, n ≤ 4 ∧ ((r &&& (2147483647 : Int32)) % (5 : Int32)) = Int32.ofNat n := by
  have h1 := c_and r 2147483647 (by decide)
  have h2 := own_rem (r &&& 2147483647) 5 h1.1 (by decide)
  rw [show (5 : Int32).toInt = 5 from rfl] at h2
  exact own_ofN _ 4 (by decide) h2.1 (by omega)
theorem own_nz {d : Int32} (h : 0 < d.toInt) : d ≠ 0 := fun e => by
  subst e
  exact absurd h (by decide)
theorem own_d5 {n : Nat} (h : n ≤ 4) : ((5 : Int32) - Int32.ofNat n).toInt = 5 - n := by
  have q := own_sub (k := 5) (K := 5) (n := n) (by decide) (by decide) (by omega)
  omega
theorem own_d4 {n : Nat} (h : n ≤ 4) : ((4 : Int32) - Int32.ofNat n).toInt = 4 - n := by
  have q := own_sub (k := 4) (K := 4) (n := n) (by decide) (by decide) (by omega)
  omega
theorem own_allN {f g : Nat → Int32} {A B N : Nat} (hN : N ≤ 4) (h0 : 0 < N → f (A + 0) = g (B + 0)) (h1 : 1 < N → f (A + 1) = g (B + 1)) (h2 : 2 < N → f (A + 2) = g (B + 2)) (h3 : 3 < N → f (A + 3) = g (B + 3)) : ∀ i, i < N → f (A + i) = g (B + i) := by
  intro i hi
  match i, (show i < 4 by omega), hi with
  | 0, _, hi => exact h0 hi
  | 1, _, hi => exact h1 hi
  | 2, _, hi => exact h2 hi
  | 3, _, hi => exact h3 hi
theorem own_d41 {n : Nat} (h : n ≤ 4) : (((4 : Int32) - Int32.ofNat n) + (1 : Int32)).toInt = 5 - n := by
  have h1 := c_iadd ((4 : Int32) - Int32.ofNat n) 1
  have h2 := (((4 : Int32) - Int32.ofNat n) + (1 : Int32)).le_toInt
  have h3 := (((4 : Int32) - Int32.ofNat n) + (1 : Int32)).toInt_lt
  rw [own_d4 h, show (1 : Int32).toInt = 1 from rfl] at h1
  omega
theorem own_len (u m d : Int32) {n : Nat} (h : n ≤ 4) (hm : 0 ≤ m.toInt) (hd : d.toInt = 5 - n) : ∃ k : Nat, n + k ≤ 4 ∧ ((u &&& m) % d) = Int32.ofNat k := by
  have h1 := c_and u m hm
  have h2 := own_rem (u &&& m) d h1.1 (by omega)
  obtain ⟨k, hk, e⟩ := own_ofN _ (4 - n) (by omega) h2.1 (by omega)
  exact ⟨k, by omega, e⟩
theorem own_ad (A k : Nat) : Int32.ofNat A + Int32.ofNat k = Int32.ofNat (A + k) := (Int32.ofNat_add A k).symm
theorem own_sb (A k : Nat) : Int32.ofNat (A + k) - Int32.ofNat A = Int32.ofNat k := by
  rw [← own_ad, Int32.add_comm]
  exact Int32.add_sub_cancel _ _
theorem own_ltN {i N : Nat} (hi : i ≤ 8) (hN : N ≤ 8) : Int32.ofNat i < Int32.ofNat N ↔ i < N := by
  rw [Int32.lt_iff_toInt_lt, own_toInt hi, own_toInt hN]
  omega
theorem own_inj {i N : Nat} (hi : i ≤ 8) (hN : N ≤ 8) : Int32.ofNat i = Int32.ofNat N ↔ i = N := by
  rw [← Int32.toInt_inj, own_toInt hi, own_toInt hN]
  omega
theorem own_and3 (z : Int32) : ∃ k : Nat, k ≤ 3 ∧ (z &&& (3 : Int32)) = Int32.ofNat k := by
  have h1 := c_and z 3 (by decide)
  rw [show (3 : Int32).toInt = 3 from rfl] at h1
  exact own_ofN _ 3 (by decide) h1.1 (by omega)
theorem own_blen {B N : Nat} (hB : B ≤ 4) (hN : N ≤ 4) (h : ¬ ((4 : Int32) - Int32.ofNat B) < Int32.ofNat N) : B + N ≤ 4 := by
  rw [Int32.lt_iff_toInt_lt, own_d4 hB, own_toInt (by omega)] at h
  omega
theorem own_a0 {z : Int32} {P Q : Prop} (h : (z = 1 ∧ P) ∨ (z = 0 ∧ Q)) (e : z = 0) : Q := by
  rcases h with ⟨r, _⟩ | ⟨_, q⟩
  · rw [e] at r; exact absurd r (by decide)
  · exact q
theorem own_a1 {z : Int32} {P Q : Prop} (h : (z = 1 ∧ P) ∨ (z = 0 ∧ Q)) (e : ¬ z = 0) : P := by
  rcases h with ⟨_, p⟩ | ⟨r, _⟩
  · exact p
  · exact absurd r e
theorem own_z1 {z : Int32} {P : Prop} (h : (z = 1 ∧ P) ∨ (z = 0 ∧ ¬ P)) (p : P) : z = 1 := by
  rcases h with ⟨r, _⟩ | ⟨_, q⟩
  · exact r
  · exact absurd p q
theorem own_z0 {z : Int32} {P : Prop} (h : (z = 1 ∧ P) ∨ (z = 0 ∧ ¬ P)) (p : ¬ P) : z = 0 := by
  rcases h with ⟨_, q⟩ | ⟨r, _⟩
  · exact absurd q p
  · exact r
def own_Byt (Z : State) (h : Heap) (t : Addr) (f : Nat → Int32) : Prop := ∃ cl : Cell, Arr Z h t cl .byte ∧ cl.slots.size = 4 ∧ ∀ j, j < 4 → cl.slots[j]? = some (.int (f j))
theorem own_Byt.ext {Z : State} {h h' : Heap} {t : Addr} {f : Nat → Int32} (F : own_Byt Z h t f) (E : Ext h h') : own_Byt Z h' t f := by
  obtain ⟨cl, A, r⟩ := F; exact ⟨cl, A.ext E, r⟩
theorem own_Byt.other {Z : State} {h h' : Heap} {t a : Addr} {f : Nat → Int32} {sl : Nat} {v : Value} (F : own_Byt Z h t f) (W : Wr h h' a sl v) (q : t ≠ a) : own_Byt Z h' t f := by
  obtain ⟨cl, A, r⟩ := F; exact ⟨cl, A.other W q, r⟩
theorem own_Byt.lt {Z : State} {h : Heap} {t : Addr} {f : Nat → Int32} (F : own_Byt Z h t f) : t < h.size := by
  obtain ⟨cl, A, r⟩ := F; exact A.lt
theorem own_byt {Z : State} {h : Heap} {t : Addr} {k : ClassId} {a b c d : Int32} {dv : Value} (F : Arv Z h t k .byte (4 : Int32) [.int a, .int b, .int c, .int d] dv) : ∃ f : Nat → Int32, own_Byt Z h t f := by
  obtain ⟨cl, A, -, S, -, H, -⟩ := F
  have S' : cl.slots.size = 4 := S.trans (by decide)
  refine ⟨fun j => [a, b, c, d].getD j 0, cl, A, S', fun j hj => ?_⟩
  rw [H j (by rw [S']; exact hj)]
  match j, hj with
  | 0, _ => rfl
  | 1, _ => rfl
  | 2, _ => rfl
  | 3, _ => rfl
theorem d1_0 : decode method_3_code 0 = .ok (.iload_n 0, 1) := by decide +kernel
theorem d1_1 : decode method_3_code 1 = .ok (.iload_n 1, 1) := by decide +kernel
theorem d1_2 : decode method_3_code 2 = .ok (.iushr, 1) := by decide +kernel
theorem d1_3 : decode method_3_code 3 = .ok (.iconst 1, 1) := by decide +kernel
theorem d1_4 : decode method_3_code 4 = .ok (.iand, 1) := by decide +kernel
theorem d1_5 : decode method_3_code 5 = .ok (.ifCond .eq 14, 3) := by decide +kernel
theorem d1_8 : decode method_3_code 8 = .ok (.aload_n 2, 1) := by decide +kernel
theorem d1_9 : decode method_3_code 9 = .ok (.iload_n 1, 1) := by decide +kernel
theorem d1_10 : decode method_3_code 10 = .ok (.iload_n 3, 1) := by decide +kernel
theorem d1_11 : decode method_3_code 11 = .ok (.iadd, 1) := by decide +kernel
theorem d1_12 : decode method_3_code 12 = .ok (.iload 4, 2) := by decide +kernel
theorem d1_14 : decode method_3_code 14 = .ok (.isub, 1) := by decide +kernel
theorem d1_15 : decode method_3_code 15 = .ok (.iconst 3, 1) := by decide +kernel
theorem d1_16 : decode method_3_code 16 = .ok (.iand, 1) := by decide +kernel
theorem d1_17 : decode method_3_code 17 = .ok (.baload, 1) := by decide +kernel
theorem d1_18 : decode method_3_code 18 = .ok (.ireturn, 1) := by decide +kernel
theorem d1_19 : decode method_3_code 19 = .ok (.iload 5, 2) := by decide +kernel
theorem d1_21 : decode method_3_code 21 = .ok (.bipush 8, 2) := by decide +kernel
theorem d1_23 : decode method_3_code 23 = .ok (.iload_n 1, 1) := by decide +kernel
theorem d1_24 : decode method_3_code 24 = .ok (.imul, 1) := by decide +kernel
theorem d1_25 : decode method_3_code 25 = .ok (.iushr, 1) := by decide +kernel
theorem d1_26 : decode method_3_code 26 = .ok (.i2b, 1) := by decide +kernel
theorem d1_27 : decode method_3_code 27 = .ok (.ireturn, 1) := by decide +kernel
theorem pn_1 : plainName "com/example/trailsmith/trailsmith/check/BytesEqualPinLaw" = true := by first | (simp [plainName, overriddenIn]; done) | decide +kernel
theorem ef_1_0 (m : MethodId) (x0 : Int32) (x1 : Int32) (x2 : Addr) (x3 : Int32) (x4 : Int32) (x5 : Int32) : entryFrame m #[(.int x0), (.int x1), (.ref x2), (.int x3), (.int x4), (.int x5)] 6 = mkF m 0 #[.val (.int x0), .val (.int x1), .val (.ref x2), .val (.int x3), .val (.int x4), .val (.int x5)] [] := by first | (simp [entryFrame, mkF, argsToLocals, Value.category]; done) | rfl
def Q1_0 (Z : State) (p5 : Int32) (t1 : Addr) (p2 : Int32) (A : Nat) (B : Nat) (f : Nat → Int32) (h0 : Heap) (n0 : Nat) (v : Option Value) (h : Heap) (L : List Loc) : Prop := ∃ z : Int32, v = some (.int z) ∧ Fr n0 L ∧ h = h0
set_option maxRecDepth 65536 in
set_option maxHeartbeats 40000000 in
theorem rm1_0 (l : Launch) (Z : State) (a0 : Array Value) (hw : ∀ d ∈ tables_1, d.before a0 Z = true) (ws : List Jvm.Cond) (p5 : Int32) (t1 : Addr) (p2 : Int32) (A : Nat) (B : Nat) (f : Nat → Int32) (h0 : Heap) (n0 : Nat) (Z0 : n0 ≤ h0.size) (BA : own_Byt Z h0 t1 f) :
    MetFree l (⟨"com/example/trailsmith/trailsmith/check/BytesEqualPinLaw", "pick", "(II[BIII)B"⟩ : MethodName) (head1 (Jvm.Cond.code (⟨"com/example/trailsmith/trailsmith/check/BytesEqualPinLaw", "pick", "(II[BIII)B"⟩ : MethodName) method_3_code 6 (some .byte) :: ws) ({ frames := 0, cells := 0, slots := 0, locals := 0 } : Room)) (fun a U => a = #[(.int p5), (.int (0 : Int32)), (.ref t1), (.int (Int32.ofNat A)), (.int (Int32.ofNat B)), (.int p2)] ∧ Z.Warmed39 U.vm ∧ U.heap = h0) (fun _ _ _ _ _ => True) (fun _ U o U' => ∃ v L, o = .returned v ∧ Q1_0 Z p5 t1 p2 A B f h0 n0 v U'.heap L ∧ FrameEnd U o U' L ({ frames := 0, cells := 0, slots := 0, locals := 0 } : Room).cells ({ frames := 0, cells := 0, slots := 0, locals := 0 } : Room).slots) := by
  refine MetFree.of_bodySF (plainFor_of_name pn_1) hisR ?_
  intro p e s m args below meth c s₁ Bd hml0 hP hK
  obtain ⟨rfl, hZ, hh⟩ := hP
  have hx := Bd.exec
  have hby := Bd.bytes
  have hml : c.maxLocals = 6 := hml0
  have hown : s.vm.findClass "com/example/trailsmith/trailsmith/check/BytesEqualPinLaw" = some m.cls := findClass_of_methodNamed Bd.named
  have hnm := (name_of_methodNamed Bd.named Bd.method).1
  have X0 : Stand p l e ({ frames := 0, cells := 0, slots := 0, locals := 0 } : Room) s m #[(.int p5), (.int (0 : Int32)), (.ref t1), (.int (Int32.ofNat A)), (.int (Int32.ofNat B)), (.int p2)] below meth c s₁ [] 0 0 := Stand.of_body Bd
  have e0 : s₁.heap = h0 := by rw [← hh, Bd.state]; rfl
  have N0 := Fr.nil n0
  have pre0 : ∀ t, Steps p.tables e below (s₁.setTop (mkF m 0 #[.val (.int p5), .val (.int (0 : Int32)), .val (.ref t1), .val (.int (Int32.ofNat A)), .val (.int (Int32.ofNat B)), .val (.int p2)] [])) t → Steps p.tables e below (s₁.setTop (entryFrame m #[(.int p5), (.int (0 : Int32)), (.ref t1), (.int (Int32.ofNat A)), (.int (Int32.ofNat B)), (.int p2)] 6)) t := fun t k => castTop (ef_1_0 m p5 (0 : Int32) t1 (Int32.ofNat A) (Int32.ofNat B) p2) k
  by_cases hc5 : (((p5.toUInt32 >>> ((0 : Int32) &&& 31).toUInt32).toInt32) &&& (1 : Int32)) = (0 : Int32)
  · obtain ⟨fs, hr, hrun, hended, hW, hsame⟩ := X0.leave (v := some (.int (nar .byte (((p2.toUInt32 >>> (((8 : Int32) * (0 : Int32)) &&& 31).toUInt32).toInt32).toInt8.toInt32)))) (fun h => by rw [Bd.returns] at h; cases h)
    refine ⟨_, _, pre0 _ ?_, hrun, hended, _, _, rfl, ?_, ⟨_, rfl⟩, hW, hsame.mono (by decide) (by decide)⟩
    · show Steps p.tables e below (s₁.setTop (mkF m 0 #[.val (.int p5), .val (.int (0 : Int32)), .val (.ref t1), .val (.int (Int32.ofNat A)), .val (.int (Int32.ofNat B)), .val (.int p2)] [])) _
      refine XS.iloadN X0.here hx rfl (hb hby d1_0) rfl ?_
      show Steps p.tables e below (s₁.setTop (mkF m 1 #[.val (.int p5), .val (.int (0 : Int32)), .val (.ref t1), .val (.int (Int32.ofNat A)), .val (.int (Int32.ofNat B)), .val (.int p2)] [(.int p5)])) _
      refine XS.iloadN X0.here hx rfl (hb hby d1_1) rfl ?_
      show Steps p.tables e below (s₁.setTop (mkF m 2 #[.val (.int p5), .val (.int (0 : Int32)), .val (.ref t1), .val (.int (Int32.ofNat A)), .val (.int (Int32.ofNat B)), .val (.int p2)] [(.int (0 : Int32)), (.int p5)])) _
      refine XS.iushr X0.here hx rfl (hb hby d1_2) rfl ?_
      show Steps p.tables e below (s₁.setTop (mkF m 3 #[.val (.int p5), .val (.int (0 : Int32)), .val (.ref t1), .val (.int (Int32.ofNat A)), .val (.int (Int32.ofNat B)), .val (.int p2)] [(.int ((p5.toUInt32 >>> ((0 : Int32) &&& 31).toUInt32).toInt32))])) _
      refine XS.iconst X0.here hx rfl (hb hby d1_3) ?_
      show Steps p.tables e below (s₁.setTop (mkF m 4 #[.val (.int p5), .val (.int (0 : Int32)), .val (.ref t1), .val (.int (Int32.ofNat A)), .val (.int (Int32.ofNat B)), .val (.int p2)] [(.int (1 : Int32)), (.int ((p5.toUInt32 >>> ((0 : Int32) &&& 31).toUInt32).toInt32))])) _
      refine XS.iand X0.here hx rfl (hb hby d1_4) rfl ?_
      show Steps p.tables e below (s₁.setTop (mkF m 5 #[.val (.int p5), .val (.int (0 : Int32)), .val (.ref t1), .val (.int (Int32.ofNat A)), .val (.int (Int32.ofNat B)), .val (.int p2)] [(.int (((p5.toUInt32 >>> ((0 : Int32) &&& 31).toUInt32).toInt32) &&& (1 : Int32)))])) _
      refine XS.ifYes X0.here hx rfl (pc0 := 5) (pc' := 19) rfl (hb hby d1_5) rfl ((if0 _ _).trans (teq hc5).1) (by decide) (by decide) ?_
      show Steps p.tables e below (s₁.setTop (mkF m 19 #[.val (.int p5), .val (.int (0 : Int32)), .val (.ref t1), .val (.int (Int32.ofNat A)), .val (.int (Int32.ofNat B)), .val (.int p2)] [])) _
      refine XS.iload X0.here hx rfl (hb hby d1_19) rfl ?_
      show Steps p.tables e below (s₁.setTop (mkF m 21 #[.val (.int p5), .val (.int (0 : Int32)), .val (.ref t1), .val (.int (Int32.ofNat A)), .val (.int (Int32.ofNat B)), .val (.int p2)] [(.int p2)])) _
      refine XS.bipush X0.here hx rfl (hb hby d1_21) ?_
      show Steps p.tables e below (s₁.setTop (mkF m 23 #[.val (.int p5), .val (.int (0 : Int32)), .val (.ref t1), .val (.int (Int32.ofNat A)), .val (.int (Int32.ofNat B)), .val (.int p2)] [(.int (8 : Int32)), (.int p2)])) _
      refine XS.iloadN X0.here hx rfl (hb hby d1_23) rfl ?_
      show Steps p.tables e below (s₁.setTop (mkF m 24 #[.val (.int p5), .val (.int (0 : Int32)), .val (.ref t1), .val (.int (Int32.ofNat A)), .val (.int (Int32.ofNat B)), .val (.int p2)] [(.int (0 : Int32)), (.int (8 : Int32)), (.int p2)])) _
      refine XS.imul X0.here hx rfl (hb hby d1_24) rfl ?_
      show Steps p.tables e below (s₁.setTop (mkF m 25 #[.val (.int p5), .val (.int (0 : Int32)), .val (.ref t1), .val (.int (Int32.ofNat A)), .val (.int (Int32.ofNat B)), .val (.int p2)] [(.int ((8 : Int32) * (0 : Int32))), (.int p2)])) _
      refine XS.iushr X0.here hx rfl (hb hby d1_25) rfl ?_
      show Steps p.tables e below (s₁.setTop (mkF m 26 #[.val (.int p5), .val (.int (0 : Int32)), .val (.ref t1), .val (.int (Int32.ofNat A)), .val (.int (Int32.ofNat B)), .val (.int p2)] [(.int ((p2.toUInt32 >>> (((8 : Int32) * (0 : Int32)) &&& 31).toUInt32).toInt32))])) _
      refine XS.i2b X0.here hx rfl (hb hby d1_26) rfl ?_
      show Steps p.tables e below (s₁.setTop (mkF m 27 #[.val (.int p5), .val (.int (0 : Int32)), .val (.ref t1), .val (.int (Int32.ofNat A)), .val (.int (Int32.ofNat B)), .val (.int p2)] [(.int (((p2.toUInt32 >>> (((8 : Int32) * (0 : Int32)) &&& 31).toUInt32).toInt32).toInt8.toInt32))])) _
      exact retN X0 hx (t := .byte) Bd.returns (by simp) (hb hby d1_27) hr
    · show Q1_0 Z p5 t1 p2 A B f h0 n0 _ s₁.heap _
      rw [e0]
      exact ⟨_, rfl, N0, rfl⟩
  · obtain ⟨kk, hkk, ek⟩ := own_and3 (((0 : Int32) + (Int32.ofNat A)) - (Int32.ofNat B))
    obtain ⟨cl1, Ar1, S1, H1⟩ := id BA
    have hin1 : ¬ (((((0 : Int32) + (Int32.ofNat A)) - (Int32.ofNat B)) &&& (3 : Int32)) < 0 ∨ cl1.slots.size ≤ (((((0 : Int32) + (Int32.ofNat A)) - (Int32.ofNat B)) &&& (3 : Int32))).toNatClampNeg) := by rw [S1]; exact within ek (show kk < 4 by omega) (by decide)
    have hat1 : cl1.slots[(((((0 : Int32) + (Int32.ofNat A)) - (Int32.ofNat B)) &&& (3 : Int32))).toNatClampNeg]? = some (.int (f kk)) := by rw [clamp_of ek (Nat.lt_trans (show kk < 4 by omega) (by decide))]; exact H1 _ (show kk < 4 by omega)
    obtain ⟨fs, hr, hrun, hended, hW, hsame⟩ := X0.leave (v := some (.int (nar .byte (f kk)))) (fun h => by rw [Bd.returns] at h; cases h)
    refine ⟨_, _, pre0 _ ?_, hrun, hended, _, _, rfl, ?_, ⟨_, rfl⟩, hW, hsame.mono (by decide) (by decide)⟩
    · show Steps p.tables e below (s₁.setTop (mkF m 0 #[.val (.int p5), .val (.int (0 : Int32)), .val (.ref t1), .val (.int (Int32.ofNat A)), .val (.int (Int32.ofNat B)), .val (.int p2)] [])) _
      refine XS.iloadN X0.here hx rfl (hb hby d1_0) rfl ?_
      show Steps p.tables e below (s₁.setTop (mkF m 1 #[.val (.int p5), .val (.int (0 : Int32)), .val (.ref t1), .val (.int (Int32.ofNat A)), .val (.int (Int32.ofNat B)), .val (.int p2)] [(.int p5)])) _
      refine XS.iloadN X0.here hx rfl (hb hby d1_1) rfl ?_
      show Steps p.tables e below (s₁.setTop (mkF m 2 #[.val (.int p5), .val (.int (0 : Int32)), .val (.ref t1), .val (.int (Int32.ofNat A)), .val (.int (Int32.ofNat B)), .val (.int p2)] [(.int (0 : Int32)), (.int p5)])) _
      refine XS.iushr X0.here hx rfl (hb hby d1_2) rfl ?_
      show Steps p.tables e below (s₁.setTop (mkF m 3 #[.val (.int p5), .val (.int (0 : Int32)), .val (.ref t1), .val (.int (Int32.ofNat A)), .val (.int (Int32.ofNat B)), .val (.int p2)] [(.int ((p5.toUInt32 >>> ((0 : Int32) &&& 31).toUInt32).toInt32))])) _
      refine XS.iconst X0.here hx rfl (hb hby d1_3) ?_
      show Steps p.tables e below (s₁.setTop (mkF m 4 #[.val (.int p5), .val (.int (0 : Int32)), .val (.ref t1), .val (.int (Int32.ofNat A)), .val (.int (Int32.ofNat B)), .val (.int p2)] [(.int (1 : Int32)), (.int ((p5.toUInt32 >>> ((0 : Int32) &&& 31).toUInt32).toInt32))])) _
      refine XS.iand X0.here hx rfl (hb hby d1_4) rfl ?_
      show Steps p.tables e below (s₁.setTop (mkF m 5 #[.val (.int p5), .val (.int (0 : Int32)), .val (.ref t1), .val (.int (Int32.ofNat A)), .val (.int (Int32.ofNat B)), .val (.int p2)] [(.int (((p5.toUInt32 >>> ((0 : Int32) &&& 31).toUInt32).toInt32) &&& (1 : Int32)))])) _
      refine XS.ifNo X0.here hx rfl (hb hby d1_5) rfl ((if0 _ _).trans (feq hc5).1) ?_
      show Steps p.tables e below (s₁.setTop (mkF m 8 #[.val (.int p5), .val (.int (0 : Int32)), .val (.ref t1), .val (.int (Int32.ofNat A)), .val (.int (Int32.ofNat B)), .val (.int p2)] [])) _
      refine XS.aloadN X0.here hx rfl (hb hby d1_8) rfl rfl ?_
      show Steps p.tables e below (s₁.setTop (mkF m 9 #[.val (.int p5), .val (.int (0 : Int32)), .val (.ref t1), .val (.int (Int32.ofNat A)), .val (.int (Int32.ofNat B)), .val (.int p2)] [(.ref t1)])) _
      refine XS.iloadN X0.here hx rfl (hb hby d1_9) rfl ?_
      show Steps p.tables e below (s₁.setTop (mkF m 10 #[.val (.int p5), .val (.int (0 : Int32)), .val (.ref t1), .val (.int (Int32.ofNat A)), .val (.int (Int32.ofNat B)), .val (.int p2)] [(.int (0 : Int32)), (.ref t1)])) _
      refine XS.iloadN X0.here hx rfl (hb hby d1_10) rfl ?_
      show Steps p.tables e below (s₁.setTop (mkF m 11 #[.val (.int p5), .val (.int (0 : Int32)), .val (.ref t1), .val (.int (Int32.ofNat A)), .val (.int (Int32.ofNat B)), .val (.int p2)] [(.int (Int32.ofNat A)), (.int (0 : Int32)), (.ref t1)])) _
      refine XS.iadd X0.here hx rfl (hb hby d1_11) rfl ?_
      show Steps p.tables e below (s₁.setTop (mkF m 12 #[.val (.int p5), .val (.int (0 : Int32)), .val (.ref t1), .val (.int (Int32.ofNat A)), .val (.int (Int32.ofNat B)), .val (.int p2)] [(.int ((0 : Int32) + (Int32.ofNat A))), (.ref t1)])) _
      refine XS.iload X0.here hx rfl (hb hby d1_12) rfl ?_
      show Steps p.tables e below (s₁.setTop (mkF m 14 #[.val (.int p5), .val (.int (0 : Int32)), .val (.ref t1), .val (.int (Int32.ofNat A)), .val (.int (Int32.ofNat B)), .val (.int p2)] [(.int (Int32.ofNat B)), (.int ((0 : Int32) + (Int32.ofNat A))), (.ref t1)])) _
      refine XS.isub X0.here hx rfl (hb hby d1_14) rfl ?_
      show Steps p.tables e below (s₁.setTop (mkF m 15 #[.val (.int p5), .val (.int (0 : Int32)), .val (.ref t1), .val (.int (Int32.ofNat A)), .val (.int (Int32.ofNat B)), .val (.int p2)] [(.int (((0 : Int32) + (Int32.ofNat A)) - (Int32.ofNat B))), (.ref t1)])) _
      refine XS.iconst X0.here hx rfl (hb hby d1_15) ?_
      show Steps p.tables e below (s₁.setTop (mkF m 16 #[.val (.int p5), .val (.int (0 : Int32)), .val (.ref t1), .val (.int (Int32.ofNat A)), .val (.int (Int32.ofNat B)), .val (.int p2)] [(.int (3 : Int32)), (.int (((0 : Int32) + (Int32.ofNat A)) - (Int32.ofNat B))), (.ref t1)])) _
      refine XS.iand X0.here hx rfl (hb hby d1_16) rfl ?_
      show Steps p.tables e below (s₁.setTop (mkF m 17 #[.val (.int p5), .val (.int (0 : Int32)), .val (.ref t1), .val (.int (Int32.ofNat A)), .val (.int (Int32.ofNat B)), .val (.int p2)] [(.int ((((0 : Int32) + (Int32.ofNat A)) - (Int32.ofNat B)) &&& (3 : Int32))), (.ref t1)])) _
      refine X0.baloadBytes hx (j := ((((0 : Int32) + (Int32.ofNat A)) - (Int32.ofNat B)) &&& (3 : Int32))) (v := (.int (f kk))) (by rw [e0]; exact Ar1.1) (State.isArrayOf_alike hZ.alike Ar1.2.1) Ar1.2.2 hin1 hat1 (g := (mkF m 17 #[.val (.int p5), .val (.int (0 : Int32)), .val (.ref t1), .val (.int (Int32.ofNat A)), .val (.int (Int32.ofNat B)), .val (.int p2)] [(.int ((((0 : Int32) + (Int32.ofNat A)) - (Int32.ofNat B)) &&& (3 : Int32))), (.ref t1)])) rfl rfl (hb hby d1_17) _ ?_
      show Steps p.tables e below (s₁.setTop (mkF m 18 #[.val (.int p5), .val (.int (0 : Int32)), .val (.ref t1), .val (.int (Int32.ofNat A)), .val (.int (Int32.ofNat B)), .val (.int p2)] [(.int (f kk))])) _
      exact retN X0 hx (t := .byte) Bd.returns (by simp) (hb hby d1_18) hr
    · show Q1_0 Z p5 t1 p2 A B f h0 n0 _ s₁.heap _
      rw [e0]
      exact ⟨_, rfl, N0, rfl⟩
theorem ef_1_1 (m : MethodId) (x0 : Int32) (x1 : Int32) (x2 : Addr) (x3 : Int32) (x4 : Int32) (x5 : Int32) : entryFrame m #[(.int x0), (.int x1), (.ref x2), (.int x3), (.int x4), (.int x5)] 6 = mkF m 0 #[.val (.int x0), .val (.int x1), .val (.ref x2), .val (.int x3), .val (.int x4), .val (.int x5)] [] := by first | (simp [entryFrame, mkF, argsToLocals, Value.category]; done) | rfl
def Q1_1 (Z : State) (p5 : Int32) (t1 : Addr) (p2 : Int32) (A : Nat) (B : Nat) (f : Nat → Int32) (h0 : Heap) (n0 : Nat) (v : Option Value) (h : Heap) (L : List Loc) : Prop := ∃ z : Int32, v = some (.int z) ∧ Fr n0 L ∧ h = h0
set_option maxRecDepth 65536 in
set_option maxHeartbeats 40000000 in
theorem rm1_1 (l : Launch) (Z : State) (a0 : Array Value) (hw : ∀ d ∈ tables_1, d.before a0 Z = true) (ws : List Jvm.Cond) (p5 : Int32) (t1 : Addr) (p2 : Int32) (A : Nat) (B : Nat) (f : Nat → Int32) (h0 : Heap) (n0 : Nat) (Z0 : n0 ≤ h0.size) (BA : own_Byt Z h0 t1 f) :
    MetFree l (⟨"com/example/trailsmith/trailsmith/check/BytesEqualPinLaw", "pick", "(II[BIII)B"⟩ : MethodName) (head1 (Jvm.Cond.code (⟨"com/example/trailsmith/trailsmith/check/BytesEqualPinLaw", "pick", "(II[BIII)B"⟩ : MethodName) method_3_code 6 (some .byte) :: ws) ({ frames := 0, cells := 0, slots := 0, locals := 0 } : Room)) (fun a U => a = #[(.int p5), (.int (1 : Int32)), (.ref t1), (.int (Int32.ofNat A)), (.int (Int32.ofNat B)), (.int p2)] ∧ Z.Warmed39 U.vm ∧ U.heap = h0) (fun _ _ _ _ _ => True) (fun _ U o U' => ∃ v L, o = .returned v ∧ Q1_1 Z p5 t1 p2 A B f h0 n0 v U'.heap L ∧ FrameEnd U o U' L ({ frames := 0, cells := 0, slots := 0, locals := 0 } : Room).cells ({ frames := 0, cells := 0, slots := 0, locals := 0 } : Room).slots) := by
  refine MetFree.of_bodySF (plainFor_of_name pn_1) hisR ?_
  intro p e s m args below meth c s₁ Bd hml0 hP hK
  obtain ⟨rfl, hZ, hh⟩ := hP
  have hx := Bd.exec
  have hby := Bd.bytes
  have hml : c.maxLocals = 6 := hml0
  have hown : s.vm.findClass "com/example/trailsmith/trailsmith/check/BytesEqualPinLaw" = some m.cls := findClass_of_methodNamed Bd.named
  have hnm := (name_of_methodNamed Bd.named Bd.method).1
  have X0 : Stand p l e ({ frames := 0, cells := 0, slots := 0, locals := 0 } : Room) s m #[(.int p5), (.int (1 : Int32)), (.ref t1), (.int (Int32.ofNat A)), (.int (Int32.ofNat B)), (.int p2)] below meth c s₁ [] 0 0 := Stand.of_body Bd
  have e0 : s₁.heap = h0 := by rw [← hh, Bd.state]; rfl
  have N0 := Fr.nil n0
  have pre0 : ∀ t, Steps p.tables e below (s₁.setTop (mkF m 0 #[.val (.int p5), .val (.int (1 : Int32)), .val (.ref t1), .val (.int (Int32.ofNat A)), .val (.int (Int32.ofNat B)), .val (.int p2)] [])) t → Steps p.tables e below (s₁.setTop (entryFrame m #[(.int p5), (.int (1 : Int32)), (.ref t1), (.int (Int32.ofNat A)), (.int (Int32.ofNat B)), (.int p2)] 6)) t := fun t k => castTop (ef_1_1 m p5 (1 : Int32) t1 (Int32.ofNat A) (Int32.ofNat B) p2) k
  by_cases hc5 : (((p5.toUInt32 >>> ((1 : Int32) &&& 31).toUInt32).toInt32) &&& (1 : Int32)) = (0 : Int32)
  · obtain ⟨fs, hr, hrun, hended, hW, hsame⟩ := X0.leave (v := some (.int (nar .byte (((p2.toUInt32 >>> (((8 : Int32) * (1 : Int32)) &&& 31).toUInt32).toInt32).toInt8.toInt32)))) (fun h => by rw [Bd.returns] at h; cases h)
    refine ⟨_, _, pre0 _ ?_, hrun, hended, _, _, rfl, ?_, ⟨_, rfl⟩, hW, hsame.mono (by decide) (by decide)⟩
    · show Steps p.tables e below (s₁.setTop (mkF m 0 #[.val (.int p5), .val (.int (1 : Int32)), .val (.ref t1), .val (.int (Int32.ofNat A)), .val (.int (Int32.ofNat B)), .val (.int p2)] [])) _
      refine XS.iloadN X0.here hx rfl (hb hby d1_0) rfl ?_
      show Steps p.tables e below (s₁.setTop (mkF m 1 #[.val (.int p5), .val (.int (1 : Int32)), .val (.ref t1), .val (.int (Int32.ofNat A)), .val (.int (Int32.ofNat B)), .val (.int p2)] [(.int p5)])) _
      refine XS.iloadN X0.here hx rfl (hb hby d1_1) rfl ?_
      show Steps p.tables e below (s₁.setTop (mkF m 2 #[.val (.int p5), .val (.int (1 : Int32)), .val (.ref t1), .val (.int (Int32.ofNat A)), .val (.int (Int32.ofNat B)), .val (.int p2)] [(.int (1 : Int32)), (.int p5)])) _
      refine XS.iushr X0.here hx rfl (hb hby d1_2) rfl ?_
      show Steps p.tables e below (s₁.setTop (mkF m 3 #[.val (.int p5), .val (.int (1 : Int32)), .val (.ref t1), .val (.int (Int32.ofNat A)), .val (.int (Int32.ofNat B)), .val (.int p2)] [(.int ((p5.toUInt32 >>> ((1 : Int32) &&& 31).toUInt32).toInt32))])) _
      refine XS.iconst X0.here hx rfl (hb hby d1_3) ?_
      show Steps p.tables e below (s₁.setTop (mkF m 4 #[.val (.int p5), .val (.int (1 : Int32)), .val (.ref t1), .val (.int (Int32.ofNat A)), .val (.int (Int32.ofNat B)), .val (.int p2)] [(.int (1 : Int32)), (.int ((p5.toUInt32 >>> ((1 : Int32) &&& 31).toUInt32).toInt32))])) _
      refine XS.iand X0.here hx rfl (hb hby d1_4) rfl ?_
      show Steps p.tables e below (s₁.setTop (mkF m 5 #[.val (.int p5), .val (.int (1 : Int32)), .val (.ref t1), .val (.int (Int32.ofNat A)), .val (.int (Int32.ofNat B)), .val (.int p2)] [(.int (((p5.toUInt32 >>> ((1 : Int32) &&& 31).toUInt32).toInt32) &&& (1 : Int32)))])) _
      refine XS.ifYes X0.here hx rfl (pc0 := 5) (pc' := 19) rfl (hb hby d1_5) rfl ((if0 _ _).trans (teq hc5).1) (by decide) (by decide) ?_
      show Steps p.tables e below (s₁.setTop (mkF m 19 #[.val (.int p5), .val (.int (1 : Int32)), .val (.ref t1), .val (.int (Int32.ofNat A)), .val (.int (Int32.ofNat B)), .val (.int p2)] [])) _
      refine XS.iload X0.here hx rfl (hb hby d1_19) rfl ?_
      show Steps p.tables e below (s₁.setTop (mkF m 21 #[.val (.int p5), .val (.int (1 : Int32)), .val (.ref t1), .val (.int (Int32.ofNat A)), .val (.int (Int32.ofNat B)), .val (.int p2)] [(.int p2)])) _
      refine XS.bipush X0.here hx rfl (hb hby d1_21) ?_
      show Steps p.tables e below (s₁.setTop (mkF m 23 #[.val (.int p5), .val (.int (1 : Int32)), .val (.ref t1), .val (.int (Int32.ofNat A)), .val (.int (Int32.ofNat B)), .val (.int p2)] [(.int (8 : Int32)), (.int p2)])) _
      refine XS.iloadN X0.here hx rfl (hb hby d1_23) rfl ?_
      show Steps p.tables e below (s₁.setTop (mkF m 24 #[.val (.int p5), .val (.int (1 : Int32)), .val (.ref t1), .val (.int (Int32.ofNat A)), .val (.int (Int32.ofNat B)), .val (.int p2)] [(.int (1 : Int32)), (.int (8 : Int32)), (.int p2)])) _
      refine XS.imul X0.here hx rfl (hb hby d1_24) rfl ?_
      show Steps p.tables e below (s₁.setTop (mkF m 25 #[.val (.int p5), .val (.int (1 : Int32)), .val (.ref t1), .val (.int (Int32.ofNat A)), .val (.int (Int32.ofNat B)), .val (.int p2)] [(.int ((8 : Int32) * (1 : Int32))), (.int p2)])) _
      refine XS.iushr X0.here hx rfl (hb hby d1_25) rfl ?_
      show Steps p.tables e below (s₁.setTop (mkF m 26 #[.val (.int p5), .val (.int (1 : Int32)), .val (.ref t1), .val (.int (Int32.ofNat A)), .val (.int (Int32.ofNat B)), .val (.int p2)] [(.int ((p2.toUInt32 >>> (((8 : Int32) * (1 : Int32)) &&& 31).toUInt32).toInt32))])) _
      refine XS.i2b X0.here hx rfl (hb hby d1_26) rfl ?_
      show Steps p.tables e below (s₁.setTop (mkF m 27 #[.val (.int p5), .val (.int (1 : Int32)), .val (.ref t1), .val (.int (Int32.ofNat A)), .val (.int (Int32.ofNat B)), .val (.int p2)] [(.int (((p2.toUInt32 >>> (((8 : Int32) * (1 : Int32)) &&& 31).toUInt32).toInt32).toInt8.toInt32))])) _
      exact retN X0 hx (t := .byte) Bd.returns (by simp) (hb hby d1_27) hr
    · show Q1_1 Z p5 t1 p2 A B f h0 n0 _ s₁.heap _
      rw [e0]
      exact ⟨_, rfl, N0, rfl⟩
  · obtain ⟨kk, hkk, ek⟩ := own_and3 (((1 : Int32) + (Int32.ofNat A)) - (Int32.ofNat B))
    obtain ⟨cl1, Ar1, S1, H1⟩ := id BA
    have hin1 : ¬ (((((1 : Int32) + (Int32.ofNat A)) - (Int32.ofNat B)) &&& (3 : Int32)) < 0 ∨ cl1.slots.size ≤ (((((1 : Int32) + (Int32.ofNat A)) - (Int32.ofNat B)) &&& (3 : Int32))).toNatClampNeg) := by rw [S1]; exact within ek (show kk < 4 by omega) (by decide)
    have hat1 : cl1.slots[(((((1 : Int32) + (Int32.ofNat A)) - (Int32.ofNat B)) &&& (3 : Int32))).toNatClampNeg]? = some (.int (f kk)) := by rw [clamp_of ek (Nat.lt_trans (show kk < 4 by omega) (by decide))]; exact H1 _ (show kk < 4 by omega)
    obtain ⟨fs, hr, hrun, hended, hW, hsame⟩ := X0.leave (v := some (.int (nar .byte (f kk)))) (fun h => by rw [Bd.returns] at h; cases h)
    refine ⟨_, _, pre0 _ ?_, hrun, hended, _, _, rfl, ?_, ⟨_, rfl⟩, hW, hsame.mono (by decide) (by decide)⟩
    · show Steps p.tables e below (s₁.setTop (mkF m 0 #[.val (.int p5), .val (.int (1 : Int32)), .val (.ref t1), .val (.int (Int32.ofNat A)), .val (.int (Int32.ofNat B)), .val (.int p2)] [])) _
      refine XS.iloadN X0.here hx rfl (hb hby d1_0) rfl ?_
      show Steps p.tables e below (s₁.setTop (mkF m 1 #[.val (.int p5), .val (.int (1 : Int32)), .val (.ref t1), .val (.int (Int32.ofNat A)), .val (.int (Int32.ofNat B)), .val (.int p2)] [(.int p5)])) _
      refine XS.iloadN X0.here hx rfl (hb hby d1_1) rfl ?_
      show Steps p.tables e below (s₁.setTop (mkF m 2 #[.val (.int p5), .val (.int (1 : Int32)), .val (.ref t1), .val (.int (Int32.ofNat A)), .val (.int (Int32.ofNat B)), .val (.int p2)] [(.int (1 : Int32)), (.int p5)])) _
      refine XS.iushr X0.here hx rfl (hb hby d1_2) rfl ?_
      show Steps p.tables e below (s₁.setTop (mkF m 3 #[.val (.int p5), .val (.int (1 : Int32)), .val (.ref t1), .val (.int (Int32.ofNat A)), .val (.int (Int32.ofNat B)), .val (.int p2)] [(.int ((p5.toUInt32 >>> ((1 : Int32) &&& 31).toUInt32).toInt32))])) _
      refine XS.iconst X0.here hx rfl (hb hby d1_3) ?_
      show Steps p.tables e below (s₁.setTop (mkF m 4 #[.val (.int p5), .val (.int (1 : Int32)), .val (.ref t1), .val (.int (Int32.ofNat A)), .val (.int (Int32.ofNat B)), .val (.int p2)] [(.int (1 : Int32)), (.int ((p5.toUInt32 >>> ((1 : Int32) &&& 31).toUInt32).toInt32))])) _
      refine XS.iand X0.here hx rfl (hb hby d1_4) rfl ?_
      show Steps p.tables e below (s₁.setTop (mkF m 5 #[.val (.int p5), .val (.int (1 : Int32)), .val (.ref t1), .val (.int (Int32.ofNat A)), .val (.int (Int32.ofNat B)), .val (.int p2)] [(.int (((p5.toUInt32 >>> ((1 : Int32) &&& 31).toUInt32).toInt32) &&& (1 : Int32)))])) _
      refine XS.ifNo X0.here hx rfl (hb hby d1_5) rfl ((if0 _ _).trans (feq hc5).1) ?_
      show Steps p.tables e below (s₁.setTop (mkF m 8 #[.val (.int p5), .val (.int (1 : Int32)), .val (.ref t1), .val (.int (Int32.ofNat A)), .val (.int (Int32.ofNat B)), .val (.int p2)] [])) _
      refine XS.aloadN X0.here hx rfl (hb hby d1_8) rfl rfl ?_
      show Steps p.tables e below (s₁.setTop (mkF m 9 #[.val (.int p5), .val (.int (1 : Int32)), .val (.ref t1), .val (.int (Int32.ofNat A)), .val (.int (Int32.ofNat B)), .val (.int p2)] [(.ref t1)])) _
      refine XS.iloadN X0.here hx rfl (hb hby d1_9) rfl ?_
      show Steps p.tables e below (s₁.setTop (mkF m 10 #[.val (.int p5), .val (.int (1 : Int32)), .val (.ref t1), .val (.int (Int32.ofNat A)), .val (.int (Int32.ofNat B)), .val (.int p2)] [(.int (1 : Int32)), (.ref t1)])) _
      refine XS.iloadN X0.here hx rfl (hb hby d1_10) rfl ?_
      show Steps p.tables e below (s₁.setTop (mkF m 11 #[.val (.int p5), .val (.int (1 : Int32)), .val (.ref t1), .val (.int (Int32.ofNat A)), .val (.int (Int32.ofNat B)), .val (.int p2)] [(.int (Int32.ofNat A)), (.int (1 : Int32)), (.ref t1)])) _
      refine XS.iadd X0.here hx rfl (hb hby d1_11) rfl ?_
      show Steps p.tables e below (s₁.setTop (mkF m 12 #[.val (.int p5), .val (.int (1 : Int32)), .val (.ref t1), .val (.int (Int32.ofNat A)), .val (.int (Int32.ofNat B)), .val (.int p2)] [(.int ((1 : Int32) + (Int32.ofNat A))), (.ref t1)])) _
      refine XS.iload X0.here hx rfl (hb hby d1_12) rfl ?_
      show Steps p.tables e below (s₁.setTop (mkF m 14 #[.val (.int p5), .val (.int (1 : Int32)), .val (.ref t1), .val (.int (Int32.ofNat A)), .val (.int (Int32.ofNat B)), .val (.int p2)] [(.int (Int32.ofNat B)), (.int ((1 : Int32) + (Int32.ofNat A))), (.ref t1)])) _
      refine XS.isub X0.here hx rfl (hb hby d1_14) rfl ?_
      show Steps p.tables e below (s₁.setTop (mkF m 15 #[.val (.int p5), .val (.int (1 : Int32)), .val (.ref t1), .val (.int (Int32.ofNat A)), .val (.int (Int32.ofNat B)), .val (.int p2)] [(.int (((1 : Int32) + (Int32.ofNat A)) - (Int32.ofNat B))), (.ref t1)])) _
      refine XS.iconst X0.here hx rfl (hb hby d1_15) ?_
      show Steps p.tables e below (s₁.setTop (mkF m 16 #[.val (.int p5), .val (.int (1 : Int32)), .val (.ref t1), .val (.int (Int32.ofNat A)), .val (.int (Int32.ofNat B)), .val (.int p2)] [(.int (3 : Int32)), (.int (((1 : Int32) + (Int32.ofNat A)) - (Int32.ofNat B))), (.ref t1)])) _
      refine XS.iand X0.here hx rfl (hb hby d1_16) rfl ?_
      show Steps p.tables e below (s₁.setTop (mkF m 17 #[.val (.int p5), .val (.int (1 : Int32)), .val (.ref t1), .val (.int (Int32.ofNat A)), .val (.int (Int32.ofNat B)), .val (.int p2)] [(.int ((((1 : Int32) + (Int32.ofNat A)) - (Int32.ofNat B)) &&& (3 : Int32))), (.ref t1)])) _
      refine X0.baloadBytes hx (j := ((((1 : Int32) + (Int32.ofNat A)) - (Int32.ofNat B)) &&& (3 : Int32))) (v := (.int (f kk))) (by rw [e0]; exact Ar1.1) (State.isArrayOf_alike hZ.alike Ar1.2.1) Ar1.2.2 hin1 hat1 (g := (mkF m 17 #[.val (.int p5), .val (.int (1 : Int32)), .val (.ref t1), .val (.int (Int32.ofNat A)), .val (.int (Int32.ofNat B)), .val (.int p2)] [(.int ((((1 : Int32) + (Int32.ofNat A)) - (Int32.ofNat B)) &&& (3 : Int32))), (.ref t1)])) rfl rfl (hb hby d1_17) _ ?_
      show Steps p.tables e below (s₁.setTop (mkF m 18 #[.val (.int p5), .val (.int (1 : Int32)), .val (.ref t1), .val (.int (Int32.ofNat A)), .val (.int (Int32.ofNat B)), .val (.int p2)] [(.int (f kk))])) _
      exact retN X0 hx (t := .byte) Bd.returns (by simp) (hb hby d1_18) hr
    · show Q1_1 Z p5 t1 p2 A B f h0 n0 _ s₁.heap _
      rw [e0]
      exact ⟨_, rfl, N0, rfl⟩
theorem ef_1_2 (m : MethodId) (x0 : Int32) (x1 : Int32) (x2 : Addr) (x3 : Int32) (x4 : Int32) (x5 : Int32) : entryFrame m #[(.int x0), (.int x1), (.ref x2), (.int x3), (.int x4), (.int x5)] 6 = mkF m 0 #[.val (.int x0), .val (.int x1), .val (.ref x2), .val (.int x3), .val (.int x4), .val (.int x5)] [] := by first | (simp [entryFrame, mkF, argsToLocals, Value.category]; done) | rfl
def Q1_2 (Z : State) (p5 : Int32) (t1 : Addr) (p2 : Int32) (A : Nat) (B : Nat) (f : Nat → Int32) (h0 : Heap) (n0 : Nat) (v : Option Value) (h : Heap) (L : List Loc) : Prop := ∃ z : Int32, v = some (.int z) ∧ Fr n0 L ∧ h = h0
set_option maxRecDepth 65536 in
set_option maxHeartbeats 40000000 in
theorem rm1_2 (l : Launch) (Z : State) (a0 : Array Value) (hw : ∀ d ∈ tables_1, d.before a0 Z = true) (ws : List Jvm.Cond) (p5 : Int32) (t1 : Addr) (p2 : Int32) (A : Nat) (B : Nat) (f : Nat → Int32) (h0 : Heap) (n0 : Nat) (Z0 : n0 ≤ h0.size) (BA : own_Byt Z h0 t1 f) :
    MetFree l (⟨"com/example/trailsmith/trailsmith/check/BytesEqualPinLaw", "pick", "(II[BIII)B"⟩ : MethodName) (head1 (Jvm.Cond.code (⟨"com/example/trailsmith/trailsmith/check/BytesEqualPinLaw", "pick", "(II[BIII)B"⟩ : MethodName) method_3_code 6 (some .byte) :: ws) ({ frames := 0, cells := 0, slots := 0, locals := 0 } : Room)) (fun a U => a = #[(.int p5), (.int (2 : Int32)), (.ref t1), (.int (Int32.ofNat A)), (.int (Int32.ofNat B)), (.int p2)] ∧ Z.Warmed39 U.vm ∧ U.heap = h0) (fun _ _ _ _ _ => True) (fun _ U o U' => ∃ v L, o = .returned v ∧ Q1_2 Z p5 t1 p2 A B f h0 n0 v U'.heap L ∧ FrameEnd U o U' L ({ frames := 0, cells := 0, slots := 0, locals := 0 } : Room).cells ({ frames := 0, cells := 0, slots := 0, locals := 0 } : Room).slots) := by
  refine MetFree.of_bodySF (plainFor_of_name pn_1) hisR ?_
  intro p e s m args below meth c s₁ Bd hml0 hP hK
  obtain ⟨rfl, hZ, hh⟩ := hP
  have hx := Bd.exec
  have hby := Bd.bytes
  have hml : c.maxLocals = 6 := hml0
  have hown : s.vm.findClass "com/example/trailsmith/trailsmith/check/BytesEqualPinLaw" = some m.cls := findClass_of_methodNamed Bd.named
  have hnm := (name_of_methodNamed Bd.named Bd.method).1
  have X0 : Stand p l e ({ frames := 0, cells := 0, slots := 0, locals := 0 } : Room) s m #[(.int p5), (.int (2 : Int32)), (.ref t1), (.int (Int32.ofNat A)), (.int (Int32.ofNat B)), (.int p2)] below meth c s₁ [] 0 0 := Stand.of_body Bd
  have e0 : s₁.heap = h0 := by rw [← hh, Bd.state]; rfl
  have N0 := Fr.nil n0
  have pre0 : ∀ t, Steps p.tables e below (s₁.setTop (mkF m 0 #[.val (.int p5), .val (.int (2 : Int32)), .val (.ref t1), .val (.int (Int32.ofNat A)), .val (.int (Int32.ofNat B)), .val (.int p2)] [])) t → Steps p.tables e below (s₁.setTop (entryFrame m #[(.int p5), (.int (2 : Int32)), (.ref t1), (.int (Int32.ofNat A)), (.int (Int32.ofNat B)), (.int p2)] 6)) t := fun t k => castTop (ef_1_2 m p5 (2 : Int32) t1 (Int32.ofNat A) (Int32.ofNat B) p2) k
  by_cases hc5 : (((p5.toUInt32 >>> ((2 : Int32) &&& 31).toUInt32).toInt32) &&& (1 : Int32)) = (0 : Int32)
  · obtain ⟨fs, hr, hrun, hended, hW, hsame⟩ := X0.leave (v := some (.int (nar .byte (((p2.toUInt32 >>> (((8 : Int32) * (2 : Int32)) &&& 31).toUInt32).toInt32).toInt8.toInt32)))) (fun h => by rw [Bd.returns] at h; cases h)
    refine ⟨_, _, pre0 _ ?_, hrun, hended, _, _, rfl, ?_, ⟨_, rfl⟩, hW, hsame.mono (by decide) (by decide)⟩
    · show Steps p.tables e below (s₁.setTop (mkF m 0 #[.val (.int p5), .val (.int (2 : Int32)), .val (.ref t1), .val (.int (Int32.ofNat A)), .val (.int (Int32.ofNat B)), .val (.int p2)] [])) _
      refine XS.iloadN X0.here hx rfl (hb hby d1_0) rfl ?_
      show Steps p.tables e below (s₁.setTop (mkF m 1 #[.val (.int p5), .val (.int (2 : Int32)), .val (.ref t1), .val (.int (Int32.ofNat A)), .val (.int (Int32.ofNat B)), .val (.int p2)] [(.int p5)])) _
      refine XS.iloadN X0.here hx rfl (hb hby d1_1) rfl ?_
      show Steps p.tables e below (s₁.setTop (mkF m 2 #[.val (.int p5), .val (.int (2 : Int32)), .val (.ref t1), .val (.int (Int32.ofNat A)), .val (.int (Int32.ofNat B)), .val (.int p2)] [(.int (2 : Int32)), (.int p5)])) _
      refine XS.iushr X0.here hx rfl (hb hby d1_2) rfl ?_
      show Steps p.tables e below (s₁.setTop (mkF m 3 #[.val (.int p5), .val (.int (2 : Int32)), .val (.ref t1), .val (.int (Int32.ofNat A)), .val (.int (Int32.ofNat B)), .val (.int p2)] [(.int ((p5.toUInt32 >>> ((2 : Int32) &&& 31).toUInt32).toInt32))])) _
      refine XS.iconst X0.here hx rfl (hb hby d1_3) ?_
      show Steps p.tables e below (s₁.setTop (mkF m 4 #[.val (.int p5), .val (.int (2 : Int32)), .val (.ref t1), .val (.int (Int32.ofNat A)), .val (.int (Int32.ofNat B)), .val (.int p2)] [(.int (1 : Int32)), (.int ((p5.toUInt32 >>> ((2 : Int32) &&& 31).toUInt32).toInt32))])) _
      refine XS.iand X0.here hx rfl (hb hby d1_4) rfl ?_
      show Steps p.tables e below (s₁.setTop (mkF m 5 #[.val (.int p5), .val (.int (2 : Int32)), .val (.ref t1), .val (.int (Int32.ofNat A)), .val (.int (Int32.ofNat B)), .val (.int p2)] [(.int (((p5.toUInt32 >>> ((2 : Int32) &&& 31).toUInt32).toInt32) &&& (1 : Int32)))])) _
      refine XS.ifYes X0.here hx rfl (pc0 := 5) (pc' := 19) rfl (hb hby d1_5) rfl ((if0 _ _).trans (teq hc5).1) (by decide) (by decide) ?_
      show Steps p.tables e below (s₁.setTop (mkF m 19 #[.val (.int p5), .val (.int (2 : Int32)), .val (.ref t1), .val (.int (Int32.ofNat A)), .val (.int (Int32.ofNat B)), .val (.int p2)] [])) _
      refine XS.iload X0.here hx rfl (hb hby d1_19) rfl ?_
      show Steps p.tables e below (s₁.setTop (mkF m 21 #[.val (.int p5), .val (.int (2 : Int32)), .val (.ref t1), .val (.int (Int32.ofNat A)), .val (.int (Int32.ofNat B)), .val (.int p2)] [(.int p2)])) _
      refine XS.bipush X0.here hx rfl (hb hby d1_21) ?_
      show Steps p.tables e below (s₁.setTop (mkF m 23 #[.val (.int p5), .val (.int (2 : Int32)), .val (.ref t1), .val (.int (Int32.ofNat A)), .val (.int (Int32.ofNat B)), .val (.int p2)] [(.int (8 : Int32)), (.int p2)])) _
      refine XS.iloadN X0.here hx rfl (hb hby d1_23) rfl ?_
      show Steps p.tables e below (s₁.setTop (mkF m 24 #[.val (.int p5), .val (.int (2 : Int32)), .val (.ref t1), .val (.int (Int32.ofNat A)), .val (.int (Int32.ofNat B)), .val (.int p2)] [(.int (2 : Int32)), (.int (8 : Int32)), (.int p2)])) _
      refine XS.imul X0.here hx rfl (hb hby d1_24) rfl ?_
      show Steps p.tables e below (s₁.setTop (mkF m 25 #[.val (.int p5), .val (.int (2 : Int32)), .val (.ref t1), .val (.int (Int32.ofNat A)), .val (.int (Int32.ofNat B)), .val (.int p2)] [(.int ((8 : Int32) * (2 : Int32))), (.int p2)])) _
      refine XS.iushr X0.here hx rfl (hb hby d1_25) rfl ?_
      show Steps p.tables e below (s₁.setTop (mkF m 26 #[.val (.int p5), .val (.int (2 : Int32)), .val (.ref t1), .val (.int (Int32.ofNat A)), .val (.int (Int32.ofNat B)), .val (.int p2)] [(.int ((p2.toUInt32 >>> (((8 : Int32) * (2 : Int32)) &&& 31).toUInt32).toInt32))])) _
      refine XS.i2b X0.here hx rfl (hb hby d1_26) rfl ?_
      show Steps p.tables e below (s₁.setTop (mkF m 27 #[.val (.int p5), .val (.int (2 : Int32)), .val (.ref t1), .val (.int (Int32.ofNat A)), .val (.int (Int32.ofNat B)), .val (.int p2)] [(.int (((p2.toUInt32 >>> (((8 : Int32) * (2 : Int32)) &&& 31).toUInt32).toInt32).toInt8.toInt32))])) _
      exact retN X0 hx (t := .byte) Bd.returns (by simp) (hb hby d1_27) hr
    · show Q1_2 Z p5 t1 p2 A B f h0 n0 _ s₁.heap _
      rw [e0]
      exact ⟨_, rfl, N0, rfl⟩
  · obtain ⟨kk, hkk, ek⟩ := own_and3 (((2 : Int32) + (Int32.ofNat A)) - (Int32.ofNat B))
    obtain ⟨cl1, Ar1, S1, H1⟩ := id BA
    have hin1 : ¬ (((((2 : Int32) + (Int32.ofNat A)) - (Int32.ofNat B)) &&& (3 : Int32)) < 0 ∨ cl1.slots.size ≤ (((((2 : Int32) + (Int32.ofNat A)) - (Int32.ofNat B)) &&& (3 : Int32))).toNatClampNeg) := by rw [S1]; exact within ek (show kk < 4 by omega) (by decide)
    have hat1 : cl1.slots[(((((2 : Int32) + (Int32.ofNat A)) - (Int32.ofNat B)) &&& (3 : Int32))).toNatClampNeg]? = some (.int (f kk)) := by rw [clamp_of ek (Nat.lt_trans (show kk < 4 by omega) (by decide))]; exact H1 _ (show kk < 4 by omega)
    obtain ⟨fs, hr, hrun, hended, hW, hsame⟩ := X0.leave (v := some (.int (nar .byte (f kk)))) (fun h => by rw [Bd.returns] at h; cases h)
    refine ⟨_, _, pre0 _ ?_, hrun, hended, _, _, rfl, ?_, ⟨_, rfl⟩, hW, hsame.mono (by decide) (by decide)⟩
    · show Steps p.tables e below (s₁.setTop (mkF m 0 #[.val (.int p5), .val (.int (2 : Int32)), .val (.ref t1), .val (.int (Int32.ofNat A)), .val (.int (Int32.ofNat B)), .val (.int p2)] [])) _
      refine XS.iloadN X0.here hx rfl (hb hby d1_0) rfl ?_
      show Steps p.tables e below (s₁.setTop (mkF m 1 #[.val (.int p5), .val (.int (2 : Int32)), .val (.ref t1), .val (.int (Int32.ofNat A)), .val (.int (Int32.ofNat B)), .val (.int p2)] [(.int p5)])) _
      refine XS.iloadN X0.here hx rfl (hb hby d1_1) rfl ?_
      show Steps p.tables e below (s₁.setTop (mkF m 2 #[.val (.int p5), .val (.int (2 : Int32)), .val (.ref t1), .val (.int (Int32.ofNat A)), .val (.int (Int32.ofNat B)), .val (.int p2)] [(.int (2 : Int32)), (.int p5)])) _
      refine XS.iushr X0.here hx rfl (hb hby d1_2) rfl ?_
      show Steps p.tables e below (s₁.setTop (mkF m 3 #[.val (.int p5), .val (.int (2 : Int32)), .val (.ref t1), .val (.int (Int32.ofNat A)), .val (.int (Int32.ofNat B)), .val (.int p2)] [(.int ((p5.toUInt32 >>> ((2 : Int32) &&& 31).toUInt32).toInt32))])) _
      refine XS.iconst X0.here hx rfl (hb hby d1_3) ?_
      show Steps p.tables e below (s₁.setTop (mkF m 4 #[.val (.int p5), .val (.int (2 : Int32)), .val (.ref t1), .val (.int (Int32.ofNat A)), .val (.int (Int32.ofNat B)), .val (.int p2)] [(.int (1 : Int32)), (.int ((p5.toUInt32 >>> ((2 : Int32) &&& 31).toUInt32).toInt32))])) _
      refine XS.iand X0.here hx rfl (hb hby d1_4) rfl ?_
      show Steps p.tables e below (s₁.setTop (mkF m 5 #[.val (.int p5), .val (.int (2 : Int32)), .val (.ref t1), .val (.int (Int32.ofNat A)), .val (.int (Int32.ofNat B)), .val (.int p2)] [(.int (((p5.toUInt32 >>> ((2 : Int32) &&& 31).toUInt32).toInt32) &&& (1 : Int32)))])) _
      refine XS.ifNo X0.here hx rfl (hb hby d1_5) rfl ((if0 _ _).trans (feq hc5).1) ?_
      show Steps p.tables e below (s₁.setTop (mkF m 8 #[.val (.int p5), .val (.int (2 : Int32)), .val (.ref t1), .val (.int (Int32.ofNat A)), .val (.int (Int32.ofNat B)), .val (.int p2)] [])) _
      refine XS.aloadN X0.here hx rfl (hb hby d1_8) rfl rfl ?_
      show Steps p.tables e below (s₁.setTop (mkF m 9 #[.val (.int p5), .val (.int (2 : Int32)), .val (.ref t1), .val (.int (Int32.ofNat A)), .val (.int (Int32.ofNat B)), .val (.int p2)] [(.ref t1)])) _
      refine XS.iloadN X0.here hx rfl (hb hby d1_9) rfl ?_
      show Steps p.tables e below (s₁.setTop (mkF m 10 #[.val (.int p5), .val (.int (2 : Int32)), .val (.ref t1), .val (.int (Int32.ofNat A)), .val (.int (Int32.ofNat B)), .val (.int p2)] [(.int (2 : Int32)), (.ref t1)])) _
      refine XS.iloadN X0.here hx rfl (hb hby d1_10) rfl ?_
      show Steps p.tables e below (s₁.setTop (mkF m 11 #[.val (.int p5), .val (.int (2 : Int32)), .val (.ref t1), .val (.int (Int32.ofNat A)), .val (.int (Int32.ofNat B)), .val (.int p2)] [(.int (Int32.ofNat A)), (.int (2 : Int32)), (.ref t1)])) _
      refine XS.iadd X0.here hx rfl (hb hby d1_11) rfl ?_
      show Steps p.tables e below (s₁.setTop (mkF m 12 #[.val (.int p5), .val (.int (2 : Int32)), .val (.ref t1), .val (.int (Int32.ofNat A)), .val (.int (Int32.ofNat B)), .val (.int p2)] [(.int ((2 : Int32) + (Int32.ofNat A))), (.ref t1)])) _
      refine XS.iload X0.here hx rfl (hb hby d1_12) rfl ?_
      show Steps p.tables e below (s₁.setTop (mkF m 14 #[.val (.int p5), .val (.int (2 : Int32)), .val (.ref t1), .val (.int (Int32.ofNat A)), .val (.int (Int32.ofNat B)), .val (.int p2)] [(.int (Int32.ofNat B)), (.int ((2 : Int32) + (Int32.ofNat A))), (.ref t1)])) _
      refine XS.isub X0.here hx rfl (hb hby d1_14) rfl ?_
      show Steps p.tables e below (s₁.setTop (mkF m 15 #[.val (.int p5), .val (.int (2 : Int32)), .val (.ref t1), .val (.int (Int32.ofNat A)), .val (.int (Int32.ofNat B)), .val (.int p2)] [(.int (((2 : Int32) + (Int32.ofNat A)) - (Int32.ofNat B))), (.ref t1)])) _
      refine XS.iconst X0.here hx rfl (hb hby d1_15) ?_
      show Steps p.tables e below (s₁.setTop (mkF m 16 #[.val (.int p5), .val (.int (2 : Int32)), .val (.ref t1), .val (.int (Int32.ofNat A)), .val (.int (Int32.ofNat B)), .val (.int p2)] [(.int (3 : Int32)), (.int (((2 : Int32) + (Int32.ofNat A)) - (Int32.ofNat B))), (.ref t1)])) _
      refine XS.iand X0.here hx rfl (hb hby d1_16) rfl ?_
      show Steps p.tables e below (s₁.setTop (mkF m 17 #[.val (.int p5), .val (.int (2 : Int32)), .val (.ref t1), .val (.int (Int32.ofNat A)), .val (.int (Int32.ofNat B)), .val (.int p2)] [(.int ((((2 : Int32) + (Int32.ofNat A)) - (Int32.ofNat B)) &&& (3 : Int32))), (.ref t1)])) _
      refine X0.baloadBytes hx (j := ((((2 : Int32) + (Int32.ofNat A)) - (Int32.ofNat B)) &&& (3 : Int32))) (v := (.int (f kk))) (by rw [e0]; exact Ar1.1) (State.isArrayOf_alike hZ.alike Ar1.2.1) Ar1.2.2 hin1 hat1 (g := (mkF m 17 #[.val (.int p5), .val (.int (2 : Int32)), .val (.ref t1), .val (.int (Int32.ofNat A)), .val (.int (Int32.ofNat B)), .val (.int p2)] [(.int ((((2 : Int32) + (Int32.ofNat A)) - (Int32.ofNat B)) &&& (3 : Int32))), (.ref t1)])) rfl rfl (hb hby d1_17) _ ?_
      show Steps p.tables e below (s₁.setTop (mkF m 18 #[.val (.int p5), .val (.int (2 : Int32)), .val (.ref t1), .val (.int (Int32.ofNat A)), .val (.int (Int32.ofNat B)), .val (.int p2)] [(.int (f kk))])) _
      exact retN X0 hx (t := .byte) Bd.returns (by simp) (hb hby d1_18) hr
    · show Q1_2 Z p5 t1 p2 A B f h0 n0 _ s₁.heap _
      rw [e0]
      exact ⟨_, rfl, N0, rfl⟩
theorem ef_1_3 (m : MethodId) (x0 : Int32) (x1 : Int32) (x2 : Addr) (x3 : Int32) (x4 : Int32) (x5 : Int32) : entryFrame m #[(.int x0), (.int x1), (.ref x2), (.int x3), (.int x4), (.int x5)] 6 = mkF m 0 #[.val (.int x0), .val (.int x1), .val (.ref x2), .val (.int x3), .val (.int x4), .val (.int x5)] [] := by first | (simp [entryFrame, mkF, argsToLocals, Value.category]; done) | rfl
def Q1_3 (Z : State) (p5 : Int32) (t1 : Addr) (p2 : Int32) (A : Nat) (B : Nat) (f : Nat → Int32) (h0 : Heap) (n0 : Nat) (v : Option Value) (h : Heap) (L : List Loc) : Prop := ∃ z : Int32, v = some (.int z) ∧ Fr n0 L ∧ h = h0
set_option maxRecDepth 65536 in
set_option maxHeartbeats 40000000 in
theorem rm1_3 (l : Launch) (Z : State) (a0 : Array Value) (hw : ∀ d ∈ tables_1, d.before a0 Z = true) (ws : List Jvm.Cond) (p5 : Int32) (t1 : Addr) (p2 : Int32) (A : Nat) (B : Nat) (f : Nat → Int32) (h0 : Heap) (n0 : Nat) (Z0 : n0 ≤ h0.size) (BA : own_Byt Z h0 t1 f) :
    MetFree l (⟨"com/example/trailsmith/trailsmith/check/BytesEqualPinLaw", "pick", "(II[BIII)B"⟩ : MethodName) (head1 (Jvm.Cond.code (⟨"com/example/trailsmith/trailsmith/check/BytesEqualPinLaw", "pick", "(II[BIII)B"⟩ : MethodName) method_3_code 6 (some .byte) :: ws) ({ frames := 0, cells := 0, slots := 0, locals := 0 } : Room)) (fun a U => a = #[(.int p5), (.int (3 : Int32)), (.ref t1), (.int (Int32.ofNat A)), (.int (Int32.ofNat B)), (.int p2)] ∧ Z.Warmed39 U.vm ∧ U.heap = h0) (fun _ _ _ _ _ => True) (fun _ U o U' => ∃ v L, o = .returned v ∧ Q1_3 Z p5 t1 p2 A B f h0 n0 v U'.heap L ∧ FrameEnd U o U' L ({ frames := 0, cells := 0, slots := 0, locals := 0 } : Room).cells ({ frames := 0, cells := 0, slots := 0, locals := 0 } : Room).slots) := by
  refine MetFree.of_bodySF (plainFor_of_name pn_1) hisR ?_
  intro p e s m args below meth c s₁ Bd hml0 hP hK
  obtain ⟨rfl, hZ, hh⟩ := hP
  have hx := Bd.exec
  have hby := Bd.bytes
  have hml : c.maxLocals = 6 := hml0
  have hown : s.vm.findClass "com/example/trailsmith/trailsmith/check/BytesEqualPinLaw" = some m.cls := findClass_of_methodNamed Bd.named
  have hnm := (name_of_methodNamed Bd.named Bd.method).1
  have X0 : Stand p l e ({ frames := 0, cells := 0, slots := 0, locals := 0 } : Room) s m #[(.int p5), (.int (3 : Int32)), (.ref t1), (.int (Int32.ofNat A)), (.int (Int32.ofNat B)), (.int p2)] below meth c s₁ [] 0 0 := Stand.of_body Bd
  have e0 : s₁.heap = h0 := by rw [← hh, Bd.state]; rfl
  have N0 := Fr.nil n0
  have pre0 : ∀ t, Steps p.tables e below (s₁.setTop (mkF m 0 #[.val (.int p5), .val (.int (3 : Int32)), .val (.ref t1), .val (.int (Int32.ofNat A)), .val (.int (Int32.ofNat B)), .val (.int p2)] [])) t → Steps p.tables e below (s₁.setTop (entryFrame m #[(.int p5), (.int (3 : Int32)), (.ref t1), (.int (Int32.ofNat A)), (.int (Int32.ofNat B)), (.int p2)] 6)) t := fun t k => castTop (ef_1_3 m p5 (3 : Int32) t1 (Int32.ofNat A) (Int32.ofNat B) p2) k
  by_cases hc5 : (((p5.toUInt32 >>> ((3 : Int32) &&& 31).toUInt32).toInt32) &&& (1 : Int32)) = (0 : Int32)
  · obtain ⟨fs, hr, hrun, hended, hW, hsame⟩ := X0.leave (v := some (.int (nar .byte (((p2.toUInt32 >>> (((8 : Int32) * (3 : Int32)) &&& 31).toUInt32).toInt32).toInt8.toInt32)))) (fun h => by rw [Bd.returns] at h; cases h)
    refine ⟨_, _, pre0 _ ?_, hrun, hended, _, _, rfl, ?_, ⟨_, rfl⟩, hW, hsame.mono (by decide) (by decide)⟩
    · show Steps p.tables e below (s₁.setTop (mkF m 0 #[.val (.int p5), .val (.int (3 : Int32)), .val (.ref t1), .val (.int (Int32.ofNat A)), .val (.int (Int32.ofNat B)), .val (.int p2)] [])) _
      refine XS.iloadN X0.here hx rfl (hb hby d1_0) rfl ?_
      show Steps p.tables e below (s₁.setTop (mkF m 1 #[.val (.int p5), .val (.int (3 : Int32)), .val (.ref t1), .val (.int (Int32.ofNat A)), .val (.int (Int32.ofNat B)), .val (.int p2)] [(.int p5)])) _
      refine XS.iloadN X0.here hx rfl (hb hby d1_1) rfl ?_
      show Steps p.tables e below (s₁.setTop (mkF m 2 #[.val (.int p5), .val (.int (3 : Int32)), .val (.ref t1), .val (.int (Int32.ofNat A)), .val (.int (Int32.ofNat B)), .val (.int p2)] [(.int (3 : Int32)), (.int p5)])) _
      refine XS.iushr X0.here hx rfl (hb hby d1_2) rfl ?_
      show Steps p.tables e below (s₁.setTop (mkF m 3 #[.val (.int p5), .val (.int (3 : Int32)), .val (.ref t1), .val (.int (Int32.ofNat A)), .val (.int (Int32.ofNat B)), .val (.int p2)] [(.int ((p5.toUInt32 >>> ((3 : Int32) &&& 31).toUInt32).toInt32))])) _
      refine XS.iconst X0.here hx rfl (hb hby d1_3) ?_
      show Steps p.tables e below (s₁.setTop (mkF m 4 #[.val (.int p5), .val (.int (3 : Int32)), .val (.ref t1), .val (.int (Int32.ofNat A)), .val (.int (Int32.ofNat B)), .val (.int p2)] [(.int (1 : Int32)), (.int ((p5.toUInt32 >>> ((3 : Int32) &&& 31).toUInt32).toInt32))])) _
      refine XS.iand X0.here hx rfl (hb hby d1_4) rfl ?_
      show Steps p.tables e below (s₁.setTop (mkF m 5 #[.val (.int p5), .val (.int (3 : Int32)), .val (.ref t1), .val (.int (Int32.ofNat A)), .val (.int (Int32.ofNat B)), .val (.int p2)] [(.int (((p5.toUInt32 >>> ((3 : Int32) &&& 31).toUInt32).toInt32) &&& (1 : Int32)))])) _
      refine XS.ifYes X0.here hx rfl (pc0 := 5) (pc' := 19) rfl (hb hby d1_5) rfl ((if0 _ _).trans (teq hc5).1) (by decide) (by decide) ?_
      show Steps p.tables e below (s₁.setTop (mkF m 19 #[.val (.int p5), .val (.int (3 : Int32)), .val (.ref t1), .val (.int (Int32.ofNat A)), .val (.int (Int32.ofNat B)), .val (.int p2)] [])) _
      refine XS.iload X0.here hx rfl (hb hby d1_19) rfl ?_
      show Steps p.tables e below (s₁.setTop (mkF m 21 #[.val (.int p5), .val (.int (3 : Int32)), .val (.ref t1), .val (.int (Int32.ofNat A)), .val (.int (Int32.ofNat B)), .val (.int p2)] [(.int p2)])) _
      refine XS.bipush X0.here hx rfl (hb hby d1_21) ?_
      show Steps p.tables e below (s₁.setTop (mkF m 23 #[.val (.int p5), .val (.int (3 : Int32)), .val (.ref t1), .val (.int (Int32.ofNat A)), .val (.int (Int32.ofNat B)), .val (.int p2)] [(.int (8 : Int32)), (.int p2)])) _
      refine XS.iloadN X0.here hx rfl (hb hby d1_23) rfl ?_
      show Steps p.tables e below (s₁.setTop (mkF m 24 #[.val (.int p5), .val (.int (3 : Int32)), .val (.ref t1), .val (.int (Int32.ofNat A)), .val (.int (Int32.ofNat B)), .val (.int p2)] [(.int (3 : Int32)), (.int (8 : Int32)), (.int p2)])) _
      refine XS.imul X0.here hx rfl (hb hby d1_24) rfl ?_
      show Steps p.tables e below (s₁.setTop (mkF m 25 #[.val (.int p5), .val (.int (3 : Int32)), .val (.ref t1), .val (.int (Int32.ofNat A)), .val (.int (Int32.ofNat B)), .val (.int p2)] [(.int ((8 : Int32) * (3 : Int32))), (.int p2)])) _
      refine XS.iushr X0.here hx rfl (hb hby d1_25) rfl ?_
      show Steps p.tables e below (s₁.setTop (mkF m 26 #[.val (.int p5), .val (.int (3 : Int32)), .val (.ref t1), .val (.int (Int32.ofNat A)), .val (.int (Int32.ofNat B)), .val (.int p2)] [(.int ((p2.toUInt32 >>> (((8 : Int32) * (3 : Int32)) &&& 31).toUInt32).toInt32))])) _
      refine XS.i2b X0.here hx rfl (hb hby d1_26) rfl ?_
      show Steps p.tables e below (s₁.setTop (mkF m 27 #[.val (.int p5), .val (.int (3 : Int32)), .val (.ref t1), .val (.int (Int32.ofNat A)), .val (.int (Int32.ofNat B)), .val (.int p2)] [(.int (((p2.toUInt32 >>> (((8 : Int32) * (3 : Int32)) &&& 31).toUInt32).toInt32).toInt8.toInt32))])) _
      exact retN X0 hx (t := .byte) Bd.returns (by simp) (hb hby d1_27) hr
    · show Q1_3 Z p5 t1 p2 A B f h0 n0 _ s₁.heap _
      rw [e0]
      exact ⟨_, rfl, N0, rfl⟩
  · obtain ⟨kk, hkk, ek⟩ := own_and3 (((3 : Int32) + (Int32.ofNat A)) - (Int32.ofNat B))
    obtain ⟨cl1, Ar1, S1, H1⟩ := id BA
    have hin1 : ¬ (((((3 : Int32) + (Int32.ofNat A)) - (Int32.ofNat B)) &&& (3 : Int32)) < 0 ∨ cl1.slots.size ≤ (((((3 : Int32) + (Int32.ofNat A)) - (Int32.ofNat B)) &&& (3 : Int32))).toNatClampNeg) := by rw [S1]; exact within ek (show kk < 4 by omega) (by decide)
    have hat1 : cl1.slots[(((((3 : Int32) + (Int32.ofNat A)) - (Int32.ofNat B)) &&& (3 : Int32))).toNatClampNeg]? = some (.int (f kk)) := by rw [clamp_of ek (Nat.lt_trans (show kk < 4 by omega) (by decide))]; exact H1 _ (show kk < 4 by omega)
    obtain ⟨fs, hr, hrun, hended, hW, hsame⟩ := X0.leave (v := some (.int (nar .byte (f kk)))) (fun h => by rw [Bd.returns] at h; cases h)
    refine ⟨_, _, pre0 _ ?_, hrun, hended, _, _, rfl, ?_, ⟨_, rfl⟩, hW, hsame.mono (by decide) (by decide)⟩
    · show Steps p.tables e below (s₁.setTop (mkF m 0 #[.val (.int p5), .val (.int (3 : Int32)), .val (.ref t1), .val (.int (Int32.ofNat A)), .val (.int (Int32.ofNat B)), .val (.int p2)] [])) _
      refine XS.iloadN X0.here hx rfl (hb hby d1_0) rfl ?_
      show Steps p.tables e below (s₁.setTop (mkF m 1 #[.val (.int p5), .val (.int (3 : Int32)), .val (.ref t1), .val (.int (Int32.ofNat A)), .val (.int (Int32.ofNat B)), .val (.int p2)] [(.int p5)])) _
      refine XS.iloadN X0.here hx rfl (hb hby d1_1) rfl ?_
      show Steps p.tables e below (s₁.setTop (mkF m 2 #[.val (.int p5), .val (.int (3 : Int32)), .val (.ref t1), .val (.int (Int32.ofNat A)), .val (.int (Int32.ofNat B)), .val (.int p2)] [(.int (3 : Int32)), (.int p5)])) _
      refine XS.iushr X0.here hx rfl (hb hby d1_2) rfl ?_
      show Steps p.tables e below (s₁.setTop (mkF m 3 #[.val (.int p5), .val (.int (3 : Int32)), .val (.ref t1), .val (.int (Int32.ofNat A)), .val (.int (Int32.ofNat B)), .val (.int p2)] [(.int ((p5.toUInt32 >>> ((3 : Int32) &&& 31).toUInt32).toInt32))])) _
      refine XS.iconst X0.here hx rfl (hb hby d1_3) ?_
      show Steps p.tables e below (s₁.setTop (mkF m 4 #[.val (.int p5), .val (.int (3 : Int32)), .val (.ref t1), .val (.int (Int32.ofNat A)), .val (.int (Int32.ofNat B)), .val (.int p2)] [(.int (1 : Int32)), (.int ((p5.toUInt32 >>> ((3 : Int32) &&& 31).toUInt32).toInt32))])) _
      refine XS.iand X0.here hx rfl (hb hby d1_4) rfl ?_
      show Steps p.tables e below (s₁.setTop (mkF m 5 #[.val (.int p5), .val (.int (3 : Int32)), .val (.ref t1), .val (.int (Int32.ofNat A)), .val (.int (Int32.ofNat B)), .val (.int p2)] [(.int (((p5.toUInt32 >>> ((3 : Int32) &&& 31).toUInt32).toInt32) &&& (1 : Int32)))])) _
      refine XS.ifNo X0.here hx rfl (hb hby d1_5) rfl ((if0 _ _).trans (feq hc5).1) ?_
      show Steps p.tables e below (s₁.setTop (mkF m 8 #[.val (.int p5), .val (.int (3 : Int32)), .val (.ref t1), .val (.int (Int32.ofNat A)), .val (.int (Int32.ofNat B)), .val (.int p2)] [])) _
      refine XS.aloadN X0.here hx rfl (hb hby d1_8) rfl rfl ?_
      show Steps p.tables e below (s₁.setTop (mkF m 9 #[.val (.int p5), .val (.int (3 : Int32)), .val (.ref t1), .val (.int (Int32.ofNat A)), .val (.int (Int32.ofNat B)), .val (.int p2)] [(.ref t1)])) _
      refine XS.iloadN X0.here hx rfl (hb hby d1_9) rfl ?_
      show Steps p.tables e below (s₁.setTop (mkF m 10 #[.val (.int p5), .val (.int (3 : Int32)), .val (.ref t1), .val (.int (Int32.ofNat A)), .val (.int (Int32.ofNat B)), .val (.int p2)] [(.int (3 : Int32)), (.ref t1)])) _
      refine XS.iloadN X0.here hx rfl (hb hby d1_10) rfl ?_
      show Steps p.tables e below (s₁.setTop (mkF m 11 #[.val (.int p5), .val (.int (3 : Int32)), .val (.ref t1), .val (.int (Int32.ofNat A)), .val (.int (Int32.ofNat B)), .val (.int p2)] [(.int (Int32.ofNat A)), (.int (3 : Int32)), (.ref t1)])) _
      refine XS.iadd X0.here hx rfl (hb hby d1_11) rfl ?_
      show Steps p.tables e below (s₁.setTop (mkF m 12 #[.val (.int p5), .val (.int (3 : Int32)), .val (.ref t1), .val (.int (Int32.ofNat A)), .val (.int (Int32.ofNat B)), .val (.int p2)] [(.int ((3 : Int32) + (Int32.ofNat A))), (.ref t1)])) _
      refine XS.iload X0.here hx rfl (hb hby d1_12) rfl ?_
      show Steps p.tables e below (s₁.setTop (mkF m 14 #[.val (.int p5), .val (.int (3 : Int32)), .val (.ref t1), .val (.int (Int32.ofNat A)), .val (.int (Int32.ofNat B)), .val (.int p2)] [(.int (Int32.ofNat B)), (.int ((3 : Int32) + (Int32.ofNat A))), (.ref t1)])) _
      refine XS.isub X0.here hx rfl (hb hby d1_14) rfl ?_
      show Steps p.tables e below (s₁.setTop (mkF m 15 #[.val (.int p5), .val (.int (3 : Int32)), .val (.ref t1), .val (.int (Int32.ofNat A)), .val (.int (Int32.ofNat B)), .val (.int p2)] [(.int (((3 : Int32) + (Int32.ofNat A)) - (Int32.ofNat B))), (.ref t1)])) _
      refine XS.iconst X0.here hx rfl (hb hby d1_15) ?_
      show Steps p.tables e below (s₁.setTop (mkF m 16 #[.val (.int p5), .val (.int (3 : Int32)), .val (.ref t1), .val (.int (Int32.ofNat A)), .val (.int (Int32.ofNat B)), .val (.int p2)] [(.int (3 : Int32)), (.int (((3 : Int32) + (Int32.ofNat A)) - (Int32.ofNat B))), (.ref t1)])) _
      refine XS.iand X0.here hx rfl (hb hby d1_16) rfl ?_
      show Steps p.tables e below (s₁.setTop (mkF m 17 #[.val (.int p5), .val (.int (3 : Int32)), .val (.ref t1), .val (.int (Int32.ofNat A)), .val (.int (Int32.ofNat B)), .val (.int p2)] [(.int ((((3 : Int32) + (Int32.ofNat A)) - (Int32.ofNat B)) &&& (3 : Int32))), (.ref t1)])) _
      refine X0.baloadBytes hx (j := ((((3 : Int32) + (Int32.ofNat A)) - (Int32.ofNat B)) &&& (3 : Int32))) (v := (.int (f kk))) (by rw [e0]; exact Ar1.1) (State.isArrayOf_alike hZ.alike Ar1.2.1) Ar1.2.2 hin1 hat1 (g := (mkF m 17 #[.val (.int p5), .val (.int (3 : Int32)), .val (.ref t1), .val (.int (Int32.ofNat A)), .val (.int (Int32.ofNat B)), .val (.int p2)] [(.int ((((3 : Int32) + (Int32.ofNat A)) - (Int32.ofNat B)) &&& (3 : Int32))), (.ref t1)])) rfl rfl (hb hby d1_17) _ ?_
      show Steps p.tables e below (s₁.setTop (mkF m 18 #[.val (.int p5), .val (.int (3 : Int32)), .val (.ref t1), .val (.int (Int32.ofNat A)), .val (.int (Int32.ofNat B)), .val (.int p2)] [(.int (f kk))])) _
      exact retN X0 hx (t := .byte) Bd.returns (by simp) (hb hby d1_18) hr
    · show Q1_3 Z p5 t1 p2 A B f h0 n0 _ s₁.heap _
      rw [e0]
      exact ⟨_, rfl, N0, rfl⟩
theorem d2_0 : decode method_2_code 0 = .ok (.iload 5, 2) := by decide +kernel
theorem d2_2 : decode method_2_code 2 = .ok (.iload 4, 2) := by decide +kernel
theorem d2_4 : decode method_2_code 4 = .ok (.if_icmp .ge 18, 3) := by decide +kernel
theorem d2_7 : decode method_2_code 7 = .ok (.aload_n 0, 1) := by decide +kernel
theorem d2_8 : decode method_2_code 8 = .ok (.iload_n 1, 1) := by decide +kernel
theorem d2_9 : decode method_2_code 9 = .ok (.iload 5, 2) := by decide +kernel
theorem d2_11 : decode method_2_code 11 = .ok (.iadd, 1) := by decide +kernel
theorem d2_12 : decode method_2_code 12 = .ok (.baload, 1) := by decide +kernel
theorem d2_13 : decode method_2_code 13 = .ok (.aload_n 2, 1) := by decide +kernel
theorem d2_14 : decode method_2_code 14 = .ok (.iload_n 3, 1) := by decide +kernel
theorem d2_15 : decode method_2_code 15 = .ok (.iload 5, 2) := by decide +kernel
theorem d2_17 : decode method_2_code 17 = .ok (.iadd, 1) := by decide +kernel
theorem d2_18 : decode method_2_code 18 = .ok (.baload, 1) := by decide +kernel
theorem d2_19 : decode method_2_code 19 = .ok (.if_icmp .ne 7, 3) := by decide +kernel
theorem d2_22 : decode method_2_code 22 = .ok (.iconst 1, 1) := by decide +kernel
theorem d2_23 : decode method_2_code 23 = .ok (.goto 4, 3) := by decide +kernel
theorem d2_26 : decode method_2_code 26 = .ok (.iconst 0, 1) := by decide +kernel
theorem d2_27 : decode method_2_code 27 = .ok (.ireturn, 1) := by decide +kernel
theorem ef_2_0 (m : MethodId) (x0 : Addr) (x1 : Int32) (x2 : Addr) (x3 : Int32) (x4 : Int32) (x5 : Int32) : entryFrame m #[(.ref x0), (.int x1), (.ref x2), (.int x3), (.int x4), (.int x5)] 6 = mkF m 0 #[.val (.ref x0), .val (.int x1), .val (.ref x2), .val (.int x3), .val (.int x4), .val (.int x5)] [] := by first | (simp [entryFrame, mkF, argsToLocals, Value.category]; done) | rfl
def Q2_0 (Z : State) (t1 : Addr) (t2 : Addr) (A : Nat) (B : Nat) (N : Nat) (f : Nat → Int32) (g : Nat → Int32) (h0 : Heap) (n0 : Nat) (v : Option Value) (h : Heap) (L : List Loc) : Prop := ∃ z : Int32, v = some (.int z) ∧ Fr n0 L ∧ h = h0 ∧ ((z = 1 ∧ (0 < N → f (A + 0) = g (B + 0))) ∨ (z = 0 ∧ (0 < N ∧ ¬ f (A + 0) = g (B + 0))))
set_option maxRecDepth 65536 in
set_option maxHeartbeats 40000000 in
theorem rm2_0 (l : Launch) (Z : State) (a0 : Array Value) (hw : ∀ d ∈ tables_1, d.before a0 Z = true) (ws : List Jvm.Cond) (t1 : Addr) (t2 : Addr) (A : Nat) (B : Nat) (N : Nat) (f : Nat → Int32) (g : Nat → Int32) (h0 : Heap) (n0 : Nat) (Z0 : n0 ≤ h0.size) (BA : own_Byt Z h0 t1 f) (BB : own_Byt Z h0 t2 g) (hAN : A + N ≤ 4) (hBN : B + N ≤ 4) :
    MetFree l (⟨"com/example/trailsmith/trailsmith/check/BytesEqualPinLaw", "at", "([BI[BIII)Z"⟩ : MethodName) (head1 (Jvm.Cond.code (⟨"com/example/trailsmith/trailsmith/check/BytesEqualPinLaw", "at", "([BI[BIII)Z"⟩ : MethodName) method_2_code 6 (some .boolean) :: ws) ({ frames := 0, cells := 0, slots := 0, locals := 0 } : Room)) (fun a U => a = #[(.ref t1), (.int (Int32.ofNat A)), (.ref t2), (.int (Int32.ofNat B)), (.int (Int32.ofNat N)), (.int (0 : Int32))] ∧ Z.Warmed39 U.vm ∧ U.heap = h0) (fun _ _ _ _ _ => True) (fun _ U o U' => ∃ v L, o = .returned v ∧ Q2_0 Z t1 t2 A B N f g h0 n0 v U'.heap L ∧ FrameEnd U o U' L ({ frames := 0, cells := 0, slots := 0, locals := 0 } : Room).cells ({ frames := 0, cells := 0, slots := 0, locals := 0 } : Room).slots) := by
  refine MetFree.of_bodySF (plainFor_of_name pn_1) hisR ?_
  intro p e s m args below meth c s₁ Bd hml0 hP hK
  obtain ⟨rfl, hZ, hh⟩ := hP
  have hx := Bd.exec
  have hby := Bd.bytes
  have hml : c.maxLocals = 6 := hml0
  have hown : s.vm.findClass "com/example/trailsmith/trailsmith/check/BytesEqualPinLaw" = some m.cls := findClass_of_methodNamed Bd.named
  have hnm := (name_of_methodNamed Bd.named Bd.method).1
  have X0 : Stand p l e ({ frames := 0, cells := 0, slots := 0, locals := 0 } : Room) s m #[(.ref t1), (.int (Int32.ofNat A)), (.ref t2), (.int (Int32.ofNat B)), (.int (Int32.ofNat N)), (.int (0 : Int32))] below meth c s₁ [] 0 0 := Stand.of_body Bd
  have e0 : s₁.heap = h0 := by rw [← hh, Bd.state]; rfl
  have N0 := Fr.nil n0
  have pre0 : ∀ t, Steps p.tables e below (s₁.setTop (mkF m 0 #[.val (.ref t1), .val (.int (Int32.ofNat A)), .val (.ref t2), .val (.int (Int32.ofNat B)), .val (.int (Int32.ofNat N)), .val (.int (0 : Int32))] [])) t → Steps p.tables e below (s₁.setTop (entryFrame m #[(.ref t1), (.int (Int32.ofNat A)), (.ref t2), (.int (Int32.ofNat B)), (.int (Int32.ofNat N)), (.int (0 : Int32))] 6)) t := fun t k => castTop (ef_2_0 m t1 (Int32.ofNat A) t2 (Int32.ofNat B) (Int32.ofNat N) (0 : Int32)) k
  by_cases hc4 : (0 : Int32) < (Int32.ofNat N)
  · have hiN : 0 < N := (own_ltN (i := 0) (by omega) (by omega)).mp hc4
    obtain ⟨cl1, Ar1, S1, H1⟩ := id BA
    have hin1 : ¬ (((Int32.ofNat A) + (0 : Int32)) < 0 ∨ cl1.slots.size ≤ (((Int32.ofNat A) + (0 : Int32))).toNatClampNeg) := by rw [S1]; exact within (show Int32.ofNat A + (0 : Int32) = Int32.ofNat (A + 0) from own_ad A 0) (show A + 0 < 4 by omega) (by decide)
    have hat1 : cl1.slots[(((Int32.ofNat A) + (0 : Int32))).toNatClampNeg]? = some (.int (f (A + 0))) := by rw [clamp_of (show Int32.ofNat A + (0 : Int32) = Int32.ofNat (A + 0) from own_ad A 0) (Nat.lt_trans (show A + 0 < 4 by omega) (by decide))]; exact H1 _ (show A + 0 < 4 by omega)
    obtain ⟨cl2, Ar2, S2, H2⟩ := id BB
    have hin2 : ¬ (((Int32.ofNat B) + (0 : Int32)) < 0 ∨ cl2.slots.size ≤ (((Int32.ofNat B) + (0 : Int32))).toNatClampNeg) := by rw [S2]; exact within (show Int32.ofNat B + (0 : Int32) = Int32.ofNat (B + 0) from own_ad B 0) (show B + 0 < 4 by omega) (by decide)
    have hat2 : cl2.slots[(((Int32.ofNat B) + (0 : Int32))).toNatClampNeg]? = some (.int (g (B + 0))) := by rw [clamp_of (show Int32.ofNat B + (0 : Int32) = Int32.ofNat (B + 0) from own_ad B 0) (Nat.lt_trans (show B + 0 < 4 by omega) (by decide))]; exact H2 _ (show B + 0 < 4 by omega)
    by_cases hc19 : (f (A + 0)) = (g (B + 0))
    · obtain ⟨fs, hr, hrun, hended, hW, hsame⟩ := X0.leave (v := some (.int (1 : Int32))) (fun h => by rw [Bd.returns] at h; cases h)
      refine ⟨_, _, pre0 _ ?_, hrun, hended, _, _, rfl, ?_, ⟨_, rfl⟩, hW, hsame.mono (by decide) (by decide)⟩
      · show Steps p.tables e below (s₁.setTop (mkF m 0 #[.val (.ref t1), .val (.int (Int32.ofNat A)), .val (.ref t2), .val (.int (Int32.ofNat B)), .val (.int (Int32.ofNat N)), .val (.int (0 : Int32))] [])) _
        refine XS.iload X0.here hx rfl (hb hby d2_0) rfl ?_
        show Steps p.tables e below (s₁.setTop (mkF m 2 #[.val (.ref t1), .val (.int (Int32.ofNat A)), .val (.ref t2), .val (.int (Int32.ofNat B)), .val (.int (Int32.ofNat N)), .val (.int (0 : Int32))] [(.int (0 : Int32))])) _
        refine XS.iload X0.here hx rfl (hb hby d2_2) rfl ?_
        show Steps p.tables e below (s₁.setTop (mkF m 4 #[.val (.ref t1), .val (.int (Int32.ofNat A)), .val (.ref t2), .val (.int (Int32.ofNat B)), .val (.int (Int32.ofNat N)), .val (.int (0 : Int32))] [(.int (Int32.ofNat N)), (.int (0 : Int32))])) _
        refine XS.icmpNo X0.here hx rfl (hb hby d2_4) rfl (tlt hc4).2.1 ?_
        show Steps p.tables e below (s₁.setTop (mkF m 7 #[.val (.ref t1), .val (.int (Int32.ofNat A)), .val (.ref t2), .val (.int (Int32.ofNat B)), .val (.int (Int32.ofNat N)), .val (.int (0 : Int32))] [])) _
        refine XS.aloadN X0.here hx rfl (hb hby d2_7) rfl rfl ?_
        show Steps p.tables e below (s₁.setTop (mkF m 8 #[.val (.ref t1), .val (.int (Int32.ofNat A)), .val (.ref t2), .val (.int (Int32.ofNat B)), .val (.int (Int32.ofNat N)), .val (.int (0 : Int32))] [(.ref t1)])) _
        refine XS.iloadN X0.here hx rfl (hb hby d2_8) rfl ?_
        show Steps p.tables e below (s₁.setTop (mkF m 9 #[.val (.ref t1), .val (.int (Int32.ofNat A)), .val (.ref t2), .val (.int (Int32.ofNat B)), .val (.int (Int32.ofNat N)), .val (.int (0 : Int32))] [(.int (Int32.ofNat A)), (.ref t1)])) _
        refine XS.iload X0.here hx rfl (hb hby d2_9) rfl ?_
        show Steps p.tables e below (s₁.setTop (mkF m 11 #[.val (.ref t1), .val (.int (Int32.ofNat A)), .val (.ref t2), .val (.int (Int32.ofNat B)), .val (.int (Int32.ofNat N)), .val (.int (0 : Int32))] [(.int (0 : Int32)), (.int (Int32.ofNat A)), (.ref t1)])) _
        refine XS.iadd X0.here hx rfl (hb hby d2_11) rfl ?_
        show Steps p.tables e below (s₁.setTop (mkF m 12 #[.val (.ref t1), .val (.int (Int32.ofNat A)), .val (.ref t2), .val (.int (Int32.ofNat B)), .val (.int (Int32.ofNat N)), .val (.int (0 : Int32))] [(.int ((Int32.ofNat A) + (0 : Int32))), (.ref t1)])) _
        refine X0.baloadBytes hx (j := ((Int32.ofNat A) + (0 : Int32))) (v := (.int (f (A + 0)))) (by rw [e0]; exact Ar1.1) (State.isArrayOf_alike hZ.alike Ar1.2.1) Ar1.2.2 hin1 hat1 (g := (mkF m 12 #[.val (.ref t1), .val (.int (Int32.ofNat A)), .val (.ref t2), .val (.int (Int32.ofNat B)), .val (.int (Int32.ofNat N)), .val (.int (0 : Int32))] [(.int ((Int32.ofNat A) + (0 : Int32))), (.ref t1)])) rfl rfl (hb hby d2_12) _ ?_
        show Steps p.tables e below (s₁.setTop (mkF m 13 #[.val (.ref t1), .val (.int (Int32.ofNat A)), .val (.ref t2), .val (.int (Int32.ofNat B)), .val (.int (Int32.ofNat N)), .val (.int (0 : Int32))] [(.int (f (A + 0)))])) _
        refine XS.aloadN X0.here hx rfl (hb hby d2_13) rfl rfl ?_
        show Steps p.tables e below (s₁.setTop (mkF m 14 #[.val (.ref t1), .val (.int (Int32.ofNat A)), .val (.ref t2), .val (.int (Int32.ofNat B)), .val (.int (Int32.ofNat N)), .val (.int (0 : Int32))] [(.ref t2), (.int (f (A + 0)))])) _
        refine XS.iloadN X0.here hx rfl (hb hby d2_14) rfl ?_
        show Steps p.tables e below (s₁.setTop (mkF m 15 #[.val (.ref t1), .val (.int (Int32.ofNat A)), .val (.ref t2), .val (.int (Int32.ofNat B)), .val (.int (Int32.ofNat N)), .val (.int (0 : Int32))] [(.int (Int32.ofNat B)), (.ref t2), (.int (f (A + 0)))])) _
        refine XS.iload X0.here hx rfl (hb hby d2_15) rfl ?_
        show Steps p.tables e below (s₁.setTop (mkF m 17 #[.val (.ref t1), .val (.int (Int32.ofNat A)), .val (.ref t2), .val (.int (Int32.ofNat B)), .val (.int (Int32.ofNat N)), .val (.int (0 : Int32))] [(.int (0 : Int32)), (.int (Int32.ofNat B)), (.ref t2), (.int (f (A + 0)))])) _
        refine XS.iadd X0.here hx rfl (hb hby d2_17) rfl ?_
        show Steps p.tables e below (s₁.setTop (mkF m 18 #[.val (.ref t1), .val (.int (Int32.ofNat A)), .val (.ref t2), .val (.int (Int32.ofNat B)), .val (.int (Int32.ofNat N)), .val (.int (0 : Int32))] [(.int ((Int32.ofNat B) + (0 : Int32))), (.ref t2), (.int (f (A + 0)))])) _
        refine X0.baloadBytes hx (j := ((Int32.ofNat B) + (0 : Int32))) (v := (.int (g (B + 0)))) (by rw [e0]; exact Ar2.1) (State.isArrayOf_alike hZ.alike Ar2.2.1) Ar2.2.2 hin2 hat2 (g := (mkF m 18 #[.val (.ref t1), .val (.int (Int32.ofNat A)), .val (.ref t2), .val (.int (Int32.ofNat B)), .val (.int (Int32.ofNat N)), .val (.int (0 : Int32))] [(.int ((Int32.ofNat B) + (0 : Int32))), (.ref t2), (.int (f (A + 0)))])) rfl rfl (hb hby d2_18) _ ?_
        show Steps p.tables e below (s₁.setTop (mkF m 19 #[.val (.ref t1), .val (.int (Int32.ofNat A)), .val (.ref t2), .val (.int (Int32.ofNat B)), .val (.int (Int32.ofNat N)), .val (.int (0 : Int32))] [(.int (g (B + 0))), (.int (f (A + 0)))])) _
        refine XS.icmpNo X0.here hx rfl (hb hby d2_19) rfl (teq hc19).2 ?_
        show Steps p.tables e below (s₁.setTop (mkF m 22 #[.val (.ref t1), .val (.int (Int32.ofNat A)), .val (.ref t2), .val (.int (Int32.ofNat B)), .val (.int (Int32.ofNat N)), .val (.int (0 : Int32))] [])) _
        refine XS.iconst X0.here hx rfl (hb hby d2_22) ?_
        show Steps p.tables e below (s₁.setTop (mkF m 23 #[.val (.ref t1), .val (.int (Int32.ofNat A)), .val (.ref t2), .val (.int (Int32.ofNat B)), .val (.int (Int32.ofNat N)), .val (.int (0 : Int32))] [(.int (1 : Int32))])) _
        refine XS.goto X0.here hx rfl (pc0 := 23) (pc' := 27) rfl (hb hby d2_23) (by decide) (by decide) ?_
        show Steps p.tables e below (s₁.setTop (mkF m 27 #[.val (.ref t1), .val (.int (Int32.ofNat A)), .val (.ref t2), .val (.int (Int32.ofNat B)), .val (.int (Int32.ofNat N)), .val (.int (0 : Int32))] [(.int (1 : Int32))])) _
        exact retN X0 hx (t := .boolean) Bd.returns (by simp) (hb hby d2_27) hr
      · show Q2_0 Z t1 t2 A B N f g h0 n0 _ s₁.heap _
        rw [e0]
        exact ⟨_, rfl, N0, rfl, Or.inl ⟨rfl, fun _ => hc19⟩⟩
    · obtain ⟨fs, hr, hrun, hended, hW, hsame⟩ := X0.leave (v := some (.int (0 : Int32))) (fun h => by rw [Bd.returns] at h; cases h)
      refine ⟨_, _, pre0 _ ?_, hrun, hended, _, _, rfl, ?_, ⟨_, rfl⟩, hW, hsame.mono (by decide) (by decide)⟩
      · show Steps p.tables e below (s₁.setTop (mkF m 0 #[.val (.ref t1), .val (.int (Int32.ofNat A)), .val (.ref t2), .val (.int (Int32.ofNat B)), .val (.int (Int32.ofNat N)), .val (.int (0 : Int32))] [])) _
        refine XS.iload X0.here hx rfl (hb hby d2_0) rfl ?_
        show Steps p.tables e below (s₁.setTop (mkF m 2 #[.val (.ref t1), .val (.int (Int32.ofNat A)), .val (.ref t2), .val (.int (Int32.ofNat B)), .val (.int (Int32.ofNat N)), .val (.int (0 : Int32))] [(.int (0 : Int32))])) _
        refine XS.iload X0.here hx rfl (hb hby d2_2) rfl ?_
        show Steps p.tables e below (s₁.setTop (mkF m 4 #[.val (.ref t1), .val (.int (Int32.ofNat A)), .val (.ref t2), .val (.int (Int32.ofNat B)), .val (.int (Int32.ofNat N)), .val (.int (0 : Int32))] [(.int (Int32.ofNat N)), (.int (0 : Int32))])) _
        refine XS.icmpNo X0.here hx rfl (hb hby d2_4) rfl (tlt hc4).2.1 ?_
        show Steps p.tables e below (s₁.setTop (mkF m 7 #[.val (.ref t1), .val (.int (Int32.ofNat A)), .val (.ref t2), .val (.int (Int32.ofNat B)), .val (.int (Int32.ofNat N)), .val (.int (0 : Int32))] [])) _
        refine XS.aloadN X0.here hx rfl (hb hby d2_7) rfl rfl ?_
        show Steps p.tables e below (s₁.setTop (mkF m 8 #[.val (.ref t1), .val (.int (Int32.ofNat A)), .val (.ref t2), .val (.int (Int32.ofNat B)), .val (.int (Int32.ofNat N)), .val (.int (0 : Int32))] [(.ref t1)])) _
        refine XS.iloadN X0.here hx rfl (hb hby d2_8) rfl ?_
        show Steps p.tables e below (s₁.setTop (mkF m 9 #[.val (.ref t1), .val (.int (Int32.ofNat A)), .val (.ref t2), .val (.int (Int32.ofNat B)), .val (.int (Int32.ofNat N)), .val (.int (0 : Int32))] [(.int (Int32.ofNat A)), (.ref t1)])) _
        refine XS.iload X0.here hx rfl (hb hby d2_9) rfl ?_
        show Steps p.tables e below (s₁.setTop (mkF m 11 #[.val (.ref t1), .val (.int (Int32.ofNat A)), .val (.ref t2), .val (.int (Int32.ofNat B)), .val (.int (Int32.ofNat N)), .val (.int (0 : Int32))] [(.int (0 : Int32)), (.int (Int32.ofNat A)), (.ref t1)])) _
        refine XS.iadd X0.here hx rfl (hb hby d2_11) rfl ?_
        show Steps p.tables e below (s₁.setTop (mkF m 12 #[.val (.ref t1), .val (.int (Int32.ofNat A)), .val (.ref t2), .val (.int (Int32.ofNat B)), .val (.int (Int32.ofNat N)), .val (.int (0 : Int32))] [(.int ((Int32.ofNat A) + (0 : Int32))), (.ref t1)])) _
        refine X0.baloadBytes hx (j := ((Int32.ofNat A) + (0 : Int32))) (v := (.int (f (A + 0)))) (by rw [e0]; exact Ar1.1) (State.isArrayOf_alike hZ.alike Ar1.2.1) Ar1.2.2 hin1 hat1 (g := (mkF m 12 #[.val (.ref t1), .val (.int (Int32.ofNat A)), .val (.ref t2), .val (.int (Int32.ofNat B)), .val (.int (Int32.ofNat N)), .val (.int (0 : Int32))] [(.int ((Int32.ofNat A) + (0 : Int32))), (.ref t1)])) rfl rfl (hb hby d2_12) _ ?_
        show Steps p.tables e below (s₁.setTop (mkF m 13 #[.val (.ref t1), .val (.int (Int32.ofNat A)), .val (.ref t2), .val (.int (Int32.ofNat B)), .val (.int (Int32.ofNat N)), .val (.int (0 : Int32))] [(.int (f (A + 0)))])) _
        refine XS.aloadN X0.here hx rfl (hb hby d2_13) rfl rfl ?_
        show Steps p.tables e below (s₁.setTop (mkF m 14 #[.val (.ref t1), .val (.int (Int32.ofNat A)), .val (.ref t2), .val (.int (Int32.ofNat B)), .val (.int (Int32.ofNat N)), .val (.int (0 : Int32))] [(.ref t2), (.int (f (A + 0)))])) _
        refine XS.iloadN X0.here hx rfl (hb hby d2_14) rfl ?_
        show Steps p.tables e below (s₁.setTop (mkF m 15 #[.val (.ref t1), .val (.int (Int32.ofNat A)), .val (.ref t2), .val (.int (Int32.ofNat B)), .val (.int (Int32.ofNat N)), .val (.int (0 : Int32))] [(.int (Int32.ofNat B)), (.ref t2), (.int (f (A + 0)))])) _
        refine XS.iload X0.here hx rfl (hb hby d2_15) rfl ?_
        show Steps p.tables e below (s₁.setTop (mkF m 17 #[.val (.ref t1), .val (.int (Int32.ofNat A)), .val (.ref t2), .val (.int (Int32.ofNat B)), .val (.int (Int32.ofNat N)), .val (.int (0 : Int32))] [(.int (0 : Int32)), (.int (Int32.ofNat B)), (.ref t2), (.int (f (A + 0)))])) _
        refine XS.iadd X0.here hx rfl (hb hby d2_17) rfl ?_
        show Steps p.tables e below (s₁.setTop (mkF m 18 #[.val (.ref t1), .val (.int (Int32.ofNat A)), .val (.ref t2), .val (.int (Int32.ofNat B)), .val (.int (Int32.ofNat N)), .val (.int (0 : Int32))] [(.int ((Int32.ofNat B) + (0 : Int32))), (.ref t2), (.int (f (A + 0)))])) _
        refine X0.baloadBytes hx (j := ((Int32.ofNat B) + (0 : Int32))) (v := (.int (g (B + 0)))) (by rw [e0]; exact Ar2.1) (State.isArrayOf_alike hZ.alike Ar2.2.1) Ar2.2.2 hin2 hat2 (g := (mkF m 18 #[.val (.ref t1), .val (.int (Int32.ofNat A)), .val (.ref t2), .val (.int (Int32.ofNat B)), .val (.int (Int32.ofNat N)), .val (.int (0 : Int32))] [(.int ((Int32.ofNat B) + (0 : Int32))), (.ref t2), (.int (f (A + 0)))])) rfl rfl (hb hby d2_18) _ ?_
        show Steps p.tables e below (s₁.setTop (mkF m 19 #[.val (.ref t1), .val (.int (Int32.ofNat A)), .val (.ref t2), .val (.int (Int32.ofNat B)), .val (.int (Int32.ofNat N)), .val (.int (0 : Int32))] [(.int (g (B + 0))), (.int (f (A + 0)))])) _
        refine XS.icmpYes X0.here hx rfl (pc0 := 19) (pc' := 26) rfl (hb hby d2_19) rfl (feq hc19).2 (by decide) (by decide) ?_
        show Steps p.tables e below (s₁.setTop (mkF m 26 #[.val (.ref t1), .val (.int (Int32.ofNat A)), .val (.ref t2), .val (.int (Int32.ofNat B)), .val (.int (Int32.ofNat N)), .val (.int (0 : Int32))] [])) _
        refine XS.iconst X0.here hx rfl (hb hby d2_26) ?_
        show Steps p.tables e below (s₁.setTop (mkF m 27 #[.val (.ref t1), .val (.int (Int32.ofNat A)), .val (.ref t2), .val (.int (Int32.ofNat B)), .val (.int (Int32.ofNat N)), .val (.int (0 : Int32))] [(.int (0 : Int32))])) _
        exact retN X0 hx (t := .boolean) Bd.returns (by simp) (hb hby d2_27) hr
      · show Q2_0 Z t1 t2 A B N f g h0 n0 _ s₁.heap _
        rw [e0]
        exact ⟨_, rfl, N0, rfl, Or.inr ⟨rfl, hiN, hc19⟩⟩
  · obtain ⟨fs, hr, hrun, hended, hW, hsame⟩ := X0.leave (v := some (.int (1 : Int32))) (fun h => by rw [Bd.returns] at h; cases h)
    refine ⟨_, _, pre0 _ ?_, hrun, hended, _, _, rfl, ?_, ⟨_, rfl⟩, hW, hsame.mono (by decide) (by decide)⟩
    · show Steps p.tables e below (s₁.setTop (mkF m 0 #[.val (.ref t1), .val (.int (Int32.ofNat A)), .val (.ref t2), .val (.int (Int32.ofNat B)), .val (.int (Int32.ofNat N)), .val (.int (0 : Int32))] [])) _
      refine XS.iload X0.here hx rfl (hb hby d2_0) rfl ?_
      show Steps p.tables e below (s₁.setTop (mkF m 2 #[.val (.ref t1), .val (.int (Int32.ofNat A)), .val (.ref t2), .val (.int (Int32.ofNat B)), .val (.int (Int32.ofNat N)), .val (.int (0 : Int32))] [(.int (0 : Int32))])) _
      refine XS.iload X0.here hx rfl (hb hby d2_2) rfl ?_
      show Steps p.tables e below (s₁.setTop (mkF m 4 #[.val (.ref t1), .val (.int (Int32.ofNat A)), .val (.ref t2), .val (.int (Int32.ofNat B)), .val (.int (Int32.ofNat N)), .val (.int (0 : Int32))] [(.int (Int32.ofNat N)), (.int (0 : Int32))])) _
      refine XS.icmpYes X0.here hx rfl (pc0 := 4) (pc' := 22) rfl (hb hby d2_4) rfl (flt hc4).2.1 (by decide) (by decide) ?_
      show Steps p.tables e below (s₁.setTop (mkF m 22 #[.val (.ref t1), .val (.int (Int32.ofNat A)), .val (.ref t2), .val (.int (Int32.ofNat B)), .val (.int (Int32.ofNat N)), .val (.int (0 : Int32))] [])) _
      refine XS.iconst X0.here hx rfl (hb hby d2_22) ?_
      show Steps p.tables e below (s₁.setTop (mkF m 23 #[.val (.ref t1), .val (.int (Int32.ofNat A)), .val (.ref t2), .val (.int (Int32.ofNat B)), .val (.int (Int32.ofNat N)), .val (.int (0 : Int32))] [(.int (1 : Int32))])) _
      refine XS.goto X0.here hx rfl (pc0 := 23) (pc' := 27) rfl (hb hby d2_23) (by decide) (by decide) ?_
      show Steps p.tables e below (s₁.setTop (mkF m 27 #[.val (.ref t1), .val (.int (Int32.ofNat A)), .val (.ref t2), .val (.int (Int32.ofNat B)), .val (.int (Int32.ofNat N)), .val (.int (0 : Int32))] [(.int (1 : Int32))])) _
      exact retN X0 hx (t := .boolean) Bd.returns (by simp) (hb hby d2_27) hr
    · show Q2_0 Z t1 t2 A B N f g h0 n0 _ s₁.heap _
      rw [e0]
      exact ⟨_, rfl, N0, rfl, Or.inl ⟨rfl, fun q => absurd ((own_ltN (i := 0) (by omega) (by omega)).mpr q) hc4⟩⟩
theorem ef_2_1 (m : MethodId) (x0 : Addr) (x1 : Int32) (x2 : Addr) (x3 : Int32) (x4 : Int32) (x5 : Int32) : entryFrame m #[(.ref x0), (.int x1), (.ref x2), (.int x3), (.int x4), (.int x5)] 6 = mkF m 0 #[.val (.ref x0), .val (.int x1), .val (.ref x2), .val (.int x3), .val (.int x4), .val (.int x5)] [] := by first | (simp [entryFrame, mkF, argsToLocals, Value.category]; done) | rfl
def Q2_1 (Z : State) (t1 : Addr) (t2 : Addr) (A : Nat) (B : Nat) (N : Nat) (f : Nat → Int32) (g : Nat → Int32) (h0 : Heap) (n0 : Nat) (v : Option Value) (h : Heap) (L : List Loc) : Prop := ∃ z : Int32, v = some (.int z) ∧ Fr n0 L ∧ h = h0 ∧ ((z = 1 ∧ (1 < N → f (A + 1) = g (B + 1))) ∨ (z = 0 ∧ (1 < N ∧ ¬ f (A + 1) = g (B + 1))))
set_option maxRecDepth 65536 in
set_option maxHeartbeats 40000000 in
theorem rm2_1 (l : Launch) (Z : State) (a0 : Array Value) (hw : ∀ d ∈ tables_1, d.before a0 Z = true) (ws : List Jvm.Cond) (t1 : Addr) (t2 : Addr) (A : Nat) (B : Nat) (N : Nat) (f : Nat → Int32) (g : Nat → Int32) (h0 : Heap) (n0 : Nat) (Z0 : n0 ≤ h0.size) (BA : own_Byt Z h0 t1 f) (BB : own_Byt Z h0 t2 g) (hAN : A + N ≤ 4) (hBN : B + N ≤ 4) :
    MetFree l (⟨"com/example/trailsmith/trailsmith/check/BytesEqualPinLaw", "at", "([BI[BIII)Z"⟩ : MethodName) (head1 (Jvm.Cond.code (⟨"com/example/trailsmith/trailsmith/check/BytesEqualPinLaw", "at", "([BI[BIII)Z"⟩ : MethodName) method_2_code 6 (some .boolean) :: ws) ({ frames := 0, cells := 0, slots := 0, locals := 0 } : Room)) (fun a U => a = #[(.ref t1), (.int (Int32.ofNat A)), (.ref t2), (.int (Int32.ofNat B)), (.int (Int32.ofNat N)), (.int (1 : Int32))] ∧ Z.Warmed39 U.vm ∧ U.heap = h0) (fun _ _ _ _ _ => True) (fun _ U o U' => ∃ v L, o = .returned v ∧ Q2_1 Z t1 t2 A B N f g h0 n0 v U'.heap L ∧ FrameEnd U o U' L ({ frames := 0, cells := 0, slots := 0, locals := 0 } : Room).cells ({ frames := 0, cells := 0, slots := 0, locals := 0 } : Room).slots) := by
  refine MetFree.of_bodySF (plainFor_of_name pn_1) hisR ?_
  intro p e s m args below meth c s₁ Bd hml0 hP hK
  obtain ⟨rfl, hZ, hh⟩ := hP
  have hx := Bd.exec
  have hby := Bd.bytes
  have hml : c.maxLocals = 6 := hml0
  have hown : s.vm.findClass "com/example/trailsmith/trailsmith/check/BytesEqualPinLaw" = some m.cls := findClass_of_methodNamed Bd.named
  have hnm := (name_of_methodNamed Bd.named Bd.method).1
  have X0 : Stand p l e ({ frames := 0, cells := 0, slots := 0, locals := 0 } : Room) s m #[(.ref t1), (.int (Int32.ofNat A)), (.ref t2), (.int (Int32.ofNat B)), (.int (Int32.ofNat N)), (.int (1 : Int32))] below meth c s₁ [] 0 0 := Stand.of_body Bd
  have e0 : s₁.heap = h0 := by rw [← hh, Bd.state]; rfl
  have N0 := Fr.nil n0
  have pre0 : ∀ t, Steps p.tables e below (s₁.setTop (mkF m 0 #[.val (.ref t1), .val (.int (Int32.ofNat A)), .val (.ref t2), .val (.int (Int32.ofNat B)), .val (.int (Int32.ofNat N)), .val (.int (1 : Int32))] [])) t → Steps p.tables e below (s₁.setTop (entryFrame m #[(.ref t1), (.int (Int32.ofNat A)), (.ref t2), (.int (Int32.ofNat B)), (.int (Int32.ofNat N)), (.int (1 : Int32))] 6)) t := fun t k => castTop (ef_2_1 m t1 (Int32.ofNat A) t2 (Int32.ofNat B) (Int32.ofNat N) (1 : Int32)) k
  by_cases hc4 : (1 : Int32) < (Int32.ofNat N)
  · have hiN : 1 < N := (own_ltN (i := 1) (by omega) (by omega)).mp hc4
    obtain ⟨cl1, Ar1, S1, H1⟩ := id BA
    have hin1 : ¬ (((Int32.ofNat A) + (1 : Int32)) < 0 ∨ cl1.slots.size ≤ (((Int32.ofNat A) + (1 : Int32))).toNatClampNeg) := by rw [S1]; exact within (show Int32.ofNat A + (1 : Int32) = Int32.ofNat (A + 1) from own_ad A 1) (show A + 1 < 4 by omega) (by decide)
    have hat1 : cl1.slots[(((Int32.ofNat A) + (1 : Int32))).toNatClampNeg]? = some (.int (f (A + 1))) := by rw [clamp_of (show Int32.ofNat A + (1 : Int32) = Int32.ofNat (A + 1) from own_ad A 1) (Nat.lt_trans (show A + 1 < 4 by omega) (by decide))]; exact H1 _ (show A + 1 < 4 by omega)
    obtain ⟨cl2, Ar2, S2, H2⟩ := id BB
    have hin2 : ¬ (((Int32.ofNat B) + (1 : Int32)) < 0 ∨ cl2.slots.size ≤ (((Int32.ofNat B) + (1 : Int32))).toNatClampNeg) := by rw [S2]; exact within (show Int32.ofNat B + (1 : Int32) = Int32.ofNat (B + 1) from own_ad B 1) (show B + 1 < 4 by omega) (by decide)
    have hat2 : cl2.slots[(((Int32.ofNat B) + (1 : Int32))).toNatClampNeg]? = some (.int (g (B + 1))) := by rw [clamp_of (show Int32.ofNat B + (1 : Int32) = Int32.ofNat (B + 1) from own_ad B 1) (Nat.lt_trans (show B + 1 < 4 by omega) (by decide))]; exact H2 _ (show B + 1 < 4 by omega)
    by_cases hc19 : (f (A + 1)) = (g (B + 1))
    · obtain ⟨fs, hr, hrun, hended, hW, hsame⟩ := X0.leave (v := some (.int (1 : Int32))) (fun h => by rw [Bd.returns] at h; cases h)
      refine ⟨_, _, pre0 _ ?_, hrun, hended, _, _, rfl, ?_, ⟨_, rfl⟩, hW, hsame.mono (by decide) (by decide)⟩
      · show Steps p.tables e below (s₁.setTop (mkF m 0 #[.val (.ref t1), .val (.int (Int32.ofNat A)), .val (.ref t2), .val (.int (Int32.ofNat B)), .val (.int (Int32.ofNat N)), .val (.int (1 : Int32))] [])) _
        refine XS.iload X0.here hx rfl (hb hby d2_0) rfl ?_
        show Steps p.tables e below (s₁.setTop (mkF m 2 #[.val (.ref t1), .val (.int (Int32.ofNat A)), .val (.ref t2), .val (.int (Int32.ofNat B)), .val (.int (Int32.ofNat N)), .val (.int (1 : Int32))] [(.int (1 : Int32))])) _
        refine XS.iload X0.here hx rfl (hb hby d2_2) rfl ?_
        show Steps p.tables e below (s₁.setTop (mkF m 4 #[.val (.ref t1), .val (.int (Int32.ofNat A)), .val (.ref t2), .val (.int (Int32.ofNat B)), .val (.int (Int32.ofNat N)), .val (.int (1 : Int32))] [(.int (Int32.ofNat N)), (.int (1 : Int32))])) _
        refine XS.icmpNo X0.here hx rfl (hb hby d2_4) rfl (tlt hc4).2.1 ?_
        show Steps p.tables e below (s₁.setTop (mkF m 7 #[.val (.ref t1), .val (.int (Int32.ofNat A)), .val (.ref t2), .val (.int (Int32.ofNat B)), .val (.int (Int32.ofNat N)), .val (.int (1 : Int32))] [])) _
        refine XS.aloadN X0.here hx rfl (hb hby d2_7) rfl rfl ?_
        show Steps p.tables e below (s₁.setTop (mkF m 8 #[.val (.ref t1), .val (.int (Int32.ofNat A)), .val (.ref t2), .val (.int (Int32.ofNat B)), .val (.int (Int32.ofNat N)), .val (.int (1 : Int32))] [(.ref t1)])) _
        refine XS.iloadN X0.here hx rfl (hb hby d2_8) rfl ?_
        show Steps p.tables e below (s₁.setTop (mkF m 9 #[.val (.ref t1), .val (.int (Int32.ofNat A)), .val (.ref t2), .val (.int (Int32.ofNat B)), .val (.int (Int32.ofNat N)), .val (.int (1 : Int32))] [(.int (Int32.ofNat A)), (.ref t1)])) _
        refine XS.iload X0.here hx rfl (hb hby d2_9) rfl ?_
        show Steps p.tables e below (s₁.setTop (mkF m 11 #[.val (.ref t1), .val (.int (Int32.ofNat A)), .val (.ref t2), .val (.int (Int32.ofNat B)), .val (.int (Int32.ofNat N)), .val (.int (1 : Int32))] [(.int (1 : Int32)), (.int (Int32.ofNat A)), (.ref t1)])) _
        refine XS.iadd X0.here hx rfl (hb hby d2_11) rfl ?_
        show Steps p.tables e below (s₁.setTop (mkF m 12 #[.val (.ref t1), .val (.int (Int32.ofNat A)), .val (.ref t2), .val (.int (Int32.ofNat B)), .val (.int (Int32.ofNat N)), .val (.int (1 : Int32))] [(.int ((Int32.ofNat A) + (1 : Int32))), (.ref t1)])) _
        refine X0.baloadBytes hx (j := ((Int32.ofNat A) + (1 : Int32))) (v := (.int (f (A + 1)))) (by rw [e0]; exact Ar1.1) (State.isArrayOf_alike hZ.alike Ar1.2.1) Ar1.2.2 hin1 hat1 (g := (mkF m 12 #[.val (.ref t1), .val (.int (Int32.ofNat A)), .val (.ref t2), .val (.int (Int32.ofNat B)), .val (.int (Int32.ofNat N)), .val (.int (1 : Int32))] [(.int ((Int32.ofNat A) + (1 : Int32))), (.ref t1)])) rfl rfl (hb hby d2_12) _ ?_
        show Steps p.tables e below (s₁.setTop (mkF m 13 #[.val (.ref t1), .val (.int (Int32.ofNat A)), .val (.ref t2), .val (.int (Int32.ofNat B)), .val (.int (Int32.ofNat N)), .val (.int (1 : Int32))] [(.int (f (A + 1)))])) _
        refine XS.aloadN X0.here hx rfl (hb hby d2_13) rfl rfl ?_
        show Steps p.tables e below (s₁.setTop (mkF m 14 #[.val (.ref t1), .val (.int (Int32.ofNat A)), .val (.ref t2), .val (.int (Int32.ofNat B)), .val (.int (Int32.ofNat N)), .val (.int (1 : Int32))] [(.ref t2), (.int (f (A + 1)))])) _
        refine XS.iloadN X0.here hx rfl (hb hby d2_14) rfl ?_
        show Steps p.tables e below (s₁.setTop (mkF m 15 #[.val (.ref t1), .val (.int (Int32.ofNat A)), .val (.ref t2), .val (.int (Int32.ofNat B)), .val (.int (Int32.ofNat N)), .val (.int (1 : Int32))] [(.int (Int32.ofNat B)), (.ref t2), (.int (f (A + 1)))])) _
        refine XS.iload X0.here hx rfl (hb hby d2_15) rfl ?_
        show Steps p.tables e below (s₁.setTop (mkF m 17 #[.val (.ref t1), .val (.int (Int32.ofNat A)), .val (.ref t2), .val (.int (Int32.ofNat B)), .val (.int (Int32.ofNat N)), .val (.int (1 : Int32))] [(.int (1 : Int32)), (.int (Int32.ofNat B)), (.ref t2), (.int (f (A + 1)))])) _
        refine XS.iadd X0.here hx rfl (hb hby d2_17) rfl ?_
        show Steps p.tables e below (s₁.setTop (mkF m 18 #[.val (.ref t1), .val (.int (Int32.ofNat A)), .val (.ref t2), .val (.int (Int32.ofNat B)), .val (.int (Int32.ofNat N)), .val (.int (1 : Int32))] [(.int ((Int32.ofNat B) + (1 : Int32))), (.ref t2), (.int (f (A + 1)))])) _
        refine X0.baloadBytes hx (j := ((Int32.ofNat B) + (1 : Int32))) (v := (.int (g (B + 1)))) (by rw [e0]; exact Ar2.1) (State.isArrayOf_alike hZ.alike Ar2.2.1) Ar2.2.2 hin2 hat2 (g := (mkF m 18 #[.val (.ref t1), .val (.int (Int32.ofNat A)), .val (.ref t2), .val (.int (Int32.ofNat B)), .val (.int (Int32.ofNat N)), .val (.int (1 : Int32))] [(.int ((Int32.ofNat B) + (1 : Int32))), (.ref t2), (.int (f (A + 1)))])) rfl rfl (hb hby d2_18) _ ?_
        show Steps p.tables e below (s₁.setTop (mkF m 19 #[.val (.ref t1), .val (.int (Int32.ofNat A)), .val (.ref t2), .val (.int (Int32.ofNat B)), .val (.int (Int32.ofNat N)), .val (.int (1 : Int32))] [(.int (g (B + 1))), (.int (f (A + 1)))])) _
        refine XS.icmpNo X0.here hx rfl (hb hby d2_19) rfl (teq hc19).2 ?_
        show Steps p.tables e below (s₁.setTop (mkF m 22 #[.val (.ref t1), .val (.int (Int32.ofNat A)), .val (.ref t2), .val (.int (Int32.ofNat B)), .val (.int (Int32.ofNat N)), .val (.int (1 : Int32))] [])) _
        refine XS.iconst X0.here hx rfl (hb hby d2_22) ?_
        show Steps p.tables e below (s₁.setTop (mkF m 23 #[.val (.ref t1), .val (.int (Int32.ofNat A)), .val (.ref t2), .val (.int (Int32.ofNat B)), .val (.int (Int32.ofNat N)), .val (.int (1 : Int32))] [(.int (1 : Int32))])) _
        refine XS.goto X0.here hx rfl (pc0 := 23) (pc' := 27) rfl (hb hby d2_23) (by decide) (by decide) ?_
        show Steps p.tables e below (s₁.setTop (mkF m 27 #[.val (.ref t1), .val (.int (Int32.ofNat A)), .val (.ref t2), .val (.int (Int32.ofNat B)), .val (.int (Int32.ofNat N)), .val (.int (1 : Int32))] [(.int (1 : Int32))])) _
        exact retN X0 hx (t := .boolean) Bd.returns (by simp) (hb hby d2_27) hr
      · show Q2_1 Z t1 t2 A B N f g h0 n0 _ s₁.heap _
        rw [e0]
        exact ⟨_, rfl, N0, rfl, Or.inl ⟨rfl, fun _ => hc19⟩⟩
    · obtain ⟨fs, hr, hrun, hended, hW, hsame⟩ := X0.leave (v := some (.int (0 : Int32))) (fun h => by rw [Bd.returns] at h; cases h)
      refine ⟨_, _, pre0 _ ?_, hrun, hended, _, _, rfl, ?_, ⟨_, rfl⟩, hW, hsame.mono (by decide) (by decide)⟩
      · show Steps p.tables e below (s₁.setTop (mkF m 0 #[.val (.ref t1), .val (.int (Int32.ofNat A)), .val (.ref t2), .val (.int (Int32.ofNat B)), .val (.int (Int32.ofNat N)), .val (.int (1 : Int32))] [])) _
        refine XS.iload X0.here hx rfl (hb hby d2_0) rfl ?_
        show Steps p.tables e below (s₁.setTop (mkF m 2 #[.val (.ref t1), .val (.int (Int32.ofNat A)), .val (.ref t2), .val (.int (Int32.ofNat B)), .val (.int (Int32.ofNat N)), .val (.int (1 : Int32))] [(.int (1 : Int32))])) _
        refine XS.iload X0.here hx rfl (hb hby d2_2) rfl ?_
        show Steps p.tables e below (s₁.setTop (mkF m 4 #[.val (.ref t1), .val (.int (Int32.ofNat A)), .val (.ref t2), .val (.int (Int32.ofNat B)), .val (.int (Int32.ofNat N)), .val (.int (1 : Int32))] [(.int (Int32.ofNat N)), (.int (1 : Int32))])) _
        refine XS.icmpNo X0.here hx rfl (hb hby d2_4) rfl (tlt hc4).2.1 ?_
        show Steps p.tables e below (s₁.setTop (mkF m 7 #[.val (.ref t1), .val (.int (Int32.ofNat A)), .val (.ref t2), .val (.int (Int32.ofNat B)), .val (.int (Int32.ofNat N)), .val (.int (1 : Int32))] [])) _
        refine XS.aloadN X0.here hx rfl (hb hby d2_7) rfl rfl ?_
        show Steps p.tables e below (s₁.setTop (mkF m 8 #[.val (.ref t1), .val (.int (Int32.ofNat A)), .val (.ref t2), .val (.int (Int32.ofNat B)), .val (.int (Int32.ofNat N)), .val (.int (1 : Int32))] [(.ref t1)])) _
        refine XS.iloadN X0.here hx rfl (hb hby d2_8) rfl ?_
        show Steps p.tables e below (s₁.setTop (mkF m 9 #[.val (.ref t1), .val (.int (Int32.ofNat A)), .val (.ref t2), .val (.int (Int32.ofNat B)), .val (.int (Int32.ofNat N)), .val (.int (1 : Int32))] [(.int (Int32.ofNat A)), (.ref t1)])) _
        refine XS.iload X0.here hx rfl (hb hby d2_9) rfl ?_
        show Steps p.tables e below (s₁.setTop (mkF m 11 #[.val (.ref t1), .val (.int (Int32.ofNat A)), .val (.ref t2), .val (.int (Int32.ofNat B)), .val (.int (Int32.ofNat N)), .val (.int (1 : Int32))] [(.int (1 : Int32)), (.int (Int32.ofNat A)), (.ref t1)])) _
        refine XS.iadd X0.here hx rfl (hb hby d2_11) rfl ?_
        show Steps p.tables e below (s₁.setTop (mkF m 12 #[.val (.ref t1), .val (.int (Int32.ofNat A)), .val (.ref t2), .val (.int (Int32.ofNat B)), .val (.int (Int32.ofNat N)), .val (.int (1 : Int32))] [(.int ((Int32.ofNat A) + (1 : Int32))), (.ref t1)])) _
        refine X0.baloadBytes hx (j := ((Int32.ofNat A) + (1 : Int32))) (v := (.int (f (A + 1)))) (by rw [e0]; exact Ar1.1) (State.isArrayOf_alike hZ.alike Ar1.2.1) Ar1.2.2 hin1 hat1 (g := (mkF m 12 #[.val (.ref t1), .val (.int (Int32.ofNat A)), .val (.ref t2), .val (.int (Int32.ofNat B)), .val (.int (Int32.ofNat N)), .val (.int (1 : Int32))] [(.int ((Int32.ofNat A) + (1 : Int32))), (.ref t1)])) rfl rfl (hb hby d2_12) _ ?_
        show Steps p.tables e below (s₁.setTop (mkF m 13 #[.val (.ref t1), .val (.int (Int32.ofNat A)), .val (.ref t2), .val (.int (Int32.ofNat B)), .val (.int (Int32.ofNat N)), .val (.int (1 : Int32))] [(.int (f (A + 1)))])) _
        refine XS.aloadN X0.here hx rfl (hb hby d2_13) rfl rfl ?_
        show Steps p.tables e below (s₁.setTop (mkF m 14 #[.val (.ref t1), .val (.int (Int32.ofNat A)), .val (.ref t2), .val (.int (Int32.ofNat B)), .val (.int (Int32.ofNat N)), .val (.int (1 : Int32))] [(.ref t2), (.int (f (A + 1)))])) _
        refine XS.iloadN X0.here hx rfl (hb hby d2_14) rfl ?_
        show Steps p.tables e below (s₁.setTop (mkF m 15 #[.val (.ref t1), .val (.int (Int32.ofNat A)), .val (.ref t2), .val (.int (Int32.ofNat B)), .val (.int (Int32.ofNat N)), .val (.int (1 : Int32))] [(.int (Int32.ofNat B)), (.ref t2), (.int (f (A + 1)))])) _
        refine XS.iload X0.here hx rfl (hb hby d2_15) rfl ?_
        show Steps p.tables e below (s₁.setTop (mkF m 17 #[.val (.ref t1), .val (.int (Int32.ofNat A)), .val (.ref t2), .val (.int (Int32.ofNat B)), .val (.int (Int32.ofNat N)), .val (.int (1 : Int32))] [(.int (1 : Int32)), (.int (Int32.ofNat B)), (.ref t2), (.int (f (A + 1)))])) _
        refine XS.iadd X0.here hx rfl (hb hby d2_17) rfl ?_
        show Steps p.tables e below (s₁.setTop (mkF m 18 #[.val (.ref t1), .val (.int (Int32.ofNat A)), .val (.ref t2), .val (.int (Int32.ofNat B)), .val (.int (Int32.ofNat N)), .val (.int (1 : Int32))] [(.int ((Int32.ofNat B) + (1 : Int32))), (.ref t2), (.int (f (A + 1)))])) _
        refine X0.baloadBytes hx (j := ((Int32.ofNat B) + (1 : Int32))) (v := (.int (g (B + 1)))) (by rw [e0]; exact Ar2.1) (State.isArrayOf_alike hZ.alike Ar2.2.1) Ar2.2.2 hin2 hat2 (g := (mkF m 18 #[.val (.ref t1), .val (.int (Int32.ofNat A)), .val (.ref t2), .val (.int (Int32.ofNat B)), .val (.int (Int32.ofNat N)), .val (.int (1 : Int32))] [(.int ((Int32.ofNat B) + (1 : Int32))), (.ref t2), (.int (f (A + 1)))])) rfl rfl (hb hby d2_18) _ ?_
        show Steps p.tables e below (s₁.setTop (mkF m 19 #[.val (.ref t1), .val (.int (Int32.ofNat A)), .val (.ref t2), .val (.int (Int32.ofNat B)), .val (.int (Int32.ofNat N)), .val (.int (1 : Int32))] [(.int (g (B + 1))), (.int (f (A + 1)))])) _
        refine XS.icmpYes X0.here hx rfl (pc0 := 19) (pc' := 26) rfl (hb hby d2_19) rfl (feq hc19).2 (by decide) (by decide) ?_
        show Steps p.tables e below (s₁.setTop (mkF m 26 #[.val (.ref t1), .val (.int (Int32.ofNat A)), .val (.ref t2), .val (.int (Int32.ofNat B)), .val (.int (Int32.ofNat N)), .val (.int (1 : Int32))] [])) _
        refine XS.iconst X0.here hx rfl (hb hby d2_26) ?_
        show Steps p.tables e below (s₁.setTop (mkF m 27 #[.val (.ref t1), .val (.int (Int32.ofNat A)), .val (.ref t2), .val (.int (Int32.ofNat B)), .val (.int (Int32.ofNat N)), .val (.int (1 : Int32))] [(.int (0 : Int32))])) _
        exact retN X0 hx (t := .boolean) Bd.returns (by simp) (hb hby d2_27) hr
      · show Q2_1 Z t1 t2 A B N f g h0 n0 _ s₁.heap _
        rw [e0]
        exact ⟨_, rfl, N0, rfl, Or.inr ⟨rfl, hiN, hc19⟩⟩
  · obtain ⟨fs, hr, hrun, hended, hW, hsame⟩ := X0.leave (v := some (.int (1 : Int32))) (fun h => by rw [Bd.returns] at h; cases h)
    refine ⟨_, _, pre0 _ ?_, hrun, hended, _, _, rfl, ?_, ⟨_, rfl⟩, hW, hsame.mono (by decide) (by decide)⟩
    · show Steps p.tables e below (s₁.setTop (mkF m 0 #[.val (.ref t1), .val (.int (Int32.ofNat A)), .val (.ref t2), .val (.int (Int32.ofNat B)), .val (.int (Int32.ofNat N)), .val (.int (1 : Int32))] [])) _
      refine XS.iload X0.here hx rfl (hb hby d2_0) rfl ?_
      show Steps p.tables e below (s₁.setTop (mkF m 2 #[.val (.ref t1), .val (.int (Int32.ofNat A)), .val (.ref t2), .val (.int (Int32.ofNat B)), .val (.int (Int32.ofNat N)), .val (.int (1 : Int32))] [(.int (1 : Int32))])) _
      refine XS.iload X0.here hx rfl (hb hby d2_2) rfl ?_
      show Steps p.tables e below (s₁.setTop (mkF m 4 #[.val (.ref t1), .val (.int (Int32.ofNat A)), .val (.ref t2), .val (.int (Int32.ofNat B)), .val (.int (Int32.ofNat N)), .val (.int (1 : Int32))] [(.int (Int32.ofNat N)), (.int (1 : Int32))])) _
      refine XS.icmpYes X0.here hx rfl (pc0 := 4) (pc' := 22) rfl (hb hby d2_4) rfl (flt hc4).2.1 (by decide) (by decide) ?_
      show Steps p.tables e below (s₁.setTop (mkF m 22 #[.val (.ref t1), .val (.int (Int32.ofNat A)), .val (.ref t2), .val (.int (Int32.ofNat B)), .val (.int (Int32.ofNat N)), .val (.int (1 : Int32))] [])) _
      refine XS.iconst X0.here hx rfl (hb hby d2_22) ?_
      show Steps p.tables e below (s₁.setTop (mkF m 23 #[.val (.ref t1), .val (.int (Int32.ofNat A)), .val (.ref t2), .val (.int (Int32.ofNat B)), .val (.int (Int32.ofNat N)), .val (.int (1 : Int32))] [(.int (1 : Int32))])) _
      refine XS.goto X0.here hx rfl (pc0 := 23) (pc' := 27) rfl (hb hby d2_23) (by decide) (by decide) ?_
      show Steps p.tables e below (s₁.setTop (mkF m 27 #[.val (.ref t1), .val (.int (Int32.ofNat A)), .val (.ref t2), .val (.int (Int32.ofNat B)), .val (.int (Int32.ofNat N)), .val (.int (1 : Int32))] [(.int (1 : Int32))])) _
      exact retN X0 hx (t := .boolean) Bd.returns (by simp) (hb hby d2_27) hr
    · show Q2_1 Z t1 t2 A B N f g h0 n0 _ s₁.heap _
      rw [e0]
      exact ⟨_, rfl, N0, rfl, Or.inl ⟨rfl, fun q => absurd ((own_ltN (i := 1) (by omega) (by omega)).mpr q) hc4⟩⟩
theorem ef_2_2 (m : MethodId) (x0 : Addr) (x1 : Int32) (x2 : Addr) (x3 : Int32) (x4 : Int32) (x5 : Int32) : entryFrame m #[(.ref x0), (.int x1), (.ref x2), (.int x3), (.int x4), (.int x5)] 6 = mkF m 0 #[.val (.ref x0), .val (.int x1), .val (.ref x2), .val (.int x3), .val (.int x4), .val (.int x5)] [] := by first | (simp [entryFrame, mkF, argsToLocals, Value.category]; done) | rfl
def Q2_2 (Z : State) (t1 : Addr) (t2 : Addr) (A : Nat) (B : Nat) (N : Nat) (f : Nat → Int32) (g : Nat → Int32) (h0 : Heap) (n0 : Nat) (v : Option Value) (h : Heap) (L : List Loc) : Prop := ∃ z : Int32, v = some (.int z) ∧ Fr n0 L ∧ h = h0 ∧ ((z = 1 ∧ (2 < N → f (A + 2) = g (B + 2))) ∨ (z = 0 ∧ (2 < N ∧ ¬ f (A + 2) = g (B + 2))))
set_option maxRecDepth 65536 in
set_option maxHeartbeats 40000000 in
theorem rm2_2 (l : Launch) (Z : State) (a0 : Array Value) (hw : ∀ d ∈ tables_1, d.before a0 Z = true) (ws : List Jvm.Cond) (t1 : Addr) (t2 : Addr) (A : Nat) (B : Nat) (N : Nat) (f : Nat → Int32) (g : Nat → Int32) (h0 : Heap) (n0 : Nat) (Z0 : n0 ≤ h0.size) (BA : own_Byt Z h0 t1 f) (BB : own_Byt Z h0 t2 g) (hAN : A + N ≤ 4) (hBN : B + N ≤ 4) :
    MetFree l (⟨"com/example/trailsmith/trailsmith/check/BytesEqualPinLaw", "at", "([BI[BIII)Z"⟩ : MethodName) (head1 (Jvm.Cond.code (⟨"com/example/trailsmith/trailsmith/check/BytesEqualPinLaw", "at", "([BI[BIII)Z"⟩ : MethodName) method_2_code 6 (some .boolean) :: ws) ({ frames := 0, cells := 0, slots := 0, locals := 0 } : Room)) (fun a U => a = #[(.ref t1), (.int (Int32.ofNat A)), (.ref t2), (.int (Int32.ofNat B)), (.int (Int32.ofNat N)), (.int (2 : Int32))] ∧ Z.Warmed39 U.vm ∧ U.heap = h0) (fun _ _ _ _ _ => True) (fun _ U o U' => ∃ v L, o = .returned v ∧ Q2_2 Z t1 t2 A B N f g h0 n0 v U'.heap L ∧ FrameEnd U o U' L ({ frames := 0, cells := 0, slots := 0, locals := 0 } : Room).cells ({ frames := 0, cells := 0, slots := 0, locals := 0 } : Room).slots) := by
  refine MetFree.of_bodySF (plainFor_of_name pn_1) hisR ?_
  intro p e s m args below meth c s₁ Bd hml0 hP hK
  obtain ⟨rfl, hZ, hh⟩ := hP
  have hx := Bd.exec
  have hby := Bd.bytes
  have hml : c.maxLocals = 6 := hml0
  have hown : s.vm.findClass "com/example/trailsmith/trailsmith/check/BytesEqualPinLaw" = some m.cls := findClass_of_methodNamed Bd.named
  have hnm := (name_of_methodNamed Bd.named Bd.method).1
  have X0 : Stand p l e ({ frames := 0, cells := 0, slots := 0, locals := 0 } : Room) s m #[(.ref t1), (.int (Int32.ofNat A)), (.ref t2), (.int (Int32.ofNat B)), (.int (Int32.ofNat N)), (.int (2 : Int32))] below meth c s₁ [] 0 0 := Stand.of_body Bd
  have e0 : s₁.heap = h0 := by rw [← hh, Bd.state]; rfl
  have N0 := Fr.nil n0
  have pre0 : ∀ t, Steps p.tables e below (s₁.setTop (mkF m 0 #[.val (.ref t1), .val (.int (Int32.ofNat A)), .val (.ref t2), .val (.int (Int32.ofNat B)), .val (.int (Int32.ofNat N)), .val (.int (2 : Int32))] [])) t → Steps p.tables e below (s₁.setTop (entryFrame m #[(.ref t1), (.int (Int32.ofNat A)), (.ref t2), (.int (Int32.ofNat B)), (.int (Int32.ofNat N)), (.int (2 : Int32))] 6)) t := fun t k => castTop (ef_2_2 m t1 (Int32.ofNat A) t2 (Int32.ofNat B) (Int32.ofNat N) (2 : Int32)) k
  by_cases hc4 : (2 : Int32) < (Int32.ofNat N)
  · have hiN : 2 < N := (own_ltN (i := 2) (by omega) (by omega)).mp hc4
    obtain ⟨cl1, Ar1, S1, H1⟩ := id BA
    have hin1 : ¬ (((Int32.ofNat A) + (2 : Int32)) < 0 ∨ cl1.slots.size ≤ (((Int32.ofNat A) + (2 : Int32))).toNatClampNeg) := by rw [S1]; exact within (show Int32.ofNat A + (2 : Int32) = Int32.ofNat (A + 2) from own_ad A 2) (show A + 2 < 4 by omega) (by decide)
    have hat1 : cl1.slots[(((Int32.ofNat A) + (2 : Int32))).toNatClampNeg]? = some (.int (f (A + 2))) := by rw [clamp_of (show Int32.ofNat A + (2 : Int32) = Int32.ofNat (A + 2) from own_ad A 2) (Nat.lt_trans (show A + 2 < 4 by omega) (by decide))]; exact H1 _ (show A + 2 < 4 by omega)
    obtain ⟨cl2, Ar2, S2, H2⟩ := id BB
    have hin2 : ¬ (((Int32.ofNat B) + (2 : Int32)) < 0 ∨ cl2.slots.size ≤ (((Int32.ofNat B) + (2 : Int32))).toNatClampNeg) := by rw [S2]; exact within (show Int32.ofNat B + (2 : Int32) = Int32.ofNat (B + 2) from own_ad B 2) (show B + 2 < 4 by omega) (by decide)
    have hat2 : cl2.slots[(((Int32.ofNat B) + (2 : Int32))).toNatClampNeg]? = some (.int (g (B + 2))) := by rw [clamp_of (show Int32.ofNat B + (2 : Int32) = Int32.ofNat (B + 2) from own_ad B 2) (Nat.lt_trans (show B + 2 < 4 by omega) (by decide))]; exact H2 _ (show B + 2 < 4 by omega)
    by_cases hc19 : (f (A + 2)) = (g (B + 2))
    · obtain ⟨fs, hr, hrun, hended, hW, hsame⟩ := X0.leave (v := some (.int (1 : Int32))) (fun h => by rw [Bd.returns] at h; cases h)
      refine ⟨_, _, pre0 _ ?_, hrun, hended, _, _, rfl, ?_, ⟨_, rfl⟩, hW, hsame.mono (by decide) (by decide)⟩
      · show Steps p.tables e below (s₁.setTop (mkF m 0 #[.val (.ref t1), .val (.int (Int32.ofNat A)), .val (.ref t2), .val (.int (Int32.ofNat B)), .val (.int (Int32.ofNat N)), .val (.int (2 : Int32))] [])) _
        refine XS.iload X0.here hx rfl (hb hby d2_0) rfl ?_
        show Steps p.tables e below (s₁.setTop (mkF m 2 #[.val (.ref t1), .val (.int (Int32.ofNat A)), .val (.ref t2), .val (.int (Int32.ofNat B)), .val (.int (Int32.ofNat N)), .val (.int (2 : Int32))] [(.int (2 : Int32))])) _
        refine XS.iload X0.here hx rfl (hb hby d2_2) rfl ?_
        show Steps p.tables e below (s₁.setTop (mkF m 4 #[.val (.ref t1), .val (.int (Int32.ofNat A)), .val (.ref t2), .val (.int (Int32.ofNat B)), .val (.int (Int32.ofNat N)), .val (.int (2 : Int32))] [(.int (Int32.ofNat N)), (.int (2 : Int32))])) _
        refine XS.icmpNo X0.here hx rfl (hb hby d2_4) rfl (tlt hc4).2.1 ?_
        show Steps p.tables e below (s₁.setTop (mkF m 7 #[.val (.ref t1), .val (.int (Int32.ofNat A)), .val (.ref t2), .val (.int (Int32.ofNat B)), .val (.int (Int32.ofNat N)), .val (.int (2 : Int32))] [])) _
        refine XS.aloadN X0.here hx rfl (hb hby d2_7) rfl rfl ?_
        show Steps p.tables e below (s₁.setTop (mkF m 8 #[.val (.ref t1), .val (.int (Int32.ofNat A)), .val (.ref t2), .val (.int (Int32.ofNat B)), .val (.int (Int32.ofNat N)), .val (.int (2 : Int32))] [(.ref t1)])) _
        refine XS.iloadN X0.here hx rfl (hb hby d2_8) rfl ?_
        show Steps p.tables e below (s₁.setTop (mkF m 9 #[.val (.ref t1), .val (.int (Int32.ofNat A)), .val (.ref t2), .val (.int (Int32.ofNat B)), .val (.int (Int32.ofNat N)), .val (.int (2 : Int32))] [(.int (Int32.ofNat A)), (.ref t1)])) _
        refine XS.iload X0.here hx rfl (hb hby d2_9) rfl ?_
        show Steps p.tables e below (s₁.setTop (mkF m 11 #[.val (.ref t1), .val (.int (Int32.ofNat A)), .val (.ref t2), .val (.int (Int32.ofNat B)), .val (.int (Int32.ofNat N)), .val (.int (2 : Int32))] [(.int (2 : Int32)), (.int (Int32.ofNat A)), (.ref t1)])) _
        refine XS.iadd X0.here hx rfl (hb hby d2_11) rfl ?_
        show Steps p.tables e below (s₁.setTop (mkF m 12 #[.val (.ref t1), .val (.int (Int32.ofNat A)), .val (.ref t2), .val (.int (Int32.ofNat B)), .val (.int (Int32.ofNat N)), .val (.int (2 : Int32))] [(.int ((Int32.ofNat A) + (2 : Int32))), (.ref t1)])) _
        refine X0.baloadBytes hx (j := ((Int32.ofNat A) + (2 : Int32))) (v := (.int (f (A + 2)))) (by rw [e0]; exact Ar1.1) (State.isArrayOf_alike hZ.alike Ar1.2.1) Ar1.2.2 hin1 hat1 (g := (mkF m 12 #[.val (.ref t1), .val (.int (Int32.ofNat A)), .val (.ref t2), .val (.int (Int32.ofNat B)), .val (.int (Int32.ofNat N)), .val (.int (2 : Int32))] [(.int ((Int32.ofNat A) + (2 : Int32))), (.ref t1)])) rfl rfl (hb hby d2_12) _ ?_
        show Steps p.tables e below (s₁.setTop (mkF m 13 #[.val (.ref t1), .val (.int (Int32.ofNat A)), .val (.ref t2), .val (.int (Int32.ofNat B)), .val (.int (Int32.ofNat N)), .val (.int (2 : Int32))] [(.int (f (A + 2)))])) _
        refine XS.aloadN X0.here hx rfl (hb hby d2_13) rfl rfl ?_
        show Steps p.tables e below (s₁.setTop (mkF m 14 #[.val (.ref t1), .val (.int (Int32.ofNat A)), .val (.ref t2), .val (.int (Int32.ofNat B)), .val (.int (Int32.ofNat N)), .val (.int (2 : Int32))] [(.ref t2), (.int (f (A + 2)))])) _
        refine XS.iloadN X0.here hx rfl (hb hby d2_14) rfl ?_
        show Steps p.tables e below (s₁.setTop (mkF m 15 #[.val (.ref t1), .val (.int (Int32.ofNat A)), .val (.ref t2), .val (.int (Int32.ofNat B)), .val (.int (Int32.ofNat N)), .val (.int (2 : Int32))] [(.int (Int32.ofNat B)), (.ref t2), (.int (f (A + 2)))])) _
        refine XS.iload X0.here hx rfl (hb hby d2_15) rfl ?_
        show Steps p.tables e below (s₁.setTop (mkF m 17 #[.val (.ref t1), .val (.int (Int32.ofNat A)), .val (.ref t2), .val (.int (Int32.ofNat B)), .val (.int (Int32.ofNat N)), .val (.int (2 : Int32))] [(.int (2 : Int32)), (.int (Int32.ofNat B)), (.ref t2), (.int (f (A + 2)))])) _
        refine XS.iadd X0.here hx rfl (hb hby d2_17) rfl ?_
        show Steps p.tables e below (s₁.setTop (mkF m 18 #[.val (.ref t1), .val (.int (Int32.ofNat A)), .val (.ref t2), .val (.int (Int32.ofNat B)), .val (.int (Int32.ofNat N)), .val (.int (2 : Int32))] [(.int ((Int32.ofNat B) + (2 : Int32))), (.ref t2), (.int (f (A + 2)))])) _
        refine X0.baloadBytes hx (j := ((Int32.ofNat B) + (2 : Int32))) (v := (.int (g (B + 2)))) (by rw [e0]; exact Ar2.1) (State.isArrayOf_alike hZ.alike Ar2.2.1) Ar2.2.2 hin2 hat2 (g := (mkF m 18 #[.val (.ref t1), .val (.int (Int32.ofNat A)), .val (.ref t2), .val (.int (Int32.ofNat B)), .val (.int (Int32.ofNat N)), .val (.int (2 : Int32))] [(.int ((Int32.ofNat B) + (2 : Int32))), (.ref t2), (.int (f (A + 2)))])) rfl rfl (hb hby d2_18) _ ?_
        show Steps p.tables e below (s₁.setTop (mkF m 19 #[.val (.ref t1), .val (.int (Int32.ofNat A)), .val (.ref t2), .val (.int (Int32.ofNat B)), .val (.int (Int32.ofNat N)), .val (.int (2 : Int32))] [(.int (g (B + 2))), (.int (f (A + 2)))])) _
        refine XS.icmpNo X0.here hx rfl (hb hby d2_19) rfl (teq hc19).2 ?_
        show Steps p.tables e below (s₁.setTop (mkF m 22 #[.val (.ref t1), .val (.int (Int32.ofNat A)), .val (.ref t2), .val (.int (Int32.ofNat B)), .val (.int (Int32.ofNat N)), .val (.int (2 : Int32))] [])) _
        refine XS.iconst X0.here hx rfl (hb hby d2_22) ?_
        show Steps p.tables e below (s₁.setTop (mkF m 23 #[.val (.ref t1), .val (.int (Int32.ofNat A)), .val (.ref t2), .val (.int (Int32.ofNat B)), .val (.int (Int32.ofNat N)), .val (.int (2 : Int32))] [(.int (1 : Int32))])) _
        refine XS.goto X0.here hx rfl (pc0 := 23) (pc' := 27) rfl (hb hby d2_23) (by decide) (by decide) ?_
        show Steps p.tables e below (s₁.setTop (mkF m 27 #[.val (.ref t1), .val (.int (Int32.ofNat A)), .val (.ref t2), .val (.int (Int32.ofNat B)), .val (.int (Int32.ofNat N)), .val (.int (2 : Int32))] [(.int (1 : Int32))])) _
        exact retN X0 hx (t := .boolean) Bd.returns (by simp) (hb hby d2_27) hr
      · show Q2_2 Z t1 t2 A B N f g h0 n0 _ s₁.heap _
        rw [e0]
        exact ⟨_, rfl, N0, rfl, Or.inl ⟨rfl, fun _ => hc19⟩⟩
    · obtain ⟨fs, hr, hrun, hended, hW, hsame⟩ := X0.leave (v := some (.int (0 : Int32))) (fun h => by rw [Bd.returns] at h; cases h)
      refine ⟨_, _, pre0 _ ?_, hrun, hended, _, _, rfl, ?_, ⟨_, rfl⟩, hW, hsame.mono (by decide) (by decide)⟩
      · show Steps p.tables e below (s₁.setTop (mkF m 0 #[.val (.ref t1), .val (.int (Int32.ofNat A)), .val (.ref t2), .val (.int (Int32.ofNat B)), .val (.int (Int32.ofNat N)), .val (.int (2 : Int32))] [])) _
        refine XS.iload X0.here hx rfl (hb hby d2_0) rfl ?_
        show Steps p.tables e below (s₁.setTop (mkF m 2 #[.val (.ref t1), .val (.int (Int32.ofNat A)), .val (.ref t2), .val (.int (Int32.ofNat B)), .val (.int (Int32.ofNat N)), .val (.int (2 : Int32))] [(.int (2 : Int32))])) _
        refine XS.iload X0.here hx rfl (hb hby d2_2) rfl ?_
        show Steps p.tables e below (s₁.setTop (mkF m 4 #[.val (.ref t1), .val (.int (Int32.ofNat A)), .val (.ref t2), .val (.int (Int32.ofNat B)), .val (.int (Int32.ofNat N)), .val (.int (2 : Int32))] [(.int (Int32.ofNat N)), (.int (2 : Int32))])) _
        refine XS.icmpNo X0.here hx rfl (hb hby d2_4) rfl (tlt hc4).2.1 ?_
        show Steps p.tables e below (s₁.setTop (mkF m 7 #[.val (.ref t1), .val (.int (Int32.ofNat A)), .val (.ref t2), .val (.int (Int32.ofNat B)), .val (.int (Int32.ofNat N)), .val (.int (2 : Int32))] [])) _
        refine XS.aloadN X0.here hx rfl (hb hby d2_7) rfl rfl ?_
        show Steps p.tables e below (s₁.setTop (mkF m 8 #[.val (.ref t1), .val (.int (Int32.ofNat A)), .val (.ref t2), .val (.int (Int32.ofNat B)), .val (.int (Int32.ofNat N)), .val (.int (2 : Int32))] [(.ref t1)])) _
        refine XS.iloadN X0.here hx rfl (hb hby d2_8) rfl ?_
        show Steps p.tables e below (s₁.setTop (mkF m 9 #[.val (.ref t1), .val (.int (Int32.ofNat A)), .val (.ref t2), .val (.int (Int32.ofNat B)), .val (.int (Int32.ofNat N)), .val (.int (2 : Int32))] [(.int (Int32.ofNat A)), (.ref t1)])) _
        refine XS.iload X0.here hx rfl (hb hby d2_9) rfl ?_
        show Steps p.tables e below (s₁.setTop (mkF m 11 #[.val (.ref t1), .val (.int (Int32.ofNat A)), .val (.ref t2), .val (.int (Int32.ofNat B)), .val (.int (Int32.ofNat N)), .val (.int (2 : Int32))] [(.int (2 : Int32)), (.int (Int32.ofNat A)), (.ref t1)])) _
        refine XS.iadd X0.here hx rfl (hb hby d2_11) rfl ?_
        show Steps p.tables e below (s₁.setTop (mkF m 12 #[.val (.ref t1), .val (.int (Int32.ofNat A)), .val (.ref t2), .val (.int (Int32.ofNat B)), .val (.int (Int32.ofNat N)), .val (.int (2 : Int32))] [(.int ((Int32.ofNat A) + (2 : Int32))), (.ref t1)])) _
        refine X0.baloadBytes hx (j := ((Int32.ofNat A) + (2 : Int32))) (v := (.int (f (A + 2)))) (by rw [e0]; exact Ar1.1) (State.isArrayOf_alike hZ.alike Ar1.2.1) Ar1.2.2 hin1 hat1 (g := (mkF m 12 #[.val (.ref t1), .val (.int (Int32.ofNat A)), .val (.ref t2), .val (.int (Int32.ofNat B)), .val (.int (Int32.ofNat N)), .val (.int (2 : Int32))] [(.int ((Int32.ofNat A) + (2 : Int32))), (.ref t1)])) rfl rfl (hb hby d2_12) _ ?_
        show Steps p.tables e below (s₁.setTop (mkF m 13 #[.val (.ref t1), .val (.int (Int32.ofNat A)), .val (.ref t2), .val (.int (Int32.ofNat B)), .val (.int (Int32.ofNat N)), .val (.int (2 : Int32))] [(.int (f (A + 2)))])) _
        refine XS.aloadN X0.here hx rfl (hb hby d2_13) rfl rfl ?_
        show Steps p.tables e below (s₁.setTop (mkF m 14 #[.val (.ref t1), .val (.int (Int32.ofNat A)), .val (.ref t2), .val (.int (Int32.ofNat B)), .val (.int (Int32.ofNat N)), .val (.int (2 : Int32))] [(.ref t2), (.int (f (A + 2)))])) _
        refine XS.iloadN X0.here hx rfl (hb hby d2_14) rfl ?_
        show Steps p.tables e below (s₁.setTop (mkF m 15 #[.val (.ref t1), .val (.int (Int32.ofNat A)), .val (.ref t2), .val (.int (Int32.ofNat B)), .val (.int (Int32.ofNat N)), .val (.int (2 : Int32))] [(.int (Int32.ofNat B)), (.ref t2), (.int (f (A + 2)))])) _
        refine XS.iload X0.here hx rfl (hb hby d2_15) rfl ?_
        show Steps p.tables e below (s₁.setTop (mkF m 17 #[.val (.ref t1), .val (.int (Int32.ofNat A)), .val (.ref t2), .val (.int (Int32.ofNat B)), .val (.int (Int32.ofNat N)), .val (.int (2 : Int32))] [(.int (2 : Int32)), (.int (Int32.ofNat B)), (.ref t2), (.int (f (A + 2)))])) _
        refine XS.iadd X0.here hx rfl (hb hby d2_17) rfl ?_
        show Steps p.tables e below (s₁.setTop (mkF m 18 #[.val (.ref t1), .val (.int (Int32.ofNat A)), .val (.ref t2), .val (.int (Int32.ofNat B)), .val (.int (Int32.ofNat N)), .val (.int (2 : Int32))] [(.int ((Int32.ofNat B) + (2 : Int32))), (.ref t2), (.int (f (A + 2)))])) _
        refine X0.baloadBytes hx (j := ((Int32.ofNat B) + (2 : Int32))) (v := (.int (g (B + 2)))) (by rw [e0]; exact Ar2.1) (State.isArrayOf_alike hZ.alike Ar2.2.1) Ar2.2.2 hin2 hat2 (g := (mkF m 18 #[.val (.ref t1), .val (.int (Int32.ofNat A)), .val (.ref t2), .val (.int (Int32.ofNat B)), .val (.int (Int32.ofNat N)), .val (.int (2 : Int32))] [(.int ((Int32.ofNat B) + (2 : Int32))), (.ref t2), (.int (f (A + 2)))])) rfl rfl (hb hby d2_18) _ ?_
        show Steps p.tables e below (s₁.setTop (mkF m 19 #[.val (.ref t1), .val (.int (Int32.ofNat A)), .val (.ref t2), .val (.int (Int32.ofNat B)), .val (.int (Int32.ofNat N)), .val (.int (2 : Int32))] [(.int (g (B + 2))), (.int (f (A + 2)))])) _
        refine XS.icmpYes X0.here hx rfl (pc0 := 19) (pc' := 26) rfl (hb hby d2_19) rfl (feq hc19).2 (by decide) (by decide) ?_
        show Steps p.tables e below (s₁.setTop (mkF m 26 #[.val (.ref t1), .val (.int (Int32.ofNat A)), .val (.ref t2), .val (.int (Int32.ofNat B)), .val (.int (Int32.ofNat N)), .val (.int (2 : Int32))] [])) _
        refine XS.iconst X0.here hx rfl (hb hby d2_26) ?_
        show Steps p.tables e below (s₁.setTop (mkF m 27 #[.val (.ref t1), .val (.int (Int32.ofNat A)), .val (.ref t2), .val (.int (Int32.ofNat B)), .val (.int (Int32.ofNat N)), .val (.int (2 : Int32))] [(.int (0 : Int32))])) _
        exact retN X0 hx (t := .boolean) Bd.returns (by simp) (hb hby d2_27) hr
      · show Q2_2 Z t1 t2 A B N f g h0 n0 _ s₁.heap _
        rw [e0]
        exact ⟨_, rfl, N0, rfl, Or.inr ⟨rfl, hiN, hc19⟩⟩
  · obtain ⟨fs, hr, hrun, hended, hW, hsame⟩ := X0.leave (v := some (.int (1 : Int32))) (fun h => by rw [Bd.returns] at h; cases h)
    refine ⟨_, _, pre0 _ ?_, hrun, hended, _, _, rfl, ?_, ⟨_, rfl⟩, hW, hsame.mono (by decide) (by decide)⟩
    · show Steps p.tables e below (s₁.setTop (mkF m 0 #[.val (.ref t1), .val (.int (Int32.ofNat A)), .val (.ref t2), .val (.int (Int32.ofNat B)), .val (.int (Int32.ofNat N)), .val (.int (2 : Int32))] [])) _
      refine XS.iload X0.here hx rfl (hb hby d2_0) rfl ?_
      show Steps p.tables e below (s₁.setTop (mkF m 2 #[.val (.ref t1), .val (.int (Int32.ofNat A)), .val (.ref t2), .val (.int (Int32.ofNat B)), .val (.int (Int32.ofNat N)), .val (.int (2 : Int32))] [(.int (2 : Int32))])) _
      refine XS.iload X0.here hx rfl (hb hby d2_2) rfl ?_
      show Steps p.tables e below (s₁.setTop (mkF m 4 #[.val (.ref t1), .val (.int (Int32.ofNat A)), .val (.ref t2), .val (.int (Int32.ofNat B)), .val (.int (Int32.ofNat N)), .val (.int (2 : Int32))] [(.int (Int32.ofNat N)), (.int (2 : Int32))])) _
      refine XS.icmpYes X0.here hx rfl (pc0 := 4) (pc' := 22) rfl (hb hby d2_4) rfl (flt hc4).2.1 (by decide) (by decide) ?_
      show Steps p.tables e below (s₁.setTop (mkF m 22 #[.val (.ref t1), .val (.int (Int32.ofNat A)), .val (.ref t2), .val (.int (Int32.ofNat B)), .val (.int (Int32.ofNat N)), .val (.int (2 : Int32))] [])) _
      refine XS.iconst X0.here hx rfl (hb hby d2_22) ?_
      show Steps p.tables e below (s₁.setTop (mkF m 23 #[.val (.ref t1), .val (.int (Int32.ofNat A)), .val (.ref t2), .val (.int (Int32.ofNat B)), .val (.int (Int32.ofNat N)), .val (.int (2 : Int32))] [(.int (1 : Int32))])) _
      refine XS.goto X0.here hx rfl (pc0 := 23) (pc' := 27) rfl (hb hby d2_23) (by decide) (by decide) ?_
      show Steps p.tables e below (s₁.setTop (mkF m 27 #[.val (.ref t1), .val (.int (Int32.ofNat A)), .val (.ref t2), .val (.int (Int32.ofNat B)), .val (.int (Int32.ofNat N)), .val (.int (2 : Int32))] [(.int (1 : Int32))])) _
      exact retN X0 hx (t := .boolean) Bd.returns (by simp) (hb hby d2_27) hr
    · show Q2_2 Z t1 t2 A B N f g h0 n0 _ s₁.heap _
      rw [e0]
      exact ⟨_, rfl, N0, rfl, Or.inl ⟨rfl, fun q => absurd ((own_ltN (i := 2) (by omega) (by omega)).mpr q) hc4⟩⟩
theorem ef_2_3 (m : MethodId) (x0 : Addr) (x1 : Int32) (x2 : Addr) (x3 : Int32) (x4 : Int32) (x5 : Int32) : entryFrame m #[(.ref x0), (.int x1), (.ref x2), (.int x3), (.int x4), (.int x5)] 6 = mkF m 0 #[.val (.ref x0), .val (.int x1), .val (.ref x2), .val (.int x3), .val (.int x4), .val (.int x5)] [] := by first | (simp [entryFrame, mkF, argsToLocals, Value.category]; done) | rfl
def Q2_3 (Z : State) (t1 : Addr) (t2 : Addr) (A : Nat) (B : Nat) (N : Nat) (f : Nat → Int32) (g : Nat → Int32) (h0 : Heap) (n0 : Nat) (v : Option Value) (h : Heap) (L : List Loc) : Prop := ∃ z : Int32, v = some (.int z) ∧ Fr n0 L ∧ h = h0 ∧ ((z = 1 ∧ (3 < N → f (A + 3) = g (B + 3))) ∨ (z = 0 ∧ (3 < N ∧ ¬ f (A + 3) = g (B + 3))))
set_option maxRecDepth 65536 in
set_option maxHeartbeats 40000000 in
theorem rm2_3 (l : Launch) (Z : State) (a0 : Array Value) (hw : ∀ d ∈ tables_1, d.before a0 Z = true) (ws : List Jvm.Cond) (t1 : Addr) (t2 : Addr) (A : Nat) (B : Nat) (N : Nat) (f : Nat → Int32) (g : Nat → Int32) (h0 : Heap) (n0 : Nat) (Z0 : n0 ≤ h0.size) (BA : own_Byt Z h0 t1 f) (BB : own_Byt Z h0 t2 g) (hAN : A + N ≤ 4) (hBN : B + N ≤ 4) :
    MetFree l (⟨"com/example/trailsmith/trailsmith/check/BytesEqualPinLaw", "at", "([BI[BIII)Z"⟩ : MethodName) (head1 (Jvm.Cond.code (⟨"com/example/trailsmith/trailsmith/check/BytesEqualPinLaw", "at", "([BI[BIII)Z"⟩ : MethodName) method_2_code 6 (some .boolean) :: ws) ({ frames := 0, cells := 0, slots := 0, locals := 0 } : Room)) (fun a U => a = #[(.ref t1), (.int (Int32.ofNat A)), (.ref t2), (.int (Int32.ofNat B)), (.int (Int32.ofNat N)), (.int (3 : Int32))] ∧ Z.Warmed39 U.vm ∧ U.heap = h0) (fun _ _ _ _ _ => True) (fun _ U o U' => ∃ v L, o = .returned v ∧ Q2_3 Z t1 t2 A B N f g h0 n0 v U'.heap L ∧ FrameEnd U o U' L ({ frames := 0, cells := 0, slots := 0, locals := 0 } : Room).cells ({ frames := 0, cells := 0, slots := 0, locals := 0 } : Room).slots) := by
  refine MetFree.of_bodySF (plainFor_of_name pn_1) hisR ?_
  intro p e s m args below meth c s₁ Bd hml0 hP hK
  obtain ⟨rfl, hZ, hh⟩ := hP
  have hx := Bd.exec
  have hby := Bd.bytes
  have hml : c.maxLocals = 6 := hml0
  have hown : s.vm.findClass "com/example/trailsmith/trailsmith/check/BytesEqualPinLaw" = some m.cls := findClass_of_methodNamed Bd.named
  have hnm := (name_of_methodNamed Bd.named Bd.method).1
  have X0 : Stand p l e ({ frames := 0, cells := 0, slots := 0, locals := 0 } : Room) s m #[(.ref t1), (.int (Int32.ofNat A)), (.ref t2), (.int (Int32.ofNat B)), (.int (Int32.ofNat N)), (.int (3 : Int32))] below meth c s₁ [] 0 0 := Stand.of_body Bd
  have e0 : s₁.heap = h0 := by rw [← hh, Bd.state]; rfl
  have N0 := Fr.nil n0
  have pre0 : ∀ t, Steps p.tables e below (s₁.setTop (mkF m 0 #[.val (.ref t1), .val (.int (Int32.ofNat A)), .val (.ref t2), .val (.int (Int32.ofNat B)), .val (.int (Int32.ofNat N)), .val (.int (3 : Int32))] [])) t → Steps p.tables e below (s₁.setTop (entryFrame m #[(.ref t1), (.int (Int32.ofNat A)), (.ref t2), (.int (Int32.ofNat B)), (.int (Int32.ofNat N)), (.int (3 : Int32))] 6)) t := fun t k => castTop (ef_2_3 m t1 (Int32.ofNat A) t2 (Int32.ofNat B) (Int32.ofNat N) (3 : Int32)) k
  by_cases hc4 : (3 : Int32) < (Int32.ofNat N)
  · have hiN : 3 < N := (own_ltN (i := 3) (by omega) (by omega)).mp hc4
    obtain ⟨cl1, Ar1, S1, H1⟩ := id BA
    have hin1 : ¬ (((Int32.ofNat A) + (3 : Int32)) < 0 ∨ cl1.slots.size ≤ (((Int32.ofNat A) + (3 : Int32))).toNatClampNeg) := by rw [S1]; exact within (show Int32.ofNat A + (3 : Int32) = Int32.ofNat (A + 3) from own_ad A 3) (show A + 3 < 4 by omega) (by decide)
    have hat1 : cl1.slots[(((Int32.ofNat A) + (3 : Int32))).toNatClampNeg]? = some (.int (f (A + 3))) := by rw [clamp_of (show Int32.ofNat A + (3 : Int32) = Int32.ofNat (A + 3) from own_ad A 3) (Nat.lt_trans (show A + 3 < 4 by omega) (by decide))]; exact H1 _ (show A + 3 < 4 by omega)
    obtain ⟨cl2, Ar2, S2, H2⟩ := id BB
    have hin2 : ¬ (((Int32.ofNat B) + (3 : Int32)) < 0 ∨ cl2.slots.size ≤ (((Int32.ofNat B) + (3 : Int32))).toNatClampNeg) := by rw [S2]; exact within (show Int32.ofNat B + (3 : Int32) = Int32.ofNat (B + 3) from own_ad B 3) (show B + 3 < 4 by omega) (by decide)
    have hat2 : cl2.slots[(((Int32.ofNat B) + (3 : Int32))).toNatClampNeg]? = some (.int (g (B + 3))) := by rw [clamp_of (show Int32.ofNat B + (3 : Int32) = Int32.ofNat (B + 3) from own_ad B 3) (Nat.lt_trans (show B + 3 < 4 by omega) (by decide))]; exact H2 _ (show B + 3 < 4 by omega)
    by_cases hc19 : (f (A + 3)) = (g (B + 3))
    · obtain ⟨fs, hr, hrun, hended, hW, hsame⟩ := X0.leave (v := some (.int (1 : Int32))) (fun h => by rw [Bd.returns] at h; cases h)
      refine ⟨_, _, pre0 _ ?_, hrun, hended, _, _, rfl, ?_, ⟨_, rfl⟩, hW, hsame.mono (by decide) (by decide)⟩
      · show Steps p.tables e below (s₁.setTop (mkF m 0 #[.val (.ref t1), .val (.int (Int32.ofNat A)), .val (.ref t2), .val (.int (Int32.ofNat B)), .val (.int (Int32.ofNat N)), .val (.int (3 : Int32))] [])) _
        refine XS.iload X0.here hx rfl (hb hby d2_0) rfl ?_
        show Steps p.tables e below (s₁.setTop (mkF m 2 #[.val (.ref t1), .val (.int (Int32.ofNat A)), .val (.ref t2), .val (.int (Int32.ofNat B)), .val (.int (Int32.ofNat N)), .val (.int (3 : Int32))] [(.int (3 : Int32))])) _
        refine XS.iload X0.here hx rfl (hb hby d2_2) rfl ?_
        show Steps p.tables e below (s₁.setTop (mkF m 4 #[.val (.ref t1), .val (.int (Int32.ofNat A)), .val (.ref t2), .val (.int (Int32.ofNat B)), .val (.int (Int32.ofNat N)), .val (.int (3 : Int32))] [(.int (Int32.ofNat N)), (.int (3 : Int32))])) _
        refine XS.icmpNo X0.here hx rfl (hb hby d2_4) rfl (tlt hc4).2.1 ?_
        show Steps p.tables e below (s₁.setTop (mkF m 7 #[.val (.ref t1), .val (.int (Int32.ofNat A)), .val (.ref t2), .val (.int (Int32.ofNat B)), .val (.int (Int32.ofNat N)), .val (.int (3 : Int32))] [])) _
        refine XS.aloadN X0.here hx rfl (hb hby d2_7) rfl rfl ?_
        show Steps p.tables e below (s₁.setTop (mkF m 8 #[.val (.ref t1), .val (.int (Int32.ofNat A)), .val (.ref t2), .val (.int (Int32.ofNat B)), .val (.int (Int32.ofNat N)), .val (.int (3 : Int32))] [(.ref t1)])) _
        refine XS.iloadN X0.here hx rfl (hb hby d2_8) rfl ?_
        show Steps p.tables e below (s₁.setTop (mkF m 9 #[.val (.ref t1), .val (.int (Int32.ofNat A)), .val (.ref t2), .val (.int (Int32.ofNat B)), .val (.int (Int32.ofNat N)), .val (.int (3 : Int32))] [(.int (Int32.ofNat A)), (.ref t1)])) _
        refine XS.iload X0.here hx rfl (hb hby d2_9) rfl ?_
        show Steps p.tables e below (s₁.setTop (mkF m 11 #[.val (.ref t1), .val (.int (Int32.ofNat A)), .val (.ref t2), .val (.int (Int32.ofNat B)), .val (.int (Int32.ofNat N)), .val (.int (3 : Int32))] [(.int (3 : Int32)), (.int (Int32.ofNat A)), (.ref t1)])) _
        refine XS.iadd X0.here hx rfl (hb hby d2_11) rfl ?_
        show Steps p.tables e below (s₁.setTop (mkF m 12 #[.val (.ref t1), .val (.int (Int32.ofNat A)), .val (.ref t2), .val (.int (Int32.ofNat B)), .val (.int (Int32.ofNat N)), .val (.int (3 : Int32))] [(.int ((Int32.ofNat A) + (3 : Int32))), (.ref t1)])) _
        refine X0.baloadBytes hx (j := ((Int32.ofNat A) + (3 : Int32))) (v := (.int (f (A + 3)))) (by rw [e0]; exact Ar1.1) (State.isArrayOf_alike hZ.alike Ar1.2.1) Ar1.2.2 hin1 hat1 (g := (mkF m 12 #[.val (.ref t1), .val (.int (Int32.ofNat A)), .val (.ref t2), .val (.int (Int32.ofNat B)), .val (.int (Int32.ofNat N)), .val (.int (3 : Int32))] [(.int ((Int32.ofNat A) + (3 : Int32))), (.ref t1)])) rfl rfl (hb hby d2_12) _ ?_
        show Steps p.tables e below (s₁.setTop (mkF m 13 #[.val (.ref t1), .val (.int (Int32.ofNat A)), .val (.ref t2), .val (.int (Int32.ofNat B)), .val (.int (Int32.ofNat N)), .val (.int (3 : Int32))] [(.int (f (A + 3)))])) _
        refine XS.aloadN X0.here hx rfl (hb hby d2_13) rfl rfl ?_
        show Steps p.tables e below (s₁.setTop (mkF m 14 #[.val (.ref t1), .val (.int (Int32.ofNat A)), .val (.ref t2), .val (.int (Int32.ofNat B)), .val (.int (Int32.ofNat N)), .val (.int (3 : Int32))] [(.ref t2), (.int (f (A + 3)))])) _
        refine XS.iloadN X0.here hx rfl (hb hby d2_14) rfl ?_
        show Steps p.tables e below (s₁.setTop (mkF m 15 #[.val (.ref t1), .val (.int (Int32.ofNat A)), .val (.ref t2), .val (.int (Int32.ofNat B)), .val (.int (Int32.ofNat N)), .val (.int (3 : Int32))] [(.int (Int32.ofNat B)), (.ref t2), (.int (f (A + 3)))])) _
        refine XS.iload X0.here hx rfl (hb hby d2_15) rfl ?_
        show Steps p.tables e below (s₁.setTop (mkF m 17 #[.val (.ref t1), .val (.int (Int32.ofNat A)), .val (.ref t2), .val (.int (Int32.ofNat B)), .val (.int (Int32.ofNat N)), .val (.int (3 : Int32))] [(.int (3 : Int32)), (.int (Int32.ofNat B)), (.ref t2), (.int (f (A + 3)))])) _
        refine XS.iadd X0.here hx rfl (hb hby d2_17) rfl ?_
        show Steps p.tables e below (s₁.setTop (mkF m 18 #[.val (.ref t1), .val (.int (Int32.ofNat A)), .val (.ref t2), .val (.int (Int32.ofNat B)), .val (.int (Int32.ofNat N)), .val (.int (3 : Int32))] [(.int ((Int32.ofNat B) + (3 : Int32))), (.ref t2), (.int (f (A + 3)))])) _
        refine X0.baloadBytes hx (j := ((Int32.ofNat B) + (3 : Int32))) (v := (.int (g (B + 3)))) (by rw [e0]; exact Ar2.1) (State.isArrayOf_alike hZ.alike Ar2.2.1) Ar2.2.2 hin2 hat2 (g := (mkF m 18 #[.val (.ref t1), .val (.int (Int32.ofNat A)), .val (.ref t2), .val (.int (Int32.ofNat B)), .val (.int (Int32.ofNat N)), .val (.int (3 : Int32))] [(.int ((Int32.ofNat B) + (3 : Int32))), (.ref t2), (.int (f (A + 3)))])) rfl rfl (hb hby d2_18) _ ?_
        show Steps p.tables e below (s₁.setTop (mkF m 19 #[.val (.ref t1), .val (.int (Int32.ofNat A)), .val (.ref t2), .val (.int (Int32.ofNat B)), .val (.int (Int32.ofNat N)), .val (.int (3 : Int32))] [(.int (g (B + 3))), (.int (f (A + 3)))])) _
        refine XS.icmpNo X0.here hx rfl (hb hby d2_19) rfl (teq hc19).2 ?_
        show Steps p.tables e below (s₁.setTop (mkF m 22 #[.val (.ref t1), .val (.int (Int32.ofNat A)), .val (.ref t2), .val (.int (Int32.ofNat B)), .val (.int (Int32.ofNat N)), .val (.int (3 : Int32))] [])) _
        refine XS.iconst X0.here hx rfl (hb hby d2_22) ?_
        show Steps p.tables e below (s₁.setTop (mkF m 23 #[.val (.ref t1), .val (.int (Int32.ofNat A)), .val (.ref t2), .val (.int (Int32.ofNat B)), .val (.int (Int32.ofNat N)), .val (.int (3 : Int32))] [(.int (1 : Int32))])) _
        refine XS.goto X0.here hx rfl (pc0 := 23) (pc' := 27) rfl (hb hby d2_23) (by decide) (by decide) ?_
        show Steps p.tables e below (s₁.setTop (mkF m 27 #[.val (.ref t1), .val (.int (Int32.ofNat A)), .val (.ref t2), .val (.int (Int32.ofNat B)), .val (.int (Int32.ofNat N)), .val (.int (3 : Int32))] [(.int (1 : Int32))])) _
        exact retN X0 hx (t := .boolean) Bd.returns (by simp) (hb hby d2_27) hr
      · show Q2_3 Z t1 t2 A B N f g h0 n0 _ s₁.heap _
        rw [e0]
        exact ⟨_, rfl, N0, rfl, Or.inl ⟨rfl, fun _ => hc19⟩⟩
    · obtain ⟨fs, hr, hrun, hended, hW, hsame⟩ := X0.leave (v := some (.int (0 : Int32))) (fun h => by rw [Bd.returns] at h; cases h)
      refine ⟨_, _, pre0 _ ?_, hrun, hended, _, _, rfl, ?_, ⟨_, rfl⟩, hW, hsame.mono (by decide) (by decide)⟩
      · show Steps p.tables e below (s₁.setTop (mkF m 0 #[.val (.ref t1), .val (.int (Int32.ofNat A)), .val (.ref t2), .val (.int (Int32.ofNat B)), .val (.int (Int32.ofNat N)), .val (.int (3 : Int32))] [])) _
        refine XS.iload X0.here hx rfl (hb hby d2_0) rfl ?_
        show Steps p.tables e below (s₁.setTop (mkF m 2 #[.val (.ref t1), .val (.int (Int32.ofNat A)), .val (.ref t2), .val (.int (Int32.ofNat B)), .val (.int (Int32.ofNat N)), .val (.int (3 : Int32))] [(.int (3 : Int32))])) _
        refine XS.iload X0.here hx rfl (hb hby d2_2) rfl ?_
        show Steps p.tables e below (s₁.setTop (mkF m 4 #[.val (.ref t1), .val (.int (Int32.ofNat A)), .val (.ref t2), .val (.int (Int32.ofNat B)), .val (.int (Int32.ofNat N)), .val (.int (3 : Int32))] [(.int (Int32.ofNat N)), (.int (3 : Int32))])) _
        refine XS.icmpNo X0.here hx rfl (hb hby d2_4) rfl (tlt hc4).2.1 ?_
        show Steps p.tables e below (s₁.setTop (mkF m 7 #[.val (.ref t1), .val (.int (Int32.ofNat A)), .val (.ref t2), .val (.int (Int32.ofNat B)), .val (.int (Int32.ofNat N)), .val (.int (3 : Int32))] [])) _
        refine XS.aloadN X0.here hx rfl (hb hby d2_7) rfl rfl ?_
        show Steps p.tables e below (s₁.setTop (mkF m 8 #[.val (.ref t1), .val (.int (Int32.ofNat A)), .val (.ref t2), .val (.int (Int32.ofNat B)), .val (.int (Int32.ofNat N)), .val (.int (3 : Int32))] [(.ref t1)])) _
        refine XS.iloadN X0.here hx rfl (hb hby d2_8) rfl ?_
        show Steps p.tables e below (s₁.setTop (mkF m 9 #[.val (.ref t1), .val (.int (Int32.ofNat A)), .val (.ref t2), .val (.int (Int32.ofNat B)), .val (.int (Int32.ofNat N)), .val (.int (3 : Int32))] [(.int (Int32.ofNat A)), (.ref t1)])) _
        refine XS.iload X0.here hx rfl (hb hby d2_9) rfl ?_
        show Steps p.tables e below (s₁.setTop (mkF m 11 #[.val (.ref t1), .val (.int (Int32.ofNat A)), .val (.ref t2), .val (.int (Int32.ofNat B)), .val (.int (Int32.ofNat N)), .val (.int (3 : Int32))] [(.int (3 : Int32)), (.int (Int32.ofNat A)), (.ref t1)])) _
        refine XS.iadd X0.here hx rfl (hb hby d2_11) rfl ?_
        show Steps p.tables e below (s₁.setTop (mkF m 12 #[.val (.ref t1), .val (.int (Int32.ofNat A)), .val (.ref t2), .val (.int (Int32.ofNat B)), .val (.int (Int32.ofNat N)), .val (.int (3 : Int32))] [(.int ((Int32.ofNat A) + (3 : Int32))), (.ref t1)])) _
        refine X0.baloadBytes hx (j := ((Int32.ofNat A) + (3 : Int32))) (v := (.int (f (A + 3)))) (by rw [e0]; exact Ar1.1) (State.isArrayOf_alike hZ.alike Ar1.2.1) Ar1.2.2 hin1 hat1 (g := (mkF m 12 #[.val (.ref t1), .val (.int (Int32.ofNat A)), .val (.ref t2), .val (.int (Int32.ofNat B)), .val (.int (Int32.ofNat N)), .val (.int (3 : Int32))] [(.int ((Int32.ofNat A) + (3 : Int32))), (.ref t1)])) rfl rfl (hb hby d2_12) _ ?_
        show Steps p.tables e below (s₁.setTop (mkF m 13 #[.val (.ref t1), .val (.int (Int32.ofNat A)), .val (.ref t2), .val (.int (Int32.ofNat B)), .val (.int (Int32.ofNat N)), .val (.int (3 : Int32))] [(.int (f (A + 3)))])) _
        refine XS.aloadN X0.here hx rfl (hb hby d2_13) rfl rfl ?_
        show Steps p.tables e below (s₁.setTop (mkF m 14 #[.val (.ref t1), .val (.int (Int32.ofNat A)), .val (.ref t2), .val (.int (Int32.ofNat B)), .val (.int (Int32.ofNat N)), .val (.int (3 : Int32))] [(.ref t2), (.int (f (A + 3)))])) _
        refine XS.iloadN X0.here hx rfl (hb hby d2_14) rfl ?_
        show Steps p.tables e below (s₁.setTop (mkF m 15 #[.val (.ref t1), .val (.int (Int32.ofNat A)), .val (.ref t2), .val (.int (Int32.ofNat B)), .val (.int (Int32.ofNat N)), .val (.int (3 : Int32))] [(.int (Int32.ofNat B)), (.ref t2), (.int (f (A + 3)))])) _
        refine XS.iload X0.here hx rfl (hb hby d2_15) rfl ?_
        show Steps p.tables e below (s₁.setTop (mkF m 17 #[.val (.ref t1), .val (.int (Int32.ofNat A)), .val (.ref t2), .val (.int (Int32.ofNat B)), .val (.int (Int32.ofNat N)), .val (.int (3 : Int32))] [(.int (3 : Int32)), (.int (Int32.ofNat B)), (.ref t2), (.int (f (A + 3)))])) _
        refine XS.iadd X0.here hx rfl (hb hby d2_17) rfl ?_
        show Steps p.tables e below (s₁.setTop (mkF m 18 #[.val (.ref t1), .val (.int (Int32.ofNat A)), .val (.ref t2), .val (.int (Int32.ofNat B)), .val (.int (Int32.ofNat N)), .val (.int (3 : Int32))] [(.int ((Int32.ofNat B) + (3 : Int32))), (.ref t2), (.int (f (A + 3)))])) _
        refine X0.baloadBytes hx (j := ((Int32.ofNat B) + (3 : Int32))) (v := (.int (g (B + 3)))) (by rw [e0]; exact Ar2.1) (State.isArrayOf_alike hZ.alike Ar2.2.1) Ar2.2.2 hin2 hat2 (g := (mkF m 18 #[.val (.ref t1), .val (.int (Int32.ofNat A)), .val (.ref t2), .val (.int (Int32.ofNat B)), .val (.int (Int32.ofNat N)), .val (.int (3 : Int32))] [(.int ((Int32.ofNat B) + (3 : Int32))), (.ref t2), (.int (f (A + 3)))])) rfl rfl (hb hby d2_18) _ ?_
        show Steps p.tables e below (s₁.setTop (mkF m 19 #[.val (.ref t1), .val (.int (Int32.ofNat A)), .val (.ref t2), .val (.int (Int32.ofNat B)), .val (.int (Int32.ofNat N)), .val (.int (3 : Int32))] [(.int (g (B + 3))), (.int (f (A + 3)))])) _
        refine XS.icmpYes X0.here hx rfl (pc0 := 19) (pc' := 26) rfl (hb hby d2_19) rfl (feq hc19).2 (by decide) (by decide) ?_
        show Steps p.tables e below (s₁.setTop (mkF m 26 #[.val (.ref t1), .val (.int (Int32.ofNat A)), .val (.ref t2), .val (.int (Int32.ofNat B)), .val (.int (Int32.ofNat N)), .val (.int (3 : Int32))] [])) _
        refine XS.iconst X0.here hx rfl (hb hby d2_26) ?_
        show Steps p.tables e below (s₁.setTop (mkF m 27 #[.val (.ref t1), .val (.int (Int32.ofNat A)), .val (.ref t2), .val (.int (Int32.ofNat B)), .val (.int (Int32.ofNat N)), .val (.int (3 : Int32))] [(.int (0 : Int32))])) _
        exact retN X0 hx (t := .boolean) Bd.returns (by simp) (hb hby d2_27) hr
      · show Q2_3 Z t1 t2 A B N f g h0 n0 _ s₁.heap _
        rw [e0]
        exact ⟨_, rfl, N0, rfl, Or.inr ⟨rfl, hiN, hc19⟩⟩
  · obtain ⟨fs, hr, hrun, hended, hW, hsame⟩ := X0.leave (v := some (.int (1 : Int32))) (fun h => by rw [Bd.returns] at h; cases h)
    refine ⟨_, _, pre0 _ ?_, hrun, hended, _, _, rfl, ?_, ⟨_, rfl⟩, hW, hsame.mono (by decide) (by decide)⟩
    · show Steps p.tables e below (s₁.setTop (mkF m 0 #[.val (.ref t1), .val (.int (Int32.ofNat A)), .val (.ref t2), .val (.int (Int32.ofNat B)), .val (.int (Int32.ofNat N)), .val (.int (3 : Int32))] [])) _
      refine XS.iload X0.here hx rfl (hb hby d2_0) rfl ?_
      show Steps p.tables e below (s₁.setTop (mkF m 2 #[.val (.ref t1), .val (.int (Int32.ofNat A)), .val (.ref t2), .val (.int (Int32.ofNat B)), .val (.int (Int32.ofNat N)), .val (.int (3 : Int32))] [(.int (3 : Int32))])) _
      refine XS.iload X0.here hx rfl (hb hby d2_2) rfl ?_
      show Steps p.tables e below (s₁.setTop (mkF m 4 #[.val (.ref t1), .val (.int (Int32.ofNat A)), .val (.ref t2), .val (.int (Int32.ofNat B)), .val (.int (Int32.ofNat N)), .val (.int (3 : Int32))] [(.int (Int32.ofNat N)), (.int (3 : Int32))])) _
      refine XS.icmpYes X0.here hx rfl (pc0 := 4) (pc' := 22) rfl (hb hby d2_4) rfl (flt hc4).2.1 (by decide) (by decide) ?_
      show Steps p.tables e below (s₁.setTop (mkF m 22 #[.val (.ref t1), .val (.int (Int32.ofNat A)), .val (.ref t2), .val (.int (Int32.ofNat B)), .val (.int (Int32.ofNat N)), .val (.int (3 : Int32))] [])) _
      refine XS.iconst X0.here hx rfl (hb hby d2_22) ?_
      show Steps p.tables e below (s₁.setTop (mkF m 23 #[.val (.ref t1), .val (.int (Int32.ofNat A)), .val (.ref t2), .val (.int (Int32.ofNat B)), .val (.int (Int32.ofNat N)), .val (.int (3 : Int32))] [(.int (1 : Int32))])) _
      refine XS.goto X0.here hx rfl (pc0 := 23) (pc' := 27) rfl (hb hby d2_23) (by decide) (by decide) ?_
      show Steps p.tables e below (s₁.setTop (mkF m 27 #[.val (.ref t1), .val (.int (Int32.ofNat A)), .val (.ref t2), .val (.int (Int32.ofNat B)), .val (.int (Int32.ofNat N)), .val (.int (3 : Int32))] [(.int (1 : Int32))])) _
      exact retN X0 hx (t := .boolean) Bd.returns (by simp) (hb hby d2_27) hr
    · show Q2_3 Z t1 t2 A B N f g h0 n0 _ s₁.heap _
      rw [e0]
      exact ⟨_, rfl, N0, rfl, Or.inl ⟨rfl, fun q => absurd ((own_ltN (i := 3) (by omega) (by omega)).mpr q) hc4⟩⟩
theorem own_all0 {f g : Nat → Int32} {A B : Nat} : ∀ i, i < 0 → f (A + i) = g (B + i) := by
  intro i hi
  exact absurd hi (Nat.not_lt_zero i)
theorem own_all1 {f g : Nat → Int32} {A B : Nat} (h0 : f (A + 0) = g (B + 0)) : ∀ i, i < 1 → f (A + i) = g (B + i) := by
  intro i hi
  match i, hi with
  | 0, _ => exact h0
theorem own_all2 {f g : Nat → Int32} {A B : Nat} (h0 : f (A + 0) = g (B + 0)) (h1 : f (A + 1) = g (B + 1)) : ∀ i, i < 2 → f (A + i) = g (B + i) := by
  intro i hi
  match i, hi with
  | 0, _ => exact h0
  | 1, _ => exact h1
theorem own_all3 {f g : Nat → Int32} {A B : Nat} (h0 : f (A + 0) = g (B + 0)) (h1 : f (A + 1) = g (B + 1)) (h2 : f (A + 2) = g (B + 2)) : ∀ i, i < 3 → f (A + i) = g (B + i) := by
  intro i hi
  match i, hi with
  | 0, _ => exact h0
  | 1, _ => exact h1
  | 2, _ => exact h2
theorem own_all4 {f g : Nat → Int32} {A B : Nat} (h0 : f (A + 0) = g (B + 0)) (h1 : f (A + 1) = g (B + 1)) (h2 : f (A + 2) = g (B + 2)) (h3 : f (A + 3) = g (B + 3)) : ∀ i, i < 4 → f (A + i) = g (B + i) := by
  intro i hi
  match i, hi with
  | 0, _ => exact h0
  | 1, _ => exact h1
  | 2, _ => exact h2
  | 3, _ => exact h3
theorem d3_0 : decode prog_37_method_2_code 0 = .ok (.iload_n 2, 1) := by decide +kernel
theorem d3_1 : decode prog_37_method_2_code 1 = .ok (.iload_n 1, 1) := by decide +kernel
theorem d3_2 : decode prog_37_method_2_code 2 = .ok (.isub, 1) := by decide +kernel
theorem d3_3 : decode prog_37_method_2_code 3 = .ok (.istore 6, 2) := by decide +kernel
theorem d3_5 : decode prog_37_method_2_code 5 = .ok (.iload 6, 2) := by decide +kernel
theorem d3_7 : decode prog_37_method_2_code 7 = .ok (.iload 5, 2) := by decide +kernel
theorem d3_9 : decode prog_37_method_2_code 9 = .ok (.iload 4, 2) := by decide +kernel
theorem d3_11 : decode prog_37_method_2_code 11 = .ok (.isub, 1) := by decide +kernel
theorem d3_12 : decode prog_37_method_2_code 12 = .ok (.if_icmp .eq 5, 3) := by decide +kernel
theorem d3_15 : decode prog_37_method_2_code 15 = .ok (.iconst 0, 1) := by decide +kernel
theorem d3_16 : decode prog_37_method_2_code 16 = .ok (.ireturn, 1) := by decide +kernel
theorem d3_17 : decode prog_37_method_2_code 17 = .ok (.iconst 0, 1) := by decide +kernel
theorem d3_18 : decode prog_37_method_2_code 18 = .ok (.istore 7, 2) := by decide +kernel
theorem d3_20 : decode prog_37_method_2_code 20 = .ok (.iload 7, 2) := by decide +kernel
theorem d3_22 : decode prog_37_method_2_code 22 = .ok (.iload 6, 2) := by decide +kernel
theorem d3_24 : decode prog_37_method_2_code 24 = .ok (.if_icmp .ge 27, 3) := by decide +kernel
theorem d3_27 : decode prog_37_method_2_code 27 = .ok (.aload_n 0, 1) := by decide +kernel
theorem d3_28 : decode prog_37_method_2_code 28 = .ok (.iload_n 1, 1) := by decide +kernel
theorem d3_29 : decode prog_37_method_2_code 29 = .ok (.iload 7, 2) := by decide +kernel
theorem d3_31 : decode prog_37_method_2_code 31 = .ok (.iadd, 1) := by decide +kernel
theorem d3_32 : decode prog_37_method_2_code 32 = .ok (.baload, 1) := by decide +kernel
theorem d3_33 : decode prog_37_method_2_code 33 = .ok (.aload_n 3, 1) := by decide +kernel
theorem d3_34 : decode prog_37_method_2_code 34 = .ok (.iload 4, 2) := by decide +kernel
theorem d3_36 : decode prog_37_method_2_code 36 = .ok (.iload 7, 2) := by decide +kernel
theorem d3_38 : decode prog_37_method_2_code 38 = .ok (.iadd, 1) := by decide +kernel
theorem d3_39 : decode prog_37_method_2_code 39 = .ok (.baload, 1) := by decide +kernel
theorem d3_40 : decode prog_37_method_2_code 40 = .ok (.if_icmp .eq 5, 3) := by decide +kernel
theorem d3_43 : decode prog_37_method_2_code 43 = .ok (.iconst 0, 1) := by decide +kernel
theorem d3_44 : decode prog_37_method_2_code 44 = .ok (.ireturn, 1) := by decide +kernel
theorem d3_45 : decode prog_37_method_2_code 45 = .ok (.iinc 7 1, 3) := by decide +kernel
theorem d3_48 : decode prog_37_method_2_code 48 = .ok (.goto (-28), 3) := by decide +kernel
theorem d3_51 : decode prog_37_method_2_code 51 = .ok (.iconst 1, 1) := by decide +kernel
theorem d3_52 : decode prog_37_method_2_code 52 = .ok (.ireturn, 1) := by decide +kernel
theorem pn_3 : plainName "com/example/trailsmith/trailsmith/check/Bytes" = true := by first | (simp [plainName, overriddenIn]; done) | decide +kernel
theorem ef_3 (m : MethodId) (x0 : Addr) (x1 : Int32) (x2 : Int32) (x3 : Addr) (x4 : Int32) (x5 : Int32) : entryFrame m #[(.ref x0), (.int x1), (.int x2), (.ref x3), (.int x4), (.int x5)] 8 = mkF m 0 #[.val (.ref x0), .val (.int x1), .val (.int x2), .val (.ref x3), .val (.int x4), .val (.int x5), .unset, .unset] [] := by first | (simp [entryFrame, mkF, argsToLocals, Value.category]; done) | rfl
def Q3 (Z : State) (t1 : Addr) (t2 : Addr) (A : Nat) (B : Nat) (N : Nat) (M : Nat) (f : Nat → Int32) (g : Nat → Int32) (h0 : Heap) (n0 : Nat) (v : Option Value) (h : Heap) (L : List Loc) : Prop := ∃ z : Int32, v = some (.int z) ∧ Fr n0 L ∧ h = h0 ∧ ((z = 1 ∧ (N = M ∧ ∀ i, i < N → f (A + i) = g (B + i))) ∨ (z = 0 ∧ ¬ (N = M ∧ ∀ i, i < N → f (A + i) = g (B + i))))
set_option maxRecDepth 65536 in
set_option maxHeartbeats 40000000 in
theorem rm3 (l : Launch) (Z : State) (a0 : Array Value) (hw : ∀ d ∈ tables_1, d.before a0 Z = true) (ws : List Jvm.Cond) (t1 : Addr) (t2 : Addr) (A : Nat) (B : Nat) (N : Nat) (M : Nat) (f : Nat → Int32) (g : Nat → Int32) (h0 : Heap) (n0 : Nat) (Z0 : n0 ≤ h0.size) (BA : own_Byt Z h0 t1 f) (BB : own_Byt Z h0 t2 g) (hAN : A + N ≤ 4) (hBM : B + M ≤ 4) :
    MetFree l (⟨"com/example/trailsmith/trailsmith/check/Bytes", "equal", "([BII[BII)Z"⟩ : MethodName) (head1 (Jvm.Cond.code (⟨"com/example/trailsmith/trailsmith/check/Bytes", "equal", "([BII[BII)Z"⟩ : MethodName) prog_37_method_2_code 8 (some .boolean) :: ws) ({ frames := 0, cells := 0, slots := 0, locals := 0 } : Room)) (fun a U => a = #[(.ref t1), (.int (Int32.ofNat A)), (.int (Int32.ofNat (A + N))), (.ref t2), (.int (Int32.ofNat B)), (.int (Int32.ofNat (B + M)))] ∧ Z.Warmed39 U.vm ∧ U.heap = h0) (fun _ _ _ _ _ => True) (fun _ U o U' => ∃ v L, o = .returned v ∧ Q3 Z t1 t2 A B N M f g h0 n0 v U'.heap L ∧ FrameEnd U o U' L ({ frames := 0, cells := 0, slots := 0, locals := 0 } : Room).cells ({ frames := 0, cells := 0, slots := 0, locals := 0 } : Room).slots) := by
  refine MetFree.of_bodySF (plainFor_of_name pn_3) hisR ?_
  intro p e s m args below meth c s₁ Bd hml0 hP hK
  obtain ⟨rfl, hZ, hh⟩ := hP
  have hx := Bd.exec
  have hby := Bd.bytes
  have hml : c.maxLocals = 8 := hml0
  have hown : s.vm.findClass "com/example/trailsmith/trailsmith/check/Bytes" = some m.cls := findClass_of_methodNamed Bd.named
  have hnm := (name_of_methodNamed Bd.named Bd.method).1
  have X0 : Stand p l e ({ frames := 0, cells := 0, slots := 0, locals := 0 } : Room) s m #[(.ref t1), (.int (Int32.ofNat A)), (.int (Int32.ofNat (A + N))), (.ref t2), (.int (Int32.ofNat B)), (.int (Int32.ofNat (B + M)))] below meth c s₁ [] 0 0 := Stand.of_body Bd
  have e0 : s₁.heap = h0 := by rw [← hh, Bd.state]; rfl
  have N0 := Fr.nil n0
  have pre0 : ∀ t, Steps p.tables e below (s₁.setTop (mkF m 0 #[.val (.ref t1), .val (.int (Int32.ofNat A)), .val (.int (Int32.ofNat (A + N))), .val (.ref t2), .val (.int (Int32.ofNat B)), .val (.int (Int32.ofNat (B + M))), .unset, .unset] [])) t → Steps p.tables e below (s₁.setTop (entryFrame m #[(.ref t1), (.int (Int32.ofNat A)), (.int (Int32.ofNat (A + N))), (.ref t2), (.int (Int32.ofNat B)), (.int (Int32.ofNat (B + M)))] 8)) t := fun t k => castTop (ef_3 m t1 (Int32.ofNat A) (Int32.ofNat (A + N)) t2 (Int32.ofNat B) (Int32.ofNat (B + M))) k
  obtain rfl | rfl | rfl | rfl | rfl : N = 0 ∨ N = 1 ∨ N = 2 ∨ N = 3 ∨ N = 4 := by omega
  · have seg1 : ∀ target, Steps p.tables e below (s₁.setTop (mkF m 12 #[.val (.ref t1), .val (.int (Int32.ofNat A)), .val (.int (Int32.ofNat (A + 0))), .val (.ref t2), .val (.int (Int32.ofNat B)), .val (.int (Int32.ofNat (B + M))), .val (.int ((Int32.ofNat (A + 0)) - (Int32.ofNat A))), .unset] [(.int ((Int32.ofNat (B + M)) - (Int32.ofNat B))), (.int ((Int32.ofNat (A + 0)) - (Int32.ofNat A)))])) target → Steps p.tables e below (s₁.setTop (mkF m 0 #[.val (.ref t1), .val (.int (Int32.ofNat A)), .val (.int (Int32.ofNat (A + 0))), .val (.ref t2), .val (.int (Int32.ofNat B)), .val (.int (Int32.ofNat (B + M))), .unset, .unset] [])) target := by
      intro target kt
      show Steps p.tables e below (s₁.setTop (mkF m 0 #[.val (.ref t1), .val (.int (Int32.ofNat A)), .val (.int (Int32.ofNat (A + 0))), .val (.ref t2), .val (.int (Int32.ofNat B)), .val (.int (Int32.ofNat (B + M))), .unset, .unset] [])) _
      refine XS.iloadN X0.here hx rfl (hb hby d3_0) rfl ?_
      show Steps p.tables e below (s₁.setTop (mkF m 1 #[.val (.ref t1), .val (.int (Int32.ofNat A)), .val (.int (Int32.ofNat (A + 0))), .val (.ref t2), .val (.int (Int32.ofNat B)), .val (.int (Int32.ofNat (B + M))), .unset, .unset] [(.int (Int32.ofNat (A + 0)))])) _
      refine XS.iloadN X0.here hx rfl (hb hby d3_1) rfl ?_
      show Steps p.tables e below (s₁.setTop (mkF m 2 #[.val (.ref t1), .val (.int (Int32.ofNat A)), .val (.int (Int32.ofNat (A + 0))), .val (.ref t2), .val (.int (Int32.ofNat B)), .val (.int (Int32.ofNat (B + M))), .unset, .unset] [(.int (Int32.ofNat A)), (.int (Int32.ofNat (A + 0)))])) _
      refine XS.isub X0.here hx rfl (hb hby d3_2) rfl ?_
      show Steps p.tables e below (s₁.setTop (mkF m 3 #[.val (.ref t1), .val (.int (Int32.ofNat A)), .val (.int (Int32.ofNat (A + 0))), .val (.ref t2), .val (.int (Int32.ofNat B)), .val (.int (Int32.ofNat (B + M))), .unset, .unset] [(.int ((Int32.ofNat (A + 0)) - (Int32.ofNat A)))])) _
      refine XS.istore X0.here hx rfl (hb hby d3_3) rfl (l' := #[.val (.ref t1), .val (.int (Int32.ofNat A)), .val (.int (Int32.ofNat (A + 0))), .val (.ref t2), .val (.int (Int32.ofNat B)), .val (.int (Int32.ofNat (B + M))), .val (.int ((Int32.ofNat (A + 0)) - (Int32.ofNat A))), .unset]) rfl ?_
      show Steps p.tables e below (s₁.setTop (mkF m 5 #[.val (.ref t1), .val (.int (Int32.ofNat A)), .val (.int (Int32.ofNat (A + 0))), .val (.ref t2), .val (.int (Int32.ofNat B)), .val (.int (Int32.ofNat (B + M))), .val (.int ((Int32.ofNat (A + 0)) - (Int32.ofNat A))), .unset] [])) _
      refine XS.iload X0.here hx rfl (hb hby d3_5) rfl ?_
      show Steps p.tables e below (s₁.setTop (mkF m 7 #[.val (.ref t1), .val (.int (Int32.ofNat A)), .val (.int (Int32.ofNat (A + 0))), .val (.ref t2), .val (.int (Int32.ofNat B)), .val (.int (Int32.ofNat (B + M))), .val (.int ((Int32.ofNat (A + 0)) - (Int32.ofNat A))), .unset] [(.int ((Int32.ofNat (A + 0)) - (Int32.ofNat A)))])) _
      refine XS.iload X0.here hx rfl (hb hby d3_7) rfl ?_
      show Steps p.tables e below (s₁.setTop (mkF m 9 #[.val (.ref t1), .val (.int (Int32.ofNat A)), .val (.int (Int32.ofNat (A + 0))), .val (.ref t2), .val (.int (Int32.ofNat B)), .val (.int (Int32.ofNat (B + M))), .val (.int ((Int32.ofNat (A + 0)) - (Int32.ofNat A))), .unset] [(.int (Int32.ofNat (B + M))), (.int ((Int32.ofNat (A + 0)) - (Int32.ofNat A)))])) _
      refine XS.iload X0.here hx rfl (hb hby d3_9) rfl ?_
      show Steps p.tables e below (s₁.setTop (mkF m 11 #[.val (.ref t1), .val (.int (Int32.ofNat A)), .val (.int (Int32.ofNat (A + 0))), .val (.ref t2), .val (.int (Int32.ofNat B)), .val (.int (Int32.ofNat (B + M))), .val (.int ((Int32.ofNat (A + 0)) - (Int32.ofNat A))), .unset] [(.int (Int32.ofNat B)), (.int (Int32.ofNat (B + M))), (.int ((Int32.ofNat (A + 0)) - (Int32.ofNat A)))])) _
      refine XS.isub X0.here hx rfl (hb hby d3_11) rfl ?_
      exact kt
    rw [show ((Int32.ofNat (A + 0)) - (Int32.ofNat A)) = (0 : Int32) from own_sb A 0, show ((Int32.ofNat (B + M)) - (Int32.ofNat B)) = Int32.ofNat M from own_sb B M] at seg1
    by_cases hc12 : (0 : Int32) = (Int32.ofNat M)
    · have hMn : 0 = M := (own_inj (i := 0) (by omega) (by omega)).mp hc12
      obtain ⟨fs, hr, hrun, hended, hW, hsame⟩ := X0.leave (v := some (.int (1 : Int32))) (fun h => by rw [Bd.returns] at h; cases h)
      refine ⟨_, _, pre0 _ ?_, hrun, hended, _, _, rfl, ?_, ⟨_, rfl⟩, hW, hsame.mono (by decide) (by decide)⟩
      · show Steps p.tables e below (s₁.setTop (mkF m 0 #[.val (.ref t1), .val (.int (Int32.ofNat A)), .val (.int (Int32.ofNat (A + 0))), .val (.ref t2), .val (.int (Int32.ofNat B)), .val (.int (Int32.ofNat (B + M))), .unset, .unset] [])) _
        refine seg1 _ ?_
        show Steps p.tables e below (s₁.setTop (mkF m 12 #[.val (.ref t1), .val (.int (Int32.ofNat A)), .val (.int (Int32.ofNat (A + 0))), .val (.ref t2), .val (.int (Int32.ofNat B)), .val (.int (Int32.ofNat (B + M))), .val (.int (0 : Int32)), .unset] [(.int (Int32.ofNat M)), (.int (0 : Int32))])) _
        refine XS.icmpYes X0.here hx rfl (pc0 := 12) (pc' := 17) rfl (hb hby d3_12) rfl (teq hc12).1 (by decide) (by decide) ?_
        show Steps p.tables e below (s₁.setTop (mkF m 17 #[.val (.ref t1), .val (.int (Int32.ofNat A)), .val (.int (Int32.ofNat (A + 0))), .val (.ref t2), .val (.int (Int32.ofNat B)), .val (.int (Int32.ofNat (B + M))), .val (.int (0 : Int32)), .unset] [])) _
        refine XS.iconst X0.here hx rfl (hb hby d3_17) ?_
        show Steps p.tables e below (s₁.setTop (mkF m 18 #[.val (.ref t1), .val (.int (Int32.ofNat A)), .val (.int (Int32.ofNat (A + 0))), .val (.ref t2), .val (.int (Int32.ofNat B)), .val (.int (Int32.ofNat (B + M))), .val (.int (0 : Int32)), .unset] [(.int (0 : Int32))])) _
        refine XS.istore X0.here hx rfl (hb hby d3_18) rfl (l' := #[.val (.ref t1), .val (.int (Int32.ofNat A)), .val (.int (Int32.ofNat (A + 0))), .val (.ref t2), .val (.int (Int32.ofNat B)), .val (.int (Int32.ofNat (B + M))), .val (.int (0 : Int32)), .val (.int (0 : Int32))]) rfl ?_
        show Steps p.tables e below (s₁.setTop (mkF m 20 #[.val (.ref t1), .val (.int (Int32.ofNat A)), .val (.int (Int32.ofNat (A + 0))), .val (.ref t2), .val (.int (Int32.ofNat B)), .val (.int (Int32.ofNat (B + M))), .val (.int (0 : Int32)), .val (.int (0 : Int32))] [])) _
        refine XS.iload X0.here hx rfl (hb hby d3_20) rfl ?_
        show Steps p.tables e below (s₁.setTop (mkF m 22 #[.val (.ref t1), .val (.int (Int32.ofNat A)), .val (.int (Int32.ofNat (A + 0))), .val (.ref t2), .val (.int (Int32.ofNat B)), .val (.int (Int32.ofNat (B + M))), .val (.int (0 : Int32)), .val (.int (0 : Int32))] [(.int (0 : Int32))])) _
        refine XS.iload X0.here hx rfl (hb hby d3_22) rfl ?_
        show Steps p.tables e below (s₁.setTop (mkF m 24 #[.val (.ref t1), .val (.int (Int32.ofNat A)), .val (.int (Int32.ofNat (A + 0))), .val (.ref t2), .val (.int (Int32.ofNat B)), .val (.int (Int32.ofNat (B + M))), .val (.int (0 : Int32)), .val (.int (0 : Int32))] [(.int (0 : Int32)), (.int (0 : Int32))])) _
        refine XS.icmpYes X0.here hx rfl (pc0 := 24) (pc' := 51) rfl (hb hby d3_24) rfl (by decide) (by decide) (by decide) ?_
        show Steps p.tables e below (s₁.setTop (mkF m 51 #[.val (.ref t1), .val (.int (Int32.ofNat A)), .val (.int (Int32.ofNat (A + 0))), .val (.ref t2), .val (.int (Int32.ofNat B)), .val (.int (Int32.ofNat (B + M))), .val (.int (0 : Int32)), .val (.int (0 : Int32))] [])) _
        refine XS.iconst X0.here hx rfl (hb hby d3_51) ?_
        show Steps p.tables e below (s₁.setTop (mkF m 52 #[.val (.ref t1), .val (.int (Int32.ofNat A)), .val (.int (Int32.ofNat (A + 0))), .val (.ref t2), .val (.int (Int32.ofNat B)), .val (.int (Int32.ofNat (B + M))), .val (.int (0 : Int32)), .val (.int (0 : Int32))] [(.int (1 : Int32))])) _
        exact retN X0 hx (t := .boolean) Bd.returns (by simp) (hb hby d3_52) hr
      · show Q3 Z t1 t2 A B 0 M f g h0 n0 _ s₁.heap _
        rw [e0]
        exact ⟨_, rfl, N0, rfl, Or.inl ⟨rfl, (own_inj (i := 0) (by omega) (by omega)).mp hc12, own_all0 ⟩⟩
    · obtain ⟨fs, hr, hrun, hended, hW, hsame⟩ := X0.leave (v := some (.int (0 : Int32))) (fun h => by rw [Bd.returns] at h; cases h)
      refine ⟨_, _, pre0 _ ?_, hrun, hended, _, _, rfl, ?_, ⟨_, rfl⟩, hW, hsame.mono (by decide) (by decide)⟩
      · show Steps p.tables e below (s₁.setTop (mkF m 0 #[.val (.ref t1), .val (.int (Int32.ofNat A)), .val (.int (Int32.ofNat (A + 0))), .val (.ref t2), .val (.int (Int32.ofNat B)), .val (.int (Int32.ofNat (B + M))), .unset, .unset] [])) _
        refine seg1 _ ?_
        show Steps p.tables e below (s₁.setTop (mkF m 12 #[.val (.ref t1), .val (.int (Int32.ofNat A)), .val (.int (Int32.ofNat (A + 0))), .val (.ref t2), .val (.int (Int32.ofNat B)), .val (.int (Int32.ofNat (B + M))), .val (.int (0 : Int32)), .unset] [(.int (Int32.ofNat M)), (.int (0 : Int32))])) _
        refine XS.icmpNo X0.here hx rfl (hb hby d3_12) rfl (feq hc12).1 ?_
        show Steps p.tables e below (s₁.setTop (mkF m 15 #[.val (.ref t1), .val (.int (Int32.ofNat A)), .val (.int (Int32.ofNat (A + 0))), .val (.ref t2), .val (.int (Int32.ofNat B)), .val (.int (Int32.ofNat (B + M))), .val (.int (0 : Int32)), .unset] [])) _
        refine XS.iconst X0.here hx rfl (hb hby d3_15) ?_
        show Steps p.tables e below (s₁.setTop (mkF m 16 #[.val (.ref t1), .val (.int (Int32.ofNat A)), .val (.int (Int32.ofNat (A + 0))), .val (.ref t2), .val (.int (Int32.ofNat B)), .val (.int (Int32.ofNat (B + M))), .val (.int (0 : Int32)), .unset] [(.int (0 : Int32))])) _
        exact retN X0 hx (t := .boolean) Bd.returns (by simp) (hb hby d3_16) hr
      · show Q3 Z t1 t2 A B 0 M f g h0 n0 _ s₁.heap _
        rw [e0]
        exact ⟨_, rfl, N0, rfl, Or.inr ⟨rfl, fun q => hc12 (by rw [← q.1]; rfl)⟩⟩
  · have seg2 : ∀ target, Steps p.tables e below (s₁.setTop (mkF m 12 #[.val (.ref t1), .val (.int (Int32.ofNat A)), .val (.int (Int32.ofNat (A + 1))), .val (.ref t2), .val (.int (Int32.ofNat B)), .val (.int (Int32.ofNat (B + M))), .val (.int ((Int32.ofNat (A + 1)) - (Int32.ofNat A))), .unset] [(.int ((Int32.ofNat (B + M)) - (Int32.ofNat B))), (.int ((Int32.ofNat (A + 1)) - (Int32.ofNat A)))])) target → Steps p.tables e below (s₁.setTop (mkF m 0 #[.val (.ref t1), .val (.int (Int32.ofNat A)), .val (.int (Int32.ofNat (A + 1))), .val (.ref t2), .val (.int (Int32.ofNat B)), .val (.int (Int32.ofNat (B + M))), .unset, .unset] [])) target := by
      intro target kt
      show Steps p.tables e below (s₁.setTop (mkF m 0 #[.val (.ref t1), .val (.int (Int32.ofNat A)), .val (.int (Int32.ofNat (A + 1))), .val (.ref t2), .val (.int (Int32.ofNat B)), .val (.int (Int32.ofNat (B + M))), .unset, .unset] [])) _
      refine XS.iloadN X0.here hx rfl (hb hby d3_0) rfl ?_
      show Steps p.tables e below (s₁.setTop (mkF m 1 #[.val (.ref t1), .val (.int (Int32.ofNat A)), .val (.int (Int32.ofNat (A + 1))), .val (.ref t2), .val (.int (Int32.ofNat B)), .val (.int (Int32.ofNat (B + M))), .unset, .unset] [(.int (Int32.ofNat (A + 1)))])) _
      refine XS.iloadN X0.here hx rfl (hb hby d3_1) rfl ?_
      show Steps p.tables e below (s₁.setTop (mkF m 2 #[.val (.ref t1), .val (.int (Int32.ofNat A)), .val (.int (Int32.ofNat (A + 1))), .val (.ref t2), .val (.int (Int32.ofNat B)), .val (.int (Int32.ofNat (B + M))), .unset, .unset] [(.int (Int32.ofNat A)), (.int (Int32.ofNat (A + 1)))])) _
      refine XS.isub X0.here hx rfl (hb hby d3_2) rfl ?_
      show Steps p.tables e below (s₁.setTop (mkF m 3 #[.val (.ref t1), .val (.int (Int32.ofNat A)), .val (.int (Int32.ofNat (A + 1))), .val (.ref t2), .val (.int (Int32.ofNat B)), .val (.int (Int32.ofNat (B + M))), .unset, .unset] [(.int ((Int32.ofNat (A + 1)) - (Int32.ofNat A)))])) _
      refine XS.istore X0.here hx rfl (hb hby d3_3) rfl (l' := #[.val (.ref t1), .val (.int (Int32.ofNat A)), .val (.int (Int32.ofNat (A + 1))), .val (.ref t2), .val (.int (Int32.ofNat B)), .val (.int (Int32.ofNat (B + M))), .val (.int ((Int32.ofNat (A + 1)) - (Int32.ofNat A))), .unset]) rfl ?_
      show Steps p.tables e below (s₁.setTop (mkF m 5 #[.val (.ref t1), .val (.int (Int32.ofNat A)), .val (.int (Int32.ofNat (A + 1))), .val (.ref t2), .val (.int (Int32.ofNat B)), .val (.int (Int32.ofNat (B + M))), .val (.int ((Int32.ofNat (A + 1)) - (Int32.ofNat A))), .unset] [])) _
      refine XS.iload X0.here hx rfl (hb hby d3_5) rfl ?_
      show Steps p.tables e below (s₁.setTop (mkF m 7 #[.val (.ref t1), .val (.int (Int32.ofNat A)), .val (.int (Int32.ofNat (A + 1))), .val (.ref t2), .val (.int (Int32.ofNat B)), .val (.int (Int32.ofNat (B + M))), .val (.int ((Int32.ofNat (A + 1)) - (Int32.ofNat A))), .unset] [(.int ((Int32.ofNat (A + 1)) - (Int32.ofNat A)))])) _
      refine XS.iload X0.here hx rfl (hb hby d3_7) rfl ?_
      show Steps p.tables e below (s₁.setTop (mkF m 9 #[.val (.ref t1), .val (.int (Int32.ofNat A)), .val (.int (Int32.ofNat (A + 1))), .val (.ref t2), .val (.int (Int32.ofNat B)), .val (.int (Int32.ofNat (B + M))), .val (.int ((Int32.ofNat (A + 1)) - (Int32.ofNat A))), .unset] [(.int (Int32.ofNat (B + M))), (.int ((Int32.ofNat (A + 1)) - (Int32.ofNat A)))])) _
      refine XS.iload X0.here hx rfl (hb hby d3_9) rfl ?_
      show Steps p.tables e below (s₁.setTop (mkF m 11 #[.val (.ref t1), .val (.int (Int32.ofNat A)), .val (.int (Int32.ofNat (A + 1))), .val (.ref t2), .val (.int (Int32.ofNat B)), .val (.int (Int32.ofNat (B + M))), .val (.int ((Int32.ofNat (A + 1)) - (Int32.ofNat A))), .unset] [(.int (Int32.ofNat B)), (.int (Int32.ofNat (B + M))), (.int ((Int32.ofNat (A + 1)) - (Int32.ofNat A)))])) _
      refine XS.isub X0.here hx rfl (hb hby d3_11) rfl ?_
      exact kt
    rw [show ((Int32.ofNat (A + 1)) - (Int32.ofNat A)) = (1 : Int32) from own_sb A 1, show ((Int32.ofNat (B + M)) - (Int32.ofNat B)) = Int32.ofNat M from own_sb B M] at seg2
    by_cases hc12 : (1 : Int32) = (Int32.ofNat M)
    · have hMn : 1 = M := (own_inj (i := 1) (by omega) (by omega)).mp hc12
      obtain ⟨cl3, Ar3, S3, H3⟩ := id BA
      have hin3 : ¬ (((Int32.ofNat A) + (0 : Int32)) < 0 ∨ cl3.slots.size ≤ (((Int32.ofNat A) + (0 : Int32))).toNatClampNeg) := by rw [S3]; exact within (show Int32.ofNat A + (0 : Int32) = Int32.ofNat (A + 0) from by rw [show (0 : Int32) = Int32.ofNat 0 from by decide]; exact own_ad A 0) (show A + 0 < 4 by omega) (by decide)
      have hat3 : cl3.slots[(((Int32.ofNat A) + (0 : Int32))).toNatClampNeg]? = some (.int (f (A + 0))) := by rw [clamp_of (show Int32.ofNat A + (0 : Int32) = Int32.ofNat (A + 0) from by rw [show (0 : Int32) = Int32.ofNat 0 from by decide]; exact own_ad A 0) (Nat.lt_trans (show A + 0 < 4 by omega) (by decide))]; exact H3 _ (show A + 0 < 4 by omega)
      obtain ⟨cl4, Ar4, S4, H4⟩ := id BB
      have hin4 : ¬ (((Int32.ofNat B) + (0 : Int32)) < 0 ∨ cl4.slots.size ≤ (((Int32.ofNat B) + (0 : Int32))).toNatClampNeg) := by rw [S4]; exact within (show Int32.ofNat B + (0 : Int32) = Int32.ofNat (B + 0) from by rw [show (0 : Int32) = Int32.ofNat 0 from by decide]; exact own_ad B 0) (show B + 0 < 4 by omega) (by decide)
      have hat4 : cl4.slots[(((Int32.ofNat B) + (0 : Int32))).toNatClampNeg]? = some (.int (g (B + 0))) := by rw [clamp_of (show Int32.ofNat B + (0 : Int32) = Int32.ofNat (B + 0) from by rw [show (0 : Int32) = Int32.ofNat 0 from by decide]; exact own_ad B 0) (Nat.lt_trans (show B + 0 < 4 by omega) (by decide))]; exact H4 _ (show B + 0 < 4 by omega)
      by_cases hc40 : (f (A + 0)) = (g (B + 0))
      · obtain ⟨fs, hr, hrun, hended, hW, hsame⟩ := X0.leave (v := some (.int (1 : Int32))) (fun h => by rw [Bd.returns] at h; cases h)
        refine ⟨_, _, pre0 _ ?_, hrun, hended, _, _, rfl, ?_, ⟨_, rfl⟩, hW, hsame.mono (by decide) (by decide)⟩
        · show Steps p.tables e below (s₁.setTop (mkF m 0 #[.val (.ref t1), .val (.int (Int32.ofNat A)), .val (.int (Int32.ofNat (A + 1))), .val (.ref t2), .val (.int (Int32.ofNat B)), .val (.int (Int32.ofNat (B + M))), .unset, .unset] [])) _
          refine seg2 _ ?_
          show Steps p.tables e below (s₁.setTop (mkF m 12 #[.val (.ref t1), .val (.int (Int32.ofNat A)), .val (.int (Int32.ofNat (A + 1))), .val (.ref t2), .val (.int (Int32.ofNat B)), .val (.int (Int32.ofNat (B + M))), .val (.int (1 : Int32)), .unset] [(.int (Int32.ofNat M)), (.int (1 : Int32))])) _
          refine XS.icmpYes X0.here hx rfl (pc0 := 12) (pc' := 17) rfl (hb hby d3_12) rfl (teq hc12).1 (by decide) (by decide) ?_
          show Steps p.tables e below (s₁.setTop (mkF m 17 #[.val (.ref t1), .val (.int (Int32.ofNat A)), .val (.int (Int32.ofNat (A + 1))), .val (.ref t2), .val (.int (Int32.ofNat B)), .val (.int (Int32.ofNat (B + M))), .val (.int (1 : Int32)), .unset] [])) _
          refine XS.iconst X0.here hx rfl (hb hby d3_17) ?_
          show Steps p.tables e below (s₁.setTop (mkF m 18 #[.val (.ref t1), .val (.int (Int32.ofNat A)), .val (.int (Int32.ofNat (A + 1))), .val (.ref t2), .val (.int (Int32.ofNat B)), .val (.int (Int32.ofNat (B + M))), .val (.int (1 : Int32)), .unset] [(.int (0 : Int32))])) _
          refine XS.istore X0.here hx rfl (hb hby d3_18) rfl (l' := #[.val (.ref t1), .val (.int (Int32.ofNat A)), .val (.int (Int32.ofNat (A + 1))), .val (.ref t2), .val (.int (Int32.ofNat B)), .val (.int (Int32.ofNat (B + M))), .val (.int (1 : Int32)), .val (.int (0 : Int32))]) rfl ?_
          show Steps p.tables e below (s₁.setTop (mkF m 20 #[.val (.ref t1), .val (.int (Int32.ofNat A)), .val (.int (Int32.ofNat (A + 1))), .val (.ref t2), .val (.int (Int32.ofNat B)), .val (.int (Int32.ofNat (B + M))), .val (.int (1 : Int32)), .val (.int (0 : Int32))] [])) _
          refine XS.iload X0.here hx rfl (hb hby d3_20) rfl ?_
          show Steps p.tables e below (s₁.setTop (mkF m 22 #[.val (.ref t1), .val (.int (Int32.ofNat A)), .val (.int (Int32.ofNat (A + 1))), .val (.ref t2), .val (.int (Int32.ofNat B)), .val (.int (Int32.ofNat (B + M))), .val (.int (1 : Int32)), .val (.int (0 : Int32))] [(.int (0 : Int32))])) _
          refine XS.iload X0.here hx rfl (hb hby d3_22) rfl ?_
          show Steps p.tables e below (s₁.setTop (mkF m 24 #[.val (.ref t1), .val (.int (Int32.ofNat A)), .val (.int (Int32.ofNat (A + 1))), .val (.ref t2), .val (.int (Int32.ofNat B)), .val (.int (Int32.ofNat (B + M))), .val (.int (1 : Int32)), .val (.int (0 : Int32))] [(.int (1 : Int32)), (.int (0 : Int32))])) _
          refine XS.icmpNo X0.here hx rfl (hb hby d3_24) rfl (by decide) ?_
          show Steps p.tables e below (s₁.setTop (mkF m 27 #[.val (.ref t1), .val (.int (Int32.ofNat A)), .val (.int (Int32.ofNat (A + 1))), .val (.ref t2), .val (.int (Int32.ofNat B)), .val (.int (Int32.ofNat (B + M))), .val (.int (1 : Int32)), .val (.int (0 : Int32))] [])) _
          refine XS.aloadN X0.here hx rfl (hb hby d3_27) rfl rfl ?_
          show Steps p.tables e below (s₁.setTop (mkF m 28 #[.val (.ref t1), .val (.int (Int32.ofNat A)), .val (.int (Int32.ofNat (A + 1))), .val (.ref t2), .val (.int (Int32.ofNat B)), .val (.int (Int32.ofNat (B + M))), .val (.int (1 : Int32)), .val (.int (0 : Int32))] [(.ref t1)])) _
          refine XS.iloadN X0.here hx rfl (hb hby d3_28) rfl ?_
          show Steps p.tables e below (s₁.setTop (mkF m 29 #[.val (.ref t1), .val (.int (Int32.ofNat A)), .val (.int (Int32.ofNat (A + 1))), .val (.ref t2), .val (.int (Int32.ofNat B)), .val (.int (Int32.ofNat (B + M))), .val (.int (1 : Int32)), .val (.int (0 : Int32))] [(.int (Int32.ofNat A)), (.ref t1)])) _
          refine XS.iload X0.here hx rfl (hb hby d3_29) rfl ?_
          show Steps p.tables e below (s₁.setTop (mkF m 31 #[.val (.ref t1), .val (.int (Int32.ofNat A)), .val (.int (Int32.ofNat (A + 1))), .val (.ref t2), .val (.int (Int32.ofNat B)), .val (.int (Int32.ofNat (B + M))), .val (.int (1 : Int32)), .val (.int (0 : Int32))] [(.int (0 : Int32)), (.int (Int32.ofNat A)), (.ref t1)])) _
          refine XS.iadd X0.here hx rfl (hb hby d3_31) rfl ?_
          show Steps p.tables e below (s₁.setTop (mkF m 32 #[.val (.ref t1), .val (.int (Int32.ofNat A)), .val (.int (Int32.ofNat (A + 1))), .val (.ref t2), .val (.int (Int32.ofNat B)), .val (.int (Int32.ofNat (B + M))), .val (.int (1 : Int32)), .val (.int (0 : Int32))] [(.int ((Int32.ofNat A) + (0 : Int32))), (.ref t1)])) _
          refine X0.baloadBytes hx (j := ((Int32.ofNat A) + (0 : Int32))) (v := (.int (f (A + 0)))) (by rw [e0]; exact Ar3.1) (State.isArrayOf_alike hZ.alike Ar3.2.1) Ar3.2.2 hin3 hat3 (g := (mkF m 32 #[.val (.ref t1), .val (.int (Int32.ofNat A)), .val (.int (Int32.ofNat (A + 1))), .val (.ref t2), .val (.int (Int32.ofNat B)), .val (.int (Int32.ofNat (B + M))), .val (.int (1 : Int32)), .val (.int (0 : Int32))] [(.int ((Int32.ofNat A) + (0 : Int32))), (.ref t1)])) rfl rfl (hb hby d3_32) _ ?_
          show Steps p.tables e below (s₁.setTop (mkF m 33 #[.val (.ref t1), .val (.int (Int32.ofNat A)), .val (.int (Int32.ofNat (A + 1))), .val (.ref t2), .val (.int (Int32.ofNat B)), .val (.int (Int32.ofNat (B + M))), .val (.int (1 : Int32)), .val (.int (0 : Int32))] [(.int (f (A + 0)))])) _
          refine XS.aloadN X0.here hx rfl (hb hby d3_33) rfl rfl ?_
          show Steps p.tables e below (s₁.setTop (mkF m 34 #[.val (.ref t1), .val (.int (Int32.ofNat A)), .val (.int (Int32.ofNat (A + 1))), .val (.ref t2), .val (.int (Int32.ofNat B)), .val (.int (Int32.ofNat (B + M))), .val (.int (1 : Int32)), .val (.int (0 : Int32))] [(.ref t2), (.int (f (A + 0)))])) _
          refine XS.iload X0.here hx rfl (hb hby d3_34) rfl ?_
          show Steps p.tables e below (s₁.setTop (mkF m 36 #[.val (.ref t1), .val (.int (Int32.ofNat A)), .val (.int (Int32.ofNat (A + 1))), .val (.ref t2), .val (.int (Int32.ofNat B)), .val (.int (Int32.ofNat (B + M))), .val (.int (1 : Int32)), .val (.int (0 : Int32))] [(.int (Int32.ofNat B)), (.ref t2), (.int (f (A + 0)))])) _
          refine XS.iload X0.here hx rfl (hb hby d3_36) rfl ?_
          show Steps p.tables e below (s₁.setTop (mkF m 38 #[.val (.ref t1), .val (.int (Int32.ofNat A)), .val (.int (Int32.ofNat (A + 1))), .val (.ref t2), .val (.int (Int32.ofNat B)), .val (.int (Int32.ofNat (B + M))), .val (.int (1 : Int32)), .val (.int (0 : Int32))] [(.int (0 : Int32)), (.int (Int32.ofNat B)), (.ref t2), (.int (f (A + 0)))])) _
          refine XS.iadd X0.here hx rfl (hb hby d3_38) rfl ?_
          show Steps p.tables e below (s₁.setTop (mkF m 39 #[.val (.ref t1), .val (.int (Int32.ofNat A)), .val (.int (Int32.ofNat (A + 1))), .val (.ref t2), .val (.int (Int32.ofNat B)), .val (.int (Int32.ofNat (B + M))), .val (.int (1 : Int32)), .val (.int (0 : Int32))] [(.int ((Int32.ofNat B) + (0 : Int32))), (.ref t2), (.int (f (A + 0)))])) _
          refine X0.baloadBytes hx (j := ((Int32.ofNat B) + (0 : Int32))) (v := (.int (g (B + 0)))) (by rw [e0]; exact Ar4.1) (State.isArrayOf_alike hZ.alike Ar4.2.1) Ar4.2.2 hin4 hat4 (g := (mkF m 39 #[.val (.ref t1), .val (.int (Int32.ofNat A)), .val (.int (Int32.ofNat (A + 1))), .val (.ref t2), .val (.int (Int32.ofNat B)), .val (.int (Int32.ofNat (B + M))), .val (.int (1 : Int32)), .val (.int (0 : Int32))] [(.int ((Int32.ofNat B) + (0 : Int32))), (.ref t2), (.int (f (A + 0)))])) rfl rfl (hb hby d3_39) _ ?_
          show Steps p.tables e below (s₁.setTop (mkF m 40 #[.val (.ref t1), .val (.int (Int32.ofNat A)), .val (.int (Int32.ofNat (A + 1))), .val (.ref t2), .val (.int (Int32.ofNat B)), .val (.int (Int32.ofNat (B + M))), .val (.int (1 : Int32)), .val (.int (0 : Int32))] [(.int (g (B + 0))), (.int (f (A + 0)))])) _
          refine XS.icmpYes X0.here hx rfl (pc0 := 40) (pc' := 45) rfl (hb hby d3_40) rfl (teq hc40).1 (by decide) (by decide) ?_
          show Steps p.tables e below (s₁.setTop (mkF m 45 #[.val (.ref t1), .val (.int (Int32.ofNat A)), .val (.int (Int32.ofNat (A + 1))), .val (.ref t2), .val (.int (Int32.ofNat B)), .val (.int (Int32.ofNat (B + M))), .val (.int (1 : Int32)), .val (.int (0 : Int32))] [])) _
          refine XS.iinc X0.here hx rfl (hb hby d3_45) rfl (l' := #[.val (.ref t1), .val (.int (Int32.ofNat A)), .val (.int (Int32.ofNat (A + 1))), .val (.ref t2), .val (.int (Int32.ofNat B)), .val (.int (Int32.ofNat (B + M))), .val (.int (1 : Int32)), .val (.int ((0 : Int32) + (1 : Int32)))]) rfl ?_
          show Steps p.tables e below (s₁.setTop (mkF m 48 #[.val (.ref t1), .val (.int (Int32.ofNat A)), .val (.int (Int32.ofNat (A + 1))), .val (.ref t2), .val (.int (Int32.ofNat B)), .val (.int (Int32.ofNat (B + M))), .val (.int (1 : Int32)), .val (.int ((0 : Int32) + (1 : Int32)))] [])) _
          refine XS.goto X0.here hx rfl (pc0 := 48) (pc' := 20) rfl (hb hby d3_48) (by decide) (by decide) ?_
          show Steps p.tables e below (s₁.setTop (mkF m 20 #[.val (.ref t1), .val (.int (Int32.ofNat A)), .val (.int (Int32.ofNat (A + 1))), .val (.ref t2), .val (.int (Int32.ofNat B)), .val (.int (Int32.ofNat (B + M))), .val (.int (1 : Int32)), .val (.int ((0 : Int32) + (1 : Int32)))] [])) _
          refine XS.iload X0.here hx rfl (hb hby d3_20) rfl ?_
          show Steps p.tables e below (s₁.setTop (mkF m 22 #[.val (.ref t1), .val (.int (Int32.ofNat A)), .val (.int (Int32.ofNat (A + 1))), .val (.ref t2), .val (.int (Int32.ofNat B)), .val (.int (Int32.ofNat (B + M))), .val (.int (1 : Int32)), .val (.int ((0 : Int32) + (1 : Int32)))] [(.int ((0 : Int32) + (1 : Int32)))])) _
          refine XS.iload X0.here hx rfl (hb hby d3_22) rfl ?_
          show Steps p.tables e below (s₁.setTop (mkF m 24 #[.val (.ref t1), .val (.int (Int32.ofNat A)), .val (.int (Int32.ofNat (A + 1))), .val (.ref t2), .val (.int (Int32.ofNat B)), .val (.int (Int32.ofNat (B + M))), .val (.int (1 : Int32)), .val (.int ((0 : Int32) + (1 : Int32)))] [(.int (1 : Int32)), (.int ((0 : Int32) + (1 : Int32)))])) _
          refine XS.icmpYes X0.here hx rfl (pc0 := 24) (pc' := 51) rfl (hb hby d3_24) rfl (by decide) (by decide) (by decide) ?_
          show Steps p.tables e below (s₁.setTop (mkF m 51 #[.val (.ref t1), .val (.int (Int32.ofNat A)), .val (.int (Int32.ofNat (A + 1))), .val (.ref t2), .val (.int (Int32.ofNat B)), .val (.int (Int32.ofNat (B + M))), .val (.int (1 : Int32)), .val (.int ((0 : Int32) + (1 : Int32)))] [])) _
          refine XS.iconst X0.here hx rfl (hb hby d3_51) ?_
          show Steps p.tables e below (s₁.setTop (mkF m 52 #[.val (.ref t1), .val (.int (Int32.ofNat A)), .val (.int (Int32.ofNat (A + 1))), .val (.ref t2), .val (.int (Int32.ofNat B)), .val (.int (Int32.ofNat (B + M))), .val (.int (1 : Int32)), .val (.int ((0 : Int32) + (1 : Int32)))] [(.int (1 : Int32))])) _
          exact retN X0 hx (t := .boolean) Bd.returns (by simp) (hb hby d3_52) hr
        · show Q3 Z t1 t2 A B 1 M f g h0 n0 _ s₁.heap _
          rw [e0]
          exact ⟨_, rfl, N0, rfl, Or.inl ⟨rfl, (own_inj (i := 1) (by omega) (by omega)).mp hc12, own_all1 hc40⟩⟩
      · obtain ⟨fs, hr, hrun, hended, hW, hsame⟩ := X0.leave (v := some (.int (0 : Int32))) (fun h => by rw [Bd.returns] at h; cases h)
        refine ⟨_, _, pre0 _ ?_, hrun, hended, _, _, rfl, ?_, ⟨_, rfl⟩, hW, hsame.mono (by decide) (by decide)⟩
        · show Steps p.tables e below (s₁.setTop (mkF m 0 #[.val (.ref t1), .val (.int (Int32.ofNat A)), .val (.int (Int32.ofNat (A + 1))), .val (.ref t2), .val (.int (Int32.ofNat B)), .val (.int (Int32.ofNat (B + M))), .unset, .unset] [])) _
          refine seg2 _ ?_
          show Steps p.tables e below (s₁.setTop (mkF m 12 #[.val (.ref t1), .val (.int (Int32.ofNat A)), .val (.int (Int32.ofNat (A + 1))), .val (.ref t2), .val (.int (Int32.ofNat B)), .val (.int (Int32.ofNat (B + M))), .val (.int (1 : Int32)), .unset] [(.int (Int32.ofNat M)), (.int (1 : Int32))])) _
          refine XS.icmpYes X0.here hx rfl (pc0 := 12) (pc' := 17) rfl (hb hby d3_12) rfl (teq hc12).1 (by decide) (by decide) ?_
          show Steps p.tables e below (s₁.setTop (mkF m 17 #[.val (.ref t1), .val (.int (Int32.ofNat A)), .val (.int (Int32.ofNat (A + 1))), .val (.ref t2), .val (.int (Int32.ofNat B)), .val (.int (Int32.ofNat (B + M))), .val (.int (1 : Int32)), .unset] [])) _
          refine XS.iconst X0.here hx rfl (hb hby d3_17) ?_
          show Steps p.tables e below (s₁.setTop (mkF m 18 #[.val (.ref t1), .val (.int (Int32.ofNat A)), .val (.int (Int32.ofNat (A + 1))), .val (.ref t2), .val (.int (Int32.ofNat B)), .val (.int (Int32.ofNat (B + M))), .val (.int (1 : Int32)), .unset] [(.int (0 : Int32))])) _
          refine XS.istore X0.here hx rfl (hb hby d3_18) rfl (l' := #[.val (.ref t1), .val (.int (Int32.ofNat A)), .val (.int (Int32.ofNat (A + 1))), .val (.ref t2), .val (.int (Int32.ofNat B)), .val (.int (Int32.ofNat (B + M))), .val (.int (1 : Int32)), .val (.int (0 : Int32))]) rfl ?_
          show Steps p.tables e below (s₁.setTop (mkF m 20 #[.val (.ref t1), .val (.int (Int32.ofNat A)), .val (.int (Int32.ofNat (A + 1))), .val (.ref t2), .val (.int (Int32.ofNat B)), .val (.int (Int32.ofNat (B + M))), .val (.int (1 : Int32)), .val (.int (0 : Int32))] [])) _
          refine XS.iload X0.here hx rfl (hb hby d3_20) rfl ?_
          show Steps p.tables e below (s₁.setTop (mkF m 22 #[.val (.ref t1), .val (.int (Int32.ofNat A)), .val (.int (Int32.ofNat (A + 1))), .val (.ref t2), .val (.int (Int32.ofNat B)), .val (.int (Int32.ofNat (B + M))), .val (.int (1 : Int32)), .val (.int (0 : Int32))] [(.int (0 : Int32))])) _
          refine XS.iload X0.here hx rfl (hb hby d3_22) rfl ?_
          show Steps p.tables e below (s₁.setTop (mkF m 24 #[.val (.ref t1), .val (.int (Int32.ofNat A)), .val (.int (Int32.ofNat (A + 1))), .val (.ref t2), .val (.int (Int32.ofNat B)), .val (.int (Int32.ofNat (B + M))), .val (.int (1 : Int32)), .val (.int (0 : Int32))] [(.int (1 : Int32)), (.int (0 : Int32))])) _
          refine XS.icmpNo X0.here hx rfl (hb hby d3_24) rfl (by decide) ?_
          show Steps p.tables e below (s₁.setTop (mkF m 27 #[.val (.ref t1), .val (.int (Int32.ofNat A)), .val (.int (Int32.ofNat (A + 1))), .val (.ref t2), .val (.int (Int32.ofNat B)), .val (.int (Int32.ofNat (B + M))), .val (.int (1 : Int32)), .val (.int (0 : Int32))] [])) _
          refine XS.aloadN X0.here hx rfl (hb hby d3_27) rfl rfl ?_
          show Steps p.tables e below (s₁.setTop (mkF m 28 #[.val (.ref t1), .val (.int (Int32.ofNat A)), .val (.int (Int32.ofNat (A + 1))), .val (.ref t2), .val (.int (Int32.ofNat B)), .val (.int (Int32.ofNat (B + M))), .val (.int (1 : Int32)), .val (.int (0 : Int32))] [(.ref t1)])) _
          refine XS.iloadN X0.here hx rfl (hb hby d3_28) rfl ?_
          show Steps p.tables e below (s₁.setTop (mkF m 29 #[.val (.ref t1), .val (.int (Int32.ofNat A)), .val (.int (Int32.ofNat (A + 1))), .val (.ref t2), .val (.int (Int32.ofNat B)), .val (.int (Int32.ofNat (B + M))), .val (.int (1 : Int32)), .val (.int (0 : Int32))] [(.int (Int32.ofNat A)), (.ref t1)])) _
          refine XS.iload X0.here hx rfl (hb hby d3_29) rfl ?_
          show Steps p.tables e below (s₁.setTop (mkF m 31 #[.val (.ref t1), .val (.int (Int32.ofNat A)), .val (.int (Int32.ofNat (A + 1))), .val (.ref t2), .val (.int (Int32.ofNat B)), .val (.int (Int32.ofNat (B + M))), .val (.int (1 : Int32)), .val (.int (0 : Int32))] [(.int (0 : Int32)), (.int (Int32.ofNat A)), (.ref t1)])) _
          refine XS.iadd X0.here hx rfl (hb hby d3_31) rfl ?_
          show Steps p.tables e below (s₁.setTop (mkF m 32 #[.val (.ref t1), .val (.int (Int32.ofNat A)), .val (.int (Int32.ofNat (A + 1))), .val (.ref t2), .val (.int (Int32.ofNat B)), .val (.int (Int32.ofNat (B + M))), .val (.int (1 : Int32)), .val (.int (0 : Int32))] [(.int ((Int32.ofNat A) + (0 : Int32))), (.ref t1)])) _
          refine X0.baloadBytes hx (j := ((Int32.ofNat A) + (0 : Int32))) (v := (.int (f (A + 0)))) (by rw [e0]; exact Ar3.1) (State.isArrayOf_alike hZ.alike Ar3.2.1) Ar3.2.2 hin3 hat3 (g := (mkF m 32 #[.val (.ref t1), .val (.int (Int32.ofNat A)), .val (.int (Int32.ofNat (A + 1))), .val (.ref t2), .val (.int (Int32.ofNat B)), .val (.int (Int32.ofNat (B + M))), .val (.int (1 : Int32)), .val (.int (0 : Int32))] [(.int ((Int32.ofNat A) + (0 : Int32))), (.ref t1)])) rfl rfl (hb hby d3_32) _ ?_
          show Steps p.tables e below (s₁.setTop (mkF m 33 #[.val (.ref t1), .val (.int (Int32.ofNat A)), .val (.int (Int32.ofNat (A + 1))), .val (.ref t2), .val (.int (Int32.ofNat B)), .val (.int (Int32.ofNat (B + M))), .val (.int (1 : Int32)), .val (.int (0 : Int32))] [(.int (f (A + 0)))])) _
          refine XS.aloadN X0.here hx rfl (hb hby d3_33) rfl rfl ?_
          show Steps p.tables e below (s₁.setTop (mkF m 34 #[.val (.ref t1), .val (.int (Int32.ofNat A)), .val (.int (Int32.ofNat (A + 1))), .val (.ref t2), .val (.int (Int32.ofNat B)), .val (.int (Int32.ofNat (B + M))), .val (.int (1 : Int32)), .val (.int (0 : Int32))] [(.ref t2), (.int (f (A + 0)))])) _
          refine XS.iload X0.here hx rfl (hb hby d3_34) rfl ?_
          show Steps p.tables e below (s₁.setTop (mkF m 36 #[.val (.ref t1), .val (.int (Int32.ofNat A)), .val (.int (Int32.ofNat (A + 1))), .val (.ref t2), .val (.int (Int32.ofNat B)), .val (.int (Int32.ofNat (B + M))), .val (.int (1 : Int32)), .val (.int (0 : Int32))] [(.int (Int32.ofNat B)), (.ref t2), (.int (f (A + 0)))])) _
          refine XS.iload X0.here hx rfl (hb hby d3_36) rfl ?_
          show Steps p.tables e below (s₁.setTop (mkF m 38 #[.val (.ref t1), .val (.int (Int32.ofNat A)), .val (.int (Int32.ofNat (A + 1))), .val (.ref t2), .val (.int (Int32.ofNat B)), .val (.int (Int32.ofNat (B + M))), .val (.int (1 : Int32)), .val (.int (0 : Int32))] [(.int (0 : Int32)), (.int (Int32.ofNat B)), (.ref t2), (.int (f (A + 0)))])) _
          refine XS.iadd X0.here hx rfl (hb hby d3_38) rfl ?_
          show Steps p.tables e below (s₁.setTop (mkF m 39 #[.val (.ref t1), .val (.int (Int32.ofNat A)), .val (.int (Int32.ofNat (A + 1))), .val (.ref t2), .val (.int (Int32.ofNat B)), .val (.int (Int32.ofNat (B + M))), .val (.int (1 : Int32)), .val (.int (0 : Int32))] [(.int ((Int32.ofNat B) + (0 : Int32))), (.ref t2), (.int (f (A + 0)))])) _
          refine X0.baloadBytes hx (j := ((Int32.ofNat B) + (0 : Int32))) (v := (.int (g (B + 0)))) (by rw [e0]; exact Ar4.1) (State.isArrayOf_alike hZ.alike Ar4.2.1) Ar4.2.2 hin4 hat4 (g := (mkF m 39 #[.val (.ref t1), .val (.int (Int32.ofNat A)), .val (.int (Int32.ofNat (A + 1))), .val (.ref t2), .val (.int (Int32.ofNat B)), .val (.int (Int32.ofNat (B + M))), .val (.int (1 : Int32)), .val (.int (0 : Int32))] [(.int ((Int32.ofNat B) + (0 : Int32))), (.ref t2), (.int (f (A + 0)))])) rfl rfl (hb hby d3_39) _ ?_
          show Steps p.tables e below (s₁.setTop (mkF m 40 #[.val (.ref t1), .val (.int (Int32.ofNat A)), .val (.int (Int32.ofNat (A + 1))), .val (.ref t2), .val (.int (Int32.ofNat B)), .val (.int (Int32.ofNat (B + M))), .val (.int (1 : Int32)), .val (.int (0 : Int32))] [(.int (g (B + 0))), (.int (f (A + 0)))])) _
          refine XS.icmpNo X0.here hx rfl (hb hby d3_40) rfl (feq hc40).1 ?_
          show Steps p.tables e below (s₁.setTop (mkF m 43 #[.val (.ref t1), .val (.int (Int32.ofNat A)), .val (.int (Int32.ofNat (A + 1))), .val (.ref t2), .val (.int (Int32.ofNat B)), .val (.int (Int32.ofNat (B + M))), .val (.int (1 : Int32)), .val (.int (0 : Int32))] [])) _
          refine XS.iconst X0.here hx rfl (hb hby d3_43) ?_
          show Steps p.tables e below (s₁.setTop (mkF m 44 #[.val (.ref t1), .val (.int (Int32.ofNat A)), .val (.int (Int32.ofNat (A + 1))), .val (.ref t2), .val (.int (Int32.ofNat B)), .val (.int (Int32.ofNat (B + M))), .val (.int (1 : Int32)), .val (.int (0 : Int32))] [(.int (0 : Int32))])) _
          exact retN X0 hx (t := .boolean) Bd.returns (by simp) (hb hby d3_44) hr
        · show Q3 Z t1 t2 A B 1 M f g h0 n0 _ s₁.heap _
          rw [e0]
          exact ⟨_, rfl, N0, rfl, Or.inr ⟨rfl, fun q => hc40 (q.2 0 (by omega))⟩⟩
    · obtain ⟨fs, hr, hrun, hended, hW, hsame⟩ := X0.leave (v := some (.int (0 : Int32))) (fun h => by rw [Bd.returns] at h; cases h)
      refine ⟨_, _, pre0 _ ?_, hrun, hended, _, _, rfl, ?_, ⟨_, rfl⟩, hW, hsame.mono (by decide) (by decide)⟩
      · show Steps p.tables e below (s₁.setTop (mkF m 0 #[.val (.ref t1), .val (.int (Int32.ofNat A)), .val (.int (Int32.ofNat (A + 1))), .val (.ref t2), .val (.int (Int32.ofNat B)), .val (.int (Int32.ofNat (B + M))), .unset, .unset] [])) _
        refine seg2 _ ?_
        show Steps p.tables e below (s₁.setTop (mkF m 12 #[.val (.ref t1), .val (.int (Int32.ofNat A)), .val (.int (Int32.ofNat (A + 1))), .val (.ref t2), .val (.int (Int32.ofNat B)), .val (.int (Int32.ofNat (B + M))), .val (.int (1 : Int32)), .unset] [(.int (Int32.ofNat M)), (.int (1 : Int32))])) _
        refine XS.icmpNo X0.here hx rfl (hb hby d3_12) rfl (feq hc12).1 ?_
        show Steps p.tables e below (s₁.setTop (mkF m 15 #[.val (.ref t1), .val (.int (Int32.ofNat A)), .val (.int (Int32.ofNat (A + 1))), .val (.ref t2), .val (.int (Int32.ofNat B)), .val (.int (Int32.ofNat (B + M))), .val (.int (1 : Int32)), .unset] [])) _
        refine XS.iconst X0.here hx rfl (hb hby d3_15) ?_
        show Steps p.tables e below (s₁.setTop (mkF m 16 #[.val (.ref t1), .val (.int (Int32.ofNat A)), .val (.int (Int32.ofNat (A + 1))), .val (.ref t2), .val (.int (Int32.ofNat B)), .val (.int (Int32.ofNat (B + M))), .val (.int (1 : Int32)), .unset] [(.int (0 : Int32))])) _
        exact retN X0 hx (t := .boolean) Bd.returns (by simp) (hb hby d3_16) hr
      · show Q3 Z t1 t2 A B 1 M f g h0 n0 _ s₁.heap _
        rw [e0]
        exact ⟨_, rfl, N0, rfl, Or.inr ⟨rfl, fun q => hc12 (by rw [← q.1]; rfl)⟩⟩
  · have seg5 : ∀ target, Steps p.tables e below (s₁.setTop (mkF m 12 #[.val (.ref t1), .val (.int (Int32.ofNat A)), .val (.int (Int32.ofNat (A + 2))), .val (.ref t2), .val (.int (Int32.ofNat B)), .val (.int (Int32.ofNat (B + M))), .val (.int ((Int32.ofNat (A + 2)) - (Int32.ofNat A))), .unset] [(.int ((Int32.ofNat (B + M)) - (Int32.ofNat B))), (.int ((Int32.ofNat (A + 2)) - (Int32.ofNat A)))])) target → Steps p.tables e below (s₁.setTop (mkF m 0 #[.val (.ref t1), .val (.int (Int32.ofNat A)), .val (.int (Int32.ofNat (A + 2))), .val (.ref t2), .val (.int (Int32.ofNat B)), .val (.int (Int32.ofNat (B + M))), .unset, .unset] [])) target := by
      intro target kt
      show Steps p.tables e below (s₁.setTop (mkF m 0 #[.val (.ref t1), .val (.int (Int32.ofNat A)), .val (.int (Int32.ofNat (A + 2))), .val (.ref t2), .val (.int (Int32.ofNat B)), .val (.int (Int32.ofNat (B + M))), .unset, .unset] [])) _
      refine XS.iloadN X0.here hx rfl (hb hby d3_0) rfl ?_
      show Steps p.tables e below (s₁.setTop (mkF m 1 #[.val (.ref t1), .val (.int (Int32.ofNat A)), .val (.int (Int32.ofNat (A + 2))), .val (.ref t2), .val (.int (Int32.ofNat B)), .val (.int (Int32.ofNat (B + M))), .unset, .unset] [(.int (Int32.ofNat (A + 2)))])) _
      refine XS.iloadN X0.here hx rfl (hb hby d3_1) rfl ?_
      show Steps p.tables e below (s₁.setTop (mkF m 2 #[.val (.ref t1), .val (.int (Int32.ofNat A)), .val (.int (Int32.ofNat (A + 2))), .val (.ref t2), .val (.int (Int32.ofNat B)), .val (.int (Int32.ofNat (B + M))), .unset, .unset] [(.int (Int32.ofNat A)), (.int (Int32.ofNat (A + 2)))])) _
      refine XS.isub X0.here hx rfl (hb hby d3_2) rfl ?_
      show Steps p.tables e below (s₁.setTop (mkF m 3 #[.val (.ref t1), .val (.int (Int32.ofNat A)), .val (.int (Int32.ofNat (A + 2))), .val (.ref t2), .val (.int (Int32.ofNat B)), .val (.int (Int32.ofNat (B + M))), .unset, .unset] [(.int ((Int32.ofNat (A + 2)) - (Int32.ofNat A)))])) _
      refine XS.istore X0.here hx rfl (hb hby d3_3) rfl (l' := #[.val (.ref t1), .val (.int (Int32.ofNat A)), .val (.int (Int32.ofNat (A + 2))), .val (.ref t2), .val (.int (Int32.ofNat B)), .val (.int (Int32.ofNat (B + M))), .val (.int ((Int32.ofNat (A + 2)) - (Int32.ofNat A))), .unset]) rfl ?_
      show Steps p.tables e below (s₁.setTop (mkF m 5 #[.val (.ref t1), .val (.int (Int32.ofNat A)), .val (.int (Int32.ofNat (A + 2))), .val (.ref t2), .val (.int (Int32.ofNat B)), .val (.int (Int32.ofNat (B + M))), .val (.int ((Int32.ofNat (A + 2)) - (Int32.ofNat A))), .unset] [])) _
      refine XS.iload X0.here hx rfl (hb hby d3_5) rfl ?_
      show Steps p.tables e below (s₁.setTop (mkF m 7 #[.val (.ref t1), .val (.int (Int32.ofNat A)), .val (.int (Int32.ofNat (A + 2))), .val (.ref t2), .val (.int (Int32.ofNat B)), .val (.int (Int32.ofNat (B + M))), .val (.int ((Int32.ofNat (A + 2)) - (Int32.ofNat A))), .unset] [(.int ((Int32.ofNat (A + 2)) - (Int32.ofNat A)))])) _
      refine XS.iload X0.here hx rfl (hb hby d3_7) rfl ?_
      show Steps p.tables e below (s₁.setTop (mkF m 9 #[.val (.ref t1), .val (.int (Int32.ofNat A)), .val (.int (Int32.ofNat (A + 2))), .val (.ref t2), .val (.int (Int32.ofNat B)), .val (.int (Int32.ofNat (B + M))), .val (.int ((Int32.ofNat (A + 2)) - (Int32.ofNat A))), .unset] [(.int (Int32.ofNat (B + M))), (.int ((Int32.ofNat (A + 2)) - (Int32.ofNat A)))])) _
      refine XS.iload X0.here hx rfl (hb hby d3_9) rfl ?_
      show Steps p.tables e below (s₁.setTop (mkF m 11 #[.val (.ref t1), .val (.int (Int32.ofNat A)), .val (.int (Int32.ofNat (A + 2))), .val (.ref t2), .val (.int (Int32.ofNat B)), .val (.int (Int32.ofNat (B + M))), .val (.int ((Int32.ofNat (A + 2)) - (Int32.ofNat A))), .unset] [(.int (Int32.ofNat B)), (.int (Int32.ofNat (B + M))), (.int ((Int32.ofNat (A + 2)) - (Int32.ofNat A)))])) _
      refine XS.isub X0.here hx rfl (hb hby d3_11) rfl ?_
      exact kt
    rw [show ((Int32.ofNat (A + 2)) - (Int32.ofNat A)) = (2 : Int32) from own_sb A 2, show ((Int32.ofNat (B + M)) - (Int32.ofNat B)) = Int32.ofNat M from own_sb B M] at seg5
    by_cases hc12 : (2 : Int32) = (Int32.ofNat M)
    · have hMn : 2 = M := (own_inj (i := 2) (by omega) (by omega)).mp hc12
      obtain ⟨cl6, Ar6, S6, H6⟩ := id BA
      have hin6 : ¬ (((Int32.ofNat A) + (0 : Int32)) < 0 ∨ cl6.slots.size ≤ (((Int32.ofNat A) + (0 : Int32))).toNatClampNeg) := by rw [S6]; exact within (show Int32.ofNat A + (0 : Int32) = Int32.ofNat (A + 0) from by rw [show (0 : Int32) = Int32.ofNat 0 from by decide]; exact own_ad A 0) (show A + 0 < 4 by omega) (by decide)
      have hat6 : cl6.slots[(((Int32.ofNat A) + (0 : Int32))).toNatClampNeg]? = some (.int (f (A + 0))) := by rw [clamp_of (show Int32.ofNat A + (0 : Int32) = Int32.ofNat (A + 0) from by rw [show (0 : Int32) = Int32.ofNat 0 from by decide]; exact own_ad A 0) (Nat.lt_trans (show A + 0 < 4 by omega) (by decide))]; exact H6 _ (show A + 0 < 4 by omega)
      obtain ⟨cl7, Ar7, S7, H7⟩ := id BB
      have hin7 : ¬ (((Int32.ofNat B) + (0 : Int32)) < 0 ∨ cl7.slots.size ≤ (((Int32.ofNat B) + (0 : Int32))).toNatClampNeg) := by rw [S7]; exact within (show Int32.ofNat B + (0 : Int32) = Int32.ofNat (B + 0) from by rw [show (0 : Int32) = Int32.ofNat 0 from by decide]; exact own_ad B 0) (show B + 0 < 4 by omega) (by decide)
      have hat7 : cl7.slots[(((Int32.ofNat B) + (0 : Int32))).toNatClampNeg]? = some (.int (g (B + 0))) := by rw [clamp_of (show Int32.ofNat B + (0 : Int32) = Int32.ofNat (B + 0) from by rw [show (0 : Int32) = Int32.ofNat 0 from by decide]; exact own_ad B 0) (Nat.lt_trans (show B + 0 < 4 by omega) (by decide))]; exact H7 _ (show B + 0 < 4 by omega)
      by_cases hc40 : (f (A + 0)) = (g (B + 0))
      · obtain ⟨cl8, Ar8, S8, H8⟩ := id BA
        have hin8 : ¬ (((Int32.ofNat A) + ((0 : Int32) + (1 : Int32))) < 0 ∨ cl8.slots.size ≤ (((Int32.ofNat A) + ((0 : Int32) + (1 : Int32)))).toNatClampNeg) := by rw [S8]; exact within (show Int32.ofNat A + ((0 : Int32) + (1 : Int32)) = Int32.ofNat (A + 1) from by rw [show ((0 : Int32) + (1 : Int32)) = Int32.ofNat 1 from by decide]; exact own_ad A 1) (show A + 1 < 4 by omega) (by decide)
        have hat8 : cl8.slots[(((Int32.ofNat A) + ((0 : Int32) + (1 : Int32)))).toNatClampNeg]? = some (.int (f (A + 1))) := by rw [clamp_of (show Int32.ofNat A + ((0 : Int32) + (1 : Int32)) = Int32.ofNat (A + 1) from by rw [show ((0 : Int32) + (1 : Int32)) = Int32.ofNat 1 from by decide]; exact own_ad A 1) (Nat.lt_trans (show A + 1 < 4 by omega) (by decide))]; exact H8 _ (show A + 1 < 4 by omega)
        obtain ⟨cl9, Ar9, S9, H9⟩ := id BB
        have hin9 : ¬ (((Int32.ofNat B) + ((0 : Int32) + (1 : Int32))) < 0 ∨ cl9.slots.size ≤ (((Int32.ofNat B) + ((0 : Int32) + (1 : Int32)))).toNatClampNeg) := by rw [S9]; exact within (show Int32.ofNat B + ((0 : Int32) + (1 : Int32)) = Int32.ofNat (B + 1) from by rw [show ((0 : Int32) + (1 : Int32)) = Int32.ofNat 1 from by decide]; exact own_ad B 1) (show B + 1 < 4 by omega) (by decide)
        have hat9 : cl9.slots[(((Int32.ofNat B) + ((0 : Int32) + (1 : Int32)))).toNatClampNeg]? = some (.int (g (B + 1))) := by rw [clamp_of (show Int32.ofNat B + ((0 : Int32) + (1 : Int32)) = Int32.ofNat (B + 1) from by rw [show ((0 : Int32) + (1 : Int32)) = Int32.ofNat 1 from by decide]; exact own_ad B 1) (Nat.lt_trans (show B + 1 < 4 by omega) (by decide))]; exact H9 _ (show B + 1 < 4 by omega)
        by_cases hc40_2 : (f (A + 1)) = (g (B + 1))
        · obtain ⟨fs, hr, hrun, hended, hW, hsame⟩ := X0.leave (v := some (.int (1 : Int32))) (fun h => by rw [Bd.returns] at h; cases h)
          refine ⟨_, _, pre0 _ ?_, hrun, hended, _, _, rfl, ?_, ⟨_, rfl⟩, hW, hsame.mono (by decide) (by decide)⟩
          · show Steps p.tables e below (s₁.setTop (mkF m 0 #[.val (.ref t1), .val (.int (Int32.ofNat A)), .val (.int (Int32.ofNat (A + 2))), .val (.ref t2), .val (.int (Int32.ofNat B)), .val (.int (Int32.ofNat (B + M))), .unset, .unset] [])) _
            refine seg5 _ ?_
            show Steps p.tables e below (s₁.setTop (mkF m 12 #[.val (.ref t1), .val (.int (Int32.ofNat A)), .val (.int (Int32.ofNat (A + 2))), .val (.ref t2), .val (.int (Int32.ofNat B)), .val (.int (Int32.ofNat (B + M))), .val (.int (2 : Int32)), .unset] [(.int (Int32.ofNat M)), (.int (2 : Int32))])) _
            refine XS.icmpYes X0.here hx rfl (pc0 := 12) (pc' := 17) rfl (hb hby d3_12) rfl (teq hc12).1 (by decide) (by decide) ?_
            show Steps p.tables e below (s₁.setTop (mkF m 17 #[.val (.ref t1), .val (.int (Int32.ofNat A)), .val (.int (Int32.ofNat (A + 2))), .val (.ref t2), .val (.int (Int32.ofNat B)), .val (.int (Int32.ofNat (B + M))), .val (.int (2 : Int32)), .unset] [])) _
            refine XS.iconst X0.here hx rfl (hb hby d3_17) ?_
            show Steps p.tables e below (s₁.setTop (mkF m 18 #[.val (.ref t1), .val (.int (Int32.ofNat A)), .val (.int (Int32.ofNat (A + 2))), .val (.ref t2), .val (.int (Int32.ofNat B)), .val (.int (Int32.ofNat (B + M))), .val (.int (2 : Int32)), .unset] [(.int (0 : Int32))])) _
            refine XS.istore X0.here hx rfl (hb hby d3_18) rfl (l' := #[.val (.ref t1), .val (.int (Int32.ofNat A)), .val (.int (Int32.ofNat (A + 2))), .val (.ref t2), .val (.int (Int32.ofNat B)), .val (.int (Int32.ofNat (B + M))), .val (.int (2 : Int32)), .val (.int (0 : Int32))]) rfl ?_
            show Steps p.tables e below (s₁.setTop (mkF m 20 #[.val (.ref t1), .val (.int (Int32.ofNat A)), .val (.int (Int32.ofNat (A + 2))), .val (.ref t2), .val (.int (Int32.ofNat B)), .val (.int (Int32.ofNat (B + M))), .val (.int (2 : Int32)), .val (.int (0 : Int32))] [])) _
            refine XS.iload X0.here hx rfl (hb hby d3_20) rfl ?_
            show Steps p.tables e below (s₁.setTop (mkF m 22 #[.val (.ref t1), .val (.int (Int32.ofNat A)), .val (.int (Int32.ofNat (A + 2))), .val (.ref t2), .val (.int (Int32.ofNat B)), .val (.int (Int32.ofNat (B + M))), .val (.int (2 : Int32)), .val (.int (0 : Int32))] [(.int (0 : Int32))])) _
            refine XS.iload X0.here hx rfl (hb hby d3_22) rfl ?_
            show Steps p.tables e below (s₁.setTop (mkF m 24 #[.val (.ref t1), .val (.int (Int32.ofNat A)), .val (.int (Int32.ofNat (A + 2))), .val (.ref t2), .val (.int (Int32.ofNat B)), .val (.int (Int32.ofNat (B + M))), .val (.int (2 : Int32)), .val (.int (0 : Int32))] [(.int (2 : Int32)), (.int (0 : Int32))])) _
            refine XS.icmpNo X0.here hx rfl (hb hby d3_24) rfl (by decide) ?_
            show Steps p.tables e below (s₁.setTop (mkF m 27 #[.val (.ref t1), .val (.int (Int32.ofNat A)), .val (.int (Int32.ofNat (A + 2))), .val (.ref t2), .val (.int (Int32.ofNat B)), .val (.int (Int32.ofNat (B + M))), .val (.int (2 : Int32)), .val (.int (0 : Int32))] [])) _
            refine XS.aloadN X0.here hx rfl (hb hby d3_27) rfl rfl ?_
            show Steps p.tables e below (s₁.setTop (mkF m 28 #[.val (.ref t1), .val (.int (Int32.ofNat A)), .val (.int (Int32.ofNat (A + 2))), .val (.ref t2), .val (.int (Int32.ofNat B)), .val (.int (Int32.ofNat (B + M))), .val (.int (2 : Int32)), .val (.int (0 : Int32))] [(.ref t1)])) _
            refine XS.iloadN X0.here hx rfl (hb hby d3_28) rfl ?_
            show Steps p.tables e below (s₁.setTop (mkF m 29 #[.val (.ref t1), .val (.int (Int32.ofNat A)), .val (.int (Int32.ofNat (A + 2))), .val (.ref t2), .val (.int (Int32.ofNat B)), .val (.int (Int32.ofNat (B + M))), .val (.int (2 : Int32)), .val (.int (0 : Int32))] [(.int (Int32.ofNat A)), (.ref t1)])) _
            refine XS.iload X0.here hx rfl (hb hby d3_29) rfl ?_
            show Steps p.tables e below (s₁.setTop (mkF m 31 #[.val (.ref t1), .val (.int (Int32.ofNat A)), .val (.int (Int32.ofNat (A + 2))), .val (.ref t2), .val (.int (Int32.ofNat B)), .val (.int (Int32.ofNat (B + M))), .val (.int (2 : Int32)), .val (.int (0 : Int32))] [(.int (0 : Int32)), (.int (Int32.ofNat A)), (.ref t1)])) _
            refine XS.iadd X0.here hx rfl (hb hby d3_31) rfl ?_
            show Steps p.tables e below (s₁.setTop (mkF m 32 #[.val (.ref t1), .val (.int (Int32.ofNat A)), .val (.int (Int32.ofNat (A + 2))), .val (.ref t2), .val (.int (Int32.ofNat B)), .val (.int (Int32.ofNat (B + M))), .val (.int (2 : Int32)), .val (.int (0 : Int32))] [(.int ((Int32.ofNat A) + (0 : Int32))), (.ref t1)])) _
            refine X0.baloadBytes hx (j := ((Int32.ofNat A) + (0 : Int32))) (v := (.int (f (A + 0)))) (by rw [e0]; exact Ar6.1) (State.isArrayOf_alike hZ.alike Ar6.2.1) Ar6.2.2 hin6 hat6 (g := (mkF m 32 #[.val (.ref t1), .val (.int (Int32.ofNat A)), .val (.int (Int32.ofNat (A + 2))), .val (.ref t2), .val (.int (Int32.ofNat B)), .val (.int (Int32.ofNat (B + M))), .val (.int (2 : Int32)), .val (.int (0 : Int32))] [(.int ((Int32.ofNat A) + (0 : Int32))), (.ref t1)])) rfl rfl (hb hby d3_32) _ ?_
            show Steps p.tables e below (s₁.setTop (mkF m 33 #[.val (.ref t1), .val (.int (Int32.ofNat A)), .val (.int (Int32.ofNat (A + 2))), .val (.ref t2), .val (.int (Int32.ofNat B)), .val (.int (Int32.ofNat (B + M))), .val (.int (2 : Int32)), .val (.int (0 : Int32))] [(.int (f (A + 0)))])) _
            refine XS.aloadN X0.here hx rfl (hb hby d3_33) rfl rfl ?_
            show Steps p.tables e below (s₁.setTop (mkF m 34 #[.val (.ref t1), .val (.int (Int32.ofNat A)), .val (.int (Int32.ofNat (A + 2))), .val (.ref t2), .val (.int (Int32.ofNat B)), .val (.int (Int32.ofNat (B + M))), .val (.int (2 : Int32)), .val (.int (0 : Int32))] [(.ref t2), (.int (f (A + 0)))])) _
            refine XS.iload X0.here hx rfl (hb hby d3_34) rfl ?_
            show Steps p.tables e below (s₁.setTop (mkF m 36 #[.val (.ref t1), .val (.int (Int32.ofNat A)), .val (.int (Int32.ofNat (A + 2))), .val (.ref t2), .val (.int (Int32.ofNat B)), .val (.int (Int32.ofNat (B + M))), .val (.int (2 : Int32)), .val (.int (0 : Int32))] [(.int (Int32.ofNat B)), (.ref t2), (.int (f (A + 0)))])) _
            refine XS.iload X0.here hx rfl (hb hby d3_36) rfl ?_
            show Steps p.tables e below (s₁.setTop (mkF m 38 #[.val (.ref t1), .val (.int (Int32.ofNat A)), .val (.int (Int32.ofNat (A + 2))), .val (.ref t2), .val (.int (Int32.ofNat B)), .val (.int (Int32.ofNat (B + M))), .val (.int (2 : Int32)), .val (.int (0 : Int32))] [(.int (0 : Int32)), (.int (Int32.ofNat B)), (.ref t2), (.int (f (A + 0)))])) _
            refine XS.iadd X0.here hx rfl (hb hby d3_38) rfl ?_
            show Steps p.tables e below (s₁.setTop (mkF m 39 #[.val (.ref t1), .val (.int (Int32.ofNat A)), .val (.int (Int32.ofNat (A + 2))), .val (.ref t2), .val (.int (Int32.ofNat B)), .val (.int (Int32.ofNat (B + M))), .val (.int (2 : Int32)), .val (.int (0 : Int32))] [(.int ((Int32.ofNat B) + (0 : Int32))), (.ref t2), (.int (f (A + 0)))])) _
            refine X0.baloadBytes hx (j := ((Int32.ofNat B) + (0 : Int32))) (v := (.int (g (B + 0)))) (by rw [e0]; exact Ar7.1) (State.isArrayOf_alike hZ.alike Ar7.2.1) Ar7.2.2 hin7 hat7 (g := (mkF m 39 #[.val (.ref t1), .val (.int (Int32.ofNat A)), .val (.int (Int32.ofNat (A + 2))), .val (.ref t2), .val (.int (Int32.ofNat B)), .val (.int (Int32.ofNat (B + M))), .val (.int (2 : Int32)), .val (.int (0 : Int32))] [(.int ((Int32.ofNat B) + (0 : Int32))), (.ref t2), (.int (f (A + 0)))])) rfl rfl (hb hby d3_39) _ ?_
            show Steps p.tables e below (s₁.setTop (mkF m 40 #[.val (.ref t1), .val (.int (Int32.ofNat A)), .val (.int (Int32.ofNat (A + 2))), .val (.ref t2), .val (.int (Int32.ofNat B)), .val (.int (Int32.ofNat (B + M))), .val (.int (2 : Int32)), .val (.int (0 : Int32))] [(.int (g (B + 0))), (.int (f (A + 0)))])) _
            refine XS.icmpYes X0.here hx rfl (pc0 := 40) (pc' := 45) rfl (hb hby d3_40) rfl (teq hc40).1 (by decide) (by decide) ?_
            show Steps p.tables e below (s₁.setTop (mkF m 45 #[.val (.ref t1), .val (.int (Int32.ofNat A)), .val (.int (Int32.ofNat (A + 2))), .val (.ref t2), .val (.int (Int32.ofNat B)), .val (.int (Int32.ofNat (B + M))), .val (.int (2 : Int32)), .val (.int (0 : Int32))] [])) _
            refine XS.iinc X0.here hx rfl (hb hby d3_45) rfl (l' := #[.val (.ref t1), .val (.int (Int32.ofNat A)), .val (.int (Int32.ofNat (A + 2))), .val (.ref t2), .val (.int (Int32.ofNat B)), .val (.int (Int32.ofNat (B + M))), .val (.int (2 : Int32)), .val (.int ((0 : Int32) + (1 : Int32)))]) rfl ?_
            show Steps p.tables e below (s₁.setTop (mkF m 48 #[.val (.ref t1), .val (.int (Int32.ofNat A)), .val (.int (Int32.ofNat (A + 2))), .val (.ref t2), .val (.int (Int32.ofNat B)), .val (.int (Int32.ofNat (B + M))), .val (.int (2 : Int32)), .val (.int ((0 : Int32) + (1 : Int32)))] [])) _
            refine XS.goto X0.here hx rfl (pc0 := 48) (pc' := 20) rfl (hb hby d3_48) (by decide) (by decide) ?_
            show Steps p.tables e below (s₁.setTop (mkF m 20 #[.val (.ref t1), .val (.int (Int32.ofNat A)), .val (.int (Int32.ofNat (A + 2))), .val (.ref t2), .val (.int (Int32.ofNat B)), .val (.int (Int32.ofNat (B + M))), .val (.int (2 : Int32)), .val (.int ((0 : Int32) + (1 : Int32)))] [])) _
            refine XS.iload X0.here hx rfl (hb hby d3_20) rfl ?_
            show Steps p.tables e below (s₁.setTop (mkF m 22 #[.val (.ref t1), .val (.int (Int32.ofNat A)), .val (.int (Int32.ofNat (A + 2))), .val (.ref t2), .val (.int (Int32.ofNat B)), .val (.int (Int32.ofNat (B + M))), .val (.int (2 : Int32)), .val (.int ((0 : Int32) + (1 : Int32)))] [(.int ((0 : Int32) + (1 : Int32)))])) _
            refine XS.iload X0.here hx rfl (hb hby d3_22) rfl ?_
            show Steps p.tables e below (s₁.setTop (mkF m 24 #[.val (.ref t1), .val (.int (Int32.ofNat A)), .val (.int (Int32.ofNat (A + 2))), .val (.ref t2), .val (.int (Int32.ofNat B)), .val (.int (Int32.ofNat (B + M))), .val (.int (2 : Int32)), .val (.int ((0 : Int32) + (1 : Int32)))] [(.int (2 : Int32)), (.int ((0 : Int32) + (1 : Int32)))])) _
            refine XS.icmpNo X0.here hx rfl (hb hby d3_24) rfl (by decide) ?_
            show Steps p.tables e below (s₁.setTop (mkF m 27 #[.val (.ref t1), .val (.int (Int32.ofNat A)), .val (.int (Int32.ofNat (A + 2))), .val (.ref t2), .val (.int (Int32.ofNat B)), .val (.int (Int32.ofNat (B + M))), .val (.int (2 : Int32)), .val (.int ((0 : Int32) + (1 : Int32)))] [])) _
            refine XS.aloadN X0.here hx rfl (hb hby d3_27) rfl rfl ?_
            show Steps p.tables e below (s₁.setTop (mkF m 28 #[.val (.ref t1), .val (.int (Int32.ofNat A)), .val (.int (Int32.ofNat (A + 2))), .val (.ref t2), .val (.int (Int32.ofNat B)), .val (.int (Int32.ofNat (B + M))), .val (.int (2 : Int32)), .val (.int ((0 : Int32) + (1 : Int32)))] [(.ref t1)])) _
            refine XS.iloadN X0.here hx rfl (hb hby d3_28) rfl ?_
            show Steps p.tables e below (s₁.setTop (mkF m 29 #[.val (.ref t1), .val (.int (Int32.ofNat A)), .val (.int (Int32.ofNat (A + 2))), .val (.ref t2), .val (.int (Int32.ofNat B)), .val (.int (Int32.ofNat (B + M))), .val (.int (2 : Int32)), .val (.int ((0 : Int32) + (1 : Int32)))] [(.int (Int32.ofNat A)), (.ref t1)])) _
            refine XS.iload X0.here hx rfl (hb hby d3_29) rfl ?_
            show Steps p.tables e below (s₁.setTop (mkF m 31 #[.val (.ref t1), .val (.int (Int32.ofNat A)), .val (.int (Int32.ofNat (A + 2))), .val (.ref t2), .val (.int (Int32.ofNat B)), .val (.int (Int32.ofNat (B + M))), .val (.int (2 : Int32)), .val (.int ((0 : Int32) + (1 : Int32)))] [(.int ((0 : Int32) + (1 : Int32))), (.int (Int32.ofNat A)), (.ref t1)])) _
            refine XS.iadd X0.here hx rfl (hb hby d3_31) rfl ?_
            show Steps p.tables e below (s₁.setTop (mkF m 32 #[.val (.ref t1), .val (.int (Int32.ofNat A)), .val (.int (Int32.ofNat (A + 2))), .val (.ref t2), .val (.int (Int32.ofNat B)), .val (.int (Int32.ofNat (B + M))), .val (.int (2 : Int32)), .val (.int ((0 : Int32) + (1 : Int32)))] [(.int ((Int32.ofNat A) + ((0 : Int32) + (1 : Int32)))), (.ref t1)])) _
            refine X0.baloadBytes hx (j := ((Int32.ofNat A) + ((0 : Int32) + (1 : Int32)))) (v := (.int (f (A + 1)))) (by rw [e0]; exact Ar8.1) (State.isArrayOf_alike hZ.alike Ar8.2.1) Ar8.2.2 hin8 hat8 (g := (mkF m 32 #[.val (.ref t1), .val (.int (Int32.ofNat A)), .val (.int (Int32.ofNat (A + 2))), .val (.ref t2), .val (.int (Int32.ofNat B)), .val (.int (Int32.ofNat (B + M))), .val (.int (2 : Int32)), .val (.int ((0 : Int32) + (1 : Int32)))] [(.int ((Int32.ofNat A) + ((0 : Int32) + (1 : Int32)))), (.ref t1)])) rfl rfl (hb hby d3_32) _ ?_
            show Steps p.tables e below (s₁.setTop (mkF m 33 #[.val (.ref t1), .val (.int (Int32.ofNat A)), .val (.int (Int32.ofNat (A + 2))), .val (.ref t2), .val (.int (Int32.ofNat B)), .val (.int (Int32.ofNat (B + M))), .val (.int (2 : Int32)), .val (.int ((0 : Int32) + (1 : Int32)))] [(.int (f (A + 1)))])) _
            refine XS.aloadN X0.here hx rfl (hb hby d3_33) rfl rfl ?_
            show Steps p.tables e below (s₁.setTop (mkF m 34 #[.val (.ref t1), .val (.int (Int32.ofNat A)), .val (.int (Int32.ofNat (A + 2))), .val (.ref t2), .val (.int (Int32.ofNat B)), .val (.int (Int32.ofNat (B + M))), .val (.int (2 : Int32)), .val (.int ((0 : Int32) + (1 : Int32)))] [(.ref t2), (.int (f (A + 1)))])) _
            refine XS.iload X0.here hx rfl (hb hby d3_34) rfl ?_
            show Steps p.tables e below (s₁.setTop (mkF m 36 #[.val (.ref t1), .val (.int (Int32.ofNat A)), .val (.int (Int32.ofNat (A + 2))), .val (.ref t2), .val (.int (Int32.ofNat B)), .val (.int (Int32.ofNat (B + M))), .val (.int (2 : Int32)), .val (.int ((0 : Int32) + (1 : Int32)))] [(.int (Int32.ofNat B)), (.ref t2), (.int (f (A + 1)))])) _
            refine XS.iload X0.here hx rfl (hb hby d3_36) rfl ?_
            show Steps p.tables e below (s₁.setTop (mkF m 38 #[.val (.ref t1), .val (.int (Int32.ofNat A)), .val (.int (Int32.ofNat (A + 2))), .val (.ref t2), .val (.int (Int32.ofNat B)), .val (.int (Int32.ofNat (B + M))), .val (.int (2 : Int32)), .val (.int ((0 : Int32) + (1 : Int32)))] [(.int ((0 : Int32) + (1 : Int32))), (.int (Int32.ofNat B)), (.ref t2), (.int (f (A + 1)))])) _
            refine XS.iadd X0.here hx rfl (hb hby d3_38) rfl ?_
            show Steps p.tables e below (s₁.setTop (mkF m 39 #[.val (.ref t1), .val (.int (Int32.ofNat A)), .val (.int (Int32.ofNat (A + 2))), .val (.ref t2), .val (.int (Int32.ofNat B)), .val (.int (Int32.ofNat (B + M))), .val (.int (2 : Int32)), .val (.int ((0 : Int32) + (1 : Int32)))] [(.int ((Int32.ofNat B) + ((0 : Int32) + (1 : Int32)))), (.ref t2), (.int (f (A + 1)))])) _
            refine X0.baloadBytes hx (j := ((Int32.ofNat B) + ((0 : Int32) + (1 : Int32)))) (v := (.int (g (B + 1)))) (by rw [e0]; exact Ar9.1) (State.isArrayOf_alike hZ.alike Ar9.2.1) Ar9.2.2 hin9 hat9 (g := (mkF m 39 #[.val (.ref t1), .val (.int (Int32.ofNat A)), .val (.int (Int32.ofNat (A + 2))), .val (.ref t2), .val (.int (Int32.ofNat B)), .val (.int (Int32.ofNat (B + M))), .val (.int (2 : Int32)), .val (.int ((0 : Int32) + (1 : Int32)))] [(.int ((Int32.ofNat B) + ((0 : Int32) + (1 : Int32)))), (.ref t2), (.int (f (A + 1)))])) rfl rfl (hb hby d3_39) _ ?_
            show Steps p.tables e below (s₁.setTop (mkF m 40 #[.val (.ref t1), .val (.int (Int32.ofNat A)), .val (.int (Int32.ofNat (A + 2))), .val (.ref t2), .val (.int (Int32.ofNat B)), .val (.int (Int32.ofNat (B + M))), .val (.int (2 : Int32)), .val (.int ((0 : Int32) + (1 : Int32)))] [(.int (g (B + 1))), (.int (f (A + 1)))])) _
            refine XS.icmpYes X0.here hx rfl (pc0 := 40) (pc' := 45) rfl (hb hby d3_40) rfl (teq hc40_2).1 (by decide) (by decide) ?_
            show Steps p.tables e below (s₁.setTop (mkF m 45 #[.val (.ref t1), .val (.int (Int32.ofNat A)), .val (.int (Int32.ofNat (A + 2))), .val (.ref t2), .val (.int (Int32.ofNat B)), .val (.int (Int32.ofNat (B + M))), .val (.int (2 : Int32)), .val (.int ((0 : Int32) + (1 : Int32)))] [])) _
            refine XS.iinc X0.here hx rfl (hb hby d3_45) rfl (l' := #[.val (.ref t1), .val (.int (Int32.ofNat A)), .val (.int (Int32.ofNat (A + 2))), .val (.ref t2), .val (.int (Int32.ofNat B)), .val (.int (Int32.ofNat (B + M))), .val (.int (2 : Int32)), .val (.int (((0 : Int32) + (1 : Int32)) + (1 : Int32)))]) rfl ?_
            show Steps p.tables e below (s₁.setTop (mkF m 48 #[.val (.ref t1), .val (.int (Int32.ofNat A)), .val (.int (Int32.ofNat (A + 2))), .val (.ref t2), .val (.int (Int32.ofNat B)), .val (.int (Int32.ofNat (B + M))), .val (.int (2 : Int32)), .val (.int (((0 : Int32) + (1 : Int32)) + (1 : Int32)))] [])) _
            refine XS.goto X0.here hx rfl (pc0 := 48) (pc' := 20) rfl (hb hby d3_48) (by decide) (by decide) ?_
            show Steps p.tables e below (s₁.setTop (mkF m 20 #[.val (.ref t1), .val (.int (Int32.ofNat A)), .val (.int (Int32.ofNat (A + 2))), .val (.ref t2), .val (.int (Int32.ofNat B)), .val (.int (Int32.ofNat (B + M))), .val (.int (2 : Int32)), .val (.int (((0 : Int32) + (1 : Int32)) + (1 : Int32)))] [])) _
            refine XS.iload X0.here hx rfl (hb hby d3_20) rfl ?_
            show Steps p.tables e below (s₁.setTop (mkF m 22 #[.val (.ref t1), .val (.int (Int32.ofNat A)), .val (.int (Int32.ofNat (A + 2))), .val (.ref t2), .val (.int (Int32.ofNat B)), .val (.int (Int32.ofNat (B + M))), .val (.int (2 : Int32)), .val (.int (((0 : Int32) + (1 : Int32)) + (1 : Int32)))] [(.int (((0 : Int32) + (1 : Int32)) + (1 : Int32)))])) _
            refine XS.iload X0.here hx rfl (hb hby d3_22) rfl ?_
            show Steps p.tables e below (s₁.setTop (mkF m 24 #[.val (.ref t1), .val (.int (Int32.ofNat A)), .val (.int (Int32.ofNat (A + 2))), .val (.ref t2), .val (.int (Int32.ofNat B)), .val (.int (Int32.ofNat (B + M))), .val (.int (2 : Int32)), .val (.int (((0 : Int32) + (1 : Int32)) + (1 : Int32)))] [(.int (2 : Int32)), (.int (((0 : Int32) + (1 : Int32)) + (1 : Int32)))])) _
            refine XS.icmpYes X0.here hx rfl (pc0 := 24) (pc' := 51) rfl (hb hby d3_24) rfl (by decide) (by decide) (by decide) ?_
            show Steps p.tables e below (s₁.setTop (mkF m 51 #[.val (.ref t1), .val (.int (Int32.ofNat A)), .val (.int (Int32.ofNat (A + 2))), .val (.ref t2), .val (.int (Int32.ofNat B)), .val (.int (Int32.ofNat (B + M))), .val (.int (2 : Int32)), .val (.int (((0 : Int32) + (1 : Int32)) + (1 : Int32)))] [])) _
            refine XS.iconst X0.here hx rfl (hb hby d3_51) ?_
            show Steps p.tables e below (s₁.setTop (mkF m 52 #[.val (.ref t1), .val (.int (Int32.ofNat A)), .val (.int (Int32.ofNat (A + 2))), .val (.ref t2), .val (.int (Int32.ofNat B)), .val (.int (Int32.ofNat (B + M))), .val (.int (2 : Int32)), .val (.int (((0 : Int32) + (1 : Int32)) + (1 : Int32)))] [(.int (1 : Int32))])) _
            exact retN X0 hx (t := .boolean) Bd.returns (by simp) (hb hby d3_52) hr
          · show Q3 Z t1 t2 A B 2 M f g h0 n0 _ s₁.heap _
            rw [e0]
            exact ⟨_, rfl, N0, rfl, Or.inl ⟨rfl, (own_inj (i := 2) (by omega) (by omega)).mp hc12, own_all2 hc40 hc40_2⟩⟩
        · obtain ⟨fs, hr, hrun, hended, hW, hsame⟩ := X0.leave (v := some (.int (0 : Int32))) (fun h => by rw [Bd.returns] at h; cases h)
          refine ⟨_, _, pre0 _ ?_, hrun, hended, _, _, rfl, ?_, ⟨_, rfl⟩, hW, hsame.mono (by decide) (by decide)⟩
          · show Steps p.tables e below (s₁.setTop (mkF m 0 #[.val (.ref t1), .val (.int (Int32.ofNat A)), .val (.int (Int32.ofNat (A + 2))), .val (.ref t2), .val (.int (Int32.ofNat B)), .val (.int (Int32.ofNat (B + M))), .unset, .unset] [])) _
            refine seg5 _ ?_
            show Steps p.tables e below (s₁.setTop (mkF m 12 #[.val (.ref t1), .val (.int (Int32.ofNat A)), .val (.int (Int32.ofNat (A + 2))), .val (.ref t2), .val (.int (Int32.ofNat B)), .val (.int (Int32.ofNat (B + M))), .val (.int (2 : Int32)), .unset] [(.int (Int32.ofNat M)), (.int (2 : Int32))])) _
            refine XS.icmpYes X0.here hx rfl (pc0 := 12) (pc' := 17) rfl (hb hby d3_12) rfl (teq hc12).1 (by decide) (by decide) ?_
            show Steps p.tables e below (s₁.setTop (mkF m 17 #[.val (.ref t1), .val (.int (Int32.ofNat A)), .val (.int (Int32.ofNat (A + 2))), .val (.ref t2), .val (.int (Int32.ofNat B)), .val (.int (Int32.ofNat (B + M))), .val (.int (2 : Int32)), .unset] [])) _
            refine XS.iconst X0.here hx rfl (hb hby d3_17) ?_
            show Steps p.tables e below (s₁.setTop (mkF m 18 #[.val (.ref t1), .val (.int (Int32.ofNat A)), .val (.int (Int32.ofNat (A + 2))), .val (.ref t2), .val (.int (Int32.ofNat B)), .val (.int (Int32.ofNat (B + M))), .val (.int (2 : Int32)), .unset] [(.int (0 : Int32))])) _
            refine XS.istore X0.here hx rfl (hb hby d3_18) rfl (l' := #[.val (.ref t1), .val (.int (Int32.ofNat A)), .val (.int (Int32.ofNat (A + 2))), .val (.ref t2), .val (.int (Int32.ofNat B)), .val (.int (Int32.ofNat (B + M))), .val (.int (2 : Int32)), .val (.int (0 : Int32))]) rfl ?_
            show Steps p.tables e below (s₁.setTop (mkF m 20 #[.val (.ref t1), .val (.int (Int32.ofNat A)), .val (.int (Int32.ofNat (A + 2))), .val (.ref t2), .val (.int (Int32.ofNat B)), .val (.int (Int32.ofNat (B + M))), .val (.int (2 : Int32)), .val (.int (0 : Int32))] [])) _
            refine XS.iload X0.here hx rfl (hb hby d3_20) rfl ?_
            show Steps p.tables e below (s₁.setTop (mkF m 22 #[.val (.ref t1), .val (.int (Int32.ofNat A)), .val (.int (Int32.ofNat (A + 2))), .val (.ref t2), .val (.int (Int32.ofNat B)), .val (.int (Int32.ofNat (B + M))), .val (.int (2 : Int32)), .val (.int (0 : Int32))] [(.int (0 : Int32))])) _
            refine XS.iload X0.here hx rfl (hb hby d3_22) rfl ?_
            show Steps p.tables e below (s₁.setTop (mkF m 24 #[.val (.ref t1), .val (.int (Int32.ofNat A)), .val (.int (Int32.ofNat (A + 2))), .val (.ref t2), .val (.int (Int32.ofNat B)), .val (.int (Int32.ofNat (B + M))), .val (.int (2 : Int32)), .val (.int (0 : Int32))] [(.int (2 : Int32)), (.int (0 : Int32))])) _
            refine XS.icmpNo X0.here hx rfl (hb hby d3_24) rfl (by decide) ?_
            show Steps p.tables e below (s₁.setTop (mkF m 27 #[.val (.ref t1), .val (.int (Int32.ofNat A)), .val (.int (Int32.ofNat (A + 2))), .val (.ref t2), .val (.int (Int32.ofNat B)), .val (.int (Int32.ofNat (B + M))), .val (.int (2 : Int32)), .val (.int (0 : Int32))] [])) _
            refine XS.aloadN X0.here hx rfl (hb hby d3_27) rfl rfl ?_
            show Steps p.tables e below (s₁.setTop (mkF m 28 #[.val (.ref t1), .val (.int (Int32.ofNat A)), .val (.int (Int32.ofNat (A + 2))), .val (.ref t2), .val (.int (Int32.ofNat B)), .val (.int (Int32.ofNat (B + M))), .val (.int (2 : Int32)), .val (.int (0 : Int32))] [(.ref t1)])) _
            refine XS.iloadN X0.here hx rfl (hb hby d3_28) rfl ?_
            show Steps p.tables e below (s₁.setTop (mkF m 29 #[.val (.ref t1), .val (.int (Int32.ofNat A)), .val (.int (Int32.ofNat (A + 2))), .val (.ref t2), .val (.int (Int32.ofNat B)), .val (.int (Int32.ofNat (B + M))), .val (.int (2 : Int32)), .val (.int (0 : Int32))] [(.int (Int32.ofNat A)), (.ref t1)])) _
            refine XS.iload X0.here hx rfl (hb hby d3_29) rfl ?_
            show Steps p.tables e below (s₁.setTop (mkF m 31 #[.val (.ref t1), .val (.int (Int32.ofNat A)), .val (.int (Int32.ofNat (A + 2))), .val (.ref t2), .val (.int (Int32.ofNat B)), .val (.int (Int32.ofNat (B + M))), .val (.int (2 : Int32)), .val (.int (0 : Int32))] [(.int (0 : Int32)), (.int (Int32.ofNat A)), (.ref t1)])) _
            refine XS.iadd X0.here hx rfl (hb hby d3_31) rfl ?_
            show Steps p.tables e below (s₁.setTop (mkF m 32 #[.val (.ref t1), .val (.int (Int32.ofNat A)), .val (.int (Int32.ofNat (A + 2))), .val (.ref t2), .val (.int (Int32.ofNat B)), .val (.int (Int32.ofNat (B + M))), .val (.int (2 : Int32)), .val (.int (0 : Int32))] [(.int ((Int32.ofNat A) + (0 : Int32))), (.ref t1)])) _
            refine X0.baloadBytes hx (j := ((Int32.ofNat A) + (0 : Int32))) (v := (.int (f (A + 0)))) (by rw [e0]; exact Ar6.1) (State.isArrayOf_alike hZ.alike Ar6.2.1) Ar6.2.2 hin6 hat6 (g := (mkF m 32 #[.val (.ref t1), .val (.int (Int32.ofNat A)), .val (.int (Int32.ofNat (A + 2))), .val (.ref t2), .val (.int (Int32.ofNat B)), .val (.int (Int32.ofNat (B + M))), .val (.int (2 : Int32)), .val (.int (0 : Int32))] [(.int ((Int32.ofNat A) + (0 : Int32))), (.ref t1)])) rfl rfl (hb hby d3_32) _ ?_
            show Steps p.tables e below (s₁.setTop (mkF m 33 #[.val (.ref t1), .val (.int (Int32.ofNat A)), .val (.int (Int32.ofNat (A + 2))), .val (.ref t2), .val (.int (Int32.ofNat B)), .val (.int (Int32.ofNat (B + M))), .val (.int (2 : Int32)), .val (.int (0 : Int32))] [(.int (f (A + 0)))])) _
            refine XS.aloadN X0.here hx rfl (hb hby d3_33) rfl rfl ?_
            show Steps p.tables e below (s₁.setTop (mkF m 34 #[.val (.ref t1), .val (.int (Int32.ofNat A)), .val (.int (Int32.ofNat (A + 2))), .val (.ref t2), .val (.int (Int32.ofNat B)), .val (.int (Int32.ofNat (B + M))), .val (.int (2 : Int32)), .val (.int (0 : Int32))] [(.ref t2), (.int (f (A + 0)))])) _
            refine XS.iload X0.here hx rfl (hb hby d3_34) rfl ?_
            show Steps p.tables e below (s₁.setTop (mkF m 36 #[.val (.ref t1), .val (.int (Int32.ofNat A)), .val (.int (Int32.ofNat (A + 2))), .val (.ref t2), .val (.int (Int32.ofNat B)), .val (.int (Int32.ofNat (B + M))), .val (.int (2 : Int32)), .val (.int (0 : Int32))] [(.int (Int32.ofNat B)), (.ref t2), (.int (f (A + 0)))])) _
            refine XS.iload X0.here hx rfl (hb hby d3_36) rfl ?_
            show Steps p.tables e below (s₁.setTop (mkF m 38 #[.val (.ref t1), .val (.int (Int32.ofNat A)), .val (.int (Int32.ofNat (A + 2))), .val (.ref t2), .val (.int (Int32.ofNat B)), .val (.int (Int32.ofNat (B + M))), .val (.int (2 : Int32)), .val (.int (0 : Int32))] [(.int (0 : Int32)), (.int (Int32.ofNat B)), (.ref t2), (.int (f (A + 0)))])) _
            refine XS.iadd X0.here hx rfl (hb hby d3_38) rfl ?_
            show Steps p.tables e below (s₁.setTop (mkF m 39 #[.val (.ref t1), .val (.int (Int32.ofNat A)), .val (.int (Int32.ofNat (A + 2))), .val (.ref t2), .val (.int (Int32.ofNat B)), .val (.int (Int32.ofNat (B + M))), .val (.int (2 : Int32)), .val (.int (0 : Int32))] [(.int ((Int32.ofNat B) + (0 : Int32))), (.ref t2), (.int (f (A + 0)))])) _
            refine X0.baloadBytes hx (j := ((Int32.ofNat B) + (0 : Int32))) (v := (.int (g (B + 0)))) (by rw [e0]; exact Ar7.1) (State.isArrayOf_alike hZ.alike Ar7.2.1) Ar7.2.2 hin7 hat7 (g := (mkF m 39 #[.val (.ref t1), .val (.int (Int32.ofNat A)), .val (.int (Int32.ofNat (A + 2))), .val (.ref t2), .val (.int (Int32.ofNat B)), .val (.int (Int32.ofNat (B + M))), .val (.int (2 : Int32)), .val (.int (0 : Int32))] [(.int ((Int32.ofNat B) + (0 : Int32))), (.ref t2), (.int (f (A + 0)))])) rfl rfl (hb hby d3_39) _ ?_
            show Steps p.tables e below (s₁.setTop (mkF m 40 #[.val (.ref t1), .val (.int (Int32.ofNat A)), .val (.int (Int32.ofNat (A + 2))), .val (.ref t2), .val (.int (Int32.ofNat B)), .val (.int (Int32.ofNat (B + M))), .val (.int (2 : Int32)), .val (.int (0 : Int32))] [(.int (g (B + 0))), (.int (f (A + 0)))])) _
            refine XS.icmpYes X0.here hx rfl (pc0 := 40) (pc' := 45) rfl (hb hby d3_40) rfl (teq hc40).1 (by decide) (by decide) ?_
            show Steps p.tables e below (s₁.setTop (mkF m 45 #[.val (.ref t1), .val (.int (Int32.ofNat A)), .val (.int (Int32.ofNat (A + 2))), .val (.ref t2), .val (.int (Int32.ofNat B)), .val (.int (Int32.ofNat (B + M))), .val (.int (2 : Int32)), .val (.int (0 : Int32))] [])) _
            refine XS.iinc X0.here hx rfl (hb hby d3_45) rfl (l' := #[.val (.ref t1), .val (.int (Int32.ofNat A)), .val (.int (Int32.ofNat (A + 2))), .val (.ref t2), .val (.int (Int32.ofNat B)), .val (.int (Int32.ofNat (B + M))), .val (.int (2 : Int32)), .val (.int ((0 : Int32) + (1 : Int32)))]) rfl ?_
            show Steps p.tables e below (s₁.setTop (mkF m 48 #[.val (.ref t1), .val (.int (Int32.ofNat A)), .val (.int (Int32.ofNat (A + 2))), .val (.ref t2), .val (.int (Int32.ofNat B)), .val (.int (Int32.ofNat (B + M))), .val (.int (2 : Int32)), .val (.int ((0 : Int32) + (1 : Int32)))] [])) _
            refine XS.goto X0.here hx rfl (pc0 := 48) (pc' := 20) rfl (hb hby d3_48) (by decide) (by decide) ?_
            show Steps p.tables e below (s₁.setTop (mkF m 20 #[.val (.ref t1), .val (.int (Int32.ofNat A)), .val (.int (Int32.ofNat (A + 2))), .val (.ref t2), .val (.int (Int32.ofNat B)), .val (.int (Int32.ofNat (B + M))), .val (.int (2 : Int32)), .val (.int ((0 : Int32) + (1 : Int32)))] [])) _
            refine XS.iload X0.here hx rfl (hb hby d3_20) rfl ?_
            show Steps p.tables e below (s₁.setTop (mkF m 22 #[.val (.ref t1), .val (.int (Int32.ofNat A)), .val (.int (Int32.ofNat (A + 2))), .val (.ref t2), .val (.int (Int32.ofNat B)), .val (.int (Int32.ofNat (B + M))), .val (.int (2 : Int32)), .val (.int ((0 : Int32) + (1 : Int32)))] [(.int ((0 : Int32) + (1 : Int32)))])) _
            refine XS.iload X0.here hx rfl (hb hby d3_22) rfl ?_
            show Steps p.tables e below (s₁.setTop (mkF m 24 #[.val (.ref t1), .val (.int (Int32.ofNat A)), .val (.int (Int32.ofNat (A + 2))), .val (.ref t2), .val (.int (Int32.ofNat B)), .val (.int (Int32.ofNat (B + M))), .val (.int (2 : Int32)), .val (.int ((0 : Int32) + (1 : Int32)))] [(.int (2 : Int32)), (.int ((0 : Int32) + (1 : Int32)))])) _
            refine XS.icmpNo X0.here hx rfl (hb hby d3_24) rfl (by decide) ?_
            show Steps p.tables e below (s₁.setTop (mkF m 27 #[.val (.ref t1), .val (.int (Int32.ofNat A)), .val (.int (Int32.ofNat (A + 2))), .val (.ref t2), .val (.int (Int32.ofNat B)), .val (.int (Int32.ofNat (B + M))), .val (.int (2 : Int32)), .val (.int ((0 : Int32) + (1 : Int32)))] [])) _
            refine XS.aloadN X0.here hx rfl (hb hby d3_27) rfl rfl ?_
            show Steps p.tables e below (s₁.setTop (mkF m 28 #[.val (.ref t1), .val (.int (Int32.ofNat A)), .val (.int (Int32.ofNat (A + 2))), .val (.ref t2), .val (.int (Int32.ofNat B)), .val (.int (Int32.ofNat (B + M))), .val (.int (2 : Int32)), .val (.int ((0 : Int32) + (1 : Int32)))] [(.ref t1)])) _
            refine XS.iloadN X0.here hx rfl (hb hby d3_28) rfl ?_
            show Steps p.tables e below (s₁.setTop (mkF m 29 #[.val (.ref t1), .val (.int (Int32.ofNat A)), .val (.int (Int32.ofNat (A + 2))), .val (.ref t2), .val (.int (Int32.ofNat B)), .val (.int (Int32.ofNat (B + M))), .val (.int (2 : Int32)), .val (.int ((0 : Int32) + (1 : Int32)))] [(.int (Int32.ofNat A)), (.ref t1)])) _
            refine XS.iload X0.here hx rfl (hb hby d3_29) rfl ?_
            show Steps p.tables e below (s₁.setTop (mkF m 31 #[.val (.ref t1), .val (.int (Int32.ofNat A)), .val (.int (Int32.ofNat (A + 2))), .val (.ref t2), .val (.int (Int32.ofNat B)), .val (.int (Int32.ofNat (B + M))), .val (.int (2 : Int32)), .val (.int ((0 : Int32) + (1 : Int32)))] [(.int ((0 : Int32) + (1 : Int32))), (.int (Int32.ofNat A)), (.ref t1)])) _
            refine XS.iadd X0.here hx rfl (hb hby d3_31) rfl ?_
            show Steps p.tables e below (s₁.setTop (mkF m 32 #[.val (.ref t1), .val (.int (Int32.ofNat A)), .val (.int (Int32.ofNat (A + 2))), .val (.ref t2), .val (.int (Int32.ofNat B)), .val (.int (Int32.ofNat (B + M))), .val (.int (2 : Int32)), .val (.int ((0 : Int32) + (1 : Int32)))] [(.int ((Int32.ofNat A) + ((0 : Int32) + (1 : Int32)))), (.ref t1)])) _
            refine X0.baloadBytes hx (j := ((Int32.ofNat A) + ((0 : Int32) + (1 : Int32)))) (v := (.int (f (A + 1)))) (by rw [e0]; exact Ar8.1) (State.isArrayOf_alike hZ.alike Ar8.2.1) Ar8.2.2 hin8 hat8 (g := (mkF m 32 #[.val (.ref t1), .val (.int (Int32.ofNat A)), .val (.int (Int32.ofNat (A + 2))), .val (.ref t2), .val (.int (Int32.ofNat B)), .val (.int (Int32.ofNat (B + M))), .val (.int (2 : Int32)), .val (.int ((0 : Int32) + (1 : Int32)))] [(.int ((Int32.ofNat A) + ((0 : Int32) + (1 : Int32)))), (.ref t1)])) rfl rfl (hb hby d3_32) _ ?_
            show Steps p.tables e below (s₁.setTop (mkF m 33 #[.val (.ref t1), .val (.int (Int32.ofNat A)), .val (.int (Int32.ofNat (A + 2))), .val (.ref t2), .val (.int (Int32.ofNat B)), .val (.int (Int32.ofNat (B + M))), .val (.int (2 : Int32)), .val (.int ((0 : Int32) + (1 : Int32)))] [(.int (f (A + 1)))])) _
            refine XS.aloadN X0.here hx rfl (hb hby d3_33) rfl rfl ?_
            show Steps p.tables e below (s₁.setTop (mkF m 34 #[.val (.ref t1), .val (.int (Int32.ofNat A)), .val (.int (Int32.ofNat (A + 2))), .val (.ref t2), .val (.int (Int32.ofNat B)), .val (.int (Int32.ofNat (B + M))), .val (.int (2 : Int32)), .val (.int ((0 : Int32) + (1 : Int32)))] [(.ref t2), (.int (f (A + 1)))])) _
            refine XS.iload X0.here hx rfl (hb hby d3_34) rfl ?_
            show Steps p.tables e below (s₁.setTop (mkF m 36 #[.val (.ref t1), .val (.int (Int32.ofNat A)), .val (.int (Int32.ofNat (A + 2))), .val (.ref t2), .val (.int (Int32.ofNat B)), .val (.int (Int32.ofNat (B + M))), .val (.int (2 : Int32)), .val (.int ((0 : Int32) + (1 : Int32)))] [(.int (Int32.ofNat B)), (.ref t2), (.int (f (A + 1)))])) _
            refine XS.iload X0.here hx rfl (hb hby d3_36) rfl ?_
            show Steps p.tables e below (s₁.setTop (mkF m 38 #[.val (.ref t1), .val (.int (Int32.ofNat A)), .val (.int (Int32.ofNat (A + 2))), .val (.ref t2), .val (.int (Int32.ofNat B)), .val (.int (Int32.ofNat (B + M))), .val (.int (2 : Int32)), .val (.int ((0 : Int32) + (1 : Int32)))] [(.int ((0 : Int32) + (1 : Int32))), (.int (Int32.ofNat B)), (.ref t2), (.int (f (A + 1)))])) _
            refine XS.iadd X0.here hx rfl (hb hby d3_38) rfl ?_
            show Steps p.tables e below (s₁.setTop (mkF m 39 #[.val (.ref t1), .val (.int (Int32.ofNat A)), .val (.int (Int32.ofNat (A + 2))), .val (.ref t2), .val (.int (Int32.ofNat B)), .val (.int (Int32.ofNat (B + M))), .val (.int (2 : Int32)), .val (.int ((0 : Int32) + (1 : Int32)))] [(.int ((Int32.ofNat B) + ((0 : Int32) + (1 : Int32)))), (.ref t2), (.int (f (A + 1)))])) _
            refine X0.baloadBytes hx (j := ((Int32.ofNat B) + ((0 : Int32) + (1 : Int32)))) (v := (.int (g (B + 1)))) (by rw [e0]; exact Ar9.1) (State.isArrayOf_alike hZ.alike Ar9.2.1) Ar9.2.2 hin9 hat9 (g := (mkF m 39 #[.val (.ref t1), .val (.int (Int32.ofNat A)), .val (.int (Int32.ofNat (A + 2))), .val (.ref t2), .val (.int (Int32.ofNat B)), .val (.int (Int32.ofNat (B + M))), .val (.int (2 : Int32)), .val (.int ((0 : Int32) + (1 : Int32)))] [(.int ((Int32.ofNat B) + ((0 : Int32) + (1 : Int32)))), (.ref t2), (.int (f (A + 1)))])) rfl rfl (hb hby d3_39) _ ?_
            show Steps p.tables e below (s₁.setTop (mkF m 40 #[.val (.ref t1), .val (.int (Int32.ofNat A)), .val (.int (Int32.ofNat (A + 2))), .val (.ref t2), .val (.int (Int32.ofNat B)), .val (.int (Int32.ofNat (B + M))), .val (.int (2 : Int32)), .val (.int ((0 : Int32) + (1 : Int32)))] [(.int (g (B + 1))), (.int (f (A + 1)))])) _
            refine XS.icmpNo X0.here hx rfl (hb hby d3_40) rfl (feq hc40_2).1 ?_
            show Steps p.tables e below (s₁.setTop (mkF m 43 #[.val (.ref t1), .val (.int (Int32.ofNat A)), .val (.int (Int32.ofNat (A + 2))), .val (.ref t2), .val (.int (Int32.ofNat B)), .val (.int (Int32.ofNat (B + M))), .val (.int (2 : Int32)), .val (.int ((0 : Int32) + (1 : Int32)))] [])) _
            refine XS.iconst X0.here hx rfl (hb hby d3_43) ?_
            show Steps p.tables e below (s₁.setTop (mkF m 44 #[.val (.ref t1), .val (.int (Int32.ofNat A)), .val (.int (Int32.ofNat (A + 2))), .val (.ref t2), .val (.int (Int32.ofNat B)), .val (.int (Int32.ofNat (B + M))), .val (.int (2 : Int32)), .val (.int ((0 : Int32) + (1 : Int32)))] [(.int (0 : Int32))])) _
            exact retN X0 hx (t := .boolean) Bd.returns (by simp) (hb hby d3_44) hr
          · show Q3 Z t1 t2 A B 2 M f g h0 n0 _ s₁.heap _
            rw [e0]
            exact ⟨_, rfl, N0, rfl, Or.inr ⟨rfl, fun q => hc40_2 (q.2 1 (by omega))⟩⟩
      · obtain ⟨fs, hr, hrun, hended, hW, hsame⟩ := X0.leave (v := some (.int (0 : Int32))) (fun h => by rw [Bd.returns] at h; cases h)
        refine ⟨_, _, pre0 _ ?_, hrun, hended, _, _, rfl, ?_, ⟨_, rfl⟩, hW, hsame.mono (by decide) (by decide)⟩
        · show Steps p.tables e below (s₁.setTop (mkF m 0 #[.val (.ref t1), .val (.int (Int32.ofNat A)), .val (.int (Int32.ofNat (A + 2))), .val (.ref t2), .val (.int (Int32.ofNat B)), .val (.int (Int32.ofNat (B + M))), .unset, .unset] [])) _
          refine seg5 _ ?_
          show Steps p.tables e below (s₁.setTop (mkF m 12 #[.val (.ref t1), .val (.int (Int32.ofNat A)), .val (.int (Int32.ofNat (A + 2))), .val (.ref t2), .val (.int (Int32.ofNat B)), .val (.int (Int32.ofNat (B + M))), .val (.int (2 : Int32)), .unset] [(.int (Int32.ofNat M)), (.int (2 : Int32))])) _
          refine XS.icmpYes X0.here hx rfl (pc0 := 12) (pc' := 17) rfl (hb hby d3_12) rfl (teq hc12).1 (by decide) (by decide) ?_
          show Steps p.tables e below (s₁.setTop (mkF m 17 #[.val (.ref t1), .val (.int (Int32.ofNat A)), .val (.int (Int32.ofNat (A + 2))), .val (.ref t2), .val (.int (Int32.ofNat B)), .val (.int (Int32.ofNat (B + M))), .val (.int (2 : Int32)), .unset] [])) _
          refine XS.iconst X0.here hx rfl (hb hby d3_17) ?_
          show Steps p.tables e below (s₁.setTop (mkF m 18 #[.val (.ref t1), .val (.int (Int32.ofNat A)), .val (.int (Int32.ofNat (A + 2))), .val (.ref t2), .val (.int (Int32.ofNat B)), .val (.int (Int32.ofNat (B + M))), .val (.int (2 : Int32)), .unset] [(.int (0 : Int32))])) _
          refine XS.istore X0.here hx rfl (hb hby d3_18) rfl (l' := #[.val (.ref t1), .val (.int (Int32.ofNat A)), .val (.int (Int32.ofNat (A + 2))), .val (.ref t2), .val (.int (Int32.ofNat B)), .val (.int (Int32.ofNat (B + M))), .val (.int (2 : Int32)), .val (.int (0 : Int32))]) rfl ?_
          show Steps p.tables e below (s₁.setTop (mkF m 20 #[.val (.ref t1), .val (.int (Int32.ofNat A)), .val (.int (Int32.ofNat (A + 2))), .val (.ref t2), .val (.int (Int32.ofNat B)), .val (.int (Int32.ofNat (B + M))), .val (.int (2 : Int32)), .val (.int (0 : Int32))] [])) _
          refine XS.iload X0.here hx rfl (hb hby d3_20) rfl ?_
          show Steps p.tables e below (s₁.setTop (mkF m 22 #[.val (.ref t1), .val (.int (Int32.ofNat A)), .val (.int (Int32.ofNat (A + 2))), .val (.ref t2), .val (.int (Int32.ofNat B)), .val (.int (Int32.ofNat (B + M))), .val (.int (2 : Int32)), .val (.int (0 : Int32))] [(.int (0 : Int32))])) _
          refine XS.iload X0.here hx rfl (hb hby d3_22) rfl ?_
          show Steps p.tables e below (s₁.setTop (mkF m 24 #[.val (.ref t1), .val (.int (Int32.ofNat A)), .val (.int (Int32.ofNat (A + 2))), .val (.ref t2), .val (.int (Int32.ofNat B)), .val (.int (Int32.ofNat (B + M))), .val (.int (2 : Int32)), .val (.int (0 : Int32))] [(.int (2 : Int32)), (.int (0 : Int32))])) _
          refine XS.icmpNo X0.here hx rfl (hb hby d3_24) rfl (by decide) ?_
          show Steps p.tables e below (s₁.setTop (mkF m 27 #[.val (.ref t1), .val (.int (Int32.ofNat A)), .val (.int (Int32.ofNat (A + 2))), .val (.ref t2), .val (.int (Int32.ofNat B)), .val (.int (Int32.ofNat (B + M))), .val (.int (2 : Int32)), .val (.int (0 : Int32))] [])) _
          refine XS.aloadN X0.here hx rfl (hb hby d3_27) rfl rfl ?_
          show Steps p.tables e below (s₁.setTop (mkF m 28 #[.val (.ref t1), .val (.int (Int32.ofNat A)), .val (.int (Int32.ofNat (A + 2))), .val (.ref t2), .val (.int (Int32.ofNat B)), .val (.int (Int32.ofNat (B + M))), .val (.int (2 : Int32)), .val (.int (0 : Int32))] [(.ref t1)])) _
          refine XS.iloadN X0.here hx rfl (hb hby d3_28) rfl ?_
          show Steps p.tables e below (s₁.setTop (mkF m 29 #[.val (.ref t1), .val (.int (Int32.ofNat A)), .val (.int (Int32.ofNat (A + 2))), .val (.ref t2), .val (.int (Int32.ofNat B)), .val (.int (Int32.ofNat (B + M))), .val (.int (2 : Int32)), .val (.int (0 : Int32))] [(.int (Int32.ofNat A)), (.ref t1)])) _
          refine XS.iload X0.here hx rfl (hb hby d3_29) rfl ?_
          show Steps p.tables e below (s₁.setTop (mkF m 31 #[.val (.ref t1), .val (.int (Int32.ofNat A)), .val (.int (Int32.ofNat (A + 2))), .val (.ref t2), .val (.int (Int32.ofNat B)), .val (.int (Int32.ofNat (B + M))), .val (.int (2 : Int32)), .val (.int (0 : Int32))] [(.int (0 : Int32)), (.int (Int32.ofNat A)), (.ref t1)])) _
          refine XS.iadd X0.here hx rfl (hb hby d3_31) rfl ?_
          show Steps p.tables e below (s₁.setTop (mkF m 32 #[.val (.ref t1), .val (.int (Int32.ofNat A)), .val (.int (Int32.ofNat (A + 2))), .val (.ref t2), .val (.int (Int32.ofNat B)), .val (.int (Int32.ofNat (B + M))), .val (.int (2 : Int32)), .val (.int (0 : Int32))] [(.int ((Int32.ofNat A) + (0 : Int32))), (.ref t1)])) _
          refine X0.baloadBytes hx (j := ((Int32.ofNat A) + (0 : Int32))) (v := (.int (f (A + 0)))) (by rw [e0]; exact Ar6.1) (State.isArrayOf_alike hZ.alike Ar6.2.1) Ar6.2.2 hin6 hat6 (g := (mkF m 32 #[.val (.ref t1), .val (.int (Int32.ofNat A)), .val (.int (Int32.ofNat (A + 2))), .val (.ref t2), .val (.int (Int32.ofNat B)), .val (.int (Int32.ofNat (B + M))), .val (.int (2 : Int32)), .val (.int (0 : Int32))] [(.int ((Int32.ofNat A) + (0 : Int32))), (.ref t1)])) rfl rfl (hb hby d3_32) _ ?_
          show Steps p.tables e below (s₁.setTop (mkF m 33 #[.val (.ref t1), .val (.int (Int32.ofNat A)), .val (.int (Int32.ofNat (A + 2))), .val (.ref t2), .val (.int (Int32.ofNat B)), .val (.int (Int32.ofNat (B + M))), .val (.int (2 : Int32)), .val (.int (0 : Int32))] [(.int (f (A + 0)))])) _
          refine XS.aloadN X0.here hx rfl (hb hby d3_33) rfl rfl ?_
          show Steps p.tables e below (s₁.setTop (mkF m 34 #[.val (.ref t1), .val (.int (Int32.ofNat A)), .val (.int (Int32.ofNat (A + 2))), .val (.ref t2), .val (.int (Int32.ofNat B)), .val (.int (Int32.ofNat (B + M))), .val (.int (2 : Int32)), .val (.int (0 : Int32))] [(.ref t2), (.int (f (A + 0)))])) _
          refine XS.iload X0.here hx rfl (hb hby d3_34) rfl ?_
          show Steps p.tables e below (s₁.setTop (mkF m 36 #[.val (.ref t1), .val (.int (Int32.ofNat A)), .val (.int (Int32.ofNat (A + 2))), .val (.ref t2), .val (.int (Int32.ofNat B)), .val (.int (Int32.ofNat (B + M))), .val (.int (2 : Int32)), .val (.int (0 : Int32))] [(.int (Int32.ofNat B)), (.ref t2), (.int (f (A + 0)))])) _
          refine XS.iload X0.here hx rfl (hb hby d3_36) rfl ?_
          show Steps p.tables e below (s₁.setTop (mkF m 38 #[.val (.ref t1), .val (.int (Int32.ofNat A)), .val (.int (Int32.ofNat (A + 2))), .val (.ref t2), .val (.int (Int32.ofNat B)), .val (.int (Int32.ofNat (B + M))), .val (.int (2 : Int32)), .val (.int (0 : Int32))] [(.int (0 : Int32)), (.int (Int32.ofNat B)), (.ref t2), (.int (f (A + 0)))])) _
          refine XS.iadd X0.here hx rfl (hb hby d3_38) rfl ?_
          show Steps p.tables e below (s₁.setTop (mkF m 39 #[.val (.ref t1), .val (.int (Int32.ofNat A)), .val (.int (Int32.ofNat (A + 2))), .val (.ref t2), .val (.int (Int32.ofNat B)), .val (.int (Int32.ofNat (B + M))), .val (.int (2 : Int32)), .val (.int (0 : Int32))] [(.int ((Int32.ofNat B) + (0 : Int32))), (.ref t2), (.int (f (A + 0)))])) _
          refine X0.baloadBytes hx (j := ((Int32.ofNat B) + (0 : Int32))) (v := (.int (g (B + 0)))) (by rw [e0]; exact Ar7.1) (State.isArrayOf_alike hZ.alike Ar7.2.1) Ar7.2.2 hin7 hat7 (g := (mkF m 39 #[.val (.ref t1), .val (.int (Int32.ofNat A)), .val (.int (Int32.ofNat (A + 2))), .val (.ref t2), .val (.int (Int32.ofNat B)), .val (.int (Int32.ofNat (B + M))), .val (.int (2 : Int32)), .val (.int (0 : Int32))] [(.int ((Int32.ofNat B) + (0 : Int32))), (.ref t2), (.int (f (A + 0)))])) rfl rfl (hb hby d3_39) _ ?_
          show Steps p.tables e below (s₁.setTop (mkF m 40 #[.val (.ref t1), .val (.int (Int32.ofNat A)), .val (.int (Int32.ofNat (A + 2))), .val (.ref t2), .val (.int (Int32.ofNat B)), .val (.int (Int32.ofNat (B + M))), .val (.int (2 : Int32)), .val (.int (0 : Int32))] [(.int (g (B + 0))), (.int (f (A + 0)))])) _
          refine XS.icmpNo X0.here hx rfl (hb hby d3_40) rfl (feq hc40).1 ?_
          show Steps p.tables e below (s₁.setTop (mkF m 43 #[.val (.ref t1), .val (.int (Int32.ofNat A)), .val (.int (Int32.ofNat (A + 2))), .val (.ref t2), .val (.int (Int32.ofNat B)), .val (.int (Int32.ofNat (B + M))), .val (.int (2 : Int32)), .val (.int (0 : Int32))] [])) _
          refine XS.iconst X0.here hx rfl (hb hby d3_43) ?_
          show Steps p.tables e below (s₁.setTop (mkF m 44 #[.val (.ref t1), .val (.int (Int32.ofNat A)), .val (.int (Int32.ofNat (A + 2))), .val (.ref t2), .val (.int (Int32.ofNat B)), .val (.int (Int32.ofNat (B + M))), .val (.int (2 : Int32)), .val (.int (0 : Int32))] [(.int (0 : Int32))])) _
          exact retN X0 hx (t := .boolean) Bd.returns (by simp) (hb hby d3_44) hr
        · show Q3 Z t1 t2 A B 2 M f g h0 n0 _ s₁.heap _
          rw [e0]
          exact ⟨_, rfl, N0, rfl, Or.inr ⟨rfl, fun q => hc40 (q.2 0 (by omega))⟩⟩
    · obtain ⟨fs, hr, hrun, hended, hW, hsame⟩ := X0.leave (v := some (.int (0 : Int32))) (fun h => by rw [Bd.returns] at h; cases h)
      refine ⟨_, _, pre0 _ ?_, hrun, hended, _, _, rfl, ?_, ⟨_, rfl⟩, hW, hsame.mono (by decide) (by decide)⟩
      · show Steps p.tables e below (s₁.setTop (mkF m 0 #[.val (.ref t1), .val (.int (Int32.ofNat A)), .val (.int (Int32.ofNat (A + 2))), .val (.ref t2), .val (.int (Int32.ofNat B)), .val (.int (Int32.ofNat (B + M))), .unset, .unset] [])) _
        refine seg5 _ ?_
        show Steps p.tables e below (s₁.setTop (mkF m 12 #[.val (.ref t1), .val (.int (Int32.ofNat A)), .val (.int (Int32.ofNat (A + 2))), .val (.ref t2), .val (.int (Int32.ofNat B)), .val (.int (Int32.ofNat (B + M))), .val (.int (2 : Int32)), .unset] [(.int (Int32.ofNat M)), (.int (2 : Int32))])) _
        refine XS.icmpNo X0.here hx rfl (hb hby d3_12) rfl (feq hc12).1 ?_
        show Steps p.tables e below (s₁.setTop (mkF m 15 #[.val (.ref t1), .val (.int (Int32.ofNat A)), .val (.int (Int32.ofNat (A + 2))), .val (.ref t2), .val (.int (Int32.ofNat B)), .val (.int (Int32.ofNat (B + M))), .val (.int (2 : Int32)), .unset] [])) _
        refine XS.iconst X0.here hx rfl (hb hby d3_15) ?_
        show Steps p.tables e below (s₁.setTop (mkF m 16 #[.val (.ref t1), .val (.int (Int32.ofNat A)), .val (.int (Int32.ofNat (A + 2))), .val (.ref t2), .val (.int (Int32.ofNat B)), .val (.int (Int32.ofNat (B + M))), .val (.int (2 : Int32)), .unset] [(.int (0 : Int32))])) _
        exact retN X0 hx (t := .boolean) Bd.returns (by simp) (hb hby d3_16) hr
      · show Q3 Z t1 t2 A B 2 M f g h0 n0 _ s₁.heap _
        rw [e0]
        exact ⟨_, rfl, N0, rfl, Or.inr ⟨rfl, fun q => hc12 (by rw [← q.1]; rfl)⟩⟩
  · have seg10 : ∀ target, Steps p.tables e below (s₁.setTop (mkF m 12 #[.val (.ref t1), .val (.int (Int32.ofNat A)), .val (.int (Int32.ofNat (A + 3))), .val (.ref t2), .val (.int (Int32.ofNat B)), .val (.int (Int32.ofNat (B + M))), .val (.int ((Int32.ofNat (A + 3)) - (Int32.ofNat A))), .unset] [(.int ((Int32.ofNat (B + M)) - (Int32.ofNat B))), (.int ((Int32.ofNat (A + 3)) - (Int32.ofNat A)))])) target → Steps p.tables e below (s₁.setTop (mkF m 0 #[.val (.ref t1), .val (.int (Int32.ofNat A)), .val (.int (Int32.ofNat (A + 3))), .val (.ref t2), .val (.int (Int32.ofNat B)), .val (.int (Int32.ofNat (B + M))), .unset, .unset] [])) target := by
      intro target kt
      show Steps p.tables e below (s₁.setTop (mkF m 0 #[.val (.ref t1), .val (.int (Int32.ofNat A)), .val (.int (Int32.ofNat (A + 3))), .val (.ref t2), .val (.int (Int32.ofNat B)), .val (.int (Int32.ofNat (B + M))), .unset, .unset] [])) _
      refine XS.iloadN X0.here hx rfl (hb hby d3_0) rfl ?_
      show Steps p.tables e below (s₁.setTop (mkF m 1 #[.val (.ref t1), .val (.int (Int32.ofNat A)), .val (.int (Int32.ofNat (A + 3))), .val (.ref t2), .val (.int (Int32.ofNat B)), .val (.int (Int32.ofNat (B + M))), .unset, .unset] [(.int (Int32.ofNat (A + 3)))])) _
      refine XS.iloadN X0.here hx rfl (hb hby d3_1) rfl ?_
      show Steps p.tables e below (s₁.setTop (mkF m 2 #[.val (.ref t1), .val (.int (Int32.ofNat A)), .val (.int (Int32.ofNat (A + 3))), .val (.ref t2), .val (.int (Int32.ofNat B)), .val (.int (Int32.ofNat (B + M))), .unset, .unset] [(.int (Int32.ofNat A)), (.int (Int32.ofNat (A + 3)))])) _
      refine XS.isub X0.here hx rfl (hb hby d3_2) rfl ?_
      show Steps p.tables e below (s₁.setTop (mkF m 3 #[.val (.ref t1), .val (.int (Int32.ofNat A)), .val (.int (Int32.ofNat (A + 3))), .val (.ref t2), .val (.int (Int32.ofNat B)), .val (.int (Int32.ofNat (B + M))), .unset, .unset] [(.int ((Int32.ofNat (A + 3)) - (Int32.ofNat A)))])) _
      refine XS.istore X0.here hx rfl (hb hby d3_3) rfl (l' := #[.val (.ref t1), .val (.int (Int32.ofNat A)), .val (.int (Int32.ofNat (A + 3))), .val (.ref t2), .val (.int (Int32.ofNat B)), .val (.int (Int32.ofNat (B + M))), .val (.int ((Int32.ofNat (A + 3)) - (Int32.ofNat A))), .unset]) rfl ?_
      show Steps p.tables e below (s₁.setTop (mkF m 5 #[.val (.ref t1), .val (.int (Int32.ofNat A)), .val (.int (Int32.ofNat (A + 3))), .val (.ref t2), .val (.int (Int32.ofNat B)), .val (.int (Int32.ofNat (B + M))), .val (.int ((Int32.ofNat (A + 3)) - (Int32.ofNat A))), .unset] [])) _
      refine XS.iload X0.here hx rfl (hb hby d3_5) rfl ?_
      show Steps p.tables e below (s₁.setTop (mkF m 7 #[.val (.ref t1), .val (.int (Int32.ofNat A)), .val (.int (Int32.ofNat (A + 3))), .val (.ref t2), .val (.int (Int32.ofNat B)), .val (.int (Int32.ofNat (B + M))), .val (.int ((Int32.ofNat (A + 3)) - (Int32.ofNat A))), .unset] [(.int ((Int32.ofNat (A + 3)) - (Int32.ofNat A)))])) _
      refine XS.iload X0.here hx rfl (hb hby d3_7) rfl ?_
      show Steps p.tables e below (s₁.setTop (mkF m 9 #[.val (.ref t1), .val (.int (Int32.ofNat A)), .val (.int (Int32.ofNat (A + 3))), .val (.ref t2), .val (.int (Int32.ofNat B)), .val (.int (Int32.ofNat (B + M))), .val (.int ((Int32.ofNat (A + 3)) - (Int32.ofNat A))), .unset] [(.int (Int32.ofNat (B + M))), (.int ((Int32.ofNat (A + 3)) - (Int32.ofNat A)))])) _
      refine XS.iload X0.here hx rfl (hb hby d3_9) rfl ?_
      show Steps p.tables e below (s₁.setTop (mkF m 11 #[.val (.ref t1), .val (.int (Int32.ofNat A)), .val (.int (Int32.ofNat (A + 3))), .val (.ref t2), .val (.int (Int32.ofNat B)), .val (.int (Int32.ofNat (B + M))), .val (.int ((Int32.ofNat (A + 3)) - (Int32.ofNat A))), .unset] [(.int (Int32.ofNat B)), (.int (Int32.ofNat (B + M))), (.int ((Int32.ofNat (A + 3)) - (Int32.ofNat A)))])) _
      refine XS.isub X0.here hx rfl (hb hby d3_11) rfl ?_
      exact kt
    rw [show ((Int32.ofNat (A + 3)) - (Int32.ofNat A)) = (3 : Int32) from own_sb A 3, show ((Int32.ofNat (B + M)) - (Int32.ofNat B)) = Int32.ofNat M from own_sb B M] at seg10
    by_cases hc12 : (3 : Int32) = (Int32.ofNat M)
    · have hMn : 3 = M := (own_inj (i := 3) (by omega) (by omega)).mp hc12
      obtain ⟨cl11, Ar11, S11, H11⟩ := id BA
      have hin11 : ¬ (((Int32.ofNat A) + (0 : Int32)) < 0 ∨ cl11.slots.size ≤ (((Int32.ofNat A) + (0 : Int32))).toNatClampNeg) := by rw [S11]; exact within (show Int32.ofNat A + (0 : Int32) = Int32.ofNat (A + 0) from by rw [show (0 : Int32) = Int32.ofNat 0 from by decide]; exact own_ad A 0) (show A + 0 < 4 by omega) (by decide)
      have hat11 : cl11.slots[(((Int32.ofNat A) + (0 : Int32))).toNatClampNeg]? = some (.int (f (A + 0))) := by rw [clamp_of (show Int32.ofNat A + (0 : Int32) = Int32.ofNat (A + 0) from by rw [show (0 : Int32) = Int32.ofNat 0 from by decide]; exact own_ad A 0) (Nat.lt_trans (show A + 0 < 4 by omega) (by decide))]; exact H11 _ (show A + 0 < 4 by omega)
      obtain ⟨cl12, Ar12, S12, H12⟩ := id BB
      have hin12 : ¬ (((Int32.ofNat B) + (0 : Int32)) < 0 ∨ cl12.slots.size ≤ (((Int32.ofNat B) + (0 : Int32))).toNatClampNeg) := by rw [S12]; exact within (show Int32.ofNat B + (0 : Int32) = Int32.ofNat (B + 0) from by rw [show (0 : Int32) = Int32.ofNat 0 from by decide]; exact own_ad B 0) (show B + 0 < 4 by omega) (by decide)
      have hat12 : cl12.slots[(((Int32.ofNat B) + (0 : Int32))).toNatClampNeg]? = some (.int (g (B + 0))) := by rw [clamp_of (show Int32.ofNat B + (0 : Int32) = Int32.ofNat (B + 0) from by rw [show (0 : Int32) = Int32.ofNat 0 from by decide]; exact own_ad B 0) (Nat.lt_trans (show B + 0 < 4 by omega) (by decide))]; exact H12 _ (show B + 0 < 4 by omega)
      by_cases hc40 : (f (A + 0)) = (g (B + 0))
      · obtain ⟨cl13, Ar13, S13, H13⟩ := id BA
        have hin13 : ¬ (((Int32.ofNat A) + ((0 : Int32) + (1 : Int32))) < 0 ∨ cl13.slots.size ≤ (((Int32.ofNat A) + ((0 : Int32) + (1 : Int32)))).toNatClampNeg) := by rw [S13]; exact within (show Int32.ofNat A + ((0 : Int32) + (1 : Int32)) = Int32.ofNat (A + 1) from by rw [show ((0 : Int32) + (1 : Int32)) = Int32.ofNat 1 from by decide]; exact own_ad A 1) (show A + 1 < 4 by omega) (by decide)
        have hat13 : cl13.slots[(((Int32.ofNat A) + ((0 : Int32) + (1 : Int32)))).toNatClampNeg]? = some (.int (f (A + 1))) := by rw [clamp_of (show Int32.ofNat A + ((0 : Int32) + (1 : Int32)) = Int32.ofNat (A + 1) from by rw [show ((0 : Int32) + (1 : Int32)) = Int32.ofNat 1 from by decide]; exact own_ad A 1) (Nat.lt_trans (show A + 1 < 4 by omega) (by decide))]; exact H13 _ (show A + 1 < 4 by omega)
        obtain ⟨cl14, Ar14, S14, H14⟩ := id BB
        have hin14 : ¬ (((Int32.ofNat B) + ((0 : Int32) + (1 : Int32))) < 0 ∨ cl14.slots.size ≤ (((Int32.ofNat B) + ((0 : Int32) + (1 : Int32)))).toNatClampNeg) := by rw [S14]; exact within (show Int32.ofNat B + ((0 : Int32) + (1 : Int32)) = Int32.ofNat (B + 1) from by rw [show ((0 : Int32) + (1 : Int32)) = Int32.ofNat 1 from by decide]; exact own_ad B 1) (show B + 1 < 4 by omega) (by decide)
        have hat14 : cl14.slots[(((Int32.ofNat B) + ((0 : Int32) + (1 : Int32)))).toNatClampNeg]? = some (.int (g (B + 1))) := by rw [clamp_of (show Int32.ofNat B + ((0 : Int32) + (1 : Int32)) = Int32.ofNat (B + 1) from by rw [show ((0 : Int32) + (1 : Int32)) = Int32.ofNat 1 from by decide]; exact own_ad B 1) (Nat.lt_trans (show B + 1 < 4 by omega) (by decide))]; exact H14 _ (show B + 1 < 4 by omega)
        by_cases hc40_2 : (f (A + 1)) = (g (B + 1))
        · obtain ⟨cl15, Ar15, S15, H15⟩ := id BA
          have hin15 : ¬ (((Int32.ofNat A) + (((0 : Int32) + (1 : Int32)) + (1 : Int32))) < 0 ∨ cl15.slots.size ≤ (((Int32.ofNat A) + (((0 : Int32) + (1 : Int32)) + (1 : Int32)))).toNatClampNeg) := by rw [S15]; exact within (show Int32.ofNat A + (((0 : Int32) + (1 : Int32)) + (1 : Int32)) = Int32.ofNat (A + 2) from by rw [show (((0 : Int32) + (1 : Int32)) + (1 : Int32)) = Int32.ofNat 2 from by decide]; exact own_ad A 2) (show A + 2 < 4 by omega) (by decide)
          have hat15 : cl15.slots[(((Int32.ofNat A) + (((0 : Int32) + (1 : Int32)) + (1 : Int32)))).toNatClampNeg]? = some (.int (f (A + 2))) := by rw [clamp_of (show Int32.ofNat A + (((0 : Int32) + (1 : Int32)) + (1 : Int32)) = Int32.ofNat (A + 2) from by rw [show (((0 : Int32) + (1 : Int32)) + (1 : Int32)) = Int32.ofNat 2 from by decide]; exact own_ad A 2) (Nat.lt_trans (show A + 2 < 4 by omega) (by decide))]; exact H15 _ (show A + 2 < 4 by omega)
          obtain ⟨cl16, Ar16, S16, H16⟩ := id BB
          have hin16 : ¬ (((Int32.ofNat B) + (((0 : Int32) + (1 : Int32)) + (1 : Int32))) < 0 ∨ cl16.slots.size ≤ (((Int32.ofNat B) + (((0 : Int32) + (1 : Int32)) + (1 : Int32)))).toNatClampNeg) := by rw [S16]; exact within (show Int32.ofNat B + (((0 : Int32) + (1 : Int32)) + (1 : Int32)) = Int32.ofNat (B + 2) from by rw [show (((0 : Int32) + (1 : Int32)) + (1 : Int32)) = Int32.ofNat 2 from by decide]; exact own_ad B 2) (show B + 2 < 4 by omega) (by decide)
          have hat16 : cl16.slots[(((Int32.ofNat B) + (((0 : Int32) + (1 : Int32)) + (1 : Int32)))).toNatClampNeg]? = some (.int (g (B + 2))) := by rw [clamp_of (show Int32.ofNat B + (((0 : Int32) + (1 : Int32)) + (1 : Int32)) = Int32.ofNat (B + 2) from by rw [show (((0 : Int32) + (1 : Int32)) + (1 : Int32)) = Int32.ofNat 2 from by decide]; exact own_ad B 2) (Nat.lt_trans (show B + 2 < 4 by omega) (by decide))]; exact H16 _ (show B + 2 < 4 by omega)
          by_cases hc40_3 : (f (A + 2)) = (g (B + 2))
          · obtain ⟨fs, hr, hrun, hended, hW, hsame⟩ := X0.leave (v := some (.int (1 : Int32))) (fun h => by rw [Bd.returns] at h; cases h)
            refine ⟨_, _, pre0 _ ?_, hrun, hended, _, _, rfl, ?_, ⟨_, rfl⟩, hW, hsame.mono (by decide) (by decide)⟩
            · show Steps p.tables e below (s₁.setTop (mkF m 0 #[.val (.ref t1), .val (.int (Int32.ofNat A)), .val (.int (Int32.ofNat (A + 3))), .val (.ref t2), .val (.int (Int32.ofNat B)), .val (.int (Int32.ofNat (B + M))), .unset, .unset] [])) _
              refine seg10 _ ?_
              show Steps p.tables e below (s₁.setTop (mkF m 12 #[.val (.ref t1), .val (.int (Int32.ofNat A)), .val (.int (Int32.ofNat (A + 3))), .val (.ref t2), .val (.int (Int32.ofNat B)), .val (.int (Int32.ofNat (B + M))), .val (.int (3 : Int32)), .unset] [(.int (Int32.ofNat M)), (.int (3 : Int32))])) _
              refine XS.icmpYes X0.here hx rfl (pc0 := 12) (pc' := 17) rfl (hb hby d3_12) rfl (teq hc12).1 (by decide) (by decide) ?_
              show Steps p.tables e below (s₁.setTop (mkF m 17 #[.val (.ref t1), .val (.int (Int32.ofNat A)), .val (.int (Int32.ofNat (A + 3))), .val (.ref t2), .val (.int (Int32.ofNat B)), .val (.int (Int32.ofNat (B + M))), .val (.int (3 : Int32)), .unset] [])) _
              refine XS.iconst X0.here hx rfl (hb hby d3_17) ?_
              show Steps p.tables e below (s₁.setTop (mkF m 18 #[.val (.ref t1), .val (.int (Int32.ofNat A)), .val (.int (Int32.ofNat (A + 3))), .val (.ref t2), .val (.int (Int32.ofNat B)), .val (.int (Int32.ofNat (B + M))), .val (.int (3 : Int32)), .unset] [(.int (0 : Int32))])) _
              refine XS.istore X0.here hx rfl (hb hby d3_18) rfl (l' := #[.val (.ref t1), .val (.int (Int32.ofNat A)), .val (.int (Int32.ofNat (A + 3))), .val (.ref t2), .val (.int (Int32.ofNat B)), .val (.int (Int32.ofNat (B + M))), .val (.int (3 : Int32)), .val (.int (0 : Int32))]) rfl ?_
              show Steps p.tables e below (s₁.setTop (mkF m 20 #[.val (.ref t1), .val (.int (Int32.ofNat A)), .val (.int (Int32.ofNat (A + 3))), .val (.ref t2), .val (.int (Int32.ofNat B)), .val (.int (Int32.ofNat (B + M))), .val (.int (3 : Int32)), .val (.int (0 : Int32))] [])) _
              refine XS.iload X0.here hx rfl (hb hby d3_20) rfl ?_
              show Steps p.tables e below (s₁.setTop (mkF m 22 #[.val (.ref t1), .val (.int (Int32.ofNat A)), .val (.int (Int32.ofNat (A + 3))), .val (.ref t2), .val (.int (Int32.ofNat B)), .val (.int (Int32.ofNat (B + M))), .val (.int (3 : Int32)), .val (.int (0 : Int32))] [(.int (0 : Int32))])) _
              refine XS.iload X0.here hx rfl (hb hby d3_22) rfl ?_
              show Steps p.tables e below (s₁.setTop (mkF m 24 #[.val (.ref t1), .val (.int (Int32.ofNat A)), .val (.int (Int32.ofNat (A + 3))), .val (.ref t2), .val (.int (Int32.ofNat B)), .val (.int (Int32.ofNat (B + M))), .val (.int (3 : Int32)), .val (.int (0 : Int32))] [(.int (3 : Int32)), (.int (0 : Int32))])) _
              refine XS.icmpNo X0.here hx rfl (hb hby d3_24) rfl (by decide) ?_
              show Steps p.tables e below (s₁.setTop (mkF m 27 #[.val (.ref t1), .val (.int (Int32.ofNat A)), .val (.int (Int32.ofNat (A + 3))), .val (.ref t2), .val (.int (Int32.ofNat B)), .val (.int (Int32.ofNat (B + M))), .val (.int (3 : Int32)), .val (.int (0 : Int32))] [])) _
              refine XS.aloadN X0.here hx rfl (hb hby d3_27) rfl rfl ?_
              show Steps p.tables e below (s₁.setTop (mkF m 28 #[.val (.ref t1), .val (.int (Int32.ofNat A)), .val (.int (Int32.ofNat (A + 3))), .val (.ref t2), .val (.int (Int32.ofNat B)), .val (.int (Int32.ofNat (B + M))), .val (.int (3 : Int32)), .val (.int (0 : Int32))] [(.ref t1)])) _
              refine XS.iloadN X0.here hx rfl (hb hby d3_28) rfl ?_
              show Steps p.tables e below (s₁.setTop (mkF m 29 #[.val (.ref t1), .val (.int (Int32.ofNat A)), .val (.int (Int32.ofNat (A + 3))), .val (.ref t2), .val (.int (Int32.ofNat B)), .val (.int (Int32.ofNat (B + M))), .val (.int (3 : Int32)), .val (.int (0 : Int32))] [(.int (Int32.ofNat A)), (.ref t1)])) _
              refine XS.iload X0.here hx rfl (hb hby d3_29) rfl ?_
              show Steps p.tables e below (s₁.setTop (mkF m 31 #[.val (.ref t1), .val (.int (Int32.ofNat A)), .val (.int (Int32.ofNat (A + 3))), .val (.ref t2), .val (.int (Int32.ofNat B)), .val (.int (Int32.ofNat (B + M))), .val (.int (3 : Int32)), .val (.int (0 : Int32))] [(.int (0 : Int32)), (.int (Int32.ofNat A)), (.ref t1)])) _
              refine XS.iadd X0.here hx rfl (hb hby d3_31) rfl ?_
              show Steps p.tables e below (s₁.setTop (mkF m 32 #[.val (.ref t1), .val (.int (Int32.ofNat A)), .val (.int (Int32.ofNat (A + 3))), .val (.ref t2), .val (.int (Int32.ofNat B)), .val (.int (Int32.ofNat (B + M))), .val (.int (3 : Int32)), .val (.int (0 : Int32))] [(.int ((Int32.ofNat A) + (0 : Int32))), (.ref t1)])) _
              refine X0.baloadBytes hx (j := ((Int32.ofNat A) + (0 : Int32))) (v := (.int (f (A + 0)))) (by rw [e0]; exact Ar11.1) (State.isArrayOf_alike hZ.alike Ar11.2.1) Ar11.2.2 hin11 hat11 (g := (mkF m 32 #[.val (.ref t1), .val (.int (Int32.ofNat A)), .val (.int (Int32.ofNat (A + 3))), .val (.ref t2), .val (.int (Int32.ofNat B)), .val (.int (Int32.ofNat (B + M))), .val (.int (3 : Int32)), .val (.int (0 : Int32))] [(.int ((Int32.ofNat A) + (0 : Int32))), (.ref t1)])) rfl rfl (hb hby d3_32) _ ?_
              show Steps p.tables e below (s₁.setTop (mkF m 33 #[.val (.ref t1), .val (.int (Int32.ofNat A)), .val (.int (Int32.ofNat (A + 3))), .val (.ref t2), .val (.int (Int32.ofNat B)), .val (.int (Int32.ofNat (B + M))), .val (.int (3 : Int32)), .val (.int (0 : Int32))] [(.int (f (A + 0)))])) _
              refine XS.aloadN X0.here hx rfl (hb hby d3_33) rfl rfl ?_
              show Steps p.tables e below (s₁.setTop (mkF m 34 #[.val (.ref t1), .val (.int (Int32.ofNat A)), .val (.int (Int32.ofNat (A + 3))), .val (.ref t2), .val (.int (Int32.ofNat B)), .val (.int (Int32.ofNat (B + M))), .val (.int (3 : Int32)), .val (.int (0 : Int32))] [(.ref t2), (.int (f (A + 0)))])) _
              refine XS.iload X0.here hx rfl (hb hby d3_34) rfl ?_
              show Steps p.tables e below (s₁.setTop (mkF m 36 #[.val (.ref t1), .val (.int (Int32.ofNat A)), .val (.int (Int32.ofNat (A + 3))), .val (.ref t2), .val (.int (Int32.ofNat B)), .val (.int (Int32.ofNat (B + M))), .val (.int (3 : Int32)), .val (.int (0 : Int32))] [(.int (Int32.ofNat B)), (.ref t2), (.int (f (A + 0)))])) _
              refine XS.iload X0.here hx rfl (hb hby d3_36) rfl ?_
              show Steps p.tables e below (s₁.setTop (mkF m 38 #[.val (.ref t1), .val (.int (Int32.ofNat A)), .val (.int (Int32.ofNat (A + 3))), .val (.ref t2), .val (.int (Int32.ofNat B)), .val (.int (Int32.ofNat (B + M))), .val (.int (3 : Int32)), .val (.int (0 : Int32))] [(.int (0 : Int32)), (.int (Int32.ofNat B)), (.ref t2), (.int (f (A + 0)))])) _
              refine XS.iadd X0.here hx rfl (hb hby d3_38) rfl ?_
              show Steps p.tables e below (s₁.setTop (mkF m 39 #[.val (.ref t1), .val (.int (Int32.ofNat A)), .val (.int (Int32.ofNat (A + 3))), .val (.ref t2), .val (.int (Int32.ofNat B)), .val (.int (Int32.ofNat (B + M))), .val (.int (3 : Int32)), .val (.int (0 : Int32))] [(.int ((Int32.ofNat B) + (0 : Int32))), (.ref t2), (.int (f (A + 0)))])) _
              refine X0.baloadBytes hx (j := ((Int32.ofNat B) + (0 : Int32))) (v := (.int (g (B + 0)))) (by rw [e0]; exact Ar12.1) (State.isArrayOf_alike hZ.alike Ar12.2.1) Ar12.2.2 hin12 hat12 (g := (mkF m 39 #[.val (.ref t1), .val (.int (Int32.ofNat A)), .val (.int (Int32.ofNat (A + 3))), .val (.ref t2), .val (.int (Int32.ofNat B)), .val (.int (Int32.ofNat (B + M))), .val (.int (3 : Int32)), .val (.int (0 : Int32))] [(.int ((Int32.ofNat B) + (0 : Int32))), (.ref t2), (.int (f (A + 0)))])) rfl rfl (hb hby d3_39) _ ?_
              show Steps p.tables e below (s₁.setTop (mkF m 40 #[.val (.ref t1), .val (.int (Int32.ofNat A)), .val (.int (Int32.ofNat (A + 3))), .val (.ref t2), .val (.int (Int32.ofNat B)), .val (.int (Int32.ofNat (B + M))), .val (.int (3 : Int32)), .val (.int (0 : Int32))] [(.int (g (B + 0))), (.int (f (A + 0)))])) _
              refine XS.icmpYes X0.here hx rfl (pc0 := 40) (pc' := 45) rfl (hb hby d3_40) rfl (teq hc40).1 (by decide) (by decide) ?_
              show Steps p.tables e below (s₁.setTop (mkF m 45 #[.val (.ref t1), .val (.int (Int32.ofNat A)), .val (.int (Int32.ofNat (A + 3))), .val (.ref t2), .val (.int (Int32.ofNat B)), .val (.int (Int32.ofNat (B + M))), .val (.int (3 : Int32)), .val (.int (0 : Int32))] [])) _
              refine XS.iinc X0.here hx rfl (hb hby d3_45) rfl (l' := #[.val (.ref t1), .val (.int (Int32.ofNat A)), .val (.int (Int32.ofNat (A + 3))), .val (.ref t2), .val (.int (Int32.ofNat B)), .val (.int (Int32.ofNat (B + M))), .val (.int (3 : Int32)), .val (.int ((0 : Int32) + (1 : Int32)))]) rfl ?_
              show Steps p.tables e below (s₁.setTop (mkF m 48 #[.val (.ref t1), .val (.int (Int32.ofNat A)), .val (.int (Int32.ofNat (A + 3))), .val (.ref t2), .val (.int (Int32.ofNat B)), .val (.int (Int32.ofNat (B + M))), .val (.int (3 : Int32)), .val (.int ((0 : Int32) + (1 : Int32)))] [])) _
              refine XS.goto X0.here hx rfl (pc0 := 48) (pc' := 20) rfl (hb hby d3_48) (by decide) (by decide) ?_
              show Steps p.tables e below (s₁.setTop (mkF m 20 #[.val (.ref t1), .val (.int (Int32.ofNat A)), .val (.int (Int32.ofNat (A + 3))), .val (.ref t2), .val (.int (Int32.ofNat B)), .val (.int (Int32.ofNat (B + M))), .val (.int (3 : Int32)), .val (.int ((0 : Int32) + (1 : Int32)))] [])) _
              refine XS.iload X0.here hx rfl (hb hby d3_20) rfl ?_
              show Steps p.tables e below (s₁.setTop (mkF m 22 #[.val (.ref t1), .val (.int (Int32.ofNat A)), .val (.int (Int32.ofNat (A + 3))), .val (.ref t2), .val (.int (Int32.ofNat B)), .val (.int (Int32.ofNat (B + M))), .val (.int (3 : Int32)), .val (.int ((0 : Int32) + (1 : Int32)))] [(.int ((0 : Int32) + (1 : Int32)))])) _
              refine XS.iload X0.here hx rfl (hb hby d3_22) rfl ?_
              show Steps p.tables e below (s₁.setTop (mkF m 24 #[.val (.ref t1), .val (.int (Int32.ofNat A)), .val (.int (Int32.ofNat (A + 3))), .val (.ref t2), .val (.int (Int32.ofNat B)), .val (.int (Int32.ofNat (B + M))), .val (.int (3 : Int32)), .val (.int ((0 : Int32) + (1 : Int32)))] [(.int (3 : Int32)), (.int ((0 : Int32) + (1 : Int32)))])) _
              refine XS.icmpNo X0.here hx rfl (hb hby d3_24) rfl (by decide) ?_
              show Steps p.tables e below (s₁.setTop (mkF m 27 #[.val (.ref t1), .val (.int (Int32.ofNat A)), .val (.int (Int32.ofNat (A + 3))), .val (.ref t2), .val (.int (Int32.ofNat B)), .val (.int (Int32.ofNat (B + M))), .val (.int (3 : Int32)), .val (.int ((0 : Int32) + (1 : Int32)))] [])) _
              refine XS.aloadN X0.here hx rfl (hb hby d3_27) rfl rfl ?_
              show Steps p.tables e below (s₁.setTop (mkF m 28 #[.val (.ref t1), .val (.int (Int32.ofNat A)), .val (.int (Int32.ofNat (A + 3))), .val (.ref t2), .val (.int (Int32.ofNat B)), .val (.int (Int32.ofNat (B + M))), .val (.int (3 : Int32)), .val (.int ((0 : Int32) + (1 : Int32)))] [(.ref t1)])) _
              refine XS.iloadN X0.here hx rfl (hb hby d3_28) rfl ?_
              show Steps p.tables e below (s₁.setTop (mkF m 29 #[.val (.ref t1), .val (.int (Int32.ofNat A)), .val (.int (Int32.ofNat (A + 3))), .val (.ref t2), .val (.int (Int32.ofNat B)), .val (.int (Int32.ofNat (B + M))), .val (.int (3 : Int32)), .val (.int ((0 : Int32) + (1 : Int32)))] [(.int (Int32.ofNat A)), (.ref t1)])) _
              refine XS.iload X0.here hx rfl (hb hby d3_29) rfl ?_
              show Steps p.tables e below (s₁.setTop (mkF m 31 #[.val (.ref t1), .val (.int (Int32.ofNat A)), .val (.int (Int32.ofNat (A + 3))), .val (.ref t2), .val (.int (Int32.ofNat B)), .val (.int (Int32.ofNat (B + M))), .val (.int (3 : Int32)), .val (.int ((0 : Int32) + (1 : Int32)))] [(.int ((0 : Int32) + (1 : Int32))), (.int (Int32.ofNat A)), (.ref t1)])) _
              refine XS.iadd X0.here hx rfl (hb hby d3_31) rfl ?_
              show Steps p.tables e below (s₁.setTop (mkF m 32 #[.val (.ref t1), .val (.int (Int32.ofNat A)), .val (.int (Int32.ofNat (A + 3))), .val (.ref t2), .val (.int (Int32.ofNat B)), .val (.int (Int32.ofNat (B + M))), .val (.int (3 : Int32)), .val (.int ((0 : Int32) + (1 : Int32)))] [(.int ((Int32.ofNat A) + ((0 : Int32) + (1 : Int32)))), (.ref t1)])) _
              refine X0.baloadBytes hx (j := ((Int32.ofNat A) + ((0 : Int32) + (1 : Int32)))) (v := (.int (f (A + 1)))) (by rw [e0]; exact Ar13.1) (State.isArrayOf_alike hZ.alike Ar13.2.1) Ar13.2.2 hin13 hat13 (g := (mkF m 32 #[.val (.ref t1), .val (.int (Int32.ofNat A)), .val (.int (Int32.ofNat (A + 3))), .val (.ref t2), .val (.int (Int32.ofNat B)), .val (.int (Int32.ofNat (B + M))), .val (.int (3 : Int32)), .val (.int ((0 : Int32) + (1 : Int32)))] [(.int ((Int32.ofNat A) + ((0 : Int32) + (1 : Int32)))), (.ref t1)])) rfl rfl (hb hby d3_32) _ ?_
              show Steps p.tables e below (s₁.setTop (mkF m 33 #[.val (.ref t1), .val (.int (Int32.ofNat A)), .val (.int (Int32.ofNat (A + 3))), .val (.ref t2), .val (.int (Int32.ofNat B)), .val (.int (Int32.ofNat (B + M))), .val (.int (3 : Int32)), .val (.int ((0 : Int32) + (1 : Int32)))] [(.int (f (A + 1)))])) _
              refine XS.aloadN X0.here hx rfl (hb hby d3_33) rfl rfl ?_
              show Steps p.tables e below (s₁.setTop (mkF m 34 #[.val (.ref t1), .val (.int (Int32.ofNat A)), .val (.int (Int32.ofNat (A + 3))), .val (.ref t2), .val (.int (Int32.ofNat B)), .val (.int (Int32.ofNat (B + M))), .val (.int (3 : Int32)), .val (.int ((0 : Int32) + (1 : Int32)))] [(.ref t2), (.int (f (A + 1)))])) _
              refine XS.iload X0.here hx rfl (hb hby d3_34) rfl ?_
              show Steps p.tables e below (s₁.setTop (mkF m 36 #[.val (.ref t1), .val (.int (Int32.ofNat A)), .val (.int (Int32.ofNat (A + 3))), .val (.ref t2), .val (.int (Int32.ofNat B)), .val (.int (Int32.ofNat (B + M))), .val (.int (3 : Int32)), .val (.int ((0 : Int32) + (1 : Int32)))] [(.int (Int32.ofNat B)), (.ref t2), (.int (f (A + 1)))])) _
              refine XS.iload X0.here hx rfl (hb hby d3_36) rfl ?_
              show Steps p.tables e below (s₁.setTop (mkF m 38 #[.val (.ref t1), .val (.int (Int32.ofNat A)), .val (.int (Int32.ofNat (A + 3))), .val (.ref t2), .val (.int (Int32.ofNat B)), .val (.int (Int32.ofNat (B + M))), .val (.int (3 : Int32)), .val (.int ((0 : Int32) + (1 : Int32)))] [(.int ((0 : Int32) + (1 : Int32))), (.int (Int32.ofNat B)), (.ref t2), (.int (f (A + 1)))])) _
              refine XS.iadd X0.here hx rfl (hb hby d3_38) rfl ?_
              show Steps p.tables e below (s₁.setTop (mkF m 39 #[.val (.ref t1), .val (.int (Int32.ofNat A)), .val (.int (Int32.ofNat (A + 3))), .val (.ref t2), .val (.int (Int32.ofNat B)), .val (.int (Int32.ofNat (B + M))), .val (.int (3 : Int32)), .val (.int ((0 : Int32) + (1 : Int32)))] [(.int ((Int32.ofNat B) + ((0 : Int32) + (1 : Int32)))), (.ref t2), (.int (f (A + 1)))])) _
              refine X0.baloadBytes hx (j := ((Int32.ofNat B) + ((0 : Int32) + (1 : Int32)))) (v := (.int (g (B + 1)))) (by rw [e0]; exact Ar14.1) (State.isArrayOf_alike hZ.alike Ar14.2.1) Ar14.2.2 hin14 hat14 (g := (mkF m 39 #[.val (.ref t1), .val (.int (Int32.ofNat A)), .val (.int (Int32.ofNat (A + 3))), .val (.ref t2), .val (.int (Int32.ofNat B)), .val (.int (Int32.ofNat (B + M))), .val (.int (3 : Int32)), .val (.int ((0 : Int32) + (1 : Int32)))] [(.int ((Int32.ofNat B) + ((0 : Int32) + (1 : Int32)))), (.ref t2), (.int (f (A + 1)))])) rfl rfl (hb hby d3_39) _ ?_
              show Steps p.tables e below (s₁.setTop (mkF m 40 #[.val (.ref t1), .val (.int (Int32.ofNat A)), .val (.int (Int32.ofNat (A + 3))), .val (.ref t2), .val (.int (Int32.ofNat B)), .val (.int (Int32.ofNat (B + M))), .val (.int (3 : Int32)), .val (.int ((0 : Int32) + (1 : Int32)))] [(.int (g (B + 1))), (.int (f (A + 1)))])) _
              refine XS.icmpYes X0.here hx rfl (pc0 := 40) (pc' := 45) rfl (hb hby d3_40) rfl (teq hc40_2).1 (by decide) (by decide) ?_
              show Steps p.tables e below (s₁.setTop (mkF m 45 #[.val (.ref t1), .val (.int (Int32.ofNat A)), .val (.int (Int32.ofNat (A + 3))), .val (.ref t2), .val (.int (Int32.ofNat B)), .val (.int (Int32.ofNat (B + M))), .val (.int (3 : Int32)), .val (.int ((0 : Int32) + (1 : Int32)))] [])) _
              refine XS.iinc X0.here hx rfl (hb hby d3_45) rfl (l' := #[.val (.ref t1), .val (.int (Int32.ofNat A)), .val (.int (Int32.ofNat (A + 3))), .val (.ref t2), .val (.int (Int32.ofNat B)), .val (.int (Int32.ofNat (B + M))), .val (.int (3 : Int32)), .val (.int (((0 : Int32) + (1 : Int32)) + (1 : Int32)))]) rfl ?_
              show Steps p.tables e below (s₁.setTop (mkF m 48 #[.val (.ref t1), .val (.int (Int32.ofNat A)), .val (.int (Int32.ofNat (A + 3))), .val (.ref t2), .val (.int (Int32.ofNat B)), .val (.int (Int32.ofNat (B + M))), .val (.int (3 : Int32)), .val (.int (((0 : Int32) + (1 : Int32)) + (1 : Int32)))] [])) _
              refine XS.goto X0.here hx rfl (pc0 := 48) (pc' := 20) rfl (hb hby d3_48) (by decide) (by decide) ?_
              show Steps p.tables e below (s₁.setTop (mkF m 20 #[.val (.ref t1), .val (.int (Int32.ofNat A)), .val (.int (Int32.ofNat (A + 3))), .val (.ref t2), .val (.int (Int32.ofNat B)), .val (.int (Int32.ofNat (B + M))), .val (.int (3 : Int32)), .val (.int (((0 : Int32) + (1 : Int32)) + (1 : Int32)))] [])) _
              refine XS.iload X0.here hx rfl (hb hby d3_20) rfl ?_
              show Steps p.tables e below (s₁.setTop (mkF m 22 #[.val (.ref t1), .val (.int (Int32.ofNat A)), .val (.int (Int32.ofNat (A + 3))), .val (.ref t2), .val (.int (Int32.ofNat B)), .val (.int (Int32.ofNat (B + M))), .val (.int (3 : Int32)), .val (.int (((0 : Int32) + (1 : Int32)) + (1 : Int32)))] [(.int (((0 : Int32) + (1 : Int32)) + (1 : Int32)))])) _
              refine XS.iload X0.here hx rfl (hb hby d3_22) rfl ?_
              show Steps p.tables e below (s₁.setTop (mkF m 24 #[.val (.ref t1), .val (.int (Int32.ofNat A)), .val (.int (Int32.ofNat (A + 3))), .val (.ref t2), .val (.int (Int32.ofNat B)), .val (.int (Int32.ofNat (B + M))), .val (.int (3 : Int32)), .val (.int (((0 : Int32) + (1 : Int32)) + (1 : Int32)))] [(.int (3 : Int32)), (.int (((0 : Int32) + (1 : Int32)) + (1 : Int32)))])) _
              refine XS.icmpNo X0.here hx rfl (hb hby d3_24) rfl (by decide) ?_
              show Steps p.tables e below (s₁.setTop (mkF m 27 #[.val (.ref t1), .val (.int (Int32.ofNat A)), .val (.int (Int32.ofNat (A + 3))), .val (.ref t2), .val (.int (Int32.ofNat B)), .val (.int (Int32.ofNat (B + M))), .val (.int (3 : Int32)), .val (.int (((0 : Int32) + (1 : Int32)) + (1 : Int32)))] [])) _
              refine XS.aloadN X0.here hx rfl (hb hby d3_27) rfl rfl ?_
              show Steps p.tables e below (s₁.setTop (mkF m 28 #[.val (.ref t1), .val (.int (Int32.ofNat A)), .val (.int (Int32.ofNat (A + 3))), .val (.ref t2), .val (.int (Int32.ofNat B)), .val (.int (Int32.ofNat (B + M))), .val (.int (3 : Int32)), .val (.int (((0 : Int32) + (1 : Int32)) + (1 : Int32)))] [(.ref t1)])) _
              refine XS.iloadN X0.here hx rfl (hb hby d3_28) rfl ?_
              show Steps p.tables e below (s₁.setTop (mkF m 29 #[.val (.ref t1), .val (.int (Int32.ofNat A)), .val (.int (Int32.ofNat (A + 3))), .val (.ref t2), .val (.int (Int32.ofNat B)), .val (.int (Int32.ofNat (B + M))), .val (.int (3 : Int32)), .val (.int (((0 : Int32) + (1 : Int32)) + (1 : Int32)))] [(.int (Int32.ofNat A)), (.ref t1)])) _
              refine XS.iload X0.here hx rfl (hb hby d3_29) rfl ?_
              show Steps p.tables e below (s₁.setTop (mkF m 31 #[.val (.ref t1), .val (.int (Int32.ofNat A)), .val (.int (Int32.ofNat (A + 3))), .val (.ref t2), .val (.int (Int32.ofNat B)), .val (.int (Int32.ofNat (B + M))), .val (.int (3 : Int32)), .val (.int (((0 : Int32) + (1 : Int32)) + (1 : Int32)))] [(.int (((0 : Int32) + (1 : Int32)) + (1 : Int32))), (.int (Int32.ofNat A)), (.ref t1)])) _
              refine XS.iadd X0.here hx rfl (hb hby d3_31) rfl ?_
              show Steps p.tables e below (s₁.setTop (mkF m 32 #[.val (.ref t1), .val (.int (Int32.ofNat A)), .val (.int (Int32.ofNat (A + 3))), .val (.ref t2), .val (.int (Int32.ofNat B)), .val (.int (Int32.ofNat (B + M))), .val (.int (3 : Int32)), .val (.int (((0 : Int32) + (1 : Int32)) + (1 : Int32)))] [(.int ((Int32.ofNat A) + (((0 : Int32) + (1 : Int32)) + (1 : Int32)))), (.ref t1)])) _
              refine X0.baloadBytes hx (j := ((Int32.ofNat A) + (((0 : Int32) + (1 : Int32)) + (1 : Int32)))) (v := (.int (f (A + 2)))) (by rw [e0]; exact Ar15.1) (State.isArrayOf_alike hZ.alike Ar15.2.1) Ar15.2.2 hin15 hat15 (g := (mkF m 32 #[.val (.ref t1), .val (.int (Int32.ofNat A)), .val (.int (Int32.ofNat (A + 3))), .val (.ref t2), .val (.int (Int32.ofNat B)), .val (.int (Int32.ofNat (B + M))), .val (.int (3 : Int32)), .val (.int (((0 : Int32) + (1 : Int32)) + (1 : Int32)))] [(.int ((Int32.ofNat A) + (((0 : Int32) + (1 : Int32)) + (1 : Int32)))), (.ref t1)])) rfl rfl (hb hby d3_32) _ ?_
              show Steps p.tables e below (s₁.setTop (mkF m 33 #[.val (.ref t1), .val (.int (Int32.ofNat A)), .val (.int (Int32.ofNat (A + 3))), .val (.ref t2), .val (.int (Int32.ofNat B)), .val (.int (Int32.ofNat (B + M))), .val (.int (3 : Int32)), .val (.int (((0 : Int32) + (1 : Int32)) + (1 : Int32)))] [(.int (f (A + 2)))])) _
              refine XS.aloadN X0.here hx rfl (hb hby d3_33) rfl rfl ?_
              show Steps p.tables e below (s₁.setTop (mkF m 34 #[.val (.ref t1), .val (.int (Int32.ofNat A)), .val (.int (Int32.ofNat (A + 3))), .val (.ref t2), .val (.int (Int32.ofNat B)), .val (.int (Int32.ofNat (B + M))), .val (.int (3 : Int32)), .val (.int (((0 : Int32) + (1 : Int32)) + (1 : Int32)))] [(.ref t2), (.int (f (A + 2)))])) _
              refine XS.iload X0.here hx rfl (hb hby d3_34) rfl ?_
              show Steps p.tables e below (s₁.setTop (mkF m 36 #[.val (.ref t1), .val (.int (Int32.ofNat A)), .val (.int (Int32.ofNat (A + 3))), .val (.ref t2), .val (.int (Int32.ofNat B)), .val (.int (Int32.ofNat (B + M))), .val (.int (3 : Int32)), .val (.int (((0 : Int32) + (1 : Int32)) + (1 : Int32)))] [(.int (Int32.ofNat B)), (.ref t2), (.int (f (A + 2)))])) _
              refine XS.iload X0.here hx rfl (hb hby d3_36) rfl ?_
              show Steps p.tables e below (s₁.setTop (mkF m 38 #[.val (.ref t1), .val (.int (Int32.ofNat A)), .val (.int (Int32.ofNat (A + 3))), .val (.ref t2), .val (.int (Int32.ofNat B)), .val (.int (Int32.ofNat (B + M))), .val (.int (3 : Int32)), .val (.int (((0 : Int32) + (1 : Int32)) + (1 : Int32)))] [(.int (((0 : Int32) + (1 : Int32)) + (1 : Int32))), (.int (Int32.ofNat B)), (.ref t2), (.int (f (A + 2)))])) _
              refine XS.iadd X0.here hx rfl (hb hby d3_38) rfl ?_
              show Steps p.tables e below (s₁.setTop (mkF m 39 #[.val (.ref t1), .val (.int (Int32.ofNat A)), .val (.int (Int32.ofNat (A + 3))), .val (.ref t2), .val (.int (Int32.ofNat B)), .val (.int (Int32.ofNat (B + M))), .val (.int (3 : Int32)), .val (.int (((0 : Int32) + (1 : Int32)) + (1 : Int32)))] [(.int ((Int32.ofNat B) + (((0 : Int32) + (1 : Int32)) + (1 : Int32)))), (.ref t2), (.int (f (A + 2)))])) _
              refine X0.baloadBytes hx (j := ((Int32.ofNat B) + (((0 : Int32) + (1 : Int32)) + (1 : Int32)))) (v := (.int (g (B + 2)))) (by rw [e0]; exact Ar16.1) (State.isArrayOf_alike hZ.alike Ar16.2.1) Ar16.2.2 hin16 hat16 (g := (mkF m 39 #[.val (.ref t1), .val (.int (Int32.ofNat A)), .val (.int (Int32.ofNat (A + 3))), .val (.ref t2), .val (.int (Int32.ofNat B)), .val (.int (Int32.ofNat (B + M))), .val (.int (3 : Int32)), .val (.int (((0 : Int32) + (1 : Int32)) + (1 : Int32)))] [(.int ((Int32.ofNat B) + (((0 : Int32) + (1 : Int32)) + (1 : Int32)))), (.ref t2), (.int (f (A + 2)))])) rfl rfl (hb hby d3_39) _ ?_
              show Steps p.tables e below (s₁.setTop (mkF m 40 #[.val (.ref t1), .val (.int (Int32.ofNat A)), .val (.int (Int32.ofNat (A + 3))), .val (.ref t2), .val (.int (Int32.ofNat B)), .val (.int (Int32.ofNat (B + M))), .val (.int (3 : Int32)), .val (.int (((0 : Int32) + (1 : Int32)) + (1 : Int32)))] [(.int (g (B + 2))), (.int (f (A + 2)))])) _
              refine XS.icmpYes X0.here hx rfl (pc0 := 40) (pc' := 45) rfl (hb hby d3_40) rfl (teq hc40_3).1 (by decide) (by decide) ?_
              show Steps p.tables e below (s₁.setTop (mkF m 45 #[.val (.ref t1), .val (.int (Int32.ofNat A)), .val (.int (Int32.ofNat (A + 3))), .val (.ref t2), .val (.int (Int32.ofNat B)), .val (.int (Int32.ofNat (B + M))), .val (.int (3 : Int32)), .val (.int (((0 : Int32) + (1 : Int32)) + (1 : Int32)))] [])) _
              refine XS.iinc X0.here hx rfl (hb hby d3_45) rfl (l' := #[.val (.ref t1), .val (.int (Int32.ofNat A)), .val (.int (Int32.ofNat (A + 3))), .val (.ref t2), .val (.int (Int32.ofNat B)), .val (.int (Int32.ofNat (B + M))), .val (.int (3 : Int32)), .val (.int ((((0 : Int32) + (1 : Int32)) + (1 : Int32)) + (1 : Int32)))]) rfl ?_
              show Steps p.tables e below (s₁.setTop (mkF m 48 #[.val (.ref t1), .val (.int (Int32.ofNat A)), .val (.int (Int32.ofNat (A + 3))), .val (.ref t2), .val (.int (Int32.ofNat B)), .val (.int (Int32.ofNat (B + M))), .val (.int (3 : Int32)), .val (.int ((((0 : Int32) + (1 : Int32)) + (1 : Int32)) + (1 : Int32)))] [])) _
              refine XS.goto X0.here hx rfl (pc0 := 48) (pc' := 20) rfl (hb hby d3_48) (by decide) (by decide) ?_
              show Steps p.tables e below (s₁.setTop (mkF m 20 #[.val (.ref t1), .val (.int (Int32.ofNat A)), .val (.int (Int32.ofNat (A + 3))), .val (.ref t2), .val (.int (Int32.ofNat B)), .val (.int (Int32.ofNat (B + M))), .val (.int (3 : Int32)), .val (.int ((((0 : Int32) + (1 : Int32)) + (1 : Int32)) + (1 : Int32)))] [])) _
              refine XS.iload X0.here hx rfl (hb hby d3_20) rfl ?_
              show Steps p.tables e below (s₁.setTop (mkF m 22 #[.val (.ref t1), .val (.int (Int32.ofNat A)), .val (.int (Int32.ofNat (A + 3))), .val (.ref t2), .val (.int (Int32.ofNat B)), .val (.int (Int32.ofNat (B + M))), .val (.int (3 : Int32)), .val (.int ((((0 : Int32) + (1 : Int32)) + (1 : Int32)) + (1 : Int32)))] [(.int ((((0 : Int32) + (1 : Int32)) + (1 : Int32)) + (1 : Int32)))])) _
              refine XS.iload X0.here hx rfl (hb hby d3_22) rfl ?_
              show Steps p.tables e below (s₁.setTop (mkF m 24 #[.val (.ref t1), .val (.int (Int32.ofNat A)), .val (.int (Int32.ofNat (A + 3))), .val (.ref t2), .val (.int (Int32.ofNat B)), .val (.int (Int32.ofNat (B + M))), .val (.int (3 : Int32)), .val (.int ((((0 : Int32) + (1 : Int32)) + (1 : Int32)) + (1 : Int32)))] [(.int (3 : Int32)), (.int ((((0 : Int32) + (1 : Int32)) + (1 : Int32)) + (1 : Int32)))])) _
              refine XS.icmpYes X0.here hx rfl (pc0 := 24) (pc' := 51) rfl (hb hby d3_24) rfl (by decide) (by decide) (by decide) ?_
              show Steps p.tables e below (s₁.setTop (mkF m 51 #[.val (.ref t1), .val (.int (Int32.ofNat A)), .val (.int (Int32.ofNat (A + 3))), .val (.ref t2), .val (.int (Int32.ofNat B)), .val (.int (Int32.ofNat (B + M))), .val (.int (3 : Int32)), .val (.int ((((0 : Int32) + (1 : Int32)) + (1 : Int32)) + (1 : Int32)))] [])) _
              refine XS.iconst X0.here hx rfl (hb hby d3_51) ?_
              show Steps p.tables e below (s₁.setTop (mkF m 52 #[.val (.ref t1), .val (.int (Int32.ofNat A)), .val (.int (Int32.ofNat (A + 3))), .val (.ref t2), .val (.int (Int32.ofNat B)), .val (.int (Int32.ofNat (B + M))), .val (.int (3 : Int32)), .val (.int ((((0 : Int32) + (1 : Int32)) + (1 : Int32)) + (1 : Int32)))] [(.int (1 : Int32))])) _
              exact retN X0 hx (t := .boolean) Bd.returns (by simp) (hb hby d3_52) hr
            · show Q3 Z t1 t2 A B 3 M f g h0 n0 _ s₁.heap _
              rw [e0]
              exact ⟨_, rfl, N0, rfl, Or.inl ⟨rfl, (own_inj (i := 3) (by omega) (by omega)).mp hc12, own_all3 hc40 hc40_2 hc40_3⟩⟩
          · obtain ⟨fs, hr, hrun, hended, hW, hsame⟩ := X0.leave (v := some (.int (0 : Int32))) (fun h => by rw [Bd.returns] at h; cases h)
            refine ⟨_, _, pre0 _ ?_, hrun, hended, _, _, rfl, ?_, ⟨_, rfl⟩, hW, hsame.mono (by decide) (by decide)⟩
            · show Steps p.tables e below (s₁.setTop (mkF m 0 #[.val (.ref t1), .val (.int (Int32.ofNat A)), .val (.int (Int32.ofNat (A + 3))), .val (.ref t2), .val (.int (Int32.ofNat B)), .val (.int (Int32.ofNat (B + M))), .unset, .unset] [])) _
              refine seg10 _ ?_
              show Steps p.tables e below (s₁.setTop (mkF m 12 #[.val (.ref t1), .val (.int (Int32.ofNat A)), .val (.int (Int32.ofNat (A + 3))), .val (.ref t2), .val (.int (Int32.ofNat B)), .val (.int (Int32.ofNat (B + M))), .val (.int (3 : Int32)), .unset] [(.int (Int32.ofNat M)), (.int (3 : Int32))])) _
              refine XS.icmpYes X0.here hx rfl (pc0 := 12) (pc' := 17) rfl (hb hby d3_12) rfl (teq hc12).1 (by decide) (by decide) ?_
              show Steps p.tables e below (s₁.setTop (mkF m 17 #[.val (.ref t1), .val (.int (Int32.ofNat A)), .val (.int (Int32.ofNat (A + 3))), .val (.ref t2), .val (.int (Int32.ofNat B)), .val (.int (Int32.ofNat (B + M))), .val (.int (3 : Int32)), .unset] [])) _
              refine XS.iconst X0.here hx rfl (hb hby d3_17) ?_
              show Steps p.tables e below (s₁.setTop (mkF m 18 #[.val (.ref t1), .val (.int (Int32.ofNat A)), .val (.int (Int32.ofNat (A + 3))), .val (.ref t2), .val (.int (Int32.ofNat B)), .val (.int (Int32.ofNat (B + M))), .val (.int (3 : Int32)), .unset] [(.int (0 : Int32))])) _
              refine XS.istore X0.here hx rfl (hb hby d3_18) rfl (l' := #[.val (.ref t1), .val (.int (Int32.ofNat A)), .val (.int (Int32.ofNat (A + 3))), .val (.ref t2), .val (.int (Int32.ofNat B)), .val (.int (Int32.ofNat (B + M))), .val (.int (3 : Int32)), .val (.int (0 : Int32))]) rfl ?_
              show Steps p.tables e below (s₁.setTop (mkF m 20 #[.val (.ref t1), .val (.int (Int32.ofNat A)), .val (.int (Int32.ofNat (A + 3))), .val (.ref t2), .val (.int (Int32.ofNat B)), .val (.int (Int32.ofNat (B + M))), .val (.int (3 : Int32)), .val (.int (0 : Int32))] [])) _
              refine XS.iload X0.here hx rfl (hb hby d3_20) rfl ?_
              show Steps p.tables e below (s₁.setTop (mkF m 22 #[.val (.ref t1), .val (.int (Int32.ofNat A)), .val (.int (Int32.ofNat (A + 3))), .val (.ref t2), .val (.int (Int32.ofNat B)), .val (.int (Int32.ofNat (B + M))), .val (.int (3 : Int32)), .val (.int (0 : Int32))] [(.int (0 : Int32))])) _
              refine XS.iload X0.here hx rfl (hb hby d3_22) rfl ?_
              show Steps p.tables e below (s₁.setTop (mkF m 24 #[.val (.ref t1), .val (.int (Int32.ofNat A)), .val (.int (Int32.ofNat (A + 3))), .val (.ref t2), .val (.int (Int32.ofNat B)), .val (.int (Int32.ofNat (B + M))), .val (.int (3 : Int32)), .val (.int (0 : Int32))] [(.int (3 : Int32)), (.int (0 : Int32))])) _
              refine XS.icmpNo X0.here hx rfl (hb hby d3_24) rfl (by decide) ?_
              show Steps p.tables e below (s₁.setTop (mkF m 27 #[.val (.ref t1), .val (.int (Int32.ofNat A)), .val (.int (Int32.ofNat (A + 3))), .val (.ref t2), .val (.int (Int32.ofNat B)), .val (.int (Int32.ofNat (B + M))), .val (.int (3 : Int32)), .val (.int (0 : Int32))] [])) _
              refine XS.aloadN X0.here hx rfl (hb hby d3_27) rfl rfl ?_
              show Steps p.tables e below (s₁.setTop (mkF m 28 #[.val (.ref t1), .val (.int (Int32.ofNat A)), .val (.int (Int32.ofNat (A + 3))), .val (.ref t2), .val (.int (Int32.ofNat B)), .val (.int (Int32.ofNat (B + M))), .val (.int (3 : Int32)), .val (.int (0 : Int32))] [(.ref t1)])) _
              refine XS.iloadN X0.here hx rfl (hb hby d3_28) rfl ?_
              show Steps p.tables e below (s₁.setTop (mkF m 29 #[.val (.ref t1), .val (.int (Int32.ofNat A)), .val (.int (Int32.ofNat (A + 3))), .val (.ref t2), .val (.int (Int32.ofNat B)), .val (.int (Int32.ofNat (B + M))), .val (.int (3 : Int32)), .val (.int (0 : Int32))] [(.int (Int32.ofNat A)), (.ref t1)])) _
              refine XS.iload X0.here hx rfl (hb hby d3_29) rfl ?_
              show Steps p.tables e below (s₁.setTop (mkF m 31 #[.val (.ref t1), .val (.int (Int32.ofNat A)), .val (.int (Int32.ofNat (A + 3))), .val (.ref t2), .val (.int (Int32.ofNat B)), .val (.int (Int32.ofNat (B + M))), .val (.int (3 : Int32)), .val (.int (0 : Int32))] [(.int (0 : Int32)), (.int (Int32.ofNat A)), (.ref t1)])) _
              refine XS.iadd X0.here hx rfl (hb hby d3_31) rfl ?_
              show Steps p.tables e below (s₁.setTop (mkF m 32 #[.val (.ref t1), .val (.int (Int32.ofNat A)), .val (.int (Int32.ofNat (A + 3))), .val (.ref t2), .val (.int (Int32.ofNat B)), .val (.int (Int32.ofNat (B + M))), .val (.int (3 : Int32)), .val (.int (0 : Int32))] [(.int ((Int32.ofNat A) + (0 : Int32))), (.ref t1)])) _
              refine X0.baloadBytes hx (j := ((Int32.ofNat A) + (0 : Int32))) (v := (.int (f (A + 0)))) (by rw [e0]; exact Ar11.1) (State.isArrayOf_alike hZ.alike Ar11.2.1) Ar11.2.2 hin11 hat11 (g := (mkF m 32 #[.val (.ref t1), .val (.int (Int32.ofNat A)), .val (.int (Int32.ofNat (A + 3))), .val (.ref t2), .val (.int (Int32.ofNat B)), .val (.int (Int32.ofNat (B + M))), .val (.int (3 : Int32)), .val (.int (0 : Int32))] [(.int ((Int32.ofNat A) + (0 : Int32))), (.ref t1)])) rfl rfl (hb hby d3_32) _ ?_
              show Steps p.tables e below (s₁.setTop (mkF m 33 #[.val (.ref t1), .val (.int (Int32.ofNat A)), .val (.int (Int32.ofNat (A + 3))), .val (.ref t2), .val (.int (Int32.ofNat B)), .val (.int (Int32.ofNat (B + M))), .val (.int (3 : Int32)), .val (.int (0 : Int32))] [(.int (f (A + 0)))])) _
              refine XS.aloadN X0.here hx rfl (hb hby d3_33) rfl rfl ?_
              show Steps p.tables e below (s₁.setTop (mkF m 34 #[.val (.ref t1), .val (.int (Int32.ofNat A)), .val (.int (Int32.ofNat (A + 3))), .val (.ref t2), .val (.int (Int32.ofNat B)), .val (.int (Int32.ofNat (B + M))), .val (.int (3 : Int32)), .val (.int (0 : Int32))] [(.ref t2), (.int (f (A + 0)))])) _
              refine XS.iload X0.here hx rfl (hb hby d3_34) rfl ?_
              show Steps p.tables e below (s₁.setTop (mkF m 36 #[.val (.ref t1), .val (.int (Int32.ofNat A)), .val (.int (Int32.ofNat (A + 3))), .val (.ref t2), .val (.int (Int32.ofNat B)), .val (.int (Int32.ofNat (B + M))), .val (.int (3 : Int32)), .val (.int (0 : Int32))] [(.int (Int32.ofNat B)), (.ref t2), (.int (f (A + 0)))])) _
              refine XS.iload X0.here hx rfl (hb hby d3_36) rfl ?_
              show Steps p.tables e below (s₁.setTop (mkF m 38 #[.val (.ref t1), .val (.int (Int32.ofNat A)), .val (.int (Int32.ofNat (A + 3))), .val (.ref t2), .val (.int (Int32.ofNat B)), .val (.int (Int32.ofNat (B + M))), .val (.int (3 : Int32)), .val (.int (0 : Int32))] [(.int (0 : Int32)), (.int (Int32.ofNat B)), (.ref t2), (.int (f (A + 0)))])) _
              refine XS.iadd X0.here hx rfl (hb hby d3_38) rfl ?_
              show Steps p.tables e below (s₁.setTop (mkF m 39 #[.val (.ref t1), .val (.int (Int32.ofNat A)), .val (.int (Int32.ofNat (A + 3))), .val (.ref t2), .val (.int (Int32.ofNat B)), .val (.int (Int32.ofNat (B + M))), .val (.int (3 : Int32)), .val (.int (0 : Int32))] [(.int ((Int32.ofNat B) + (0 : Int32))), (.ref t2), (.int (f (A + 0)))])) _
              refine X0.baloadBytes hx (j := ((Int32.ofNat B) + (0 : Int32))) (v := (.int (g (B + 0)))) (by rw [e0]; exact Ar12.1) (State.isArrayOf_alike hZ.alike Ar12.2.1) Ar12.2.2 hin12 hat12 (g := (mkF m 39 #[.val (.ref t1), .val (.int (Int32.ofNat A)), .val (.int (Int32.ofNat (A + 3))), .val (.ref t2), .val (.int (Int32.ofNat B)), .val (.int (Int32.ofNat (B + M))), .val (.int (3 : Int32)), .val (.int (0 : Int32))] [(.int ((Int32.ofNat B) + (0 : Int32))), (.ref t2), (.int (f (A + 0)))])) rfl rfl (hb hby d3_39) _ ?_
              show Steps p.tables e below (s₁.setTop (mkF m 40 #[.val (.ref t1), .val (.int (Int32.ofNat A)), .val (.int (Int32.ofNat (A + 3))), .val (.ref t2), .val (.int (Int32.ofNat B)), .val (.int (Int32.ofNat (B + M))), .val (.int (3 : Int32)), .val (.int (0 : Int32))] [(.int (g (B + 0))), (.int (f (A + 0)))])) _
              refine XS.icmpYes X0.here hx rfl (pc0 := 40) (pc' := 45) rfl (hb hby d3_40) rfl (teq hc40).1 (by decide) (by decide) ?_
              show Steps p.tables e below (s₁.setTop (mkF m 45 #[.val (.ref t1), .val (.int (Int32.ofNat A)), .val (.int (Int32.ofNat (A + 3))), .val (.ref t2), .val (.int (Int32.ofNat B)), .val (.int (Int32.ofNat (B + M))), .val (.int (3 : Int32)), .val (.int (0 : Int32))] [])) _
              refine XS.iinc X0.here hx rfl (hb hby d3_45) rfl (l' := #[.val (.ref t1), .val (.int (Int32.ofNat A)), .val (.int (Int32.ofNat (A + 3))), .val (.ref t2), .val (.int (Int32.ofNat B)), .val (.int (Int32.ofNat (B + M))), .val (.int (3 : Int32)), .val (.int ((0 : Int32) + (1 : Int32)))]) rfl ?_
              show Steps p.tables e below (s₁.setTop (mkF m 48 #[.val (.ref t1), .val (.int (Int32.ofNat A)), .val (.int (Int32.ofNat (A + 3))), .val (.ref t2), .val (.int (Int32.ofNat B)), .val (.int (Int32.ofNat (B + M))), .val (.int (3 : Int32)), .val (.int ((0 : Int32) + (1 : Int32)))] [])) _
              refine XS.goto X0.here hx rfl (pc0 := 48) (pc' := 20) rfl (hb hby d3_48) (by decide) (by decide) ?_
              show Steps p.tables e below (s₁.setTop (mkF m 20 #[.val (.ref t1), .val (.int (Int32.ofNat A)), .val (.int (Int32.ofNat (A + 3))), .val (.ref t2), .val (.int (Int32.ofNat B)), .val (.int (Int32.ofNat (B + M))), .val (.int (3 : Int32)), .val (.int ((0 : Int32) + (1 : Int32)))] [])) _
              refine XS.iload X0.here hx rfl (hb hby d3_20) rfl ?_
              show Steps p.tables e below (s₁.setTop (mkF m 22 #[.val (.ref t1), .val (.int (Int32.ofNat A)), .val (.int (Int32.ofNat (A + 3))), .val (.ref t2), .val (.int (Int32.ofNat B)), .val (.int (Int32.ofNat (B + M))), .val (.int (3 : Int32)), .val (.int ((0 : Int32) + (1 : Int32)))] [(.int ((0 : Int32) + (1 : Int32)))])) _
              refine XS.iload X0.here hx rfl (hb hby d3_22) rfl ?_
              show Steps p.tables e below (s₁.setTop (mkF m 24 #[.val (.ref t1), .val (.int (Int32.ofNat A)), .val (.int (Int32.ofNat (A + 3))), .val (.ref t2), .val (.int (Int32.ofNat B)), .val (.int (Int32.ofNat (B + M))), .val (.int (3 : Int32)), .val (.int ((0 : Int32) + (1 : Int32)))] [(.int (3 : Int32)), (.int ((0 : Int32) + (1 : Int32)))])) _
              refine XS.icmpNo X0.here hx rfl (hb hby d3_24) rfl (by decide) ?_
              show Steps p.tables e below (s₁.setTop (mkF m 27 #[.val (.ref t1), .val (.int (Int32.ofNat A)), .val (.int (Int32.ofNat (A + 3))), .val (.ref t2), .val (.int (Int32.ofNat B)), .val (.int (Int32.ofNat (B + M))), .val (.int (3 : Int32)), .val (.int ((0 : Int32) + (1 : Int32)))] [])) _
              refine XS.aloadN X0.here hx rfl (hb hby d3_27) rfl rfl ?_
              show Steps p.tables e below (s₁.setTop (mkF m 28 #[.val (.ref t1), .val (.int (Int32.ofNat A)), .val (.int (Int32.ofNat (A + 3))), .val (.ref t2), .val (.int (Int32.ofNat B)), .val (.int (Int32.ofNat (B + M))), .val (.int (3 : Int32)), .val (.int ((0 : Int32) + (1 : Int32)))] [(.ref t1)])) _
              refine XS.iloadN X0.here hx rfl (hb hby d3_28) rfl ?_
              show Steps p.tables e below (s₁.setTop (mkF m 29 #[.val (.ref t1), .val (.int (Int32.ofNat A)), .val (.int (Int32.ofNat (A + 3))), .val (.ref t2), .val (.int (Int32.ofNat B)), .val (.int (Int32.ofNat (B + M))), .val (.int (3 : Int32)), .val (.int ((0 : Int32) + (1 : Int32)))] [(.int (Int32.ofNat A)), (.ref t1)])) _
              refine XS.iload X0.here hx rfl (hb hby d3_29) rfl ?_
              show Steps p.tables e below (s₁.setTop (mkF m 31 #[.val (.ref t1), .val (.int (Int32.ofNat A)), .val (.int (Int32.ofNat (A + 3))), .val (.ref t2), .val (.int (Int32.ofNat B)), .val (.int (Int32.ofNat (B + M))), .val (.int (3 : Int32)), .val (.int ((0 : Int32) + (1 : Int32)))] [(.int ((0 : Int32) + (1 : Int32))), (.int (Int32.ofNat A)), (.ref t1)])) _
              refine XS.iadd X0.here hx rfl (hb hby d3_31) rfl ?_
              show Steps p.tables e below (s₁.setTop (mkF m 32 #[.val (.ref t1), .val (.int (Int32.ofNat A)), .val (.int (Int32.ofNat (A + 3))), .val (.ref t2), .val (.int (Int32.ofNat B)), .val (.int (Int32.ofNat (B + M))), .val (.int (3 : Int32)), .val (.int ((0 : Int32) + (1 : Int32)))] [(.int ((Int32.ofNat A) + ((0 : Int32) + (1 : Int32)))), (.ref t1)])) _
              refine X0.baloadBytes hx (j := ((Int32.ofNat A) + ((0 : Int32) + (1 : Int32)))) (v := (.int (f (A + 1)))) (by rw [e0]; exact Ar13.1) (State.isArrayOf_alike hZ.alike Ar13.2.1) Ar13.2.2 hin13 hat13 (g := (mkF m 32 #[.val (.ref t1), .val (.int (Int32.ofNat A)), .val (.int (Int32.ofNat (A + 3))), .val (.ref t2), .val (.int (Int32.ofNat B)), .val (.int (Int32.ofNat (B + M))), .val (.int (3 : Int32)), .val (.int ((0 : Int32) + (1 : Int32)))] [(.int ((Int32.ofNat A) + ((0 : Int32) + (1 : Int32)))), (.ref t1)])) rfl rfl (hb hby d3_32) _ ?_
              show Steps p.tables e below (s₁.setTop (mkF m 33 #[.val (.ref t1), .val (.int (Int32.ofNat A)), .val (.int (Int32.ofNat (A + 3))), .val (.ref t2), .val (.int (Int32.ofNat B)), .val (.int (Int32.ofNat (B + M))), .val (.int (3 : Int32)), .val (.int ((0 : Int32) + (1 : Int32)))] [(.int (f (A + 1)))])) _
              refine XS.aloadN X0.here hx rfl (hb hby d3_33) rfl rfl ?_
              show Steps p.tables e below (s₁.setTop (mkF m 34 #[.val (.ref t1), .val (.int (Int32.ofNat A)), .val (.int (Int32.ofNat (A + 3))), .val (.ref t2), .val (.int (Int32.ofNat B)), .val (.int (Int32.ofNat (B + M))), .val (.int (3 : Int32)), .val (.int ((0 : Int32) + (1 : Int32)))] [(.ref t2), (.int (f (A + 1)))])) _
              refine XS.iload X0.here hx rfl (hb hby d3_34) rfl ?_
              show Steps p.tables e below (s₁.setTop (mkF m 36 #[.val (.ref t1), .val (.int (Int32.ofNat A)), .val (.int (Int32.ofNat (A + 3))), .val (.ref t2), .val (.int (Int32.ofNat B)), .val (.int (Int32.ofNat (B + M))), .val (.int (3 : Int32)), .val (.int ((0 : Int32) + (1 : Int32)))] [(.int (Int32.ofNat B)), (.ref t2), (.int (f (A + 1)))])) _
              refine XS.iload X0.here hx rfl (hb hby d3_36) rfl ?_
              show Steps p.tables e below (s₁.setTop (mkF m 38 #[.val (.ref t1), .val (.int (Int32.ofNat A)), .val (.int (Int32.ofNat (A + 3))), .val (.ref t2), .val (.int (Int32.ofNat B)), .val (.int (Int32.ofNat (B + M))), .val (.int (3 : Int32)), .val (.int ((0 : Int32) + (1 : Int32)))] [(.int ((0 : Int32) + (1 : Int32))), (.int (Int32.ofNat B)), (.ref t2), (.int (f (A + 1)))])) _
              refine XS.iadd X0.here hx rfl (hb hby d3_38) rfl ?_
              show Steps p.tables e below (s₁.setTop (mkF m 39 #[.val (.ref t1), .val (.int (Int32.ofNat A)), .val (.int (Int32.ofNat (A + 3))), .val (.ref t2), .val (.int (Int32.ofNat B)), .val (.int (Int32.ofNat (B + M))), .val (.int (3 : Int32)), .val (.int ((0 : Int32) + (1 : Int32)))] [(.int ((Int32.ofNat B) + ((0 : Int32) + (1 : Int32)))), (.ref t2), (.int (f (A + 1)))])) _
              refine X0.baloadBytes hx (j := ((Int32.ofNat B) + ((0 : Int32) + (1 : Int32)))) (v := (.int (g (B + 1)))) (by rw [e0]; exact Ar14.1) (State.isArrayOf_alike hZ.alike Ar14.2.1) Ar14.2.2 hin14 hat14 (g := (mkF m 39 #[.val (.ref t1), .val (.int (Int32.ofNat A)), .val (.int (Int32.ofNat (A + 3))), .val (.ref t2), .val (.int (Int32.ofNat B)), .val (.int (Int32.ofNat (B + M))), .val (.int (3 : Int32)), .val (.int ((0 : Int32) + (1 : Int32)))] [(.int ((Int32.ofNat B) + ((0 : Int32) + (1 : Int32)))), (.ref t2), (.int (f (A + 1)))])) rfl rfl (hb hby d3_39) _ ?_
              show Steps p.tables e below (s₁.setTop (mkF m 40 #[.val (.ref t1), .val (.int (Int32.ofNat A)), .val (.int (Int32.ofNat (A + 3))), .val (.ref t2), .val (.int (Int32.ofNat B)), .val (.int (Int32.ofNat (B + M))), .val (.int (3 : Int32)), .val (.int ((0 : Int32) + (1 : Int32)))] [(.int (g (B + 1))), (.int (f (A + 1)))])) _
              refine XS.icmpYes X0.here hx rfl (pc0 := 40) (pc' := 45) rfl (hb hby d3_40) rfl (teq hc40_2).1 (by decide) (by decide) ?_
              show Steps p.tables e below (s₁.setTop (mkF m 45 #[.val (.ref t1), .val (.int (Int32.ofNat A)), .val (.int (Int32.ofNat (A + 3))), .val (.ref t2), .val (.int (Int32.ofNat B)), .val (.int (Int32.ofNat (B + M))), .val (.int (3 : Int32)), .val (.int ((0 : Int32) + (1 : Int32)))] [])) _
              refine XS.iinc X0.here hx rfl (hb hby d3_45) rfl (l' := #[.val (.ref t1), .val (.int (Int32.ofNat A)), .val (.int (Int32.ofNat (A + 3))), .val (.ref t2), .val (.int (Int32.ofNat B)), .val (.int (Int32.ofNat (B + M))), .val (.int (3 : Int32)), .val (.int (((0 : Int32) + (1 : Int32)) + (1 : Int32)))]) rfl ?_
              show Steps p.tables e below (s₁.setTop (mkF m 48 #[.val (.ref t1), .val (.int (Int32.ofNat A)), .val (.int (Int32.ofNat (A + 3))), .val (.ref t2), .val (.int (Int32.ofNat B)), .val (.int (Int32.ofNat (B + M))), .val (.int (3 : Int32)), .val (.int (((0 : Int32) + (1 : Int32)) + (1 : Int32)))] [])) _
              refine XS.goto X0.here hx rfl (pc0 := 48) (pc' := 20) rfl (hb hby d3_48) (by decide) (by decide) ?_
              show Steps p.tables e below (s₁.setTop (mkF m 20 #[.val (.ref t1), .val (.int (Int32.ofNat A)), .val (.int (Int32.ofNat (A + 3))), .val (.ref t2), .val (.int (Int32.ofNat B)), .val (.int (Int32.ofNat (B + M))), .val (.int (3 : Int32)), .val (.int (((0 : Int32) + (1 : Int32)) + (1 : Int32)))] [])) _
              refine XS.iload X0.here hx rfl (hb hby d3_20) rfl ?_
              show Steps p.tables e below (s₁.setTop (mkF m 22 #[.val (.ref t1), .val (.int (Int32.ofNat A)), .val (.int (Int32.ofNat (A + 3))), .val (.ref t2), .val (.int (Int32.ofNat B)), .val (.int (Int32.ofNat (B + M))), .val (.int (3 : Int32)), .val (.int (((0 : Int32) + (1 : Int32)) + (1 : Int32)))] [(.int (((0 : Int32) + (1 : Int32)) + (1 : Int32)))])) _
              refine XS.iload X0.here hx rfl (hb hby d3_22) rfl ?_
              show Steps p.tables e below (s₁.setTop (mkF m 24 #[.val (.ref t1), .val (.int (Int32.ofNat A)), .val (.int (Int32.ofNat (A + 3))), .val (.ref t2), .val (.int (Int32.ofNat B)), .val (.int (Int32.ofNat (B + M))), .val (.int (3 : Int32)), .val (.int (((0 : Int32) + (1 : Int32)) + (1 : Int32)))] [(.int (3 : Int32)), (.int (((0 : Int32) + (1 : Int32)) + (1 : Int32)))])) _
              refine XS.icmpNo X0.here hx rfl (hb hby d3_24) rfl (by decide) ?_
              show Steps p.tables e below (s₁.setTop (mkF m 27 #[.val (.ref t1), .val (.int (Int32.ofNat A)), .val (.int (Int32.ofNat (A + 3))), .val (.ref t2), .val (.int (Int32.ofNat B)), .val (.int (Int32.ofNat (B + M))), .val (.int (3 : Int32)), .val (.int (((0 : Int32) + (1 : Int32)) + (1 : Int32)))] [])) _
              refine XS.aloadN X0.here hx rfl (hb hby d3_27) rfl rfl ?_
              show Steps p.tables e below (s₁.setTop (mkF m 28 #[.val (.ref t1), .val (.int (Int32.ofNat A)), .val (.int (Int32.ofNat (A + 3))), .val (.ref t2), .val (.int (Int32.ofNat B)), .val (.int (Int32.ofNat (B + M))), .val (.int (3 : Int32)), .val (.int (((0 : Int32) + (1 : Int32)) + (1 : Int32)))] [(.ref t1)])) _
              refine XS.iloadN X0.here hx rfl (hb hby d3_28) rfl ?_
              show Steps p.tables e below (s₁.setTop (mkF m 29 #[.val (.ref t1), .val (.int (Int32.ofNat A)), .val (.int (Int32.ofNat (A + 3))), .val (.ref t2), .val (.int (Int32.ofNat B)), .val (.int (Int32.ofNat (B + M))), .val (.int (3 : Int32)), .val (.int (((0 : Int32) + (1 : Int32)) + (1 : Int32)))] [(.int (Int32.ofNat A)), (.ref t1)])) _
              refine XS.iload X0.here hx rfl (hb hby d3_29) rfl ?_
              show Steps p.tables e below (s₁.setTop (mkF m 31 #[.val (.ref t1), .val (.int (Int32.ofNat A)), .val (.int (Int32.ofNat (A + 3))), .val (.ref t2), .val (.int (Int32.ofNat B)), .val (.int (Int32.ofNat (B + M))), .val (.int (3 : Int32)), .val (.int (((0 : Int32) + (1 : Int32)) + (1 : Int32)))] [(.int (((0 : Int32) + (1 : Int32)) + (1 : Int32))), (.int (Int32.ofNat A)), (.ref t1)])) _
              refine XS.iadd X0.here hx rfl (hb hby d3_31) rfl ?_
              show Steps p.tables e below (s₁.setTop (mkF m 32 #[.val (.ref t1), .val (.int (Int32.ofNat A)), .val (.int (Int32.ofNat (A + 3))), .val (.ref t2), .val (.int (Int32.ofNat B)), .val (.int (Int32.ofNat (B + M))), .val (.int (3 : Int32)), .val (.int (((0 : Int32) + (1 : Int32)) + (1 : Int32)))] [(.int ((Int32.ofNat A) + (((0 : Int32) + (1 : Int32)) + (1 : Int32)))), (.ref t1)])) _
              refine X0.baloadBytes hx (j := ((Int32.ofNat A) + (((0 : Int32) + (1 : Int32)) + (1 : Int32)))) (v := (.int (f (A + 2)))) (by rw [e0]; exact Ar15.1) (State.isArrayOf_alike hZ.alike Ar15.2.1) Ar15.2.2 hin15 hat15 (g := (mkF m 32 #[.val (.ref t1), .val (.int (Int32.ofNat A)), .val (.int (Int32.ofNat (A + 3))), .val (.ref t2), .val (.int (Int32.ofNat B)), .val (.int (Int32.ofNat (B + M))), .val (.int (3 : Int32)), .val (.int (((0 : Int32) + (1 : Int32)) + (1 : Int32)))] [(.int ((Int32.ofNat A) + (((0 : Int32) + (1 : Int32)) + (1 : Int32)))), (.ref t1)])) rfl rfl (hb hby d3_32) _ ?_
              show Steps p.tables e below (s₁.setTop (mkF m 33 #[.val (.ref t1), .val (.int (Int32.ofNat A)), .val (.int (Int32.ofNat (A + 3))), .val (.ref t2), .val (.int (Int32.ofNat B)), .val (.int (Int32.ofNat (B + M))), .val (.int (3 : Int32)), .val (.int (((0 : Int32) + (1 : Int32)) + (1 : Int32)))] [(.int (f (A + 2)))])) _
              refine XS.aloadN X0.here hx rfl (hb hby d3_33) rfl rfl ?_
              show Steps p.tables e below (s₁.setTop (mkF m 34 #[.val (.ref t1), .val (.int (Int32.ofNat A)), .val (.int (Int32.ofNat (A + 3))), .val (.ref t2), .val (.int (Int32.ofNat B)), .val (.int (Int32.ofNat (B + M))), .val (.int (3 : Int32)), .val (.int (((0 : Int32) + (1 : Int32)) + (1 : Int32)))] [(.ref t2), (.int (f (A + 2)))])) _
              refine XS.iload X0.here hx rfl (hb hby d3_34) rfl ?_
              show Steps p.tables e below (s₁.setTop (mkF m 36 #[.val (.ref t1), .val (.int (Int32.ofNat A)), .val (.int (Int32.ofNat (A + 3))), .val (.ref t2), .val (.int (Int32.ofNat B)), .val (.int (Int32.ofNat (B + M))), .val (.int (3 : Int32)), .val (.int (((0 : Int32) + (1 : Int32)) + (1 : Int32)))] [(.int (Int32.ofNat B)), (.ref t2), (.int (f (A + 2)))])) _
              refine XS.iload X0.here hx rfl (hb hby d3_36) rfl ?_
              show Steps p.tables e below (s₁.setTop (mkF m 38 #[.val (.ref t1), .val (.int (Int32.ofNat A)), .val (.int (Int32.ofNat (A + 3))), .val (.ref t2), .val (.int (Int32.ofNat B)), .val (.int (Int32.ofNat (B + M))), .val (.int (3 : Int32)), .val (.int (((0 : Int32) + (1 : Int32)) + (1 : Int32)))] [(.int (((0 : Int32) + (1 : Int32)) + (1 : Int32))), (.int (Int32.ofNat B)), (.ref t2), (.int (f (A + 2)))])) _
              refine XS.iadd X0.here hx rfl (hb hby d3_38) rfl ?_
              show Steps p.tables e below (s₁.setTop (mkF m 39 #[.val (.ref t1), .val (.int (Int32.ofNat A)), .val (.int (Int32.ofNat (A + 3))), .val (.ref t2), .val (.int (Int32.ofNat B)), .val (.int (Int32.ofNat (B + M))), .val (.int (3 : Int32)), .val (.int (((0 : Int32) + (1 : Int32)) + (1 : Int32)))] [(.int ((Int32.ofNat B) + (((0 : Int32) + (1 : Int32)) + (1 : Int32)))), (.ref t2), (.int (f (A + 2)))])) _
              refine X0.baloadBytes hx (j := ((Int32.ofNat B) + (((0 : Int32) + (1 : Int32)) + (1 : Int32)))) (v := (.int (g (B + 2)))) (by rw [e0]; exact Ar16.1) (State.isArrayOf_alike hZ.alike Ar16.2.1) Ar16.2.2 hin16 hat16 (g := (mkF m 39 #[.val (.ref t1), .val (.int (Int32.ofNat A)), .val (.int (Int32.ofNat (A + 3))), .val (.ref t2), .val (.int (Int32.ofNat B)), .val (.int (Int32.ofNat (B + M))), .val (.int (3 : Int32)), .val (.int (((0 : Int32) + (1 : Int32)) + (1 : Int32)))] [(.int ((Int32.ofNat B) + (((0 : Int32) + (1 : Int32)) + (1 : Int32)))), (.ref t2), (.int (f (A + 2)))])) rfl rfl (hb hby d3_39) _ ?_
              show Steps p.tables e below (s₁.setTop (mkF m 40 #[.val (.ref t1), .val (.int (Int32.ofNat A)), .val (.int (Int32.ofNat (A + 3))), .val (.ref t2), .val (.int (Int32.ofNat B)), .val (.int (Int32.ofNat (B + M))), .val (.int (3 : Int32)), .val (.int (((0 : Int32) + (1 : Int32)) + (1 : Int32)))] [(.int (g (B + 2))), (.int (f (A + 2)))])) _
              refine XS.icmpNo X0.here hx rfl (hb hby d3_40) rfl (feq hc40_3).1 ?_
              show Steps p.tables e below (s₁.setTop (mkF m 43 #[.val (.ref t1), .val (.int (Int32.ofNat A)), .val (.int (Int32.ofNat (A + 3))), .val (.ref t2), .val (.int (Int32.ofNat B)), .val (.int (Int32.ofNat (B + M))), .val (.int (3 : Int32)), .val (.int (((0 : Int32) + (1 : Int32)) + (1 : Int32)))] [])) _
              refine XS.iconst X0.here hx rfl (hb hby d3_43) ?_
              show Steps p.tables e below (s₁.setTop (mkF m 44 #[.val (.ref t1), .val (.int (Int32.ofNat A)), .val (.int (Int32.ofNat (A + 3))), .val (.ref t2), .val (.int (Int32.ofNat B)), .val (.int (Int32.ofNat (B + M))), .val (.int (3 : Int32)), .val (.int (((0 : Int32) + (1 : Int32)) + (1 : Int32)))] [(.int (0 : Int32))])) _
              exact retN X0 hx (t := .boolean) Bd.returns (by simp) (hb hby d3_44) hr
            · show Q3 Z t1 t2 A B 3 M f g h0 n0 _ s₁.heap _
              rw [e0]
              exact ⟨_, rfl, N0, rfl, Or.inr ⟨rfl, fun q => hc40_3 (q.2 2 (by omega))⟩⟩
        · obtain ⟨fs, hr, hrun, hended, hW, hsame⟩ := X0.leave (v := some (.int (0 : Int32))) (fun h => by rw [Bd.returns] at h; cases h)
          refine ⟨_, _, pre0 _ ?_, hrun, hended, _, _, rfl, ?_, ⟨_, rfl⟩, hW, hsame.mono (by decide) (by decide)⟩
          · show Steps p.tables e below (s₁.setTop (mkF m 0 #[.val (.ref t1), .val (.int (Int32.ofNat A)), .val (.int (Int32.ofNat (A + 3))), .val (.ref t2), .val (.int (Int32.ofNat B)), .val (.int (Int32.ofNat (B + M))), .unset, .unset] [])) _
            refine seg10 _ ?_
            show Steps p.tables e below (s₁.setTop (mkF m 12 #[.val (.ref t1), .val (.int (Int32.ofNat A)), .val (.int (Int32.ofNat (A + 3))), .val (.ref t2), .val (.int (Int32.ofNat B)), .val (.int (Int32.ofNat (B + M))), .val (.int (3 : Int32)), .unset] [(.int (Int32.ofNat M)), (.int (3 : Int32))])) _
            refine XS.icmpYes X0.here hx rfl (pc0 := 12) (pc' := 17) rfl (hb hby d3_12) rfl (teq hc12).1 (by decide) (by decide) ?_
            show Steps p.tables e below (s₁.setTop (mkF m 17 #[.val (.ref t1), .val (.int (Int32.ofNat A)), .val (.int (Int32.ofNat (A + 3))), .val (.ref t2), .val (.int (Int32.ofNat B)), .val (.int (Int32.ofNat (B + M))), .val (.int (3 : Int32)), .unset] [])) _
            refine XS.iconst X0.here hx rfl (hb hby d3_17) ?_
            show Steps p.tables e below (s₁.setTop (mkF m 18 #[.val (.ref t1), .val (.int (Int32.ofNat A)), .val (.int (Int32.ofNat (A + 3))), .val (.ref t2), .val (.int (Int32.ofNat B)), .val (.int (Int32.ofNat (B + M))), .val (.int (3 : Int32)), .unset] [(.int (0 : Int32))])) _
            refine XS.istore X0.here hx rfl (hb hby d3_18) rfl (l' := #[.val (.ref t1), .val (.int (Int32.ofNat A)), .val (.int (Int32.ofNat (A + 3))), .val (.ref t2), .val (.int (Int32.ofNat B)), .val (.int (Int32.ofNat (B + M))), .val (.int (3 : Int32)), .val (.int (0 : Int32))]) rfl ?_
            show Steps p.tables e below (s₁.setTop (mkF m 20 #[.val (.ref t1), .val (.int (Int32.ofNat A)), .val (.int (Int32.ofNat (A + 3))), .val (.ref t2), .val (.int (Int32.ofNat B)), .val (.int (Int32.ofNat (B + M))), .val (.int (3 : Int32)), .val (.int (0 : Int32))] [])) _
            refine XS.iload X0.here hx rfl (hb hby d3_20) rfl ?_
            show Steps p.tables e below (s₁.setTop (mkF m 22 #[.val (.ref t1), .val (.int (Int32.ofNat A)), .val (.int (Int32.ofNat (A + 3))), .val (.ref t2), .val (.int (Int32.ofNat B)), .val (.int (Int32.ofNat (B + M))), .val (.int (3 : Int32)), .val (.int (0 : Int32))] [(.int (0 : Int32))])) _
            refine XS.iload X0.here hx rfl (hb hby d3_22) rfl ?_
            show Steps p.tables e below (s₁.setTop (mkF m 24 #[.val (.ref t1), .val (.int (Int32.ofNat A)), .val (.int (Int32.ofNat (A + 3))), .val (.ref t2), .val (.int (Int32.ofNat B)), .val (.int (Int32.ofNat (B + M))), .val (.int (3 : Int32)), .val (.int (0 : Int32))] [(.int (3 : Int32)), (.int (0 : Int32))])) _
            refine XS.icmpNo X0.here hx rfl (hb hby d3_24) rfl (by decide) ?_
            show Steps p.tables e below (s₁.setTop (mkF m 27 #[.val (.ref t1), .val (.int (Int32.ofNat A)), .val (.int (Int32.ofNat (A + 3))), .val (.ref t2), .val (.int (Int32.ofNat B)), .val (.int (Int32.ofNat (B + M))), .val (.int (3 : Int32)), .val (.int (0 : Int32))] [])) _
            refine XS.aloadN X0.here hx rfl (hb hby d3_27) rfl rfl ?_
            show Steps p.tables e below (s₁.setTop (mkF m 28 #[.val (.ref t1), .val (.int (Int32.ofNat A)), .val (.int (Int32.ofNat (A + 3))), .val (.ref t2), .val (.int (Int32.ofNat B)), .val (.int (Int32.ofNat (B + M))), .val (.int (3 : Int32)), .val (.int (0 : Int32))] [(.ref t1)])) _
            refine XS.iloadN X0.here hx rfl (hb hby d3_28) rfl ?_
            show Steps p.tables e below (s₁.setTop (mkF m 29 #[.val (.ref t1), .val (.int (Int32.ofNat A)), .val (.int (Int32.ofNat (A + 3))), .val (.ref t2), .val (.int (Int32.ofNat B)), .val (.int (Int32.ofNat (B + M))), .val (.int (3 : Int32)), .val (.int (0 : Int32))] [(.int (Int32.ofNat A)), (.ref t1)])) _
            refine XS.iload X0.here hx rfl (hb hby d3_29) rfl ?_
            show Steps p.tables e below (s₁.setTop (mkF m 31 #[.val (.ref t1), .val (.int (Int32.ofNat A)), .val (.int (Int32.ofNat (A + 3))), .val (.ref t2), .val (.int (Int32.ofNat B)), .val (.int (Int32.ofNat (B + M))), .val (.int (3 : Int32)), .val (.int (0 : Int32))] [(.int (0 : Int32)), (.int (Int32.ofNat A)), (.ref t1)])) _
            refine XS.iadd X0.here hx rfl (hb hby d3_31) rfl ?_
            show Steps p.tables e below (s₁.setTop (mkF m 32 #[.val (.ref t1), .val (.int (Int32.ofNat A)), .val (.int (Int32.ofNat (A + 3))), .val (.ref t2), .val (.int (Int32.ofNat B)), .val (.int (Int32.ofNat (B + M))), .val (.int (3 : Int32)), .val (.int (0 : Int32))] [(.int ((Int32.ofNat A) + (0 : Int32))), (.ref t1)])) _
            refine X0.baloadBytes hx (j := ((Int32.ofNat A) + (0 : Int32))) (v := (.int (f (A + 0)))) (by rw [e0]; exact Ar11.1) (State.isArrayOf_alike hZ.alike Ar11.2.1) Ar11.2.2 hin11 hat11 (g := (mkF m 32 #[.val (.ref t1), .val (.int (Int32.ofNat A)), .val (.int (Int32.ofNat (A + 3))), .val (.ref t2), .val (.int (Int32.ofNat B)), .val (.int (Int32.ofNat (B + M))), .val (.int (3 : Int32)), .val (.int (0 : Int32))] [(.int ((Int32.ofNat A) + (0 : Int32))), (.ref t1)])) rfl rfl (hb hby d3_32) _ ?_
            show Steps p.tables e below (s₁.setTop (mkF m 33 #[.val (.ref t1), .val (.int (Int32.ofNat A)), .val (.int (Int32.ofNat (A + 3))), .val (.ref t2), .val (.int (Int32.ofNat B)), .val (.int (Int32.ofNat (B + M))), .val (.int (3 : Int32)), .val (.int (0 : Int32))] [(.int (f (A + 0)))])) _
            refine XS.aloadN X0.here hx rfl (hb hby d3_33) rfl rfl ?_
            show Steps p.tables e below (s₁.setTop (mkF m 34 #[.val (.ref t1), .val (.int (Int32.ofNat A)), .val (.int (Int32.ofNat (A + 3))), .val (.ref t2), .val (.int (Int32.ofNat B)), .val (.int (Int32.ofNat (B + M))), .val (.int (3 : Int32)), .val (.int (0 : Int32))] [(.ref t2), (.int (f (A + 0)))])) _
            refine XS.iload X0.here hx rfl (hb hby d3_34) rfl ?_
            show Steps p.tables e below (s₁.setTop (mkF m 36 #[.val (.ref t1), .val (.int (Int32.ofNat A)), .val (.int (Int32.ofNat (A + 3))), .val (.ref t2), .val (.int (Int32.ofNat B)), .val (.int (Int32.ofNat (B + M))), .val (.int (3 : Int32)), .val (.int (0 : Int32))] [(.int (Int32.ofNat B)), (.ref t2), (.int (f (A + 0)))])) _
            refine XS.iload X0.here hx rfl (hb hby d3_36) rfl ?_
            show Steps p.tables e below (s₁.setTop (mkF m 38 #[.val (.ref t1), .val (.int (Int32.ofNat A)), .val (.int (Int32.ofNat (A + 3))), .val (.ref t2), .val (.int (Int32.ofNat B)), .val (.int (Int32.ofNat (B + M))), .val (.int (3 : Int32)), .val (.int (0 : Int32))] [(.int (0 : Int32)), (.int (Int32.ofNat B)), (.ref t2), (.int (f (A + 0)))])) _
            refine XS.iadd X0.here hx rfl (hb hby d3_38) rfl ?_
            show Steps p.tables e below (s₁.setTop (mkF m 39 #[.val (.ref t1), .val (.int (Int32.ofNat A)), .val (.int (Int32.ofNat (A + 3))), .val (.ref t2), .val (.int (Int32.ofNat B)), .val (.int (Int32.ofNat (B + M))), .val (.int (3 : Int32)), .val (.int (0 : Int32))] [(.int ((Int32.ofNat B) + (0 : Int32))), (.ref t2), (.int (f (A + 0)))])) _
            refine X0.baloadBytes hx (j := ((Int32.ofNat B) + (0 : Int32))) (v := (.int (g (B + 0)))) (by rw [e0]; exact Ar12.1) (State.isArrayOf_alike hZ.alike Ar12.2.1) Ar12.2.2 hin12 hat12 (g := (mkF m 39 #[.val (.ref t1), .val (.int (Int32.ofNat A)), .val (.int (Int32.ofNat (A + 3))), .val (.ref t2), .val (.int (Int32.ofNat B)), .val (.int (Int32.ofNat (B + M))), .val (.int (3 : Int32)), .val (.int (0 : Int32))] [(.int ((Int32.ofNat B) + (0 : Int32))), (.ref t2), (.int (f (A + 0)))])) rfl rfl (hb hby d3_39) _ ?_
            show Steps p.tables e below (s₁.setTop (mkF m 40 #[.val (.ref t1), .val (.int (Int32.ofNat A)), .val (.int (Int32.ofNat (A + 3))), .val (.ref t2), .val (.int (Int32.ofNat B)), .val (.int (Int32.ofNat (B + M))), .val (.int (3 : Int32)), .val (.int (0 : Int32))] [(.int (g (B + 0))), (.int (f (A + 0)))])) _
            refine XS.icmpYes X0.here hx rfl (pc0 := 40) (pc' := 45) rfl (hb hby d3_40) rfl (teq hc40).1 (by decide) (by decide) ?_
            show Steps p.tables e below (s₁.setTop (mkF m 45 #[.val (.ref t1), .val (.int (Int32.ofNat A)), .val (.int (Int32.ofNat (A + 3))), .val (.ref t2), .val (.int (Int32.ofNat B)), .val (.int (Int32.ofNat (B + M))), .val (.int (3 : Int32)), .val (.int (0 : Int32))] [])) _
            refine XS.iinc X0.here hx rfl (hb hby d3_45) rfl (l' := #[.val (.ref t1), .val (.int (Int32.ofNat A)), .val (.int (Int32.ofNat (A + 3))), .val (.ref t2), .val (.int (Int32.ofNat B)), .val (.int (Int32.ofNat (B + M))), .val (.int (3 : Int32)), .val (.int ((0 : Int32) + (1 : Int32)))]) rfl ?_
            show Steps p.tables e below (s₁.setTop (mkF m 48 #[.val (.ref t1), .val (.int (Int32.ofNat A)), .val (.int (Int32.ofNat (A + 3))), .val (.ref t2), .val (.int (Int32.ofNat B)), .val (.int (Int32.ofNat (B + M))), .val (.int (3 : Int32)), .val (.int ((0 : Int32) + (1 : Int32)))] [])) _
            refine XS.goto X0.here hx rfl (pc0 := 48) (pc' := 20) rfl (hb hby d3_48) (by decide) (by decide) ?_
            show Steps p.tables e below (s₁.setTop (mkF m 20 #[.val (.ref t1), .val (.int (Int32.ofNat A)), .val (.int (Int32.ofNat (A + 3))), .val (.ref t2), .val (.int (Int32.ofNat B)), .val (.int (Int32.ofNat (B + M))), .val (.int (3 : Int32)), .val (.int ((0 : Int32) + (1 : Int32)))] [])) _
            refine XS.iload X0.here hx rfl (hb hby d3_20) rfl ?_
            show Steps p.tables e below (s₁.setTop (mkF m 22 #[.val (.ref t1), .val (.int (Int32.ofNat A)), .val (.int (Int32.ofNat (A + 3))), .val (.ref t2), .val (.int (Int32.ofNat B)), .val (.int (Int32.ofNat (B + M))), .val (.int (3 : Int32)), .val (.int ((0 : Int32) + (1 : Int32)))] [(.int ((0 : Int32) + (1 : Int32)))])) _
            refine XS.iload X0.here hx rfl (hb hby d3_22) rfl ?_
            show Steps p.tables e below (s₁.setTop (mkF m 24 #[.val (.ref t1), .val (.int (Int32.ofNat A)), .val (.int (Int32.ofNat (A + 3))), .val (.ref t2), .val (.int (Int32.ofNat B)), .val (.int (Int32.ofNat (B + M))), .val (.int (3 : Int32)), .val (.int ((0 : Int32) + (1 : Int32)))] [(.int (3 : Int32)), (.int ((0 : Int32) + (1 : Int32)))])) _
            refine XS.icmpNo X0.here hx rfl (hb hby d3_24) rfl (by decide) ?_
            show Steps p.tables e below (s₁.setTop (mkF m 27 #[.val (.ref t1), .val (.int (Int32.ofNat A)), .val (.int (Int32.ofNat (A + 3))), .val (.ref t2), .val (.int (Int32.ofNat B)), .val (.int (Int32.ofNat (B + M))), .val (.int (3 : Int32)), .val (.int ((0 : Int32) + (1 : Int32)))] [])) _
            refine XS.aloadN X0.here hx rfl (hb hby d3_27) rfl rfl ?_
            show Steps p.tables e below (s₁.setTop (mkF m 28 #[.val (.ref t1), .val (.int (Int32.ofNat A)), .val (.int (Int32.ofNat (A + 3))), .val (.ref t2), .val (.int (Int32.ofNat B)), .val (.int (Int32.ofNat (B + M))), .val (.int (3 : Int32)), .val (.int ((0 : Int32) + (1 : Int32)))] [(.ref t1)])) _
            refine XS.iloadN X0.here hx rfl (hb hby d3_28) rfl ?_
            show Steps p.tables e below (s₁.setTop (mkF m 29 #[.val (.ref t1), .val (.int (Int32.ofNat A)), .val (.int (Int32.ofNat (A + 3))), .val (.ref t2), .val (.int (Int32.ofNat B)), .val (.int (Int32.ofNat (B + M))), .val (.int (3 : Int32)), .val (.int ((0 : Int32) + (1 : Int32)))] [(.int (Int32.ofNat A)), (.ref t1)])) _
            refine XS.iload X0.here hx rfl (hb hby d3_29) rfl ?_
            show Steps p.tables e below (s₁.setTop (mkF m 31 #[.val (.ref t1), .val (.int (Int32.ofNat A)), .val (.int (Int32.ofNat (A + 3))), .val (.ref t2), .val (.int (Int32.ofNat B)), .val (.int (Int32.ofNat (B + M))), .val (.int (3 : Int32)), .val (.int ((0 : Int32) + (1 : Int32)))] [(.int ((0 : Int32) + (1 : Int32))), (.int (Int32.ofNat A)), (.ref t1)])) _
            refine XS.iadd X0.here hx rfl (hb hby d3_31) rfl ?_
            show Steps p.tables e below (s₁.setTop (mkF m 32 #[.val (.ref t1), .val (.int (Int32.ofNat A)), .val (.int (Int32.ofNat (A + 3))), .val (.ref t2), .val (.int (Int32.ofNat B)), .val (.int (Int32.ofNat (B + M))), .val (.int (3 : Int32)), .val (.int ((0 : Int32) + (1 : Int32)))] [(.int ((Int32.ofNat A) + ((0 : Int32) + (1 : Int32)))), (.ref t1)])) _
            refine X0.baloadBytes hx (j := ((Int32.ofNat A) + ((0 : Int32) + (1 : Int32)))) (v := (.int (f (A + 1)))) (by rw [e0]; exact Ar13.1) (State.isArrayOf_alike hZ.alike Ar13.2.1) Ar13.2.2 hin13 hat13 (g := (mkF m 32 #[.val (.ref t1), .val (.int (Int32.ofNat A)), .val (.int (Int32.ofNat (A + 3))), .val (.ref t2), .val (.int (Int32.ofNat B)), .val (.int (Int32.ofNat (B + M))), .val (.int (3 : Int32)), .val (.int ((0 : Int32) + (1 : Int32)))] [(.int ((Int32.ofNat A) + ((0 : Int32) + (1 : Int32)))), (.ref t1)])) rfl rfl (hb hby d3_32) _ ?_
            show Steps p.tables e below (s₁.setTop (mkF m 33 #[.val (.ref t1), .val (.int (Int32.ofNat A)), .val (.int (Int32.ofNat (A + 3))), .val (.ref t2), .val (.int (Int32.ofNat B)), .val (.int (Int32.ofNat (B + M))), .val (.int (3 : Int32)), .val (.int ((0 : Int32) + (1 : Int32)))] [(.int (f (A + 1)))])) _
            refine XS.aloadN X0.here hx rfl (hb hby d3_33) rfl rfl ?_
            show Steps p.tables e below (s₁.setTop (mkF m 34 #[.val (.ref t1), .val (.int (Int32.ofNat A)), .val (.int (Int32.ofNat (A + 3))), .val (.ref t2), .val (.int (Int32.ofNat B)), .val (.int (Int32.ofNat (B + M))), .val (.int (3 : Int32)), .val (.int ((0 : Int32) + (1 : Int32)))] [(.ref t2), (.int (f (A + 1)))])) _
            refine XS.iload X0.here hx rfl (hb hby d3_34) rfl ?_
            show Steps p.tables e below (s₁.setTop (mkF m 36 #[.val (.ref t1), .val (.int (Int32.ofNat A)), .val (.int (Int32.ofNat (A + 3))), .val (.ref t2), .val (.int (Int32.ofNat B)), .val (.int (Int32.ofNat (B + M))), .val (.int (3 : Int32)), .val (.int ((0 : Int32) + (1 : Int32)))] [(.int (Int32.ofNat B)), (.ref t2), (.int (f (A + 1)))])) _
            refine XS.iload X0.here hx rfl (hb hby d3_36) rfl ?_
            show Steps p.tables e below (s₁.setTop (mkF m 38 #[.val (.ref t1), .val (.int (Int32.ofNat A)), .val (.int (Int32.ofNat (A + 3))), .val (.ref t2), .val (.int (Int32.ofNat B)), .val (.int (Int32.ofNat (B + M))), .val (.int (3 : Int32)), .val (.int ((0 : Int32) + (1 : Int32)))] [(.int ((0 : Int32) + (1 : Int32))), (.int (Int32.ofNat B)), (.ref t2), (.int (f (A + 1)))])) _
            refine XS.iadd X0.here hx rfl (hb hby d3_38) rfl ?_
            show Steps p.tables e below (s₁.setTop (mkF m 39 #[.val (.ref t1), .val (.int (Int32.ofNat A)), .val (.int (Int32.ofNat (A + 3))), .val (.ref t2), .val (.int (Int32.ofNat B)), .val (.int (Int32.ofNat (B + M))), .val (.int (3 : Int32)), .val (.int ((0 : Int32) + (1 : Int32)))] [(.int ((Int32.ofNat B) + ((0 : Int32) + (1 : Int32)))), (.ref t2), (.int (f (A + 1)))])) _
            refine X0.baloadBytes hx (j := ((Int32.ofNat B) + ((0 : Int32) + (1 : Int32)))) (v := (.int (g (B + 1)))) (by rw [e0]; exact Ar14.1) (State.isArrayOf_alike hZ.alike Ar14.2.1) Ar14.2.2 hin14 hat14 (g := (mkF m 39 #[.val (.ref t1), .val (.int (Int32.ofNat A)), .val (.int (Int32.ofNat (A + 3))), .val (.ref t2), .val (.int (Int32.ofNat B)), .val (.int (Int32.ofNat (B + M))), .val (.int (3 : Int32)), .val (.int ((0 : Int32) + (1 : Int32)))] [(.int ((Int32.ofNat B) + ((0 : Int32) + (1 : Int32)))), (.ref t2), (.int (f (A + 1)))])) rfl rfl (hb hby d3_39) _ ?_
            show Steps p.tables e below (s₁.setTop (mkF m 40 #[.val (.ref t1), .val (.int (Int32.ofNat A)), .val (.int (Int32.ofNat (A + 3))), .val (.ref t2), .val (.int (Int32.ofNat B)), .val (.int (Int32.ofNat (B + M))), .val (.int (3 : Int32)), .val (.int ((0 : Int32) + (1 : Int32)))] [(.int (g (B + 1))), (.int (f (A + 1)))])) _
            refine XS.icmpNo X0.here hx rfl (hb hby d3_40) rfl (feq hc40_2).1 ?_
            show Steps p.tables e below (s₁.setTop (mkF m 43 #[.val (.ref t1), .val (.int (Int32.ofNat A)), .val (.int (Int32.ofNat (A + 3))), .val (.ref t2), .val (.int (Int32.ofNat B)), .val (.int (Int32.ofNat (B + M))), .val (.int (3 : Int32)), .val (.int ((0 : Int32) + (1 : Int32)))] [])) _
            refine XS.iconst X0.here hx rfl (hb hby d3_43) ?_
            show Steps p.tables e below (s₁.setTop (mkF m 44 #[.val (.ref t1), .val (.int (Int32.ofNat A)), .val (.int (Int32.ofNat (A + 3))), .val (.ref t2), .val (.int (Int32.ofNat B)), .val (.int (Int32.ofNat (B + M))), .val (.int (3 : Int32)), .val (.int ((0 : Int32) + (1 : Int32)))] [(.int (0 : Int32))])) _
            exact retN X0 hx (t := .boolean) Bd.returns (by simp) (hb hby d3_44) hr
          · show Q3 Z t1 t2 A B 3 M f g h0 n0 _ s₁.heap _
            rw [e0]
            exact ⟨_, rfl, N0, rfl, Or.inr ⟨rfl, fun q => hc40_2 (q.2 1 (by omega))⟩⟩
      · obtain ⟨fs, hr, hrun, hended, hW, hsame⟩ := X0.leave (v := some (.int (0 : Int32))) (fun h => by rw [Bd.returns] at h; cases h)
        refine ⟨_, _, pre0 _ ?_, hrun, hended, _, _, rfl, ?_, ⟨_, rfl⟩, hW, hsame.mono (by decide) (by decide)⟩
        · show Steps p.tables e below (s₁.setTop (mkF m 0 #[.val (.ref t1), .val (.int (Int32.ofNat A)), .val (.int (Int32.ofNat (A + 3))), .val (.ref t2), .val (.int (Int32.ofNat B)), .val (.int (Int32.ofNat (B + M))), .unset, .unset] [])) _
          refine seg10 _ ?_
          show Steps p.tables e below (s₁.setTop (mkF m 12 #[.val (.ref t1), .val (.int (Int32.ofNat A)), .val (.int (Int32.ofNat (A + 3))), .val (.ref t2), .val (.int (Int32.ofNat B)), .val (.int (Int32.ofNat (B + M))), .val (.int (3 : Int32)), .unset] [(.int (Int32.ofNat M)), (.int (3 : Int32))])) _
          refine XS.icmpYes X0.here hx rfl (pc0 := 12) (pc' := 17) rfl (hb hby d3_12) rfl (teq hc12).1 (by decide) (by decide) ?_
          show Steps p.tables e below (s₁.setTop (mkF m 17 #[.val (.ref t1), .val (.int (Int32.ofNat A)), .val (.int (Int32.ofNat (A + 3))), .val (.ref t2), .val (.int (Int32.ofNat B)), .val (.int (Int32.ofNat (B + M))), .val (.int (3 : Int32)), .unset] [])) _
          refine XS.iconst X0.here hx rfl (hb hby d3_17) ?_
          show Steps p.tables e below (s₁.setTop (mkF m 18 #[.val (.ref t1), .val (.int (Int32.ofNat A)), .val (.int (Int32.ofNat (A + 3))), .val (.ref t2), .val (.int (Int32.ofNat B)), .val (.int (Int32.ofNat (B + M))), .val (.int (3 : Int32)), .unset] [(.int (0 : Int32))])) _
          refine XS.istore X0.here hx rfl (hb hby d3_18) rfl (l' := #[.val (.ref t1), .val (.int (Int32.ofNat A)), .val (.int (Int32.ofNat (A + 3))), .val (.ref t2), .val (.int (Int32.ofNat B)), .val (.int (Int32.ofNat (B + M))), .val (.int (3 : Int32)), .val (.int (0 : Int32))]) rfl ?_
          show Steps p.tables e below (s₁.setTop (mkF m 20 #[.val (.ref t1), .val (.int (Int32.ofNat A)), .val (.int (Int32.ofNat (A + 3))), .val (.ref t2), .val (.int (Int32.ofNat B)), .val (.int (Int32.ofNat (B + M))), .val (.int (3 : Int32)), .val (.int (0 : Int32))] [])) _
          refine XS.iload X0.here hx rfl (hb hby d3_20) rfl ?_
          show Steps p.tables e below (s₁.setTop (mkF m 22 #[.val (.ref t1), .val (.int (Int32.ofNat A)), .val (.int (Int32.ofNat (A + 3))), .val (.ref t2), .val (.int (Int32.ofNat B)), .val (.int (Int32.ofNat (B + M))), .val (.int (3 : Int32)), .val (.int (0 : Int32))] [(.int (0 : Int32))])) _
          refine XS.iload X0.here hx rfl (hb hby d3_22) rfl ?_
          show Steps p.tables e below (s₁.setTop (mkF m 24 #[.val (.ref t1), .val (.int (Int32.ofNat A)), .val (.int (Int32.ofNat (A + 3))), .val (.ref t2), .val (.int (Int32.ofNat B)), .val (.int (Int32.ofNat (B + M))), .val (.int (3 : Int32)), .val (.int (0 : Int32))] [(.int (3 : Int32)), (.int (0 : Int32))])) _
          refine XS.icmpNo X0.here hx rfl (hb hby d3_24) rfl (by decide) ?_
          show Steps p.tables e below (s₁.setTop (mkF m 27 #[.val (.ref t1), .val (.int (Int32.ofNat A)), .val (.int (Int32.ofNat (A + 3))), .val (.ref t2), .val (.int (Int32.ofNat B)), .val (.int (Int32.ofNat (B + M))), .val (.int (3 : Int32)), .val (.int (0 : Int32))] [])) _
          refine XS.aloadN X0.here hx rfl (hb hby d3_27) rfl rfl ?_
          show Steps p.tables e below (s₁.setTop (mkF m 28 #[.val (.ref t1), .val (.int (Int32.ofNat A)), .val (.int (Int32.ofNat (A + 3))), .val (.ref t2), .val (.int (Int32.ofNat B)), .val (.int (Int32.ofNat (B + M))), .val (.int (3 : Int32)), .val (.int (0 : Int32))] [(.ref t1)])) _
          refine XS.iloadN X0.here hx rfl (hb hby d3_28) rfl ?_
          show Steps p.tables e below (s₁.setTop (mkF m 29 #[.val (.ref t1), .val (.int (Int32.ofNat A)), .val (.int (Int32.ofNat (A + 3))), .val (.ref t2), .val (.int (Int32.ofNat B)), .val (.int (Int32.ofNat (B + M))), .val (.int (3 : Int32)), .val (.int (0 : Int32))] [(.int (Int32.ofNat A)), (.ref t1)])) _
          refine XS.iload X0.here hx rfl (hb hby d3_29) rfl ?_
          show Steps p.tables e below (s₁.setTop (mkF m 31 #[.val (.ref t1), .val (.int (Int32.ofNat A)), .val (.int (Int32.ofNat (A + 3))), .val (.ref t2), .val (.int (Int32.ofNat B)), .val (.int (Int32.ofNat (B + M))), .val (.int (3 : Int32)), .val (.int (0 : Int32))] [(.int (0 : Int32)), (.int (Int32.ofNat A)), (.ref t1)])) _
          refine XS.iadd X0.here hx rfl (hb hby d3_31) rfl ?_
          show Steps p.tables e below (s₁.setTop (mkF m 32 #[.val (.ref t1), .val (.int (Int32.ofNat A)), .val (.int (Int32.ofNat (A + 3))), .val (.ref t2), .val (.int (Int32.ofNat B)), .val (.int (Int32.ofNat (B + M))), .val (.int (3 : Int32)), .val (.int (0 : Int32))] [(.int ((Int32.ofNat A) + (0 : Int32))), (.ref t1)])) _
          refine X0.baloadBytes hx (j := ((Int32.ofNat A) + (0 : Int32))) (v := (.int (f (A + 0)))) (by rw [e0]; exact Ar11.1) (State.isArrayOf_alike hZ.alike Ar11.2.1) Ar11.2.2 hin11 hat11 (g := (mkF m 32 #[.val (.ref t1), .val (.int (Int32.ofNat A)), .val (.int (Int32.ofNat (A + 3))), .val (.ref t2), .val (.int (Int32.ofNat B)), .val (.int (Int32.ofNat (B + M))), .val (.int (3 : Int32)), .val (.int (0 : Int32))] [(.int ((Int32.ofNat A) + (0 : Int32))), (.ref t1)])) rfl rfl (hb hby d3_32) _ ?_
          show Steps p.tables e below (s₁.setTop (mkF m 33 #[.val (.ref t1), .val (.int (Int32.ofNat A)), .val (.int (Int32.ofNat (A + 3))), .val (.ref t2), .val (.int (Int32.ofNat B)), .val (.int (Int32.ofNat (B + M))), .val (.int (3 : Int32)), .val (.int (0 : Int32))] [(.int (f (A + 0)))])) _
          refine XS.aloadN X0.here hx rfl (hb hby d3_33) rfl rfl ?_
          show Steps p.tables e below (s₁.setTop (mkF m 34 #[.val (.ref t1), .val (.int (Int32.ofNat A)), .val (.int (Int32.ofNat (A + 3))), .val (.ref t2), .val (.int (Int32.ofNat B)), .val (.int (Int32.ofNat (B + M))), .val (.int (3 : Int32)), .val (.int (0 : Int32))] [(.ref t2), (.int (f (A + 0)))])) _
          refine XS.iload X0.here hx rfl (hb hby d3_34) rfl ?_
          show Steps p.tables e below (s₁.setTop (mkF m 36 #[.val (.ref t1), .val (.int (Int32.ofNat A)), .val (.int (Int32.ofNat (A + 3))), .val (.ref t2), .val (.int (Int32.ofNat B)), .val (.int (Int32.ofNat (B + M))), .val (.int (3 : Int32)), .val (.int (0 : Int32))] [(.int (Int32.ofNat B)), (.ref t2), (.int (f (A + 0)))])) _
          refine XS.iload X0.here hx rfl (hb hby d3_36) rfl ?_
          show Steps p.tables e below (s₁.setTop (mkF m 38 #[.val (.ref t1), .val (.int (Int32.ofNat A)), .val (.int (Int32.ofNat (A + 3))), .val (.ref t2), .val (.int (Int32.ofNat B)), .val (.int (Int32.ofNat (B + M))), .val (.int (3 : Int32)), .val (.int (0 : Int32))] [(.int (0 : Int32)), (.int (Int32.ofNat B)), (.ref t2), (.int (f (A + 0)))])) _
          refine XS.iadd X0.here hx rfl (hb hby d3_38) rfl ?_
          show Steps p.tables e below (s₁.setTop (mkF m 39 #[.val (.ref t1), .val (.int (Int32.ofNat A)), .val (.int (Int32.ofNat (A + 3))), .val (.ref t2), .val (.int (Int32.ofNat B)), .val (.int (Int32.ofNat (B + M))), .val (.int (3 : Int32)), .val (.int (0 : Int32))] [(.int ((Int32.ofNat B) + (0 : Int32))), (.ref t2), (.int (f (A + 0)))])) _
          refine X0.baloadBytes hx (j := ((Int32.ofNat B) + (0 : Int32))) (v := (.int (g (B + 0)))) (by rw [e0]; exact Ar12.1) (State.isArrayOf_alike hZ.alike Ar12.2.1) Ar12.2.2 hin12 hat12 (g := (mkF m 39 #[.val (.ref t1), .val (.int (Int32.ofNat A)), .val (.int (Int32.ofNat (A + 3))), .val (.ref t2), .val (.int (Int32.ofNat B)), .val (.int (Int32.ofNat (B + M))), .val (.int (3 : Int32)), .val (.int (0 : Int32))] [(.int ((Int32.ofNat B) + (0 : Int32))), (.ref t2), (.int (f (A + 0)))])) rfl rfl (hb hby d3_39) _ ?_
          show Steps p.tables e below (s₁.setTop (mkF m 40 #[.val (.ref t1), .val (.int (Int32.ofNat A)), .val (.int (Int32.ofNat (A + 3))), .val (.ref t2), .val (.int (Int32.ofNat B)), .val (.int (Int32.ofNat (B + M))), .val (.int (3 : Int32)), .val (.int (0 : Int32))] [(.int (g (B + 0))), (.int (f (A + 0)))])) _
          refine XS.icmpNo X0.here hx rfl (hb hby d3_40) rfl (feq hc40).1 ?_
          show Steps p.tables e below (s₁.setTop (mkF m 43 #[.val (.ref t1), .val (.int (Int32.ofNat A)), .val (.int (Int32.ofNat (A + 3))), .val (.ref t2), .val (.int (Int32.ofNat B)), .val (.int (Int32.ofNat (B + M))), .val (.int (3 : Int32)), .val (.int (0 : Int32))] [])) _
          refine XS.iconst X0.here hx rfl (hb hby d3_43) ?_
          show Steps p.tables e below (s₁.setTop (mkF m 44 #[.val (.ref t1), .val (.int (Int32.ofNat A)), .val (.int (Int32.ofNat (A + 3))), .val (.ref t2), .val (.int (Int32.ofNat B)), .val (.int (Int32.ofNat (B + M))), .val (.int (3 : Int32)), .val (.int (0 : Int32))] [(.int (0 : Int32))])) _
          exact retN X0 hx (t := .boolean) Bd.returns (by simp) (hb hby d3_44) hr
        · show Q3 Z t1 t2 A B 3 M f g h0 n0 _ s₁.heap _
          rw [e0]
          exact ⟨_, rfl, N0, rfl, Or.inr ⟨rfl, fun q => hc40 (q.2 0 (by omega))⟩⟩
    · obtain ⟨fs, hr, hrun, hended, hW, hsame⟩ := X0.leave (v := some (.int (0 : Int32))) (fun h => by rw [Bd.returns] at h; cases h)
      refine ⟨_, _, pre0 _ ?_, hrun, hended, _, _, rfl, ?_, ⟨_, rfl⟩, hW, hsame.mono (by decide) (by decide)⟩
      · show Steps p.tables e below (s₁.setTop (mkF m 0 #[.val (.ref t1), .val (.int (Int32.ofNat A)), .val (.int (Int32.ofNat (A + 3))), .val (.ref t2), .val (.int (Int32.ofNat B)), .val (.int (Int32.ofNat (B + M))), .unset, .unset] [])) _
        refine seg10 _ ?_
        show Steps p.tables e below (s₁.setTop (mkF m 12 #[.val (.ref t1), .val (.int (Int32.ofNat A)), .val (.int (Int32.ofNat (A + 3))), .val (.ref t2), .val (.int (Int32.ofNat B)), .val (.int (Int32.ofNat (B + M))), .val (.int (3 : Int32)), .unset] [(.int (Int32.ofNat M)), (.int (3 : Int32))])) _
        refine XS.icmpNo X0.here hx rfl (hb hby d3_12) rfl (feq hc12).1 ?_
        show Steps p.tables e below (s₁.setTop (mkF m 15 #[.val (.ref t1), .val (.int (Int32.ofNat A)), .val (.int (Int32.ofNat (A + 3))), .val (.ref t2), .val (.int (Int32.ofNat B)), .val (.int (Int32.ofNat (B + M))), .val (.int (3 : Int32)), .unset] [])) _
        refine XS.iconst X0.here hx rfl (hb hby d3_15) ?_
        show Steps p.tables e below (s₁.setTop (mkF m 16 #[.val (.ref t1), .val (.int (Int32.ofNat A)), .val (.int (Int32.ofNat (A + 3))), .val (.ref t2), .val (.int (Int32.ofNat B)), .val (.int (Int32.ofNat (B + M))), .val (.int (3 : Int32)), .unset] [(.int (0 : Int32))])) _
        exact retN X0 hx (t := .boolean) Bd.returns (by simp) (hb hby d3_16) hr
      · show Q3 Z t1 t2 A B 3 M f g h0 n0 _ s₁.heap _
        rw [e0]
        exact ⟨_, rfl, N0, rfl, Or.inr ⟨rfl, fun q => hc12 (by rw [← q.1]; rfl)⟩⟩
  · have seg17 : ∀ target, Steps p.tables e below (s₁.setTop (mkF m 12 #[.val (.ref t1), .val (.int (Int32.ofNat A)), .val (.int (Int32.ofNat (A + 4))), .val (.ref t2), .val (.int (Int32.ofNat B)), .val (.int (Int32.ofNat (B + M))), .val (.int ((Int32.ofNat (A + 4)) - (Int32.ofNat A))), .unset] [(.int ((Int32.ofNat (B + M)) - (Int32.ofNat B))), (.int ((Int32.ofNat (A + 4)) - (Int32.ofNat A)))])) target → Steps p.tables e below (s₁.setTop (mkF m 0 #[.val (.ref t1), .val (.int (Int32.ofNat A)), .val (.int (Int32.ofNat (A + 4))), .val (.ref t2), .val (.int (Int32.ofNat B)), .val (.int (Int32.ofNat (B + M))), .unset, .unset] [])) target := by
      intro target kt
      show Steps p.tables e below (s₁.setTop (mkF m 0 #[.val (.ref t1), .val (.int (Int32.ofNat A)), .val (.int (Int32.ofNat (A + 4))), .val (.ref t2), .val (.int (Int32.ofNat B)), .val (.int (Int32.ofNat (B + M))), .unset, .unset] [])) _
      refine XS.iloadN X0.here hx rfl (hb hby d3_0) rfl ?_
      show Steps p.tables e below (s₁.setTop (mkF m 1 #[.val (.ref t1), .val (.int (Int32.ofNat A)), .val (.int (Int32.ofNat (A + 4))), .val (.ref t2), .val (.int (Int32.ofNat B)), .val (.int (Int32.ofNat (B + M))), .unset, .unset] [(.int (Int32.ofNat (A + 4)))])) _
      refine XS.iloadN X0.here hx rfl (hb hby d3_1) rfl ?_
      show Steps p.tables e below (s₁.setTop (mkF m 2 #[.val (.ref t1), .val (.int (Int32.ofNat A)), .val (.int (Int32.ofNat (A + 4))), .val (.ref t2), .val (.int (Int32.ofNat B)), .val (.int (Int32.ofNat (B + M))), .unset, .unset] [(.int (Int32.ofNat A)), (.int (Int32.ofNat (A + 4)))])) _
      refine XS.isub X0.here hx rfl (hb hby d3_2) rfl ?_
      show Steps p.tables e below (s₁.setTop (mkF m 3 #[.val (.ref t1), .val (.int (Int32.ofNat A)), .val (.int (Int32.ofNat (A + 4))), .val (.ref t2), .val (.int (Int32.ofNat B)), .val (.int (Int32.ofNat (B + M))), .unset, .unset] [(.int ((Int32.ofNat (A + 4)) - (Int32.ofNat A)))])) _
      refine XS.istore X0.here hx rfl (hb hby d3_3) rfl (l' := #[.val (.ref t1), .val (.int (Int32.ofNat A)), .val (.int (Int32.ofNat (A + 4))), .val (.ref t2), .val (.int (Int32.ofNat B)), .val (.int (Int32.ofNat (B + M))), .val (.int ((Int32.ofNat (A + 4)) - (Int32.ofNat A))), .unset]) rfl ?_
      show Steps p.tables e below (s₁.setTop (mkF m 5 #[.val (.ref t1), .val (.int (Int32.ofNat A)), .val (.int (Int32.ofNat (A + 4))), .val (.ref t2), .val (.int (Int32.ofNat B)), .val (.int (Int32.ofNat (B + M))), .val (.int ((Int32.ofNat (A + 4)) - (Int32.ofNat A))), .unset] [])) _
      refine XS.iload X0.here hx rfl (hb hby d3_5) rfl ?_
      show Steps p.tables e below (s₁.setTop (mkF m 7 #[.val (.ref t1), .val (.int (Int32.ofNat A)), .val (.int (Int32.ofNat (A + 4))), .val (.ref t2), .val (.int (Int32.ofNat B)), .val (.int (Int32.ofNat (B + M))), .val (.int ((Int32.ofNat (A + 4)) - (Int32.ofNat A))), .unset] [(.int ((Int32.ofNat (A + 4)) - (Int32.ofNat A)))])) _
      refine XS.iload X0.here hx rfl (hb hby d3_7) rfl ?_
      show Steps p.tables e below (s₁.setTop (mkF m 9 #[.val (.ref t1), .val (.int (Int32.ofNat A)), .val (.int (Int32.ofNat (A + 4))), .val (.ref t2), .val (.int (Int32.ofNat B)), .val (.int (Int32.ofNat (B + M))), .val (.int ((Int32.ofNat (A + 4)) - (Int32.ofNat A))), .unset] [(.int (Int32.ofNat (B + M))), (.int ((Int32.ofNat (A + 4)) - (Int32.ofNat A)))])) _
      refine XS.iload X0.here hx rfl (hb hby d3_9) rfl ?_
      show Steps p.tables e below (s₁.setTop (mkF m 11 #[.val (.ref t1), .val (.int (Int32.ofNat A)), .val (.int (Int32.ofNat (A + 4))), .val (.ref t2), .val (.int (Int32.ofNat B)), .val (.int (Int32.ofNat (B + M))), .val (.int ((Int32.ofNat (A + 4)) - (Int32.ofNat A))), .unset] [(.int (Int32.ofNat B)), (.int (Int32.ofNat (B + M))), (.int ((Int32.ofNat (A + 4)) - (Int32.ofNat A)))])) _
      refine XS.isub X0.here hx rfl (hb hby d3_11) rfl ?_
      exact kt
    rw [show ((Int32.ofNat (A + 4)) - (Int32.ofNat A)) = (4 : Int32) from own_sb A 4, show ((Int32.ofNat (B + M)) - (Int32.ofNat B)) = Int32.ofNat M from own_sb B M] at seg17
    by_cases hc12 : (4 : Int32) = (Int32.ofNat M)
    · have hMn : 4 = M := (own_inj (i := 4) (by omega) (by omega)).mp hc12
      obtain ⟨cl18, Ar18, S18, H18⟩ := id BA
      have hin18 : ¬ (((Int32.ofNat A) + (0 : Int32)) < 0 ∨ cl18.slots.size ≤ (((Int32.ofNat A) + (0 : Int32))).toNatClampNeg) := by rw [S18]; exact within (show Int32.ofNat A + (0 : Int32) = Int32.ofNat (A + 0) from by rw [show (0 : Int32) = Int32.ofNat 0 from by decide]; exact own_ad A 0) (show A + 0 < 4 by omega) (by decide)
      have hat18 : cl18.slots[(((Int32.ofNat A) + (0 : Int32))).toNatClampNeg]? = some (.int (f (A + 0))) := by rw [clamp_of (show Int32.ofNat A + (0 : Int32) = Int32.ofNat (A + 0) from by rw [show (0 : Int32) = Int32.ofNat 0 from by decide]; exact own_ad A 0) (Nat.lt_trans (show A + 0 < 4 by omega) (by decide))]; exact H18 _ (show A + 0 < 4 by omega)
      obtain ⟨cl19, Ar19, S19, H19⟩ := id BB
      have hin19 : ¬ (((Int32.ofNat B) + (0 : Int32)) < 0 ∨ cl19.slots.size ≤ (((Int32.ofNat B) + (0 : Int32))).toNatClampNeg) := by rw [S19]; exact within (show Int32.ofNat B + (0 : Int32) = Int32.ofNat (B + 0) from by rw [show (0 : Int32) = Int32.ofNat 0 from by decide]; exact own_ad B 0) (show B + 0 < 4 by omega) (by decide)
      have hat19 : cl19.slots[(((Int32.ofNat B) + (0 : Int32))).toNatClampNeg]? = some (.int (g (B + 0))) := by rw [clamp_of (show Int32.ofNat B + (0 : Int32) = Int32.ofNat (B + 0) from by rw [show (0 : Int32) = Int32.ofNat 0 from by decide]; exact own_ad B 0) (Nat.lt_trans (show B + 0 < 4 by omega) (by decide))]; exact H19 _ (show B + 0 < 4 by omega)
      by_cases hc40 : (f (A + 0)) = (g (B + 0))
      · obtain ⟨cl20, Ar20, S20, H20⟩ := id BA
        have hin20 : ¬ (((Int32.ofNat A) + ((0 : Int32) + (1 : Int32))) < 0 ∨ cl20.slots.size ≤ (((Int32.ofNat A) + ((0 : Int32) + (1 : Int32)))).toNatClampNeg) := by rw [S20]; exact within (show Int32.ofNat A + ((0 : Int32) + (1 : Int32)) = Int32.ofNat (A + 1) from by rw [show ((0 : Int32) + (1 : Int32)) = Int32.ofNat 1 from by decide]; exact own_ad A 1) (show A + 1 < 4 by omega) (by decide)
        have hat20 : cl20.slots[(((Int32.ofNat A) + ((0 : Int32) + (1 : Int32)))).toNatClampNeg]? = some (.int (f (A + 1))) := by rw [clamp_of (show Int32.ofNat A + ((0 : Int32) + (1 : Int32)) = Int32.ofNat (A + 1) from by rw [show ((0 : Int32) + (1 : Int32)) = Int32.ofNat 1 from by decide]; exact own_ad A 1) (Nat.lt_trans (show A + 1 < 4 by omega) (by decide))]; exact H20 _ (show A + 1 < 4 by omega)
        obtain ⟨cl21, Ar21, S21, H21⟩ := id BB
        have hin21 : ¬ (((Int32.ofNat B) + ((0 : Int32) + (1 : Int32))) < 0 ∨ cl21.slots.size ≤ (((Int32.ofNat B) + ((0 : Int32) + (1 : Int32)))).toNatClampNeg) := by rw [S21]; exact within (show Int32.ofNat B + ((0 : Int32) + (1 : Int32)) = Int32.ofNat (B + 1) from by rw [show ((0 : Int32) + (1 : Int32)) = Int32.ofNat 1 from by decide]; exact own_ad B 1) (show B + 1 < 4 by omega) (by decide)
        have hat21 : cl21.slots[(((Int32.ofNat B) + ((0 : Int32) + (1 : Int32)))).toNatClampNeg]? = some (.int (g (B + 1))) := by rw [clamp_of (show Int32.ofNat B + ((0 : Int32) + (1 : Int32)) = Int32.ofNat (B + 1) from by rw [show ((0 : Int32) + (1 : Int32)) = Int32.ofNat 1 from by decide]; exact own_ad B 1) (Nat.lt_trans (show B + 1 < 4 by omega) (by decide))]; exact H21 _ (show B + 1 < 4 by omega)
        by_cases hc40_2 : (f (A + 1)) = (g (B + 1))
        · obtain ⟨cl22, Ar22, S22, H22⟩ := id BA
          have hin22 : ¬ (((Int32.ofNat A) + (((0 : Int32) + (1 : Int32)) + (1 : Int32))) < 0 ∨ cl22.slots.size ≤ (((Int32.ofNat A) + (((0 : Int32) + (1 : Int32)) + (1 : Int32)))).toNatClampNeg) := by rw [S22]; exact within (show Int32.ofNat A + (((0 : Int32) + (1 : Int32)) + (1 : Int32)) = Int32.ofNat (A + 2) from by rw [show (((0 : Int32) + (1 : Int32)) + (1 : Int32)) = Int32.ofNat 2 from by decide]; exact own_ad A 2) (show A + 2 < 4 by omega) (by decide)
          have hat22 : cl22.slots[(((Int32.ofNat A) + (((0 : Int32) + (1 : Int32)) + (1 : Int32)))).toNatClampNeg]? = some (.int (f (A + 2))) := by rw [clamp_of (show Int32.ofNat A + (((0 : Int32) + (1 : Int32)) + (1 : Int32)) = Int32.ofNat (A + 2) from by rw [show (((0 : Int32) + (1 : Int32)) + (1 : Int32)) = Int32.ofNat 2 from by decide]; exact own_ad A 2) (Nat.lt_trans (show A + 2 < 4 by omega) (by decide))]; exact H22 _ (show A + 2 < 4 by omega)
          obtain ⟨cl23, Ar23, S23, H23⟩ := id BB
          have hin23 : ¬ (((Int32.ofNat B) + (((0 : Int32) + (1 : Int32)) + (1 : Int32))) < 0 ∨ cl23.slots.size ≤ (((Int32.ofNat B) + (((0 : Int32) + (1 : Int32)) + (1 : Int32)))).toNatClampNeg) := by rw [S23]; exact within (show Int32.ofNat B + (((0 : Int32) + (1 : Int32)) + (1 : Int32)) = Int32.ofNat (B + 2) from by rw [show (((0 : Int32) + (1 : Int32)) + (1 : Int32)) = Int32.ofNat 2 from by decide]; exact own_ad B 2) (show B + 2 < 4 by omega) (by decide)
          have hat23 : cl23.slots[(((Int32.ofNat B) + (((0 : Int32) + (1 : Int32)) + (1 : Int32)))).toNatClampNeg]? = some (.int (g (B + 2))) := by rw [clamp_of (show Int32.ofNat B + (((0 : Int32) + (1 : Int32)) + (1 : Int32)) = Int32.ofNat (B + 2) from by rw [show (((0 : Int32) + (1 : Int32)) + (1 : Int32)) = Int32.ofNat 2 from by decide]; exact own_ad B 2) (Nat.lt_trans (show B + 2 < 4 by omega) (by decide))]; exact H23 _ (show B + 2 < 4 by omega)
          by_cases hc40_3 : (f (A + 2)) = (g (B + 2))
          · obtain ⟨cl24, Ar24, S24, H24⟩ := id BA
            have hin24 : ¬ (((Int32.ofNat A) + ((((0 : Int32) + (1 : Int32)) + (1 : Int32)) + (1 : Int32))) < 0 ∨ cl24.slots.size ≤ (((Int32.ofNat A) + ((((0 : Int32) + (1 : Int32)) + (1 : Int32)) + (1 : Int32)))).toNatClampNeg) := by rw [S24]; exact within (show Int32.ofNat A + ((((0 : Int32) + (1 : Int32)) + (1 : Int32)) + (1 : Int32)) = Int32.ofNat (A + 3) from by rw [show ((((0 : Int32) + (1 : Int32)) + (1 : Int32)) + (1 : Int32)) = Int32.ofNat 3 from by decide]; exact own_ad A 3) (show A + 3 < 4 by omega) (by decide)
            have hat24 : cl24.slots[(((Int32.ofNat A) + ((((0 : Int32) + (1 : Int32)) + (1 : Int32)) + (1 : Int32)))).toNatClampNeg]? = some (.int (f (A + 3))) := by rw [clamp_of (show Int32.ofNat A + ((((0 : Int32) + (1 : Int32)) + (1 : Int32)) + (1 : Int32)) = Int32.ofNat (A + 3) from by rw [show ((((0 : Int32) + (1 : Int32)) + (1 : Int32)) + (1 : Int32)) = Int32.ofNat 3 from by decide]; exact own_ad A 3) (Nat.lt_trans (show A + 3 < 4 by omega) (by decide))]; exact H24 _ (show A + 3 < 4 by omega)
            obtain ⟨cl25, Ar25, S25, H25⟩ := id BB
            have hin25 : ¬ (((Int32.ofNat B) + ((((0 : Int32) + (1 : Int32)) + (1 : Int32)) + (1 : Int32))) < 0 ∨ cl25.slots.size ≤ (((Int32.ofNat B) + ((((0 : Int32) + (1 : Int32)) + (1 : Int32)) + (1 : Int32)))).toNatClampNeg) := by rw [S25]; exact within (show Int32.ofNat B + ((((0 : Int32) + (1 : Int32)) + (1 : Int32)) + (1 : Int32)) = Int32.ofNat (B + 3) from by rw [show ((((0 : Int32) + (1 : Int32)) + (1 : Int32)) + (1 : Int32)) = Int32.ofNat 3 from by decide]; exact own_ad B 3) (show B + 3 < 4 by omega) (by decide)
            have hat25 : cl25.slots[(((Int32.ofNat B) + ((((0 : Int32) + (1 : Int32)) + (1 : Int32)) + (1 : Int32)))).toNatClampNeg]? = some (.int (g (B + 3))) := by rw [clamp_of (show Int32.ofNat B + ((((0 : Int32) + (1 : Int32)) + (1 : Int32)) + (1 : Int32)) = Int32.ofNat (B + 3) from by rw [show ((((0 : Int32) + (1 : Int32)) + (1 : Int32)) + (1 : Int32)) = Int32.ofNat 3 from by decide]; exact own_ad B 3) (Nat.lt_trans (show B + 3 < 4 by omega) (by decide))]; exact H25 _ (show B + 3 < 4 by omega)
            by_cases hc40_4 : (f (A + 3)) = (g (B + 3))
            · obtain ⟨fs, hr, hrun, hended, hW, hsame⟩ := X0.leave (v := some (.int (1 : Int32))) (fun h => by rw [Bd.returns] at h; cases h)
              refine ⟨_, _, pre0 _ ?_, hrun, hended, _, _, rfl, ?_, ⟨_, rfl⟩, hW, hsame.mono (by decide) (by decide)⟩
              · show Steps p.tables e below (s₁.setTop (mkF m 0 #[.val (.ref t1), .val (.int (Int32.ofNat A)), .val (.int (Int32.ofNat (A + 4))), .val (.ref t2), .val (.int (Int32.ofNat B)), .val (.int (Int32.ofNat (B + M))), .unset, .unset] [])) _
                refine seg17 _ ?_
                show Steps p.tables e below (s₁.setTop (mkF m 12 #[.val (.ref t1), .val (.int (Int32.ofNat A)), .val (.int (Int32.ofNat (A + 4))), .val (.ref t2), .val (.int (Int32.ofNat B)), .val (.int (Int32.ofNat (B + M))), .val (.int (4 : Int32)), .unset] [(.int (Int32.ofNat M)), (.int (4 : Int32))])) _
                refine XS.icmpYes X0.here hx rfl (pc0 := 12) (pc' := 17) rfl (hb hby d3_12) rfl (teq hc12).1 (by decide) (by decide) ?_
                show Steps p.tables e below (s₁.setTop (mkF m 17 #[.val (.ref t1), .val (.int (Int32.ofNat A)), .val (.int (Int32.ofNat (A + 4))), .val (.ref t2), .val (.int (Int32.ofNat B)), .val (.int (Int32.ofNat (B + M))), .val (.int (4 : Int32)), .unset] [])) _
                refine XS.iconst X0.here hx rfl (hb hby d3_17) ?_
                show Steps p.tables e below (s₁.setTop (mkF m 18 #[.val (.ref t1), .val (.int (Int32.ofNat A)), .val (.int (Int32.ofNat (A + 4))), .val (.ref t2), .val (.int (Int32.ofNat B)), .val (.int (Int32.ofNat (B + M))), .val (.int (4 : Int32)), .unset] [(.int (0 : Int32))])) _
                refine XS.istore X0.here hx rfl (hb hby d3_18) rfl (l' := #[.val (.ref t1), .val (.int (Int32.ofNat A)), .val (.int (Int32.ofNat (A + 4))), .val (.ref t2), .val (.int (Int32.ofNat B)), .val (.int (Int32.ofNat (B + M))), .val (.int (4 : Int32)), .val (.int (0 : Int32))]) rfl ?_
                show Steps p.tables e below (s₁.setTop (mkF m 20 #[.val (.ref t1), .val (.int (Int32.ofNat A)), .val (.int (Int32.ofNat (A + 4))), .val (.ref t2), .val (.int (Int32.ofNat B)), .val (.int (Int32.ofNat (B + M))), .val (.int (4 : Int32)), .val (.int (0 : Int32))] [])) _
                refine XS.iload X0.here hx rfl (hb hby d3_20) rfl ?_
                show Steps p.tables e below (s₁.setTop (mkF m 22 #[.val (.ref t1), .val (.int (Int32.ofNat A)), .val (.int (Int32.ofNat (A + 4))), .val (.ref t2), .val (.int (Int32.ofNat B)), .val (.int (Int32.ofNat (B + M))), .val (.int (4 : Int32)), .val (.int (0 : Int32))] [(.int (0 : Int32))])) _
                refine XS.iload X0.here hx rfl (hb hby d3_22) rfl ?_
                show Steps p.tables e below (s₁.setTop (mkF m 24 #[.val (.ref t1), .val (.int (Int32.ofNat A)), .val (.int (Int32.ofNat (A + 4))), .val (.ref t2), .val (.int (Int32.ofNat B)), .val (.int (Int32.ofNat (B + M))), .val (.int (4 : Int32)), .val (.int (0 : Int32))] [(.int (4 : Int32)), (.int (0 : Int32))])) _
                refine XS.icmpNo X0.here hx rfl (hb hby d3_24) rfl (by decide) ?_
                show Steps p.tables e below (s₁.setTop (mkF m 27 #[.val (.ref t1), .val (.int (Int32.ofNat A)), .val (.int (Int32.ofNat (A + 4))), .val (.ref t2), .val (.int (Int32.ofNat B)), .val (.int (Int32.ofNat (B + M))), .val (.int (4 : Int32)), .val (.int (0 : Int32))] [])) _
                refine XS.aloadN X0.here hx rfl (hb hby d3_27) rfl rfl ?_
                show Steps p.tables e below (s₁.setTop (mkF m 28 #[.val (.ref t1), .val (.int (Int32.ofNat A)), .val (.int (Int32.ofNat (A + 4))), .val (.ref t2), .val (.int (Int32.ofNat B)), .val (.int (Int32.ofNat (B + M))), .val (.int (4 : Int32)), .val (.int (0 : Int32))] [(.ref t1)])) _
                refine XS.iloadN X0.here hx rfl (hb hby d3_28) rfl ?_
                show Steps p.tables e below (s₁.setTop (mkF m 29 #[.val (.ref t1), .val (.int (Int32.ofNat A)), .val (.int (Int32.ofNat (A + 4))), .val (.ref t2), .val (.int (Int32.ofNat B)), .val (.int (Int32.ofNat (B + M))), .val (.int (4 : Int32)), .val (.int (0 : Int32))] [(.int (Int32.ofNat A)), (.ref t1)])) _
                refine XS.iload X0.here hx rfl (hb hby d3_29) rfl ?_
                show Steps p.tables e below (s₁.setTop (mkF m 31 #[.val (.ref t1), .val (.int (Int32.ofNat A)), .val (.int (Int32.ofNat (A + 4))), .val (.ref t2), .val (.int (Int32.ofNat B)), .val (.int (Int32.ofNat (B + M))), .val (.int (4 : Int32)), .val (.int (0 : Int32))] [(.int (0 : Int32)), (.int (Int32.ofNat A)), (.ref t1)])) _
                refine XS.iadd X0.here hx rfl (hb hby d3_31) rfl ?_
                show Steps p.tables e below (s₁.setTop (mkF m 32 #[.val (.ref t1), .val (.int (Int32.ofNat A)), .val (.int (Int32.ofNat (A + 4))), .val (.ref t2), .val (.int (Int32.ofNat B)), .val (.int (Int32.ofNat (B + M))), .val (.int (4 : Int32)), .val (.int (0 : Int32))] [(.int ((Int32.ofNat A) + (0 : Int32))), (.ref t1)])) _
                refine X0.baloadBytes hx (j := ((Int32.ofNat A) + (0 : Int32))) (v := (.int (f (A + 0)))) (by rw [e0]; exact Ar18.1) (State.isArrayOf_alike hZ.alike Ar18.2.1) Ar18.2.2 hin18 hat18 (g := (mkF m 32 #[.val (.ref t1), .val (.int (Int32.ofNat A)), .val (.int (Int32.ofNat (A + 4))), .val (.ref t2), .val (.int (Int32.ofNat B)), .val (.int (Int32.ofNat (B + M))), .val (.int (4 : Int32)), .val (.int (0 : Int32))] [(.int ((Int32.ofNat A) + (0 : Int32))), (.ref t1)])) rfl rfl (hb hby d3_32) _ ?_
                show Steps p.tables e below (s₁.setTop (mkF m 33 #[.val (.ref t1), .val (.int (Int32.ofNat A)), .val (.int (Int32.ofNat (A + 4))), .val (.ref t2), .val (.int (Int32.ofNat B)), .val (.int (Int32.ofNat (B + M))), .val (.int (4 : Int32)), .val (.int (0 : Int32))] [(.int (f (A + 0)))])) _
                refine XS.aloadN X0.here hx rfl (hb hby d3_33) rfl rfl ?_
                show Steps p.tables e below (s₁.setTop (mkF m 34 #[.val (.ref t1), .val (.int (Int32.ofNat A)), .val (.int (Int32.ofNat (A + 4))), .val (.ref t2), .val (.int (Int32.ofNat B)), .val (.int (Int32.ofNat (B + M))), .val (.int (4 : Int32)), .val (.int (0 : Int32))] [(.ref t2), (.int (f (A + 0)))])) _
                refine XS.iload X0.here hx rfl (hb hby d3_34) rfl ?_
                show Steps p.tables e below (s₁.setTop (mkF m 36 #[.val (.ref t1), .val (.int (Int32.ofNat A)), .val (.int (Int32.ofNat (A + 4))), .val (.ref t2), .val (.int (Int32.ofNat B)), .val (.int (Int32.ofNat (B + M))), .val (.int (4 : Int32)), .val (.int (0 : Int32))] [(.int (Int32.ofNat B)), (.ref t2), (.int (f (A + 0)))])) _
                refine XS.iload X0.here hx rfl (hb hby d3_36) rfl ?_
                show Steps p.tables e below (s₁.setTop (mkF m 38 #[.val (.ref t1), .val (.int (Int32.ofNat A)), .val (.int (Int32.ofNat (A + 4))), .val (.ref t2), .val (.int (Int32.ofNat B)), .val (.int (Int32.ofNat (B + M))), .val (.int (4 : Int32)), .val (.int (0 : Int32))] [(.int (0 : Int32)), (.int (Int32.ofNat B)), (.ref t2), (.int (f (A + 0)))])) _
                refine XS.iadd X0.here hx rfl (hb hby d3_38) rfl ?_
                show Steps p.tables e below (s₁.setTop (mkF m 39 #[.val (.ref t1), .val (.int (Int32.ofNat A)), .val (.int (Int32.ofNat (A + 4))), .val (.ref t2), .val (.int (Int32.ofNat B)), .val (.int (Int32.ofNat (B + M))), .val (.int (4 : Int32)), .val (.int (0 : Int32))] [(.int ((Int32.ofNat B) + (0 : Int32))), (.ref t2), (.int (f (A + 0)))])) _
                refine X0.baloadBytes hx (j := ((Int32.ofNat B) + (0 : Int32))) (v := (.int (g (B + 0)))) (by rw [e0]; exact Ar19.1) (State.isArrayOf_alike hZ.alike Ar19.2.1) Ar19.2.2 hin19 hat19 (g := (mkF m 39 #[.val (.ref t1), .val (.int (Int32.ofNat A)), .val (.int (Int32.ofNat (A + 4))), .val (.ref t2), .val (.int (Int32.ofNat B)), .val (.int (Int32.ofNat (B + M))), .val (.int (4 : Int32)), .val (.int (0 : Int32))] [(.int ((Int32.ofNat B) + (0 : Int32))), (.ref t2), (.int (f (A + 0)))])) rfl rfl (hb hby d3_39) _ ?_
                show Steps p.tables e below (s₁.setTop (mkF m 40 #[.val (.ref t1), .val (.int (Int32.ofNat A)), .val (.int (Int32.ofNat (A + 4))), .val (.ref t2), .val (.int (Int32.ofNat B)), .val (.int (Int32.ofNat (B + M))), .val (.int (4 : Int32)), .val (.int (0 : Int32))] [(.int (g (B + 0))), (.int (f (A + 0)))])) _
                refine XS.icmpYes X0.here hx rfl (pc0 := 40) (pc' := 45) rfl (hb hby d3_40) rfl (teq hc40).1 (by decide) (by decide) ?_
                show Steps p.tables e below (s₁.setTop (mkF m 45 #[.val (.ref t1), .val (.int (Int32.ofNat A)), .val (.int (Int32.ofNat (A + 4))), .val (.ref t2), .val (.int (Int32.ofNat B)), .val (.int (Int32.ofNat (B + M))), .val (.int (4 : Int32)), .val (.int (0 : Int32))] [])) _
                refine XS.iinc X0.here hx rfl (hb hby d3_45) rfl (l' := #[.val (.ref t1), .val (.int (Int32.ofNat A)), .val (.int (Int32.ofNat (A + 4))), .val (.ref t2), .val (.int (Int32.ofNat B)), .val (.int (Int32.ofNat (B + M))), .val (.int (4 : Int32)), .val (.int ((0 : Int32) + (1 : Int32)))]) rfl ?_
                show Steps p.tables e below (s₁.setTop (mkF m 48 #[.val (.ref t1), .val (.int (Int32.ofNat A)), .val (.int (Int32.ofNat (A + 4))), .val (.ref t2), .val (.int (Int32.ofNat B)), .val (.int (Int32.ofNat (B + M))), .val (.int (4 : Int32)), .val (.int ((0 : Int32) + (1 : Int32)))] [])) _
                refine XS.goto X0.here hx rfl (pc0 := 48) (pc' := 20) rfl (hb hby d3_48) (by decide) (by decide) ?_
                show Steps p.tables e below (s₁.setTop (mkF m 20 #[.val (.ref t1), .val (.int (Int32.ofNat A)), .val (.int (Int32.ofNat (A + 4))), .val (.ref t2), .val (.int (Int32.ofNat B)), .val (.int (Int32.ofNat (B + M))), .val (.int (4 : Int32)), .val (.int ((0 : Int32) + (1 : Int32)))] [])) _
                refine XS.iload X0.here hx rfl (hb hby d3_20) rfl ?_
                show Steps p.tables e below (s₁.setTop (mkF m 22 #[.val (.ref t1), .val (.int (Int32.ofNat A)), .val (.int (Int32.ofNat (A + 4))), .val (.ref t2), .val (.int (Int32.ofNat B)), .val (.int (Int32.ofNat (B + M))), .val (.int (4 : Int32)), .val (.int ((0 : Int32) + (1 : Int32)))] [(.int ((0 : Int32) + (1 : Int32)))])) _
                refine XS.iload X0.here hx rfl (hb hby d3_22) rfl ?_
                show Steps p.tables e below (s₁.setTop (mkF m 24 #[.val (.ref t1), .val (.int (Int32.ofNat A)), .val (.int (Int32.ofNat (A + 4))), .val (.ref t2), .val (.int (Int32.ofNat B)), .val (.int (Int32.ofNat (B + M))), .val (.int (4 : Int32)), .val (.int ((0 : Int32) + (1 : Int32)))] [(.int (4 : Int32)), (.int ((0 : Int32) + (1 : Int32)))])) _
                refine XS.icmpNo X0.here hx rfl (hb hby d3_24) rfl (by decide) ?_
                show Steps p.tables e below (s₁.setTop (mkF m 27 #[.val (.ref t1), .val (.int (Int32.ofNat A)), .val (.int (Int32.ofNat (A + 4))), .val (.ref t2), .val (.int (Int32.ofNat B)), .val (.int (Int32.ofNat (B + M))), .val (.int (4 : Int32)), .val (.int ((0 : Int32) + (1 : Int32)))] [])) _
                refine XS.aloadN X0.here hx rfl (hb hby d3_27) rfl rfl ?_
                show Steps p.tables e below (s₁.setTop (mkF m 28 #[.val (.ref t1), .val (.int (Int32.ofNat A)), .val (.int (Int32.ofNat (A + 4))), .val (.ref t2), .val (.int (Int32.ofNat B)), .val (.int (Int32.ofNat (B + M))), .val (.int (4 : Int32)), .val (.int ((0 : Int32) + (1 : Int32)))] [(.ref t1)])) _
                refine XS.iloadN X0.here hx rfl (hb hby d3_28) rfl ?_
                show Steps p.tables e below (s₁.setTop (mkF m 29 #[.val (.ref t1), .val (.int (Int32.ofNat A)), .val (.int (Int32.ofNat (A + 4))), .val (.ref t2), .val (.int (Int32.ofNat B)), .val (.int (Int32.ofNat (B + M))), .val (.int (4 : Int32)), .val (.int ((0 : Int32) + (1 : Int32)))] [(.int (Int32.ofNat A)), (.ref t1)])) _
                refine XS.iload X0.here hx rfl (hb hby d3_29) rfl ?_
                show Steps p.tables e below (s₁.setTop (mkF m 31 #[.val (.ref t1), .val (.int (Int32.ofNat A)), .val (.int (Int32.ofNat (A + 4))), .val (.ref t2), .val (.int (Int32.ofNat B)), .val (.int (Int32.ofNat (B + M))), .val (.int (4 : Int32)), .val (.int ((0 : Int32) + (1 : Int32)))] [(.int ((0 : Int32) + (1 : Int32))), (.int (Int32.ofNat A)), (.ref t1)])) _
                refine XS.iadd X0.here hx rfl (hb hby d3_31) rfl ?_
                show Steps p.tables e below (s₁.setTop (mkF m 32 #[.val (.ref t1), .val (.int (Int32.ofNat A)), .val (.int (Int32.ofNat (A + 4))), .val (.ref t2), .val (.int (Int32.ofNat B)), .val (.int (Int32.ofNat (B + M))), .val (.int (4 : Int32)), .val (.int ((0 : Int32) + (1 : Int32)))] [(.int ((Int32.ofNat A) + ((0 : Int32) + (1 : Int32)))), (.ref t1)])) _
                refine X0.baloadBytes hx (j := ((Int32.ofNat A) + ((0 : Int32) + (1 : Int32)))) (v := (.int (f (A + 1)))) (by rw [e0]; exact Ar20.1) (State.isArrayOf_alike hZ.alike Ar20.2.1) Ar20.2.2 hin20 hat20 (g := (mkF m 32 #[.val (.ref t1), .val (.int (Int32.ofNat A)), .val (.int (Int32.ofNat (A + 4))), .val (.ref t2), .val (.int (Int32.ofNat B)), .val (.int (Int32.ofNat (B + M))), .val (.int (4 : Int32)), .val (.int ((0 : Int32) + (1 : Int32)))] [(.int ((Int32.ofNat A) + ((0 : Int32) + (1 : Int32)))), (.ref t1)])) rfl rfl (hb hby d3_32) _ ?_
                show Steps p.tables e below (s₁.setTop (mkF m 33 #[.val (.ref t1), .val (.int (Int32.ofNat A)), .val (.int (Int32.ofNat (A + 4))), .val (.ref t2), .val (.int (Int32.ofNat B)), .val (.int (Int32.ofNat (B + M))), .val (.int (4 : Int32)), .val (.int ((0 : Int32) + (1 : Int32)))] [(.int (f (A + 1)))])) _
                refine XS.aloadN X0.here hx rfl (hb hby d3_33) rfl rfl ?_
                show Steps p.tables e below (s₁.setTop (mkF m 34 #[.val (.ref t1), .val (.int (Int32.ofNat A)), .val (.int (Int32.ofNat (A + 4))), .val (.ref t2), .val (.int (Int32.ofNat B)), .val (.int (Int32.ofNat (B + M))), .val (.int (4 : Int32)), .val (.int ((0 : Int32) + (1 : Int32)))] [(.ref t2), (.int (f (A + 1)))])) _
                refine XS.iload X0.here hx rfl (hb hby d3_34) rfl ?_
                show Steps p.tables e below (s₁.setTop (mkF m 36 #[.val (.ref t1), .val (.int (Int32.ofNat A)), .val (.int (Int32.ofNat (A + 4))), .val (.ref t2), .val (.int (Int32.ofNat B)), .val (.int (Int32.ofNat (B + M))), .val (.int (4 : Int32)), .val (.int ((0 : Int32) + (1 : Int32)))] [(.int (Int32.ofNat B)), (.ref t2), (.int (f (A + 1)))])) _
                refine XS.iload X0.here hx rfl (hb hby d3_36) rfl ?_
                show Steps p.tables e below (s₁.setTop (mkF m 38 #[.val (.ref t1), .val (.int (Int32.ofNat A)), .val (.int (Int32.ofNat (A + 4))), .val (.ref t2), .val (.int (Int32.ofNat B)), .val (.int (Int32.ofNat (B + M))), .val (.int (4 : Int32)), .val (.int ((0 : Int32) + (1 : Int32)))] [(.int ((0 : Int32) + (1 : Int32))), (.int (Int32.ofNat B)), (.ref t2), (.int (f (A + 1)))])) _
                refine XS.iadd X0.here hx rfl (hb hby d3_38) rfl ?_
                show Steps p.tables e below (s₁.setTop (mkF m 39 #[.val (.ref t1), .val (.int (Int32.ofNat A)), .val (.int (Int32.ofNat (A + 4))), .val (.ref t2), .val (.int (Int32.ofNat B)), .val (.int (Int32.ofNat (B + M))), .val (.int (4 : Int32)), .val (.int ((0 : Int32) + (1 : Int32)))] [(.int ((Int32.ofNat B) + ((0 : Int32) + (1 : Int32)))), (.ref t2), (.int (f (A + 1)))])) _
                refine X0.baloadBytes hx (j := ((Int32.ofNat B) + ((0 : Int32) + (1 : Int32)))) (v := (.int (g (B + 1)))) (by rw [e0]; exact Ar21.1) (State.isArrayOf_alike hZ.alike Ar21.2.1) Ar21.2.2 hin21 hat21 (g := (mkF m 39 #[.val (.ref t1), .val (.int (Int32.ofNat A)), .val (.int (Int32.ofNat (A + 4))), .val (.ref t2), .val (.int (Int32.ofNat B)), .val (.int (Int32.ofNat (B + M))), .val (.int (4 : Int32)), .val (.int ((0 : Int32) + (1 : Int32)))] [(.int ((Int32.ofNat B) + ((0 : Int32) + (1 : Int32)))), (.ref t2), (.int (f (A + 1)))])) rfl rfl (hb hby d3_39) _ ?_
                show Steps p.tables e below (s₁.setTop (mkF m 40 #[.val (.ref t1), .val (.int (Int32.ofNat A)), .val (.int (Int32.ofNat (A + 4))), .val (.ref t2), .val (.int (Int32.ofNat B)), .val (.int (Int32.ofNat (B + M))), .val (.int (4 : Int32)), .val (.int ((0 : Int32) + (1 : Int32)))] [(.int (g (B + 1))), (.int (f (A + 1)))])) _
                refine XS.icmpYes X0.here hx rfl (pc0 := 40) (pc' := 45) rfl (hb hby d3_40) rfl (teq hc40_2).1 (by decide) (by decide) ?_
                show Steps p.tables e below (s₁.setTop (mkF m 45 #[.val (.ref t1), .val (.int (Int32.ofNat A)), .val (.int (Int32.ofNat (A + 4))), .val (.ref t2), .val (.int (Int32.ofNat B)), .val (.int (Int32.ofNat (B + M))), .val (.int (4 : Int32)), .val (.int ((0 : Int32) + (1 : Int32)))] [])) _
                refine XS.iinc X0.here hx rfl (hb hby d3_45) rfl (l' := #[.val (.ref t1), .val (.int (Int32.ofNat A)), .val (.int (Int32.ofNat (A + 4))), .val (.ref t2), .val (.int (Int32.ofNat B)), .val (.int (Int32.ofNat (B + M))), .val (.int (4 : Int32)), .val (.int (((0 : Int32) + (1 : Int32)) + (1 : Int32)))]) rfl ?_
                show Steps p.tables e below (s₁.setTop (mkF m 48 #[.val (.ref t1), .val (.int (Int32.ofNat A)), .val (.int (Int32.ofNat (A + 4))), .val (.ref t2), .val (.int (Int32.ofNat B)), .val (.int (Int32.ofNat (B + M))), .val (.int (4 : Int32)), .val (.int (((0 : Int32) + (1 : Int32)) + (1 : Int32)))] [])) _
                refine XS.goto X0.here hx rfl (pc0 := 48) (pc' := 20) rfl (hb hby d3_48) (by decide) (by decide) ?_
                show Steps p.tables e below (s₁.setTop (mkF m 20 #[.val (.ref t1), .val (.int (Int32.ofNat A)), .val (.int (Int32.ofNat (A + 4))), .val (.ref t2), .val (.int (Int32.ofNat B)), .val (.int (Int32.ofNat (B + M))), .val (.int (4 : Int32)), .val (.int (((0 : Int32) + (1 : Int32)) + (1 : Int32)))] [])) _
                refine XS.iload X0.here hx rfl (hb hby d3_20) rfl ?_
                show Steps p.tables e below (s₁.setTop (mkF m 22 #[.val (.ref t1), .val (.int (Int32.ofNat A)), .val (.int (Int32.ofNat (A + 4))), .val (.ref t2), .val (.int (Int32.ofNat B)), .val (.int (Int32.ofNat (B + M))), .val (.int (4 : Int32)), .val (.int (((0 : Int32) + (1 : Int32)) + (1 : Int32)))] [(.int (((0 : Int32) + (1 : Int32)) + (1 : Int32)))])) _
                refine XS.iload X0.here hx rfl (hb hby d3_22) rfl ?_
                show Steps p.tables e below (s₁.setTop (mkF m 24 #[.val (.ref t1), .val (.int (Int32.ofNat A)), .val (.int (Int32.ofNat (A + 4))), .val (.ref t2), .val (.int (Int32.ofNat B)), .val (.int (Int32.ofNat (B + M))), .val (.int (4 : Int32)), .val (.int (((0 : Int32) + (1 : Int32)) + (1 : Int32)))] [(.int (4 : Int32)), (.int (((0 : Int32) + (1 : Int32)) + (1 : Int32)))])) _
                refine XS.icmpNo X0.here hx rfl (hb hby d3_24) rfl (by decide) ?_
                show Steps p.tables e below (s₁.setTop (mkF m 27 #[.val (.ref t1), .val (.int (Int32.ofNat A)), .val (.int (Int32.ofNat (A + 4))), .val (.ref t2), .val (.int (Int32.ofNat B)), .val (.int (Int32.ofNat (B + M))), .val (.int (4 : Int32)), .val (.int (((0 : Int32) + (1 : Int32)) + (1 : Int32)))] [])) _
                refine XS.aloadN X0.here hx rfl (hb hby d3_27) rfl rfl ?_
                show Steps p.tables e below (s₁.setTop (mkF m 28 #[.val (.ref t1), .val (.int (Int32.ofNat A)), .val (.int (Int32.ofNat (A + 4))), .val (.ref t2), .val (.int (Int32.ofNat B)), .val (.int (Int32.ofNat (B + M))), .val (.int (4 : Int32)), .val (.int (((0 : Int32) + (1 : Int32)) + (1 : Int32)))] [(.ref t1)])) _
                refine XS.iloadN X0.here hx rfl (hb hby d3_28) rfl ?_
                show Steps p.tables e below (s₁.setTop (mkF m 29 #[.val (.ref t1), .val (.int (Int32.ofNat A)), .val (.int (Int32.ofNat (A + 4))), .val (.ref t2), .val (.int (Int32.ofNat B)), .val (.int (Int32.ofNat (B + M))), .val (.int (4 : Int32)), .val (.int (((0 : Int32) + (1 : Int32)) + (1 : Int32)))] [(.int (Int32.ofNat A)), (.ref t1)])) _
                refine XS.iload X0.here hx rfl (hb hby d3_29) rfl ?_
                show Steps p.tables e below (s₁.setTop (mkF m 31 #[.val (.ref t1), .val (.int (Int32.ofNat A)), .val (.int (Int32.ofNat (A + 4))), .val (.ref t2), .val (.int (Int32.ofNat B)), .val (.int (Int32.ofNat (B + M))), .val (.int (4 : Int32)), .val (.int (((0 : Int32) + (1 : Int32)) + (1 : Int32)))] [(.int (((0 : Int32) + (1 : Int32)) + (1 : Int32))), (.int (Int32.ofNat A)), (.ref t1)])) _
                refine XS.iadd X0.here hx rfl (hb hby d3_31) rfl ?_
                show Steps p.tables e below (s₁.setTop (mkF m 32 #[.val (.ref t1), .val (.int (Int32.ofNat A)), .val (.int (Int32.ofNat (A + 4))), .val (.ref t2), .val (.int (Int32.ofNat B)), .val (.int (Int32.ofNat (B + M))), .val (.int (4 : Int32)), .val (.int (((0 : Int32) + (1 : Int32)) + (1 : Int32)))] [(.int ((Int32.ofNat A) + (((0 : Int32) + (1 : Int32)) + (1 : Int32)))), (.ref t1)])) _
                refine X0.baloadBytes hx (j := ((Int32.ofNat A) + (((0 : Int32) + (1 : Int32)) + (1 : Int32)))) (v := (.int (f (A + 2)))) (by rw [e0]; exact Ar22.1) (State.isArrayOf_alike hZ.alike Ar22.2.1) Ar22.2.2 hin22 hat22 (g := (mkF m 32 #[.val (.ref t1), .val (.int (Int32.ofNat A)), .val (.int (Int32.ofNat (A + 4))), .val (.ref t2), .val (.int (Int32.ofNat B)), .val (.int (Int32.ofNat (B + M))), .val (.int (4 : Int32)), .val (.int (((0 : Int32) + (1 : Int32)) + (1 : Int32)))] [(.int ((Int32.ofNat A) + (((0 : Int32) + (1 : Int32)) + (1 : Int32)))), (.ref t1)])) rfl rfl (hb hby d3_32) _ ?_
                show Steps p.tables e below (s₁.setTop (mkF m 33 #[.val (.ref t1), .val (.int (Int32.ofNat A)), .val (.int (Int32.ofNat (A + 4))), .val (.ref t2), .val (.int (Int32.ofNat B)), .val (.int (Int32.ofNat (B + M))), .val (.int (4 : Int32)), .val (.int (((0 : Int32) + (1 : Int32)) + (1 : Int32)))] [(.int (f (A + 2)))])) _
                refine XS.aloadN X0.here hx rfl (hb hby d3_33) rfl rfl ?_
                show Steps p.tables e below (s₁.setTop (mkF m 34 #[.val (.ref t1), .val (.int (Int32.ofNat A)), .val (.int (Int32.ofNat (A + 4))), .val (.ref t2), .val (.int (Int32.ofNat B)), .val (.int (Int32.ofNat (B + M))), .val (.int (4 : Int32)), .val (.int (((0 : Int32) + (1 : Int32)) + (1 : Int32)))] [(.ref t2), (.int (f (A + 2)))])) _
                refine XS.iload X0.here hx rfl (hb hby d3_34) rfl ?_
                show Steps p.tables e below (s₁.setTop (mkF m 36 #[.val (.ref t1), .val (.int (Int32.ofNat A)), .val (.int (Int32.ofNat (A + 4))), .val (.ref t2), .val (.int (Int32.ofNat B)), .val (.int (Int32.ofNat (B + M))), .val (.int (4 : Int32)), .val (.int (((0 : Int32) + (1 : Int32)) + (1 : Int32)))] [(.int (Int32.ofNat B)), (.ref t2), (.int (f (A + 2)))])) _
                refine XS.iload X0.here hx rfl (hb hby d3_36) rfl ?_
                show Steps p.tables e below (s₁.setTop (mkF m 38 #[.val (.ref t1), .val (.int (Int32.ofNat A)), .val (.int (Int32.ofNat (A + 4))), .val (.ref t2), .val (.int (Int32.ofNat B)), .val (.int (Int32.ofNat (B + M))), .val (.int (4 : Int32)), .val (.int (((0 : Int32) + (1 : Int32)) + (1 : Int32)))] [(.int (((0 : Int32) + (1 : Int32)) + (1 : Int32))), (.int (Int32.ofNat B)), (.ref t2), (.int (f (A + 2)))])) _
                refine XS.iadd X0.here hx rfl (hb hby d3_38) rfl ?_
                show Steps p.tables e below (s₁.setTop (mkF m 39 #[.val (.ref t1), .val (.int (Int32.ofNat A)), .val (.int (Int32.ofNat (A + 4))), .val (.ref t2), .val (.int (Int32.ofNat B)), .val (.int (Int32.ofNat (B + M))), .val (.int (4 : Int32)), .val (.int (((0 : Int32) + (1 : Int32)) + (1 : Int32)))] [(.int ((Int32.ofNat B) + (((0 : Int32) + (1 : Int32)) + (1 : Int32)))), (.ref t2), (.int (f (A + 2)))])) _
                refine X0.baloadBytes hx (j := ((Int32.ofNat B) + (((0 : Int32) + (1 : Int32)) + (1 : Int32)))) (v := (.int (g (B + 2)))) (by rw [e0]; exact Ar23.1) (State.isArrayOf_alike hZ.alike Ar23.2.1) Ar23.2.2 hin23 hat23 (g := (mkF m 39 #[.val (.ref t1), .val (.int (Int32.ofNat A)), .val (.int (Int32.ofNat (A + 4))), .val (.ref t2), .val (.int (Int32.ofNat B)), .val (.int (Int32.ofNat (B + M))), .val (.int (4 : Int32)), .val (.int (((0 : Int32) + (1 : Int32)) + (1 : Int32)))] [(.int ((Int32.ofNat B) + (((0 : Int32) + (1 : Int32)) + (1 : Int32)))), (.ref t2), (.int (f (A + 2)))])) rfl rfl (hb hby d3_39) _ ?_
                show Steps p.tables e below (s₁.setTop (mkF m 40 #[.val (.ref t1), .val (.int (Int32.ofNat A)), .val (.int (Int32.ofNat (A + 4))), .val (.ref t2), .val (.int (Int32.ofNat B)), .val (.int (Int32.ofNat (B + M))), .val (.int (4 : Int32)), .val (.int (((0 : Int32) + (1 : Int32)) + (1 : Int32)))] [(.int (g (B + 2))), (.int (f (A + 2)))])) _
                refine XS.icmpYes X0.here hx rfl (pc0 := 40) (pc' := 45) rfl (hb hby d3_40) rfl (teq hc40_3).1 (by decide) (by decide) ?_
                show Steps p.tables e below (s₁.setTop (mkF m 45 #[.val (.ref t1), .val (.int (Int32.ofNat A)), .val (.int (Int32.ofNat (A + 4))), .val (.ref t2), .val (.int (Int32.ofNat B)), .val (.int (Int32.ofNat (B + M))), .val (.int (4 : Int32)), .val (.int (((0 : Int32) + (1 : Int32)) + (1 : Int32)))] [])) _
                refine XS.iinc X0.here hx rfl (hb hby d3_45) rfl (l' := #[.val (.ref t1), .val (.int (Int32.ofNat A)), .val (.int (Int32.ofNat (A + 4))), .val (.ref t2), .val (.int (Int32.ofNat B)), .val (.int (Int32.ofNat (B + M))), .val (.int (4 : Int32)), .val (.int ((((0 : Int32) + (1 : Int32)) + (1 : Int32)) + (1 : Int32)))]) rfl ?_
                show Steps p.tables e below (s₁.setTop (mkF m 48 #[.val (.ref t1), .val (.int (Int32.ofNat A)), .val (.int (Int32.ofNat (A + 4))), .val (.ref t2), .val (.int (Int32.ofNat B)), .val (.int (Int32.ofNat (B + M))), .val (.int (4 : Int32)), .val (.int ((((0 : Int32) + (1 : Int32)) + (1 : Int32)) + (1 : Int32)))] [])) _
                refine XS.goto X0.here hx rfl (pc0 := 48) (pc' := 20) rfl (hb hby d3_48) (by decide) (by decide) ?_
                show Steps p.tables e below (s₁.setTop (mkF m 20 #[.val (.ref t1), .val (.int (Int32.ofNat A)), .val (.int (Int32.ofNat (A + 4))), .val (.ref t2), .val (.int (Int32.ofNat B)), .val (.int (Int32.ofNat (B + M))), .val (.int (4 : Int32)), .val (.int ((((0 : Int32) + (1 : Int32)) + (1 : Int32)) + (1 : Int32)))] [])) _
                refine XS.iload X0.here hx rfl (hb hby d3_20) rfl ?_
                show Steps p.tables e below (s₁.setTop (mkF m 22 #[.val (.ref t1), .val (.int (Int32.ofNat A)), .val (.int (Int32.ofNat (A + 4))), .val (.ref t2), .val (.int (Int32.ofNat B)), .val (.int (Int32.ofNat (B + M))), .val (.int (4 : Int32)), .val (.int ((((0 : Int32) + (1 : Int32)) + (1 : Int32)) + (1 : Int32)))] [(.int ((((0 : Int32) + (1 : Int32)) + (1 : Int32)) + (1 : Int32)))])) _
                refine XS.iload X0.here hx rfl (hb hby d3_22) rfl ?_
                show Steps p.tables e below (s₁.setTop (mkF m 24 #[.val (.ref t1), .val (.int (Int32.ofNat A)), .val (.int (Int32.ofNat (A + 4))), .val (.ref t2), .val (.int (Int32.ofNat B)), .val (.int (Int32.ofNat (B + M))), .val (.int (4 : Int32)), .val (.int ((((0 : Int32) + (1 : Int32)) + (1 : Int32)) + (1 : Int32)))] [(.int (4 : Int32)), (.int ((((0 : Int32) + (1 : Int32)) + (1 : Int32)) + (1 : Int32)))])) _
                refine XS.icmpNo X0.here hx rfl (hb hby d3_24) rfl (by decide) ?_
                show Steps p.tables e below (s₁.setTop (mkF m 27 #[.val (.ref t1), .val (.int (Int32.ofNat A)), .val (.int (Int32.ofNat (A + 4))), .val (.ref t2), .val (.int (Int32.ofNat B)), .val (.int (Int32.ofNat (B + M))), .val (.int (4 : Int32)), .val (.int ((((0 : Int32) + (1 : Int32)) + (1 : Int32)) + (1 : Int32)))] [])) _
                refine XS.aloadN X0.here hx rfl (hb hby d3_27) rfl rfl ?_
                show Steps p.tables e below (s₁.setTop (mkF m 28 #[.val (.ref t1), .val (.int (Int32.ofNat A)), .val (.int (Int32.ofNat (A + 4))), .val (.ref t2), .val (.int (Int32.ofNat B)), .val (.int (Int32.ofNat (B + M))), .val (.int (4 : Int32)), .val (.int ((((0 : Int32) + (1 : Int32)) + (1 : Int32)) + (1 : Int32)))] [(.ref t1)])) _
                refine XS.iloadN X0.here hx rfl (hb hby d3_28) rfl ?_
                show Steps p.tables e below (s₁.setTop (mkF m 29 #[.val (.ref t1), .val (.int (Int32.ofNat A)), .val (.int (Int32.ofNat (A + 4))), .val (.ref t2), .val (.int (Int32.ofNat B)), .val (.int (Int32.ofNat (B + M))), .val (.int (4 : Int32)), .val (.int ((((0 : Int32) + (1 : Int32)) + (1 : Int32)) + (1 : Int32)))] [(.int (Int32.ofNat A)), (.ref t1)])) _
                refine XS.iload X0.here hx rfl (hb hby d3_29) rfl ?_
                show Steps p.tables e below (s₁.setTop (mkF m 31 #[.val (.ref t1), .val (.int (Int32.ofNat A)), .val (.int (Int32.ofNat (A + 4))), .val (.ref t2), .val (.int (Int32.ofNat B)), .val (.int (Int32.ofNat (B + M))), .val (.int (4 : Int32)), .val (.int ((((0 : Int32) + (1 : Int32)) + (1 : Int32)) + (1 : Int32)))] [(.int ((((0 : Int32) + (1 : Int32)) + (1 : Int32)) + (1 : Int32))), (.int (Int32.ofNat A)), (.ref t1)])) _
                refine XS.iadd X0.here hx rfl (hb hby d3_31) rfl ?_
                show Steps p.tables e below (s₁.setTop (mkF m 32 #[.val (.ref t1), .val (.int (Int32.ofNat A)), .val (.int (Int32.ofNat (A + 4))), .val (.ref t2), .val (.int (Int32.ofNat B)), .val (.int (Int32.ofNat (B + M))), .val (.int (4 : Int32)), .val (.int ((((0 : Int32) + (1 : Int32)) + (1 : Int32)) + (1 : Int32)))] [(.int ((Int32.ofNat A) + ((((0 : Int32) + (1 : Int32)) + (1 : Int32)) + (1 : Int32)))), (.ref t1)])) _
                refine X0.baloadBytes hx (j := ((Int32.ofNat A) + ((((0 : Int32) + (1 : Int32)) + (1 : Int32)) + (1 : Int32)))) (v := (.int (f (A + 3)))) (by rw [e0]; exact Ar24.1) (State.isArrayOf_alike hZ.alike Ar24.2.1) Ar24.2.2 hin24 hat24 (g := (mkF m 32 #[.val (.ref t1), .val (.int (Int32.ofNat A)), .val (.int (Int32.ofNat (A + 4))), .val (.ref t2), .val (.int (Int32.ofNat B)), .val (.int (Int32.ofNat (B + M))), .val (.int (4 : Int32)), .val (.int ((((0 : Int32) + (1 : Int32)) + (1 : Int32)) + (1 : Int32)))] [(.int ((Int32.ofNat A) + ((((0 : Int32) + (1 : Int32)) + (1 : Int32)) + (1 : Int32)))), (.ref t1)])) rfl rfl (hb hby d3_32) _ ?_
                show Steps p.tables e below (s₁.setTop (mkF m 33 #[.val (.ref t1), .val (.int (Int32.ofNat A)), .val (.int (Int32.ofNat (A + 4))), .val (.ref t2), .val (.int (Int32.ofNat B)), .val (.int (Int32.ofNat (B + M))), .val (.int (4 : Int32)), .val (.int ((((0 : Int32) + (1 : Int32)) + (1 : Int32)) + (1 : Int32)))] [(.int (f (A + 3)))])) _
                refine XS.aloadN X0.here hx rfl (hb hby d3_33) rfl rfl ?_
                show Steps p.tables e below (s₁.setTop (mkF m 34 #[.val (.ref t1), .val (.int (Int32.ofNat A)), .val (.int (Int32.ofNat (A + 4))), .val (.ref t2), .val (.int (Int32.ofNat B)), .val (.int (Int32.ofNat (B + M))), .val (.int (4 : Int32)), .val (.int ((((0 : Int32) + (1 : Int32)) + (1 : Int32)) + (1 : Int32)))] [(.ref t2), (.int (f (A + 3)))])) _
                refine XS.iload X0.here hx rfl (hb hby d3_34) rfl ?_
                show Steps p.tables e below (s₁.setTop (mkF m 36 #[.val (.ref t1), .val (.int (Int32.ofNat A)), .val (.int (Int32.ofNat (A + 4))), .val (.ref t2), .val (.int (Int32.ofNat B)), .val (.int (Int32.ofNat (B + M))), .val (.int (4 : Int32)), .val (.int ((((0 : Int32) + (1 : Int32)) + (1 : Int32)) + (1 : Int32)))] [(.int (Int32.ofNat B)), (.ref t2), (.int (f (A + 3)))])) _
                refine XS.iload X0.here hx rfl (hb hby d3_36) rfl ?_
                show Steps p.tables e below (s₁.setTop (mkF m 38 #[.val (.ref t1), .val (.int (Int32.ofNat A)), .val (.int (Int32.ofNat (A + 4))), .val (.ref t2), .val (.int (Int32.ofNat B)), .val (.int (Int32.ofNat (B + M))), .val (.int (4 : Int32)), .val (.int ((((0 : Int32) + (1 : Int32)) + (1 : Int32)) + (1 : Int32)))] [(.int ((((0 : Int32) + (1 : Int32)) + (1 : Int32)) + (1 : Int32))), (.int (Int32.ofNat B)), (.ref t2), (.int (f (A + 3)))])) _
                refine XS.iadd X0.here hx rfl (hb hby d3_38) rfl ?_
                show Steps p.tables e below (s₁.setTop (mkF m 39 #[.val (.ref t1), .val (.int (Int32.ofNat A)), .val (.int (Int32.ofNat (A + 4))), .val (.ref t2), .val (.int (Int32.ofNat B)), .val (.int (Int32.ofNat (B + M))), .val (.int (4 : Int32)), .val (.int ((((0 : Int32) + (1 : Int32)) + (1 : Int32)) + (1 : Int32)))] [(.int ((Int32.ofNat B) + ((((0 : Int32) + (1 : Int32)) + (1 : Int32)) + (1 : Int32)))), (.ref t2), (.int (f (A + 3)))])) _
                refine X0.baloadBytes hx (j := ((Int32.ofNat B) + ((((0 : Int32) + (1 : Int32)) + (1 : Int32)) + (1 : Int32)))) (v := (.int (g (B + 3)))) (by rw [e0]; exact Ar25.1) (State.isArrayOf_alike hZ.alike Ar25.2.1) Ar25.2.2 hin25 hat25 (g := (mkF m 39 #[.val (.ref t1), .val (.int (Int32.ofNat A)), .val (.int (Int32.ofNat (A + 4))), .val (.ref t2), .val (.int (Int32.ofNat B)), .val (.int (Int32.ofNat (B + M))), .val (.int (4 : Int32)), .val (.int ((((0 : Int32) + (1 : Int32)) + (1 : Int32)) + (1 : Int32)))] [(.int ((Int32.ofNat B) + ((((0 : Int32) + (1 : Int32)) + (1 : Int32)) + (1 : Int32)))), (.ref t2), (.int (f (A + 3)))])) rfl rfl (hb hby d3_39) _ ?_
                show Steps p.tables e below (s₁.setTop (mkF m 40 #[.val (.ref t1), .val (.int (Int32.ofNat A)), .val (.int (Int32.ofNat (A + 4))), .val (.ref t2), .val (.int (Int32.ofNat B)), .val (.int (Int32.ofNat (B + M))), .val (.int (4 : Int32)), .val (.int ((((0 : Int32) + (1 : Int32)) + (1 : Int32)) + (1 : Int32)))] [(.int (g (B + 3))), (.int (f (A + 3)))])) _
                refine XS.icmpYes X0.here hx rfl (pc0 := 40) (pc' := 45) rfl (hb hby d3_40) rfl (teq hc40_4).1 (by decide) (by decide) ?_
                show Steps p.tables e below (s₁.setTop (mkF m 45 #[.val (.ref t1), .val (.int (Int32.ofNat A)), .val (.int (Int32.ofNat (A + 4))), .val (.ref t2), .val (.int (Int32.ofNat B)), .val (.int (Int32.ofNat (B + M))), .val (.int (4 : Int32)), .val (.int ((((0 : Int32) + (1 : Int32)) + (1 : Int32)) + (1 : Int32)))] [])) _
                refine XS.iinc X0.here hx rfl (hb hby d3_45) rfl (l' := #[.val (.ref t1), .val (.int (Int32.ofNat A)), .val (.int (Int32.ofNat (A + 4))), .val (.ref t2), .val (.int (Int32.ofNat B)), .val (.int (Int32.ofNat (B + M))), .val (.int (4 : Int32)), .val (.int (((((0 : Int32) + (1 : Int32)) + (1 : Int32)) + (1 : Int32)) + (1 : Int32)))]) rfl ?_
                show Steps p.tables e below (s₁.setTop (mkF m 48 #[.val (.ref t1), .val (.int (Int32.ofNat A)), .val (.int (Int32.ofNat (A + 4))), .val (.ref t2), .val (.int (Int32.ofNat B)), .val (.int (Int32.ofNat (B + M))), .val (.int (4 : Int32)), .val (.int (((((0 : Int32) + (1 : Int32)) + (1 : Int32)) + (1 : Int32)) + (1 : Int32)))] [])) _
                refine XS.goto X0.here hx rfl (pc0 := 48) (pc' := 20) rfl (hb hby d3_48) (by decide) (by decide) ?_
                show Steps p.tables e below (s₁.setTop (mkF m 20 #[.val (.ref t1), .val (.int (Int32.ofNat A)), .val (.int (Int32.ofNat (A + 4))), .val (.ref t2), .val (.int (Int32.ofNat B)), .val (.int (Int32.ofNat (B + M))), .val (.int (4 : Int32)), .val (.int (((((0 : Int32) + (1 : Int32)) + (1 : Int32)) + (1 : Int32)) + (1 : Int32)))] [])) _
                refine XS.iload X0.here hx rfl (hb hby d3_20) rfl ?_
                show Steps p.tables e below (s₁.setTop (mkF m 22 #[.val (.ref t1), .val (.int (Int32.ofNat A)), .val (.int (Int32.ofNat (A + 4))), .val (.ref t2), .val (.int (Int32.ofNat B)), .val (.int (Int32.ofNat (B + M))), .val (.int (4 : Int32)), .val (.int (((((0 : Int32) + (1 : Int32)) + (1 : Int32)) + (1 : Int32)) + (1 : Int32)))] [(.int (((((0 : Int32) + (1 : Int32)) + (1 : Int32)) + (1 : Int32)) + (1 : Int32)))])) _
                refine XS.iload X0.here hx rfl (hb hby d3_22) rfl ?_
                show Steps p.tables e below (s₁.setTop (mkF m 24 #[.val (.ref t1), .val (.int (Int32.ofNat A)), .val (.int (Int32.ofNat (A + 4))), .val (.ref t2), .val (.int (Int32.ofNat B)), .val (.int (Int32.ofNat (B + M))), .val (.int (4 : Int32)), .val (.int (((((0 : Int32) + (1 : Int32)) + (1 : Int32)) + (1 : Int32)) + (1 : Int32)))] [(.int (4 : Int32)), (.int (((((0 : Int32) + (1 : Int32)) + (1 : Int32)) + (1 : Int32)) + (1 : Int32)))])) _
                refine XS.icmpYes X0.here hx rfl (pc0 := 24) (pc' := 51) rfl (hb hby d3_24) rfl (by decide) (by decide) (by decide) ?_
                show Steps p.tables e below (s₁.setTop (mkF m 51 #[.val (.ref t1), .val (.int (Int32.ofNat A)), .val (.int (Int32.ofNat (A + 4))), .val (.ref t2), .val (.int (Int32.ofNat B)), .val (.int (Int32.ofNat (B + M))), .val (.int (4 : Int32)), .val (.int (((((0 : Int32) + (1 : Int32)) + (1 : Int32)) + (1 : Int32)) + (1 : Int32)))] [])) _
                refine XS.iconst X0.here hx rfl (hb hby d3_51) ?_
                show Steps p.tables e below (s₁.setTop (mkF m 52 #[.val (.ref t1), .val (.int (Int32.ofNat A)), .val (.int (Int32.ofNat (A + 4))), .val (.ref t2), .val (.int (Int32.ofNat B)), .val (.int (Int32.ofNat (B + M))), .val (.int (4 : Int32)), .val (.int (((((0 : Int32) + (1 : Int32)) + (1 : Int32)) + (1 : Int32)) + (1 : Int32)))] [(.int (1 : Int32))])) _
                exact retN X0 hx (t := .boolean) Bd.returns (by simp) (hb hby d3_52) hr
              · show Q3 Z t1 t2 A B 4 M f g h0 n0 _ s₁.heap _
                rw [e0]
                exact ⟨_, rfl, N0, rfl, Or.inl ⟨rfl, (own_inj (i := 4) (by omega) (by omega)).mp hc12, own_all4 hc40 hc40_2 hc40_3 hc40_4⟩⟩
            · obtain ⟨fs, hr, hrun, hended, hW, hsame⟩ := X0.leave (v := some (.int (0 : Int32))) (fun h => by rw [Bd.returns] at h; cases h)
              refine ⟨_, _, pre0 _ ?_, hrun, hended, _, _, rfl, ?_, ⟨_, rfl⟩, hW, hsame.mono (by decide) (by decide)⟩
              · show Steps p.tables e below (s₁.setTop (mkF m 0 #[.val (.ref t1), .val (.int (Int32.ofNat A)), .val (.int (Int32.ofNat (A + 4))), .val (.ref t2), .val (.int (Int32.ofNat B)), .val (.int (Int32.ofNat (B + M))), .unset, .unset] [])) _
                refine seg17 _ ?_
                show Steps p.tables e below (s₁.setTop (mkF m 12 #[.val (.ref t1), .val (.int (Int32.ofNat A)), .val (.int (Int32.ofNat (A + 4))), .val (.ref t2), .val (.int (Int32.ofNat B)), .val (.int (Int32.ofNat (B + M))), .val (.int (4 : Int32)), .unset] [(.int (Int32.ofNat M)), (.int (4 : Int32))])) _
                refine XS.icmpYes X0.here hx rfl (pc0 := 12) (pc' := 17) rfl (hb hby d3_12) rfl (teq hc12).1 (by decide) (by decide) ?_
                show Steps p.tables e below (s₁.setTop (mkF m 17 #[.val (.ref t1), .val (.int (Int32.ofNat A)), .val (.int (Int32.ofNat (A + 4))), .val (.ref t2), .val (.int (Int32.ofNat B)), .val (.int (Int32.ofNat (B + M))), .val (.int (4 : Int32)), .unset] [])) _
                refine XS.iconst X0.here hx rfl (hb hby d3_17) ?_
                show Steps p.tables e below (s₁.setTop (mkF m 18 #[.val (.ref t1), .val (.int (Int32.ofNat A)), .val (.int (Int32.ofNat (A + 4))), .val (.ref t2), .val (.int (Int32.ofNat B)), .val (.int (Int32.ofNat (B + M))), .val (.int (4 : Int32)), .unset] [(.int (0 : Int32))])) _
                refine XS.istore X0.here hx rfl (hb hby d3_18) rfl (l' := #[.val (.ref t1), .val (.int (Int32.ofNat A)), .val (.int (Int32.ofNat (A + 4))), .val (.ref t2), .val (.int (Int32.ofNat B)), .val (.int (Int32.ofNat (B + M))), .val (.int (4 : Int32)), .val (.int (0 : Int32))]) rfl ?_
                show Steps p.tables e below (s₁.setTop (mkF m 20 #[.val (.ref t1), .val (.int (Int32.ofNat A)), .val (.int (Int32.ofNat (A + 4))), .val (.ref t2), .val (.int (Int32.ofNat B)), .val (.int (Int32.ofNat (B + M))), .val (.int (4 : Int32)), .val (.int (0 : Int32))] [])) _
                refine XS.iload X0.here hx rfl (hb hby d3_20) rfl ?_
                show Steps p.tables e below (s₁.setTop (mkF m 22 #[.val (.ref t1), .val (.int (Int32.ofNat A)), .val (.int (Int32.ofNat (A + 4))), .val (.ref t2), .val (.int (Int32.ofNat B)), .val (.int (Int32.ofNat (B + M))), .val (.int (4 : Int32)), .val (.int (0 : Int32))] [(.int (0 : Int32))])) _
                refine XS.iload X0.here hx rfl (hb hby d3_22) rfl ?_
                show Steps p.tables e below (s₁.setTop (mkF m 24 #[.val (.ref t1), .val (.int (Int32.ofNat A)), .val (.int (Int32.ofNat (A + 4))), .val (.ref t2), .val (.int (Int32.ofNat B)), .val (.int (Int32.ofNat (B + M))), .val (.int (4 : Int32)), .val (.int (0 : Int32))] [(.int (4 : Int32)), (.int (0 : Int32))])) _
                refine XS.icmpNo X0.here hx rfl (hb hby d3_24) rfl (by decide) ?_
                show Steps p.tables e below (s₁.setTop (mkF m 27 #[.val (.ref t1), .val (.int (Int32.ofNat A)), .val (.int (Int32.ofNat (A + 4))), .val (.ref t2), .val (.int (Int32.ofNat B)), .val (.int (Int32.ofNat (B + M))), .val (.int (4 : Int32)), .val (.int (0 : Int32))] [])) _
                refine XS.aloadN X0.here hx rfl (hb hby d3_27) rfl rfl ?_
                show Steps p.tables e below (s₁.setTop (mkF m 28 #[.val (.ref t1), .val (.int (Int32.ofNat A)), .val (.int (Int32.ofNat (A + 4))), .val (.ref t2), .val (.int (Int32.ofNat B)), .val (.int (Int32.ofNat (B + M))), .val (.int (4 : Int32)), .val (.int (0 : Int32))] [(.ref t1)])) _
                refine XS.iloadN X0.here hx rfl (hb hby d3_28) rfl ?_
                show Steps p.tables e below (s₁.setTop (mkF m 29 #[.val (.ref t1), .val (.int (Int32.ofNat A)), .val (.int (Int32.ofNat (A + 4))), .val (.ref t2), .val (.int (Int32.ofNat B)), .val (.int (Int32.ofNat (B + M))), .val (.int (4 : Int32)), .val (.int (0 : Int32))] [(.int (Int32.ofNat A)), (.ref t1)])) _
                refine XS.iload X0.here hx rfl (hb hby d3_29) rfl ?_
                show Steps p.tables e below (s₁.setTop (mkF m 31 #[.val (.ref t1), .val (.int (Int32.ofNat A)), .val (.int (Int32.ofNat (A + 4))), .val (.ref t2), .val (.int (Int32.ofNat B)), .val (.int (Int32.ofNat (B + M))), .val (.int (4 : Int32)), .val (.int (0 : Int32))] [(.int (0 : Int32)), (.int (Int32.ofNat A)), (.ref t1)])) _
                refine XS.iadd X0.here hx rfl (hb hby d3_31) rfl ?_
                show Steps p.tables e below (s₁.setTop (mkF m 32 #[.val (.ref t1), .val (.int (Int32.ofNat A)), .val (.int (Int32.ofNat (A + 4))), .val (.ref t2), .val (.int (Int32.ofNat B)), .val (.int (Int32.ofNat (B + M))), .val (.int (4 : Int32)), .val (.int (0 : Int32))] [(.int ((Int32.ofNat A) + (0 : Int32))), (.ref t1)])) _
                refine X0.baloadBytes hx (j := ((Int32.ofNat A) + (0 : Int32))) (v := (.int (f (A + 0)))) (by rw [e0]; exact Ar18.1) (State.isArrayOf_alike hZ.alike Ar18.2.1) Ar18.2.2 hin18 hat18 (g := (mkF m 32 #[.val (.ref t1), .val (.int (Int32.ofNat A)), .val (.int (Int32.ofNat (A + 4))), .val (.ref t2), .val (.int (Int32.ofNat B)), .val (.int (Int32.ofNat (B + M))), .val (.int (4 : Int32)), .val (.int (0 : Int32))] [(.int ((Int32.ofNat A) + (0 : Int32))), (.ref t1)])) rfl rfl (hb hby d3_32) _ ?_
                show Steps p.tables e below (s₁.setTop (mkF m 33 #[.val (.ref t1), .val (.int (Int32.ofNat A)), .val (.int (Int32.ofNat (A + 4))), .val (.ref t2), .val (.int (Int32.ofNat B)), .val (.int (Int32.ofNat (B + M))), .val (.int (4 : Int32)), .val (.int (0 : Int32))] [(.int (f (A + 0)))])) _
                refine XS.aloadN X0.here hx rfl (hb hby d3_33) rfl rfl ?_
                show Steps p.tables e below (s₁.setTop (mkF m 34 #[.val (.ref t1), .val (.int (Int32.ofNat A)), .val (.int (Int32.ofNat (A + 4))), .val (.ref t2), .val (.int (Int32.ofNat B)), .val (.int (Int32.ofNat (B + M))), .val (.int (4 : Int32)), .val (.int (0 : Int32))] [(.ref t2), (.int (f (A + 0)))])) _
                refine XS.iload X0.here hx rfl (hb hby d3_34) rfl ?_
                show Steps p.tables e below (s₁.setTop (mkF m 36 #[.val (.ref t1), .val (.int (Int32.ofNat A)), .val (.int (Int32.ofNat (A + 4))), .val (.ref t2), .val (.int (Int32.ofNat B)), .val (.int (Int32.ofNat (B + M))), .val (.int (4 : Int32)), .val (.int (0 : Int32))] [(.int (Int32.ofNat B)), (.ref t2), (.int (f (A + 0)))])) _
                refine XS.iload X0.here hx rfl (hb hby d3_36) rfl ?_
                show Steps p.tables e below (s₁.setTop (mkF m 38 #[.val (.ref t1), .val (.int (Int32.ofNat A)), .val (.int (Int32.ofNat (A + 4))), .val (.ref t2), .val (.int (Int32.ofNat B)), .val (.int (Int32.ofNat (B + M))), .val (.int (4 : Int32)), .val (.int (0 : Int32))] [(.int (0 : Int32)), (.int (Int32.ofNat B)), (.ref t2), (.int (f (A + 0)))])) _
                refine XS.iadd X0.here hx rfl (hb hby d3_38) rfl ?_
                show Steps p.tables e below (s₁.setTop (mkF m 39 #[.val (.ref t1), .val (.int (Int32.ofNat A)), .val (.int (Int32.ofNat (A + 4))), .val (.ref t2), .val (.int (Int32.ofNat B)), .val (.int (Int32.ofNat (B + M))), .val (.int (4 : Int32)), .val (.int (0 : Int32))] [(.int ((Int32.ofNat B) + (0 : Int32))), (.ref t2), (.int (f (A + 0)))])) _
                refine X0.baloadBytes hx (j := ((Int32.ofNat B) + (0 : Int32))) (v := (.int (g (B + 0)))) (by rw [e0]; exact Ar19.1) (State.isArrayOf_alike hZ.alike Ar19.2.1) Ar19.2.2 hin19 hat19 (g := (mkF m 39 #[.val (.ref t1), .val (.int (Int32.ofNat A)), .val (.int (Int32.ofNat (A + 4))), .val (.ref t2), .val (.int (Int32.ofNat B)), .val (.int (Int32.ofNat (B + M))), .val (.int (4 : Int32)), .val (.int (0 : Int32))] [(.int ((Int32.ofNat B) + (0 : Int32))), (.ref t2), (.int (f (A + 0)))])) rfl rfl (hb hby d3_39) _ ?_
                show Steps p.tables e below (s₁.setTop (mkF m 40 #[.val (.ref t1), .val (.int (Int32.ofNat A)), .val (.int (Int32.ofNat (A + 4))), .val (.ref t2), .val (.int (Int32.ofNat B)), .val (.int (Int32.ofNat (B + M))), .val (.int (4 : Int32)), .val (.int (0 : Int32))] [(.int (g (B + 0))), (.int (f (A + 0)))])) _
                refine XS.icmpYes X0.here hx rfl (pc0 := 40) (pc' := 45) rfl (hb hby d3_40) rfl (teq hc40).1 (by decide) (by decide) ?_
                show Steps p.tables e below (s₁.setTop (mkF m 45 #[.val (.ref t1), .val (.int (Int32.ofNat A)), .val (.int (Int32.ofNat (A + 4))), .val (.ref t2), .val (.int (Int32.ofNat B)), .val (.int (Int32.ofNat (B + M))), .val (.int (4 : Int32)), .val (.int (0 : Int32))] [])) _
                refine XS.iinc X0.here hx rfl (hb hby d3_45) rfl (l' := #[.val (.ref t1), .val (.int (Int32.ofNat A)), .val (.int (Int32.ofNat (A + 4))), .val (.ref t2), .val (.int (Int32.ofNat B)), .val (.int (Int32.ofNat (B + M))), .val (.int (4 : Int32)), .val (.int ((0 : Int32) + (1 : Int32)))]) rfl ?_
                show Steps p.tables e below (s₁.setTop (mkF m 48 #[.val (.ref t1), .val (.int (Int32.ofNat A)), .val (.int (Int32.ofNat (A + 4))), .val (.ref t2), .val (.int (Int32.ofNat B)), .val (.int (Int32.ofNat (B + M))), .val (.int (4 : Int32)), .val (.int ((0 : Int32) + (1 : Int32)))] [])) _
                refine XS.goto X0.here hx rfl (pc0 := 48) (pc' := 20) rfl (hb hby d3_48) (by decide) (by decide) ?_
                show Steps p.tables e below (s₁.setTop (mkF m 20 #[.val (.ref t1), .val (.int (Int32.ofNat A)), .val (.int (Int32.ofNat (A + 4))), .val (.ref t2), .val (.int (Int32.ofNat B)), .val (.int (Int32.ofNat (B + M))), .val (.int (4 : Int32)), .val (.int ((0 : Int32) + (1 : Int32)))] [])) _
                refine XS.iload X0.here hx rfl (hb hby d3_20) rfl ?_
                show Steps p.tables e below (s₁.setTop (mkF m 22 #[.val (.ref t1), .val (.int (Int32.ofNat A)), .val (.int (Int32.ofNat (A + 4))), .val (.ref t2), .val (.int (Int32.ofNat B)), .val (.int (Int32.ofNat (B + M))), .val (.int (4 : Int32)), .val (.int ((0 : Int32) + (1 : Int32)))] [(.int ((0 : Int32) + (1 : Int32)))])) _
                refine XS.iload X0.here hx rfl (hb hby d3_22) rfl ?_
                show Steps p.tables e below (s₁.setTop (mkF m 24 #[.val (.ref t1), .val (.int (Int32.ofNat A)), .val (.int (Int32.ofNat (A + 4))), .val (.ref t2), .val (.int (Int32.ofNat B)), .val (.int (Int32.ofNat (B + M))), .val (.int (4 : Int32)), .val (.int ((0 : Int32) + (1 : Int32)))] [(.int (4 : Int32)), (.int ((0 : Int32) + (1 : Int32)))])) _
                refine XS.icmpNo X0.here hx rfl (hb hby d3_24) rfl (by decide) ?_
                show Steps p.tables e below (s₁.setTop (mkF m 27 #[.val (.ref t1), .val (.int (Int32.ofNat A)), .val (.int (Int32.ofNat (A + 4))), .val (.ref t2), .val (.int (Int32.ofNat B)), .val (.int (Int32.ofNat (B + M))), .val (.int (4 : Int32)), .val (.int ((0 : Int32) + (1 : Int32)))] [])) _
                refine XS.aloadN X0.here hx rfl (hb hby d3_27) rfl rfl ?_
                show Steps p.tables e below (s₁.setTop (mkF m 28 #[.val (.ref t1), .val (.int (Int32.ofNat A)), .val (.int (Int32.ofNat (A + 4))), .val (.ref t2), .val (.int (Int32.ofNat B)), .val (.int (Int32.ofNat (B + M))), .val (.int (4 : Int32)), .val (.int ((0 : Int32) + (1 : Int32)))] [(.ref t1)])) _
                refine XS.iloadN X0.here hx rfl (hb hby d3_28) rfl ?_
                show Steps p.tables e below (s₁.setTop (mkF m 29 #[.val (.ref t1), .val (.int (Int32.ofNat A)), .val (.int (Int32.ofNat (A + 4))), .val (.ref t2), .val (.int (Int32.ofNat B)), .val (.int (Int32.ofNat (B + M))), .val (.int (4 : Int32)), .val (.int ((0 : Int32) + (1 : Int32)))] [(.int (Int32.ofNat A)), (.ref t1)])) _
                refine XS.iload X0.here hx rfl (hb hby d3_29) rfl ?_
                show Steps p.tables e below (s₁.setTop (mkF m 31 #[.val (.ref t1), .val (.int (Int32.ofNat A)), .val (.int (Int32.ofNat (A + 4))), .val (.ref t2), .val (.int (Int32.ofNat B)), .val (.int (Int32.ofNat (B + M))), .val (.int (4 : Int32)), .val (.int ((0 : Int32) + (1 : Int32)))] [(.int ((0 : Int32) + (1 : Int32))), (.int (Int32.ofNat A)), (.ref t1)])) _
                refine XS.iadd X0.here hx rfl (hb hby d3_31) rfl ?_
                show Steps p.tables e below (s₁.setTop (mkF m 32 #[.val (.ref t1), .val (.int (Int32.ofNat A)), .val (.int (Int32.ofNat (A + 4))), .val (.ref t2), .val (.int (Int32.ofNat B)), .val (.int (Int32.ofNat (B + M))), .val (.int (4 : Int32)), .val (.int ((0 : Int32) + (1 : Int32)))] [(.int ((Int32.ofNat A) + ((0 : Int32) + (1 : Int32)))), (.ref t1)])) _
                refine X0.baloadBytes hx (j := ((Int32.ofNat A) + ((0 : Int32) + (1 : Int32)))) (v := (.int (f (A + 1)))) (by rw [e0]; exact Ar20.1) (State.isArrayOf_alike hZ.alike Ar20.2.1) Ar20.2.2 hin20 hat20 (g := (mkF m 32 #[.val (.ref t1), .val (.int (Int32.ofNat A)), .val (.int (Int32.ofNat (A + 4))), .val (.ref t2), .val (.int (Int32.ofNat B)), .val (.int (Int32.ofNat (B + M))), .val (.int (4 : Int32)), .val (.int ((0 : Int32) + (1 : Int32)))] [(.int ((Int32.ofNat A) + ((0 : Int32) + (1 : Int32)))), (.ref t1)])) rfl rfl (hb hby d3_32) _ ?_
                show Steps p.tables e below (s₁.setTop (mkF m 33 #[.val (.ref t1), .val (.int (Int32.ofNat A)), .val (.int (Int32.ofNat (A + 4))), .val (.ref t2), .val (.int (Int32.ofNat B)), .val (.int (Int32.ofNat (B + M))), .val (.int (4 : Int32)), .val (.int ((0 : Int32) + (1 : Int32)))] [(.int (f (A + 1)))])) _
                refine XS.aloadN X0.here hx rfl (hb hby d3_33) rfl rfl ?_
                show Steps p.tables e below (s₁.setTop (mkF m 34 #[.val (.ref t1), .val (.int (Int32.ofNat A)), .val (.int (Int32.ofNat (A + 4))), .val (.ref t2), .val (.int (Int32.ofNat B)), .val (.int (Int32.ofNat (B + M))), .val (.int (4 : Int32)), .val (.int ((0 : Int32) + (1 : Int32)))] [(.ref t2), (.int (f (A + 1)))])) _
                refine XS.iload X0.here hx rfl (hb hby d3_34) rfl ?_
                show Steps p.tables e below (s₁.setTop (mkF m 36 #[.val (.ref t1), .val (.int (Int32.ofNat A)), .val (.int (Int32.ofNat (A + 4))), .val (.ref t2), .val (.int (Int32.ofNat B)), .val (.int (Int32.ofNat (B + M))), .val (.int (4 : Int32)), .val (.int ((0 : Int32) + (1 : Int32)))] [(.int (Int32.ofNat B)), (.ref t2), (.int (f (A + 1)))])) _
                refine XS.iload X0.here hx rfl (hb hby d3_36) rfl ?_
                show Steps p.tables e below (s₁.setTop (mkF m 38 #[.val (.ref t1), .val (.int (Int32.ofNat A)), .val (.int (Int32.ofNat (A + 4))), .val (.ref t2), .val (.int (Int32.ofNat B)), .val (.int (Int32.ofNat (B + M))), .val (.int (4 : Int32)), .val (.int ((0 : Int32) + (1 : Int32)))] [(.int ((0 : Int32) + (1 : Int32))), (.int (Int32.ofNat B)), (.ref t2), (.int (f (A + 1)))])) _
                refine XS.iadd X0.here hx rfl (hb hby d3_38) rfl ?_
                show Steps p.tables e below (s₁.setTop (mkF m 39 #[.val (.ref t1), .val (.int (Int32.ofNat A)), .val (.int (Int32.ofNat (A + 4))), .val (.ref t2), .val (.int (Int32.ofNat B)), .val (.int (Int32.ofNat (B + M))), .val (.int (4 : Int32)), .val (.int ((0 : Int32) + (1 : Int32)))] [(.int ((Int32.ofNat B) + ((0 : Int32) + (1 : Int32)))), (.ref t2), (.int (f (A + 1)))])) _
                refine X0.baloadBytes hx (j := ((Int32.ofNat B) + ((0 : Int32) + (1 : Int32)))) (v := (.int (g (B + 1)))) (by rw [e0]; exact Ar21.1) (State.isArrayOf_alike hZ.alike Ar21.2.1) Ar21.2.2 hin21 hat21 (g := (mkF m 39 #[.val (.ref t1), .val (.int (Int32.ofNat A)), .val (.int (Int32.ofNat (A + 4))), .val (.ref t2), .val (.int (Int32.ofNat B)), .val (.int (Int32.ofNat (B + M))), .val (.int (4 : Int32)), .val (.int ((0 : Int32) + (1 : Int32)))] [(.int ((Int32.ofNat B) + ((0 : Int32) + (1 : Int32)))), (.ref t2), (.int (f (A + 1)))])) rfl rfl (hb hby d3_39) _ ?_
                show Steps p.tables e below (s₁.setTop (mkF m 40 #[.val (.ref t1), .val (.int (Int32.ofNat A)), .val (.int (Int32.ofNat (A + 4))), .val (.ref t2), .val (.int (Int32.ofNat B)), .val (.int (Int32.ofNat (B + M))), .val (.int (4 : Int32)), .val (.int ((0 : Int32) + (1 : Int32)))] [(.int (g (B + 1))), (.int (f (A + 1)))])) _
                refine XS.icmpYes X0.here hx rfl (pc0 := 40) (pc' := 45) rfl (hb hby d3_40) rfl (teq hc40_2).1 (by decide) (by decide) ?_
                show Steps p.tables e below (s₁.setTop (mkF m 45 #[.val (.ref t1), .val (.int (Int32.ofNat A)), .val (.int (Int32.ofNat (A + 4))), .val (.ref t2), .val (.int (Int32.ofNat B)), .val (.int (Int32.ofNat (B + M))), .val (.int (4 : Int32)), .val (.int ((0 : Int32) + (1 : Int32)))] [])) _
                refine XS.iinc X0.here hx rfl (hb hby d3_45) rfl (l' := #[.val (.ref t1), .val (.int (Int32.ofNat A)), .val (.int (Int32.ofNat (A + 4))), .val (.ref t2), .val (.int (Int32.ofNat B)), .val (.int (Int32.ofNat (B + M))), .val (.int (4 : Int32)), .val (.int (((0 : Int32) + (1 : Int32)) + (1 : Int32)))]) rfl ?_
                show Steps p.tables e below (s₁.setTop (mkF m 48 #[.val (.ref t1), .val (.int (Int32.ofNat A)), .val (.int (Int32.ofNat (A + 4))), .val (.ref t2), .val (.int (Int32.ofNat B)), .val (.int (Int32.ofNat (B + M))), .val (.int (4 : Int32)), .val (.int (((0 : Int32) + (1 : Int32)) + (1 : Int32)))] [])) _
                refine XS.goto X0.here hx rfl (pc0 := 48) (pc' := 20) rfl (hb hby d3_48) (by decide) (by decide) ?_
                show Steps p.tables e below (s₁.setTop (mkF m 20 #[.val (.ref t1), .val (.int (Int32.ofNat A)), .val (.int (Int32.ofNat (A + 4))), .val (.ref t2), .val (.int (Int32.ofNat B)), .val (.int (Int32.ofNat (B + M))), .val (.int (4 : Int32)), .val (.int (((0 : Int32) + (1 : Int32)) + (1 : Int32)))] [])) _
                refine XS.iload X0.here hx rfl (hb hby d3_20) rfl ?_
                show Steps p.tables e below (s₁.setTop (mkF m 22 #[.val (.ref t1), .val (.int (Int32.ofNat A)), .val (.int (Int32.ofNat (A + 4))), .val (.ref t2), .val (.int (Int32.ofNat B)), .val (.int (Int32.ofNat (B + M))), .val (.int (4 : Int32)), .val (.int (((0 : Int32) + (1 : Int32)) + (1 : Int32)))] [(.int (((0 : Int32) + (1 : Int32)) + (1 : Int32)))])) _
                refine XS.iload X0.here hx rfl (hb hby d3_22) rfl ?_
                show Steps p.tables e below (s₁.setTop (mkF m 24 #[.val (.ref t1), .val (.int (Int32.ofNat A)), .val (.int (Int32.ofNat (A + 4))), .val (.ref t2), .val (.int (Int32.ofNat B)), .val (.int (Int32.ofNat (B + M))), .val (.int (4 : Int32)), .val (.int (((0 : Int32) + (1 : Int32)) + (1 : Int32)))] [(.int (4 : Int32)), (.int (((0 : Int32) + (1 : Int32)) + (1 : Int32)))])) _
                refine XS.icmpNo X0.here hx rfl (hb hby d3_24) rfl (by decide) ?_
                show Steps p.tables e below (s₁.setTop (mkF m 27 #[.val (.ref t1), .val (.int (Int32.ofNat A)), .val (.int (Int32.ofNat (A + 4))), .val (.ref t2), .val (.int (Int32.ofNat B)), .val (.int (Int32.ofNat (B + M))), .val (.int (4 : Int32)), .val (.int (((0 : Int32) + (1 : Int32)) + (1 : Int32)))] [])) _
                refine XS.aloadN X0.here hx rfl (hb hby d3_27) rfl rfl ?_
                show Steps p.tables e below (s₁.setTop (mkF m 28 #[.val (.ref t1), .val (.int (Int32.ofNat A)), .val (.int (Int32.ofNat (A + 4))), .val (.ref t2), .val (.int (Int32.ofNat B)), .val (.int (Int32.ofNat (B + M))), .val (.int (4 : Int32)), .val (.int (((0 : Int32) + (1 : Int32)) + (1 : Int32)))] [(.ref t1)])) _
                refine XS.iloadN X0.here hx rfl (hb hby d3_28) rfl ?_
                show Steps p.tables e below (s₁.setTop (mkF m 29 #[.val (.ref t1), .val (.int (Int32.ofNat A)), .val (.int (Int32.ofNat (A + 4))), .val (.ref t2), .val (.int (Int32.ofNat B)), .val (.int (Int32.ofNat (B + M))), .val (.int (4 : Int32)), .val (.int (((0 : Int32) + (1 : Int32)) + (1 : Int32)))] [(.int (Int32.ofNat A)), (.ref t1)])) _
                refine XS.iload X0.here hx rfl (hb hby d3_29) rfl ?_
                show Steps p.tables e below (s₁.setTop (mkF m 31 #[.val (.ref t1), .val (.int (Int32.ofNat A)), .val (.int (Int32.ofNat (A + 4))), .val (.ref t2), .val (.int (Int32.ofNat B)), .val (.int (Int32.ofNat (B + M))), .val (.int (4 : Int32)), .val (.int (((0 : Int32) + (1 : Int32)) + (1 : Int32)))] [(.int (((0 : Int32) + (1 : Int32)) + (1 : Int32))), (.int (Int32.ofNat A)), (.ref t1)])) _
                refine XS.iadd X0.here hx rfl (hb hby d3_31) rfl ?_
                show Steps p.tables e below (s₁.setTop (mkF m 32 #[.val (.ref t1), .val (.int (Int32.ofNat A)), .val (.int (Int32.ofNat (A + 4))), .val (.ref t2), .val (.int (Int32.ofNat B)), .val (.int (Int32.ofNat (B + M))), .val (.int (4 : Int32)), .val (.int (((0 : Int32) + (1 : Int32)) + (1 : Int32)))] [(.int ((Int32.ofNat A) + (((0 : Int32) + (1 : Int32)) + (1 : Int32)))), (.ref t1)])) _
                refine X0.baloadBytes hx (j := ((Int32.ofNat A) + (((0 : Int32) + (1 : Int32)) + (1 : Int32)))) (v := (.int (f (A + 2)))) (by rw [e0]; exact Ar22.1) (State.isArrayOf_alike hZ.alike Ar22.2.1) Ar22.2.2 hin22 hat22 (g := (mkF m 32 #[.val (.ref t1), .val (.int (Int32.ofNat A)), .val (.int (Int32.ofNat (A + 4))), .val (.ref t2), .val (.int (Int32.ofNat B)), .val (.int (Int32.ofNat (B + M))), .val (.int (4 : Int32)), .val (.int (((0 : Int32) + (1 : Int32)) + (1 : Int32)))] [(.int ((Int32.ofNat A) + (((0 : Int32) + (1 : Int32)) + (1 : Int32)))), (.ref t1)])) rfl rfl (hb hby d3_32) _ ?_
                show Steps p.tables e below (s₁.setTop (mkF m 33 #[.val (.ref t1), .val (.int (Int32.ofNat A)), .val (.int (Int32.ofNat (A + 4))), .val (.ref t2), .val (.int (Int32.ofNat B)), .val (.int (Int32.ofNat (B + M))), .val (.int (4 : Int32)), .val (.int (((0 : Int32) + (1 : Int32)) + (1 : Int32)))] [(.int (f (A + 2)))])) _
                refine XS.aloadN X0.here hx rfl (hb hby d3_33) rfl rfl ?_
                show Steps p.tables e below (s₁.setTop (mkF m 34 #[.val (.ref t1), .val (.int (Int32.ofNat A)), .val (.int (Int32.ofNat (A + 4))), .val (.ref t2), .val (.int (Int32.ofNat B)), .val (.int (Int32.ofNat (B + M))), .val (.int (4 : Int32)), .val (.int (((0 : Int32) + (1 : Int32)) + (1 : Int32)))] [(.ref t2), (.int (f (A + 2)))])) _
                refine XS.iload X0.here hx rfl (hb hby d3_34) rfl ?_
                show Steps p.tables e below (s₁.setTop (mkF m 36 #[.val (.ref t1), .val (.int (Int32.ofNat A)), .val (.int (Int32.ofNat (A + 4))), .val (.ref t2), .val (.int (Int32.ofNat B)), .val (.int (Int32.ofNat (B + M))), .val (.int (4 : Int32)), .val (.int (((0 : Int32) + (1 : Int32)) + (1 : Int32)))] [(.int (Int32.ofNat B)), (.ref t2), (.int (f (A + 2)))])) _
                refine XS.iload X0.here hx rfl (hb hby d3_36) rfl ?_
                show Steps p.tables e below (s₁.setTop (mkF m 38 #[.val (.ref t1), .val (.int (Int32.ofNat A)), .val (.int (Int32.ofNat (A + 4))), .val (.ref t2), .val (.int (Int32.ofNat B)), .val (.int (Int32.ofNat (B + M))), .val (.int (4 : Int32)), .val (.int (((0 : Int32) + (1 : Int32)) + (1 : Int32)))] [(.int (((0 : Int32) + (1 : Int32)) + (1 : Int32))), (.int (Int32.ofNat B)), (.ref t2), (.int (f (A + 2)))])) _
                refine XS.iadd X0.here hx rfl (hb hby d3_38) rfl ?_
                show Steps p.tables e below (s₁.setTop (mkF m 39 #[.val (.ref t1), .val (.int (Int32.ofNat A)), .val (.int (Int32.ofNat (A + 4))), .val (.ref t2), .val (.int (Int32.ofNat B)), .val (.int (Int32.ofNat (B + M))), .val (.int (4 : Int32)), .val (.int (((0 : Int32) + (1 : Int32)) + (1 : Int32)))] [(.int ((Int32.ofNat B) + (((0 : Int32) + (1 : Int32)) + (1 : Int32)))), (.ref t2), (.int (f (A + 2)))])) _
                refine X0.baloadBytes hx (j := ((Int32.ofNat B) + (((0 : Int32) + (1 : Int32)) + (1 : Int32)))) (v := (.int (g (B + 2)))) (by rw [e0]; exact Ar23.1) (State.isArrayOf_alike hZ.alike Ar23.2.1) Ar23.2.2 hin23 hat23 (g := (mkF m 39 #[.val (.ref t1), .val (.int (Int32.ofNat A)), .val (.int (Int32.ofNat (A + 4))), .val (.ref t2), .val (.int (Int32.ofNat B)), .val (.int (Int32.ofNat (B + M))), .val (.int (4 : Int32)), .val (.int (((0 : Int32) + (1 : Int32)) + (1 : Int32)))] [(.int ((Int32.ofNat B) + (((0 : Int32) + (1 : Int32)) + (1 : Int32)))), (.ref t2), (.int (f (A + 2)))])) rfl rfl (hb hby d3_39) _ ?_
                show Steps p.tables e below (s₁.setTop (mkF m 40 #[.val (.ref t1), .val (.int (Int32.ofNat A)), .val (.int (Int32.ofNat (A + 4))), .val (.ref t2), .val (.int (Int32.ofNat B)), .val (.int (Int32.ofNat (B + M))), .val (.int (4 : Int32)), .val (.int (((0 : Int32) + (1 : Int32)) + (1 : Int32)))] [(.int (g (B + 2))), (.int (f (A + 2)))])) _
                refine XS.icmpYes X0.here hx rfl (pc0 := 40) (pc' := 45) rfl (hb hby d3_40) rfl (teq hc40_3).1 (by decide) (by decide) ?_
                show Steps p.tables e below (s₁.setTop (mkF m 45 #[.val (.ref t1), .val (.int (Int32.ofNat A)), .val (.int (Int32.ofNat (A + 4))), .val (.ref t2), .val (.int (Int32.ofNat B)), .val (.int (Int32.ofNat (B + M))), .val (.int (4 : Int32)), .val (.int (((0 : Int32) + (1 : Int32)) + (1 : Int32)))] [])) _
                refine XS.iinc X0.here hx rfl (hb hby d3_45) rfl (l' := #[.val (.ref t1), .val (.int (Int32.ofNat A)), .val (.int (Int32.ofNat (A + 4))), .val (.ref t2), .val (.int (Int32.ofNat B)), .val (.int (Int32.ofNat (B + M))), .val (.int (4 : Int32)), .val (.int ((((0 : Int32) + (1 : Int32)) + (1 : Int32)) + (1 : Int32)))]) rfl ?_
                show Steps p.tables e below (s₁.setTop (mkF m 48 #[.val (.ref t1), .val (.int (Int32.ofNat A)), .val (.int (Int32.ofNat (A + 4))), .val (.ref t2), .val (.int (Int32.ofNat B)), .val (.int (Int32.ofNat (B + M))), .val (.int (4 : Int32)), .val (.int ((((0 : Int32) + (1 : Int32)) + (1 : Int32)) + (1 : Int32)))] [])) _
                refine XS.goto X0.here hx rfl (pc0 := 48) (pc' := 20) rfl (hb hby d3_48) (by decide) (by decide) ?_
                show Steps p.tables e below (s₁.setTop (mkF m 20 #[.val (.ref t1), .val (.int (Int32.ofNat A)), .val (.int (Int32.ofNat (A + 4))), .val (.ref t2), .val (.int (Int32.ofNat B)), .val (.int (Int32.ofNat (B + M))), .val (.int (4 : Int32)), .val (.int ((((0 : Int32) + (1 : Int32)) + (1 : Int32)) + (1 : Int32)))] [])) _
                refine XS.iload X0.here hx rfl (hb hby d3_20) rfl ?_
                show Steps p.tables e below (s₁.setTop (mkF m 22 #[.val (.ref t1), .val (.int (Int32.ofNat A)), .val (.int (Int32.ofNat (A + 4))), .val (.ref t2), .val (.int (Int32.ofNat B)), .val (.int (Int32.ofNat (B + M))), .val (.int (4 : Int32)), .val (.int ((((0 : Int32) + (1 : Int32)) + (1 : Int32)) + (1 : Int32)))] [(.int ((((0 : Int32) + (1 : Int32)) + (1 : Int32)) + (1 : Int32)))])) _
                refine XS.iload X0.here hx rfl (hb hby d3_22) rfl ?_
                show Steps p.tables e below (s₁.setTop (mkF m 24 #[.val (.ref t1), .val (.int (Int32.ofNat A)), .val (.int (Int32.ofNat (A + 4))), .val (.ref t2), .val (.int (Int32.ofNat B)), .val (.int (Int32.ofNat (B + M))), .val (.int (4 : Int32)), .val (.int ((((0 : Int32) + (1 : Int32)) + (1 : Int32)) + (1 : Int32)))] [(.int (4 : Int32)), (.int ((((0 : Int32) + (1 : Int32)) + (1 : Int32)) + (1 : Int32)))])) _
                refine XS.icmpNo X0.here hx rfl (hb hby d3_24) rfl (by decide) ?_
                show Steps p.tables e below (s₁.setTop (mkF m 27 #[.val (.ref t1), .val (.int (Int32.ofNat A)), .val (.int (Int32.ofNat (A + 4))), .val (.ref t2), .val (.int (Int32.ofNat B)), .val (.int (Int32.ofNat (B + M))), .val (.int (4 : Int32)), .val (.int ((((0 : Int32) + (1 : Int32)) + (1 : Int32)) + (1 : Int32)))] [])) _
                refine XS.aloadN X0.here hx rfl (hb hby d3_27) rfl rfl ?_
                show Steps p.tables e below (s₁.setTop (mkF m 28 #[.val (.ref t1), .val (.int (Int32.ofNat A)), .val (.int (Int32.ofNat (A + 4))), .val (.ref t2), .val (.int (Int32.ofNat B)), .val (.int (Int32.ofNat (B + M))), .val (.int (4 : Int32)), .val (.int ((((0 : Int32) + (1 : Int32)) + (1 : Int32)) + (1 : Int32)))] [(.ref t1)])) _
                refine XS.iloadN X0.here hx rfl (hb hby d3_28) rfl ?_
                show Steps p.tables e below (s₁.setTop (mkF m 29 #[.val (.ref t1), .val (.int (Int32.ofNat A)), .val (.int (Int32.ofNat (A + 4))), .val (.ref t2), .val (.int (Int32.ofNat B)), .val (.int (Int32.ofNat (B + M))), .val (.int (4 : Int32)), .val (.int ((((0 : Int32) + (1 : Int32)) + (1 : Int32)) + (1 : Int32)))] [(.int (Int32.ofNat A)), (.ref t1)])) _
                refine XS.iload X0.here hx rfl (hb hby d3_29) rfl ?_
                show Steps p.tables e below (s₁.setTop (mkF m 31 #[.val (.ref t1), .val (.int (Int32.ofNat A)), .val (.int (Int32.ofNat (A + 4))), .val (.ref t2), .val (.int (Int32.ofNat B)), .val (.int (Int32.ofNat (B + M))), .val (.int (4 : Int32)), .val (.int ((((0 : Int32) + (1 : Int32)) + (1 : Int32)) + (1 : Int32)))] [(.int ((((0 : Int32) + (1 : Int32)) + (1 : Int32)) + (1 : Int32))), (.int (Int32.ofNat A)), (.ref t1)])) _
                refine XS.iadd X0.here hx rfl (hb hby d3_31) rfl ?_
                show Steps p.tables e below (s₁.setTop (mkF m 32 #[.val (.ref t1), .val (.int (Int32.ofNat A)), .val (.int (Int32.ofNat (A + 4))), .val (.ref t2), .val (.int (Int32.ofNat B)), .val (.int (Int32.ofNat (B + M))), .val (.int (4 : Int32)), .val (.int ((((0 : Int32) + (1 : Int32)) + (1 : Int32)) + (1 : Int32)))] [(.int ((Int32.ofNat A) + ((((0 : Int32) + (1 : Int32)) + (1 : Int32)) + (1 : Int32)))), (.ref t1)])) _
                refine X0.baloadBytes hx (j := ((Int32.ofNat A) + ((((0 : Int32) + (1 : Int32)) + (1 : Int32)) + (1 : Int32)))) (v := (.int (f (A + 3)))) (by rw [e0]; exact Ar24.1) (State.isArrayOf_alike hZ.alike Ar24.2.1) Ar24.2.2 hin24 hat24 (g := (mkF m 32 #[.val (.ref t1), .val (.int (Int32.ofNat A)), .val (.int (Int32.ofNat (A + 4))), .val (.ref t2), .val (.int (Int32.ofNat B)), .val (.int (Int32.ofNat (B + M))), .val (.int (4 : Int32)), .val (.int ((((0 : Int32) + (1 : Int32)) + (1 : Int32)) + (1 : Int32)))] [(.int ((Int32.ofNat A) + ((((0 : Int32) + (1 : Int32)) + (1 : Int32)) + (1 : Int32)))), (.ref t1)])) rfl rfl (hb hby d3_32) _ ?_
                show Steps p.tables e below (s₁.setTop (mkF m 33 #[.val (.ref t1), .val (.int (Int32.ofNat A)), .val (.int (Int32.ofNat (A + 4))), .val (.ref t2), .val (.int (Int32.ofNat B)), .val (.int (Int32.ofNat (B + M))), .val (.int (4 : Int32)), .val (.int ((((0 : Int32) + (1 : Int32)) + (1 : Int32)) + (1 : Int32)))] [(.int (f (A + 3)))])) _
                refine XS.aloadN X0.here hx rfl (hb hby d3_33) rfl rfl ?_
                show Steps p.tables e below (s₁.setTop (mkF m 34 #[.val (.ref t1), .val (.int (Int32.ofNat A)), .val (.int (Int32.ofNat (A + 4))), .val (.ref t2), .val (.int (Int32.ofNat B)), .val (.int (Int32.ofNat (B + M))), .val (.int (4 : Int32)), .val (.int ((((0 : Int32) + (1 : Int32)) + (1 : Int32)) + (1 : Int32)))] [(.ref t2), (.int (f (A + 3)))])) _
                refine XS.iload X0.here hx rfl (hb hby d3_34) rfl ?_
                show Steps p.tables e below (s₁.setTop (mkF m 36 #[.val (.ref t1), .val (.int (Int32.ofNat A)), .val (.int (Int32.ofNat (A + 4))), .val (.ref t2), .val (.int (Int32.ofNat B)), .val (.int (Int32.ofNat (B + M))), .val (.int (4 : Int32)), .val (.int ((((0 : Int32) + (1 : Int32)) + (1 : Int32)) + (1 : Int32)))] [(.int (Int32.ofNat B)), (.ref t2), (.int (f (A + 3)))])) _
                refine XS.iload X0.here hx rfl (hb hby d3_36) rfl ?_
                show Steps p.tables e below (s₁.setTop (mkF m 38 #[.val (.ref t1), .val (.int (Int32.ofNat A)), .val (.int (Int32.ofNat (A + 4))), .val (.ref t2), .val (.int (Int32.ofNat B)), .val (.int (Int32.ofNat (B + M))), .val (.int (4 : Int32)), .val (.int ((((0 : Int32) + (1 : Int32)) + (1 : Int32)) + (1 : Int32)))] [(.int ((((0 : Int32) + (1 : Int32)) + (1 : Int32)) + (1 : Int32))), (.int (Int32.ofNat B)), (.ref t2), (.int (f (A + 3)))])) _
                refine XS.iadd X0.here hx rfl (hb hby d3_38) rfl ?_
                show Steps p.tables e below (s₁.setTop (mkF m 39 #[.val (.ref t1), .val (.int (Int32.ofNat A)), .val (.int (Int32.ofNat (A + 4))), .val (.ref t2), .val (.int (Int32.ofNat B)), .val (.int (Int32.ofNat (B + M))), .val (.int (4 : Int32)), .val (.int ((((0 : Int32) + (1 : Int32)) + (1 : Int32)) + (1 : Int32)))] [(.int ((Int32.ofNat B) + ((((0 : Int32) + (1 : Int32)) + (1 : Int32)) + (1 : Int32)))), (.ref t2), (.int (f (A + 3)))])) _
                refine X0.baloadBytes hx (j := ((Int32.ofNat B) + ((((0 : Int32) + (1 : Int32)) + (1 : Int32)) + (1 : Int32)))) (v := (.int (g (B + 3)))) (by rw [e0]; exact Ar25.1) (State.isArrayOf_alike hZ.alike Ar25.2.1) Ar25.2.2 hin25 hat25 (g := (mkF m 39 #[.val (.ref t1), .val (.int (Int32.ofNat A)), .val (.int (Int32.ofNat (A + 4))), .val (.ref t2), .val (.int (Int32.ofNat B)), .val (.int (Int32.ofNat (B + M))), .val (.int (4 : Int32)), .val (.int ((((0 : Int32) + (1 : Int32)) + (1 : Int32)) + (1 : Int32)))] [(.int ((Int32.ofNat B) + ((((0 : Int32) + (1 : Int32)) + (1 : Int32)) + (1 : Int32)))), (.ref t2), (.int (f (A + 3)))])) rfl rfl (hb hby d3_39) _ ?_
                show Steps p.tables e below (s₁.setTop (mkF m 40 #[.val (.ref t1), .val (.int (Int32.ofNat A)), .val (.int (Int32.ofNat (A + 4))), .val (.ref t2), .val (.int (Int32.ofNat B)), .val (.int (Int32.ofNat (B + M))), .val (.int (4 : Int32)), .val (.int ((((0 : Int32) + (1 : Int32)) + (1 : Int32)) + (1 : Int32)))] [(.int (g (B + 3))), (.int (f (A + 3)))])) _
                refine XS.icmpNo X0.here hx rfl (hb hby d3_40) rfl (feq hc40_4).1 ?_
                show Steps p.tables e below (s₁.setTop (mkF m 43 #[.val (.ref t1), .val (.int (Int32.ofNat A)), .val (.int (Int32.ofNat (A + 4))), .val (.ref t2), .val (.int (Int32.ofNat B)), .val (.int (Int32.ofNat (B + M))), .val (.int (4 : Int32)), .val (.int ((((0 : Int32) + (1 : Int32)) + (1 : Int32)) + (1 : Int32)))] [])) _
                refine XS.iconst X0.here hx rfl (hb hby d3_43) ?_
                show Steps p.tables e below (s₁.setTop (mkF m 44 #[.val (.ref t1), .val (.int (Int32.ofNat A)), .val (.int (Int32.ofNat (A + 4))), .val (.ref t2), .val (.int (Int32.ofNat B)), .val (.int (Int32.ofNat (B + M))), .val (.int (4 : Int32)), .val (.int ((((0 : Int32) + (1 : Int32)) + (1 : Int32)) + (1 : Int32)))] [(.int (0 : Int32))])) _
                exact retN X0 hx (t := .boolean) Bd.returns (by simp) (hb hby d3_44) hr
              · show Q3 Z t1 t2 A B 4 M f g h0 n0 _ s₁.heap _
                rw [e0]
                exact ⟨_, rfl, N0, rfl, Or.inr ⟨rfl, fun q => hc40_4 (q.2 3 (by omega))⟩⟩
          · obtain ⟨fs, hr, hrun, hended, hW, hsame⟩ := X0.leave (v := some (.int (0 : Int32))) (fun h => by rw [Bd.returns] at h; cases h)
            refine ⟨_, _, pre0 _ ?_, hrun, hended, _, _, rfl, ?_, ⟨_, rfl⟩, hW, hsame.mono (by decide) (by decide)⟩
            · show Steps p.tables e below (s₁.setTop (mkF m 0 #[.val (.ref t1), .val (.int (Int32.ofNat A)), .val (.int (Int32.ofNat (A + 4))), .val (.ref t2), .val (.int (Int32.ofNat B)), .val (.int (Int32.ofNat (B + M))), .unset, .unset] [])) _
              refine seg17 _ ?_
              show Steps p.tables e below (s₁.setTop (mkF m 12 #[.val (.ref t1), .val (.int (Int32.ofNat A)), .val (.int (Int32.ofNat (A + 4))), .val (.ref t2), .val (.int (Int32.ofNat B)), .val (.int (Int32.ofNat (B + M))), .val (.int (4 : Int32)), .unset] [(.int (Int32.ofNat M)), (.int (4 : Int32))])) _
              refine XS.icmpYes X0.here hx rfl (pc0 := 12) (pc' := 17) rfl (hb hby d3_12) rfl (teq hc12).1 (by decide) (by decide) ?_
              show Steps p.tables e below (s₁.setTop (mkF m 17 #[.val (.ref t1), .val (.int (Int32.ofNat A)), .val (.int (Int32.ofNat (A + 4))), .val (.ref t2), .val (.int (Int32.ofNat B)), .val (.int (Int32.ofNat (B + M))), .val (.int (4 : Int32)), .unset] [])) _
              refine XS.iconst X0.here hx rfl (hb hby d3_17) ?_
              show Steps p.tables e below (s₁.setTop (mkF m 18 #[.val (.ref t1), .val (.int (Int32.ofNat A)), .val (.int (Int32.ofNat (A + 4))), .val (.ref t2), .val (.int (Int32.ofNat B)), .val (.int (Int32.ofNat (B + M))), .val (.int (4 : Int32)), .unset] [(.int (0 : Int32))])) _
              refine XS.istore X0.here hx rfl (hb hby d3_18) rfl (l' := #[.val (.ref t1), .val (.int (Int32.ofNat A)), .val (.int (Int32.ofNat (A + 4))), .val (.ref t2), .val (.int (Int32.ofNat B)), .val (.int (Int32.ofNat (B + M))), .val (.int (4 : Int32)), .val (.int (0 : Int32))]) rfl ?_
              show Steps p.tables e below (s₁.setTop (mkF m 20 #[.val (.ref t1), .val (.int (Int32.ofNat A)), .val (.int (Int32.ofNat (A + 4))), .val (.ref t2), .val (.int (Int32.ofNat B)), .val (.int (Int32.ofNat (B + M))), .val (.int (4 : Int32)), .val (.int (0 : Int32))] [])) _
              refine XS.iload X0.here hx rfl (hb hby d3_20) rfl ?_
              show Steps p.tables e below (s₁.setTop (mkF m 22 #[.val (.ref t1), .val (.int (Int32.ofNat A)), .val (.int (Int32.ofNat (A + 4))), .val (.ref t2), .val (.int (Int32.ofNat B)), .val (.int (Int32.ofNat (B + M))), .val (.int (4 : Int32)), .val (.int (0 : Int32))] [(.int (0 : Int32))])) _
              refine XS.iload X0.here hx rfl (hb hby d3_22) rfl ?_
              show Steps p.tables e below (s₁.setTop (mkF m 24 #[.val (.ref t1), .val (.int (Int32.ofNat A)), .val (.int (Int32.ofNat (A + 4))), .val (.ref t2), .val (.int (Int32.ofNat B)), .val (.int (Int32.ofNat (B + M))), .val (.int (4 : Int32)), .val (.int (0 : Int32))] [(.int (4 : Int32)), (.int (0 : Int32))])) _
              refine XS.icmpNo X0.here hx rfl (hb hby d3_24) rfl (by decide) ?_
              show Steps p.tables e below (s₁.setTop (mkF m 27 #[.val (.ref t1), .val (.int (Int32.ofNat A)), .val (.int (Int32.ofNat (A + 4))), .val (.ref t2), .val (.int (Int32.ofNat B)), .val (.int (Int32.ofNat (B + M))), .val (.int (4 : Int32)), .val (.int (0 : Int32))] [])) _
              refine XS.aloadN X0.here hx rfl (hb hby d3_27) rfl rfl ?_
              show Steps p.tables e below (s₁.setTop (mkF m 28 #[.val (.ref t1), .val (.int (Int32.ofNat A)), .val (.int (Int32.ofNat (A + 4))), .val (.ref t2), .val (.int (Int32.ofNat B)), .val (.int (Int32.ofNat (B + M))), .val (.int (4 : Int32)), .val (.int (0 : Int32))] [(.ref t1)])) _
              refine XS.iloadN X0.here hx rfl (hb hby d3_28) rfl ?_
              show Steps p.tables e below (s₁.setTop (mkF m 29 #[.val (.ref t1), .val (.int (Int32.ofNat A)), .val (.int (Int32.ofNat (A + 4))), .val (.ref t2), .val (.int (Int32.ofNat B)), .val (.int (Int32.ofNat (B + M))), .val (.int (4 : Int32)), .val (.int (0 : Int32))] [(.int (Int32.ofNat A)), (.ref t1)])) _
              refine XS.iload X0.here hx rfl (hb hby d3_29) rfl ?_
              show Steps p.tables e below (s₁.setTop (mkF m 31 #[.val (.ref t1), .val (.int (Int32.ofNat A)), .val (.int (Int32.ofNat (A + 4))), .val (.ref t2), .val (.int (Int32.ofNat B)), .val (.int (Int32.ofNat (B + M))), .val (.int (4 : Int32)), .val (.int (0 : Int32))] [(.int (0 : Int32)), (.int (Int32.ofNat A)), (.ref t1)])) _
              refine XS.iadd X0.here hx rfl (hb hby d3_31) rfl ?_
              show Steps p.tables e below (s₁.setTop (mkF m 32 #[.val (.ref t1), .val (.int (Int32.ofNat A)), .val (.int (Int32.ofNat (A + 4))), .val (.ref t2), .val (.int (Int32.ofNat B)), .val (.int (Int32.ofNat (B + M))), .val (.int (4 : Int32)), .val (.int (0 : Int32))] [(.int ((Int32.ofNat A) + (0 : Int32))), (.ref t1)])) _
              refine X0.baloadBytes hx (j := ((Int32.ofNat A) + (0 : Int32))) (v := (.int (f (A + 0)))) (by rw [e0]; exact Ar18.1) (State.isArrayOf_alike hZ.alike Ar18.2.1) Ar18.2.2 hin18 hat18 (g := (mkF m 32 #[.val (.ref t1), .val (.int (Int32.ofNat A)), .val (.int (Int32.ofNat (A + 4))), .val (.ref t2), .val (.int (Int32.ofNat B)), .val (.int (Int32.ofNat (B + M))), .val (.int (4 : Int32)), .val (.int (0 : Int32))] [(.int ((Int32.ofNat A) + (0 : Int32))), (.ref t1)])) rfl rfl (hb hby d3_32) _ ?_
              show Steps p.tables e below (s₁.setTop (mkF m 33 #[.val (.ref t1), .val (.int (Int32.ofNat A)), .val (.int (Int32.ofNat (A + 4))), .val (.ref t2), .val (.int (Int32.ofNat B)), .val (.int (Int32.ofNat (B + M))), .val (.int (4 : Int32)), .val (.int (0 : Int32))] [(.int (f (A + 0)))])) _
              refine XS.aloadN X0.here hx rfl (hb hby d3_33) rfl rfl ?_
              show Steps p.tables e below (s₁.setTop (mkF m 34 #[.val (.ref t1), .val (.int (Int32.ofNat A)), .val (.int (Int32.ofNat (A + 4))), .val (.ref t2), .val (.int (Int32.ofNat B)), .val (.int (Int32.ofNat (B + M))), .val (.int (4 : Int32)), .val (.int (0 : Int32))] [(.ref t2), (.int (f (A + 0)))])) _
              refine XS.iload X0.here hx rfl (hb hby d3_34) rfl ?_
              show Steps p.tables e below (s₁.setTop (mkF m 36 #[.val (.ref t1), .val (.int (Int32.ofNat A)), .val (.int (Int32.ofNat (A + 4))), .val (.ref t2), .val (.int (Int32.ofNat B)), .val (.int (Int32.ofNat (B + M))), .val (.int (4 : Int32)), .val (.int (0 : Int32))] [(.int (Int32.ofNat B)), (.ref t2), (.int (f (A + 0)))])) _
              refine XS.iload X0.here hx rfl (hb hby d3_36) rfl ?_
              show Steps p.tables e below (s₁.setTop (mkF m 38 #[.val (.ref t1), .val (.int (Int32.ofNat A)), .val (.int (Int32.ofNat (A + 4))), .val (.ref t2), .val (.int (Int32.ofNat B)), .val (.int (Int32.ofNat (B + M))), .val (.int (4 : Int32)), .val (.int (0 : Int32))] [(.int (0 : Int32)), (.int (Int32.ofNat B)), (.ref t2), (.int (f (A + 0)))])) _
              refine XS.iadd X0.here hx rfl (hb hby d3_38) rfl ?_
              show Steps p.tables e below (s₁.setTop (mkF m 39 #[.val (.ref t1), .val (.int (Int32.ofNat A)), .val (.int (Int32.ofNat (A + 4))), .val (.ref t2), .val (.int (Int32.ofNat B)), .val (.int (Int32.ofNat (B + M))), .val (.int (4 : Int32)), .val (.int (0 : Int32))] [(.int ((Int32.ofNat B) + (0 : Int32))), (.ref t2), (.int (f (A + 0)))])) _
              refine X0.baloadBytes hx (j := ((Int32.ofNat B) + (0 : Int32))) (v := (.int (g (B + 0)))) (by rw [e0]; exact Ar19.1) (State.isArrayOf_alike hZ.alike Ar19.2.1) Ar19.2.2 hin19 hat19 (g := (mkF m 39 #[.val (.ref t1), .val (.int (Int32.ofNat A)), .val (.int (Int32.ofNat (A + 4))), .val (.ref t2), .val (.int (Int32.ofNat B)), .val (.int (Int32.ofNat (B + M))), .val (.int (4 : Int32)), .val (.int (0 : Int32))] [(.int ((Int32.ofNat B) + (0 : Int32))), (.ref t2), (.int (f (A + 0)))])) rfl rfl (hb hby d3_39) _ ?_
              show Steps p.tables e below (s₁.setTop (mkF m 40 #[.val (.ref t1), .val (.int (Int32.ofNat A)), .val (.int (Int32.ofNat (A + 4))), .val (.ref t2), .val (.int (Int32.ofNat B)), .val (.int (Int32.ofNat (B + M))), .val (.int (4 : Int32)), .val (.int (0 : Int32))] [(.int (g (B + 0))), (.int (f (A + 0)))])) _
              refine XS.icmpYes X0.here hx rfl (pc0 := 40) (pc' := 45) rfl (hb hby d3_40) rfl (teq hc40).1 (by decide) (by decide) ?_
              show Steps p.tables e below (s₁.setTop (mkF m 45 #[.val (.ref t1), .val (.int (Int32.ofNat A)), .val (.int (Int32.ofNat (A + 4))), .val (.ref t2), .val (.int (Int32.ofNat B)), .val (.int (Int32.ofNat (B + M))), .val (.int (4 : Int32)), .val (.int (0 : Int32))] [])) _
              refine XS.iinc X0.here hx rfl (hb hby d3_45) rfl (l' := #[.val (.ref t1), .val (.int (Int32.ofNat A)), .val (.int (Int32.ofNat (A + 4))), .val (.ref t2), .val (.int (Int32.ofNat B)), .val (.int (Int32.ofNat (B + M))), .val (.int (4 : Int32)), .val (.int ((0 : Int32) + (1 : Int32)))]) rfl ?_
              show Steps p.tables e below (s₁.setTop (mkF m 48 #[.val (.ref t1), .val (.int (Int32.ofNat A)), .val (.int (Int32.ofNat (A + 4))), .val (.ref t2), .val (.int (Int32.ofNat B)), .val (.int (Int32.ofNat (B + M))), .val (.int (4 : Int32)), .val (.int ((0 : Int32) + (1 : Int32)))] [])) _
              refine XS.goto X0.here hx rfl (pc0 := 48) (pc' := 20) rfl (hb hby d3_48) (by decide) (by decide) ?_
              show Steps p.tables e below (s₁.setTop (mkF m 20 #[.val (.ref t1), .val (.int (Int32.ofNat A)), .val (.int (Int32.ofNat (A + 4))), .val (.ref t2), .val (.int (Int32.ofNat B)), .val (.int (Int32.ofNat (B + M))), .val (.int (4 : Int32)), .val (.int ((0 : Int32) + (1 : Int32)))] [])) _
              refine XS.iload X0.here hx rfl (hb hby d3_20) rfl ?_
              show Steps p.tables e below (s₁.setTop (mkF m 22 #[.val (.ref t1), .val (.int (Int32.ofNat A)), .val (.int (Int32.ofNat (A + 4))), .val (.ref t2), .val (.int (Int32.ofNat B)), .val (.int (Int32.ofNat (B + M))), .val (.int (4 : Int32)), .val (.int ((0 : Int32) + (1 : Int32)))] [(.int ((0 : Int32) + (1 : Int32)))])) _
              refine XS.iload X0.here hx rfl (hb hby d3_22) rfl ?_
              show Steps p.tables e below (s₁.setTop (mkF m 24 #[.val (.ref t1), .val (.int (Int32.ofNat A)), .val (.int (Int32.ofNat (A + 4))), .val (.ref t2), .val (.int (Int32.ofNat B)), .val (.int (Int32.ofNat (B + M))), .val (.int (4 : Int32)), .val (.int ((0 : Int32) + (1 : Int32)))] [(.int (4 : Int32)), (.int ((0 : Int32) + (1 : Int32)))])) _
              refine XS.icmpNo X0.here hx rfl (hb hby d3_24) rfl (by decide) ?_
              show Steps p.tables e below (s₁.setTop (mkF m 27 #[.val (.ref t1), .val (.int (Int32.ofNat A)), .val (.int (Int32.ofNat (A + 4))), .val (.ref t2), .val (.int (Int32.ofNat B)), .val (.int (Int32.ofNat (B + M))), .val (.int (4 : Int32)), .val (.int ((0 : Int32) + (1 : Int32)))] [])) _
              refine XS.aloadN X0.here hx rfl (hb hby d3_27) rfl rfl ?_
              show Steps p.tables e below (s₁.setTop (mkF m 28 #[.val (.ref t1), .val (.int (Int32.ofNat A)), .val (.int (Int32.ofNat (A + 4))), .val (.ref t2), .val (.int (Int32.ofNat B)), .val (.int (Int32.ofNat (B + M))), .val (.int (4 : Int32)), .val (.int ((0 : Int32) + (1 : Int32)))] [(.ref t1)])) _
              refine XS.iloadN X0.here hx rfl (hb hby d3_28) rfl ?_
              show Steps p.tables e below (s₁.setTop (mkF m 29 #[.val (.ref t1), .val (.int (Int32.ofNat A)), .val (.int (Int32.ofNat (A + 4))), .val (.ref t2), .val (.int (Int32.ofNat B)), .val (.int (Int32.ofNat (B + M))), .val (.int (4 : Int32)), .val (.int ((0 : Int32) + (1 : Int32)))] [(.int (Int32.ofNat A)), (.ref t1)])) _
              refine XS.iload X0.here hx rfl (hb hby d3_29) rfl ?_
              show Steps p.tables e below (s₁.setTop (mkF m 31 #[.val (.ref t1), .val (.int (Int32.ofNat A)), .val (.int (Int32.ofNat (A + 4))), .val (.ref t2), .val (.int (Int32.ofNat B)), .val (.int (Int32.ofNat (B + M))), .val (.int (4 : Int32)), .val (.int ((0 : Int32) + (1 : Int32)))] [(.int ((0 : Int32) + (1 : Int32))), (.int (Int32.ofNat A)), (.ref t1)])) _
              refine XS.iadd X0.here hx rfl (hb hby d3_31) rfl ?_
              show Steps p.tables e below (s₁.setTop (mkF m 32 #[.val (.ref t1), .val (.int (Int32.ofNat A)), .val (.int (Int32.ofNat (A + 4))), .val (.ref t2), .val (.int (Int32.ofNat B)), .val (.int (Int32.ofNat (B + M))), .val (.int (4 : Int32)), .val (.int ((0 : Int32) + (1 : Int32)))] [(.int ((Int32.ofNat A) + ((0 : Int32) + (1 : Int32)))), (.ref t1)])) _
              refine X0.baloadBytes hx (j := ((Int32.ofNat A) + ((0 : Int32) + (1 : Int32)))) (v := (.int (f (A + 1)))) (by rw [e0]; exact Ar20.1) (State.isArrayOf_alike hZ.alike Ar20.2.1) Ar20.2.2 hin20 hat20 (g := (mkF m 32 #[.val (.ref t1), .val (.int (Int32.ofNat A)), .val (.int (Int32.ofNat (A + 4))), .val (.ref t2), .val (.int (Int32.ofNat B)), .val (.int (Int32.ofNat (B + M))), .val (.int (4 : Int32)), .val (.int ((0 : Int32) + (1 : Int32)))] [(.int ((Int32.ofNat A) + ((0 : Int32) + (1 : Int32)))), (.ref t1)])) rfl rfl (hb hby d3_32) _ ?_
              show Steps p.tables e below (s₁.setTop (mkF m 33 #[.val (.ref t1), .val (.int (Int32.ofNat A)), .val (.int (Int32.ofNat (A + 4))), .val (.ref t2), .val (.int (Int32.ofNat B)), .val (.int (Int32.ofNat (B + M))), .val (.int (4 : Int32)), .val (.int ((0 : Int32) + (1 : Int32)))] [(.int (f (A + 1)))])) _
              refine XS.aloadN X0.here hx rfl (hb hby d3_33) rfl rfl ?_
              show Steps p.tables e below (s₁.setTop (mkF m 34 #[.val (.ref t1), .val (.int (Int32.ofNat A)), .val (.int (Int32.ofNat (A + 4))), .val (.ref t2), .val (.int (Int32.ofNat B)), .val (.int (Int32.ofNat (B + M))), .val (.int (4 : Int32)), .val (.int ((0 : Int32) + (1 : Int32)))] [(.ref t2), (.int (f (A + 1)))])) _
              refine XS.iload X0.here hx rfl (hb hby d3_34) rfl ?_
              show Steps p.tables e below (s₁.setTop (mkF m 36 #[.val (.ref t1), .val (.int (Int32.ofNat A)), .val (.int (Int32.ofNat (A + 4))), .val (.ref t2), .val (.int (Int32.ofNat B)), .val (.int (Int32.ofNat (B + M))), .val (.int (4 : Int32)), .val (.int ((0 : Int32) + (1 : Int32)))] [(.int (Int32.ofNat B)), (.ref t2), (.int (f (A + 1)))])) _
              refine XS.iload X0.here hx rfl (hb hby d3_36) rfl ?_
              show Steps p.tables e below (s₁.setTop (mkF m 38 #[.val (.ref t1), .val (.int (Int32.ofNat A)), .val (.int (Int32.ofNat (A + 4))), .val (.ref t2), .val (.int (Int32.ofNat B)), .val (.int (Int32.ofNat (B + M))), .val (.int (4 : Int32)), .val (.int ((0 : Int32) + (1 : Int32)))] [(.int ((0 : Int32) + (1 : Int32))), (.int (Int32.ofNat B)), (.ref t2), (.int (f (A + 1)))])) _
              refine XS.iadd X0.here hx rfl (hb hby d3_38) rfl ?_
              show Steps p.tables e below (s₁.setTop (mkF m 39 #[.val (.ref t1), .val (.int (Int32.ofNat A)), .val (.int (Int32.ofNat (A + 4))), .val (.ref t2), .val (.int (Int32.ofNat B)), .val (.int (Int32.ofNat (B + M))), .val (.int (4 : Int32)), .val (.int ((0 : Int32) + (1 : Int32)))] [(.int ((Int32.ofNat B) + ((0 : Int32) + (1 : Int32)))), (.ref t2), (.int (f (A + 1)))])) _
              refine X0.baloadBytes hx (j := ((Int32.ofNat B) + ((0 : Int32) + (1 : Int32)))) (v := (.int (g (B + 1)))) (by rw [e0]; exact Ar21.1) (State.isArrayOf_alike hZ.alike Ar21.2.1) Ar21.2.2 hin21 hat21 (g := (mkF m 39 #[.val (.ref t1), .val (.int (Int32.ofNat A)), .val (.int (Int32.ofNat (A + 4))), .val (.ref t2), .val (.int (Int32.ofNat B)), .val (.int (Int32.ofNat (B + M))), .val (.int (4 : Int32)), .val (.int ((0 : Int32) + (1 : Int32)))] [(.int ((Int32.ofNat B) + ((0 : Int32) + (1 : Int32)))), (.ref t2), (.int (f (A + 1)))])) rfl rfl (hb hby d3_39) _ ?_
              show Steps p.tables e below (s₁.setTop (mkF m 40 #[.val (.ref t1), .val (.int (Int32.ofNat A)), .val (.int (Int32.ofNat (A + 4))), .val (.ref t2), .val (.int (Int32.ofNat B)), .val (.int (Int32.ofNat (B + M))), .val (.int (4 : Int32)), .val (.int ((0 : Int32) + (1 : Int32)))] [(.int (g (B + 1))), (.int (f (A + 1)))])) _
              refine XS.icmpYes X0.here hx rfl (pc0 := 40) (pc' := 45) rfl (hb hby d3_40) rfl (teq hc40_2).1 (by decide) (by decide) ?_
              show Steps p.tables e below (s₁.setTop (mkF m 45 #[.val (.ref t1), .val (.int (Int32.ofNat A)), .val (.int (Int32.ofNat (A + 4))), .val (.ref t2), .val (.int (Int32.ofNat B)), .val (.int (Int32.ofNat (B + M))), .val (.int (4 : Int32)), .val (.int ((0 : Int32) + (1 : Int32)))] [])) _
              refine XS.iinc X0.here hx rfl (hb hby d3_45) rfl (l' := #[.val (.ref t1), .val (.int (Int32.ofNat A)), .val (.int (Int32.ofNat (A + 4))), .val (.ref t2), .val (.int (Int32.ofNat B)), .val (.int (Int32.ofNat (B + M))), .val (.int (4 : Int32)), .val (.int (((0 : Int32) + (1 : Int32)) + (1 : Int32)))]) rfl ?_
              show Steps p.tables e below (s₁.setTop (mkF m 48 #[.val (.ref t1), .val (.int (Int32.ofNat A)), .val (.int (Int32.ofNat (A + 4))), .val (.ref t2), .val (.int (Int32.ofNat B)), .val (.int (Int32.ofNat (B + M))), .val (.int (4 : Int32)), .val (.int (((0 : Int32) + (1 : Int32)) + (1 : Int32)))] [])) _
              refine XS.goto X0.here hx rfl (pc0 := 48) (pc' := 20) rfl (hb hby d3_48) (by decide) (by decide) ?_
              show Steps p.tables e below (s₁.setTop (mkF m 20 #[.val (.ref t1), .val (.int (Int32.ofNat A)), .val (.int (Int32.ofNat (A + 4))), .val (.ref t2), .val (.int (Int32.ofNat B)), .val (.int (Int32.ofNat (B + M))), .val (.int (4 : Int32)), .val (.int (((0 : Int32) + (1 : Int32)) + (1 : Int32)))] [])) _
              refine XS.iload X0.here hx rfl (hb hby d3_20) rfl ?_
              show Steps p.tables e below (s₁.setTop (mkF m 22 #[.val (.ref t1), .val (.int (Int32.ofNat A)), .val (.int (Int32.ofNat (A + 4))), .val (.ref t2), .val (.int (Int32.ofNat B)), .val (.int (Int32.ofNat (B + M))), .val (.int (4 : Int32)), .val (.int (((0 : Int32) + (1 : Int32)) + (1 : Int32)))] [(.int (((0 : Int32) + (1 : Int32)) + (1 : Int32)))])) _
              refine XS.iload X0.here hx rfl (hb hby d3_22) rfl ?_
              show Steps p.tables e below (s₁.setTop (mkF m 24 #[.val (.ref t1), .val (.int (Int32.ofNat A)), .val (.int (Int32.ofNat (A + 4))), .val (.ref t2), .val (.int (Int32.ofNat B)), .val (.int (Int32.ofNat (B + M))), .val (.int (4 : Int32)), .val (.int (((0 : Int32) + (1 : Int32)) + (1 : Int32)))] [(.int (4 : Int32)), (.int (((0 : Int32) + (1 : Int32)) + (1 : Int32)))])) _
              refine XS.icmpNo X0.here hx rfl (hb hby d3_24) rfl (by decide) ?_
              show Steps p.tables e below (s₁.setTop (mkF m 27 #[.val (.ref t1), .val (.int (Int32.ofNat A)), .val (.int (Int32.ofNat (A + 4))), .val (.ref t2), .val (.int (Int32.ofNat B)), .val (.int (Int32.ofNat (B + M))), .val (.int (4 : Int32)), .val (.int (((0 : Int32) + (1 : Int32)) + (1 : Int32)))] [])) _
              refine XS.aloadN X0.here hx rfl (hb hby d3_27) rfl rfl ?_
              show Steps p.tables e below (s₁.setTop (mkF m 28 #[.val (.ref t1), .val (.int (Int32.ofNat A)), .val (.int (Int32.ofNat (A + 4))), .val (.ref t2), .val (.int (Int32.ofNat B)), .val (.int (Int32.ofNat (B + M))), .val (.int (4 : Int32)), .val (.int (((0 : Int32) + (1 : Int32)) + (1 : Int32)))] [(.ref t1)])) _
              refine XS.iloadN X0.here hx rfl (hb hby d3_28) rfl ?_
              show Steps p.tables e below (s₁.setTop (mkF m 29 #[.val (.ref t1), .val (.int (Int32.ofNat A)), .val (.int (Int32.ofNat (A + 4))), .val (.ref t2), .val (.int (Int32.ofNat B)), .val (.int (Int32.ofNat (B + M))), .val (.int (4 : Int32)), .val (.int (((0 : Int32) + (1 : Int32)) + (1 : Int32)))] [(.int (Int32.ofNat A)), (.ref t1)])) _
              refine XS.iload X0.here hx rfl (hb hby d3_29) rfl ?_
              show Steps p.tables e below (s₁.setTop (mkF m 31 #[.val (.ref t1), .val (.int (Int32.ofNat A)), .val (.int (Int32.ofNat (A + 4))), .val (.ref t2), .val (.int (Int32.ofNat B)), .val (.int (Int32.ofNat (B + M))), .val (.int (4 : Int32)), .val (.int (((0 : Int32) + (1 : Int32)) + (1 : Int32)))] [(.int (((0 : Int32) + (1 : Int32)) + (1 : Int32))), (.int (Int32.ofNat A)), (.ref t1)])) _
              refine XS.iadd X0.here hx rfl (hb hby d3_31) rfl ?_
              show Steps p.tables e below (s₁.setTop (mkF m 32 #[.val (.ref t1), .val (.int (Int32.ofNat A)), .val (.int (Int32.ofNat (A + 4))), .val (.ref t2), .val (.int (Int32.ofNat B)), .val (.int (Int32.ofNat (B + M))), .val (.int (4 : Int32)), .val (.int (((0 : Int32) + (1 : Int32)) + (1 : Int32)))] [(.int ((Int32.ofNat A) + (((0 : Int32) + (1 : Int32)) + (1 : Int32)))), (.ref t1)])) _
              refine X0.baloadBytes hx (j := ((Int32.ofNat A) + (((0 : Int32) + (1 : Int32)) + (1 : Int32)))) (v := (.int (f (A + 2)))) (by rw [e0]; exact Ar22.1) (State.isArrayOf_alike hZ.alike Ar22.2.1) Ar22.2.2 hin22 hat22 (g := (mkF m 32 #[.val (.ref t1), .val (.int (Int32.ofNat A)), .val (.int (Int32.ofNat (A + 4))), .val (.ref t2), .val (.int (Int32.ofNat B)), .val (.int (Int32.ofNat (B + M))), .val (.int (4 : Int32)), .val (.int (((0 : Int32) + (1 : Int32)) + (1 : Int32)))] [(.int ((Int32.ofNat A) + (((0 : Int32) + (1 : Int32)) + (1 : Int32)))), (.ref t1)])) rfl rfl (hb hby d3_32) _ ?_
              show Steps p.tables e below (s₁.setTop (mkF m 33 #[.val (.ref t1), .val (.int (Int32.ofNat A)), .val (.int (Int32.ofNat (A + 4))), .val (.ref t2), .val (.int (Int32.ofNat B)), .val (.int (Int32.ofNat (B + M))), .val (.int (4 : Int32)), .val (.int (((0 : Int32) + (1 : Int32)) + (1 : Int32)))] [(.int (f (A + 2)))])) _
              refine XS.aloadN X0.here hx rfl (hb hby d3_33) rfl rfl ?_
              show Steps p.tables e below (s₁.setTop (mkF m 34 #[.val (.ref t1), .val (.int (Int32.ofNat A)), .val (.int (Int32.ofNat (A + 4))), .val (.ref t2), .val (.int (Int32.ofNat B)), .val (.int (Int32.ofNat (B + M))), .val (.int (4 : Int32)), .val (.int (((0 : Int32) + (1 : Int32)) + (1 : Int32)))] [(.ref t2), (.int (f (A + 2)))])) _
              refine XS.iload X0.here hx rfl (hb hby d3_34) rfl ?_
              show Steps p.tables e below (s₁.setTop (mkF m 36 #[.val (.ref t1), .val (.int (Int32.ofNat A)), .val (.int (Int32.ofNat (A + 4))), .val (.ref t2), .val (.int (Int32.ofNat B)), .val (.int (Int32.ofNat (B + M))), .val (.int (4 : Int32)), .val (.int (((0 : Int32) + (1 : Int32)) + (1 : Int32)))] [(.int (Int32.ofNat B)), (.ref t2), (.int (f (A + 2)))])) _
              refine XS.iload X0.here hx rfl (hb hby d3_36) rfl ?_
              show Steps p.tables e below (s₁.setTop (mkF m 38 #[.val (.ref t1), .val (.int (Int32.ofNat A)), .val (.int (Int32.ofNat (A + 4))), .val (.ref t2), .val (.int (Int32.ofNat B)), .val (.int (Int32.ofNat (B + M))), .val (.int (4 : Int32)), .val (.int (((0 : Int32) + (1 : Int32)) + (1 : Int32)))] [(.int (((0 : Int32) + (1 : Int32)) + (1 : Int32))), (.int (Int32.ofNat B)), (.ref t2), (.int (f (A + 2)))])) _
              refine XS.iadd X0.here hx rfl (hb hby d3_38) rfl ?_
              show Steps p.tables e below (s₁.setTop (mkF m 39 #[.val (.ref t1), .val (.int (Int32.ofNat A)), .val (.int (Int32.ofNat (A + 4))), .val (.ref t2), .val (.int (Int32.ofNat B)), .val (.int (Int32.ofNat (B + M))), .val (.int (4 : Int32)), .val (.int (((0 : Int32) + (1 : Int32)) + (1 : Int32)))] [(.int ((Int32.ofNat B) + (((0 : Int32) + (1 : Int32)) + (1 : Int32)))), (.ref t2), (.int (f (A + 2)))])) _
              refine X0.baloadBytes hx (j := ((Int32.ofNat B) + (((0 : Int32) + (1 : Int32)) + (1 : Int32)))) (v := (.int (g (B + 2)))) (by rw [e0]; exact Ar23.1) (State.isArrayOf_alike hZ.alike Ar23.2.1) Ar23.2.2 hin23 hat23 (g := (mkF m 39 #[.val (.ref t1), .val (.int (Int32.ofNat A)), .val (.int (Int32.ofNat (A + 4))), .val (.ref t2), .val (.int (Int32.ofNat B)), .val (.int (Int32.ofNat (B + M))), .val (.int (4 : Int32)), .val (.int (((0 : Int32) + (1 : Int32)) + (1 : Int32)))] [(.int ((Int32.ofNat B) + (((0 : Int32) + (1 : Int32)) + (1 : Int32)))), (.ref t2), (.int (f (A + 2)))])) rfl rfl (hb hby d3_39) _ ?_
              show Steps p.tables e below (s₁.setTop (mkF m 40 #[.val (.ref t1), .val (.int (Int32.ofNat A)), .val (.int (Int32.ofNat (A + 4))), .val (.ref t2), .val (.int (Int32.ofNat B)), .val (.int (Int32.ofNat (B + M))), .val (.int (4 : Int32)), .val (.int (((0 : Int32) + (1 : Int32)) + (1 : Int32)))] [(.int (g (B + 2))), (.int (f (A + 2)))])) _
              refine XS.icmpNo X0.here hx rfl (hb hby d3_40) rfl (feq hc40_3).1 ?_
              show Steps p.tables e below (s₁.setTop (mkF m 43 #[.val (.ref t1), .val (.int (Int32.ofNat A)), .val (.int (Int32.ofNat (A + 4))), .val (.ref t2), .val (.int (Int32.ofNat B)), .val (.int (Int32.ofNat (B + M))), .val (.int (4 : Int32)), .val (.int (((0 : Int32) + (1 : Int32)) + (1 : Int32)))] [])) _
              refine XS.iconst X0.here hx rfl (hb hby d3_43) ?_
              show Steps p.tables e below (s₁.setTop (mkF m 44 #[.val (.ref t1), .val (.int (Int32.ofNat A)), .val (.int (Int32.ofNat (A + 4))), .val (.ref t2), .val (.int (Int32.ofNat B)), .val (.int (Int32.ofNat (B + M))), .val (.int (4 : Int32)), .val (.int (((0 : Int32) + (1 : Int32)) + (1 : Int32)))] [(.int (0 : Int32))])) _
              exact retN X0 hx (t := .boolean) Bd.returns (by simp) (hb hby d3_44) hr
            · show Q3 Z t1 t2 A B 4 M f g h0 n0 _ s₁.heap _
              rw [e0]
              exact ⟨_, rfl, N0, rfl, Or.inr ⟨rfl, fun q => hc40_3 (q.2 2 (by omega))⟩⟩
        · obtain ⟨fs, hr, hrun, hended, hW, hsame⟩ := X0.leave (v := some (.int (0 : Int32))) (fun h => by rw [Bd.returns] at h; cases h)
          refine ⟨_, _, pre0 _ ?_, hrun, hended, _, _, rfl, ?_, ⟨_, rfl⟩, hW, hsame.mono (by decide) (by decide)⟩
          · show Steps p.tables e below (s₁.setTop (mkF m 0 #[.val (.ref t1), .val (.int (Int32.ofNat A)), .val (.int (Int32.ofNat (A + 4))), .val (.ref t2), .val (.int (Int32.ofNat B)), .val (.int (Int32.ofNat (B + M))), .unset, .unset] [])) _
            refine seg17 _ ?_
            show Steps p.tables e below (s₁.setTop (mkF m 12 #[.val (.ref t1), .val (.int (Int32.ofNat A)), .val (.int (Int32.ofNat (A + 4))), .val (.ref t2), .val (.int (Int32.ofNat B)), .val (.int (Int32.ofNat (B + M))), .val (.int (4 : Int32)), .unset] [(.int (Int32.ofNat M)), (.int (4 : Int32))])) _
            refine XS.icmpYes X0.here hx rfl (pc0 := 12) (pc' := 17) rfl (hb hby d3_12) rfl (teq hc12).1 (by decide) (by decide) ?_
            show Steps p.tables e below (s₁.setTop (mkF m 17 #[.val (.ref t1), .val (.int (Int32.ofNat A)), .val (.int (Int32.ofNat (A + 4))), .val (.ref t2), .val (.int (Int32.ofNat B)), .val (.int (Int32.ofNat (B + M))), .val (.int (4 : Int32)), .unset] [])) _
            refine XS.iconst X0.here hx rfl (hb hby d3_17) ?_
            show Steps p.tables e below (s₁.setTop (mkF m 18 #[.val (.ref t1), .val (.int (Int32.ofNat A)), .val (.int (Int32.ofNat (A + 4))), .val (.ref t2), .val (.int (Int32.ofNat B)), .val (.int (Int32.ofNat (B + M))), .val (.int (4 : Int32)), .unset] [(.int (0 : Int32))])) _
            refine XS.istore X0.here hx rfl (hb hby d3_18) rfl (l' := #[.val (.ref t1), .val (.int (Int32.ofNat A)), .val (.int (Int32.ofNat (A + 4))), .val (.ref t2), .val (.int (Int32.ofNat B)), .val (.int (Int32.ofNat (B + M))), .val (.int (4 : Int32)), .val (.int (0 : Int32))]) rfl ?_
            show Steps p.tables e below (s₁.setTop (mkF m 20 #[.val (.ref t1), .val (.int (Int32.ofNat A)), .val (.int (Int32.ofNat (A + 4))), .val (.ref t2), .val (.int (Int32.ofNat B)), .val (.int (Int32.ofNat (B + M))), .val (.int (4 : Int32)), .val (.int (0 : Int32))] [])) _
            refine XS.iload X0.here hx rfl (hb hby d3_20) rfl ?_
            show Steps p.tables e below (s₁.setTop (mkF m 22 #[.val (.ref t1), .val (.int (Int32.ofNat A)), .val (.int (Int32.ofNat (A + 4))), .val (.ref t2), .val (.int (Int32.ofNat B)), .val (.int (Int32.ofNat (B + M))), .val (.int (4 : Int32)), .val (.int (0 : Int32))] [(.int (0 : Int32))])) _
            refine XS.iload X0.here hx rfl (hb hby d3_22) rfl ?_
            show Steps p.tables e below (s₁.setTop (mkF m 24 #[.val (.ref t1), .val (.int (Int32.ofNat A)), .val (.int (Int32.ofNat (A + 4))), .val (.ref t2), .val (.int (Int32.ofNat B)), .val (.int (Int32.ofNat (B + M))), .val (.int (4 : Int32)), .val (.int (0 : Int32))] [(.int (4 : Int32)), (.int (0 : Int32))])) _
            refine XS.icmpNo X0.here hx rfl (hb hby d3_24) rfl (by decide) ?_
            show Steps p.tables e below (s₁.setTop (mkF m 27 #[.val (.ref t1), .val (.int (Int32.ofNat A)), .val (.int (Int32.ofNat (A + 4))), .val (.ref t2), .val (.int (Int32.ofNat B)), .val (.int (Int32.ofNat (B + M))), .val (.int (4 : Int32)), .val (.int (0 : Int32))] [])) _
            refine XS.aloadN X0.here hx rfl (hb hby d3_27) rfl rfl ?_
            show Steps p.tables e below (s₁.setTop (mkF m 28 #[.val (.ref t1), .val (.int (Int32.ofNat A)), .val (.int (Int32.ofNat (A + 4))), .val (.ref t2), .val (.int (Int32.ofNat B)), .val (.int (Int32.ofNat (B + M))), .val (.int (4 : Int32)), .val (.int (0 : Int32))] [(.ref t1)])) _
            refine XS.iloadN X0.here hx rfl (hb hby d3_28) rfl ?_
            show Steps p.tables e below (s₁.setTop (mkF m 29 #[.val (.ref t1), .val (.int (Int32.ofNat A)), .val (.int (Int32.ofNat (A + 4))), .val (.ref t2), .val (.int (Int32.ofNat B)), .val (.int (Int32.ofNat (B + M))), .val (.int (4 : Int32)), .val (.int (0 : Int32))] [(.int (Int32.ofNat A)), (.ref t1)])) _
            refine XS.iload X0.here hx rfl (hb hby d3_29) rfl ?_
            show Steps p.tables e below (s₁.setTop (mkF m 31 #[.val (.ref t1), .val (.int (Int32.ofNat A)), .val (.int (Int32.ofNat (A + 4))), .val (.ref t2), .val (.int (Int32.ofNat B)), .val (.int (Int32.ofNat (B + M))), .val (.int (4 : Int32)), .val (.int (0 : Int32))] [(.int (0 : Int32)), (.int (Int32.ofNat A)), (.ref t1)])) _
            refine XS.iadd X0.here hx rfl (hb hby d3_31) rfl ?_
            show Steps p.tables e below (s₁.setTop (mkF m 32 #[.val (.ref t1), .val (.int (Int32.ofNat A)), .val (.int (Int32.ofNat (A + 4))), .val (.ref t2), .val (.int (Int32.ofNat B)), .val (.int (Int32.ofNat (B + M))), .val (.int (4 : Int32)), .val (.int (0 : Int32))] [(.int ((Int32.ofNat A) + (0 : Int32))), (.ref t1)])) _
            refine X0.baloadBytes hx (j := ((Int32.ofNat A) + (0 : Int32))) (v := (.int (f (A + 0)))) (by rw [e0]; exact Ar18.1) (State.isArrayOf_alike hZ.alike Ar18.2.1) Ar18.2.2 hin18 hat18 (g := (mkF m 32 #[.val (.ref t1), .val (.int (Int32.ofNat A)), .val (.int (Int32.ofNat (A + 4))), .val (.ref t2), .val (.int (Int32.ofNat B)), .val (.int (Int32.ofNat (B + M))), .val (.int (4 : Int32)), .val (.int (0 : Int32))] [(.int ((Int32.ofNat A) + (0 : Int32))), (.ref t1)])) rfl rfl (hb hby d3_32) _ ?_
            show Steps p.tables e below (s₁.setTop (mkF m 33 #[.val (.ref t1), .val (.int (Int32.ofNat A)), .val (.int (Int32.ofNat (A + 4))), .val (.ref t2), .val (.int (Int32.ofNat B)), .val (.int (Int32.ofNat (B + M))), .val (.int (4 : Int32)), .val (.int (0 : Int32))] [(.int (f (A + 0)))])) _
            refine XS.aloadN X0.here hx rfl (hb hby d3_33) rfl rfl ?_
            show Steps p.tables e below (s₁.setTop (mkF m 34 #[.val (.ref t1), .val (.int (Int32.ofNat A)), .val (.int (Int32.ofNat (A + 4))), .val (.ref t2), .val (.int (Int32.ofNat B)), .val (.int (Int32.ofNat (B + M))), .val (.int (4 : Int32)), .val (.int (0 : Int32))] [(.ref t2), (.int (f (A + 0)))])) _
            refine XS.iload X0.here hx rfl (hb hby d3_34) rfl ?_
            show Steps p.tables e below (s₁.setTop (mkF m 36 #[.val (.ref t1), .val (.int (Int32.ofNat A)), .val (.int (Int32.ofNat (A + 4))), .val (.ref t2), .val (.int (Int32.ofNat B)), .val (.int (Int32.ofNat (B + M))), .val (.int (4 : Int32)), .val (.int (0 : Int32))] [(.int (Int32.ofNat B)), (.ref t2), (.int (f (A + 0)))])) _
            refine XS.iload X0.here hx rfl (hb hby d3_36) rfl ?_
            show Steps p.tables e below (s₁.setTop (mkF m 38 #[.val (.ref t1), .val (.int (Int32.ofNat A)), .val (.int (Int32.ofNat (A + 4))), .val (.ref t2), .val (.int (Int32.ofNat B)), .val (.int (Int32.ofNat (B + M))), .val (.int (4 : Int32)), .val (.int (0 : Int32))] [(.int (0 : Int32)), (.int (Int32.ofNat B)), (.ref t2), (.int (f (A + 0)))])) _
            refine XS.iadd X0.here hx rfl (hb hby d3_38) rfl ?_
            show Steps p.tables e below (s₁.setTop (mkF m 39 #[.val (.ref t1), .val (.int (Int32.ofNat A)), .val (.int (Int32.ofNat (A + 4))), .val (.ref t2), .val (.int (Int32.ofNat B)), .val (.int (Int32.ofNat (B + M))), .val (.int (4 : Int32)), .val (.int (0 : Int32))] [(.int ((Int32.ofNat B) + (0 : Int32))), (.ref t2), (.int (f (A + 0)))])) _
            refine X0.baloadBytes hx (j := ((Int32.ofNat B) + (0 : Int32))) (v := (.int (g (B + 0)))) (by rw [e0]; exact Ar19.1) (State.isArrayOf_alike hZ.alike Ar19.2.1) Ar19.2.2 hin19 hat19 (g := (mkF m 39 #[.val (.ref t1), .val (.int (Int32.ofNat A)), .val (.int (Int32.ofNat (A + 4))), .val (.ref t2), .val (.int (Int32.ofNat B)), .val (.int (Int32.ofNat (B + M))), .val (.int (4 : Int32)), .val (.int (0 : Int32))] [(.int ((Int32.ofNat B) + (0 : Int32))), (.ref t2), (.int (f (A + 0)))])) rfl rfl (hb hby d3_39) _ ?_
            show Steps p.tables e below (s₁.setTop (mkF m 40 #[.val (.ref t1), .val (.int (Int32.ofNat A)), .val (.int (Int32.ofNat (A + 4))), .val (.ref t2), .val (.int (Int32.ofNat B)), .val (.int (Int32.ofNat (B + M))), .val (.int (4 : Int32)), .val (.int (0 : Int32))] [(.int (g (B + 0))), (.int (f (A + 0)))])) _
            refine XS.icmpYes X0.here hx rfl (pc0 := 40) (pc' := 45) rfl (hb hby d3_40) rfl (teq hc40).1 (by decide) (by decide) ?_
            show Steps p.tables e below (s₁.setTop (mkF m 45 #[.val (.ref t1), .val (.int (Int32.ofNat A)), .val (.int (Int32.ofNat (A + 4))), .val (.ref t2), .val (.int (Int32.ofNat B)), .val (.int (Int32.ofNat (B + M))), .val (.int (4 : Int32)), .val (.int (0 : Int32))] [])) _
            refine XS.iinc X0.here hx rfl (hb hby d3_45) rfl (l' := #[.val (.ref t1), .val (.int (Int32.ofNat A)), .val (.int (Int32.ofNat (A + 4))), .val (.ref t2), .val (.int (Int32.ofNat B)), .val (.int (Int32.ofNat (B + M))), .val (.int (4 : Int32)), .val (.int ((0 : Int32) + (1 : Int32)))]) rfl ?_
            show Steps p.tables e below (s₁.setTop (mkF m 48 #[.val (.ref t1), .val (.int (Int32.ofNat A)), .val (.int (Int32.ofNat (A + 4))), .val (.ref t2), .val (.int (Int32.ofNat B)), .val (.int (Int32.ofNat (B + M))), .val (.int (4 : Int32)), .val (.int ((0 : Int32) + (1 : Int32)))] [])) _
            refine XS.goto X0.here hx rfl (pc0 := 48) (pc' := 20) rfl (hb hby d3_48) (by decide) (by decide) ?_
            show Steps p.tables e below (s₁.setTop (mkF m 20 #[.val (.ref t1), .val (.int (Int32.ofNat A)), .val (.int (Int32.ofNat (A + 4))), .val (.ref t2), .val (.int (Int32.ofNat B)), .val (.int (Int32.ofNat (B + M))), .val (.int (4 : Int32)), .val (.int ((0 : Int32) + (1 : Int32)))] [])) _
            refine XS.iload X0.here hx rfl (hb hby d3_20) rfl ?_
            show Steps p.tables e below (s₁.setTop (mkF m 22 #[.val (.ref t1), .val (.int (Int32.ofNat A)), .val (.int (Int32.ofNat (A + 4))), .val (.ref t2), .val (.int (Int32.ofNat B)), .val (.int (Int32.ofNat (B + M))), .val (.int (4 : Int32)), .val (.int ((0 : Int32) + (1 : Int32)))] [(.int ((0 : Int32) + (1 : Int32)))])) _
            refine XS.iload X0.here hx rfl (hb hby d3_22) rfl ?_
            show Steps p.tables e below (s₁.setTop (mkF m 24 #[.val (.ref t1), .val (.int (Int32.ofNat A)), .val (.int (Int32.ofNat (A + 4))), .val (.ref t2), .val (.int (Int32.ofNat B)), .val (.int (Int32.ofNat (B + M))), .val (.int (4 : Int32)), .val (.int ((0 : Int32) + (1 : Int32)))] [(.int (4 : Int32)), (.int ((0 : Int32) + (1 : Int32)))])) _
            refine XS.icmpNo X0.here hx rfl (hb hby d3_24) rfl (by decide) ?_
            show Steps p.tables e below (s₁.setTop (mkF m 27 #[.val (.ref t1), .val (.int (Int32.ofNat A)), .val (.int (Int32.ofNat (A + 4))), .val (.ref t2), .val (.int (Int32.ofNat B)), .val (.int (Int32.ofNat (B + M))), .val (.int (4 : Int32)), .val (.int ((0 : Int32) + (1 : Int32)))] [])) _
            refine XS.aloadN X0.here hx rfl (hb hby d3_27) rfl rfl ?_
            show Steps p.tables e below (s₁.setTop (mkF m 28 #[.val (.ref t1), .val (.int (Int32.ofNat A)), .val (.int (Int32.ofNat (A + 4))), .val (.ref t2), .val (.int (Int32.ofNat B)), .val (.int (Int32.ofNat (B + M))), .val (.int (4 : Int32)), .val (.int ((0 : Int32) + (1 : Int32)))] [(.ref t1)])) _
            refine XS.iloadN X0.here hx rfl (hb hby d3_28) rfl ?_
            show Steps p.tables e below (s₁.setTop (mkF m 29 #[.val (.ref t1), .val (.int (Int32.ofNat A)), .val (.int (Int32.ofNat (A + 4))), .val (.ref t2), .val (.int (Int32.ofNat B)), .val (.int (Int32.ofNat (B + M))), .val (.int (4 : Int32)), .val (.int ((0 : Int32) + (1 : Int32)))] [(.int (Int32.ofNat A)), (.ref t1)])) _
            refine XS.iload X0.here hx rfl (hb hby d3_29) rfl ?_
            show Steps p.tables e below (s₁.setTop (mkF m 31 #[.val (.ref t1), .val (.int (Int32.ofNat A)), .val (.int (Int32.ofNat (A + 4))), .val (.ref t2), .val (.int (Int32.ofNat B)), .val (.int (Int32.ofNat (B + M))), .val (.int (4 : Int32)), .val (.int ((0 : Int32) + (1 : Int32)))] [(.int ((0 : Int32) + (1 : Int32))), (.int (Int32.ofNat A)), (.ref t1)])) _
            refine XS.iadd X0.here hx rfl (hb hby d3_31) rfl ?_
            show Steps p.tables e below (s₁.setTop (mkF m 32 #[.val (.ref t1), .val (.int (Int32.ofNat A)), .val (.int (Int32.ofNat (A + 4))), .val (.ref t2), .val (.int (Int32.ofNat B)), .val (.int (Int32.ofNat (B + M))), .val (.int (4 : Int32)), .val (.int ((0 : Int32) + (1 : Int32)))] [(.int ((Int32.ofNat A) + ((0 : Int32) + (1 : Int32)))), (.ref t1)])) _
            refine X0.baloadBytes hx (j := ((Int32.ofNat A) + ((0 : Int32) + (1 : Int32)))) (v := (.int (f (A + 1)))) (by rw [e0]; exact Ar20.1) (State.isArrayOf_alike hZ.alike Ar20.2.1) Ar20.2.2 hin20 hat20 (g := (mkF m 32 #[.val (.ref t1), .val (.int (Int32.ofNat A)), .val (.int (Int32.ofNat (A + 4))), .val (.ref t2), .val (.int (Int32.ofNat B)), .val (.int (Int32.ofNat (B + M))), .val (.int (4 : Int32)), .val (.int ((0 : Int32) + (1 : Int32)))] [(.int ((Int32.ofNat A) + ((0 : Int32) + (1 : Int32)))), (.ref t1)])) rfl rfl (hb hby d3_32) _ ?_
            show Steps p.tables e below (s₁.setTop (mkF m 33 #[.val (.ref t1), .val (.int (Int32.ofNat A)), .val (.int (Int32.ofNat (A + 4))), .val (.ref t2), .val (.int (Int32.ofNat B)), .val (.int (Int32.ofNat (B + M))), .val (.int (4 : Int32)), .val (.int ((0 : Int32) + (1 : Int32)))] [(.int (f (A + 1)))])) _
            refine XS.aloadN X0.here hx rfl (hb hby d3_33) rfl rfl ?_
            show Steps p.tables e below (s₁.setTop (mkF m 34 #[.val (.ref t1), .val (.int (Int32.ofNat A)), .val (.int (Int32.ofNat (A + 4))), .val (.ref t2), .val (.int (Int32.ofNat B)), .val (.int (Int32.ofNat (B + M))), .val (.int (4 : Int32)), .val (.int ((0 : Int32) + (1 : Int32)))] [(.ref t2), (.int (f (A + 1)))])) _
            refine XS.iload X0.here hx rfl (hb hby d3_34) rfl ?_
            show Steps p.tables e below (s₁.setTop (mkF m 36 #[.val (.ref t1), .val (.int (Int32.ofNat A)), .val (.int (Int32.ofNat (A + 4))), .val (.ref t2), .val (.int (Int32.ofNat B)), .val (.int (Int32.ofNat (B + M))), .val (.int (4 : Int32)), .val (.int ((0 : Int32) + (1 : Int32)))] [(.int (Int32.ofNat B)), (.ref t2), (.int (f (A + 1)))])) _
            refine XS.iload X0.here hx rfl (hb hby d3_36) rfl ?_
            show Steps p.tables e below (s₁.setTop (mkF m 38 #[.val (.ref t1), .val (.int (Int32.ofNat A)), .val (.int (Int32.ofNat (A + 4))), .val (.ref t2), .val (.int (Int32.ofNat B)), .val (.int (Int32.ofNat (B + M))), .val (.int (4 : Int32)), .val (.int ((0 : Int32) + (1 : Int32)))] [(.int ((0 : Int32) + (1 : Int32))), (.int (Int32.ofNat B)), (.ref t2), (.int (f (A + 1)))])) _
            refine XS.iadd X0.here hx rfl (hb hby d3_38) rfl ?_
            show Steps p.tables e below (s₁.setTop (mkF m 39 #[.val (.ref t1), .val (.int (Int32.ofNat A)), .val (.int (Int32.ofNat (A + 4))), .val (.ref t2), .val (.int (Int32.ofNat B)), .val (.int (Int32.ofNat (B + M))), .val (.int (4 : Int32)), .val (.int ((0 : Int32) + (1 : Int32)))] [(.int ((Int32.ofNat B) + ((0 : Int32) + (1 : Int32)))), (.ref t2), (.int (f (A + 1)))])) _
            refine X0.baloadBytes hx (j := ((Int32.ofNat B) + ((0 : Int32) + (1 : Int32)))) (v := (.int (g (B + 1)))) (by rw [e0]; exact Ar21.1) (State.isArrayOf_alike hZ.alike Ar21.2.1) Ar21.2.2 hin21 hat21 (g := (mkF m 39 #[.val (.ref t1), .val (.int (Int32.ofNat A)), .val (.int (Int32.ofNat (A + 4))), .val (.ref t2), .val (.int (Int32.ofNat B)), .val (.int (Int32.ofNat (B + M))), .val (.int (4 : Int32)), .val (.int ((0 : Int32) + (1 : Int32)))] [(.int ((Int32.ofNat B) + ((0 : Int32) + (1 : Int32)))), (.ref t2), (.int (f (A + 1)))])) rfl rfl (hb hby d3_39) _ ?_
            show Steps p.tables e below (s₁.setTop (mkF m 40 #[.val (.ref t1), .val (.int (Int32.ofNat A)), .val (.int (Int32.ofNat (A + 4))), .val (.ref t2), .val (.int (Int32.ofNat B)), .val (.int (Int32.ofNat (B + M))), .val (.int (4 : Int32)), .val (.int ((0 : Int32) + (1 : Int32)))] [(.int (g (B + 1))), (.int (f (A + 1)))])) _
            refine XS.icmpNo X0.here hx rfl (hb hby d3_40) rfl (feq hc40_2).1 ?_
            show Steps p.tables e below (s₁.setTop (mkF m 43 #[.val (.ref t1), .val (.int (Int32.ofNat A)), .val (.int (Int32.ofNat (A + 4))), .val (.ref t2), .val (.int (Int32.ofNat B)), .val (.int (Int32.ofNat (B + M))), .val (.int (4 : Int32)), .val (.int ((0 : Int32) + (1 : Int32)))] [])) _
            refine XS.iconst X0.here hx rfl (hb hby d3_43) ?_
            show Steps p.tables e below (s₁.setTop (mkF m 44 #[.val (.ref t1), .val (.int (Int32.ofNat A)), .val (.int (Int32.ofNat (A + 4))), .val (.ref t2), .val (.int (Int32.ofNat B)), .val (.int (Int32.ofNat (B + M))), .val (.int (4 : Int32)), .val (.int ((0 : Int32) + (1 : Int32)))] [(.int (0 : Int32))])) _
            exact retN X0 hx (t := .boolean) Bd.returns (by simp) (hb hby d3_44) hr
          · show Q3 Z t1 t2 A B 4 M f g h0 n0 _ s₁.heap _
            rw [e0]
            exact ⟨_, rfl, N0, rfl, Or.inr ⟨rfl, fun q => hc40_2 (q.2 1 (by omega))⟩⟩
      · obtain ⟨fs, hr, hrun, hended, hW, hsame⟩ := X0.leave (v := some (.int (0 : Int32))) (fun h => by rw [Bd.returns] at h; cases h)
        refine ⟨_, _, pre0 _ ?_, hrun, hended, _, _, rfl, ?_, ⟨_, rfl⟩, hW, hsame.mono (by decide) (by decide)⟩
        · show Steps p.tables e below (s₁.setTop (mkF m 0 #[.val (.ref t1), .val (.int (Int32.ofNat A)), .val (.int (Int32.ofNat (A + 4))), .val (.ref t2), .val (.int (Int32.ofNat B)), .val (.int (Int32.ofNat (B + M))), .unset, .unset] [])) _
          refine seg17 _ ?_
          show Steps p.tables e below (s₁.setTop (mkF m 12 #[.val (.ref t1), .val (.int (Int32.ofNat A)), .val (.int (Int32.ofNat (A + 4))), .val (.ref t2), .val (.int (Int32.ofNat B)), .val (.int (Int32.ofNat (B + M))), .val (.int (4 : Int32)), .unset] [(.int (Int32.ofNat M)), (.int (4 : Int32))])) _
          refine XS.icmpYes X0.here hx rfl (pc0 := 12) (pc' := 17) rfl (hb hby d3_12) rfl (teq hc12).1 (by decide) (by decide) ?_
          show Steps p.tables e below (s₁.setTop (mkF m 17 #[.val (.ref t1), .val (.int (Int32.ofNat A)), .val (.int (Int32.ofNat (A + 4))), .val (.ref t2), .val (.int (Int32.ofNat B)), .val (.int (Int32.ofNat (B + M))), .val (.int (4 : Int32)), .unset] [])) _
          refine XS.iconst X0.here hx rfl (hb hby d3_17) ?_
          show Steps p.tables e below (s₁.setTop (mkF m 18 #[.val (.ref t1), .val (.int (Int32.ofNat A)), .val (.int (Int32.ofNat (A + 4))), .val (.ref t2), .val (.int (Int32.ofNat B)), .val (.int (Int32.ofNat (B + M))), .val (.int (4 : Int32)), .unset] [(.int (0 : Int32))])) _
          refine XS.istore X0.here hx rfl (hb hby d3_18) rfl (l' := #[.val (.ref t1), .val (.int (Int32.ofNat A)), .val (.int (Int32.ofNat (A + 4))), .val (.ref t2), .val (.int (Int32.ofNat B)), .val (.int (Int32.ofNat (B + M))), .val (.int (4 : Int32)), .val (.int (0 : Int32))]) rfl ?_
          show Steps p.tables e below (s₁.setTop (mkF m 20 #[.val (.ref t1), .val (.int (Int32.ofNat A)), .val (.int (Int32.ofNat (A + 4))), .val (.ref t2), .val (.int (Int32.ofNat B)), .val (.int (Int32.ofNat (B + M))), .val (.int (4 : Int32)), .val (.int (0 : Int32))] [])) _
          refine XS.iload X0.here hx rfl (hb hby d3_20) rfl ?_
          show Steps p.tables e below (s₁.setTop (mkF m 22 #[.val (.ref t1), .val (.int (Int32.ofNat A)), .val (.int (Int32.ofNat (A + 4))), .val (.ref t2), .val (.int (Int32.ofNat B)), .val (.int (Int32.ofNat (B + M))), .val (.int (4 : Int32)), .val (.int (0 : Int32))] [(.int (0 : Int32))])) _
          refine XS.iload X0.here hx rfl (hb hby d3_22) rfl ?_
          show Steps p.tables e below (s₁.setTop (mkF m 24 #[.val (.ref t1), .val (.int (Int32.ofNat A)), .val (.int (Int32.ofNat (A + 4))), .val (.ref t2), .val (.int (Int32.ofNat B)), .val (.int (Int32.ofNat (B + M))), .val (.int (4 : Int32)), .val (.int (0 : Int32))] [(.int (4 : Int32)), (.int (0 : Int32))])) _
          refine XS.icmpNo X0.here hx rfl (hb hby d3_24) rfl (by decide) ?_
          show Steps p.tables e below (s₁.setTop (mkF m 27 #[.val (.ref t1), .val (.int (Int32.ofNat A)), .val (.int (Int32.ofNat (A + 4))), .val (.ref t2), .val (.int (Int32.ofNat B)), .val (.int (Int32.ofNat (B + M))), .val (.int (4 : Int32)), .val (.int (0 : Int32))] [])) _
          refine XS.aloadN X0.here hx rfl (hb hby d3_27) rfl rfl ?_
          show Steps p.tables e below (s₁.setTop (mkF m 28 #[.val (.ref t1), .val (.int (Int32.ofNat A)), .val (.int (Int32.ofNat (A + 4))), .val (.ref t2), .val (.int (Int32.ofNat B)), .val (.int (Int32.ofNat (B + M))), .val (.int (4 : Int32)), .val (.int (0 : Int32))] [(.ref t1)])) _
          refine XS.iloadN X0.here hx rfl (hb hby d3_28) rfl ?_
          show Steps p.tables e below (s₁.setTop (mkF m 29 #[.val (.ref t1), .val (.int (Int32.ofNat A)), .val (.int (Int32.ofNat (A + 4))), .val (.ref t2), .val (.int (Int32.ofNat B)), .val (.int (Int32.ofNat (B + M))), .val (.int (4 : Int32)), .val (.int (0 : Int32))] [(.int (Int32.ofNat A)), (.ref t1)])) _
          refine XS.iload X0.here hx rfl (hb hby d3_29) rfl ?_
          show Steps p.tables e below (s₁.setTop (mkF m 31 #[.val (.ref t1), .val (.int (Int32.ofNat A)), .val (.int (Int32.ofNat (A + 4))), .val (.ref t2), .val (.int (Int32.ofNat B)), .val (.int (Int32.ofNat (B + M))), .val (.int (4 : Int32)), .val (.int (0 : Int32))] [(.int (0 : Int32)), (.int (Int32.ofNat A)), (.ref t1)])) _
          refine XS.iadd X0.here hx rfl (hb hby d3_31) rfl ?_
          show Steps p.tables e below (s₁.setTop (mkF m 32 #[.val (.ref t1), .val (.int (Int32.ofNat A)), .val (.int (Int32.ofNat (A + 4))), .val (.ref t2), .val (.int (Int32.ofNat B)), .val (.int (Int32.ofNat (B + M))), .val (.int (4 : Int32)), .val (.int (0 : Int32))] [(.int ((Int32.ofNat A) + (0 : Int32))), (.ref t1)])) _
          refine X0.baloadBytes hx (j := ((Int32.ofNat A) + (0 : Int32))) (v := (.int (f (A + 0)))) (by rw [e0]; exact Ar18.1) (State.isArrayOf_alike hZ.alike Ar18.2.1) Ar18.2.2 hin18 hat18 (g := (mkF m 32 #[.val (.ref t1), .val (.int (Int32.ofNat A)), .val (.int (Int32.ofNat (A + 4))), .val (.ref t2), .val (.int (Int32.ofNat B)), .val (.int (Int32.ofNat (B + M))), .val (.int (4 : Int32)), .val (.int (0 : Int32))] [(.int ((Int32.ofNat A) + (0 : Int32))), (.ref t1)])) rfl rfl (hb hby d3_32) _ ?_
          show Steps p.tables e below (s₁.setTop (mkF m 33 #[.val (.ref t1), .val (.int (Int32.ofNat A)), .val (.int (Int32.ofNat (A + 4))), .val (.ref t2), .val (.int (Int32.ofNat B)), .val (.int (Int32.ofNat (B + M))), .val (.int (4 : Int32)), .val (.int (0 : Int32))] [(.int (f (A + 0)))])) _
          refine XS.aloadN X0.here hx rfl (hb hby d3_33) rfl rfl ?_
          show Steps p.tables e below (s₁.setTop (mkF m 34 #[.val (.ref t1), .val (.int (Int32.ofNat A)), .val (.int (Int32.ofNat (A + 4))), .val (.ref t2), .val (.int (Int32.ofNat B)), .val (.int (Int32.ofNat (B + M))), .val (.int (4 : Int32)), .val (.int (0 : Int32))] [(.ref t2), (.int (f (A + 0)))])) _
          refine XS.iload X0.here hx rfl (hb hby d3_34) rfl ?_
          show Steps p.tables e below (s₁.setTop (mkF m 36 #[.val (.ref t1), .val (.int (Int32.ofNat A)), .val (.int (Int32.ofNat (A + 4))), .val (.ref t2), .val (.int (Int32.ofNat B)), .val (.int (Int32.ofNat (B + M))), .val (.int (4 : Int32)), .val (.int (0 : Int32))] [(.int (Int32.ofNat B)), (.ref t2), (.int (f (A + 0)))])) _
          refine XS.iload X0.here hx rfl (hb hby d3_36) rfl ?_
          show Steps p.tables e below (s₁.setTop (mkF m 38 #[.val (.ref t1), .val (.int (Int32.ofNat A)), .val (.int (Int32.ofNat (A + 4))), .val (.ref t2), .val (.int (Int32.ofNat B)), .val (.int (Int32.ofNat (B + M))), .val (.int (4 : Int32)), .val (.int (0 : Int32))] [(.int (0 : Int32)), (.int (Int32.ofNat B)), (.ref t2), (.int (f (A + 0)))])) _
          refine XS.iadd X0.here hx rfl (hb hby d3_38) rfl ?_
          show Steps p.tables e below (s₁.setTop (mkF m 39 #[.val (.ref t1), .val (.int (Int32.ofNat A)), .val (.int (Int32.ofNat (A + 4))), .val (.ref t2), .val (.int (Int32.ofNat B)), .val (.int (Int32.ofNat (B + M))), .val (.int (4 : Int32)), .val (.int (0 : Int32))] [(.int ((Int32.ofNat B) + (0 : Int32))), (.ref t2), (.int (f (A + 0)))])) _
          refine X0.baloadBytes hx (j := ((Int32.ofNat B) + (0 : Int32))) (v := (.int (g (B + 0)))) (by rw [e0]; exact Ar19.1) (State.isArrayOf_alike hZ.alike Ar19.2.1) Ar19.2.2 hin19 hat19 (g := (mkF m 39 #[.val (.ref t1), .val (.int (Int32.ofNat A)), .val (.int (Int32.ofNat (A + 4))), .val (.ref t2), .val (.int (Int32.ofNat B)), .val (.int (Int32.ofNat (B + M))), .val (.int (4 : Int32)), .val (.int (0 : Int32))] [(.int ((Int32.ofNat B) + (0 : Int32))), (.ref t2), (.int (f (A + 0)))])) rfl rfl (hb hby d3_39) _ ?_
          show Steps p.tables e below (s₁.setTop (mkF m 40 #[.val (.ref t1), .val (.int (Int32.ofNat A)), .val (.int (Int32.ofNat (A + 4))), .val (.ref t2), .val (.int (Int32.ofNat B)), .val (.int (Int32.ofNat (B + M))), .val (.int (4 : Int32)), .val (.int (0 : Int32))] [(.int (g (B + 0))), (.int (f (A + 0)))])) _
          refine XS.icmpNo X0.here hx rfl (hb hby d3_40) rfl (feq hc40).1 ?_
          show Steps p.tables e below (s₁.setTop (mkF m 43 #[.val (.ref t1), .val (.int (Int32.ofNat A)), .val (.int (Int32.ofNat (A + 4))), .val (.ref t2), .val (.int (Int32.ofNat B)), .val (.int (Int32.ofNat (B + M))), .val (.int (4 : Int32)), .val (.int (0 : Int32))] [])) _
          refine XS.iconst X0.here hx rfl (hb hby d3_43) ?_
          show Steps p.tables e below (s₁.setTop (mkF m 44 #[.val (.ref t1), .val (.int (Int32.ofNat A)), .val (.int (Int32.ofNat (A + 4))), .val (.ref t2), .val (.int (Int32.ofNat B)), .val (.int (Int32.ofNat (B + M))), .val (.int (4 : Int32)), .val (.int (0 : Int32))] [(.int (0 : Int32))])) _
          exact retN X0 hx (t := .boolean) Bd.returns (by simp) (hb hby d3_44) hr
        · show Q3 Z t1 t2 A B 4 M f g h0 n0 _ s₁.heap _
          rw [e0]
          exact ⟨_, rfl, N0, rfl, Or.inr ⟨rfl, fun q => hc40 (q.2 0 (by omega))⟩⟩
    · obtain ⟨fs, hr, hrun, hended, hW, hsame⟩ := X0.leave (v := some (.int (0 : Int32))) (fun h => by rw [Bd.returns] at h; cases h)
      refine ⟨_, _, pre0 _ ?_, hrun, hended, _, _, rfl, ?_, ⟨_, rfl⟩, hW, hsame.mono (by decide) (by decide)⟩
      · show Steps p.tables e below (s₁.setTop (mkF m 0 #[.val (.ref t1), .val (.int (Int32.ofNat A)), .val (.int (Int32.ofNat (A + 4))), .val (.ref t2), .val (.int (Int32.ofNat B)), .val (.int (Int32.ofNat (B + M))), .unset, .unset] [])) _
        refine seg17 _ ?_
        show Steps p.tables e below (s₁.setTop (mkF m 12 #[.val (.ref t1), .val (.int (Int32.ofNat A)), .val (.int (Int32.ofNat (A + 4))), .val (.ref t2), .val (.int (Int32.ofNat B)), .val (.int (Int32.ofNat (B + M))), .val (.int (4 : Int32)), .unset] [(.int (Int32.ofNat M)), (.int (4 : Int32))])) _
        refine XS.icmpNo X0.here hx rfl (hb hby d3_12) rfl (feq hc12).1 ?_
        show Steps p.tables e below (s₁.setTop (mkF m 15 #[.val (.ref t1), .val (.int (Int32.ofNat A)), .val (.int (Int32.ofNat (A + 4))), .val (.ref t2), .val (.int (Int32.ofNat B)), .val (.int (Int32.ofNat (B + M))), .val (.int (4 : Int32)), .unset] [])) _
        refine XS.iconst X0.here hx rfl (hb hby d3_15) ?_
        show Steps p.tables e below (s₁.setTop (mkF m 16 #[.val (.ref t1), .val (.int (Int32.ofNat A)), .val (.int (Int32.ofNat (A + 4))), .val (.ref t2), .val (.int (Int32.ofNat B)), .val (.int (Int32.ofNat (B + M))), .val (.int (4 : Int32)), .unset] [(.int (0 : Int32))])) _
        exact retN X0 hx (t := .boolean) Bd.returns (by simp) (hb hby d3_16) hr
      · show Q3 Z t1 t2 A B 4 M f g h0 n0 _ s₁.heap _
        rw [e0]
        exact ⟨_, rfl, N0, rfl, Or.inr ⟨rfl, fun q => hc12 (by rw [← q.1]; rfl)⟩⟩
theorem pd_76 : parseMethodDescriptor "(II[BIII)B" = some ⟨[.int, .int, (.array .byte), .int, .int, .int], some .byte⟩ := by decide +kernel
theorem pd_77 : parseMethodDescriptor "([BI[BIII)Z" = some ⟨[(.array .byte), .int, (.array .byte), .int, .int, .int], some .boolean⟩ := by decide +kernel
theorem pd_78 : parseMethodDescriptor "([BII[BII)Z" = some ⟨[(.array .byte), .int, .int, (.array .byte), .int, .int], some .boolean⟩ := by decide +kernel
theorem ef_0 (m : MethodId) (x0 : Int32) (x1 : Int32) (x2 : Int32) (x3 : Int32) (x4 : Int32) : entryFrame m #[(.int x0), (.int x1), (.int x2), (.int x3), (.int x4)] maxLocals = mkF m 0 #[.val (.int x0), .val (.int x1), .val (.int x2), .val (.int x3), .val (.int x4), .unset, .unset, .unset, .unset, .unset, .unset, .unset, .unset, .unset, .unset, .unset] [] := by first | (simp [entryFrame, mkF, argsToLocals, Value.category, maxLocals]; done) | rfl
def Q0 (Z : State) (p1 : Int32) (p2 : Int32) (p3 : Int32) (p4 : Int32) (p5 : Int32) (h0 : Heap) (n0 : Nat) (v : Option Value) (h : Heap) (L : List Loc) : Prop := v = some (.int (1 : Int32)) ∧ Fr n0 L
set_option maxRecDepth 65536 in
set_option maxHeartbeats 40000000 in
theorem rm0 (l : Launch) (Z : State) (a0 : Array Value) (hw : ∀ d ∈ tables_1, d.before a0 Z = true) (ws : List Jvm.Cond) (p1 : Int32) (p2 : Int32) (p3 : Int32) (p4 : Int32) (p5 : Int32) (h0 : Heap) (n0 : Nat) (Z0 : n0 ≤ h0.size) :
    MetFree l x (head1 (Jvm.Cond.code x code maxLocals ret :: ws) room_1) (fun a U => a = #[(.int p1), (.int p2), (.int p3), (.int p4), (.int p5)] ∧ Z.Warmed39 U.vm ∧ U.heap = h0) (fun _ _ _ _ _ => True) (fun _ U o U' => ∃ v L, o = .returned v ∧ Q0 Z p1 p2 p3 p4 p5 h0 n0 v U'.heap L ∧ FrameEnd U o U' L room_1.cells room_1.slots) := by
  refine MetFree.of_bodySF (plainFor_of_name pn_1) hisR ?_
  intro p e s m args below meth c s₁ Bd hml0 hP hK
  obtain ⟨rfl, hZ, hh⟩ := hP
  have hx := Bd.exec
  have hby := Bd.bytes
  have hml : c.maxLocals = 16 := hml0
  have hown : s.vm.findClass "com/example/trailsmith/trailsmith/check/BytesEqualPinLaw" = some m.cls := findClass_of_methodNamed Bd.named
  have hnm := (name_of_methodNamed Bd.named Bd.method).1
  have X0 : Stand p l e room_1 s m #[(.int p1), (.int p2), (.int p3), (.int p4), (.int p5)] below meth c s₁ [] 0 0 := Stand.of_body Bd
  have e0 : s₁.heap = h0 := by rw [← hh, Bd.state]; rfl
  have N0 := Fr.nil n0
  have pre0 : ∀ t, Steps p.tables e below (s₁.setTop (mkF m 0 #[.val (.int p1), .val (.int p2), .val (.int p3), .val (.int p4), .val (.int p5), .unset, .unset, .unset, .unset, .unset, .unset, .unset, .unset, .unset, .unset, .unset] [])) t → Steps p.tables e below (s₁.setTop (entryFrame m #[(.int p1), (.int p2), (.int p3), (.int p4), (.int p5)] maxLocals)) t := fun t k => castTop (ef_0 m p1 p2 p3 p4 p5) k
  have seg1 : ∀ target, Steps p.tables e below (s₁.setTop (mkF m 8 #[.val (.int p1), .val (.int p2), .val (.int p3), .val (.int p4), .val (.int p5), .val (.int ((p3 &&& (2147483647 : Int32)) % (5 : Int32))), .unset, .unset, .unset, .unset, .unset, .unset, .unset, .unset, .unset, .unset] [])) target → Steps p.tables e below (s₁.setTop (mkF m 0 #[.val (.int p1), .val (.int p2), .val (.int p3), .val (.int p4), .val (.int p5), .unset, .unset, .unset, .unset, .unset, .unset, .unset, .unset, .unset, .unset, .unset] [])) target := by
    intro target kt
    show Steps p.tables e below (s₁.setTop (mkF m 0 #[.val (.int p1), .val (.int p2), .val (.int p3), .val (.int p4), .val (.int p5), .unset, .unset, .unset, .unset, .unset, .unset, .unset, .unset, .unset, .unset, .unset] [])) _
    refine XS.iloadN X0.here hx rfl (hb hby at_0) rfl ?_
    show Steps p.tables e below (s₁.setTop (mkF m 1 #[.val (.int p1), .val (.int p2), .val (.int p3), .val (.int p4), .val (.int p5), .unset, .unset, .unset, .unset, .unset, .unset, .unset, .unset, .unset, .unset, .unset] [(.int p3)])) _
    refine X0.ldcInt hx hown (mvT hZ (hw _ (List.mem_of_getElem? (i := 0) rfl))) (g := (mkF m 1 #[.val (.int p1), .val (.int p2), .val (.int p3), .val (.int p4), .val (.int p5), .unset, .unset, .unset, .unset, .unset, .unset, .unset, .unset, .unset, .unset, .unset] [(.int p3)])) rfl (hb hby at_1) _ ?_
    show Steps p.tables e below (s₁.setTop (mkF m 3 #[.val (.int p1), .val (.int p2), .val (.int p3), .val (.int p4), .val (.int p5), .unset, .unset, .unset, .unset, .unset, .unset, .unset, .unset, .unset, .unset, .unset] [(.int (2147483647 : Int32)), (.int p3)])) _
    refine XS.iand X0.here hx rfl (hb hby at_3) rfl ?_
    show Steps p.tables e below (s₁.setTop (mkF m 4 #[.val (.int p1), .val (.int p2), .val (.int p3), .val (.int p4), .val (.int p5), .unset, .unset, .unset, .unset, .unset, .unset, .unset, .unset, .unset, .unset, .unset] [(.int (p3 &&& (2147483647 : Int32)))])) _
    refine XS.iconst X0.here hx rfl (hb hby at_4) ?_
    show Steps p.tables e below (s₁.setTop (mkF m 5 #[.val (.int p1), .val (.int p2), .val (.int p3), .val (.int p4), .val (.int p5), .unset, .unset, .unset, .unset, .unset, .unset, .unset, .unset, .unset, .unset, .unset] [(.int (5 : Int32)), (.int (p3 &&& (2147483647 : Int32)))])) _
    refine XS.irem X0.here hx rfl (hb hby at_5) rfl (by decide) ?_
    rw [irem_eq_mod]
    show Steps p.tables e below (s₁.setTop (mkF m 6 #[.val (.int p1), .val (.int p2), .val (.int p3), .val (.int p4), .val (.int p5), .unset, .unset, .unset, .unset, .unset, .unset, .unset, .unset, .unset, .unset, .unset] [(.int ((p3 &&& (2147483647 : Int32)) % (5 : Int32)))])) _
    refine XS.istore X0.here hx rfl (hb hby at_6) rfl (l' := #[.val (.int p1), .val (.int p2), .val (.int p3), .val (.int p4), .val (.int p5), .val (.int ((p3 &&& (2147483647 : Int32)) % (5 : Int32))), .unset, .unset, .unset, .unset, .unset, .unset, .unset, .unset, .unset, .unset]) rfl ?_
    exact kt
  obtain ⟨A, hA, eA⟩ := own_mod5 p3
  rw [show ((p3 &&& (2147483647 : Int32)) % (5 : Int32)) = (Int32.ofNat A) from eA] at seg1
  have seg2 : ∀ target, Steps p.tables e below (s₁.setTop (mkF m 22 #[.val (.int p1), .val (.int p2), .val (.int p3), .val (.int p4), .val (.int p5), .val (.int (Int32.ofNat A)), .val (.int ((((p3.toUInt32 >>> ((8 : Int32) &&& 31).toUInt32).toInt32) &&& (8388607 : Int32)) % ((5 : Int32) - (Int32.ofNat A)))), .unset, .unset, .unset, .unset, .unset, .unset, .unset, .unset, .unset] [])) target → Steps p.tables e below (s₁.setTop (mkF m 8 #[.val (.int p1), .val (.int p2), .val (.int p3), .val (.int p4), .val (.int p5), .val (.int (Int32.ofNat A)), .unset, .unset, .unset, .unset, .unset, .unset, .unset, .unset, .unset, .unset] [])) target := by
    intro target kt
    show Steps p.tables e below (s₁.setTop (mkF m 8 #[.val (.int p1), .val (.int p2), .val (.int p3), .val (.int p4), .val (.int p5), .val (.int (Int32.ofNat A)), .unset, .unset, .unset, .unset, .unset, .unset, .unset, .unset, .unset, .unset] [])) _
    refine XS.iloadN X0.here hx rfl (hb hby at_8) rfl ?_
    show Steps p.tables e below (s₁.setTop (mkF m 9 #[.val (.int p1), .val (.int p2), .val (.int p3), .val (.int p4), .val (.int p5), .val (.int (Int32.ofNat A)), .unset, .unset, .unset, .unset, .unset, .unset, .unset, .unset, .unset, .unset] [(.int p3)])) _
    refine XS.bipush X0.here hx rfl (hb hby at_9) ?_
    show Steps p.tables e below (s₁.setTop (mkF m 11 #[.val (.int p1), .val (.int p2), .val (.int p3), .val (.int p4), .val (.int p5), .val (.int (Int32.ofNat A)), .unset, .unset, .unset, .unset, .unset, .unset, .unset, .unset, .unset, .unset] [(.int (8 : Int32)), (.int p3)])) _
    refine XS.iushr X0.here hx rfl (hb hby at_11) rfl ?_
    show Steps p.tables e below (s₁.setTop (mkF m 12 #[.val (.int p1), .val (.int p2), .val (.int p3), .val (.int p4), .val (.int p5), .val (.int (Int32.ofNat A)), .unset, .unset, .unset, .unset, .unset, .unset, .unset, .unset, .unset, .unset] [(.int ((p3.toUInt32 >>> ((8 : Int32) &&& 31).toUInt32).toInt32))])) _
    refine X0.ldcInt hx hown (mvT hZ (hw _ (List.mem_of_getElem? (i := 1) rfl))) (g := (mkF m 12 #[.val (.int p1), .val (.int p2), .val (.int p3), .val (.int p4), .val (.int p5), .val (.int (Int32.ofNat A)), .unset, .unset, .unset, .unset, .unset, .unset, .unset, .unset, .unset, .unset] [(.int ((p3.toUInt32 >>> ((8 : Int32) &&& 31).toUInt32).toInt32))])) rfl (hb hby at_12) _ ?_
    show Steps p.tables e below (s₁.setTop (mkF m 14 #[.val (.int p1), .val (.int p2), .val (.int p3), .val (.int p4), .val (.int p5), .val (.int (Int32.ofNat A)), .unset, .unset, .unset, .unset, .unset, .unset, .unset, .unset, .unset, .unset] [(.int (8388607 : Int32)), (.int ((p3.toUInt32 >>> ((8 : Int32) &&& 31).toUInt32).toInt32))])) _
    refine XS.iand X0.here hx rfl (hb hby at_14) rfl ?_
    show Steps p.tables e below (s₁.setTop (mkF m 15 #[.val (.int p1), .val (.int p2), .val (.int p3), .val (.int p4), .val (.int p5), .val (.int (Int32.ofNat A)), .unset, .unset, .unset, .unset, .unset, .unset, .unset, .unset, .unset, .unset] [(.int (((p3.toUInt32 >>> ((8 : Int32) &&& 31).toUInt32).toInt32) &&& (8388607 : Int32)))])) _
    refine XS.iconst X0.here hx rfl (hb hby at_15) ?_
    show Steps p.tables e below (s₁.setTop (mkF m 16 #[.val (.int p1), .val (.int p2), .val (.int p3), .val (.int p4), .val (.int p5), .val (.int (Int32.ofNat A)), .unset, .unset, .unset, .unset, .unset, .unset, .unset, .unset, .unset, .unset] [(.int (5 : Int32)), (.int (((p3.toUInt32 >>> ((8 : Int32) &&& 31).toUInt32).toInt32) &&& (8388607 : Int32)))])) _
    refine XS.iload X0.here hx rfl (hb hby at_16) rfl ?_
    show Steps p.tables e below (s₁.setTop (mkF m 18 #[.val (.int p1), .val (.int p2), .val (.int p3), .val (.int p4), .val (.int p5), .val (.int (Int32.ofNat A)), .unset, .unset, .unset, .unset, .unset, .unset, .unset, .unset, .unset, .unset] [(.int (Int32.ofNat A)), (.int (5 : Int32)), (.int (((p3.toUInt32 >>> ((8 : Int32) &&& 31).toUInt32).toInt32) &&& (8388607 : Int32)))])) _
    refine XS.isub X0.here hx rfl (hb hby at_18) rfl ?_
    show Steps p.tables e below (s₁.setTop (mkF m 19 #[.val (.int p1), .val (.int p2), .val (.int p3), .val (.int p4), .val (.int p5), .val (.int (Int32.ofNat A)), .unset, .unset, .unset, .unset, .unset, .unset, .unset, .unset, .unset, .unset] [(.int ((5 : Int32) - (Int32.ofNat A))), (.int (((p3.toUInt32 >>> ((8 : Int32) &&& 31).toUInt32).toInt32) &&& (8388607 : Int32)))])) _
    refine XS.irem X0.here hx rfl (hb hby at_19) rfl (own_nz (by rw [own_d5 hA]; omega)) ?_
    rw [irem_eq_mod]
    show Steps p.tables e below (s₁.setTop (mkF m 20 #[.val (.int p1), .val (.int p2), .val (.int p3), .val (.int p4), .val (.int p5), .val (.int (Int32.ofNat A)), .unset, .unset, .unset, .unset, .unset, .unset, .unset, .unset, .unset, .unset] [(.int ((((p3.toUInt32 >>> ((8 : Int32) &&& 31).toUInt32).toInt32) &&& (8388607 : Int32)) % ((5 : Int32) - (Int32.ofNat A))))])) _
    refine XS.istore X0.here hx rfl (hb hby at_20) rfl (l' := #[.val (.int p1), .val (.int p2), .val (.int p3), .val (.int p4), .val (.int p5), .val (.int (Int32.ofNat A)), .val (.int ((((p3.toUInt32 >>> ((8 : Int32) &&& 31).toUInt32).toInt32) &&& (8388607 : Int32)) % ((5 : Int32) - (Int32.ofNat A)))), .unset, .unset, .unset, .unset, .unset, .unset, .unset, .unset, .unset]) rfl ?_
    exact kt
  obtain ⟨N, hAN, eN⟩ := own_len ((p3.toUInt32 >>> ((8 : Int32) &&& 31).toUInt32).toInt32) 8388607 _ hA (by decide) (own_d5 hA)
  rw [show ((((p3.toUInt32 >>> ((8 : Int32) &&& 31).toUInt32).toInt32) &&& (8388607 : Int32)) % ((5 : Int32) - (Int32.ofNat A))) = (Int32.ofNat N) from eN] at seg2
  have seg3 : ∀ target, Steps p.tables e below (s₁.setTop (mkF m 29 #[.val (.int p1), .val (.int p2), .val (.int p3), .val (.int p4), .val (.int p5), .val (.int (Int32.ofNat A)), .val (.int (Int32.ofNat N)), .val (.int ((Int32.ofNat A) + (Int32.ofNat N))), .unset, .unset, .unset, .unset, .unset, .unset, .unset, .unset] [])) target → Steps p.tables e below (s₁.setTop (mkF m 22 #[.val (.int p1), .val (.int p2), .val (.int p3), .val (.int p4), .val (.int p5), .val (.int (Int32.ofNat A)), .val (.int (Int32.ofNat N)), .unset, .unset, .unset, .unset, .unset, .unset, .unset, .unset, .unset] [])) target := by
    intro target kt
    show Steps p.tables e below (s₁.setTop (mkF m 22 #[.val (.int p1), .val (.int p2), .val (.int p3), .val (.int p4), .val (.int p5), .val (.int (Int32.ofNat A)), .val (.int (Int32.ofNat N)), .unset, .unset, .unset, .unset, .unset, .unset, .unset, .unset, .unset] [])) _
    refine XS.iload X0.here hx rfl (hb hby at_22) rfl ?_
    show Steps p.tables e below (s₁.setTop (mkF m 24 #[.val (.int p1), .val (.int p2), .val (.int p3), .val (.int p4), .val (.int p5), .val (.int (Int32.ofNat A)), .val (.int (Int32.ofNat N)), .unset, .unset, .unset, .unset, .unset, .unset, .unset, .unset, .unset] [(.int (Int32.ofNat A))])) _
    refine XS.iload X0.here hx rfl (hb hby at_24) rfl ?_
    show Steps p.tables e below (s₁.setTop (mkF m 26 #[.val (.int p1), .val (.int p2), .val (.int p3), .val (.int p4), .val (.int p5), .val (.int (Int32.ofNat A)), .val (.int (Int32.ofNat N)), .unset, .unset, .unset, .unset, .unset, .unset, .unset, .unset, .unset] [(.int (Int32.ofNat N)), (.int (Int32.ofNat A))])) _
    refine XS.iadd X0.here hx rfl (hb hby at_26) rfl ?_
    show Steps p.tables e below (s₁.setTop (mkF m 27 #[.val (.int p1), .val (.int p2), .val (.int p3), .val (.int p4), .val (.int p5), .val (.int (Int32.ofNat A)), .val (.int (Int32.ofNat N)), .unset, .unset, .unset, .unset, .unset, .unset, .unset, .unset, .unset] [(.int ((Int32.ofNat A) + (Int32.ofNat N)))])) _
    refine XS.istore X0.here hx rfl (hb hby at_27) rfl (l' := #[.val (.int p1), .val (.int p2), .val (.int p3), .val (.int p4), .val (.int p5), .val (.int (Int32.ofNat A)), .val (.int (Int32.ofNat N)), .val (.int ((Int32.ofNat A) + (Int32.ofNat N))), .unset, .unset, .unset, .unset, .unset, .unset, .unset, .unset]) rfl ?_
    exact kt
  rw [show ((Int32.ofNat A) + (Int32.ofNat N)) = (Int32.ofNat (A + N)) from (own_ad A N)] at seg3
  have seg4 : ∀ target, Steps p.tables e below (s₁.setTop (mkF m 37 #[.val (.int p1), .val (.int p2), .val (.int p3), .val (.int p4), .val (.int p5), .val (.int (Int32.ofNat A)), .val (.int (Int32.ofNat N)), .val (.int (Int32.ofNat (A + N))), .val (.int ((p4 &&& (2147483647 : Int32)) % (5 : Int32))), .unset, .unset, .unset, .unset, .unset, .unset, .unset] [])) target → Steps p.tables e below (s₁.setTop (mkF m 29 #[.val (.int p1), .val (.int p2), .val (.int p3), .val (.int p4), .val (.int p5), .val (.int (Int32.ofNat A)), .val (.int (Int32.ofNat N)), .val (.int (Int32.ofNat (A + N))), .unset, .unset, .unset, .unset, .unset, .unset, .unset, .unset] [])) target := by
    intro target kt
    show Steps p.tables e below (s₁.setTop (mkF m 29 #[.val (.int p1), .val (.int p2), .val (.int p3), .val (.int p4), .val (.int p5), .val (.int (Int32.ofNat A)), .val (.int (Int32.ofNat N)), .val (.int (Int32.ofNat (A + N))), .unset, .unset, .unset, .unset, .unset, .unset, .unset, .unset] [])) _
    refine XS.iloadN X0.here hx rfl (hb hby at_29) rfl ?_
    show Steps p.tables e below (s₁.setTop (mkF m 30 #[.val (.int p1), .val (.int p2), .val (.int p3), .val (.int p4), .val (.int p5), .val (.int (Int32.ofNat A)), .val (.int (Int32.ofNat N)), .val (.int (Int32.ofNat (A + N))), .unset, .unset, .unset, .unset, .unset, .unset, .unset, .unset] [(.int p4)])) _
    refine X0.ldcInt hx hown (mvT hZ (hw _ (List.mem_of_getElem? (i := 0) rfl))) (g := (mkF m 30 #[.val (.int p1), .val (.int p2), .val (.int p3), .val (.int p4), .val (.int p5), .val (.int (Int32.ofNat A)), .val (.int (Int32.ofNat N)), .val (.int (Int32.ofNat (A + N))), .unset, .unset, .unset, .unset, .unset, .unset, .unset, .unset] [(.int p4)])) rfl (hb hby at_30) _ ?_
    show Steps p.tables e below (s₁.setTop (mkF m 32 #[.val (.int p1), .val (.int p2), .val (.int p3), .val (.int p4), .val (.int p5), .val (.int (Int32.ofNat A)), .val (.int (Int32.ofNat N)), .val (.int (Int32.ofNat (A + N))), .unset, .unset, .unset, .unset, .unset, .unset, .unset, .unset] [(.int (2147483647 : Int32)), (.int p4)])) _
    refine XS.iand X0.here hx rfl (hb hby at_32) rfl ?_
    show Steps p.tables e below (s₁.setTop (mkF m 33 #[.val (.int p1), .val (.int p2), .val (.int p3), .val (.int p4), .val (.int p5), .val (.int (Int32.ofNat A)), .val (.int (Int32.ofNat N)), .val (.int (Int32.ofNat (A + N))), .unset, .unset, .unset, .unset, .unset, .unset, .unset, .unset] [(.int (p4 &&& (2147483647 : Int32)))])) _
    refine XS.iconst X0.here hx rfl (hb hby at_33) ?_
    show Steps p.tables e below (s₁.setTop (mkF m 34 #[.val (.int p1), .val (.int p2), .val (.int p3), .val (.int p4), .val (.int p5), .val (.int (Int32.ofNat A)), .val (.int (Int32.ofNat N)), .val (.int (Int32.ofNat (A + N))), .unset, .unset, .unset, .unset, .unset, .unset, .unset, .unset] [(.int (5 : Int32)), (.int (p4 &&& (2147483647 : Int32)))])) _
    refine XS.irem X0.here hx rfl (hb hby at_34) rfl (by decide) ?_
    rw [irem_eq_mod]
    show Steps p.tables e below (s₁.setTop (mkF m 35 #[.val (.int p1), .val (.int p2), .val (.int p3), .val (.int p4), .val (.int p5), .val (.int (Int32.ofNat A)), .val (.int (Int32.ofNat N)), .val (.int (Int32.ofNat (A + N))), .unset, .unset, .unset, .unset, .unset, .unset, .unset, .unset] [(.int ((p4 &&& (2147483647 : Int32)) % (5 : Int32)))])) _
    refine XS.istore X0.here hx rfl (hb hby at_35) rfl (l' := #[.val (.int p1), .val (.int p2), .val (.int p3), .val (.int p4), .val (.int p5), .val (.int (Int32.ofNat A)), .val (.int (Int32.ofNat N)), .val (.int (Int32.ofNat (A + N))), .val (.int ((p4 &&& (2147483647 : Int32)) % (5 : Int32))), .unset, .unset, .unset, .unset, .unset, .unset, .unset]) rfl ?_
    exact kt
  obtain ⟨B, hB, eB⟩ := own_mod5 p4
  rw [show ((p4 &&& (2147483647 : Int32)) % (5 : Int32)) = (Int32.ofNat B) from eB] at seg4
  obtain ⟨M, hBM, seg5⟩ : ∃ M : Nat, B + M ≤ 4 ∧ ∀ target, Steps p.tables e below (s₁.setTop (mkF m 81 #[.val (.int p1), .val (.int p2), .val (.int p3), .val (.int p4), .val (.int p5), .val (.int (Int32.ofNat A)), .val (.int (Int32.ofNat N)), .val (.int (Int32.ofNat (A + N))), .val (.int (Int32.ofNat B)), .val (.int ((4 : Int32) - (Int32.ofNat B))), .val (.int (Int32.ofNat M)), .unset, .unset, .unset, .unset, .unset] [])) target → Steps p.tables e below (s₁.setTop (mkF m 43 #[.val (.int p1), .val (.int p2), .val (.int p3), .val (.int p4), .val (.int p5), .val (.int (Int32.ofNat A)), .val (.int (Int32.ofNat N)), .val (.int (Int32.ofNat (A + N))), .val (.int (Int32.ofNat B)), .val (.int ((4 : Int32) - (Int32.ofNat B))), .unset, .unset, .unset, .unset, .unset, .unset] [])) target := by
    by_cases hc49 : (((p4.toUInt32 >>> ((20 : Int32) &&& 31).toUInt32).toInt32) &&& (1 : Int32)) = (0 : Int32)
    · by_cases hc56 : ((4 : Int32) - (Int32.ofNat B)) < (Int32.ofNat N)
      · obtain ⟨M, hM, eM⟩ := own_len ((p4.toUInt32 >>> ((8 : Int32) &&& 31).toUInt32).toInt32) 4095 _ hB (by decide) (own_d41 hB)
        refine ⟨M, hM, fun target kt => ?_⟩
        rw [show Int32.ofNat M = ((((p4.toUInt32 >>> ((8 : Int32) &&& 31).toUInt32).toInt32) &&& (4095 : Int32)) % (((4 : Int32) - (Int32.ofNat B)) + (1 : Int32))) from eM.symm] at kt
        show Steps p.tables e below (s₁.setTop (mkF m 43 #[.val (.int p1), .val (.int p2), .val (.int p3), .val (.int p4), .val (.int p5), .val (.int (Int32.ofNat A)), .val (.int (Int32.ofNat N)), .val (.int (Int32.ofNat (A + N))), .val (.int (Int32.ofNat B)), .val (.int ((4 : Int32) - (Int32.ofNat B))), .unset, .unset, .unset, .unset, .unset, .unset] [])) _
        refine XS.iloadN X0.here hx rfl (hb hby at_43) rfl ?_
        show Steps p.tables e below (s₁.setTop (mkF m 44 #[.val (.int p1), .val (.int p2), .val (.int p3), .val (.int p4), .val (.int p5), .val (.int (Int32.ofNat A)), .val (.int (Int32.ofNat N)), .val (.int (Int32.ofNat (A + N))), .val (.int (Int32.ofNat B)), .val (.int ((4 : Int32) - (Int32.ofNat B))), .unset, .unset, .unset, .unset, .unset, .unset] [(.int p4)])) _
        refine XS.bipush X0.here hx rfl (hb hby at_44) ?_
        show Steps p.tables e below (s₁.setTop (mkF m 46 #[.val (.int p1), .val (.int p2), .val (.int p3), .val (.int p4), .val (.int p5), .val (.int (Int32.ofNat A)), .val (.int (Int32.ofNat N)), .val (.int (Int32.ofNat (A + N))), .val (.int (Int32.ofNat B)), .val (.int ((4 : Int32) - (Int32.ofNat B))), .unset, .unset, .unset, .unset, .unset, .unset] [(.int (20 : Int32)), (.int p4)])) _
        refine XS.iushr X0.here hx rfl (hb hby at_46) rfl ?_
        show Steps p.tables e below (s₁.setTop (mkF m 47 #[.val (.int p1), .val (.int p2), .val (.int p3), .val (.int p4), .val (.int p5), .val (.int (Int32.ofNat A)), .val (.int (Int32.ofNat N)), .val (.int (Int32.ofNat (A + N))), .val (.int (Int32.ofNat B)), .val (.int ((4 : Int32) - (Int32.ofNat B))), .unset, .unset, .unset, .unset, .unset, .unset] [(.int ((p4.toUInt32 >>> ((20 : Int32) &&& 31).toUInt32).toInt32))])) _
        refine XS.iconst X0.here hx rfl (hb hby at_47) ?_
        show Steps p.tables e below (s₁.setTop (mkF m 48 #[.val (.int p1), .val (.int p2), .val (.int p3), .val (.int p4), .val (.int p5), .val (.int (Int32.ofNat A)), .val (.int (Int32.ofNat N)), .val (.int (Int32.ofNat (A + N))), .val (.int (Int32.ofNat B)), .val (.int ((4 : Int32) - (Int32.ofNat B))), .unset, .unset, .unset, .unset, .unset, .unset] [(.int (1 : Int32)), (.int ((p4.toUInt32 >>> ((20 : Int32) &&& 31).toUInt32).toInt32))])) _
        refine XS.iand X0.here hx rfl (hb hby at_48) rfl ?_
        show Steps p.tables e below (s₁.setTop (mkF m 49 #[.val (.int p1), .val (.int p2), .val (.int p3), .val (.int p4), .val (.int p5), .val (.int (Int32.ofNat A)), .val (.int (Int32.ofNat N)), .val (.int (Int32.ofNat (A + N))), .val (.int (Int32.ofNat B)), .val (.int ((4 : Int32) - (Int32.ofNat B))), .unset, .unset, .unset, .unset, .unset, .unset] [(.int (((p4.toUInt32 >>> ((20 : Int32) &&& 31).toUInt32).toInt32) &&& (1 : Int32)))])) _
        refine XS.ifNo X0.here hx rfl (hb hby at_49) rfl ((if0 _ _).trans (teq hc49).2) ?_
        show Steps p.tables e below (s₁.setTop (mkF m 52 #[.val (.int p1), .val (.int p2), .val (.int p3), .val (.int p4), .val (.int p5), .val (.int (Int32.ofNat A)), .val (.int (Int32.ofNat N)), .val (.int (Int32.ofNat (A + N))), .val (.int (Int32.ofNat B)), .val (.int ((4 : Int32) - (Int32.ofNat B))), .unset, .unset, .unset, .unset, .unset, .unset] [])) _
        refine XS.iload X0.here hx rfl (hb hby at_52) rfl ?_
        show Steps p.tables e below (s₁.setTop (mkF m 54 #[.val (.int p1), .val (.int p2), .val (.int p3), .val (.int p4), .val (.int p5), .val (.int (Int32.ofNat A)), .val (.int (Int32.ofNat N)), .val (.int (Int32.ofNat (A + N))), .val (.int (Int32.ofNat B)), .val (.int ((4 : Int32) - (Int32.ofNat B))), .unset, .unset, .unset, .unset, .unset, .unset] [(.int (Int32.ofNat N))])) _
        refine XS.iload X0.here hx rfl (hb hby at_54) rfl ?_
        show Steps p.tables e below (s₁.setTop (mkF m 56 #[.val (.int p1), .val (.int p2), .val (.int p3), .val (.int p4), .val (.int p5), .val (.int (Int32.ofNat A)), .val (.int (Int32.ofNat N)), .val (.int (Int32.ofNat (A + N))), .val (.int (Int32.ofNat B)), .val (.int ((4 : Int32) - (Int32.ofNat B))), .unset, .unset, .unset, .unset, .unset, .unset] [(.int ((4 : Int32) - (Int32.ofNat B))), (.int (Int32.ofNat N))])) _
        refine XS.icmpYes X0.here hx rfl (pc0 := 56) (pc' := 66) rfl (hb hby at_56) rfl (tlt hc56).2.2.1 (by decide) (by decide) ?_
        show Steps p.tables e below (s₁.setTop (mkF m 66 #[.val (.int p1), .val (.int p2), .val (.int p3), .val (.int p4), .val (.int p5), .val (.int (Int32.ofNat A)), .val (.int (Int32.ofNat N)), .val (.int (Int32.ofNat (A + N))), .val (.int (Int32.ofNat B)), .val (.int ((4 : Int32) - (Int32.ofNat B))), .unset, .unset, .unset, .unset, .unset, .unset] [])) _
        refine XS.iloadN X0.here hx rfl (hb hby at_66) rfl ?_
        show Steps p.tables e below (s₁.setTop (mkF m 67 #[.val (.int p1), .val (.int p2), .val (.int p3), .val (.int p4), .val (.int p5), .val (.int (Int32.ofNat A)), .val (.int (Int32.ofNat N)), .val (.int (Int32.ofNat (A + N))), .val (.int (Int32.ofNat B)), .val (.int ((4 : Int32) - (Int32.ofNat B))), .unset, .unset, .unset, .unset, .unset, .unset] [(.int p4)])) _
        refine XS.bipush X0.here hx rfl (hb hby at_67) ?_
        show Steps p.tables e below (s₁.setTop (mkF m 69 #[.val (.int p1), .val (.int p2), .val (.int p3), .val (.int p4), .val (.int p5), .val (.int (Int32.ofNat A)), .val (.int (Int32.ofNat N)), .val (.int (Int32.ofNat (A + N))), .val (.int (Int32.ofNat B)), .val (.int ((4 : Int32) - (Int32.ofNat B))), .unset, .unset, .unset, .unset, .unset, .unset] [(.int (8 : Int32)), (.int p4)])) _
        refine XS.iushr X0.here hx rfl (hb hby at_69) rfl ?_
        show Steps p.tables e below (s₁.setTop (mkF m 70 #[.val (.int p1), .val (.int p2), .val (.int p3), .val (.int p4), .val (.int p5), .val (.int (Int32.ofNat A)), .val (.int (Int32.ofNat N)), .val (.int (Int32.ofNat (A + N))), .val (.int (Int32.ofNat B)), .val (.int ((4 : Int32) - (Int32.ofNat B))), .unset, .unset, .unset, .unset, .unset, .unset] [(.int ((p4.toUInt32 >>> ((8 : Int32) &&& 31).toUInt32).toInt32))])) _
        refine XS.sipush X0.here hx rfl (hb hby at_70) ?_
        show Steps p.tables e below (s₁.setTop (mkF m 73 #[.val (.int p1), .val (.int p2), .val (.int p3), .val (.int p4), .val (.int p5), .val (.int (Int32.ofNat A)), .val (.int (Int32.ofNat N)), .val (.int (Int32.ofNat (A + N))), .val (.int (Int32.ofNat B)), .val (.int ((4 : Int32) - (Int32.ofNat B))), .unset, .unset, .unset, .unset, .unset, .unset] [(.int (4095 : Int32)), (.int ((p4.toUInt32 >>> ((8 : Int32) &&& 31).toUInt32).toInt32))])) _
        refine XS.iand X0.here hx rfl (hb hby at_73) rfl ?_
        show Steps p.tables e below (s₁.setTop (mkF m 74 #[.val (.int p1), .val (.int p2), .val (.int p3), .val (.int p4), .val (.int p5), .val (.int (Int32.ofNat A)), .val (.int (Int32.ofNat N)), .val (.int (Int32.ofNat (A + N))), .val (.int (Int32.ofNat B)), .val (.int ((4 : Int32) - (Int32.ofNat B))), .unset, .unset, .unset, .unset, .unset, .unset] [(.int (((p4.toUInt32 >>> ((8 : Int32) &&& 31).toUInt32).toInt32) &&& (4095 : Int32)))])) _
        refine XS.iload X0.here hx rfl (hb hby at_74) rfl ?_
        show Steps p.tables e below (s₁.setTop (mkF m 76 #[.val (.int p1), .val (.int p2), .val (.int p3), .val (.int p4), .val (.int p5), .val (.int (Int32.ofNat A)), .val (.int (Int32.ofNat N)), .val (.int (Int32.ofNat (A + N))), .val (.int (Int32.ofNat B)), .val (.int ((4 : Int32) - (Int32.ofNat B))), .unset, .unset, .unset, .unset, .unset, .unset] [(.int ((4 : Int32) - (Int32.ofNat B))), (.int (((p4.toUInt32 >>> ((8 : Int32) &&& 31).toUInt32).toInt32) &&& (4095 : Int32)))])) _
        refine XS.iconst X0.here hx rfl (hb hby at_76) ?_
        show Steps p.tables e below (s₁.setTop (mkF m 77 #[.val (.int p1), .val (.int p2), .val (.int p3), .val (.int p4), .val (.int p5), .val (.int (Int32.ofNat A)), .val (.int (Int32.ofNat N)), .val (.int (Int32.ofNat (A + N))), .val (.int (Int32.ofNat B)), .val (.int ((4 : Int32) - (Int32.ofNat B))), .unset, .unset, .unset, .unset, .unset, .unset] [(.int (1 : Int32)), (.int ((4 : Int32) - (Int32.ofNat B))), (.int (((p4.toUInt32 >>> ((8 : Int32) &&& 31).toUInt32).toInt32) &&& (4095 : Int32)))])) _
        refine XS.iadd X0.here hx rfl (hb hby at_77) rfl ?_
        show Steps p.tables e below (s₁.setTop (mkF m 78 #[.val (.int p1), .val (.int p2), .val (.int p3), .val (.int p4), .val (.int p5), .val (.int (Int32.ofNat A)), .val (.int (Int32.ofNat N)), .val (.int (Int32.ofNat (A + N))), .val (.int (Int32.ofNat B)), .val (.int ((4 : Int32) - (Int32.ofNat B))), .unset, .unset, .unset, .unset, .unset, .unset] [(.int (((4 : Int32) - (Int32.ofNat B)) + (1 : Int32))), (.int (((p4.toUInt32 >>> ((8 : Int32) &&& 31).toUInt32).toInt32) &&& (4095 : Int32)))])) _
        refine XS.irem X0.here hx rfl (hb hby at_78) rfl (own_nz (by rw [own_d41 hB]; omega)) ?_
        rw [irem_eq_mod]
        show Steps p.tables e below (s₁.setTop (mkF m 79 #[.val (.int p1), .val (.int p2), .val (.int p3), .val (.int p4), .val (.int p5), .val (.int (Int32.ofNat A)), .val (.int (Int32.ofNat N)), .val (.int (Int32.ofNat (A + N))), .val (.int (Int32.ofNat B)), .val (.int ((4 : Int32) - (Int32.ofNat B))), .unset, .unset, .unset, .unset, .unset, .unset] [(.int ((((p4.toUInt32 >>> ((8 : Int32) &&& 31).toUInt32).toInt32) &&& (4095 : Int32)) % (((4 : Int32) - (Int32.ofNat B)) + (1 : Int32))))])) _
        refine XS.istore X0.here hx rfl (hb hby at_79) rfl (l' := #[.val (.int p1), .val (.int p2), .val (.int p3), .val (.int p4), .val (.int p5), .val (.int (Int32.ofNat A)), .val (.int (Int32.ofNat N)), .val (.int (Int32.ofNat (A + N))), .val (.int (Int32.ofNat B)), .val (.int ((4 : Int32) - (Int32.ofNat B))), .val (.int ((((p4.toUInt32 >>> ((8 : Int32) &&& 31).toUInt32).toInt32) &&& (4095 : Int32)) % (((4 : Int32) - (Int32.ofNat B)) + (1 : Int32)))), .unset, .unset, .unset, .unset, .unset]) rfl ?_
        exact kt
      · refine ⟨N, own_blen hB (by omega) hc56, fun target kt => ?_⟩
        show Steps p.tables e below (s₁.setTop (mkF m 43 #[.val (.int p1), .val (.int p2), .val (.int p3), .val (.int p4), .val (.int p5), .val (.int (Int32.ofNat A)), .val (.int (Int32.ofNat N)), .val (.int (Int32.ofNat (A + N))), .val (.int (Int32.ofNat B)), .val (.int ((4 : Int32) - (Int32.ofNat B))), .unset, .unset, .unset, .unset, .unset, .unset] [])) _
        refine XS.iloadN X0.here hx rfl (hb hby at_43) rfl ?_
        show Steps p.tables e below (s₁.setTop (mkF m 44 #[.val (.int p1), .val (.int p2), .val (.int p3), .val (.int p4), .val (.int p5), .val (.int (Int32.ofNat A)), .val (.int (Int32.ofNat N)), .val (.int (Int32.ofNat (A + N))), .val (.int (Int32.ofNat B)), .val (.int ((4 : Int32) - (Int32.ofNat B))), .unset, .unset, .unset, .unset, .unset, .unset] [(.int p4)])) _
        refine XS.bipush X0.here hx rfl (hb hby at_44) ?_
        show Steps p.tables e below (s₁.setTop (mkF m 46 #[.val (.int p1), .val (.int p2), .val (.int p3), .val (.int p4), .val (.int p5), .val (.int (Int32.ofNat A)), .val (.int (Int32.ofNat N)), .val (.int (Int32.ofNat (A + N))), .val (.int (Int32.ofNat B)), .val (.int ((4 : Int32) - (Int32.ofNat B))), .unset, .unset, .unset, .unset, .unset, .unset] [(.int (20 : Int32)), (.int p4)])) _
        refine XS.iushr X0.here hx rfl (hb hby at_46) rfl ?_
        show Steps p.tables e below (s₁.setTop (mkF m 47 #[.val (.int p1), .val (.int p2), .val (.int p3), .val (.int p4), .val (.int p5), .val (.int (Int32.ofNat A)), .val (.int (Int32.ofNat N)), .val (.int (Int32.ofNat (A + N))), .val (.int (Int32.ofNat B)), .val (.int ((4 : Int32) - (Int32.ofNat B))), .unset, .unset, .unset, .unset, .unset, .unset] [(.int ((p4.toUInt32 >>> ((20 : Int32) &&& 31).toUInt32).toInt32))])) _
        refine XS.iconst X0.here hx rfl (hb hby at_47) ?_
        show Steps p.tables e below (s₁.setTop (mkF m 48 #[.val (.int p1), .val (.int p2), .val (.int p3), .val (.int p4), .val (.int p5), .val (.int (Int32.ofNat A)), .val (.int (Int32.ofNat N)), .val (.int (Int32.ofNat (A + N))), .val (.int (Int32.ofNat B)), .val (.int ((4 : Int32) - (Int32.ofNat B))), .unset, .unset, .unset, .unset, .unset, .unset] [(.int (1 : Int32)), (.int ((p4.toUInt32 >>> ((20 : Int32) &&& 31).toUInt32).toInt32))])) _
        refine XS.iand X0.here hx rfl (hb hby at_48) rfl ?_
        show Steps p.tables e below (s₁.setTop (mkF m 49 #[.val (.int p1), .val (.int p2), .val (.int p3), .val (.int p4), .val (.int p5), .val (.int (Int32.ofNat A)), .val (.int (Int32.ofNat N)), .val (.int (Int32.ofNat (A + N))), .val (.int (Int32.ofNat B)), .val (.int ((4 : Int32) - (Int32.ofNat B))), .unset, .unset, .unset, .unset, .unset, .unset] [(.int (((p4.toUInt32 >>> ((20 : Int32) &&& 31).toUInt32).toInt32) &&& (1 : Int32)))])) _
        refine XS.ifNo X0.here hx rfl (hb hby at_49) rfl ((if0 _ _).trans (teq hc49).2) ?_
        show Steps p.tables e below (s₁.setTop (mkF m 52 #[.val (.int p1), .val (.int p2), .val (.int p3), .val (.int p4), .val (.int p5), .val (.int (Int32.ofNat A)), .val (.int (Int32.ofNat N)), .val (.int (Int32.ofNat (A + N))), .val (.int (Int32.ofNat B)), .val (.int ((4 : Int32) - (Int32.ofNat B))), .unset, .unset, .unset, .unset, .unset, .unset] [])) _
        refine XS.iload X0.here hx rfl (hb hby at_52) rfl ?_
        show Steps p.tables e below (s₁.setTop (mkF m 54 #[.val (.int p1), .val (.int p2), .val (.int p3), .val (.int p4), .val (.int p5), .val (.int (Int32.ofNat A)), .val (.int (Int32.ofNat N)), .val (.int (Int32.ofNat (A + N))), .val (.int (Int32.ofNat B)), .val (.int ((4 : Int32) - (Int32.ofNat B))), .unset, .unset, .unset, .unset, .unset, .unset] [(.int (Int32.ofNat N))])) _
        refine XS.iload X0.here hx rfl (hb hby at_54) rfl ?_
        show Steps p.tables e below (s₁.setTop (mkF m 56 #[.val (.int p1), .val (.int p2), .val (.int p3), .val (.int p4), .val (.int p5), .val (.int (Int32.ofNat A)), .val (.int (Int32.ofNat N)), .val (.int (Int32.ofNat (A + N))), .val (.int (Int32.ofNat B)), .val (.int ((4 : Int32) - (Int32.ofNat B))), .unset, .unset, .unset, .unset, .unset, .unset] [(.int ((4 : Int32) - (Int32.ofNat B))), (.int (Int32.ofNat N))])) _
        refine XS.icmpNo X0.here hx rfl (hb hby at_56) rfl (flt hc56).2.2.1 ?_
        show Steps p.tables e below (s₁.setTop (mkF m 59 #[.val (.int p1), .val (.int p2), .val (.int p3), .val (.int p4), .val (.int p5), .val (.int (Int32.ofNat A)), .val (.int (Int32.ofNat N)), .val (.int (Int32.ofNat (A + N))), .val (.int (Int32.ofNat B)), .val (.int ((4 : Int32) - (Int32.ofNat B))), .unset, .unset, .unset, .unset, .unset, .unset] [])) _
        refine XS.iload X0.here hx rfl (hb hby at_59) rfl ?_
        show Steps p.tables e below (s₁.setTop (mkF m 61 #[.val (.int p1), .val (.int p2), .val (.int p3), .val (.int p4), .val (.int p5), .val (.int (Int32.ofNat A)), .val (.int (Int32.ofNat N)), .val (.int (Int32.ofNat (A + N))), .val (.int (Int32.ofNat B)), .val (.int ((4 : Int32) - (Int32.ofNat B))), .unset, .unset, .unset, .unset, .unset, .unset] [(.int (Int32.ofNat N))])) _
        refine XS.istore X0.here hx rfl (hb hby at_61) rfl (l' := #[.val (.int p1), .val (.int p2), .val (.int p3), .val (.int p4), .val (.int p5), .val (.int (Int32.ofNat A)), .val (.int (Int32.ofNat N)), .val (.int (Int32.ofNat (A + N))), .val (.int (Int32.ofNat B)), .val (.int ((4 : Int32) - (Int32.ofNat B))), .val (.int (Int32.ofNat N)), .unset, .unset, .unset, .unset, .unset]) rfl ?_
        show Steps p.tables e below (s₁.setTop (mkF m 63 #[.val (.int p1), .val (.int p2), .val (.int p3), .val (.int p4), .val (.int p5), .val (.int (Int32.ofNat A)), .val (.int (Int32.ofNat N)), .val (.int (Int32.ofNat (A + N))), .val (.int (Int32.ofNat B)), .val (.int ((4 : Int32) - (Int32.ofNat B))), .val (.int (Int32.ofNat N)), .unset, .unset, .unset, .unset, .unset] [])) _
        refine XS.goto X0.here hx rfl (pc0 := 63) (pc' := 81) rfl (hb hby at_63) (by decide) (by decide) ?_
        exact kt
    · obtain ⟨M, hM, eM⟩ := own_len ((p4.toUInt32 >>> ((8 : Int32) &&& 31).toUInt32).toInt32) 4095 _ hB (by decide) (own_d41 hB)
      refine ⟨M, hM, fun target kt => ?_⟩
      rw [show Int32.ofNat M = ((((p4.toUInt32 >>> ((8 : Int32) &&& 31).toUInt32).toInt32) &&& (4095 : Int32)) % (((4 : Int32) - (Int32.ofNat B)) + (1 : Int32))) from eM.symm] at kt
      show Steps p.tables e below (s₁.setTop (mkF m 43 #[.val (.int p1), .val (.int p2), .val (.int p3), .val (.int p4), .val (.int p5), .val (.int (Int32.ofNat A)), .val (.int (Int32.ofNat N)), .val (.int (Int32.ofNat (A + N))), .val (.int (Int32.ofNat B)), .val (.int ((4 : Int32) - (Int32.ofNat B))), .unset, .unset, .unset, .unset, .unset, .unset] [])) _
      refine XS.iloadN X0.here hx rfl (hb hby at_43) rfl ?_
      show Steps p.tables e below (s₁.setTop (mkF m 44 #[.val (.int p1), .val (.int p2), .val (.int p3), .val (.int p4), .val (.int p5), .val (.int (Int32.ofNat A)), .val (.int (Int32.ofNat N)), .val (.int (Int32.ofNat (A + N))), .val (.int (Int32.ofNat B)), .val (.int ((4 : Int32) - (Int32.ofNat B))), .unset, .unset, .unset, .unset, .unset, .unset] [(.int p4)])) _
      refine XS.bipush X0.here hx rfl (hb hby at_44) ?_
      show Steps p.tables e below (s₁.setTop (mkF m 46 #[.val (.int p1), .val (.int p2), .val (.int p3), .val (.int p4), .val (.int p5), .val (.int (Int32.ofNat A)), .val (.int (Int32.ofNat N)), .val (.int (Int32.ofNat (A + N))), .val (.int (Int32.ofNat B)), .val (.int ((4 : Int32) - (Int32.ofNat B))), .unset, .unset, .unset, .unset, .unset, .unset] [(.int (20 : Int32)), (.int p4)])) _
      refine XS.iushr X0.here hx rfl (hb hby at_46) rfl ?_
      show Steps p.tables e below (s₁.setTop (mkF m 47 #[.val (.int p1), .val (.int p2), .val (.int p3), .val (.int p4), .val (.int p5), .val (.int (Int32.ofNat A)), .val (.int (Int32.ofNat N)), .val (.int (Int32.ofNat (A + N))), .val (.int (Int32.ofNat B)), .val (.int ((4 : Int32) - (Int32.ofNat B))), .unset, .unset, .unset, .unset, .unset, .unset] [(.int ((p4.toUInt32 >>> ((20 : Int32) &&& 31).toUInt32).toInt32))])) _
      refine XS.iconst X0.here hx rfl (hb hby at_47) ?_
      show Steps p.tables e below (s₁.setTop (mkF m 48 #[.val (.int p1), .val (.int p2), .val (.int p3), .val (.int p4), .val (.int p5), .val (.int (Int32.ofNat A)), .val (.int (Int32.ofNat N)), .val (.int (Int32.ofNat (A + N))), .val (.int (Int32.ofNat B)), .val (.int ((4 : Int32) - (Int32.ofNat B))), .unset, .unset, .unset, .unset, .unset, .unset] [(.int (1 : Int32)), (.int ((p4.toUInt32 >>> ((20 : Int32) &&& 31).toUInt32).toInt32))])) _
      refine XS.iand X0.here hx rfl (hb hby at_48) rfl ?_
      show Steps p.tables e below (s₁.setTop (mkF m 49 #[.val (.int p1), .val (.int p2), .val (.int p3), .val (.int p4), .val (.int p5), .val (.int (Int32.ofNat A)), .val (.int (Int32.ofNat N)), .val (.int (Int32.ofNat (A + N))), .val (.int (Int32.ofNat B)), .val (.int ((4 : Int32) - (Int32.ofNat B))), .unset, .unset, .unset, .unset, .unset, .unset] [(.int (((p4.toUInt32 >>> ((20 : Int32) &&& 31).toUInt32).toInt32) &&& (1 : Int32)))])) _
      refine XS.ifYes X0.here hx rfl (pc0 := 49) (pc' := 66) rfl (hb hby at_49) rfl ((if0 _ _).trans (feq hc49).2) (by decide) (by decide) ?_
      show Steps p.tables e below (s₁.setTop (mkF m 66 #[.val (.int p1), .val (.int p2), .val (.int p3), .val (.int p4), .val (.int p5), .val (.int (Int32.ofNat A)), .val (.int (Int32.ofNat N)), .val (.int (Int32.ofNat (A + N))), .val (.int (Int32.ofNat B)), .val (.int ((4 : Int32) - (Int32.ofNat B))), .unset, .unset, .unset, .unset, .unset, .unset] [])) _
      refine XS.iloadN X0.here hx rfl (hb hby at_66) rfl ?_
      show Steps p.tables e below (s₁.setTop (mkF m 67 #[.val (.int p1), .val (.int p2), .val (.int p3), .val (.int p4), .val (.int p5), .val (.int (Int32.ofNat A)), .val (.int (Int32.ofNat N)), .val (.int (Int32.ofNat (A + N))), .val (.int (Int32.ofNat B)), .val (.int ((4 : Int32) - (Int32.ofNat B))), .unset, .unset, .unset, .unset, .unset, .unset] [(.int p4)])) _
      refine XS.bipush X0.here hx rfl (hb hby at_67) ?_
      show Steps p.tables e below (s₁.setTop (mkF m 69 #[.val (.int p1), .val (.int p2), .val (.int p3), .val (.int p4), .val (.int p5), .val (.int (Int32.ofNat A)), .val (.int (Int32.ofNat N)), .val (.int (Int32.ofNat (A + N))), .val (.int (Int32.ofNat B)), .val (.int ((4 : Int32) - (Int32.ofNat B))), .unset, .unset, .unset, .unset, .unset, .unset] [(.int (8 : Int32)), (.int p4)])) _
      refine XS.iushr X0.here hx rfl (hb hby at_69) rfl ?_
      show Steps p.tables e below (s₁.setTop (mkF m 70 #[.val (.int p1), .val (.int p2), .val (.int p3), .val (.int p4), .val (.int p5), .val (.int (Int32.ofNat A)), .val (.int (Int32.ofNat N)), .val (.int (Int32.ofNat (A + N))), .val (.int (Int32.ofNat B)), .val (.int ((4 : Int32) - (Int32.ofNat B))), .unset, .unset, .unset, .unset, .unset, .unset] [(.int ((p4.toUInt32 >>> ((8 : Int32) &&& 31).toUInt32).toInt32))])) _
      refine XS.sipush X0.here hx rfl (hb hby at_70) ?_
      show Steps p.tables e below (s₁.setTop (mkF m 73 #[.val (.int p1), .val (.int p2), .val (.int p3), .val (.int p4), .val (.int p5), .val (.int (Int32.ofNat A)), .val (.int (Int32.ofNat N)), .val (.int (Int32.ofNat (A + N))), .val (.int (Int32.ofNat B)), .val (.int ((4 : Int32) - (Int32.ofNat B))), .unset, .unset, .unset, .unset, .unset, .unset] [(.int (4095 : Int32)), (.int ((p4.toUInt32 >>> ((8 : Int32) &&& 31).toUInt32).toInt32))])) _
      refine XS.iand X0.here hx rfl (hb hby at_73) rfl ?_
      show Steps p.tables e below (s₁.setTop (mkF m 74 #[.val (.int p1), .val (.int p2), .val (.int p3), .val (.int p4), .val (.int p5), .val (.int (Int32.ofNat A)), .val (.int (Int32.ofNat N)), .val (.int (Int32.ofNat (A + N))), .val (.int (Int32.ofNat B)), .val (.int ((4 : Int32) - (Int32.ofNat B))), .unset, .unset, .unset, .unset, .unset, .unset] [(.int (((p4.toUInt32 >>> ((8 : Int32) &&& 31).toUInt32).toInt32) &&& (4095 : Int32)))])) _
      refine XS.iload X0.here hx rfl (hb hby at_74) rfl ?_
      show Steps p.tables e below (s₁.setTop (mkF m 76 #[.val (.int p1), .val (.int p2), .val (.int p3), .val (.int p4), .val (.int p5), .val (.int (Int32.ofNat A)), .val (.int (Int32.ofNat N)), .val (.int (Int32.ofNat (A + N))), .val (.int (Int32.ofNat B)), .val (.int ((4 : Int32) - (Int32.ofNat B))), .unset, .unset, .unset, .unset, .unset, .unset] [(.int ((4 : Int32) - (Int32.ofNat B))), (.int (((p4.toUInt32 >>> ((8 : Int32) &&& 31).toUInt32).toInt32) &&& (4095 : Int32)))])) _
      refine XS.iconst X0.here hx rfl (hb hby at_76) ?_
      show Steps p.tables e below (s₁.setTop (mkF m 77 #[.val (.int p1), .val (.int p2), .val (.int p3), .val (.int p4), .val (.int p5), .val (.int (Int32.ofNat A)), .val (.int (Int32.ofNat N)), .val (.int (Int32.ofNat (A + N))), .val (.int (Int32.ofNat B)), .val (.int ((4 : Int32) - (Int32.ofNat B))), .unset, .unset, .unset, .unset, .unset, .unset] [(.int (1 : Int32)), (.int ((4 : Int32) - (Int32.ofNat B))), (.int (((p4.toUInt32 >>> ((8 : Int32) &&& 31).toUInt32).toInt32) &&& (4095 : Int32)))])) _
      refine XS.iadd X0.here hx rfl (hb hby at_77) rfl ?_
      show Steps p.tables e below (s₁.setTop (mkF m 78 #[.val (.int p1), .val (.int p2), .val (.int p3), .val (.int p4), .val (.int p5), .val (.int (Int32.ofNat A)), .val (.int (Int32.ofNat N)), .val (.int (Int32.ofNat (A + N))), .val (.int (Int32.ofNat B)), .val (.int ((4 : Int32) - (Int32.ofNat B))), .unset, .unset, .unset, .unset, .unset, .unset] [(.int (((4 : Int32) - (Int32.ofNat B)) + (1 : Int32))), (.int (((p4.toUInt32 >>> ((8 : Int32) &&& 31).toUInt32).toInt32) &&& (4095 : Int32)))])) _
      refine XS.irem X0.here hx rfl (hb hby at_78) rfl (own_nz (by rw [own_d41 hB]; omega)) ?_
      rw [irem_eq_mod]
      show Steps p.tables e below (s₁.setTop (mkF m 79 #[.val (.int p1), .val (.int p2), .val (.int p3), .val (.int p4), .val (.int p5), .val (.int (Int32.ofNat A)), .val (.int (Int32.ofNat N)), .val (.int (Int32.ofNat (A + N))), .val (.int (Int32.ofNat B)), .val (.int ((4 : Int32) - (Int32.ofNat B))), .unset, .unset, .unset, .unset, .unset, .unset] [(.int ((((p4.toUInt32 >>> ((8 : Int32) &&& 31).toUInt32).toInt32) &&& (4095 : Int32)) % (((4 : Int32) - (Int32.ofNat B)) + (1 : Int32))))])) _
      refine XS.istore X0.here hx rfl (hb hby at_79) rfl (l' := #[.val (.int p1), .val (.int p2), .val (.int p3), .val (.int p4), .val (.int p5), .val (.int (Int32.ofNat A)), .val (.int (Int32.ofNat N)), .val (.int (Int32.ofNat (A + N))), .val (.int (Int32.ofNat B)), .val (.int ((4 : Int32) - (Int32.ofNat B))), .val (.int ((((p4.toUInt32 >>> ((8 : Int32) &&& 31).toUInt32).toInt32) &&& (4095 : Int32)) % (((4 : Int32) - (Int32.ofNat B)) + (1 : Int32)))), .unset, .unset, .unset, .unset, .unset]) rfl ?_
      exact kt
  have seg6 : ∀ target, Steps p.tables e below (s₁.setTop (mkF m 88 #[.val (.int p1), .val (.int p2), .val (.int p3), .val (.int p4), .val (.int p5), .val (.int (Int32.ofNat A)), .val (.int (Int32.ofNat N)), .val (.int (Int32.ofNat (A + N))), .val (.int (Int32.ofNat B)), .val (.int ((4 : Int32) - (Int32.ofNat B))), .val (.int (Int32.ofNat M)), .val (.int ((Int32.ofNat B) + (Int32.ofNat M))), .unset, .unset, .unset, .unset] [])) target → Steps p.tables e below (s₁.setTop (mkF m 81 #[.val (.int p1), .val (.int p2), .val (.int p3), .val (.int p4), .val (.int p5), .val (.int (Int32.ofNat A)), .val (.int (Int32.ofNat N)), .val (.int (Int32.ofNat (A + N))), .val (.int (Int32.ofNat B)), .val (.int ((4 : Int32) - (Int32.ofNat B))), .val (.int (Int32.ofNat M)), .unset, .unset, .unset, .unset, .unset] [])) target := by
    intro target kt
    show Steps p.tables e below (s₁.setTop (mkF m 81 #[.val (.int p1), .val (.int p2), .val (.int p3), .val (.int p4), .val (.int p5), .val (.int (Int32.ofNat A)), .val (.int (Int32.ofNat N)), .val (.int (Int32.ofNat (A + N))), .val (.int (Int32.ofNat B)), .val (.int ((4 : Int32) - (Int32.ofNat B))), .val (.int (Int32.ofNat M)), .unset, .unset, .unset, .unset, .unset] [])) _
    refine XS.iload X0.here hx rfl (hb hby at_81) rfl ?_
    show Steps p.tables e below (s₁.setTop (mkF m 83 #[.val (.int p1), .val (.int p2), .val (.int p3), .val (.int p4), .val (.int p5), .val (.int (Int32.ofNat A)), .val (.int (Int32.ofNat N)), .val (.int (Int32.ofNat (A + N))), .val (.int (Int32.ofNat B)), .val (.int ((4 : Int32) - (Int32.ofNat B))), .val (.int (Int32.ofNat M)), .unset, .unset, .unset, .unset, .unset] [(.int (Int32.ofNat B))])) _
    refine XS.iload X0.here hx rfl (hb hby at_83) rfl ?_
    show Steps p.tables e below (s₁.setTop (mkF m 85 #[.val (.int p1), .val (.int p2), .val (.int p3), .val (.int p4), .val (.int p5), .val (.int (Int32.ofNat A)), .val (.int (Int32.ofNat N)), .val (.int (Int32.ofNat (A + N))), .val (.int (Int32.ofNat B)), .val (.int ((4 : Int32) - (Int32.ofNat B))), .val (.int (Int32.ofNat M)), .unset, .unset, .unset, .unset, .unset] [(.int (Int32.ofNat M)), (.int (Int32.ofNat B))])) _
    refine XS.iadd X0.here hx rfl (hb hby at_85) rfl ?_
    show Steps p.tables e below (s₁.setTop (mkF m 86 #[.val (.int p1), .val (.int p2), .val (.int p3), .val (.int p4), .val (.int p5), .val (.int (Int32.ofNat A)), .val (.int (Int32.ofNat N)), .val (.int (Int32.ofNat (A + N))), .val (.int (Int32.ofNat B)), .val (.int ((4 : Int32) - (Int32.ofNat B))), .val (.int (Int32.ofNat M)), .unset, .unset, .unset, .unset, .unset] [(.int ((Int32.ofNat B) + (Int32.ofNat M)))])) _
    refine XS.istore X0.here hx rfl (hb hby at_86) rfl (l' := #[.val (.int p1), .val (.int p2), .val (.int p3), .val (.int p4), .val (.int p5), .val (.int (Int32.ofNat A)), .val (.int (Int32.ofNat N)), .val (.int (Int32.ofNat (A + N))), .val (.int (Int32.ofNat B)), .val (.int ((4 : Int32) - (Int32.ofNat B))), .val (.int (Int32.ofNat M)), .val (.int ((Int32.ofNat B) + (Int32.ofNat M))), .unset, .unset, .unset, .unset]) rfl ?_
    exact kt
  rw [show ((Int32.ofNat B) + (Int32.ofNat M)) = (Int32.ofNat (B + M)) from (own_ad B M)] at seg6
  obtain ⟨T7, h7, k7, X7, e7, E7, A7, st7⟩ := newP X0 hx hZ (hw _ (List.mem_of_getElem? (i := 2) rfl)) e0 (g := (mkF m 89 #[.val (.int p1), .val (.int p2), .val (.int p3), .val (.int p4), .val (.int p5), .val (.int (Int32.ofNat A)), .val (.int (Int32.ofNat N)), .val (.int (Int32.ofNat (A + N))), .val (.int (Int32.ofNat B)), .val (.int ((4 : Int32) - (Int32.ofNat B))), .val (.int (Int32.ofNat M)), .val (.int (Int32.ofNat (B + M))), .unset, .unset, .unset, .unset] [(.int (4 : Int32))])) rfl (hb hby at_89) rfl (by decide) (cap := 4) (by decide) (by decide) (by decide) (by decide)
  obtain ⟨t1, g7⟩ : ∃ z, z = h0.size := ⟨_, rfl⟩
  rw [← g7] at A7 st7
  have g_t1 : n0 ≤ t1 := Nat.le_trans Z0 (Nat.le_of_eq g7.symm)
  have Z8 : n0 ≤ h7.size := Nat.le_trans Z0 E7.1
  have f9 : Arv Z h7 t1 k7 .byte (4 : Int32) [(.int (0 : Int32)), (.int (0 : Int32)), (.int (0 : Int32)), (.int (0 : Int32))] (.int (0 : Int32)) := (Arv.new A7 (by decide)).pad (pad_rep [] (.int (0 : Int32)) 4)
  obtain ⟨cl10, Ar10, q10, S10, M10, H10, G10⟩ := id f9
  have hin10 : ¬ ((0 : Int32) < 0 ∨ cl10.slots.size ≤ ((0 : Int32)).toNatClampNeg) := inb_of S10 ⟨by decide, by decide⟩
  obtain ⟨T11, h11, X11, e11, W11, st11⟩ := stB X7 hx hZ e7 Ar10 (j := (0 : Int32)) hin10 (g := (mkF m 98 #[.val (.int p1), .val (.int p2), .val (.int p3), .val (.int p4), .val (.int p5), .val (.int (Int32.ofNat A)), .val (.int (Int32.ofNat N)), .val (.int (Int32.ofNat (A + N))), .val (.int (Int32.ofNat B)), .val (.int ((4 : Int32) - (Int32.ofNat B))), .val (.int (Int32.ofNat M)), .val (.int (Int32.ofNat (B + M))), .val (.ref t1), .unset, .unset, .unset] [(.int (p1.toInt8.toInt32)), (.int (0 : Int32)), (.ref t1)])) rfl rfl (hb hby at_98)
  have f13 : Arv Z h11 t1 k7 .byte (4 : Int32) [(.int (nar .byte (p1.toInt8.toInt32))), (.int (0 : Int32)), (.int (0 : Int32)), (.int (0 : Int32))] (.int (0 : Int32)) := Arv.set Ar10 q10 S10 M10 H10 G10 (fits_nar_byte _) W11 0 (by decide) (Nat.le_of_ble_eq_true rfl)
  have N11 := Fr.snoc X11 N0 g_t1
  have Z14 : n0 ≤ h11.size := Nat.le_trans Z8 (Keep.of_wr W11).1
  obtain ⟨cl15, Ar15, q15, S15, M15, H15, G15⟩ := id f13
  have hin15 : ¬ ((1 : Int32) < 0 ∨ cl15.slots.size ≤ ((1 : Int32)).toNatClampNeg) := inb_of S15 ⟨by decide, by decide⟩
  obtain ⟨T16, h16, X16, e16, W16, st16⟩ := stB X11 hx hZ e11 Ar15 (j := (1 : Int32)) hin15 (g := (mkF m 107 #[.val (.int p1), .val (.int p2), .val (.int p3), .val (.int p4), .val (.int p5), .val (.int (Int32.ofNat A)), .val (.int (Int32.ofNat N)), .val (.int (Int32.ofNat (A + N))), .val (.int (Int32.ofNat B)), .val (.int ((4 : Int32) - (Int32.ofNat B))), .val (.int (Int32.ofNat M)), .val (.int (Int32.ofNat (B + M))), .val (.ref t1), .unset, .unset, .unset] [(.int (((p1.toUInt32 >>> ((8 : Int32) &&& 31).toUInt32).toInt32).toInt8.toInt32)), (.int (1 : Int32)), (.ref t1)])) rfl rfl (hb hby at_107)
  have f18 : Arv Z h16 t1 k7 .byte (4 : Int32) [(.int (nar .byte (p1.toInt8.toInt32))), (.int (nar .byte (((p1.toUInt32 >>> ((8 : Int32) &&& 31).toUInt32).toInt32).toInt8.toInt32))), (.int (0 : Int32)), (.int (0 : Int32))] (.int (0 : Int32)) := Arv.set Ar15 q15 S15 M15 H15 G15 (fits_nar_byte _) W16 1 (by decide) (Nat.le_of_ble_eq_true rfl)
  have N16 := Fr.snoc X16 N11 g_t1
  have Z19 : n0 ≤ h16.size := Nat.le_trans Z14 (Keep.of_wr W16).1
  obtain ⟨cl20, Ar20, q20, S20, M20, H20, G20⟩ := id f18
  have hin20 : ¬ ((2 : Int32) < 0 ∨ cl20.slots.size ≤ ((2 : Int32)).toNatClampNeg) := inb_of S20 ⟨by decide, by decide⟩
  obtain ⟨T21, h21, X21, e21, W21, st21⟩ := stB X16 hx hZ e16 Ar20 (j := (2 : Int32)) hin20 (g := (mkF m 116 #[.val (.int p1), .val (.int p2), .val (.int p3), .val (.int p4), .val (.int p5), .val (.int (Int32.ofNat A)), .val (.int (Int32.ofNat N)), .val (.int (Int32.ofNat (A + N))), .val (.int (Int32.ofNat B)), .val (.int ((4 : Int32) - (Int32.ofNat B))), .val (.int (Int32.ofNat M)), .val (.int (Int32.ofNat (B + M))), .val (.ref t1), .unset, .unset, .unset] [(.int (((p1.toUInt32 >>> ((16 : Int32) &&& 31).toUInt32).toInt32).toInt8.toInt32)), (.int (2 : Int32)), (.ref t1)])) rfl rfl (hb hby at_116)
  have f23 : Arv Z h21 t1 k7 .byte (4 : Int32) [(.int (nar .byte (p1.toInt8.toInt32))), (.int (nar .byte (((p1.toUInt32 >>> ((8 : Int32) &&& 31).toUInt32).toInt32).toInt8.toInt32))), (.int (nar .byte (((p1.toUInt32 >>> ((16 : Int32) &&& 31).toUInt32).toInt32).toInt8.toInt32))), (.int (0 : Int32))] (.int (0 : Int32)) := Arv.set Ar20 q20 S20 M20 H20 G20 (fits_nar_byte _) W21 2 (by decide) (Nat.le_of_ble_eq_true rfl)
  have N21 := Fr.snoc X21 N16 g_t1
  have Z24 : n0 ≤ h21.size := Nat.le_trans Z19 (Keep.of_wr W21).1
  obtain ⟨cl25, Ar25, q25, S25, M25, H25, G25⟩ := id f23
  have hin25 : ¬ ((3 : Int32) < 0 ∨ cl25.slots.size ≤ ((3 : Int32)).toNatClampNeg) := inb_of S25 ⟨by decide, by decide⟩
  obtain ⟨T26, h26, X26, e26, W26, st26⟩ := stB X21 hx hZ e21 Ar25 (j := (3 : Int32)) hin25 (g := (mkF m 125 #[.val (.int p1), .val (.int p2), .val (.int p3), .val (.int p4), .val (.int p5), .val (.int (Int32.ofNat A)), .val (.int (Int32.ofNat N)), .val (.int (Int32.ofNat (A + N))), .val (.int (Int32.ofNat B)), .val (.int ((4 : Int32) - (Int32.ofNat B))), .val (.int (Int32.ofNat M)), .val (.int (Int32.ofNat (B + M))), .val (.ref t1), .unset, .unset, .unset] [(.int (((p1.toUInt32 >>> ((24 : Int32) &&& 31).toUInt32).toInt32).toInt8.toInt32)), (.int (3 : Int32)), (.ref t1)])) rfl rfl (hb hby at_125)
  have f28 : Arv Z h26 t1 k7 .byte (4 : Int32) [(.int (nar .byte (p1.toInt8.toInt32))), (.int (nar .byte (((p1.toUInt32 >>> ((8 : Int32) &&& 31).toUInt32).toInt32).toInt8.toInt32))), (.int (nar .byte (((p1.toUInt32 >>> ((16 : Int32) &&& 31).toUInt32).toInt32).toInt8.toInt32))), (.int (nar .byte (((p1.toUInt32 >>> ((24 : Int32) &&& 31).toUInt32).toInt32).toInt8.toInt32)))] (.int (0 : Int32)) := Arv.set Ar25 q25 S25 M25 H25 G25 (fits_nar_byte _) W26 3 (by decide) (Nat.le_of_ble_eq_true rfl)
  have N26 := Fr.snoc X26 N21 g_t1
  have Z29 : n0 ≤ h26.size := Nat.le_trans Z24 (Keep.of_wr W26).1
  obtain ⟨f, BA⟩ := own_byt f28
  obtain ⟨T30, h30, k30, X30, e30, E30, A30, st30⟩ := newP X26 hx hZ (hw _ (List.mem_of_getElem? (i := 2) rfl)) e26 (g := (mkF m 127 #[.val (.int p1), .val (.int p2), .val (.int p3), .val (.int p4), .val (.int p5), .val (.int (Int32.ofNat A)), .val (.int (Int32.ofNat N)), .val (.int (Int32.ofNat (A + N))), .val (.int (Int32.ofNat B)), .val (.int ((4 : Int32) - (Int32.ofNat B))), .val (.int (Int32.ofNat M)), .val (.int (Int32.ofNat (B + M))), .val (.ref t1), .unset, .unset, .unset] [(.int (4 : Int32))])) rfl (hb hby at_127) rfl (by decide) (cap := 4) (by decide) (by decide) (by decide) (by decide)
  obtain ⟨t2, g30⟩ : ∃ z, z = h26.size := ⟨_, rfl⟩
  rw [← g30] at A30 st30
  have ne31 : t1 ≠ t2 := Nat.ne_of_lt (Nat.lt_of_lt_of_le BA.lt (Nat.le_of_eq g30.symm))
  have g_t2 : n0 ≤ t2 := Nat.le_trans Z29 (Nat.le_of_eq g30.symm)
  have f32 : own_Byt Z h30 t1 f := BA.ext E30
  have Z33 : n0 ≤ h30.size := Nat.le_trans Z29 E30.1
  have f34 : Arv Z h30 t2 k30 .byte (4 : Int32) [(.int (0 : Int32)), (.int (0 : Int32)), (.int (0 : Int32)), (.int (0 : Int32))] (.int (0 : Int32)) := (Arv.new A30 (by decide)).pad (pad_rep [] (.int (0 : Int32)) 4)
  obtain ⟨_, _, ⟨T35, L35, k35, n35⟩, -, X35, ⟨Lc35, hQ35, l35, y35, z35⟩, st35⟩ := Jvm.LawKit.callS X30 hx (y := (⟨"com/example/trailsmith/trailsmith/check/BytesEqualPinLaw", "pick", "(II[BIII)B"⟩ : MethodName)) hown (mvT hZ (hw _ (List.mem_of_getElem? (i := 3) rfl))) (mvT hZ (hw _ (List.mem_of_getElem? (i := 4) rfl))) (mvT hZ (hw _ (List.mem_of_getElem? (i := 5) rfl))) (mvT hZ (hw _ (List.mem_of_getElem? (i := 6) rfl))) (by decide) (backOf (W := 2) (rm1_0 l Z a0 hw [] p5 t1 p2 A B f h30 n0 Z33 f32) hZ (hw _ (List.mem_of_getElem? (i := 6) rfl)) (hw _ (List.mem_of_getElem? (i := 5) rfl)) (by decide) (by decide)) (g := (mkF m 144 #[.val (.int p1), .val (.int p2), .val (.int p3), .val (.int p4), .val (.int p5), .val (.int (Int32.ofNat A)), .val (.int (Int32.ofNat N)), .val (.int (Int32.ofNat (A + N))), .val (.int (Int32.ofNat B)), .val (.int ((4 : Int32) - (Int32.ofNat B))), .val (.int (Int32.ofNat M)), .val (.int (Int32.ofNat (B + M))), .val (.ref t1), .val (.ref t2), .unset, .unset] [(.int p2), (.int (Int32.ofNat B)), (.int (Int32.ofNat A)), (.ref t1), (.int (0 : Int32)), (.int p5), (.int (0 : Int32)), (.ref t2)])) rfl (by rw [hml]; rfl) (argsL := [(.int p5), (.int (0 : Int32)), (.ref t1), (.int (Int32.ofNat A)), (.int (Int32.ofNat B)), (.int p2)]) (rest := [(.int (0 : Int32)), (.ref t2)]) (lenOf pd_76 rfl) rfl (by show 2 * 0 + _ ≤ _; exact Nat.le_of_eq rfl) (hb hby at_144) (fun _ _ => ⟨rfl, e30, (by decide : 2 + 0 ≤ _), (by decide : 8 + 0 ≤ _)⟩)
  dsimp only [Pt.U, Pt.locs, Pt.cells, Pt.slots] at X35 l35 y35 z35 st35 hQ35
  subst l35 y35 z35
  obtain ⟨z0, rfl, N35q, e35⟩ := hQ35
  have N35 := Fr.app N26 N35q
  obtain ⟨cl36, Ar36, q36, S36, M36, H36, G36⟩ := id f34
  have hin36 : ¬ ((0 : Int32) < 0 ∨ cl36.slots.size ≤ ((0 : Int32)).toNatClampNeg) := inb_of S36 ⟨by decide, by decide⟩
  obtain ⟨T37, h37, X37, e37, W37, st37⟩ := stB X35 hx hZ e35 Ar36 (j := (0 : Int32)) hin36 (g := (mkF m 147 #[.val (.int p1), .val (.int p2), .val (.int p3), .val (.int p4), .val (.int p5), .val (.int (Int32.ofNat A)), .val (.int (Int32.ofNat N)), .val (.int (Int32.ofNat (A + N))), .val (.int (Int32.ofNat B)), .val (.int ((4 : Int32) - (Int32.ofNat B))), .val (.int (Int32.ofNat M)), .val (.int (Int32.ofNat (B + M))), .val (.ref t1), .val (.ref t2), .unset, .unset] [(.int z0), (.int (0 : Int32)), (.ref t2)])) rfl rfl (hb hby at_147)
  have f39 : own_Byt Z h37 t1 f := f32.other W37 ne31
  have f40 : Arv Z h37 t2 k30 .byte (4 : Int32) [(.int (nar .byte z0)), (.int (0 : Int32)), (.int (0 : Int32)), (.int (0 : Int32))] (.int (0 : Int32)) := Arv.set Ar36 q36 S36 M36 H36 G36 (fits_nar_byte _) W37 0 (by decide) (Nat.le_of_ble_eq_true rfl)
  have N37 := Fr.snoc X37 N35 g_t2
  have Z41 : n0 ≤ h37.size := Nat.le_trans Z33 (Keep.of_wr W37).1
  obtain ⟨_, _, ⟨T42, L42, k42, n42⟩, -, X42, ⟨Lc42, hQ42, l42, y42, z42⟩, st42⟩ := Jvm.LawKit.callS X37 hx (y := (⟨"com/example/trailsmith/trailsmith/check/BytesEqualPinLaw", "pick", "(II[BIII)B"⟩ : MethodName)) hown (mvT hZ (hw _ (List.mem_of_getElem? (i := 3) rfl))) (mvT hZ (hw _ (List.mem_of_getElem? (i := 4) rfl))) (mvT hZ (hw _ (List.mem_of_getElem? (i := 5) rfl))) (mvT hZ (hw _ (List.mem_of_getElem? (i := 6) rfl))) (by decide) (backOf (W := 2) (rm1_1 l Z a0 hw [] p5 t1 p2 A B f h37 n0 Z41 f39) hZ (hw _ (List.mem_of_getElem? (i := 6) rfl)) (hw _ (List.mem_of_getElem? (i := 5) rfl)) (by decide) (by decide)) (g := (mkF m 161 #[.val (.int p1), .val (.int p2), .val (.int p3), .val (.int p4), .val (.int p5), .val (.int (Int32.ofNat A)), .val (.int (Int32.ofNat N)), .val (.int (Int32.ofNat (A + N))), .val (.int (Int32.ofNat B)), .val (.int ((4 : Int32) - (Int32.ofNat B))), .val (.int (Int32.ofNat M)), .val (.int (Int32.ofNat (B + M))), .val (.ref t1), .val (.ref t2), .unset, .unset] [(.int p2), (.int (Int32.ofNat B)), (.int (Int32.ofNat A)), (.ref t1), (.int (1 : Int32)), (.int p5), (.int (1 : Int32)), (.ref t2)])) rfl (by rw [hml]; rfl) (argsL := [(.int p5), (.int (1 : Int32)), (.ref t1), (.int (Int32.ofNat A)), (.int (Int32.ofNat B)), (.int p2)]) (rest := [(.int (1 : Int32)), (.ref t2)]) (lenOf pd_76 rfl) rfl (by show 2 * 0 + _ ≤ _; exact Nat.le_of_eq rfl) (hb hby at_161) (fun _ _ => ⟨rfl, e37, (by decide : 2 + 0 ≤ _), (by decide : 8 + 0 ≤ _)⟩)
  dsimp only [Pt.U, Pt.locs, Pt.cells, Pt.slots] at X42 l42 y42 z42 st42 hQ42
  subst l42 y42 z42
  obtain ⟨z1, rfl, N42q, e42⟩ := hQ42
  have N42 := Fr.app N37 N42q
  obtain ⟨cl43, Ar43, q43, S43, M43, H43, G43⟩ := id f40
  have hin43 : ¬ ((1 : Int32) < 0 ∨ cl43.slots.size ≤ ((1 : Int32)).toNatClampNeg) := inb_of S43 ⟨by decide, by decide⟩
  obtain ⟨T44, h44, X44, e44, W44, st44⟩ := stB X42 hx hZ e42 Ar43 (j := (1 : Int32)) hin43 (g := (mkF m 164 #[.val (.int p1), .val (.int p2), .val (.int p3), .val (.int p4), .val (.int p5), .val (.int (Int32.ofNat A)), .val (.int (Int32.ofNat N)), .val (.int (Int32.ofNat (A + N))), .val (.int (Int32.ofNat B)), .val (.int ((4 : Int32) - (Int32.ofNat B))), .val (.int (Int32.ofNat M)), .val (.int (Int32.ofNat (B + M))), .val (.ref t1), .val (.ref t2), .unset, .unset] [(.int z1), (.int (1 : Int32)), (.ref t2)])) rfl rfl (hb hby at_164)
  have f46 : own_Byt Z h44 t1 f := f39.other W44 ne31
  have f47 : Arv Z h44 t2 k30 .byte (4 : Int32) [(.int (nar .byte z0)), (.int (nar .byte z1)), (.int (0 : Int32)), (.int (0 : Int32))] (.int (0 : Int32)) := Arv.set Ar43 q43 S43 M43 H43 G43 (fits_nar_byte _) W44 1 (by decide) (Nat.le_of_ble_eq_true rfl)
  have N44 := Fr.snoc X44 N42 g_t2
  have Z48 : n0 ≤ h44.size := Nat.le_trans Z41 (Keep.of_wr W44).1
  obtain ⟨_, _, ⟨T49, L49, k49, n49⟩, -, X49, ⟨Lc49, hQ49, l49, y49, z49⟩, st49⟩ := Jvm.LawKit.callS X44 hx (y := (⟨"com/example/trailsmith/trailsmith/check/BytesEqualPinLaw", "pick", "(II[BIII)B"⟩ : MethodName)) hown (mvT hZ (hw _ (List.mem_of_getElem? (i := 3) rfl))) (mvT hZ (hw _ (List.mem_of_getElem? (i := 4) rfl))) (mvT hZ (hw _ (List.mem_of_getElem? (i := 5) rfl))) (mvT hZ (hw _ (List.mem_of_getElem? (i := 6) rfl))) (by decide) (backOf (W := 2) (rm1_2 l Z a0 hw [] p5 t1 p2 A B f h44 n0 Z48 f46) hZ (hw _ (List.mem_of_getElem? (i := 6) rfl)) (hw _ (List.mem_of_getElem? (i := 5) rfl)) (by decide) (by decide)) (g := (mkF m 178 #[.val (.int p1), .val (.int p2), .val (.int p3), .val (.int p4), .val (.int p5), .val (.int (Int32.ofNat A)), .val (.int (Int32.ofNat N)), .val (.int (Int32.ofNat (A + N))), .val (.int (Int32.ofNat B)), .val (.int ((4 : Int32) - (Int32.ofNat B))), .val (.int (Int32.ofNat M)), .val (.int (Int32.ofNat (B + M))), .val (.ref t1), .val (.ref t2), .unset, .unset] [(.int p2), (.int (Int32.ofNat B)), (.int (Int32.ofNat A)), (.ref t1), (.int (2 : Int32)), (.int p5), (.int (2 : Int32)), (.ref t2)])) rfl (by rw [hml]; rfl) (argsL := [(.int p5), (.int (2 : Int32)), (.ref t1), (.int (Int32.ofNat A)), (.int (Int32.ofNat B)), (.int p2)]) (rest := [(.int (2 : Int32)), (.ref t2)]) (lenOf pd_76 rfl) rfl (by show 2 * 0 + _ ≤ _; exact Nat.le_of_eq rfl) (hb hby at_178) (fun _ _ => ⟨rfl, e44, (by decide : 2 + 0 ≤ _), (by decide : 8 + 0 ≤ _)⟩)
  dsimp only [Pt.U, Pt.locs, Pt.cells, Pt.slots] at X49 l49 y49 z49 st49 hQ49
  subst l49 y49 z49
  obtain ⟨z2, rfl, N49q, e49⟩ := hQ49
  have N49 := Fr.app N44 N49q
  obtain ⟨cl50, Ar50, q50, S50, M50, H50, G50⟩ := id f47
  have hin50 : ¬ ((2 : Int32) < 0 ∨ cl50.slots.size ≤ ((2 : Int32)).toNatClampNeg) := inb_of S50 ⟨by decide, by decide⟩
  obtain ⟨T51, h51, X51, e51, W51, st51⟩ := stB X49 hx hZ e49 Ar50 (j := (2 : Int32)) hin50 (g := (mkF m 181 #[.val (.int p1), .val (.int p2), .val (.int p3), .val (.int p4), .val (.int p5), .val (.int (Int32.ofNat A)), .val (.int (Int32.ofNat N)), .val (.int (Int32.ofNat (A + N))), .val (.int (Int32.ofNat B)), .val (.int ((4 : Int32) - (Int32.ofNat B))), .val (.int (Int32.ofNat M)), .val (.int (Int32.ofNat (B + M))), .val (.ref t1), .val (.ref t2), .unset, .unset] [(.int z2), (.int (2 : Int32)), (.ref t2)])) rfl rfl (hb hby at_181)
  have f53 : own_Byt Z h51 t1 f := f46.other W51 ne31
  have f54 : Arv Z h51 t2 k30 .byte (4 : Int32) [(.int (nar .byte z0)), (.int (nar .byte z1)), (.int (nar .byte z2)), (.int (0 : Int32))] (.int (0 : Int32)) := Arv.set Ar50 q50 S50 M50 H50 G50 (fits_nar_byte _) W51 2 (by decide) (Nat.le_of_ble_eq_true rfl)
  have N51 := Fr.snoc X51 N49 g_t2
  have Z55 : n0 ≤ h51.size := Nat.le_trans Z48 (Keep.of_wr W51).1
  obtain ⟨_, _, ⟨T56, L56, k56, n56⟩, -, X56, ⟨Lc56, hQ56, l56, y56, z56⟩, st56⟩ := Jvm.LawKit.callS X51 hx (y := (⟨"com/example/trailsmith/trailsmith/check/BytesEqualPinLaw", "pick", "(II[BIII)B"⟩ : MethodName)) hown (mvT hZ (hw _ (List.mem_of_getElem? (i := 3) rfl))) (mvT hZ (hw _ (List.mem_of_getElem? (i := 4) rfl))) (mvT hZ (hw _ (List.mem_of_getElem? (i := 5) rfl))) (mvT hZ (hw _ (List.mem_of_getElem? (i := 6) rfl))) (by decide) (backOf (W := 2) (rm1_3 l Z a0 hw [] p5 t1 p2 A B f h51 n0 Z55 f53) hZ (hw _ (List.mem_of_getElem? (i := 6) rfl)) (hw _ (List.mem_of_getElem? (i := 5) rfl)) (by decide) (by decide)) (g := (mkF m 195 #[.val (.int p1), .val (.int p2), .val (.int p3), .val (.int p4), .val (.int p5), .val (.int (Int32.ofNat A)), .val (.int (Int32.ofNat N)), .val (.int (Int32.ofNat (A + N))), .val (.int (Int32.ofNat B)), .val (.int ((4 : Int32) - (Int32.ofNat B))), .val (.int (Int32.ofNat M)), .val (.int (Int32.ofNat (B + M))), .val (.ref t1), .val (.ref t2), .unset, .unset] [(.int p2), (.int (Int32.ofNat B)), (.int (Int32.ofNat A)), (.ref t1), (.int (3 : Int32)), (.int p5), (.int (3 : Int32)), (.ref t2)])) rfl (by rw [hml]; rfl) (argsL := [(.int p5), (.int (3 : Int32)), (.ref t1), (.int (Int32.ofNat A)), (.int (Int32.ofNat B)), (.int p2)]) (rest := [(.int (3 : Int32)), (.ref t2)]) (lenOf pd_76 rfl) rfl (by show 2 * 0 + _ ≤ _; exact Nat.le_of_eq rfl) (hb hby at_195) (fun _ _ => ⟨rfl, e51, (by decide : 2 + 0 ≤ _), (by decide : 8 + 0 ≤ _)⟩)
  dsimp only [Pt.U, Pt.locs, Pt.cells, Pt.slots] at X56 l56 y56 z56 st56 hQ56
  subst l56 y56 z56
  obtain ⟨z3, rfl, N56q, e56⟩ := hQ56
  have N56 := Fr.app N51 N56q
  obtain ⟨cl57, Ar57, q57, S57, M57, H57, G57⟩ := id f54
  have hin57 : ¬ ((3 : Int32) < 0 ∨ cl57.slots.size ≤ ((3 : Int32)).toNatClampNeg) := inb_of S57 ⟨by decide, by decide⟩
  obtain ⟨T58, h58, X58, e58, W58, st58⟩ := stB X56 hx hZ e56 Ar57 (j := (3 : Int32)) hin57 (g := (mkF m 198 #[.val (.int p1), .val (.int p2), .val (.int p3), .val (.int p4), .val (.int p5), .val (.int (Int32.ofNat A)), .val (.int (Int32.ofNat N)), .val (.int (Int32.ofNat (A + N))), .val (.int (Int32.ofNat B)), .val (.int ((4 : Int32) - (Int32.ofNat B))), .val (.int (Int32.ofNat M)), .val (.int (Int32.ofNat (B + M))), .val (.ref t1), .val (.ref t2), .unset, .unset] [(.int z3), (.int (3 : Int32)), (.ref t2)])) rfl rfl (hb hby at_198)
  have f60 : own_Byt Z h58 t1 f := f53.other W58 ne31
  have f61 : Arv Z h58 t2 k30 .byte (4 : Int32) [(.int (nar .byte z0)), (.int (nar .byte z1)), (.int (nar .byte z2)), (.int (nar .byte z3))] (.int (0 : Int32)) := Arv.set Ar57 q57 S57 M57 H57 G57 (fits_nar_byte _) W58 3 (by decide) (Nat.le_of_ble_eq_true rfl)
  have N58 := Fr.snoc X58 N56 g_t2
  have Z62 : n0 ≤ h58.size := Nat.le_trans Z55 (Keep.of_wr W58).1
  obtain ⟨g, BB⟩ := own_byt f61
  have seg63 : ∀ target, Steps p.tables e below (T58.setTop (mkF m 199 #[.val (.int p1), .val (.int p2), .val (.int p3), .val (.int p4), .val (.int p5), .val (.int (Int32.ofNat A)), .val (.int (Int32.ofNat N)), .val (.int (Int32.ofNat (A + N))), .val (.int (Int32.ofNat B)), .val (.int ((4 : Int32) - (Int32.ofNat B))), .val (.int (Int32.ofNat M)), .val (.int (Int32.ofNat (B + M))), .val (.ref t1), .val (.ref t2), .unset, .unset] [])) target → Steps p.tables e below (s₁.setTop (mkF m 0 #[.val (.int p1), .val (.int p2), .val (.int p3), .val (.int p4), .val (.int p5), .unset, .unset, .unset, .unset, .unset, .unset, .unset, .unset, .unset, .unset, .unset] [])) target := by
    intro target kt
    show Steps p.tables e below (s₁.setTop (mkF m 0 #[.val (.int p1), .val (.int p2), .val (.int p3), .val (.int p4), .val (.int p5), .unset, .unset, .unset, .unset, .unset, .unset, .unset, .unset, .unset, .unset, .unset] [])) _
    refine seg1 _ ?_
    show Steps p.tables e below (s₁.setTop (mkF m 8 #[.val (.int p1), .val (.int p2), .val (.int p3), .val (.int p4), .val (.int p5), .val (.int (Int32.ofNat A)), .unset, .unset, .unset, .unset, .unset, .unset, .unset, .unset, .unset, .unset] [])) _
    refine seg2 _ ?_
    show Steps p.tables e below (s₁.setTop (mkF m 22 #[.val (.int p1), .val (.int p2), .val (.int p3), .val (.int p4), .val (.int p5), .val (.int (Int32.ofNat A)), .val (.int (Int32.ofNat N)), .unset, .unset, .unset, .unset, .unset, .unset, .unset, .unset, .unset] [])) _
    refine seg3 _ ?_
    show Steps p.tables e below (s₁.setTop (mkF m 29 #[.val (.int p1), .val (.int p2), .val (.int p3), .val (.int p4), .val (.int p5), .val (.int (Int32.ofNat A)), .val (.int (Int32.ofNat N)), .val (.int (Int32.ofNat (A + N))), .unset, .unset, .unset, .unset, .unset, .unset, .unset, .unset] [])) _
    refine seg4 _ ?_
    show Steps p.tables e below (s₁.setTop (mkF m 37 #[.val (.int p1), .val (.int p2), .val (.int p3), .val (.int p4), .val (.int p5), .val (.int (Int32.ofNat A)), .val (.int (Int32.ofNat N)), .val (.int (Int32.ofNat (A + N))), .val (.int (Int32.ofNat B)), .unset, .unset, .unset, .unset, .unset, .unset, .unset] [])) _
    refine XS.iconst X0.here hx rfl (hb hby at_37) ?_
    show Steps p.tables e below (s₁.setTop (mkF m 38 #[.val (.int p1), .val (.int p2), .val (.int p3), .val (.int p4), .val (.int p5), .val (.int (Int32.ofNat A)), .val (.int (Int32.ofNat N)), .val (.int (Int32.ofNat (A + N))), .val (.int (Int32.ofNat B)), .unset, .unset, .unset, .unset, .unset, .unset, .unset] [(.int (4 : Int32))])) _
    refine XS.iload X0.here hx rfl (hb hby at_38) rfl ?_
    show Steps p.tables e below (s₁.setTop (mkF m 40 #[.val (.int p1), .val (.int p2), .val (.int p3), .val (.int p4), .val (.int p5), .val (.int (Int32.ofNat A)), .val (.int (Int32.ofNat N)), .val (.int (Int32.ofNat (A + N))), .val (.int (Int32.ofNat B)), .unset, .unset, .unset, .unset, .unset, .unset, .unset] [(.int (Int32.ofNat B)), (.int (4 : Int32))])) _
    refine XS.isub X0.here hx rfl (hb hby at_40) rfl ?_
    show Steps p.tables e below (s₁.setTop (mkF m 41 #[.val (.int p1), .val (.int p2), .val (.int p3), .val (.int p4), .val (.int p5), .val (.int (Int32.ofNat A)), .val (.int (Int32.ofNat N)), .val (.int (Int32.ofNat (A + N))), .val (.int (Int32.ofNat B)), .unset, .unset, .unset, .unset, .unset, .unset, .unset] [(.int ((4 : Int32) - (Int32.ofNat B)))])) _
    refine XS.istore X0.here hx rfl (hb hby at_41) rfl (l' := #[.val (.int p1), .val (.int p2), .val (.int p3), .val (.int p4), .val (.int p5), .val (.int (Int32.ofNat A)), .val (.int (Int32.ofNat N)), .val (.int (Int32.ofNat (A + N))), .val (.int (Int32.ofNat B)), .val (.int ((4 : Int32) - (Int32.ofNat B))), .unset, .unset, .unset, .unset, .unset, .unset]) rfl ?_
    show Steps p.tables e below (s₁.setTop (mkF m 43 #[.val (.int p1), .val (.int p2), .val (.int p3), .val (.int p4), .val (.int p5), .val (.int (Int32.ofNat A)), .val (.int (Int32.ofNat N)), .val (.int (Int32.ofNat (A + N))), .val (.int (Int32.ofNat B)), .val (.int ((4 : Int32) - (Int32.ofNat B))), .unset, .unset, .unset, .unset, .unset, .unset] [])) _
    refine seg5 _ ?_
    show Steps p.tables e below (s₁.setTop (mkF m 81 #[.val (.int p1), .val (.int p2), .val (.int p3), .val (.int p4), .val (.int p5), .val (.int (Int32.ofNat A)), .val (.int (Int32.ofNat N)), .val (.int (Int32.ofNat (A + N))), .val (.int (Int32.ofNat B)), .val (.int ((4 : Int32) - (Int32.ofNat B))), .val (.int (Int32.ofNat M)), .unset, .unset, .unset, .unset, .unset] [])) _
    refine seg6 _ ?_
    show Steps p.tables e below (s₁.setTop (mkF m 88 #[.val (.int p1), .val (.int p2), .val (.int p3), .val (.int p4), .val (.int p5), .val (.int (Int32.ofNat A)), .val (.int (Int32.ofNat N)), .val (.int (Int32.ofNat (A + N))), .val (.int (Int32.ofNat B)), .val (.int ((4 : Int32) - (Int32.ofNat B))), .val (.int (Int32.ofNat M)), .val (.int (Int32.ofNat (B + M))), .unset, .unset, .unset, .unset] [])) _
    refine XS.iconst X0.here hx rfl (hb hby at_88) ?_
    show Steps p.tables e below (s₁.setTop (mkF m 89 #[.val (.int p1), .val (.int p2), .val (.int p3), .val (.int p4), .val (.int p5), .val (.int (Int32.ofNat A)), .val (.int (Int32.ofNat N)), .val (.int (Int32.ofNat (A + N))), .val (.int (Int32.ofNat B)), .val (.int ((4 : Int32) - (Int32.ofNat B))), .val (.int (Int32.ofNat M)), .val (.int (Int32.ofNat (B + M))), .unset, .unset, .unset, .unset] [(.int (4 : Int32))])) _
    refine st7 _ ?_
    show Steps p.tables e below (T7.setTop (mkF m 91 #[.val (.int p1), .val (.int p2), .val (.int p3), .val (.int p4), .val (.int p5), .val (.int (Int32.ofNat A)), .val (.int (Int32.ofNat N)), .val (.int (Int32.ofNat (A + N))), .val (.int (Int32.ofNat B)), .val (.int ((4 : Int32) - (Int32.ofNat B))), .val (.int (Int32.ofNat M)), .val (.int (Int32.ofNat (B + M))), .unset, .unset, .unset, .unset] [(.ref t1)])) _
    refine XS.astore X7.here hx rfl (hb hby at_91) rfl rfl (l' := #[.val (.int p1), .val (.int p2), .val (.int p3), .val (.int p4), .val (.int p5), .val (.int (Int32.ofNat A)), .val (.int (Int32.ofNat N)), .val (.int (Int32.ofNat (A + N))), .val (.int (Int32.ofNat B)), .val (.int ((4 : Int32) - (Int32.ofNat B))), .val (.int (Int32.ofNat M)), .val (.int (Int32.ofNat (B + M))), .val (.ref t1), .unset, .unset, .unset]) rfl ?_
    show Steps p.tables e below (T7.setTop (mkF m 93 #[.val (.int p1), .val (.int p2), .val (.int p3), .val (.int p4), .val (.int p5), .val (.int (Int32.ofNat A)), .val (.int (Int32.ofNat N)), .val (.int (Int32.ofNat (A + N))), .val (.int (Int32.ofNat B)), .val (.int ((4 : Int32) - (Int32.ofNat B))), .val (.int (Int32.ofNat M)), .val (.int (Int32.ofNat (B + M))), .val (.ref t1), .unset, .unset, .unset] [])) _
    refine XS.aload X7.here hx rfl (hb hby at_93) rfl rfl ?_
    show Steps p.tables e below (T7.setTop (mkF m 95 #[.val (.int p1), .val (.int p2), .val (.int p3), .val (.int p4), .val (.int p5), .val (.int (Int32.ofNat A)), .val (.int (Int32.ofNat N)), .val (.int (Int32.ofNat (A + N))), .val (.int (Int32.ofNat B)), .val (.int ((4 : Int32) - (Int32.ofNat B))), .val (.int (Int32.ofNat M)), .val (.int (Int32.ofNat (B + M))), .val (.ref t1), .unset, .unset, .unset] [(.ref t1)])) _
    refine XS.iconst X7.here hx rfl (hb hby at_95) ?_
    show Steps p.tables e below (T7.setTop (mkF m 96 #[.val (.int p1), .val (.int p2), .val (.int p3), .val (.int p4), .val (.int p5), .val (.int (Int32.ofNat A)), .val (.int (Int32.ofNat N)), .val (.int (Int32.ofNat (A + N))), .val (.int (Int32.ofNat B)), .val (.int ((4 : Int32) - (Int32.ofNat B))), .val (.int (Int32.ofNat M)), .val (.int (Int32.ofNat (B + M))), .val (.ref t1), .unset, .unset, .unset] [(.int (0 : Int32)), (.ref t1)])) _
    refine XS.iloadN X7.here hx rfl (hb hby at_96) rfl ?_
    show Steps p.tables e below (T7.setTop (mkF m 97 #[.val (.int p1), .val (.int p2), .val (.int p3), .val (.int p4), .val (.int p5), .val (.int (Int32.ofNat A)), .val (.int (Int32.ofNat N)), .val (.int (Int32.ofNat (A + N))), .val (.int (Int32.ofNat B)), .val (.int ((4 : Int32) - (Int32.ofNat B))), .val (.int (Int32.ofNat M)), .val (.int (Int32.ofNat (B + M))), .val (.ref t1), .unset, .unset, .unset] [(.int p1), (.int (0 : Int32)), (.ref t1)])) _
    refine XS.i2b X7.here hx rfl (hb hby at_97) rfl ?_
    show Steps p.tables e below (T7.setTop (mkF m 98 #[.val (.int p1), .val (.int p2), .val (.int p3), .val (.int p4), .val (.int p5), .val (.int (Int32.ofNat A)), .val (.int (Int32.ofNat N)), .val (.int (Int32.ofNat (A + N))), .val (.int (Int32.ofNat B)), .val (.int ((4 : Int32) - (Int32.ofNat B))), .val (.int (Int32.ofNat M)), .val (.int (Int32.ofNat (B + M))), .val (.ref t1), .unset, .unset, .unset] [(.int (p1.toInt8.toInt32)), (.int (0 : Int32)), (.ref t1)])) _
    refine st11 _ ?_
    show Steps p.tables e below (T11.setTop (mkF m 99 #[.val (.int p1), .val (.int p2), .val (.int p3), .val (.int p4), .val (.int p5), .val (.int (Int32.ofNat A)), .val (.int (Int32.ofNat N)), .val (.int (Int32.ofNat (A + N))), .val (.int (Int32.ofNat B)), .val (.int ((4 : Int32) - (Int32.ofNat B))), .val (.int (Int32.ofNat M)), .val (.int (Int32.ofNat (B + M))), .val (.ref t1), .unset, .unset, .unset] [])) _
    refine XS.aload X11.here hx rfl (hb hby at_99) rfl rfl ?_
    show Steps p.tables e below (T11.setTop (mkF m 101 #[.val (.int p1), .val (.int p2), .val (.int p3), .val (.int p4), .val (.int p5), .val (.int (Int32.ofNat A)), .val (.int (Int32.ofNat N)), .val (.int (Int32.ofNat (A + N))), .val (.int (Int32.ofNat B)), .val (.int ((4 : Int32) - (Int32.ofNat B))), .val (.int (Int32.ofNat M)), .val (.int (Int32.ofNat (B + M))), .val (.ref t1), .unset, .unset, .unset] [(.ref t1)])) _
    refine XS.iconst X11.here hx rfl (hb hby at_101) ?_
    show Steps p.tables e below (T11.setTop (mkF m 102 #[.val (.int p1), .val (.int p2), .val (.int p3), .val (.int p4), .val (.int p5), .val (.int (Int32.ofNat A)), .val (.int (Int32.ofNat N)), .val (.int (Int32.ofNat (A + N))), .val (.int (Int32.ofNat B)), .val (.int ((4 : Int32) - (Int32.ofNat B))), .val (.int (Int32.ofNat M)), .val (.int (Int32.ofNat (B + M))), .val (.ref t1), .unset, .unset, .unset] [(.int (1 : Int32)), (.ref t1)])) _
    refine XS.iloadN X11.here hx rfl (hb hby at_102) rfl ?_
    show Steps p.tables e below (T11.setTop (mkF m 103 #[.val (.int p1), .val (.int p2), .val (.int p3), .val (.int p4), .val (.int p5), .val (.int (Int32.ofNat A)), .val (.int (Int32.ofNat N)), .val (.int (Int32.ofNat (A + N))), .val (.int (Int32.ofNat B)), .val (.int ((4 : Int32) - (Int32.ofNat B))), .val (.int (Int32.ofNat M)), .val (.int (Int32.ofNat (B + M))), .val (.ref t1), .unset, .unset, .unset] [(.int p1), (.int (1 : Int32)), (.ref t1)])) _
    refine XS.bipush X11.here hx rfl (hb hby at_103) ?_
    show Steps p.tables e below (T11.setTop (mkF m 105 #[.val (.int p1), .val (.int p2), .val (.int p3), .val (.int p4), .val (.int p5), .val (.int (Int32.ofNat A)), .val (.int (Int32.ofNat N)), .val (.int (Int32.ofNat (A + N))), .val (.int (Int32.ofNat B)), .val (.int ((4 : Int32) - (Int32.ofNat B))), .val (.int (Int32.ofNat M)), .val (.int (Int32.ofNat (B + M))), .val (.ref t1), .unset, .unset, .unset] [(.int (8 : Int32)), (.int p1), (.int (1 : Int32)), (.ref t1)])) _
    refine XS.iushr X11.here hx rfl (hb hby at_105) rfl ?_
    show Steps p.tables e below (T11.setTop (mkF m 106 #[.val (.int p1), .val (.int p2), .val (.int p3), .val (.int p4), .val (.int p5), .val (.int (Int32.ofNat A)), .val (.int (Int32.ofNat N)), .val (.int (Int32.ofNat (A + N))), .val (.int (Int32.ofNat B)), .val (.int ((4 : Int32) - (Int32.ofNat B))), .val (.int (Int32.ofNat M)), .val (.int (Int32.ofNat (B + M))), .val (.ref t1), .unset, .unset, .unset] [(.int ((p1.toUInt32 >>> ((8 : Int32) &&& 31).toUInt32).toInt32)), (.int (1 : Int32)), (.ref t1)])) _
    refine XS.i2b X11.here hx rfl (hb hby at_106) rfl ?_
    show Steps p.tables e below (T11.setTop (mkF m 107 #[.val (.int p1), .val (.int p2), .val (.int p3), .val (.int p4), .val (.int p5), .val (.int (Int32.ofNat A)), .val (.int (Int32.ofNat N)), .val (.int (Int32.ofNat (A + N))), .val (.int (Int32.ofNat B)), .val (.int ((4 : Int32) - (Int32.ofNat B))), .val (.int (Int32.ofNat M)), .val (.int (Int32.ofNat (B + M))), .val (.ref t1), .unset, .unset, .unset] [(.int (((p1.toUInt32 >>> ((8 : Int32) &&& 31).toUInt32).toInt32).toInt8.toInt32)), (.int (1 : Int32)), (.ref t1)])) _
    refine st16 _ ?_
    show Steps p.tables e below (T16.setTop (mkF m 108 #[.val (.int p1), .val (.int p2), .val (.int p3), .val (.int p4), .val (.int p5), .val (.int (Int32.ofNat A)), .val (.int (Int32.ofNat N)), .val (.int (Int32.ofNat (A + N))), .val (.int (Int32.ofNat B)), .val (.int ((4 : Int32) - (Int32.ofNat B))), .val (.int (Int32.ofNat M)), .val (.int (Int32.ofNat (B + M))), .val (.ref t1), .unset, .unset, .unset] [])) _
    refine XS.aload X16.here hx rfl (hb hby at_108) rfl rfl ?_
    show Steps p.tables e below (T16.setTop (mkF m 110 #[.val (.int p1), .val (.int p2), .val (.int p3), .val (.int p4), .val (.int p5), .val (.int (Int32.ofNat A)), .val (.int (Int32.ofNat N)), .val (.int (Int32.ofNat (A + N))), .val (.int (Int32.ofNat B)), .val (.int ((4 : Int32) - (Int32.ofNat B))), .val (.int (Int32.ofNat M)), .val (.int (Int32.ofNat (B + M))), .val (.ref t1), .unset, .unset, .unset] [(.ref t1)])) _
    refine XS.iconst X16.here hx rfl (hb hby at_110) ?_
    show Steps p.tables e below (T16.setTop (mkF m 111 #[.val (.int p1), .val (.int p2), .val (.int p3), .val (.int p4), .val (.int p5), .val (.int (Int32.ofNat A)), .val (.int (Int32.ofNat N)), .val (.int (Int32.ofNat (A + N))), .val (.int (Int32.ofNat B)), .val (.int ((4 : Int32) - (Int32.ofNat B))), .val (.int (Int32.ofNat M)), .val (.int (Int32.ofNat (B + M))), .val (.ref t1), .unset, .unset, .unset] [(.int (2 : Int32)), (.ref t1)])) _
    refine XS.iloadN X16.here hx rfl (hb hby at_111) rfl ?_
    show Steps p.tables e below (T16.setTop (mkF m 112 #[.val (.int p1), .val (.int p2), .val (.int p3), .val (.int p4), .val (.int p5), .val (.int (Int32.ofNat A)), .val (.int (Int32.ofNat N)), .val (.int (Int32.ofNat (A + N))), .val (.int (Int32.ofNat B)), .val (.int ((4 : Int32) - (Int32.ofNat B))), .val (.int (Int32.ofNat M)), .val (.int (Int32.ofNat (B + M))), .val (.ref t1), .unset, .unset, .unset] [(.int p1), (.int (2 : Int32)), (.ref t1)])) _
    refine XS.bipush X16.here hx rfl (hb hby at_112) ?_
    show Steps p.tables e below (T16.setTop (mkF m 114 #[.val (.int p1), .val (.int p2), .val (.int p3), .val (.int p4), .val (.int p5), .val (.int (Int32.ofNat A)), .val (.int (Int32.ofNat N)), .val (.int (Int32.ofNat (A + N))), .val (.int (Int32.ofNat B)), .val (.int ((4 : Int32) - (Int32.ofNat B))), .val (.int (Int32.ofNat M)), .val (.int (Int32.ofNat (B + M))), .val (.ref t1), .unset, .unset, .unset] [(.int (16 : Int32)), (.int p1), (.int (2 : Int32)), (.ref t1)])) _
    refine XS.iushr X16.here hx rfl (hb hby at_114) rfl ?_
    show Steps p.tables e below (T16.setTop (mkF m 115 #[.val (.int p1), .val (.int p2), .val (.int p3), .val (.int p4), .val (.int p5), .val (.int (Int32.ofNat A)), .val (.int (Int32.ofNat N)), .val (.int (Int32.ofNat (A + N))), .val (.int (Int32.ofNat B)), .val (.int ((4 : Int32) - (Int32.ofNat B))), .val (.int (Int32.ofNat M)), .val (.int (Int32.ofNat (B + M))), .val (.ref t1), .unset, .unset, .unset] [(.int ((p1.toUInt32 >>> ((16 : Int32) &&& 31).toUInt32).toInt32)), (.int (2 : Int32)), (.ref t1)])) _
    refine XS.i2b X16.here hx rfl (hb hby at_115) rfl ?_
    show Steps p.tables e below (T16.setTop (mkF m 116 #[.val (.int p1), .val (.int p2), .val (.int p3), .val (.int p4), .val (.int p5), .val (.int (Int32.ofNat A)), .val (.int (Int32.ofNat N)), .val (.int (Int32.ofNat (A + N))), .val (.int (Int32.ofNat B)), .val (.int ((4 : Int32) - (Int32.ofNat B))), .val (.int (Int32.ofNat M)), .val (.int (Int32.ofNat (B + M))), .val (.ref t1), .unset, .unset, .unset] [(.int (((p1.toUInt32 >>> ((16 : Int32) &&& 31).toUInt32).toInt32).toInt8.toInt32)), (.int (2 : Int32)), (.ref t1)])) _
    refine st21 _ ?_
    show Steps p.tables e below (T21.setTop (mkF m 117 #[.val (.int p1), .val (.int p2), .val (.int p3), .val (.int p4), .val (.int p5), .val (.int (Int32.ofNat A)), .val (.int (Int32.ofNat N)), .val (.int (Int32.ofNat (A + N))), .val (.int (Int32.ofNat B)), .val (.int ((4 : Int32) - (Int32.ofNat B))), .val (.int (Int32.ofNat M)), .val (.int (Int32.ofNat (B + M))), .val (.ref t1), .unset, .unset, .unset] [])) _
    refine XS.aload X21.here hx rfl (hb hby at_117) rfl rfl ?_
    show Steps p.tables e below (T21.setTop (mkF m 119 #[.val (.int p1), .val (.int p2), .val (.int p3), .val (.int p4), .val (.int p5), .val (.int (Int32.ofNat A)), .val (.int (Int32.ofNat N)), .val (.int (Int32.ofNat (A + N))), .val (.int (Int32.ofNat B)), .val (.int ((4 : Int32) - (Int32.ofNat B))), .val (.int (Int32.ofNat M)), .val (.int (Int32.ofNat (B + M))), .val (.ref t1), .unset, .unset, .unset] [(.ref t1)])) _
    refine XS.iconst X21.here hx rfl (hb hby at_119) ?_
    show Steps p.tables e below (T21.setTop (mkF m 120 #[.val (.int p1), .val (.int p2), .val (.int p3), .val (.int p4), .val (.int p5), .val (.int (Int32.ofNat A)), .val (.int (Int32.ofNat N)), .val (.int (Int32.ofNat (A + N))), .val (.int (Int32.ofNat B)), .val (.int ((4 : Int32) - (Int32.ofNat B))), .val (.int (Int32.ofNat M)), .val (.int (Int32.ofNat (B + M))), .val (.ref t1), .unset, .unset, .unset] [(.int (3 : Int32)), (.ref t1)])) _
    refine XS.iloadN X21.here hx rfl (hb hby at_120) rfl ?_
    show Steps p.tables e below (T21.setTop (mkF m 121 #[.val (.int p1), .val (.int p2), .val (.int p3), .val (.int p4), .val (.int p5), .val (.int (Int32.ofNat A)), .val (.int (Int32.ofNat N)), .val (.int (Int32.ofNat (A + N))), .val (.int (Int32.ofNat B)), .val (.int ((4 : Int32) - (Int32.ofNat B))), .val (.int (Int32.ofNat M)), .val (.int (Int32.ofNat (B + M))), .val (.ref t1), .unset, .unset, .unset] [(.int p1), (.int (3 : Int32)), (.ref t1)])) _
    refine XS.bipush X21.here hx rfl (hb hby at_121) ?_
    show Steps p.tables e below (T21.setTop (mkF m 123 #[.val (.int p1), .val (.int p2), .val (.int p3), .val (.int p4), .val (.int p5), .val (.int (Int32.ofNat A)), .val (.int (Int32.ofNat N)), .val (.int (Int32.ofNat (A + N))), .val (.int (Int32.ofNat B)), .val (.int ((4 : Int32) - (Int32.ofNat B))), .val (.int (Int32.ofNat M)), .val (.int (Int32.ofNat (B + M))), .val (.ref t1), .unset, .unset, .unset] [(.int (24 : Int32)), (.int p1), (.int (3 : Int32)), (.ref t1)])) _
    refine XS.iushr X21.here hx rfl (hb hby at_123) rfl ?_
    show Steps p.tables e below (T21.setTop (mkF m 124 #[.val (.int p1), .val (.int p2), .val (.int p3), .val (.int p4), .val (.int p5), .val (.int (Int32.ofNat A)), .val (.int (Int32.ofNat N)), .val (.int (Int32.ofNat (A + N))), .val (.int (Int32.ofNat B)), .val (.int ((4 : Int32) - (Int32.ofNat B))), .val (.int (Int32.ofNat M)), .val (.int (Int32.ofNat (B + M))), .val (.ref t1), .unset, .unset, .unset] [(.int ((p1.toUInt32 >>> ((24 : Int32) &&& 31).toUInt32).toInt32)), (.int (3 : Int32)), (.ref t1)])) _
    refine XS.i2b X21.here hx rfl (hb hby at_124) rfl ?_
    show Steps p.tables e below (T21.setTop (mkF m 125 #[.val (.int p1), .val (.int p2), .val (.int p3), .val (.int p4), .val (.int p5), .val (.int (Int32.ofNat A)), .val (.int (Int32.ofNat N)), .val (.int (Int32.ofNat (A + N))), .val (.int (Int32.ofNat B)), .val (.int ((4 : Int32) - (Int32.ofNat B))), .val (.int (Int32.ofNat M)), .val (.int (Int32.ofNat (B + M))), .val (.ref t1), .unset, .unset, .unset] [(.int (((p1.toUInt32 >>> ((24 : Int32) &&& 31).toUInt32).toInt32).toInt8.toInt32)), (.int (3 : Int32)), (.ref t1)])) _
    refine st26 _ ?_
    show Steps p.tables e below (T26.setTop (mkF m 126 #[.val (.int p1), .val (.int p2), .val (.int p3), .val (.int p4), .val (.int p5), .val (.int (Int32.ofNat A)), .val (.int (Int32.ofNat N)), .val (.int (Int32.ofNat (A + N))), .val (.int (Int32.ofNat B)), .val (.int ((4 : Int32) - (Int32.ofNat B))), .val (.int (Int32.ofNat M)), .val (.int (Int32.ofNat (B + M))), .val (.ref t1), .unset, .unset, .unset] [])) _
    refine XS.iconst X26.here hx rfl (hb hby at_126) ?_
    show Steps p.tables e below (T26.setTop (mkF m 127 #[.val (.int p1), .val (.int p2), .val (.int p3), .val (.int p4), .val (.int p5), .val (.int (Int32.ofNat A)), .val (.int (Int32.ofNat N)), .val (.int (Int32.ofNat (A + N))), .val (.int (Int32.ofNat B)), .val (.int ((4 : Int32) - (Int32.ofNat B))), .val (.int (Int32.ofNat M)), .val (.int (Int32.ofNat (B + M))), .val (.ref t1), .unset, .unset, .unset] [(.int (4 : Int32))])) _
    refine st30 _ ?_
    show Steps p.tables e below (T30.setTop (mkF m 129 #[.val (.int p1), .val (.int p2), .val (.int p3), .val (.int p4), .val (.int p5), .val (.int (Int32.ofNat A)), .val (.int (Int32.ofNat N)), .val (.int (Int32.ofNat (A + N))), .val (.int (Int32.ofNat B)), .val (.int ((4 : Int32) - (Int32.ofNat B))), .val (.int (Int32.ofNat M)), .val (.int (Int32.ofNat (B + M))), .val (.ref t1), .unset, .unset, .unset] [(.ref t2)])) _
    refine XS.astore X30.here hx rfl (hb hby at_129) rfl rfl (l' := #[.val (.int p1), .val (.int p2), .val (.int p3), .val (.int p4), .val (.int p5), .val (.int (Int32.ofNat A)), .val (.int (Int32.ofNat N)), .val (.int (Int32.ofNat (A + N))), .val (.int (Int32.ofNat B)), .val (.int ((4 : Int32) - (Int32.ofNat B))), .val (.int (Int32.ofNat M)), .val (.int (Int32.ofNat (B + M))), .val (.ref t1), .val (.ref t2), .unset, .unset]) rfl ?_
    show Steps p.tables e below (T30.setTop (mkF m 131 #[.val (.int p1), .val (.int p2), .val (.int p3), .val (.int p4), .val (.int p5), .val (.int (Int32.ofNat A)), .val (.int (Int32.ofNat N)), .val (.int (Int32.ofNat (A + N))), .val (.int (Int32.ofNat B)), .val (.int ((4 : Int32) - (Int32.ofNat B))), .val (.int (Int32.ofNat M)), .val (.int (Int32.ofNat (B + M))), .val (.ref t1), .val (.ref t2), .unset, .unset] [])) _
    refine XS.aload X30.here hx rfl (hb hby at_131) rfl rfl ?_
    show Steps p.tables e below (T30.setTop (mkF m 133 #[.val (.int p1), .val (.int p2), .val (.int p3), .val (.int p4), .val (.int p5), .val (.int (Int32.ofNat A)), .val (.int (Int32.ofNat N)), .val (.int (Int32.ofNat (A + N))), .val (.int (Int32.ofNat B)), .val (.int ((4 : Int32) - (Int32.ofNat B))), .val (.int (Int32.ofNat M)), .val (.int (Int32.ofNat (B + M))), .val (.ref t1), .val (.ref t2), .unset, .unset] [(.ref t2)])) _
    refine XS.iconst X30.here hx rfl (hb hby at_133) ?_
    show Steps p.tables e below (T30.setTop (mkF m 134 #[.val (.int p1), .val (.int p2), .val (.int p3), .val (.int p4), .val (.int p5), .val (.int (Int32.ofNat A)), .val (.int (Int32.ofNat N)), .val (.int (Int32.ofNat (A + N))), .val (.int (Int32.ofNat B)), .val (.int ((4 : Int32) - (Int32.ofNat B))), .val (.int (Int32.ofNat M)), .val (.int (Int32.ofNat (B + M))), .val (.ref t1), .val (.ref t2), .unset, .unset] [(.int (0 : Int32)), (.ref t2)])) _
    refine XS.iload X30.here hx rfl (hb hby at_134) rfl ?_
    show Steps p.tables e below (T30.setTop (mkF m 136 #[.val (.int p1), .val (.int p2), .val (.int p3), .val (.int p4), .val (.int p5), .val (.int (Int32.ofNat A)), .val (.int (Int32.ofNat N)), .val (.int (Int32.ofNat (A + N))), .val (.int (Int32.ofNat B)), .val (.int ((4 : Int32) - (Int32.ofNat B))), .val (.int (Int32.ofNat M)), .val (.int (Int32.ofNat (B + M))), .val (.ref t1), .val (.ref t2), .unset, .unset] [(.int p5), (.int (0 : Int32)), (.ref t2)])) _
    refine XS.iconst X30.here hx rfl (hb hby at_136) ?_
    show Steps p.tables e below (T30.setTop (mkF m 137 #[.val (.int p1), .val (.int p2), .val (.int p3), .val (.int p4), .val (.int p5), .val (.int (Int32.ofNat A)), .val (.int (Int32.ofNat N)), .val (.int (Int32.ofNat (A + N))), .val (.int (Int32.ofNat B)), .val (.int ((4 : Int32) - (Int32.ofNat B))), .val (.int (Int32.ofNat M)), .val (.int (Int32.ofNat (B + M))), .val (.ref t1), .val (.ref t2), .unset, .unset] [(.int (0 : Int32)), (.int p5), (.int (0 : Int32)), (.ref t2)])) _
    refine XS.aload X30.here hx rfl (hb hby at_137) rfl rfl ?_
    show Steps p.tables e below (T30.setTop (mkF m 139 #[.val (.int p1), .val (.int p2), .val (.int p3), .val (.int p4), .val (.int p5), .val (.int (Int32.ofNat A)), .val (.int (Int32.ofNat N)), .val (.int (Int32.ofNat (A + N))), .val (.int (Int32.ofNat B)), .val (.int ((4 : Int32) - (Int32.ofNat B))), .val (.int (Int32.ofNat M)), .val (.int (Int32.ofNat (B + M))), .val (.ref t1), .val (.ref t2), .unset, .unset] [(.ref t1), (.int (0 : Int32)), (.int p5), (.int (0 : Int32)), (.ref t2)])) _
    refine XS.iload X30.here hx rfl (hb hby at_139) rfl ?_
    show Steps p.tables e below (T30.setTop (mkF m 141 #[.val (.int p1), .val (.int p2), .val (.int p3), .val (.int p4), .val (.int p5), .val (.int (Int32.ofNat A)), .val (.int (Int32.ofNat N)), .val (.int (Int32.ofNat (A + N))), .val (.int (Int32.ofNat B)), .val (.int ((4 : Int32) - (Int32.ofNat B))), .val (.int (Int32.ofNat M)), .val (.int (Int32.ofNat (B + M))), .val (.ref t1), .val (.ref t2), .unset, .unset] [(.int (Int32.ofNat A)), (.ref t1), (.int (0 : Int32)), (.int p5), (.int (0 : Int32)), (.ref t2)])) _
    refine XS.iload X30.here hx rfl (hb hby at_141) rfl ?_
    show Steps p.tables e below (T30.setTop (mkF m 143 #[.val (.int p1), .val (.int p2), .val (.int p3), .val (.int p4), .val (.int p5), .val (.int (Int32.ofNat A)), .val (.int (Int32.ofNat N)), .val (.int (Int32.ofNat (A + N))), .val (.int (Int32.ofNat B)), .val (.int ((4 : Int32) - (Int32.ofNat B))), .val (.int (Int32.ofNat M)), .val (.int (Int32.ofNat (B + M))), .val (.ref t1), .val (.ref t2), .unset, .unset] [(.int (Int32.ofNat B)), (.int (Int32.ofNat A)), (.ref t1), (.int (0 : Int32)), (.int p5), (.int (0 : Int32)), (.ref t2)])) _
    refine XS.iloadN X30.here hx rfl (hb hby at_143) rfl ?_
    show Steps p.tables e below (T30.setTop (mkF m 144 #[.val (.int p1), .val (.int p2), .val (.int p3), .val (.int p4), .val (.int p5), .val (.int (Int32.ofNat A)), .val (.int (Int32.ofNat N)), .val (.int (Int32.ofNat (A + N))), .val (.int (Int32.ofNat B)), .val (.int ((4 : Int32) - (Int32.ofNat B))), .val (.int (Int32.ofNat M)), .val (.int (Int32.ofNat (B + M))), .val (.ref t1), .val (.ref t2), .unset, .unset] [(.int p2), (.int (Int32.ofNat B)), (.int (Int32.ofNat A)), (.ref t1), (.int (0 : Int32)), (.int p5), (.int (0 : Int32)), (.ref t2)])) _
    refine st35 _ ?_
    show Steps p.tables e below (T35.setTop (mkF m 147 #[.val (.int p1), .val (.int p2), .val (.int p3), .val (.int p4), .val (.int p5), .val (.int (Int32.ofNat A)), .val (.int (Int32.ofNat N)), .val (.int (Int32.ofNat (A + N))), .val (.int (Int32.ofNat B)), .val (.int ((4 : Int32) - (Int32.ofNat B))), .val (.int (Int32.ofNat M)), .val (.int (Int32.ofNat (B + M))), .val (.ref t1), .val (.ref t2), .unset, .unset] [(.int z0), (.int (0 : Int32)), (.ref t2)])) _
    refine st37 _ ?_
    show Steps p.tables e below (T37.setTop (mkF m 148 #[.val (.int p1), .val (.int p2), .val (.int p3), .val (.int p4), .val (.int p5), .val (.int (Int32.ofNat A)), .val (.int (Int32.ofNat N)), .val (.int (Int32.ofNat (A + N))), .val (.int (Int32.ofNat B)), .val (.int ((4 : Int32) - (Int32.ofNat B))), .val (.int (Int32.ofNat M)), .val (.int (Int32.ofNat (B + M))), .val (.ref t1), .val (.ref t2), .unset, .unset] [])) _
    refine XS.aload X37.here hx rfl (hb hby at_148) rfl rfl ?_
    show Steps p.tables e below (T37.setTop (mkF m 150 #[.val (.int p1), .val (.int p2), .val (.int p3), .val (.int p4), .val (.int p5), .val (.int (Int32.ofNat A)), .val (.int (Int32.ofNat N)), .val (.int (Int32.ofNat (A + N))), .val (.int (Int32.ofNat B)), .val (.int ((4 : Int32) - (Int32.ofNat B))), .val (.int (Int32.ofNat M)), .val (.int (Int32.ofNat (B + M))), .val (.ref t1), .val (.ref t2), .unset, .unset] [(.ref t2)])) _
    refine XS.iconst X37.here hx rfl (hb hby at_150) ?_
    show Steps p.tables e below (T37.setTop (mkF m 151 #[.val (.int p1), .val (.int p2), .val (.int p3), .val (.int p4), .val (.int p5), .val (.int (Int32.ofNat A)), .val (.int (Int32.ofNat N)), .val (.int (Int32.ofNat (A + N))), .val (.int (Int32.ofNat B)), .val (.int ((4 : Int32) - (Int32.ofNat B))), .val (.int (Int32.ofNat M)), .val (.int (Int32.ofNat (B + M))), .val (.ref t1), .val (.ref t2), .unset, .unset] [(.int (1 : Int32)), (.ref t2)])) _
    refine XS.iload X37.here hx rfl (hb hby at_151) rfl ?_
    show Steps p.tables e below (T37.setTop (mkF m 153 #[.val (.int p1), .val (.int p2), .val (.int p3), .val (.int p4), .val (.int p5), .val (.int (Int32.ofNat A)), .val (.int (Int32.ofNat N)), .val (.int (Int32.ofNat (A + N))), .val (.int (Int32.ofNat B)), .val (.int ((4 : Int32) - (Int32.ofNat B))), .val (.int (Int32.ofNat M)), .val (.int (Int32.ofNat (B + M))), .val (.ref t1), .val (.ref t2), .unset, .unset] [(.int p5), (.int (1 : Int32)), (.ref t2)])) _
    refine XS.iconst X37.here hx rfl (hb hby at_153) ?_
    show Steps p.tables e below (T37.setTop (mkF m 154 #[.val (.int p1), .val (.int p2), .val (.int p3), .val (.int p4), .val (.int p5), .val (.int (Int32.ofNat A)), .val (.int (Int32.ofNat N)), .val (.int (Int32.ofNat (A + N))), .val (.int (Int32.ofNat B)), .val (.int ((4 : Int32) - (Int32.ofNat B))), .val (.int (Int32.ofNat M)), .val (.int (Int32.ofNat (B + M))), .val (.ref t1), .val (.ref t2), .unset, .unset] [(.int (1 : Int32)), (.int p5), (.int (1 : Int32)), (.ref t2)])) _
    refine XS.aload X37.here hx rfl (hb hby at_154) rfl rfl ?_
    show Steps p.tables e below (T37.setTop (mkF m 156 #[.val (.int p1), .val (.int p2), .val (.int p3), .val (.int p4), .val (.int p5), .val (.int (Int32.ofNat A)), .val (.int (Int32.ofNat N)), .val (.int (Int32.ofNat (A + N))), .val (.int (Int32.ofNat B)), .val (.int ((4 : Int32) - (Int32.ofNat B))), .val (.int (Int32.ofNat M)), .val (.int (Int32.ofNat (B + M))), .val (.ref t1), .val (.ref t2), .unset, .unset] [(.ref t1), (.int (1 : Int32)), (.int p5), (.int (1 : Int32)), (.ref t2)])) _
    refine XS.iload X37.here hx rfl (hb hby at_156) rfl ?_
    show Steps p.tables e below (T37.setTop (mkF m 158 #[.val (.int p1), .val (.int p2), .val (.int p3), .val (.int p4), .val (.int p5), .val (.int (Int32.ofNat A)), .val (.int (Int32.ofNat N)), .val (.int (Int32.ofNat (A + N))), .val (.int (Int32.ofNat B)), .val (.int ((4 : Int32) - (Int32.ofNat B))), .val (.int (Int32.ofNat M)), .val (.int (Int32.ofNat (B + M))), .val (.ref t1), .val (.ref t2), .unset, .unset] [(.int (Int32.ofNat A)), (.ref t1), (.int (1 : Int32)), (.int p5), (.int (1 : Int32)), (.ref t2)])) _
    refine XS.iload X37.here hx rfl (hb hby at_158) rfl ?_
    show Steps p.tables e below (T37.setTop (mkF m 160 #[.val (.int p1), .val (.int p2), .val (.int p3), .val (.int p4), .val (.int p5), .val (.int (Int32.ofNat A)), .val (.int (Int32.ofNat N)), .val (.int (Int32.ofNat (A + N))), .val (.int (Int32.ofNat B)), .val (.int ((4 : Int32) - (Int32.ofNat B))), .val (.int (Int32.ofNat M)), .val (.int (Int32.ofNat (B + M))), .val (.ref t1), .val (.ref t2), .unset, .unset] [(.int (Int32.ofNat B)), (.int (Int32.ofNat A)), (.ref t1), (.int (1 : Int32)), (.int p5), (.int (1 : Int32)), (.ref t2)])) _
    refine XS.iloadN X37.here hx rfl (hb hby at_160) rfl ?_
    show Steps p.tables e below (T37.setTop (mkF m 161 #[.val (.int p1), .val (.int p2), .val (.int p3), .val (.int p4), .val (.int p5), .val (.int (Int32.ofNat A)), .val (.int (Int32.ofNat N)), .val (.int (Int32.ofNat (A + N))), .val (.int (Int32.ofNat B)), .val (.int ((4 : Int32) - (Int32.ofNat B))), .val (.int (Int32.ofNat M)), .val (.int (Int32.ofNat (B + M))), .val (.ref t1), .val (.ref t2), .unset, .unset] [(.int p2), (.int (Int32.ofNat B)), (.int (Int32.ofNat A)), (.ref t1), (.int (1 : Int32)), (.int p5), (.int (1 : Int32)), (.ref t2)])) _
    refine st42 _ ?_
    show Steps p.tables e below (T42.setTop (mkF m 164 #[.val (.int p1), .val (.int p2), .val (.int p3), .val (.int p4), .val (.int p5), .val (.int (Int32.ofNat A)), .val (.int (Int32.ofNat N)), .val (.int (Int32.ofNat (A + N))), .val (.int (Int32.ofNat B)), .val (.int ((4 : Int32) - (Int32.ofNat B))), .val (.int (Int32.ofNat M)), .val (.int (Int32.ofNat (B + M))), .val (.ref t1), .val (.ref t2), .unset, .unset] [(.int z1), (.int (1 : Int32)), (.ref t2)])) _
    refine st44 _ ?_
    show Steps p.tables e below (T44.setTop (mkF m 165 #[.val (.int p1), .val (.int p2), .val (.int p3), .val (.int p4), .val (.int p5), .val (.int (Int32.ofNat A)), .val (.int (Int32.ofNat N)), .val (.int (Int32.ofNat (A + N))), .val (.int (Int32.ofNat B)), .val (.int ((4 : Int32) - (Int32.ofNat B))), .val (.int (Int32.ofNat M)), .val (.int (Int32.ofNat (B + M))), .val (.ref t1), .val (.ref t2), .unset, .unset] [])) _
    refine XS.aload X44.here hx rfl (hb hby at_165) rfl rfl ?_
    show Steps p.tables e below (T44.setTop (mkF m 167 #[.val (.int p1), .val (.int p2), .val (.int p3), .val (.int p4), .val (.int p5), .val (.int (Int32.ofNat A)), .val (.int (Int32.ofNat N)), .val (.int (Int32.ofNat (A + N))), .val (.int (Int32.ofNat B)), .val (.int ((4 : Int32) - (Int32.ofNat B))), .val (.int (Int32.ofNat M)), .val (.int (Int32.ofNat (B + M))), .val (.ref t1), .val (.ref t2), .unset, .unset] [(.ref t2)])) _
    refine XS.iconst X44.here hx rfl (hb hby at_167) ?_
    show Steps p.tables e below (T44.setTop (mkF m 168 #[.val (.int p1), .val (.int p2), .val (.int p3), .val (.int p4), .val (.int p5), .val (.int (Int32.ofNat A)), .val (.int (Int32.ofNat N)), .val (.int (Int32.ofNat (A + N))), .val (.int (Int32.ofNat B)), .val (.int ((4 : Int32) - (Int32.ofNat B))), .val (.int (Int32.ofNat M)), .val (.int (Int32.ofNat (B + M))), .val (.ref t1), .val (.ref t2), .unset, .unset] [(.int (2 : Int32)), (.ref t2)])) _
    refine XS.iload X44.here hx rfl (hb hby at_168) rfl ?_
    show Steps p.tables e below (T44.setTop (mkF m 170 #[.val (.int p1), .val (.int p2), .val (.int p3), .val (.int p4), .val (.int p5), .val (.int (Int32.ofNat A)), .val (.int (Int32.ofNat N)), .val (.int (Int32.ofNat (A + N))), .val (.int (Int32.ofNat B)), .val (.int ((4 : Int32) - (Int32.ofNat B))), .val (.int (Int32.ofNat M)), .val (.int (Int32.ofNat (B + M))), .val (.ref t1), .val (.ref t2), .unset, .unset] [(.int p5), (.int (2 : Int32)), (.ref t2)])) _
    refine XS.iconst X44.here hx rfl (hb hby at_170) ?_
    show Steps p.tables e below (T44.setTop (mkF m 171 #[.val (.int p1), .val (.int p2), .val (.int p3), .val (.int p4), .val (.int p5), .val (.int (Int32.ofNat A)), .val (.int (Int32.ofNat N)), .val (.int (Int32.ofNat (A + N))), .val (.int (Int32.ofNat B)), .val (.int ((4 : Int32) - (Int32.ofNat B))), .val (.int (Int32.ofNat M)), .val (.int (Int32.ofNat (B + M))), .val (.ref t1), .val (.ref t2), .unset, .unset] [(.int (2 : Int32)), (.int p5), (.int (2 : Int32)), (.ref t2)])) _
    refine XS.aload X44.here hx rfl (hb hby at_171) rfl rfl ?_
    show Steps p.tables e below (T44.setTop (mkF m 173 #[.val (.int p1), .val (.int p2), .val (.int p3), .val (.int p4), .val (.int p5), .val (.int (Int32.ofNat A)), .val (.int (Int32.ofNat N)), .val (.int (Int32.ofNat (A + N))), .val (.int (Int32.ofNat B)), .val (.int ((4 : Int32) - (Int32.ofNat B))), .val (.int (Int32.ofNat M)), .val (.int (Int32.ofNat (B + M))), .val (.ref t1), .val (.ref t2), .unset, .unset] [(.ref t1), (.int (2 : Int32)), (.int p5), (.int (2 : Int32)), (.ref t2)])) _
    refine XS.iload X44.here hx rfl (hb hby at_173) rfl ?_
    show Steps p.tables e below (T44.setTop (mkF m 175 #[.val (.int p1), .val (.int p2), .val (.int p3), .val (.int p4), .val (.int p5), .val (.int (Int32.ofNat A)), .val (.int (Int32.ofNat N)), .val (.int (Int32.ofNat (A + N))), .val (.int (Int32.ofNat B)), .val (.int ((4 : Int32) - (Int32.ofNat B))), .val (.int (Int32.ofNat M)), .val (.int (Int32.ofNat (B + M))), .val (.ref t1), .val (.ref t2), .unset, .unset] [(.int (Int32.ofNat A)), (.ref t1), (.int (2 : Int32)), (.int p5), (.int (2 : Int32)), (.ref t2)])) _
    refine XS.iload X44.here hx rfl (hb hby at_175) rfl ?_
    show Steps p.tables e below (T44.setTop (mkF m 177 #[.val (.int p1), .val (.int p2), .val (.int p3), .val (.int p4), .val (.int p5), .val (.int (Int32.ofNat A)), .val (.int (Int32.ofNat N)), .val (.int (Int32.ofNat (A + N))), .val (.int (Int32.ofNat B)), .val (.int ((4 : Int32) - (Int32.ofNat B))), .val (.int (Int32.ofNat M)), .val (.int (Int32.ofNat (B + M))), .val (.ref t1), .val (.ref t2), .unset, .unset] [(.int (Int32.ofNat B)), (.int (Int32.ofNat A)), (.ref t1), (.int (2 : Int32)), (.int p5), (.int (2 : Int32)), (.ref t2)])) _
    refine XS.iloadN X44.here hx rfl (hb hby at_177) rfl ?_
    show Steps p.tables e below (T44.setTop (mkF m 178 #[.val (.int p1), .val (.int p2), .val (.int p3), .val (.int p4), .val (.int p5), .val (.int (Int32.ofNat A)), .val (.int (Int32.ofNat N)), .val (.int (Int32.ofNat (A + N))), .val (.int (Int32.ofNat B)), .val (.int ((4 : Int32) - (Int32.ofNat B))), .val (.int (Int32.ofNat M)), .val (.int (Int32.ofNat (B + M))), .val (.ref t1), .val (.ref t2), .unset, .unset] [(.int p2), (.int (Int32.ofNat B)), (.int (Int32.ofNat A)), (.ref t1), (.int (2 : Int32)), (.int p5), (.int (2 : Int32)), (.ref t2)])) _
    refine st49 _ ?_
    show Steps p.tables e below (T49.setTop (mkF m 181 #[.val (.int p1), .val (.int p2), .val (.int p3), .val (.int p4), .val (.int p5), .val (.int (Int32.ofNat A)), .val (.int (Int32.ofNat N)), .val (.int (Int32.ofNat (A + N))), .val (.int (Int32.ofNat B)), .val (.int ((4 : Int32) - (Int32.ofNat B))), .val (.int (Int32.ofNat M)), .val (.int (Int32.ofNat (B + M))), .val (.ref t1), .val (.ref t2), .unset, .unset] [(.int z2), (.int (2 : Int32)), (.ref t2)])) _
    refine st51 _ ?_
    show Steps p.tables e below (T51.setTop (mkF m 182 #[.val (.int p1), .val (.int p2), .val (.int p3), .val (.int p4), .val (.int p5), .val (.int (Int32.ofNat A)), .val (.int (Int32.ofNat N)), .val (.int (Int32.ofNat (A + N))), .val (.int (Int32.ofNat B)), .val (.int ((4 : Int32) - (Int32.ofNat B))), .val (.int (Int32.ofNat M)), .val (.int (Int32.ofNat (B + M))), .val (.ref t1), .val (.ref t2), .unset, .unset] [])) _
    refine XS.aload X51.here hx rfl (hb hby at_182) rfl rfl ?_
    show Steps p.tables e below (T51.setTop (mkF m 184 #[.val (.int p1), .val (.int p2), .val (.int p3), .val (.int p4), .val (.int p5), .val (.int (Int32.ofNat A)), .val (.int (Int32.ofNat N)), .val (.int (Int32.ofNat (A + N))), .val (.int (Int32.ofNat B)), .val (.int ((4 : Int32) - (Int32.ofNat B))), .val (.int (Int32.ofNat M)), .val (.int (Int32.ofNat (B + M))), .val (.ref t1), .val (.ref t2), .unset, .unset] [(.ref t2)])) _
    refine XS.iconst X51.here hx rfl (hb hby at_184) ?_
    show Steps p.tables e below (T51.setTop (mkF m 185 #[.val (.int p1), .val (.int p2), .val (.int p3), .val (.int p4), .val (.int p5), .val (.int (Int32.ofNat A)), .val (.int (Int32.ofNat N)), .val (.int (Int32.ofNat (A + N))), .val (.int (Int32.ofNat B)), .val (.int ((4 : Int32) - (Int32.ofNat B))), .val (.int (Int32.ofNat M)), .val (.int (Int32.ofNat (B + M))), .val (.ref t1), .val (.ref t2), .unset, .unset] [(.int (3 : Int32)), (.ref t2)])) _
    refine XS.iload X51.here hx rfl (hb hby at_185) rfl ?_
    show Steps p.tables e below (T51.setTop (mkF m 187 #[.val (.int p1), .val (.int p2), .val (.int p3), .val (.int p4), .val (.int p5), .val (.int (Int32.ofNat A)), .val (.int (Int32.ofNat N)), .val (.int (Int32.ofNat (A + N))), .val (.int (Int32.ofNat B)), .val (.int ((4 : Int32) - (Int32.ofNat B))), .val (.int (Int32.ofNat M)), .val (.int (Int32.ofNat (B + M))), .val (.ref t1), .val (.ref t2), .unset, .unset] [(.int p5), (.int (3 : Int32)), (.ref t2)])) _
    refine XS.iconst X51.here hx rfl (hb hby at_187) ?_
    show Steps p.tables e below (T51.setTop (mkF m 188 #[.val (.int p1), .val (.int p2), .val (.int p3), .val (.int p4), .val (.int p5), .val (.int (Int32.ofNat A)), .val (.int (Int32.ofNat N)), .val (.int (Int32.ofNat (A + N))), .val (.int (Int32.ofNat B)), .val (.int ((4 : Int32) - (Int32.ofNat B))), .val (.int (Int32.ofNat M)), .val (.int (Int32.ofNat (B + M))), .val (.ref t1), .val (.ref t2), .unset, .unset] [(.int (3 : Int32)), (.int p5), (.int (3 : Int32)), (.ref t2)])) _
    refine XS.aload X51.here hx rfl (hb hby at_188) rfl rfl ?_
    show Steps p.tables e below (T51.setTop (mkF m 190 #[.val (.int p1), .val (.int p2), .val (.int p3), .val (.int p4), .val (.int p5), .val (.int (Int32.ofNat A)), .val (.int (Int32.ofNat N)), .val (.int (Int32.ofNat (A + N))), .val (.int (Int32.ofNat B)), .val (.int ((4 : Int32) - (Int32.ofNat B))), .val (.int (Int32.ofNat M)), .val (.int (Int32.ofNat (B + M))), .val (.ref t1), .val (.ref t2), .unset, .unset] [(.ref t1), (.int (3 : Int32)), (.int p5), (.int (3 : Int32)), (.ref t2)])) _
    refine XS.iload X51.here hx rfl (hb hby at_190) rfl ?_
    show Steps p.tables e below (T51.setTop (mkF m 192 #[.val (.int p1), .val (.int p2), .val (.int p3), .val (.int p4), .val (.int p5), .val (.int (Int32.ofNat A)), .val (.int (Int32.ofNat N)), .val (.int (Int32.ofNat (A + N))), .val (.int (Int32.ofNat B)), .val (.int ((4 : Int32) - (Int32.ofNat B))), .val (.int (Int32.ofNat M)), .val (.int (Int32.ofNat (B + M))), .val (.ref t1), .val (.ref t2), .unset, .unset] [(.int (Int32.ofNat A)), (.ref t1), (.int (3 : Int32)), (.int p5), (.int (3 : Int32)), (.ref t2)])) _
    refine XS.iload X51.here hx rfl (hb hby at_192) rfl ?_
    show Steps p.tables e below (T51.setTop (mkF m 194 #[.val (.int p1), .val (.int p2), .val (.int p3), .val (.int p4), .val (.int p5), .val (.int (Int32.ofNat A)), .val (.int (Int32.ofNat N)), .val (.int (Int32.ofNat (A + N))), .val (.int (Int32.ofNat B)), .val (.int ((4 : Int32) - (Int32.ofNat B))), .val (.int (Int32.ofNat M)), .val (.int (Int32.ofNat (B + M))), .val (.ref t1), .val (.ref t2), .unset, .unset] [(.int (Int32.ofNat B)), (.int (Int32.ofNat A)), (.ref t1), (.int (3 : Int32)), (.int p5), (.int (3 : Int32)), (.ref t2)])) _
    refine XS.iloadN X51.here hx rfl (hb hby at_194) rfl ?_
    show Steps p.tables e below (T51.setTop (mkF m 195 #[.val (.int p1), .val (.int p2), .val (.int p3), .val (.int p4), .val (.int p5), .val (.int (Int32.ofNat A)), .val (.int (Int32.ofNat N)), .val (.int (Int32.ofNat (A + N))), .val (.int (Int32.ofNat B)), .val (.int ((4 : Int32) - (Int32.ofNat B))), .val (.int (Int32.ofNat M)), .val (.int (Int32.ofNat (B + M))), .val (.ref t1), .val (.ref t2), .unset, .unset] [(.int p2), (.int (Int32.ofNat B)), (.int (Int32.ofNat A)), (.ref t1), (.int (3 : Int32)), (.int p5), (.int (3 : Int32)), (.ref t2)])) _
    refine st56 _ ?_
    show Steps p.tables e below (T56.setTop (mkF m 198 #[.val (.int p1), .val (.int p2), .val (.int p3), .val (.int p4), .val (.int p5), .val (.int (Int32.ofNat A)), .val (.int (Int32.ofNat N)), .val (.int (Int32.ofNat (A + N))), .val (.int (Int32.ofNat B)), .val (.int ((4 : Int32) - (Int32.ofNat B))), .val (.int (Int32.ofNat M)), .val (.int (Int32.ofNat (B + M))), .val (.ref t1), .val (.ref t2), .unset, .unset] [(.int z3), (.int (3 : Int32)), (.ref t2)])) _
    refine st58 _ ?_
    exact kt
  by_cases hc203 : (Int32.ofNat N) = (Int32.ofNat M)
  · have hNM : N = M := (own_inj (by omega) (by omega)).mp hc203
    obtain ⟨_, _, ⟨T64, L64, k64, n64⟩, -, X64, ⟨Lc64, hQ64, l64, y64, z64⟩, st64⟩ := Jvm.LawKit.callS X58 hx (y := (⟨"com/example/trailsmith/trailsmith/check/BytesEqualPinLaw", "at", "([BI[BIII)Z"⟩ : MethodName)) hown (mvT hZ (hw _ (List.mem_of_getElem? (i := 7) rfl))) (mvT hZ (hw _ (List.mem_of_getElem? (i := 8) rfl))) (mvT hZ (hw _ (List.mem_of_getElem? (i := 5) rfl))) (mvT hZ (hw _ (List.mem_of_getElem? (i := 9) rfl))) (by decide) (backOf (W := 0) (rm2_0 l Z a0 hw [] t1 t2 A B N f g h58 n0 Z62 f60 BB hAN (by rw [hNM]; exact hBM)) hZ (hw _ (List.mem_of_getElem? (i := 9) rfl)) (hw _ (List.mem_of_getElem? (i := 5) rfl)) (by decide) (by decide)) (g := (mkF m 223 #[.val (.int p1), .val (.int p2), .val (.int p3), .val (.int p4), .val (.int p5), .val (.int (Int32.ofNat A)), .val (.int (Int32.ofNat N)), .val (.int (Int32.ofNat (A + N))), .val (.int (Int32.ofNat B)), .val (.int ((4 : Int32) - (Int32.ofNat B))), .val (.int (Int32.ofNat M)), .val (.int (Int32.ofNat (B + M))), .val (.ref t1), .val (.ref t2), .unset, .unset] [(.int (0 : Int32)), (.int (Int32.ofNat N)), (.int (Int32.ofNat B)), (.ref t2), (.int (Int32.ofNat A)), (.ref t1)])) rfl (by rw [hml]; rfl) (argsL := [(.ref t1), (.int (Int32.ofNat A)), (.ref t2), (.int (Int32.ofNat B)), (.int (Int32.ofNat N)), (.int (0 : Int32))]) (rest := []) (lenOf pd_77 rfl) rfl (by show 2 * 0 + _ ≤ _; exact Nat.le_of_eq rfl) (hb hby at_223) (fun _ _ => ⟨rfl, e58, (by decide : 2 + 0 ≤ _), (by decide : 8 + 0 ≤ _)⟩)
    dsimp only [Pt.U, Pt.locs, Pt.cells, Pt.slots] at X64 l64 y64 z64 st64 hQ64
    subst l64 y64 z64
    obtain ⟨y0, rfl, N64q, e64, hy0⟩ := hQ64
    have N64 := Fr.app N58 N64q
    by_cases hc226 : y0 = (0 : Int32)
    · obtain ⟨_, _, ⟨T65, L65, k65, n65⟩, -, X65, ⟨Lc65, hQ65, l65, y65, z65⟩, st65⟩ := Jvm.LawKit.callS X64 hx (y := (⟨"com/example/trailsmith/trailsmith/check/Bytes", "equal", "([BII[BII)Z"⟩ : MethodName)) hown (mvT hZ (hw _ (List.mem_of_getElem? (i := 10) rfl))) (mvT hZ (hw _ (List.mem_of_getElem? (i := 11) rfl))) (mvT hZ (hw _ (List.mem_of_getElem? (i := 12) rfl))) (mvT hZ (hw _ (List.mem_of_getElem? (i := 13) rfl))) (by decide) (backOf (W := 0) (rm3 l Z a0 hw [] t1 t2 A B N M f g h58 n0 Z62 f60 BB hAN hBM) hZ (hw _ (List.mem_of_getElem? (i := 13) rfl)) (hw _ (List.mem_of_getElem? (i := 12) rfl)) (by decide) (by decide)) (g := (mkF m 299 #[.val (.int p1), .val (.int p2), .val (.int p3), .val (.int p4), .val (.int p5), .val (.int (Int32.ofNat A)), .val (.int (Int32.ofNat N)), .val (.int (Int32.ofNat (A + N))), .val (.int (Int32.ofNat B)), .val (.int ((4 : Int32) - (Int32.ofNat B))), .val (.int (Int32.ofNat M)), .val (.int (Int32.ofNat (B + M))), .val (.ref t1), .val (.ref t2), .val (.int (0 : Int32)), .unset] [(.int (Int32.ofNat (B + M))), (.int (Int32.ofNat B)), (.ref t2), (.int (Int32.ofNat (A + N))), (.int (Int32.ofNat A)), (.ref t1)])) rfl (by rw [hml]; rfl) (argsL := [(.ref t1), (.int (Int32.ofNat A)), (.int (Int32.ofNat (A + N))), (.ref t2), (.int (Int32.ofNat B)), (.int (Int32.ofNat (B + M)))]) (rest := []) (lenOf pd_78 rfl) rfl (by show 2 * 0 + _ ≤ _; exact Nat.le_of_eq rfl) (hb hby at_299) (fun _ _ => ⟨rfl, e64, (by decide : 2 + 0 ≤ _), (by decide : 8 + 0 ≤ _)⟩)
      dsimp only [Pt.U, Pt.locs, Pt.cells, Pt.slots] at X65 l65 y65 z65 st65 hQ65
      subst l65 y65 z65
      obtain ⟨zz, rfl, N65q, e65, hzz⟩ := hQ65
      have N65 := Fr.app N64 N65q
      have hz66 : zz = (0 : Int32) := (own_z0 hzz (fun q => (own_a0 hy0 hc226).2 (q.2 0 (own_a0 hy0 hc226).1)))
      obtain ⟨fs, hr, hrun, hended, hW, hsame⟩ := X65.leave (v := some (.int (1 : Int32))) (fun h => by rw [Bd.returns] at h; cases h)
      refine ⟨_, _, pre0 _ ?_, hrun, hended, _, _, rfl, ?_, ⟨_, rfl⟩, hW, hsame.mono (by decide) (by decide)⟩
      · show Steps p.tables e below (s₁.setTop (mkF m 0 #[.val (.int p1), .val (.int p2), .val (.int p3), .val (.int p4), .val (.int p5), .unset, .unset, .unset, .unset, .unset, .unset, .unset, .unset, .unset, .unset, .unset] [])) _
        refine seg63 _ ?_
        show Steps p.tables e below (T58.setTop (mkF m 199 #[.val (.int p1), .val (.int p2), .val (.int p3), .val (.int p4), .val (.int p5), .val (.int (Int32.ofNat A)), .val (.int (Int32.ofNat N)), .val (.int (Int32.ofNat (A + N))), .val (.int (Int32.ofNat B)), .val (.int ((4 : Int32) - (Int32.ofNat B))), .val (.int (Int32.ofNat M)), .val (.int (Int32.ofNat (B + M))), .val (.ref t1), .val (.ref t2), .unset, .unset] [])) _
        refine XS.iload X58.here hx rfl (hb hby at_199) rfl ?_
        show Steps p.tables e below (T58.setTop (mkF m 201 #[.val (.int p1), .val (.int p2), .val (.int p3), .val (.int p4), .val (.int p5), .val (.int (Int32.ofNat A)), .val (.int (Int32.ofNat N)), .val (.int (Int32.ofNat (A + N))), .val (.int (Int32.ofNat B)), .val (.int ((4 : Int32) - (Int32.ofNat B))), .val (.int (Int32.ofNat M)), .val (.int (Int32.ofNat (B + M))), .val (.ref t1), .val (.ref t2), .unset, .unset] [(.int (Int32.ofNat N))])) _
        refine XS.iload X58.here hx rfl (hb hby at_201) rfl ?_
        show Steps p.tables e below (T58.setTop (mkF m 203 #[.val (.int p1), .val (.int p2), .val (.int p3), .val (.int p4), .val (.int p5), .val (.int (Int32.ofNat A)), .val (.int (Int32.ofNat N)), .val (.int (Int32.ofNat (A + N))), .val (.int (Int32.ofNat B)), .val (.int ((4 : Int32) - (Int32.ofNat B))), .val (.int (Int32.ofNat M)), .val (.int (Int32.ofNat (B + M))), .val (.ref t1), .val (.ref t2), .unset, .unset] [(.int (Int32.ofNat M)), (.int (Int32.ofNat N))])) _
        refine XS.icmpYes X58.here hx rfl (pc0 := 203) (pc' := 212) rfl (hb hby at_203) rfl (teq hc203).1 (by decide) (by decide) ?_
        show Steps p.tables e below (T58.setTop (mkF m 212 #[.val (.int p1), .val (.int p2), .val (.int p3), .val (.int p4), .val (.int p5), .val (.int (Int32.ofNat A)), .val (.int (Int32.ofNat N)), .val (.int (Int32.ofNat (A + N))), .val (.int (Int32.ofNat B)), .val (.int ((4 : Int32) - (Int32.ofNat B))), .val (.int (Int32.ofNat M)), .val (.int (Int32.ofNat (B + M))), .val (.ref t1), .val (.ref t2), .unset, .unset] [])) _
        refine XS.aload X58.here hx rfl (hb hby at_212) rfl rfl ?_
        show Steps p.tables e below (T58.setTop (mkF m 214 #[.val (.int p1), .val (.int p2), .val (.int p3), .val (.int p4), .val (.int p5), .val (.int (Int32.ofNat A)), .val (.int (Int32.ofNat N)), .val (.int (Int32.ofNat (A + N))), .val (.int (Int32.ofNat B)), .val (.int ((4 : Int32) - (Int32.ofNat B))), .val (.int (Int32.ofNat M)), .val (.int (Int32.ofNat (B + M))), .val (.ref t1), .val (.ref t2), .unset, .unset] [(.ref t1)])) _
        refine XS.iload X58.here hx rfl (hb hby at_214) rfl ?_
        show Steps p.tables e below (T58.setTop (mkF m 216 #[.val (.int p1), .val (.int p2), .val (.int p3), .val (.int p4), .val (.int p5), .val (.int (Int32.ofNat A)), .val (.int (Int32.ofNat N)), .val (.int (Int32.ofNat (A + N))), .val (.int (Int32.ofNat B)), .val (.int ((4 : Int32) - (Int32.ofNat B))), .val (.int (Int32.ofNat M)), .val (.int (Int32.ofNat (B + M))), .val (.ref t1), .val (.ref t2), .unset, .unset] [(.int (Int32.ofNat A)), (.ref t1)])) _
        refine XS.aload X58.here hx rfl (hb hby at_216) rfl rfl ?_
        show Steps p.tables e below (T58.setTop (mkF m 218 #[.val (.int p1), .val (.int p2), .val (.int p3), .val (.int p4), .val (.int p5), .val (.int (Int32.ofNat A)), .val (.int (Int32.ofNat N)), .val (.int (Int32.ofNat (A + N))), .val (.int (Int32.ofNat B)), .val (.int ((4 : Int32) - (Int32.ofNat B))), .val (.int (Int32.ofNat M)), .val (.int (Int32.ofNat (B + M))), .val (.ref t1), .val (.ref t2), .unset, .unset] [(.ref t2), (.int (Int32.ofNat A)), (.ref t1)])) _
        refine XS.iload X58.here hx rfl (hb hby at_218) rfl ?_
        show Steps p.tables e below (T58.setTop (mkF m 220 #[.val (.int p1), .val (.int p2), .val (.int p3), .val (.int p4), .val (.int p5), .val (.int (Int32.ofNat A)), .val (.int (Int32.ofNat N)), .val (.int (Int32.ofNat (A + N))), .val (.int (Int32.ofNat B)), .val (.int ((4 : Int32) - (Int32.ofNat B))), .val (.int (Int32.ofNat M)), .val (.int (Int32.ofNat (B + M))), .val (.ref t1), .val (.ref t2), .unset, .unset] [(.int (Int32.ofNat B)), (.ref t2), (.int (Int32.ofNat A)), (.ref t1)])) _
        refine XS.iload X58.here hx rfl (hb hby at_220) rfl ?_
        show Steps p.tables e below (T58.setTop (mkF m 222 #[.val (.int p1), .val (.int p2), .val (.int p3), .val (.int p4), .val (.int p5), .val (.int (Int32.ofNat A)), .val (.int (Int32.ofNat N)), .val (.int (Int32.ofNat (A + N))), .val (.int (Int32.ofNat B)), .val (.int ((4 : Int32) - (Int32.ofNat B))), .val (.int (Int32.ofNat M)), .val (.int (Int32.ofNat (B + M))), .val (.ref t1), .val (.ref t2), .unset, .unset] [(.int (Int32.ofNat N)), (.int (Int32.ofNat B)), (.ref t2), (.int (Int32.ofNat A)), (.ref t1)])) _
        refine XS.iconst X58.here hx rfl (hb hby at_222) ?_
        show Steps p.tables e below (T58.setTop (mkF m 223 #[.val (.int p1), .val (.int p2), .val (.int p3), .val (.int p4), .val (.int p5), .val (.int (Int32.ofNat A)), .val (.int (Int32.ofNat N)), .val (.int (Int32.ofNat (A + N))), .val (.int (Int32.ofNat B)), .val (.int ((4 : Int32) - (Int32.ofNat B))), .val (.int (Int32.ofNat M)), .val (.int (Int32.ofNat (B + M))), .val (.ref t1), .val (.ref t2), .unset, .unset] [(.int (0 : Int32)), (.int (Int32.ofNat N)), (.int (Int32.ofNat B)), (.ref t2), (.int (Int32.ofNat A)), (.ref t1)])) _
        refine st64 _ ?_
        show Steps p.tables e below (T64.setTop (mkF m 226 #[.val (.int p1), .val (.int p2), .val (.int p3), .val (.int p4), .val (.int p5), .val (.int (Int32.ofNat A)), .val (.int (Int32.ofNat N)), .val (.int (Int32.ofNat (A + N))), .val (.int (Int32.ofNat B)), .val (.int ((4 : Int32) - (Int32.ofNat B))), .val (.int (Int32.ofNat M)), .val (.int (Int32.ofNat (B + M))), .val (.ref t1), .val (.ref t2), .unset, .unset] [(.int y0)])) _
        refine XS.ifYes X64.here hx rfl (pc0 := 226) (pc' := 284) rfl (hb hby at_226) rfl ((if0 _ _).trans (teq hc226).1) (by decide) (by decide) ?_
        show Steps p.tables e below (T64.setTop (mkF m 284 #[.val (.int p1), .val (.int p2), .val (.int p3), .val (.int p4), .val (.int p5), .val (.int (Int32.ofNat A)), .val (.int (Int32.ofNat N)), .val (.int (Int32.ofNat (A + N))), .val (.int (Int32.ofNat B)), .val (.int ((4 : Int32) - (Int32.ofNat B))), .val (.int (Int32.ofNat M)), .val (.int (Int32.ofNat (B + M))), .val (.ref t1), .val (.ref t2), .unset, .unset] [])) _
        refine XS.iconst X64.here hx rfl (hb hby at_284) ?_
        show Steps p.tables e below (T64.setTop (mkF m 285 #[.val (.int p1), .val (.int p2), .val (.int p3), .val (.int p4), .val (.int p5), .val (.int (Int32.ofNat A)), .val (.int (Int32.ofNat N)), .val (.int (Int32.ofNat (A + N))), .val (.int (Int32.ofNat B)), .val (.int ((4 : Int32) - (Int32.ofNat B))), .val (.int (Int32.ofNat M)), .val (.int (Int32.ofNat (B + M))), .val (.ref t1), .val (.ref t2), .unset, .unset] [(.int (0 : Int32))])) _
        refine XS.istore X64.here hx rfl (hb hby at_285) rfl (l' := #[.val (.int p1), .val (.int p2), .val (.int p3), .val (.int p4), .val (.int p5), .val (.int (Int32.ofNat A)), .val (.int (Int32.ofNat N)), .val (.int (Int32.ofNat (A + N))), .val (.int (Int32.ofNat B)), .val (.int ((4 : Int32) - (Int32.ofNat B))), .val (.int (Int32.ofNat M)), .val (.int (Int32.ofNat (B + M))), .val (.ref t1), .val (.ref t2), .val (.int (0 : Int32)), .unset]) rfl ?_
        show Steps p.tables e below (T64.setTop (mkF m 287 #[.val (.int p1), .val (.int p2), .val (.int p3), .val (.int p4), .val (.int p5), .val (.int (Int32.ofNat A)), .val (.int (Int32.ofNat N)), .val (.int (Int32.ofNat (A + N))), .val (.int (Int32.ofNat B)), .val (.int ((4 : Int32) - (Int32.ofNat B))), .val (.int (Int32.ofNat M)), .val (.int (Int32.ofNat (B + M))), .val (.ref t1), .val (.ref t2), .val (.int (0 : Int32)), .unset] [])) _
        refine XS.aload X64.here hx rfl (hb hby at_287) rfl rfl ?_
        show Steps p.tables e below (T64.setTop (mkF m 289 #[.val (.int p1), .val (.int p2), .val (.int p3), .val (.int p4), .val (.int p5), .val (.int (Int32.ofNat A)), .val (.int (Int32.ofNat N)), .val (.int (Int32.ofNat (A + N))), .val (.int (Int32.ofNat B)), .val (.int ((4 : Int32) - (Int32.ofNat B))), .val (.int (Int32.ofNat M)), .val (.int (Int32.ofNat (B + M))), .val (.ref t1), .val (.ref t2), .val (.int (0 : Int32)), .unset] [(.ref t1)])) _
        refine XS.iload X64.here hx rfl (hb hby at_289) rfl ?_
        show Steps p.tables e below (T64.setTop (mkF m 291 #[.val (.int p1), .val (.int p2), .val (.int p3), .val (.int p4), .val (.int p5), .val (.int (Int32.ofNat A)), .val (.int (Int32.ofNat N)), .val (.int (Int32.ofNat (A + N))), .val (.int (Int32.ofNat B)), .val (.int ((4 : Int32) - (Int32.ofNat B))), .val (.int (Int32.ofNat M)), .val (.int (Int32.ofNat (B + M))), .val (.ref t1), .val (.ref t2), .val (.int (0 : Int32)), .unset] [(.int (Int32.ofNat A)), (.ref t1)])) _
        refine XS.iload X64.here hx rfl (hb hby at_291) rfl ?_
        show Steps p.tables e below (T64.setTop (mkF m 293 #[.val (.int p1), .val (.int p2), .val (.int p3), .val (.int p4), .val (.int p5), .val (.int (Int32.ofNat A)), .val (.int (Int32.ofNat N)), .val (.int (Int32.ofNat (A + N))), .val (.int (Int32.ofNat B)), .val (.int ((4 : Int32) - (Int32.ofNat B))), .val (.int (Int32.ofNat M)), .val (.int (Int32.ofNat (B + M))), .val (.ref t1), .val (.ref t2), .val (.int (0 : Int32)), .unset] [(.int (Int32.ofNat (A + N))), (.int (Int32.ofNat A)), (.ref t1)])) _
        refine XS.aload X64.here hx rfl (hb hby at_293) rfl rfl ?_
        show Steps p.tables e below (T64.setTop (mkF m 295 #[.val (.int p1), .val (.int p2), .val (.int p3), .val (.int p4), .val (.int p5), .val (.int (Int32.ofNat A)), .val (.int (Int32.ofNat N)), .val (.int (Int32.ofNat (A + N))), .val (.int (Int32.ofNat B)), .val (.int ((4 : Int32) - (Int32.ofNat B))), .val (.int (Int32.ofNat M)), .val (.int (Int32.ofNat (B + M))), .val (.ref t1), .val (.ref t2), .val (.int (0 : Int32)), .unset] [(.ref t2), (.int (Int32.ofNat (A + N))), (.int (Int32.ofNat A)), (.ref t1)])) _
        refine XS.iload X64.here hx rfl (hb hby at_295) rfl ?_
        show Steps p.tables e below (T64.setTop (mkF m 297 #[.val (.int p1), .val (.int p2), .val (.int p3), .val (.int p4), .val (.int p5), .val (.int (Int32.ofNat A)), .val (.int (Int32.ofNat N)), .val (.int (Int32.ofNat (A + N))), .val (.int (Int32.ofNat B)), .val (.int ((4 : Int32) - (Int32.ofNat B))), .val (.int (Int32.ofNat M)), .val (.int (Int32.ofNat (B + M))), .val (.ref t1), .val (.ref t2), .val (.int (0 : Int32)), .unset] [(.int (Int32.ofNat B)), (.ref t2), (.int (Int32.ofNat (A + N))), (.int (Int32.ofNat A)), (.ref t1)])) _
        refine XS.iload X64.here hx rfl (hb hby at_297) rfl ?_
        show Steps p.tables e below (T64.setTop (mkF m 299 #[.val (.int p1), .val (.int p2), .val (.int p3), .val (.int p4), .val (.int p5), .val (.int (Int32.ofNat A)), .val (.int (Int32.ofNat N)), .val (.int (Int32.ofNat (A + N))), .val (.int (Int32.ofNat B)), .val (.int ((4 : Int32) - (Int32.ofNat B))), .val (.int (Int32.ofNat M)), .val (.int (Int32.ofNat (B + M))), .val (.ref t1), .val (.ref t2), .val (.int (0 : Int32)), .unset] [(.int (Int32.ofNat (B + M))), (.int (Int32.ofNat B)), (.ref t2), (.int (Int32.ofNat (A + N))), (.int (Int32.ofNat A)), (.ref t1)])) _
        refine st65 _ ?_
        show Steps p.tables e below (T65.setTop (mkF m 302 #[.val (.int p1), .val (.int p2), .val (.int p3), .val (.int p4), .val (.int p5), .val (.int (Int32.ofNat A)), .val (.int (Int32.ofNat N)), .val (.int (Int32.ofNat (A + N))), .val (.int (Int32.ofNat B)), .val (.int ((4 : Int32) - (Int32.ofNat B))), .val (.int (Int32.ofNat M)), .val (.int (Int32.ofNat (B + M))), .val (.ref t1), .val (.ref t2), .val (.int (0 : Int32)), .unset] [(.int zz)])) _
        refine XS.istore X65.here hx rfl (hb hby at_302) rfl (l' := #[.val (.int p1), .val (.int p2), .val (.int p3), .val (.int p4), .val (.int p5), .val (.int (Int32.ofNat A)), .val (.int (Int32.ofNat N)), .val (.int (Int32.ofNat (A + N))), .val (.int (Int32.ofNat B)), .val (.int ((4 : Int32) - (Int32.ofNat B))), .val (.int (Int32.ofNat M)), .val (.int (Int32.ofNat (B + M))), .val (.ref t1), .val (.ref t2), .val (.int (0 : Int32)), .val (.int zz)]) rfl ?_
        show Steps p.tables e below (T65.setTop (mkF m 304 #[.val (.int p1), .val (.int p2), .val (.int p3), .val (.int p4), .val (.int p5), .val (.int (Int32.ofNat A)), .val (.int (Int32.ofNat N)), .val (.int (Int32.ofNat (A + N))), .val (.int (Int32.ofNat B)), .val (.int ((4 : Int32) - (Int32.ofNat B))), .val (.int (Int32.ofNat M)), .val (.int (Int32.ofNat (B + M))), .val (.ref t1), .val (.ref t2), .val (.int (0 : Int32)), .val (.int zz)] [])) _
        refine XS.iload X65.here hx rfl (hb hby at_304) rfl ?_
        show Steps p.tables e below (T65.setTop (mkF m 306 #[.val (.int p1), .val (.int p2), .val (.int p3), .val (.int p4), .val (.int p5), .val (.int (Int32.ofNat A)), .val (.int (Int32.ofNat N)), .val (.int (Int32.ofNat (A + N))), .val (.int (Int32.ofNat B)), .val (.int ((4 : Int32) - (Int32.ofNat B))), .val (.int (Int32.ofNat M)), .val (.int (Int32.ofNat (B + M))), .val (.ref t1), .val (.ref t2), .val (.int (0 : Int32)), .val (.int zz)] [(.int zz)])) _
        refine XS.iload X65.here hx rfl (hb hby at_306) rfl ?_
        show Steps p.tables e below (T65.setTop (mkF m 308 #[.val (.int p1), .val (.int p2), .val (.int p3), .val (.int p4), .val (.int p5), .val (.int (Int32.ofNat A)), .val (.int (Int32.ofNat N)), .val (.int (Int32.ofNat (A + N))), .val (.int (Int32.ofNat B)), .val (.int ((4 : Int32) - (Int32.ofNat B))), .val (.int (Int32.ofNat M)), .val (.int (Int32.ofNat (B + M))), .val (.ref t1), .val (.ref t2), .val (.int (0 : Int32)), .val (.int zz)] [(.int (0 : Int32)), (.int zz)])) _
        refine XS.icmpNo X65.here hx rfl (hb hby at_308) rfl (teq hz66).2 ?_
        show Steps p.tables e below (T65.setTop (mkF m 311 #[.val (.int p1), .val (.int p2), .val (.int p3), .val (.int p4), .val (.int p5), .val (.int (Int32.ofNat A)), .val (.int (Int32.ofNat N)), .val (.int (Int32.ofNat (A + N))), .val (.int (Int32.ofNat B)), .val (.int ((4 : Int32) - (Int32.ofNat B))), .val (.int (Int32.ofNat M)), .val (.int (Int32.ofNat (B + M))), .val (.ref t1), .val (.ref t2), .val (.int (0 : Int32)), .val (.int zz)] [])) _
        refine XS.iconst X65.here hx rfl (hb hby at_311) ?_
        show Steps p.tables e below (T65.setTop (mkF m 312 #[.val (.int p1), .val (.int p2), .val (.int p3), .val (.int p4), .val (.int p5), .val (.int (Int32.ofNat A)), .val (.int (Int32.ofNat N)), .val (.int (Int32.ofNat (A + N))), .val (.int (Int32.ofNat B)), .val (.int ((4 : Int32) - (Int32.ofNat B))), .val (.int (Int32.ofNat M)), .val (.int (Int32.ofNat (B + M))), .val (.ref t1), .val (.ref t2), .val (.int (0 : Int32)), .val (.int zz)] [(.int (1 : Int32))])) _
        refine XS.goto X65.here hx rfl (pc0 := 312) (pc' := 316) rfl (hb hby at_312) (by decide) (by decide) ?_
        show Steps p.tables e below (T65.setTop (mkF m 316 #[.val (.int p1), .val (.int p2), .val (.int p3), .val (.int p4), .val (.int p5), .val (.int (Int32.ofNat A)), .val (.int (Int32.ofNat N)), .val (.int (Int32.ofNat (A + N))), .val (.int (Int32.ofNat B)), .val (.int ((4 : Int32) - (Int32.ofNat B))), .val (.int (Int32.ofNat M)), .val (.int (Int32.ofNat (B + M))), .val (.ref t1), .val (.ref t2), .val (.int (0 : Int32)), .val (.int zz)] [(.int (1 : Int32))])) _
        exact retN X65 hx (t := .boolean) Bd.returns (by simp) (hb hby at_316) hr
      · show Q0 Z p1 p2 p3 p4 p5 h0 n0 _ T65.heap _
        rw [e65]
        exact ⟨rfl, N65⟩
    · obtain ⟨_, _, ⟨T67, L67, k67, n67⟩, -, X67, ⟨Lc67, hQ67, l67, y67, z67⟩, st67⟩ := Jvm.LawKit.callS X64 hx (y := (⟨"com/example/trailsmith/trailsmith/check/BytesEqualPinLaw", "at", "([BI[BIII)Z"⟩ : MethodName)) hown (mvT hZ (hw _ (List.mem_of_getElem? (i := 7) rfl))) (mvT hZ (hw _ (List.mem_of_getElem? (i := 8) rfl))) (mvT hZ (hw _ (List.mem_of_getElem? (i := 5) rfl))) (mvT hZ (hw _ (List.mem_of_getElem? (i := 9) rfl))) (by decide) (backOf (W := 0) (rm2_1 l Z a0 hw [] t1 t2 A B N f g h58 n0 Z62 f60 BB hAN (by rw [hNM]; exact hBM)) hZ (hw _ (List.mem_of_getElem? (i := 9) rfl)) (hw _ (List.mem_of_getElem? (i := 5) rfl)) (by decide) (by decide)) (g := (mkF m 240 #[.val (.int p1), .val (.int p2), .val (.int p3), .val (.int p4), .val (.int p5), .val (.int (Int32.ofNat A)), .val (.int (Int32.ofNat N)), .val (.int (Int32.ofNat (A + N))), .val (.int (Int32.ofNat B)), .val (.int ((4 : Int32) - (Int32.ofNat B))), .val (.int (Int32.ofNat M)), .val (.int (Int32.ofNat (B + M))), .val (.ref t1), .val (.ref t2), .unset, .unset] [(.int (1 : Int32)), (.int (Int32.ofNat N)), (.int (Int32.ofNat B)), (.ref t2), (.int (Int32.ofNat A)), (.ref t1)])) rfl (by rw [hml]; rfl) (argsL := [(.ref t1), (.int (Int32.ofNat A)), (.ref t2), (.int (Int32.ofNat B)), (.int (Int32.ofNat N)), (.int (1 : Int32))]) (rest := []) (lenOf pd_77 rfl) rfl (by show 2 * 0 + _ ≤ _; exact Nat.le_of_eq rfl) (hb hby at_240) (fun _ _ => ⟨rfl, e64, (by decide : 2 + 0 ≤ _), (by decide : 8 + 0 ≤ _)⟩)
      dsimp only [Pt.U, Pt.locs, Pt.cells, Pt.slots] at X67 l67 y67 z67 st67 hQ67
      subst l67 y67 z67
      obtain ⟨y1, rfl, N67q, e67, hy1⟩ := hQ67
      have N67 := Fr.app N64 N67q
      by_cases hc243 : y1 = (0 : Int32)
      · obtain ⟨_, _, ⟨T68, L68, k68, n68⟩, -, X68, ⟨Lc68, hQ68, l68, y68, z68⟩, st68⟩ := Jvm.LawKit.callS X67 hx (y := (⟨"com/example/trailsmith/trailsmith/check/Bytes", "equal", "([BII[BII)Z"⟩ : MethodName)) hown (mvT hZ (hw _ (List.mem_of_getElem? (i := 10) rfl))) (mvT hZ (hw _ (List.mem_of_getElem? (i := 11) rfl))) (mvT hZ (hw _ (List.mem_of_getElem? (i := 12) rfl))) (mvT hZ (hw _ (List.mem_of_getElem? (i := 13) rfl))) (by decide) (backOf (W := 0) (rm3 l Z a0 hw [] t1 t2 A B N M f g h58 n0 Z62 f60 BB hAN hBM) hZ (hw _ (List.mem_of_getElem? (i := 13) rfl)) (hw _ (List.mem_of_getElem? (i := 12) rfl)) (by decide) (by decide)) (g := (mkF m 299 #[.val (.int p1), .val (.int p2), .val (.int p3), .val (.int p4), .val (.int p5), .val (.int (Int32.ofNat A)), .val (.int (Int32.ofNat N)), .val (.int (Int32.ofNat (A + N))), .val (.int (Int32.ofNat B)), .val (.int ((4 : Int32) - (Int32.ofNat B))), .val (.int (Int32.ofNat M)), .val (.int (Int32.ofNat (B + M))), .val (.ref t1), .val (.ref t2), .val (.int (0 : Int32)), .unset] [(.int (Int32.ofNat (B + M))), (.int (Int32.ofNat B)), (.ref t2), (.int (Int32.ofNat (A + N))), (.int (Int32.ofNat A)), (.ref t1)])) rfl (by rw [hml]; rfl) (argsL := [(.ref t1), (.int (Int32.ofNat A)), (.int (Int32.ofNat (A + N))), (.ref t2), (.int (Int32.ofNat B)), (.int (Int32.ofNat (B + M)))]) (rest := []) (lenOf pd_78 rfl) rfl (by show 2 * 0 + _ ≤ _; exact Nat.le_of_eq rfl) (hb hby at_299) (fun _ _ => ⟨rfl, e67, (by decide : 2 + 0 ≤ _), (by decide : 8 + 0 ≤ _)⟩)
        dsimp only [Pt.U, Pt.locs, Pt.cells, Pt.slots] at X68 l68 y68 z68 st68 hQ68
        subst l68 y68 z68
        obtain ⟨zz, rfl, N68q, e68, hzz⟩ := hQ68
        have N68 := Fr.app N67 N68q
        have hz69 : zz = (0 : Int32) := (own_z0 hzz (fun q => (own_a0 hy1 hc243).2 (q.2 1 (own_a0 hy1 hc243).1)))
        obtain ⟨fs, hr, hrun, hended, hW, hsame⟩ := X68.leave (v := some (.int (1 : Int32))) (fun h => by rw [Bd.returns] at h; cases h)
        refine ⟨_, _, pre0 _ ?_, hrun, hended, _, _, rfl, ?_, ⟨_, rfl⟩, hW, hsame.mono (by decide) (by decide)⟩
        · show Steps p.tables e below (s₁.setTop (mkF m 0 #[.val (.int p1), .val (.int p2), .val (.int p3), .val (.int p4), .val (.int p5), .unset, .unset, .unset, .unset, .unset, .unset, .unset, .unset, .unset, .unset, .unset] [])) _
          refine seg63 _ ?_
          show Steps p.tables e below (T58.setTop (mkF m 199 #[.val (.int p1), .val (.int p2), .val (.int p3), .val (.int p4), .val (.int p5), .val (.int (Int32.ofNat A)), .val (.int (Int32.ofNat N)), .val (.int (Int32.ofNat (A + N))), .val (.int (Int32.ofNat B)), .val (.int ((4 : Int32) - (Int32.ofNat B))), .val (.int (Int32.ofNat M)), .val (.int (Int32.ofNat (B + M))), .val (.ref t1), .val (.ref t2), .unset, .unset] [])) _
          refine XS.iload X58.here hx rfl (hb hby at_199) rfl ?_
          show Steps p.tables e below (T58.setTop (mkF m 201 #[.val (.int p1), .val (.int p2), .val (.int p3), .val (.int p4), .val (.int p5), .val (.int (Int32.ofNat A)), .val (.int (Int32.ofNat N)), .val (.int (Int32.ofNat (A + N))), .val (.int (Int32.ofNat B)), .val (.int ((4 : Int32) - (Int32.ofNat B))), .val (.int (Int32.ofNat M)), .val (.int (Int32.ofNat (B + M))), .val (.ref t1), .val (.ref t2), .unset, .unset] [(.int (Int32.ofNat N))])) _
          refine XS.iload X58.here hx rfl (hb hby at_201) rfl ?_
          show Steps p.tables e below (T58.setTop (mkF m 203 #[.val (.int p1), .val (.int p2), .val (.int p3), .val (.int p4), .val (.int p5), .val (.int (Int32.ofNat A)), .val (.int (Int32.ofNat N)), .val (.int (Int32.ofNat (A + N))), .val (.int (Int32.ofNat B)), .val (.int ((4 : Int32) - (Int32.ofNat B))), .val (.int (Int32.ofNat M)), .val (.int (Int32.ofNat (B + M))), .val (.ref t1), .val (.ref t2), .unset, .unset] [(.int (Int32.ofNat M)), (.int (Int32.ofNat N))])) _
          refine XS.icmpYes X58.here hx rfl (pc0 := 203) (pc' := 212) rfl (hb hby at_203) rfl (teq hc203).1 (by decide) (by decide) ?_
          show Steps p.tables e below (T58.setTop (mkF m 212 #[.val (.int p1), .val (.int p2), .val (.int p3), .val (.int p4), .val (.int p5), .val (.int (Int32.ofNat A)), .val (.int (Int32.ofNat N)), .val (.int (Int32.ofNat (A + N))), .val (.int (Int32.ofNat B)), .val (.int ((4 : Int32) - (Int32.ofNat B))), .val (.int (Int32.ofNat M)), .val (.int (Int32.ofNat (B + M))), .val (.ref t1), .val (.ref t2), .unset, .unset] [])) _
          refine XS.aload X58.here hx rfl (hb hby at_212) rfl rfl ?_
          show Steps p.tables e below (T58.setTop (mkF m 214 #[.val (.int p1), .val (.int p2), .val (.int p3), .val (.int p4), .val (.int p5), .val (.int (Int32.ofNat A)), .val (.int (Int32.ofNat N)), .val (.int (Int32.ofNat (A + N))), .val (.int (Int32.ofNat B)), .val (.int ((4 : Int32) - (Int32.ofNat B))), .val (.int (Int32.ofNat M)), .val (.int (Int32.ofNat (B + M))), .val (.ref t1), .val (.ref t2), .unset, .unset] [(.ref t1)])) _
          refine XS.iload X58.here hx rfl (hb hby at_214) rfl ?_
          show Steps p.tables e below (T58.setTop (mkF m 216 #[.val (.int p1), .val (.int p2), .val (.int p3), .val (.int p4), .val (.int p5), .val (.int (Int32.ofNat A)), .val (.int (Int32.ofNat N)), .val (.int (Int32.ofNat (A + N))), .val (.int (Int32.ofNat B)), .val (.int ((4 : Int32) - (Int32.ofNat B))), .val (.int (Int32.ofNat M)), .val (.int (Int32.ofNat (B + M))), .val (.ref t1), .val (.ref t2), .unset, .unset] [(.int (Int32.ofNat A)), (.ref t1)])) _
          refine XS.aload X58.here hx rfl (hb hby at_216) rfl rfl ?_
          show Steps p.tables e below (T58.setTop (mkF m 218 #[.val (.int p1), .val (.int p2), .val (.int p3), .val (.int p4), .val (.int p5), .val (.int (Int32.ofNat A)), .val (.int (Int32.ofNat N)), .val (.int (Int32.ofNat (A + N))), .val (.int (Int32.ofNat B)), .val (.int ((4 : Int32) - (Int32.ofNat B))), .val (.int (Int32.ofNat M)), .val (.int (Int32.ofNat (B + M))), .val (.ref t1), .val (.ref t2), .unset, .unset] [(.ref t2), (.int (Int32.ofNat A)), (.ref t1)])) _
          refine XS.iload X58.here hx rfl (hb hby at_218) rfl ?_
          show Steps p.tables e below (T58.setTop (mkF m 220 #[.val (.int p1), .val (.int p2), .val (.int p3), .val (.int p4), .val (.int p5), .val (.int (Int32.ofNat A)), .val (.int (Int32.ofNat N)), .val (.int (Int32.ofNat (A + N))), .val (.int (Int32.ofNat B)), .val (.int ((4 : Int32) - (Int32.ofNat B))), .val (.int (Int32.ofNat M)), .val (.int (Int32.ofNat (B + M))), .val (.ref t1), .val (.ref t2), .unset, .unset] [(.int (Int32.ofNat B)), (.ref t2), (.int (Int32.ofNat A)), (.ref t1)])) _
          refine XS.iload X58.here hx rfl (hb hby at_220) rfl ?_
          show Steps p.tables e below (T58.setTop (mkF m 222 #[.val (.int p1), .val (.int p2), .val (.int p3), .val (.int p4), .val (.int p5), .val (.int (Int32.ofNat A)), .val (.int (Int32.ofNat N)), .val (.int (Int32.ofNat (A + N))), .val (.int (Int32.ofNat B)), .val (.int ((4 : Int32) - (Int32.ofNat B))), .val (.int (Int32.ofNat M)), .val (.int (Int32.ofNat (B + M))), .val (.ref t1), .val (.ref t2), .unset, .unset] [(.int (Int32.ofNat N)), (.int (Int32.ofNat B)), (.ref t2), (.int (Int32.ofNat A)), (.ref t1)])) _
          refine XS.iconst X58.here hx rfl (hb hby at_222) ?_
          show Steps p.tables e below (T58.setTop (mkF m 223 #[.val (.int p1), .val (.int p2), .val (.int p3), .val (.int p4), .val (.int p5), .val (.int (Int32.ofNat A)), .val (.int (Int32.ofNat N)), .val (.int (Int32.ofNat (A + N))), .val (.int (Int32.ofNat B)), .val (.int ((4 : Int32) - (Int32.ofNat B))), .val (.int (Int32.ofNat M)), .val (.int (Int32.ofNat (B + M))), .val (.ref t1), .val (.ref t2), .unset, .unset] [(.int (0 : Int32)), (.int (Int32.ofNat N)), (.int (Int32.ofNat B)), (.ref t2), (.int (Int32.ofNat A)), (.ref t1)])) _
          refine st64 _ ?_
          show Steps p.tables e below (T64.setTop (mkF m 226 #[.val (.int p1), .val (.int p2), .val (.int p3), .val (.int p4), .val (.int p5), .val (.int (Int32.ofNat A)), .val (.int (Int32.ofNat N)), .val (.int (Int32.ofNat (A + N))), .val (.int (Int32.ofNat B)), .val (.int ((4 : Int32) - (Int32.ofNat B))), .val (.int (Int32.ofNat M)), .val (.int (Int32.ofNat (B + M))), .val (.ref t1), .val (.ref t2), .unset, .unset] [(.int y0)])) _
          refine XS.ifNo X64.here hx rfl (hb hby at_226) rfl ((if0 _ _).trans (feq hc226).1) ?_
          show Steps p.tables e below (T64.setTop (mkF m 229 #[.val (.int p1), .val (.int p2), .val (.int p3), .val (.int p4), .val (.int p5), .val (.int (Int32.ofNat A)), .val (.int (Int32.ofNat N)), .val (.int (Int32.ofNat (A + N))), .val (.int (Int32.ofNat B)), .val (.int ((4 : Int32) - (Int32.ofNat B))), .val (.int (Int32.ofNat M)), .val (.int (Int32.ofNat (B + M))), .val (.ref t1), .val (.ref t2), .unset, .unset] [])) _
          refine XS.aload X64.here hx rfl (hb hby at_229) rfl rfl ?_
          show Steps p.tables e below (T64.setTop (mkF m 231 #[.val (.int p1), .val (.int p2), .val (.int p3), .val (.int p4), .val (.int p5), .val (.int (Int32.ofNat A)), .val (.int (Int32.ofNat N)), .val (.int (Int32.ofNat (A + N))), .val (.int (Int32.ofNat B)), .val (.int ((4 : Int32) - (Int32.ofNat B))), .val (.int (Int32.ofNat M)), .val (.int (Int32.ofNat (B + M))), .val (.ref t1), .val (.ref t2), .unset, .unset] [(.ref t1)])) _
          refine XS.iload X64.here hx rfl (hb hby at_231) rfl ?_
          show Steps p.tables e below (T64.setTop (mkF m 233 #[.val (.int p1), .val (.int p2), .val (.int p3), .val (.int p4), .val (.int p5), .val (.int (Int32.ofNat A)), .val (.int (Int32.ofNat N)), .val (.int (Int32.ofNat (A + N))), .val (.int (Int32.ofNat B)), .val (.int ((4 : Int32) - (Int32.ofNat B))), .val (.int (Int32.ofNat M)), .val (.int (Int32.ofNat (B + M))), .val (.ref t1), .val (.ref t2), .unset, .unset] [(.int (Int32.ofNat A)), (.ref t1)])) _
          refine XS.aload X64.here hx rfl (hb hby at_233) rfl rfl ?_
          show Steps p.tables e below (T64.setTop (mkF m 235 #[.val (.int p1), .val (.int p2), .val (.int p3), .val (.int p4), .val (.int p5), .val (.int (Int32.ofNat A)), .val (.int (Int32.ofNat N)), .val (.int (Int32.ofNat (A + N))), .val (.int (Int32.ofNat B)), .val (.int ((4 : Int32) - (Int32.ofNat B))), .val (.int (Int32.ofNat M)), .val (.int (Int32.ofNat (B + M))), .val (.ref t1), .val (.ref t2), .unset, .unset] [(.ref t2), (.int (Int32.ofNat A)), (.ref t1)])) _
          refine XS.iload X64.here hx rfl (hb hby at_235) rfl ?_
          show Steps p.tables e below (T64.setTop (mkF m 237 #[.val (.int p1), .val (.int p2), .val (.int p3), .val (.int p4), .val (.int p5), .val (.int (Int32.ofNat A)), .val (.int (Int32.ofNat N)), .val (.int (Int32.ofNat (A + N))), .val (.int (Int32.ofNat B)), .val (.int ((4 : Int32) - (Int32.ofNat B))), .val (.int (Int32.ofNat M)), .val (.int (Int32.ofNat (B + M))), .val (.ref t1), .val (.ref t2), .unset, .unset] [(.int (Int32.ofNat B)), (.ref t2), (.int (Int32.ofNat A)), (.ref t1)])) _
          refine XS.iload X64.here hx rfl (hb hby at_237) rfl ?_
          show Steps p.tables e below (T64.setTop (mkF m 239 #[.val (.int p1), .val (.int p2), .val (.int p3), .val (.int p4), .val (.int p5), .val (.int (Int32.ofNat A)), .val (.int (Int32.ofNat N)), .val (.int (Int32.ofNat (A + N))), .val (.int (Int32.ofNat B)), .val (.int ((4 : Int32) - (Int32.ofNat B))), .val (.int (Int32.ofNat M)), .val (.int (Int32.ofNat (B + M))), .val (.ref t1), .val (.ref t2), .unset, .unset] [(.int (Int32.ofNat N)), (.int (Int32.ofNat B)), (.ref t2), (.int (Int32.ofNat A)), (.ref t1)])) _
          refine XS.iconst X64.here hx rfl (hb hby at_239) ?_
          show Steps p.tables e below (T64.setTop (mkF m 240 #[.val (.int p1), .val (.int p2), .val (.int p3), .val (.int p4), .val (.int p5), .val (.int (Int32.ofNat A)), .val (.int (Int32.ofNat N)), .val (.int (Int32.ofNat (A + N))), .val (.int (Int32.ofNat B)), .val (.int ((4 : Int32) - (Int32.ofNat B))), .val (.int (Int32.ofNat M)), .val (.int (Int32.ofNat (B + M))), .val (.ref t1), .val (.ref t2), .unset, .unset] [(.int (1 : Int32)), (.int (Int32.ofNat N)), (.int (Int32.ofNat B)), (.ref t2), (.int (Int32.ofNat A)), (.ref t1)])) _
          refine st67 _ ?_
          show Steps p.tables e below (T67.setTop (mkF m 243 #[.val (.int p1), .val (.int p2), .val (.int p3), .val (.int p4), .val (.int p5), .val (.int (Int32.ofNat A)), .val (.int (Int32.ofNat N)), .val (.int (Int32.ofNat (A + N))), .val (.int (Int32.ofNat B)), .val (.int ((4 : Int32) - (Int32.ofNat B))), .val (.int (Int32.ofNat M)), .val (.int (Int32.ofNat (B + M))), .val (.ref t1), .val (.ref t2), .unset, .unset] [(.int y1)])) _
          refine XS.ifYes X67.here hx rfl (pc0 := 243) (pc' := 284) rfl (hb hby at_243) rfl ((if0 _ _).trans (teq hc243).1) (by decide) (by decide) ?_
          show Steps p.tables e below (T67.setTop (mkF m 284 #[.val (.int p1), .val (.int p2), .val (.int p3), .val (.int p4), .val (.int p5), .val (.int (Int32.ofNat A)), .val (.int (Int32.ofNat N)), .val (.int (Int32.ofNat (A + N))), .val (.int (Int32.ofNat B)), .val (.int ((4 : Int32) - (Int32.ofNat B))), .val (.int (Int32.ofNat M)), .val (.int (Int32.ofNat (B + M))), .val (.ref t1), .val (.ref t2), .unset, .unset] [])) _
          refine XS.iconst X67.here hx rfl (hb hby at_284) ?_
          show Steps p.tables e below (T67.setTop (mkF m 285 #[.val (.int p1), .val (.int p2), .val (.int p3), .val (.int p4), .val (.int p5), .val (.int (Int32.ofNat A)), .val (.int (Int32.ofNat N)), .val (.int (Int32.ofNat (A + N))), .val (.int (Int32.ofNat B)), .val (.int ((4 : Int32) - (Int32.ofNat B))), .val (.int (Int32.ofNat M)), .val (.int (Int32.ofNat (B + M))), .val (.ref t1), .val (.ref t2), .unset, .unset] [(.int (0 : Int32))])) _
          refine XS.istore X67.here hx rfl (hb hby at_285) rfl (l' := #[.val (.int p1), .val (.int p2), .val (.int p3), .val (.int p4), .val (.int p5), .val (.int (Int32.ofNat A)), .val (.int (Int32.ofNat N)), .val (.int (Int32.ofNat (A + N))), .val (.int (Int32.ofNat B)), .val (.int ((4 : Int32) - (Int32.ofNat B))), .val (.int (Int32.ofNat M)), .val (.int (Int32.ofNat (B + M))), .val (.ref t1), .val (.ref t2), .val (.int (0 : Int32)), .unset]) rfl ?_
          show Steps p.tables e below (T67.setTop (mkF m 287 #[.val (.int p1), .val (.int p2), .val (.int p3), .val (.int p4), .val (.int p5), .val (.int (Int32.ofNat A)), .val (.int (Int32.ofNat N)), .val (.int (Int32.ofNat (A + N))), .val (.int (Int32.ofNat B)), .val (.int ((4 : Int32) - (Int32.ofNat B))), .val (.int (Int32.ofNat M)), .val (.int (Int32.ofNat (B + M))), .val (.ref t1), .val (.ref t2), .val (.int (0 : Int32)), .unset] [])) _
          refine XS.aload X67.here hx rfl (hb hby at_287) rfl rfl ?_
          show Steps p.tables e below (T67.setTop (mkF m 289 #[.val (.int p1), .val (.int p2), .val (.int p3), .val (.int p4), .val (.int p5), .val (.int (Int32.ofNat A)), .val (.int (Int32.ofNat N)), .val (.int (Int32.ofNat (A + N))), .val (.int (Int32.ofNat B)), .val (.int ((4 : Int32) - (Int32.ofNat B))), .val (.int (Int32.ofNat M)), .val (.int (Int32.ofNat (B + M))), .val (.ref t1), .val (.ref t2), .val (.int (0 : Int32)), .unset] [(.ref t1)])) _
          refine XS.iload X67.here hx rfl (hb hby at_289) rfl ?_
          show Steps p.tables e below (T67.setTop (mkF m 291 #[.val (.int p1), .val (.int p2), .val (.int p3), .val (.int p4), .val (.int p5), .val (.int (Int32.ofNat A)), .val (.int (Int32.ofNat N)), .val (.int (Int32.ofNat (A + N))), .val (.int (Int32.ofNat B)), .val (.int ((4 : Int32) - (Int32.ofNat B))), .val (.int (Int32.ofNat M)), .val (.int (Int32.ofNat (B + M))), .val (.ref t1), .val (.ref t2), .val (.int (0 : Int32)), .unset] [(.int (Int32.ofNat A)), (.ref t1)])) _
          refine XS.iload X67.here hx rfl (hb hby at_291) rfl ?_
          show Steps p.tables e below (T67.setTop (mkF m 293 #[.val (.int p1), .val (.int p2), .val (.int p3), .val (.int p4), .val (.int p5), .val (.int (Int32.ofNat A)), .val (.int (Int32.ofNat N)), .val (.int (Int32.ofNat (A + N))), .val (.int (Int32.ofNat B)), .val (.int ((4 : Int32) - (Int32.ofNat B))), .val (.int (Int32.ofNat M)), .val (.int (Int32.ofNat (B + M))), .val (.ref t1), .val (.ref t2), .val (.int (0 : Int32)), .unset] [(.int (Int32.ofNat (A + N))), (.int (Int32.ofNat A)), (.ref t1)])) _
          refine XS.aload X67.here hx rfl (hb hby at_293) rfl rfl ?_
          show Steps p.tables e below (T67.setTop (mkF m 295 #[.val (.int p1), .val (.int p2), .val (.int p3), .val (.int p4), .val (.int p5), .val (.int (Int32.ofNat A)), .val (.int (Int32.ofNat N)), .val (.int (Int32.ofNat (A + N))), .val (.int (Int32.ofNat B)), .val (.int ((4 : Int32) - (Int32.ofNat B))), .val (.int (Int32.ofNat M)), .val (.int (Int32.ofNat (B + M))), .val (.ref t1), .val (.ref t2), .val (.int (0 : Int32)), .unset] [(.ref t2), (.int (Int32.ofNat (A + N))), (.int (Int32.ofNat A)), (.ref t1)])) _
          refine XS.iload X67.here hx rfl (hb hby at_295) rfl ?_
          show Steps p.tables e below (T67.setTop (mkF m 297 #[.val (.int p1), .val (.int p2), .val (.int p3), .val (.int p4), .val (.int p5), .val (.int (Int32.ofNat A)), .val (.int (Int32.ofNat N)), .val (.int (Int32.ofNat (A + N))), .val (.int (Int32.ofNat B)), .val (.int ((4 : Int32) - (Int32.ofNat B))), .val (.int (Int32.ofNat M)), .val (.int (Int32.ofNat (B + M))), .val (.ref t1), .val (.ref t2), .val (.int (0 : Int32)), .unset] [(.int (Int32.ofNat B)), (.ref t2), (.int (Int32.ofNat (A + N))), (.int (Int32.ofNat A)), (.ref t1)])) _
          refine XS.iload X67.here hx rfl (hb hby at_297) rfl ?_
          show Steps p.tables e below (T67.setTop (mkF m 299 #[.val (.int p1), .val (.int p2), .val (.int p3), .val (.int p4), .val (.int p5), .val (.int (Int32.ofNat A)), .val (.int (Int32.ofNat N)), .val (.int (Int32.ofNat (A + N))), .val (.int (Int32.ofNat B)), .val (.int ((4 : Int32) - (Int32.ofNat B))), .val (.int (Int32.ofNat M)), .val (.int (Int32.ofNat (B + M))), .val (.ref t1), .val (.ref t2), .val (.int (0 : Int32)), .unset] [(.int (Int32.ofNat (B + M))), (.int (Int32.ofNat B)), (.ref t2), (.int (Int32.ofNat (A + N))), (.int (Int32.ofNat A)), (.ref t1)])) _
          refine st68 _ ?_
          show Steps p.tables e below (T68.setTop (mkF m 302 #[.val (.int p1), .val (.int p2), .val (.int p3), .val (.int p4), .val (.int p5), .val (.int (Int32.ofNat A)), .val (.int (Int32.ofNat N)), .val (.int (Int32.ofNat (A + N))), .val (.int (Int32.ofNat B)), .val (.int ((4 : Int32) - (Int32.ofNat B))), .val (.int (Int32.ofNat M)), .val (.int (Int32.ofNat (B + M))), .val (.ref t1), .val (.ref t2), .val (.int (0 : Int32)), .unset] [(.int zz)])) _
          refine XS.istore X68.here hx rfl (hb hby at_302) rfl (l' := #[.val (.int p1), .val (.int p2), .val (.int p3), .val (.int p4), .val (.int p5), .val (.int (Int32.ofNat A)), .val (.int (Int32.ofNat N)), .val (.int (Int32.ofNat (A + N))), .val (.int (Int32.ofNat B)), .val (.int ((4 : Int32) - (Int32.ofNat B))), .val (.int (Int32.ofNat M)), .val (.int (Int32.ofNat (B + M))), .val (.ref t1), .val (.ref t2), .val (.int (0 : Int32)), .val (.int zz)]) rfl ?_
          show Steps p.tables e below (T68.setTop (mkF m 304 #[.val (.int p1), .val (.int p2), .val (.int p3), .val (.int p4), .val (.int p5), .val (.int (Int32.ofNat A)), .val (.int (Int32.ofNat N)), .val (.int (Int32.ofNat (A + N))), .val (.int (Int32.ofNat B)), .val (.int ((4 : Int32) - (Int32.ofNat B))), .val (.int (Int32.ofNat M)), .val (.int (Int32.ofNat (B + M))), .val (.ref t1), .val (.ref t2), .val (.int (0 : Int32)), .val (.int zz)] [])) _
          refine XS.iload X68.here hx rfl (hb hby at_304) rfl ?_
          show Steps p.tables e below (T68.setTop (mkF m 306 #[.val (.int p1), .val (.int p2), .val (.int p3), .val (.int p4), .val (.int p5), .val (.int (Int32.ofNat A)), .val (.int (Int32.ofNat N)), .val (.int (Int32.ofNat (A + N))), .val (.int (Int32.ofNat B)), .val (.int ((4 : Int32) - (Int32.ofNat B))), .val (.int (Int32.ofNat M)), .val (.int (Int32.ofNat (B + M))), .val (.ref t1), .val (.ref t2), .val (.int (0 : Int32)), .val (.int zz)] [(.int zz)])) _
          refine XS.iload X68.here hx rfl (hb hby at_306) rfl ?_
          show Steps p.tables e below (T68.setTop (mkF m 308 #[.val (.int p1), .val (.int p2), .val (.int p3), .val (.int p4), .val (.int p5), .val (.int (Int32.ofNat A)), .val (.int (Int32.ofNat N)), .val (.int (Int32.ofNat (A + N))), .val (.int (Int32.ofNat B)), .val (.int ((4 : Int32) - (Int32.ofNat B))), .val (.int (Int32.ofNat M)), .val (.int (Int32.ofNat (B + M))), .val (.ref t1), .val (.ref t2), .val (.int (0 : Int32)), .val (.int zz)] [(.int (0 : Int32)), (.int zz)])) _
          refine XS.icmpNo X68.here hx rfl (hb hby at_308) rfl (teq hz69).2 ?_
          show Steps p.tables e below (T68.setTop (mkF m 311 #[.val (.int p1), .val (.int p2), .val (.int p3), .val (.int p4), .val (.int p5), .val (.int (Int32.ofNat A)), .val (.int (Int32.ofNat N)), .val (.int (Int32.ofNat (A + N))), .val (.int (Int32.ofNat B)), .val (.int ((4 : Int32) - (Int32.ofNat B))), .val (.int (Int32.ofNat M)), .val (.int (Int32.ofNat (B + M))), .val (.ref t1), .val (.ref t2), .val (.int (0 : Int32)), .val (.int zz)] [])) _
          refine XS.iconst X68.here hx rfl (hb hby at_311) ?_
          show Steps p.tables e below (T68.setTop (mkF m 312 #[.val (.int p1), .val (.int p2), .val (.int p3), .val (.int p4), .val (.int p5), .val (.int (Int32.ofNat A)), .val (.int (Int32.ofNat N)), .val (.int (Int32.ofNat (A + N))), .val (.int (Int32.ofNat B)), .val (.int ((4 : Int32) - (Int32.ofNat B))), .val (.int (Int32.ofNat M)), .val (.int (Int32.ofNat (B + M))), .val (.ref t1), .val (.ref t2), .val (.int (0 : Int32)), .val (.int zz)] [(.int (1 : Int32))])) _
          refine XS.goto X68.here hx rfl (pc0 := 312) (pc' := 316) rfl (hb hby at_312) (by decide) (by decide) ?_
          show Steps p.tables e below (T68.setTop (mkF m 316 #[.val (.int p1), .val (.int p2), .val (.int p3), .val (.int p4), .val (.int p5), .val (.int (Int32.ofNat A)), .val (.int (Int32.ofNat N)), .val (.int (Int32.ofNat (A + N))), .val (.int (Int32.ofNat B)), .val (.int ((4 : Int32) - (Int32.ofNat B))), .val (.int (Int32.ofNat M)), .val (.int (Int32.ofNat (B + M))), .val (.ref t1), .val (.ref t2), .val (.int (0 : Int32)), .val (.int zz)] [(.int (1 : Int32))])) _
          exact retN X68 hx (t := .boolean) Bd.returns (by simp) (hb hby at_316) hr
        · show Q0 Z p1 p2 p3 p4 p5 h0 n0 _ T68.heap _
          rw [e68]
          exact ⟨rfl, N68⟩
      · obtain ⟨_, _, ⟨T70, L70, k70, n70⟩, -, X70, ⟨Lc70, hQ70, l70, y70, z70⟩, st70⟩ := Jvm.LawKit.callS X67 hx (y := (⟨"com/example/trailsmith/trailsmith/check/BytesEqualPinLaw", "at", "([BI[BIII)Z"⟩ : MethodName)) hown (mvT hZ (hw _ (List.mem_of_getElem? (i := 7) rfl))) (mvT hZ (hw _ (List.mem_of_getElem? (i := 8) rfl))) (mvT hZ (hw _ (List.mem_of_getElem? (i := 5) rfl))) (mvT hZ (hw _ (List.mem_of_getElem? (i := 9) rfl))) (by decide) (backOf (W := 0) (rm2_2 l Z a0 hw [] t1 t2 A B N f g h58 n0 Z62 f60 BB hAN (by rw [hNM]; exact hBM)) hZ (hw _ (List.mem_of_getElem? (i := 9) rfl)) (hw _ (List.mem_of_getElem? (i := 5) rfl)) (by decide) (by decide)) (g := (mkF m 257 #[.val (.int p1), .val (.int p2), .val (.int p3), .val (.int p4), .val (.int p5), .val (.int (Int32.ofNat A)), .val (.int (Int32.ofNat N)), .val (.int (Int32.ofNat (A + N))), .val (.int (Int32.ofNat B)), .val (.int ((4 : Int32) - (Int32.ofNat B))), .val (.int (Int32.ofNat M)), .val (.int (Int32.ofNat (B + M))), .val (.ref t1), .val (.ref t2), .unset, .unset] [(.int (2 : Int32)), (.int (Int32.ofNat N)), (.int (Int32.ofNat B)), (.ref t2), (.int (Int32.ofNat A)), (.ref t1)])) rfl (by rw [hml]; rfl) (argsL := [(.ref t1), (.int (Int32.ofNat A)), (.ref t2), (.int (Int32.ofNat B)), (.int (Int32.ofNat N)), (.int (2 : Int32))]) (rest := []) (lenOf pd_77 rfl) rfl (by show 2 * 0 + _ ≤ _; exact Nat.le_of_eq rfl) (hb hby at_257) (fun _ _ => ⟨rfl, e67, (by decide : 2 + 0 ≤ _), (by decide : 8 + 0 ≤ _)⟩)
        dsimp only [Pt.U, Pt.locs, Pt.cells, Pt.slots] at X70 l70 y70 z70 st70 hQ70
        subst l70 y70 z70
        obtain ⟨y2, rfl, N70q, e70, hy2⟩ := hQ70
        have N70 := Fr.app N67 N70q
        by_cases hc260 : y2 = (0 : Int32)
        · obtain ⟨_, _, ⟨T71, L71, k71, n71⟩, -, X71, ⟨Lc71, hQ71, l71, y71, z71⟩, st71⟩ := Jvm.LawKit.callS X70 hx (y := (⟨"com/example/trailsmith/trailsmith/check/Bytes", "equal", "([BII[BII)Z"⟩ : MethodName)) hown (mvT hZ (hw _ (List.mem_of_getElem? (i := 10) rfl))) (mvT hZ (hw _ (List.mem_of_getElem? (i := 11) rfl))) (mvT hZ (hw _ (List.mem_of_getElem? (i := 12) rfl))) (mvT hZ (hw _ (List.mem_of_getElem? (i := 13) rfl))) (by decide) (backOf (W := 0) (rm3 l Z a0 hw [] t1 t2 A B N M f g h58 n0 Z62 f60 BB hAN hBM) hZ (hw _ (List.mem_of_getElem? (i := 13) rfl)) (hw _ (List.mem_of_getElem? (i := 12) rfl)) (by decide) (by decide)) (g := (mkF m 299 #[.val (.int p1), .val (.int p2), .val (.int p3), .val (.int p4), .val (.int p5), .val (.int (Int32.ofNat A)), .val (.int (Int32.ofNat N)), .val (.int (Int32.ofNat (A + N))), .val (.int (Int32.ofNat B)), .val (.int ((4 : Int32) - (Int32.ofNat B))), .val (.int (Int32.ofNat M)), .val (.int (Int32.ofNat (B + M))), .val (.ref t1), .val (.ref t2), .val (.int (0 : Int32)), .unset] [(.int (Int32.ofNat (B + M))), (.int (Int32.ofNat B)), (.ref t2), (.int (Int32.ofNat (A + N))), (.int (Int32.ofNat A)), (.ref t1)])) rfl (by rw [hml]; rfl) (argsL := [(.ref t1), (.int (Int32.ofNat A)), (.int (Int32.ofNat (A + N))), (.ref t2), (.int (Int32.ofNat B)), (.int (Int32.ofNat (B + M)))]) (rest := []) (lenOf pd_78 rfl) rfl (by show 2 * 0 + _ ≤ _; exact Nat.le_of_eq rfl) (hb hby at_299) (fun _ _ => ⟨rfl, e70, (by decide : 2 + 0 ≤ _), (by decide : 8 + 0 ≤ _)⟩)
          dsimp only [Pt.U, Pt.locs, Pt.cells, Pt.slots] at X71 l71 y71 z71 st71 hQ71
          subst l71 y71 z71
          obtain ⟨zz, rfl, N71q, e71, hzz⟩ := hQ71
          have N71 := Fr.app N70 N71q
          have hz72 : zz = (0 : Int32) := (own_z0 hzz (fun q => (own_a0 hy2 hc260).2 (q.2 2 (own_a0 hy2 hc260).1)))
          obtain ⟨fs, hr, hrun, hended, hW, hsame⟩ := X71.leave (v := some (.int (1 : Int32))) (fun h => by rw [Bd.returns] at h; cases h)
          refine ⟨_, _, pre0 _ ?_, hrun, hended, _, _, rfl, ?_, ⟨_, rfl⟩, hW, hsame.mono (by decide) (by decide)⟩
          · show Steps p.tables e below (s₁.setTop (mkF m 0 #[.val (.int p1), .val (.int p2), .val (.int p3), .val (.int p4), .val (.int p5), .unset, .unset, .unset, .unset, .unset, .unset, .unset, .unset, .unset, .unset, .unset] [])) _
            refine seg63 _ ?_
            show Steps p.tables e below (T58.setTop (mkF m 199 #[.val (.int p1), .val (.int p2), .val (.int p3), .val (.int p4), .val (.int p5), .val (.int (Int32.ofNat A)), .val (.int (Int32.ofNat N)), .val (.int (Int32.ofNat (A + N))), .val (.int (Int32.ofNat B)), .val (.int ((4 : Int32) - (Int32.ofNat B))), .val (.int (Int32.ofNat M)), .val (.int (Int32.ofNat (B + M))), .val (.ref t1), .val (.ref t2), .unset, .unset] [])) _
            refine XS.iload X58.here hx rfl (hb hby at_199) rfl ?_
            show Steps p.tables e below (T58.setTop (mkF m 201 #[.val (.int p1), .val (.int p2), .val (.int p3), .val (.int p4), .val (.int p5), .val (.int (Int32.ofNat A)), .val (.int (Int32.ofNat N)), .val (.int (Int32.ofNat (A + N))), .val (.int (Int32.ofNat B)), .val (.int ((4 : Int32) - (Int32.ofNat B))), .val (.int (Int32.ofNat M)), .val (.int (Int32.ofNat (B + M))), .val (.ref t1), .val (.ref t2), .unset, .unset] [(.int (Int32.ofNat N))])) _
            refine XS.iload X58.here hx rfl (hb hby at_201) rfl ?_
            show Steps p.tables e below (T58.setTop (mkF m 203 #[.val (.int p1), .val (.int p2), .val (.int p3), .val (.int p4), .val (.int p5), .val (.int (Int32.ofNat A)), .val (.int (Int32.ofNat N)), .val (.int (Int32.ofNat (A + N))), .val (.int (Int32.ofNat B)), .val (.int ((4 : Int32) - (Int32.ofNat B))), .val (.int (Int32.ofNat M)), .val (.int (Int32.ofNat (B + M))), .val (.ref t1), .val (.ref t2), .unset, .unset] [(.int (Int32.ofNat M)), (.int (Int32.ofNat N))])) _
            refine XS.icmpYes X58.here hx rfl (pc0 := 203) (pc' := 212) rfl (hb hby at_203) rfl (teq hc203).1 (by decide) (by decide) ?_
            show Steps p.tables e below (T58.setTop (mkF m 212 #[.val (.int p1), .val (.int p2), .val (.int p3), .val (.int p4), .val (.int p5), .val (.int (Int32.ofNat A)), .val (.int (Int32.ofNat N)), .val (.int (Int32.ofNat (A + N))), .val (.int (Int32.ofNat B)), .val (.int ((4 : Int32) - (Int32.ofNat B))), .val (.int (Int32.ofNat M)), .val (.int (Int32.ofNat (B + M))), .val (.ref t1), .val (.ref t2), .unset, .unset] [])) _
            refine XS.aload X58.here hx rfl (hb hby at_212) rfl rfl ?_
            show Steps p.tables e below (T58.setTop (mkF m 214 #[.val (.int p1), .val (.int p2), .val (.int p3), .val (.int p4), .val (.int p5), .val (.int (Int32.ofNat A)), .val (.int (Int32.ofNat N)), .val (.int (Int32.ofNat (A + N))), .val (.int (Int32.ofNat B)), .val (.int ((4 : Int32) - (Int32.ofNat B))), .val (.int (Int32.ofNat M)), .val (.int (Int32.ofNat (B + M))), .val (.ref t1), .val (.ref t2), .unset, .unset] [(.ref t1)])) _
            refine XS.iload X58.here hx rfl (hb hby at_214) rfl ?_
            show Steps p.tables e below (T58.setTop (mkF m 216 #[.val (.int p1), .val (.int p2), .val (.int p3), .val (.int p4), .val (.int p5), .val (.int (Int32.ofNat A)), .val (.int (Int32.ofNat N)), .val (.int (Int32.ofNat (A + N))), .val (.int (Int32.ofNat B)), .val (.int ((4 : Int32) - (Int32.ofNat B))), .val (.int (Int32.ofNat M)), .val (.int (Int32.ofNat (B + M))), .val (.ref t1), .val (.ref t2), .unset, .unset] [(.int (Int32.ofNat A)), (.ref t1)])) _
            refine XS.aload X58.here hx rfl (hb hby at_216) rfl rfl ?_
            show Steps p.tables e below (T58.setTop (mkF m 218 #[.val (.int p1), .val (.int p2), .val (.int p3), .val (.int p4), .val (.int p5), .val (.int (Int32.ofNat A)), .val (.int (Int32.ofNat N)), .val (.int (Int32.ofNat (A + N))), .val (.int (Int32.ofNat B)), .val (.int ((4 : Int32) - (Int32.ofNat B))), .val (.int (Int32.ofNat M)), .val (.int (Int32.ofNat (B + M))), .val (.ref t1), .val (.ref t2), .unset, .unset] [(.ref t2), (.int (Int32.ofNat A)), (.ref t1)])) _
            refine XS.iload X58.here hx rfl (hb hby at_218) rfl ?_
            show Steps p.tables e below (T58.setTop (mkF m 220 #[.val (.int p1), .val (.int p2), .val (.int p3), .val (.int p4), .val (.int p5), .val (.int (Int32.ofNat A)), .val (.int (Int32.ofNat N)), .val (.int (Int32.ofNat (A + N))), .val (.int (Int32.ofNat B)), .val (.int ((4 : Int32) - (Int32.ofNat B))), .val (.int (Int32.ofNat M)), .val (.int (Int32.ofNat (B + M))), .val (.ref t1), .val (.ref t2), .unset, .unset] [(.int (Int32.ofNat B)), (.ref t2), (.int (Int32.ofNat A)), (.ref t1)])) _
            refine XS.iload X58.here hx rfl (hb hby at_220) rfl ?_
            show Steps p.tables e below (T58.setTop (mkF m 222 #[.val (.int p1), .val (.int p2), .val (.int p3), .val (.int p4), .val (.int p5), .val (.int (Int32.ofNat A)), .val (.int (Int32.ofNat N)), .val (.int (Int32.ofNat (A + N))), .val (.int (Int32.ofNat B)), .val (.int ((4 : Int32) - (Int32.ofNat B))), .val (.int (Int32.ofNat M)), .val (.int (Int32.ofNat (B + M))), .val (.ref t1), .val (.ref t2), .unset, .unset] [(.int (Int32.ofNat N)), (.int (Int32.ofNat B)), (.ref t2), (.int (Int32.ofNat A)), (.ref t1)])) _
            refine XS.iconst X58.here hx rfl (hb hby at_222) ?_
            show Steps p.tables e below (T58.setTop (mkF m 223 #[.val (.int p1), .val (.int p2), .val (.int p3), .val (.int p4), .val (.int p5), .val (.int (Int32.ofNat A)), .val (.int (Int32.ofNat N)), .val (.int (Int32.ofNat (A + N))), .val (.int (Int32.ofNat B)), .val (.int ((4 : Int32) - (Int32.ofNat B))), .val (.int (Int32.ofNat M)), .val (.int (Int32.ofNat (B + M))), .val (.ref t1), .val (.ref t2), .unset, .unset] [(.int (0 : Int32)), (.int (Int32.ofNat N)), (.int (Int32.ofNat B)), (.ref t2), (.int (Int32.ofNat A)), (.ref t1)])) _
            refine st64 _ ?_
            show Steps p.tables e below (T64.setTop (mkF m 226 #[.val (.int p1), .val (.int p2), .val (.int p3), .val (.int p4), .val (.int p5), .val (.int (Int32.ofNat A)), .val (.int (Int32.ofNat N)), .val (.int (Int32.ofNat (A + N))), .val (.int (Int32.ofNat B)), .val (.int ((4 : Int32) - (Int32.ofNat B))), .val (.int (Int32.ofNat M)), .val (.int (Int32.ofNat (B + M))), .val (.ref t1), .val (.ref t2), .unset, .unset] [(.int y0)])) _
            refine XS.ifNo X64.here hx rfl (hb hby at_226) rfl ((if0 _ _).trans (feq hc226).1) ?_
            show Steps p.tables e below (T64.setTop (mkF m 229 #[.val (.int p1), .val (.int p2), .val (.int p3), .val (.int p4), .val (.int p5), .val (.int (Int32.ofNat A)), .val (.int (Int32.ofNat N)), .val (.int (Int32.ofNat (A + N))), .val (.int (Int32.ofNat B)), .val (.int ((4 : Int32) - (Int32.ofNat B))), .val (.int (Int32.ofNat M)), .val (.int (Int32.ofNat (B + M))), .val (.ref t1), .val (.ref t2), .unset, .unset] [])) _
            refine XS.aload X64.here hx rfl (hb hby at_229) rfl rfl ?_
            show Steps p.tables e below (T64.setTop (mkF m 231 #[.val (.int p1), .val (.int p2), .val (.int p3), .val (.int p4), .val (.int p5), .val (.int (Int32.ofNat A)), .val (.int (Int32.ofNat N)), .val (.int (Int32.ofNat (A + N))), .val (.int (Int32.ofNat B)), .val (.int ((4 : Int32) - (Int32.ofNat B))), .val (.int (Int32.ofNat M)), .val (.int (Int32.ofNat (B + M))), .val (.ref t1), .val (.ref t2), .unset, .unset] [(.ref t1)])) _
            refine XS.iload X64.here hx rfl (hb hby at_231) rfl ?_
            show Steps p.tables e below (T64.setTop (mkF m 233 #[.val (.int p1), .val (.int p2), .val (.int p3), .val (.int p4), .val (.int p5), .val (.int (Int32.ofNat A)), .val (.int (Int32.ofNat N)), .val (.int (Int32.ofNat (A + N))), .val (.int (Int32.ofNat B)), .val (.int ((4 : Int32) - (Int32.ofNat B))), .val (.int (Int32.ofNat M)), .val (.int (Int32.ofNat (B + M))), .val (.ref t1), .val (.ref t2), .unset, .unset] [(.int (Int32.ofNat A)), (.ref t1)])) _
            refine XS.aload X64.here hx rfl (hb hby at_233) rfl rfl ?_
            show Steps p.tables e below (T64.setTop (mkF m 235 #[.val (.int p1), .val (.int p2), .val (.int p3), .val (.int p4), .val (.int p5), .val (.int (Int32.ofNat A)), .val (.int (Int32.ofNat N)), .val (.int (Int32.ofNat (A + N))), .val (.int (Int32.ofNat B)), .val (.int ((4 : Int32) - (Int32.ofNat B))), .val (.int (Int32.ofNat M)), .val (.int (Int32.ofNat (B + M))), .val (.ref t1), .val (.ref t2), .unset, .unset] [(.ref t2), (.int (Int32.ofNat A)), (.ref t1)])) _
            refine XS.iload X64.here hx rfl (hb hby at_235) rfl ?_
            show Steps p.tables e below (T64.setTop (mkF m 237 #[.val (.int p1), .val (.int p2), .val (.int p3), .val (.int p4), .val (.int p5), .val (.int (Int32.ofNat A)), .val (.int (Int32.ofNat N)), .val (.int (Int32.ofNat (A + N))), .val (.int (Int32.ofNat B)), .val (.int ((4 : Int32) - (Int32.ofNat B))), .val (.int (Int32.ofNat M)), .val (.int (Int32.ofNat (B + M))), .val (.ref t1), .val (.ref t2), .unset, .unset] [(.int (Int32.ofNat B)), (.ref t2), (.int (Int32.ofNat A)), (.ref t1)])) _
            refine XS.iload X64.here hx rfl (hb hby at_237) rfl ?_
            show Steps p.tables e below (T64.setTop (mkF m 239 #[.val (.int p1), .val (.int p2), .val (.int p3), .val (.int p4), .val (.int p5), .val (.int (Int32.ofNat A)), .val (.int (Int32.ofNat N)), .val (.int (Int32.ofNat (A + N))), .val (.int (Int32.ofNat B)), .val (.int ((4 : Int32) - (Int32.ofNat B))), .val (.int (Int32.ofNat M)), .val (.int (Int32.ofNat (B + M))), .val (.ref t1), .val (.ref t2), .unset, .unset] [(.int (Int32.ofNat N)), (.int (Int32.ofNat B)), (.ref t2), (.int (Int32.ofNat A)), (.ref t1)])) _
            refine XS.iconst X64.here hx rfl (hb hby at_239) ?_
            show Steps p.tables e below (T64.setTop (mkF m 240 #[.val (.int p1), .val (.int p2), .val (.int p3), .val (.int p4), .val (.int p5), .val (.int (Int32.ofNat A)), .val (.int (Int32.ofNat N)), .val (.int (Int32.ofNat (A + N))), .val (.int (Int32.ofNat B)), .val (.int ((4 : Int32) - (Int32.ofNat B))), .val (.int (Int32.ofNat M)), .val (.int (Int32.ofNat (B + M))), .val (.ref t1), .val (.ref t2), .unset, .unset] [(.int (1 : Int32)), (.int (Int32.ofNat N)), (.int (Int32.ofNat B)), (.ref t2), (.int (Int32.ofNat A)), (.ref t1)])) _
            refine st67 _ ?_
            show Steps p.tables e below (T67.setTop (mkF m 243 #[.val (.int p1), .val (.int p2), .val (.int p3), .val (.int p4), .val (.int p5), .val (.int (Int32.ofNat A)), .val (.int (Int32.ofNat N)), .val (.int (Int32.ofNat (A + N))), .val (.int (Int32.ofNat B)), .val (.int ((4 : Int32) - (Int32.ofNat B))), .val (.int (Int32.ofNat M)), .val (.int (Int32.ofNat (B + M))), .val (.ref t1), .val (.ref t2), .unset, .unset] [(.int y1)])) _
            refine XS.ifNo X67.here hx rfl (hb hby at_243) rfl ((if0 _ _).trans (feq hc243).1) ?_
            show Steps p.tables e below (T67.setTop (mkF m 246 #[.val (.int p1), .val (.int p2), .val (.int p3), .val (.int p4), .val (.int p5), .val (.int (Int32.ofNat A)), .val (.int (Int32.ofNat N)), .val (.int (Int32.ofNat (A + N))), .val (.int (Int32.ofNat B)), .val (.int ((4 : Int32) - (Int32.ofNat B))), .val (.int (Int32.ofNat M)), .val (.int (Int32.ofNat (B + M))), .val (.ref t1), .val (.ref t2), .unset, .unset] [])) _
            refine XS.aload X67.here hx rfl (hb hby at_246) rfl rfl ?_
            show Steps p.tables e below (T67.setTop (mkF m 248 #[.val (.int p1), .val (.int p2), .val (.int p3), .val (.int p4), .val (.int p5), .val (.int (Int32.ofNat A)), .val (.int (Int32.ofNat N)), .val (.int (Int32.ofNat (A + N))), .val (.int (Int32.ofNat B)), .val (.int ((4 : Int32) - (Int32.ofNat B))), .val (.int (Int32.ofNat M)), .val (.int (Int32.ofNat (B + M))), .val (.ref t1), .val (.ref t2), .unset, .unset] [(.ref t1)])) _
            refine XS.iload X67.here hx rfl (hb hby at_248) rfl ?_
            show Steps p.tables e below (T67.setTop (mkF m 250 #[.val (.int p1), .val (.int p2), .val (.int p3), .val (.int p4), .val (.int p5), .val (.int (Int32.ofNat A)), .val (.int (Int32.ofNat N)), .val (.int (Int32.ofNat (A + N))), .val (.int (Int32.ofNat B)), .val (.int ((4 : Int32) - (Int32.ofNat B))), .val (.int (Int32.ofNat M)), .val (.int (Int32.ofNat (B + M))), .val (.ref t1), .val (.ref t2), .unset, .unset] [(.int (Int32.ofNat A)), (.ref t1)])) _
            refine XS.aload X67.here hx rfl (hb hby at_250) rfl rfl ?_
            show Steps p.tables e below (T67.setTop (mkF m 252 #[.val (.int p1), .val (.int p2), .val (.int p3), .val (.int p4), .val (.int p5), .val (.int (Int32.ofNat A)), .val (.int (Int32.ofNat N)), .val (.int (Int32.ofNat (A + N))), .val (.int (Int32.ofNat B)), .val (.int ((4 : Int32) - (Int32.ofNat B))), .val (.int (Int32.ofNat M)), .val (.int (Int32.ofNat (B + M))), .val (.ref t1), .val (.ref t2), .unset, .unset] [(.ref t2), (.int (Int32.ofNat A)), (.ref t1)])) _
            refine XS.iload X67.here hx rfl (hb hby at_252) rfl ?_
            show Steps p.tables e below (T67.setTop (mkF m 254 #[.val (.int p1), .val (.int p2), .val (.int p3), .val (.int p4), .val (.int p5), .val (.int (Int32.ofNat A)), .val (.int (Int32.ofNat N)), .val (.int (Int32.ofNat (A + N))), .val (.int (Int32.ofNat B)), .val (.int ((4 : Int32) - (Int32.ofNat B))), .val (.int (Int32.ofNat M)), .val (.int (Int32.ofNat (B + M))), .val (.ref t1), .val (.ref t2), .unset, .unset] [(.int (Int32.ofNat B)), (.ref t2), (.int (Int32.ofNat A)), (.ref t1)])) _
            refine XS.iload X67.here hx rfl (hb hby at_254) rfl ?_
            show Steps p.tables e below (T67.setTop (mkF m 256 #[.val (.int p1), .val (.int p2), .val (.int p3), .val (.int p4), .val (.int p5), .val (.int (Int32.ofNat A)), .val (.int (Int32.ofNat N)), .val (.int (Int32.ofNat (A + N))), .val (.int (Int32.ofNat B)), .val (.int ((4 : Int32) - (Int32.ofNat B))), .val (.int (Int32.ofNat M)), .val (.int (Int32.ofNat (B + M))), .val (.ref t1), .val (.ref t2), .unset, .unset] [(.int (Int32.ofNat N)), (.int (Int32.ofNat B)), (.ref t2), (.int (Int32.ofNat A)), (.ref t1)])) _
            refine XS.iconst X67.here hx rfl (hb hby at_256) ?_
            show Steps p.tables e below (T67.setTop (mkF m 257 #[.val (.int p1), .val (.int p2), .val (.int p3), .val (.int p4), .val (.int p5), .val (.int (Int32.ofNat A)), .val (.int (Int32.ofNat N)), .val (.int (Int32.ofNat (A + N))), .val (.int (Int32.ofNat B)), .val (.int ((4 : Int32) - (Int32.ofNat B))), .val (.int (Int32.ofNat M)), .val (.int (Int32.ofNat (B + M))), .val (.ref t1), .val (.ref t2), .unset, .unset] [(.int (2 : Int32)), (.int (Int32.ofNat N)), (.int (Int32.ofNat B)), (.ref t2), (.int (Int32.ofNat A)), (.ref t1)])) _
            refine st70 _ ?_
            show Steps p.tables e below (T70.setTop (mkF m 260 #[.val (.int p1), .val (.int p2), .val (.int p3), .val (.int p4), .val (.int p5), .val (.int (Int32.ofNat A)), .val (.int (Int32.ofNat N)), .val (.int (Int32.ofNat (A + N))), .val (.int (Int32.ofNat B)), .val (.int ((4 : Int32) - (Int32.ofNat B))), .val (.int (Int32.ofNat M)), .val (.int (Int32.ofNat (B + M))), .val (.ref t1), .val (.ref t2), .unset, .unset] [(.int y2)])) _
            refine XS.ifYes X70.here hx rfl (pc0 := 260) (pc' := 284) rfl (hb hby at_260) rfl ((if0 _ _).trans (teq hc260).1) (by decide) (by decide) ?_
            show Steps p.tables e below (T70.setTop (mkF m 284 #[.val (.int p1), .val (.int p2), .val (.int p3), .val (.int p4), .val (.int p5), .val (.int (Int32.ofNat A)), .val (.int (Int32.ofNat N)), .val (.int (Int32.ofNat (A + N))), .val (.int (Int32.ofNat B)), .val (.int ((4 : Int32) - (Int32.ofNat B))), .val (.int (Int32.ofNat M)), .val (.int (Int32.ofNat (B + M))), .val (.ref t1), .val (.ref t2), .unset, .unset] [])) _
            refine XS.iconst X70.here hx rfl (hb hby at_284) ?_
            show Steps p.tables e below (T70.setTop (mkF m 285 #[.val (.int p1), .val (.int p2), .val (.int p3), .val (.int p4), .val (.int p5), .val (.int (Int32.ofNat A)), .val (.int (Int32.ofNat N)), .val (.int (Int32.ofNat (A + N))), .val (.int (Int32.ofNat B)), .val (.int ((4 : Int32) - (Int32.ofNat B))), .val (.int (Int32.ofNat M)), .val (.int (Int32.ofNat (B + M))), .val (.ref t1), .val (.ref t2), .unset, .unset] [(.int (0 : Int32))])) _
            refine XS.istore X70.here hx rfl (hb hby at_285) rfl (l' := #[.val (.int p1), .val (.int p2), .val (.int p3), .val (.int p4), .val (.int p5), .val (.int (Int32.ofNat A)), .val (.int (Int32.ofNat N)), .val (.int (Int32.ofNat (A + N))), .val (.int (Int32.ofNat B)), .val (.int ((4 : Int32) - (Int32.ofNat B))), .val (.int (Int32.ofNat M)), .val (.int (Int32.ofNat (B + M))), .val (.ref t1), .val (.ref t2), .val (.int (0 : Int32)), .unset]) rfl ?_
            show Steps p.tables e below (T70.setTop (mkF m 287 #[.val (.int p1), .val (.int p2), .val (.int p3), .val (.int p4), .val (.int p5), .val (.int (Int32.ofNat A)), .val (.int (Int32.ofNat N)), .val (.int (Int32.ofNat (A + N))), .val (.int (Int32.ofNat B)), .val (.int ((4 : Int32) - (Int32.ofNat B))), .val (.int (Int32.ofNat M)), .val (.int (Int32.ofNat (B + M))), .val (.ref t1), .val (.ref t2), .val (.int (0 : Int32)), .unset] [])) _
            refine XS.aload X70.here hx rfl (hb hby at_287) rfl rfl ?_
            show Steps p.tables e below (T70.setTop (mkF m 289 #[.val (.int p1), .val (.int p2), .val (.int p3), .val (.int p4), .val (.int p5), .val (.int (Int32.ofNat A)), .val (.int (Int32.ofNat N)), .val (.int (Int32.ofNat (A + N))), .val (.int (Int32.ofNat B)), .val (.int ((4 : Int32) - (Int32.ofNat B))), .val (.int (Int32.ofNat M)), .val (.int (Int32.ofNat (B + M))), .val (.ref t1), .val (.ref t2), .val (.int (0 : Int32)), .unset] [(.ref t1)])) _
            refine XS.iload X70.here hx rfl (hb hby at_289) rfl ?_
            show Steps p.tables e below (T70.setTop (mkF m 291 #[.val (.int p1), .val (.int p2), .val (.int p3), .val (.int p4), .val (.int p5), .val (.int (Int32.ofNat A)), .val (.int (Int32.ofNat N)), .val (.int (Int32.ofNat (A + N))), .val (.int (Int32.ofNat B)), .val (.int ((4 : Int32) - (Int32.ofNat B))), .val (.int (Int32.ofNat M)), .val (.int (Int32.ofNat (B + M))), .val (.ref t1), .val (.ref t2), .val (.int (0 : Int32)), .unset] [(.int (Int32.ofNat A)), (.ref t1)])) _
            refine XS.iload X70.here hx rfl (hb hby at_291) rfl ?_
            show Steps p.tables e below (T70.setTop (mkF m 293 #[.val (.int p1), .val (.int p2), .val (.int p3), .val (.int p4), .val (.int p5), .val (.int (Int32.ofNat A)), .val (.int (Int32.ofNat N)), .val (.int (Int32.ofNat (A + N))), .val (.int (Int32.ofNat B)), .val (.int ((4 : Int32) - (Int32.ofNat B))), .val (.int (Int32.ofNat M)), .val (.int (Int32.ofNat (B + M))), .val (.ref t1), .val (.ref t2), .val (.int (0 : Int32)), .unset] [(.int (Int32.ofNat (A + N))), (.int (Int32.ofNat A)), (.ref t1)])) _
            refine XS.aload X70.here hx rfl (hb hby at_293) rfl rfl ?_
            show Steps p.tables e below (T70.setTop (mkF m 295 #[.val (.int p1), .val (.int p2), .val (.int p3), .val (.int p4), .val (.int p5), .val (.int (Int32.ofNat A)), .val (.int (Int32.ofNat N)), .val (.int (Int32.ofNat (A + N))), .val (.int (Int32.ofNat B)), .val (.int ((4 : Int32) - (Int32.ofNat B))), .val (.int (Int32.ofNat M)), .val (.int (Int32.ofNat (B + M))), .val (.ref t1), .val (.ref t2), .val (.int (0 : Int32)), .unset] [(.ref t2), (.int (Int32.ofNat (A + N))), (.int (Int32.ofNat A)), (.ref t1)])) _
            refine XS.iload X70.here hx rfl (hb hby at_295) rfl ?_
            show Steps p.tables e below (T70.setTop (mkF m 297 #[.val (.int p1), .val (.int p2), .val (.int p3), .val (.int p4), .val (.int p5), .val (.int (Int32.ofNat A)), .val (.int (Int32.ofNat N)), .val (.int (Int32.ofNat (A + N))), .val (.int (Int32.ofNat B)), .val (.int ((4 : Int32) - (Int32.ofNat B))), .val (.int (Int32.ofNat M)), .val (.int (Int32.ofNat (B + M))), .val (.ref t1), .val (.ref t2), .val (.int (0 : Int32)), .unset] [(.int (Int32.ofNat B)), (.ref t2), (.int (Int32.ofNat (A + N))), (.int (Int32.ofNat A)), (.ref t1)])) _
            refine XS.iload X70.here hx rfl (hb hby at_297) rfl ?_
            show Steps p.tables e below (T70.setTop (mkF m 299 #[.val (.int p1), .val (.int p2), .val (.int p3), .val (.int p4), .val (.int p5), .val (.int (Int32.ofNat A)), .val (.int (Int32.ofNat N)), .val (.int (Int32.ofNat (A + N))), .val (.int (Int32.ofNat B)), .val (.int ((4 : Int32) - (Int32.ofNat B))), .val (.int (Int32.ofNat M)), .val (.int (Int32.ofNat (B + M))), .val (.ref t1), .val (.ref t2), .val (.int (0 : Int32)), .unset] [(.int (Int32.ofNat (B + M))), (.int (Int32.ofNat B)), (.ref t2), (.int (Int32.ofNat (A + N))), (.int (Int32.ofNat A)), (.ref t1)])) _
            refine st71 _ ?_
            show Steps p.tables e below (T71.setTop (mkF m 302 #[.val (.int p1), .val (.int p2), .val (.int p3), .val (.int p4), .val (.int p5), .val (.int (Int32.ofNat A)), .val (.int (Int32.ofNat N)), .val (.int (Int32.ofNat (A + N))), .val (.int (Int32.ofNat B)), .val (.int ((4 : Int32) - (Int32.ofNat B))), .val (.int (Int32.ofNat M)), .val (.int (Int32.ofNat (B + M))), .val (.ref t1), .val (.ref t2), .val (.int (0 : Int32)), .unset] [(.int zz)])) _
            refine XS.istore X71.here hx rfl (hb hby at_302) rfl (l' := #[.val (.int p1), .val (.int p2), .val (.int p3), .val (.int p4), .val (.int p5), .val (.int (Int32.ofNat A)), .val (.int (Int32.ofNat N)), .val (.int (Int32.ofNat (A + N))), .val (.int (Int32.ofNat B)), .val (.int ((4 : Int32) - (Int32.ofNat B))), .val (.int (Int32.ofNat M)), .val (.int (Int32.ofNat (B + M))), .val (.ref t1), .val (.ref t2), .val (.int (0 : Int32)), .val (.int zz)]) rfl ?_
            show Steps p.tables e below (T71.setTop (mkF m 304 #[.val (.int p1), .val (.int p2), .val (.int p3), .val (.int p4), .val (.int p5), .val (.int (Int32.ofNat A)), .val (.int (Int32.ofNat N)), .val (.int (Int32.ofNat (A + N))), .val (.int (Int32.ofNat B)), .val (.int ((4 : Int32) - (Int32.ofNat B))), .val (.int (Int32.ofNat M)), .val (.int (Int32.ofNat (B + M))), .val (.ref t1), .val (.ref t2), .val (.int (0 : Int32)), .val (.int zz)] [])) _
            refine XS.iload X71.here hx rfl (hb hby at_304) rfl ?_
            show Steps p.tables e below (T71.setTop (mkF m 306 #[.val (.int p1), .val (.int p2), .val (.int p3), .val (.int p4), .val (.int p5), .val (.int (Int32.ofNat A)), .val (.int (Int32.ofNat N)), .val (.int (Int32.ofNat (A + N))), .val (.int (Int32.ofNat B)), .val (.int ((4 : Int32) - (Int32.ofNat B))), .val (.int (Int32.ofNat M)), .val (.int (Int32.ofNat (B + M))), .val (.ref t1), .val (.ref t2), .val (.int (0 : Int32)), .val (.int zz)] [(.int zz)])) _
            refine XS.iload X71.here hx rfl (hb hby at_306) rfl ?_
            show Steps p.tables e below (T71.setTop (mkF m 308 #[.val (.int p1), .val (.int p2), .val (.int p3), .val (.int p4), .val (.int p5), .val (.int (Int32.ofNat A)), .val (.int (Int32.ofNat N)), .val (.int (Int32.ofNat (A + N))), .val (.int (Int32.ofNat B)), .val (.int ((4 : Int32) - (Int32.ofNat B))), .val (.int (Int32.ofNat M)), .val (.int (Int32.ofNat (B + M))), .val (.ref t1), .val (.ref t2), .val (.int (0 : Int32)), .val (.int zz)] [(.int (0 : Int32)), (.int zz)])) _
            refine XS.icmpNo X71.here hx rfl (hb hby at_308) rfl (teq hz72).2 ?_
            show Steps p.tables e below (T71.setTop (mkF m 311 #[.val (.int p1), .val (.int p2), .val (.int p3), .val (.int p4), .val (.int p5), .val (.int (Int32.ofNat A)), .val (.int (Int32.ofNat N)), .val (.int (Int32.ofNat (A + N))), .val (.int (Int32.ofNat B)), .val (.int ((4 : Int32) - (Int32.ofNat B))), .val (.int (Int32.ofNat M)), .val (.int (Int32.ofNat (B + M))), .val (.ref t1), .val (.ref t2), .val (.int (0 : Int32)), .val (.int zz)] [])) _
            refine XS.iconst X71.here hx rfl (hb hby at_311) ?_
            show Steps p.tables e below (T71.setTop (mkF m 312 #[.val (.int p1), .val (.int p2), .val (.int p3), .val (.int p4), .val (.int p5), .val (.int (Int32.ofNat A)), .val (.int (Int32.ofNat N)), .val (.int (Int32.ofNat (A + N))), .val (.int (Int32.ofNat B)), .val (.int ((4 : Int32) - (Int32.ofNat B))), .val (.int (Int32.ofNat M)), .val (.int (Int32.ofNat (B + M))), .val (.ref t1), .val (.ref t2), .val (.int (0 : Int32)), .val (.int zz)] [(.int (1 : Int32))])) _
            refine XS.goto X71.here hx rfl (pc0 := 312) (pc' := 316) rfl (hb hby at_312) (by decide) (by decide) ?_
            show Steps p.tables e below (T71.setTop (mkF m 316 #[.val (.int p1), .val (.int p2), .val (.int p3), .val (.int p4), .val (.int p5), .val (.int (Int32.ofNat A)), .val (.int (Int32.ofNat N)), .val (.int (Int32.ofNat (A + N))), .val (.int (Int32.ofNat B)), .val (.int ((4 : Int32) - (Int32.ofNat B))), .val (.int (Int32.ofNat M)), .val (.int (Int32.ofNat (B + M))), .val (.ref t1), .val (.ref t2), .val (.int (0 : Int32)), .val (.int zz)] [(.int (1 : Int32))])) _
            exact retN X71 hx (t := .boolean) Bd.returns (by simp) (hb hby at_316) hr
          · show Q0 Z p1 p2 p3 p4 p5 h0 n0 _ T71.heap _
            rw [e71]
            exact ⟨rfl, N71⟩
        · obtain ⟨_, _, ⟨T73, L73, k73, n73⟩, -, X73, ⟨Lc73, hQ73, l73, y73, z73⟩, st73⟩ := Jvm.LawKit.callS X70 hx (y := (⟨"com/example/trailsmith/trailsmith/check/BytesEqualPinLaw", "at", "([BI[BIII)Z"⟩ : MethodName)) hown (mvT hZ (hw _ (List.mem_of_getElem? (i := 7) rfl))) (mvT hZ (hw _ (List.mem_of_getElem? (i := 8) rfl))) (mvT hZ (hw _ (List.mem_of_getElem? (i := 5) rfl))) (mvT hZ (hw _ (List.mem_of_getElem? (i := 9) rfl))) (by decide) (backOf (W := 0) (rm2_3 l Z a0 hw [] t1 t2 A B N f g h58 n0 Z62 f60 BB hAN (by rw [hNM]; exact hBM)) hZ (hw _ (List.mem_of_getElem? (i := 9) rfl)) (hw _ (List.mem_of_getElem? (i := 5) rfl)) (by decide) (by decide)) (g := (mkF m 274 #[.val (.int p1), .val (.int p2), .val (.int p3), .val (.int p4), .val (.int p5), .val (.int (Int32.ofNat A)), .val (.int (Int32.ofNat N)), .val (.int (Int32.ofNat (A + N))), .val (.int (Int32.ofNat B)), .val (.int ((4 : Int32) - (Int32.ofNat B))), .val (.int (Int32.ofNat M)), .val (.int (Int32.ofNat (B + M))), .val (.ref t1), .val (.ref t2), .unset, .unset] [(.int (3 : Int32)), (.int (Int32.ofNat N)), (.int (Int32.ofNat B)), (.ref t2), (.int (Int32.ofNat A)), (.ref t1)])) rfl (by rw [hml]; rfl) (argsL := [(.ref t1), (.int (Int32.ofNat A)), (.ref t2), (.int (Int32.ofNat B)), (.int (Int32.ofNat N)), (.int (3 : Int32))]) (rest := []) (lenOf pd_77 rfl) rfl (by show 2 * 0 + _ ≤ _; exact Nat.le_of_eq rfl) (hb hby at_274) (fun _ _ => ⟨rfl, e70, (by decide : 2 + 0 ≤ _), (by decide : 8 + 0 ≤ _)⟩)
          dsimp only [Pt.U, Pt.locs, Pt.cells, Pt.slots] at X73 l73 y73 z73 st73 hQ73
          subst l73 y73 z73
          obtain ⟨y3, rfl, N73q, e73, hy3⟩ := hQ73
          have N73 := Fr.app N70 N73q
          by_cases hc277 : y3 = (0 : Int32)
          · obtain ⟨_, _, ⟨T74, L74, k74, n74⟩, -, X74, ⟨Lc74, hQ74, l74, y74, z74⟩, st74⟩ := Jvm.LawKit.callS X73 hx (y := (⟨"com/example/trailsmith/trailsmith/check/Bytes", "equal", "([BII[BII)Z"⟩ : MethodName)) hown (mvT hZ (hw _ (List.mem_of_getElem? (i := 10) rfl))) (mvT hZ (hw _ (List.mem_of_getElem? (i := 11) rfl))) (mvT hZ (hw _ (List.mem_of_getElem? (i := 12) rfl))) (mvT hZ (hw _ (List.mem_of_getElem? (i := 13) rfl))) (by decide) (backOf (W := 0) (rm3 l Z a0 hw [] t1 t2 A B N M f g h58 n0 Z62 f60 BB hAN hBM) hZ (hw _ (List.mem_of_getElem? (i := 13) rfl)) (hw _ (List.mem_of_getElem? (i := 12) rfl)) (by decide) (by decide)) (g := (mkF m 299 #[.val (.int p1), .val (.int p2), .val (.int p3), .val (.int p4), .val (.int p5), .val (.int (Int32.ofNat A)), .val (.int (Int32.ofNat N)), .val (.int (Int32.ofNat (A + N))), .val (.int (Int32.ofNat B)), .val (.int ((4 : Int32) - (Int32.ofNat B))), .val (.int (Int32.ofNat M)), .val (.int (Int32.ofNat (B + M))), .val (.ref t1), .val (.ref t2), .val (.int (0 : Int32)), .unset] [(.int (Int32.ofNat (B + M))), (.int (Int32.ofNat B)), (.ref t2), (.int (Int32.ofNat (A + N))), (.int (Int32.ofNat A)), (.ref t1)])) rfl (by rw [hml]; rfl) (argsL := [(.ref t1), (.int (Int32.ofNat A)), (.int (Int32.ofNat (A + N))), (.ref t2), (.int (Int32.ofNat B)), (.int (Int32.ofNat (B + M)))]) (rest := []) (lenOf pd_78 rfl) rfl (by show 2 * 0 + _ ≤ _; exact Nat.le_of_eq rfl) (hb hby at_299) (fun _ _ => ⟨rfl, e73, (by decide : 2 + 0 ≤ _), (by decide : 8 + 0 ≤ _)⟩)
            dsimp only [Pt.U, Pt.locs, Pt.cells, Pt.slots] at X74 l74 y74 z74 st74 hQ74
            subst l74 y74 z74
            obtain ⟨zz, rfl, N74q, e74, hzz⟩ := hQ74
            have N74 := Fr.app N73 N74q
            have hz75 : zz = (0 : Int32) := (own_z0 hzz (fun q => (own_a0 hy3 hc277).2 (q.2 3 (own_a0 hy3 hc277).1)))
            obtain ⟨fs, hr, hrun, hended, hW, hsame⟩ := X74.leave (v := some (.int (1 : Int32))) (fun h => by rw [Bd.returns] at h; cases h)
            refine ⟨_, _, pre0 _ ?_, hrun, hended, _, _, rfl, ?_, ⟨_, rfl⟩, hW, hsame.mono (by decide) (by decide)⟩
            · show Steps p.tables e below (s₁.setTop (mkF m 0 #[.val (.int p1), .val (.int p2), .val (.int p3), .val (.int p4), .val (.int p5), .unset, .unset, .unset, .unset, .unset, .unset, .unset, .unset, .unset, .unset, .unset] [])) _
              refine seg63 _ ?_
              show Steps p.tables e below (T58.setTop (mkF m 199 #[.val (.int p1), .val (.int p2), .val (.int p3), .val (.int p4), .val (.int p5), .val (.int (Int32.ofNat A)), .val (.int (Int32.ofNat N)), .val (.int (Int32.ofNat (A + N))), .val (.int (Int32.ofNat B)), .val (.int ((4 : Int32) - (Int32.ofNat B))), .val (.int (Int32.ofNat M)), .val (.int (Int32.ofNat (B + M))), .val (.ref t1), .val (.ref t2), .unset, .unset] [])) _
              refine XS.iload X58.here hx rfl (hb hby at_199) rfl ?_
              show Steps p.tables e below (T58.setTop (mkF m 201 #[.val (.int p1), .val (.int p2), .val (.int p3), .val (.int p4), .val (.int p5), .val (.int (Int32.ofNat A)), .val (.int (Int32.ofNat N)), .val (.int (Int32.ofNat (A + N))), .val (.int (Int32.ofNat B)), .val (.int ((4 : Int32) - (Int32.ofNat B))), .val (.int (Int32.ofNat M)), .val (.int (Int32.ofNat (B + M))), .val (.ref t1), .val (.ref t2), .unset, .unset] [(.int (Int32.ofNat N))])) _
              refine XS.iload X58.here hx rfl (hb hby at_201) rfl ?_
              show Steps p.tables e below (T58.setTop (mkF m 203 #[.val (.int p1), .val (.int p2), .val (.int p3), .val (.int p4), .val (.int p5), .val (.int (Int32.ofNat A)), .val (.int (Int32.ofNat N)), .val (.int (Int32.ofNat (A + N))), .val (.int (Int32.ofNat B)), .val (.int ((4 : Int32) - (Int32.ofNat B))), .val (.int (Int32.ofNat M)), .val (.int (Int32.ofNat (B + M))), .val (.ref t1), .val (.ref t2), .unset, .unset] [(.int (Int32.ofNat M)), (.int (Int32.ofNat N))])) _
              refine XS.icmpYes X58.here hx rfl (pc0 := 203) (pc' := 212) rfl (hb hby at_203) rfl (teq hc203).1 (by decide) (by decide) ?_
              show Steps p.tables e below (T58.setTop (mkF m 212 #[.val (.int p1), .val (.int p2), .val (.int p3), .val (.int p4), .val (.int p5), .val (.int (Int32.ofNat A)), .val (.int (Int32.ofNat N)), .val (.int (Int32.ofNat (A + N))), .val (.int (Int32.ofNat B)), .val (.int ((4 : Int32) - (Int32.ofNat B))), .val (.int (Int32.ofNat M)), .val (.int (Int32.ofNat (B + M))), .val (.ref t1), .val (.ref t2), .unset, .unset] [])) _
              refine XS.aload X58.here hx rfl (hb hby at_212) rfl rfl ?_
              show Steps p.tables e below (T58.setTop (mkF m 214 #[.val (.int p1), .val (.int p2), .val (.int p3), .val (.int p4), .val (.int p5), .val (.int (Int32.ofNat A)), .val (.int (Int32.ofNat N)), .val (.int (Int32.ofNat (A + N))), .val (.int (Int32.ofNat B)), .val (.int ((4 : Int32) - (Int32.ofNat B))), .val (.int (Int32.ofNat M)), .val (.int (Int32.ofNat (B + M))), .val (.ref t1), .val (.ref t2), .unset, .unset] [(.ref t1)])) _
              refine XS.iload X58.here hx rfl (hb hby at_214) rfl ?_
              show Steps p.tables e below (T58.setTop (mkF m 216 #[.val (.int p1), .val (.int p2), .val (.int p3), .val (.int p4), .val (.int p5), .val (.int (Int32.ofNat A)), .val (.int (Int32.ofNat N)), .val (.int (Int32.ofNat (A + N))), .val (.int (Int32.ofNat B)), .val (.int ((4 : Int32) - (Int32.ofNat B))), .val (.int (Int32.ofNat M)), .val (.int (Int32.ofNat (B + M))), .val (.ref t1), .val (.ref t2), .unset, .unset] [(.int (Int32.ofNat A)), (.ref t1)])) _
              refine XS.aload X58.here hx rfl (hb hby at_216) rfl rfl ?_
              show Steps p.tables e below (T58.setTop (mkF m 218 #[.val (.int p1), .val (.int p2), .val (.int p3), .val (.int p4), .val (.int p5), .val (.int (Int32.ofNat A)), .val (.int (Int32.ofNat N)), .val (.int (Int32.ofNat (A + N))), .val (.int (Int32.ofNat B)), .val (.int ((4 : Int32) - (Int32.ofNat B))), .val (.int (Int32.ofNat M)), .val (.int (Int32.ofNat (B + M))), .val (.ref t1), .val (.ref t2), .unset, .unset] [(.ref t2), (.int (Int32.ofNat A)), (.ref t1)])) _
              refine XS.iload X58.here hx rfl (hb hby at_218) rfl ?_
              show Steps p.tables e below (T58.setTop (mkF m 220 #[.val (.int p1), .val (.int p2), .val (.int p3), .val (.int p4), .val (.int p5), .val (.int (Int32.ofNat A)), .val (.int (Int32.ofNat N)), .val (.int (Int32.ofNat (A + N))), .val (.int (Int32.ofNat B)), .val (.int ((4 : Int32) - (Int32.ofNat B))), .val (.int (Int32.ofNat M)), .val (.int (Int32.ofNat (B + M))), .val (.ref t1), .val (.ref t2), .unset, .unset] [(.int (Int32.ofNat B)), (.ref t2), (.int (Int32.ofNat A)), (.ref t1)])) _
              refine XS.iload X58.here hx rfl (hb hby at_220) rfl ?_
              show Steps p.tables e below (T58.setTop (mkF m 222 #[.val (.int p1), .val (.int p2), .val (.int p3), .val (.int p4), .val (.int p5), .val (.int (Int32.ofNat A)), .val (.int (Int32.ofNat N)), .val (.int (Int32.ofNat (A + N))), .val (.int (Int32.ofNat B)), .val (.int ((4 : Int32) - (Int32.ofNat B))), .val (.int (Int32.ofNat M)), .val (.int (Int32.ofNat (B + M))), .val (.ref t1), .val (.ref t2), .unset, .unset] [(.int (Int32.ofNat N)), (.int (Int32.ofNat B)), (.ref t2), (.int (Int32.ofNat A)), (.ref t1)])) _
              refine XS.iconst X58.here hx rfl (hb hby at_222) ?_
              show Steps p.tables e below (T58.setTop (mkF m 223 #[.val (.int p1), .val (.int p2), .val (.int p3), .val (.int p4), .val (.int p5), .val (.int (Int32.ofNat A)), .val (.int (Int32.ofNat N)), .val (.int (Int32.ofNat (A + N))), .val (.int (Int32.ofNat B)), .val (.int ((4 : Int32) - (Int32.ofNat B))), .val (.int (Int32.ofNat M)), .val (.int (Int32.ofNat (B + M))), .val (.ref t1), .val (.ref t2), .unset, .unset] [(.int (0 : Int32)), (.int (Int32.ofNat N)), (.int (Int32.ofNat B)), (.ref t2), (.int (Int32.ofNat A)), (.ref t1)])) _
              refine st64 _ ?_
              show Steps p.tables e below (T64.setTop (mkF m 226 #[.val (.int p1), .val (.int p2), .val (.int p3), .val (.int p4), .val (.int p5), .val (.int (Int32.ofNat A)), .val (.int (Int32.ofNat N)), .val (.int (Int32.ofNat (A + N))), .val (.int (Int32.ofNat B)), .val (.int ((4 : Int32) - (Int32.ofNat B))), .val (.int (Int32.ofNat M)), .val (.int (Int32.ofNat (B + M))), .val (.ref t1), .val (.ref t2), .unset, .unset] [(.int y0)])) _
              refine XS.ifNo X64.here hx rfl (hb hby at_226) rfl ((if0 _ _).trans (feq hc226).1) ?_
              show Steps p.tables e below (T64.setTop (mkF m 229 #[.val (.int p1), .val (.int p2), .val (.int p3), .val (.int p4), .val (.int p5), .val (.int (Int32.ofNat A)), .val (.int (Int32.ofNat N)), .val (.int (Int32.ofNat (A + N))), .val (.int (Int32.ofNat B)), .val (.int ((4 : Int32) - (Int32.ofNat B))), .val (.int (Int32.ofNat M)), .val (.int (Int32.ofNat (B + M))), .val (.ref t1), .val (.ref t2), .unset, .unset] [])) _
              refine XS.aload X64.here hx rfl (hb hby at_229) rfl rfl ?_
              show Steps p.tables e below (T64.setTop (mkF m 231 #[.val (.int p1), .val (.int p2), .val (.int p3), .val (.int p4), .val (.int p5), .val (.int (Int32.ofNat A)), .val (.int (Int32.ofNat N)), .val (.int (Int32.ofNat (A + N))), .val (.int (Int32.ofNat B)), .val (.int ((4 : Int32) - (Int32.ofNat B))), .val (.int (Int32.ofNat M)), .val (.int (Int32.ofNat (B + M))), .val (.ref t1), .val (.ref t2), .unset, .unset] [(.ref t1)])) _
              refine XS.iload X64.here hx rfl (hb hby at_231) rfl ?_
              show Steps p.tables e below (T64.setTop (mkF m 233 #[.val (.int p1), .val (.int p2), .val (.int p3), .val (.int p4), .val (.int p5), .val (.int (Int32.ofNat A)), .val (.int (Int32.ofNat N)), .val (.int (Int32.ofNat (A + N))), .val (.int (Int32.ofNat B)), .val (.int ((4 : Int32) - (Int32.ofNat B))), .val (.int (Int32.ofNat M)), .val (.int (Int32.ofNat (B + M))), .val (.ref t1), .val (.ref t2), .unset, .unset] [(.int (Int32.ofNat A)), (.ref t1)])) _
              refine XS.aload X64.here hx rfl (hb hby at_233) rfl rfl ?_
              show Steps p.tables e below (T64.setTop (mkF m 235 #[.val (.int p1), .val (.int p2), .val (.int p3), .val (.int p4), .val (.int p5), .val (.int (Int32.ofNat A)), .val (.int (Int32.ofNat N)), .val (.int (Int32.ofNat (A + N))), .val (.int (Int32.ofNat B)), .val (.int ((4 : Int32) - (Int32.ofNat B))), .val (.int (Int32.ofNat M)), .val (.int (Int32.ofNat (B + M))), .val (.ref t1), .val (.ref t2), .unset, .unset] [(.ref t2), (.int (Int32.ofNat A)), (.ref t1)])) _
              refine XS.iload X64.here hx rfl (hb hby at_235) rfl ?_
              show Steps p.tables e below (T64.setTop (mkF m 237 #[.val (.int p1), .val (.int p2), .val (.int p3), .val (.int p4), .val (.int p5), .val (.int (Int32.ofNat A)), .val (.int (Int32.ofNat N)), .val (.int (Int32.ofNat (A + N))), .val (.int (Int32.ofNat B)), .val (.int ((4 : Int32) - (Int32.ofNat B))), .val (.int (Int32.ofNat M)), .val (.int (Int32.ofNat (B + M))), .val (.ref t1), .val (.ref t2), .unset, .unset] [(.int (Int32.ofNat B)), (.ref t2), (.int (Int32.ofNat A)), (.ref t1)])) _
              refine XS.iload X64.here hx rfl (hb hby at_237) rfl ?_
              show Steps p.tables e below (T64.setTop (mkF m 239 #[.val (.int p1), .val (.int p2), .val (.int p3), .val (.int p4), .val (.int p5), .val (.int (Int32.ofNat A)), .val (.int (Int32.ofNat N)), .val (.int (Int32.ofNat (A + N))), .val (.int (Int32.ofNat B)), .val (.int ((4 : Int32) - (Int32.ofNat B))), .val (.int (Int32.ofNat M)), .val (.int (Int32.ofNat (B + M))), .val (.ref t1), .val (.ref t2), .unset, .unset] [(.int (Int32.ofNat N)), (.int (Int32.ofNat B)), (.ref t2), (.int (Int32.ofNat A)), (.ref t1)])) _
              refine XS.iconst X64.here hx rfl (hb hby at_239) ?_
              show Steps p.tables e below (T64.setTop (mkF m 240 #[.val (.int p1), .val (.int p2), .val (.int p3), .val (.int p4), .val (.int p5), .val (.int (Int32.ofNat A)), .val (.int (Int32.ofNat N)), .val (.int (Int32.ofNat (A + N))), .val (.int (Int32.ofNat B)), .val (.int ((4 : Int32) - (Int32.ofNat B))), .val (.int (Int32.ofNat M)), .val (.int (Int32.ofNat (B + M))), .val (.ref t1), .val (.ref t2), .unset, .unset] [(.int (1 : Int32)), (.int (Int32.ofNat N)), (.int (Int32.ofNat B)), (.ref t2), (.int (Int32.ofNat A)), (.ref t1)])) _
              refine st67 _ ?_
              show Steps p.tables e below (T67.setTop (mkF m 243 #[.val (.int p1), .val (.int p2), .val (.int p3), .val (.int p4), .val (.int p5), .val (.int (Int32.ofNat A)), .val (.int (Int32.ofNat N)), .val (.int (Int32.ofNat (A + N))), .val (.int (Int32.ofNat B)), .val (.int ((4 : Int32) - (Int32.ofNat B))), .val (.int (Int32.ofNat M)), .val (.int (Int32.ofNat (B + M))), .val (.ref t1), .val (.ref t2), .unset, .unset] [(.int y1)])) _
              refine XS.ifNo X67.here hx rfl (hb hby at_243) rfl ((if0 _ _).trans (feq hc243).1) ?_
              show Steps p.tables e below (T67.setTop (mkF m 246 #[.val (.int p1), .val (.int p2), .val (.int p3), .val (.int p4), .val (.int p5), .val (.int (Int32.ofNat A)), .val (.int (Int32.ofNat N)), .val (.int (Int32.ofNat (A + N))), .val (.int (Int32.ofNat B)), .val (.int ((4 : Int32) - (Int32.ofNat B))), .val (.int (Int32.ofNat M)), .val (.int (Int32.ofNat (B + M))), .val (.ref t1), .val (.ref t2), .unset, .unset] [])) _
              refine XS.aload X67.here hx rfl (hb hby at_246) rfl rfl ?_
              show Steps p.tables e below (T67.setTop (mkF m 248 #[.val (.int p1), .val (.int p2), .val (.int p3), .val (.int p4), .val (.int p5), .val (.int (Int32.ofNat A)), .val (.int (Int32.ofNat N)), .val (.int (Int32.ofNat (A + N))), .val (.int (Int32.ofNat B)), .val (.int ((4 : Int32) - (Int32.ofNat B))), .val (.int (Int32.ofNat M)), .val (.int (Int32.ofNat (B + M))), .val (.ref t1), .val (.ref t2), .unset, .unset] [(.ref t1)])) _
              refine XS.iload X67.here hx rfl (hb hby at_248) rfl ?_
              show Steps p.tables e below (T67.setTop (mkF m 250 #[.val (.int p1), .val (.int p2), .val (.int p3), .val (.int p4), .val (.int p5), .val (.int (Int32.ofNat A)), .val (.int (Int32.ofNat N)), .val (.int (Int32.ofNat (A + N))), .val (.int (Int32.ofNat B)), .val (.int ((4 : Int32) - (Int32.ofNat B))), .val (.int (Int32.ofNat M)), .val (.int (Int32.ofNat (B + M))), .val (.ref t1), .val (.ref t2), .unset, .unset] [(.int (Int32.ofNat A)), (.ref t1)])) _
              refine XS.aload X67.here hx rfl (hb hby at_250) rfl rfl ?_
              show Steps p.tables e below (T67.setTop (mkF m 252 #[.val (.int p1), .val (.int p2), .val (.int p3), .val (.int p4), .val (.int p5), .val (.int (Int32.ofNat A)), .val (.int (Int32.ofNat N)), .val (.int (Int32.ofNat (A + N))), .val (.int (Int32.ofNat B)), .val (.int ((4 : Int32) - (Int32.ofNat B))), .val (.int (Int32.ofNat M)), .val (.int (Int32.ofNat (B + M))), .val (.ref t1), .val (.ref t2), .unset, .unset] [(.ref t2), (.int (Int32.ofNat A)), (.ref t1)])) _
              refine XS.iload X67.here hx rfl (hb hby at_252) rfl ?_
              show Steps p.tables e below (T67.setTop (mkF m 254 #[.val (.int p1), .val (.int p2), .val (.int p3), .val (.int p4), .val (.int p5), .val (.int (Int32.ofNat A)), .val (.int (Int32.ofNat N)), .val (.int (Int32.ofNat (A + N))), .val (.int (Int32.ofNat B)), .val (.int ((4 : Int32) - (Int32.ofNat B))), .val (.int (Int32.ofNat M)), .val (.int (Int32.ofNat (B + M))), .val (.ref t1), .val (.ref t2), .unset, .unset] [(.int (Int32.ofNat B)), (.ref t2), (.int (Int32.ofNat A)), (.ref t1)])) _
              refine XS.iload X67.here hx rfl (hb hby at_254) rfl ?_
              show Steps p.tables e below (T67.setTop (mkF m 256 #[.val (.int p1), .val (.int p2), .val (.int p3), .val (.int p4), .val (.int p5), .val (.int (Int32.ofNat A)), .val (.int (Int32.ofNat N)), .val (.int (Int32.ofNat (A + N))), .val (.int (Int32.ofNat B)), .val (.int ((4 : Int32) - (Int32.ofNat B))), .val (.int (Int32.ofNat M)), .val (.int (Int32.ofNat (B + M))), .val (.ref t1), .val (.ref t2), .unset, .unset] [(.int (Int32.ofNat N)), (.int (Int32.ofNat B)), (.ref t2), (.int (Int32.ofNat A)), (.ref t1)])) _
              refine XS.iconst X67.here hx rfl (hb hby at_256) ?_
              show Steps p.tables e below (T67.setTop (mkF m 257 #[.val (.int p1), .val (.int p2), .val (.int p3), .val (.int p4), .val (.int p5), .val (.int (Int32.ofNat A)), .val (.int (Int32.ofNat N)), .val (.int (Int32.ofNat (A + N))), .val (.int (Int32.ofNat B)), .val (.int ((4 : Int32) - (Int32.ofNat B))), .val (.int (Int32.ofNat M)), .val (.int (Int32.ofNat (B + M))), .val (.ref t1), .val (.ref t2), .unset, .unset] [(.int (2 : Int32)), (.int (Int32.ofNat N)), (.int (Int32.ofNat B)), (.ref t2), (.int (Int32.ofNat A)), (.ref t1)])) _
              refine st70 _ ?_
              show Steps p.tables e below (T70.setTop (mkF m 260 #[.val (.int p1), .val (.int p2), .val (.int p3), .val (.int p4), .val (.int p5), .val (.int (Int32.ofNat A)), .val (.int (Int32.ofNat N)), .val (.int (Int32.ofNat (A + N))), .val (.int (Int32.ofNat B)), .val (.int ((4 : Int32) - (Int32.ofNat B))), .val (.int (Int32.ofNat M)), .val (.int (Int32.ofNat (B + M))), .val (.ref t1), .val (.ref t2), .unset, .unset] [(.int y2)])) _
              refine XS.ifNo X70.here hx rfl (hb hby at_260) rfl ((if0 _ _).trans (feq hc260).1) ?_
              show Steps p.tables e below (T70.setTop (mkF m 263 #[.val (.int p1), .val (.int p2), .val (.int p3), .val (.int p4), .val (.int p5), .val (.int (Int32.ofNat A)), .val (.int (Int32.ofNat N)), .val (.int (Int32.ofNat (A + N))), .val (.int (Int32.ofNat B)), .val (.int ((4 : Int32) - (Int32.ofNat B))), .val (.int (Int32.ofNat M)), .val (.int (Int32.ofNat (B + M))), .val (.ref t1), .val (.ref t2), .unset, .unset] [])) _
              refine XS.aload X70.here hx rfl (hb hby at_263) rfl rfl ?_
              show Steps p.tables e below (T70.setTop (mkF m 265 #[.val (.int p1), .val (.int p2), .val (.int p3), .val (.int p4), .val (.int p5), .val (.int (Int32.ofNat A)), .val (.int (Int32.ofNat N)), .val (.int (Int32.ofNat (A + N))), .val (.int (Int32.ofNat B)), .val (.int ((4 : Int32) - (Int32.ofNat B))), .val (.int (Int32.ofNat M)), .val (.int (Int32.ofNat (B + M))), .val (.ref t1), .val (.ref t2), .unset, .unset] [(.ref t1)])) _
              refine XS.iload X70.here hx rfl (hb hby at_265) rfl ?_
              show Steps p.tables e below (T70.setTop (mkF m 267 #[.val (.int p1), .val (.int p2), .val (.int p3), .val (.int p4), .val (.int p5), .val (.int (Int32.ofNat A)), .val (.int (Int32.ofNat N)), .val (.int (Int32.ofNat (A + N))), .val (.int (Int32.ofNat B)), .val (.int ((4 : Int32) - (Int32.ofNat B))), .val (.int (Int32.ofNat M)), .val (.int (Int32.ofNat (B + M))), .val (.ref t1), .val (.ref t2), .unset, .unset] [(.int (Int32.ofNat A)), (.ref t1)])) _
              refine XS.aload X70.here hx rfl (hb hby at_267) rfl rfl ?_
              show Steps p.tables e below (T70.setTop (mkF m 269 #[.val (.int p1), .val (.int p2), .val (.int p3), .val (.int p4), .val (.int p5), .val (.int (Int32.ofNat A)), .val (.int (Int32.ofNat N)), .val (.int (Int32.ofNat (A + N))), .val (.int (Int32.ofNat B)), .val (.int ((4 : Int32) - (Int32.ofNat B))), .val (.int (Int32.ofNat M)), .val (.int (Int32.ofNat (B + M))), .val (.ref t1), .val (.ref t2), .unset, .unset] [(.ref t2), (.int (Int32.ofNat A)), (.ref t1)])) _
              refine XS.iload X70.here hx rfl (hb hby at_269) rfl ?_
              show Steps p.tables e below (T70.setTop (mkF m 271 #[.val (.int p1), .val (.int p2), .val (.int p3), .val (.int p4), .val (.int p5), .val (.int (Int32.ofNat A)), .val (.int (Int32.ofNat N)), .val (.int (Int32.ofNat (A + N))), .val (.int (Int32.ofNat B)), .val (.int ((4 : Int32) - (Int32.ofNat B))), .val (.int (Int32.ofNat M)), .val (.int (Int32.ofNat (B + M))), .val (.ref t1), .val (.ref t2), .unset, .unset] [(.int (Int32.ofNat B)), (.ref t2), (.int (Int32.ofNat A)), (.ref t1)])) _
              refine XS.iload X70.here hx rfl (hb hby at_271) rfl ?_
              show Steps p.tables e below (T70.setTop (mkF m 273 #[.val (.int p1), .val (.int p2), .val (.int p3), .val (.int p4), .val (.int p5), .val (.int (Int32.ofNat A)), .val (.int (Int32.ofNat N)), .val (.int (Int32.ofNat (A + N))), .val (.int (Int32.ofNat B)), .val (.int ((4 : Int32) - (Int32.ofNat B))), .val (.int (Int32.ofNat M)), .val (.int (Int32.ofNat (B + M))), .val (.ref t1), .val (.ref t2), .unset, .unset] [(.int (Int32.ofNat N)), (.int (Int32.ofNat B)), (.ref t2), (.int (Int32.ofNat A)), (.ref t1)])) _
              refine XS.iconst X70.here hx rfl (hb hby at_273) ?_
              show Steps p.tables e below (T70.setTop (mkF m 274 #[.val (.int p1), .val (.int p2), .val (.int p3), .val (.int p4), .val (.int p5), .val (.int (Int32.ofNat A)), .val (.int (Int32.ofNat N)), .val (.int (Int32.ofNat (A + N))), .val (.int (Int32.ofNat B)), .val (.int ((4 : Int32) - (Int32.ofNat B))), .val (.int (Int32.ofNat M)), .val (.int (Int32.ofNat (B + M))), .val (.ref t1), .val (.ref t2), .unset, .unset] [(.int (3 : Int32)), (.int (Int32.ofNat N)), (.int (Int32.ofNat B)), (.ref t2), (.int (Int32.ofNat A)), (.ref t1)])) _
              refine st73 _ ?_
              show Steps p.tables e below (T73.setTop (mkF m 277 #[.val (.int p1), .val (.int p2), .val (.int p3), .val (.int p4), .val (.int p5), .val (.int (Int32.ofNat A)), .val (.int (Int32.ofNat N)), .val (.int (Int32.ofNat (A + N))), .val (.int (Int32.ofNat B)), .val (.int ((4 : Int32) - (Int32.ofNat B))), .val (.int (Int32.ofNat M)), .val (.int (Int32.ofNat (B + M))), .val (.ref t1), .val (.ref t2), .unset, .unset] [(.int y3)])) _
              refine XS.ifYes X73.here hx rfl (pc0 := 277) (pc' := 284) rfl (hb hby at_277) rfl ((if0 _ _).trans (teq hc277).1) (by decide) (by decide) ?_
              show Steps p.tables e below (T73.setTop (mkF m 284 #[.val (.int p1), .val (.int p2), .val (.int p3), .val (.int p4), .val (.int p5), .val (.int (Int32.ofNat A)), .val (.int (Int32.ofNat N)), .val (.int (Int32.ofNat (A + N))), .val (.int (Int32.ofNat B)), .val (.int ((4 : Int32) - (Int32.ofNat B))), .val (.int (Int32.ofNat M)), .val (.int (Int32.ofNat (B + M))), .val (.ref t1), .val (.ref t2), .unset, .unset] [])) _
              refine XS.iconst X73.here hx rfl (hb hby at_284) ?_
              show Steps p.tables e below (T73.setTop (mkF m 285 #[.val (.int p1), .val (.int p2), .val (.int p3), .val (.int p4), .val (.int p5), .val (.int (Int32.ofNat A)), .val (.int (Int32.ofNat N)), .val (.int (Int32.ofNat (A + N))), .val (.int (Int32.ofNat B)), .val (.int ((4 : Int32) - (Int32.ofNat B))), .val (.int (Int32.ofNat M)), .val (.int (Int32.ofNat (B + M))), .val (.ref t1), .val (.ref t2), .unset, .unset] [(.int (0 : Int32))])) _
              refine XS.istore X73.here hx rfl (hb hby at_285) rfl (l' := #[.val (.int p1), .val (.int p2), .val (.int p3), .val (.int p4), .val (.int p5), .val (.int (Int32.ofNat A)), .val (.int (Int32.ofNat N)), .val (.int (Int32.ofNat (A + N))), .val (.int (Int32.ofNat B)), .val (.int ((4 : Int32) - (Int32.ofNat B))), .val (.int (Int32.ofNat M)), .val (.int (Int32.ofNat (B + M))), .val (.ref t1), .val (.ref t2), .val (.int (0 : Int32)), .unset]) rfl ?_
              show Steps p.tables e below (T73.setTop (mkF m 287 #[.val (.int p1), .val (.int p2), .val (.int p3), .val (.int p4), .val (.int p5), .val (.int (Int32.ofNat A)), .val (.int (Int32.ofNat N)), .val (.int (Int32.ofNat (A + N))), .val (.int (Int32.ofNat B)), .val (.int ((4 : Int32) - (Int32.ofNat B))), .val (.int (Int32.ofNat M)), .val (.int (Int32.ofNat (B + M))), .val (.ref t1), .val (.ref t2), .val (.int (0 : Int32)), .unset] [])) _
              refine XS.aload X73.here hx rfl (hb hby at_287) rfl rfl ?_
              show Steps p.tables e below (T73.setTop (mkF m 289 #[.val (.int p1), .val (.int p2), .val (.int p3), .val (.int p4), .val (.int p5), .val (.int (Int32.ofNat A)), .val (.int (Int32.ofNat N)), .val (.int (Int32.ofNat (A + N))), .val (.int (Int32.ofNat B)), .val (.int ((4 : Int32) - (Int32.ofNat B))), .val (.int (Int32.ofNat M)), .val (.int (Int32.ofNat (B + M))), .val (.ref t1), .val (.ref t2), .val (.int (0 : Int32)), .unset] [(.ref t1)])) _
              refine XS.iload X73.here hx rfl (hb hby at_289) rfl ?_
              show Steps p.tables e below (T73.setTop (mkF m 291 #[.val (.int p1), .val (.int p2), .val (.int p3), .val (.int p4), .val (.int p5), .val (.int (Int32.ofNat A)), .val (.int (Int32.ofNat N)), .val (.int (Int32.ofNat (A + N))), .val (.int (Int32.ofNat B)), .val (.int ((4 : Int32) - (Int32.ofNat B))), .val (.int (Int32.ofNat M)), .val (.int (Int32.ofNat (B + M))), .val (.ref t1), .val (.ref t2), .val (.int (0 : Int32)), .unset] [(.int (Int32.ofNat A)), (.ref t1)])) _
              refine XS.iload X73.here hx rfl (hb hby at_291) rfl ?_
              show Steps p.tables e below (T73.setTop (mkF m 293 #[.val (.int p1), .val (.int p2), .val (.int p3), .val (.int p4), .val (.int p5), .val (.int (Int32.ofNat A)), .val (.int (Int32.ofNat N)), .val (.int (Int32.ofNat (A + N))), .val (.int (Int32.ofNat B)), .val (.int ((4 : Int32) - (Int32.ofNat B))), .val (.int (Int32.ofNat M)), .val (.int (Int32.ofNat (B + M))), .val (.ref t1), .val (.ref t2), .val (.int (0 : Int32)), .unset] [(.int (Int32.ofNat (A + N))), (.int (Int32.ofNat A)), (.ref t1)])) _
              refine XS.aload X73.here hx rfl (hb hby at_293) rfl rfl ?_
              show Steps p.tables e below (T73.setTop (mkF m 295 #[.val (.int p1), .val (.int p2), .val (.int p3), .val (.int p4), .val (.int p5), .val (.int (Int32.ofNat A)), .val (.int (Int32.ofNat N)), .val (.int (Int32.ofNat (A + N))), .val (.int (Int32.ofNat B)), .val (.int ((4 : Int32) - (Int32.ofNat B))), .val (.int (Int32.ofNat M)), .val (.int (Int32.ofNat (B + M))), .val (.ref t1), .val (.ref t2), .val (.int (0 : Int32)), .unset] [(.ref t2), (.int (Int32.ofNat (A + N))), (.int (Int32.ofNat A)), (.ref t1)])) _
              refine XS.iload X73.here hx rfl (hb hby at_295) rfl ?_
              show Steps p.tables e below (T73.setTop (mkF m 297 #[.val (.int p1), .val (.int p2), .val (.int p3), .val (.int p4), .val (.int p5), .val (.int (Int32.ofNat A)), .val (.int (Int32.ofNat N)), .val (.int (Int32.ofNat (A + N))), .val (.int (Int32.ofNat B)), .val (.int ((4 : Int32) - (Int32.ofNat B))), .val (.int (Int32.ofNat M)), .val (.int (Int32.ofNat (B + M))), .val (.ref t1), .val (.ref t2), .val (.int (0 : Int32)), .unset] [(.int (Int32.ofNat B)), (.ref t2), (.int (Int32.ofNat (A + N))), (.int (Int32.ofNat A)), (.ref t1)])) _
              refine XS.iload X73.here hx rfl (hb hby at_297) rfl ?_
              show Steps p.tables e below (T73.setTop (mkF m 299 #[.val (.int p1), .val (.int p2), .val (.int p3), .val (.int p4), .val (.int p5), .val (.int (Int32.ofNat A)), .val (.int (Int32.ofNat N)), .val (.int (Int32.ofNat (A + N))), .val (.int (Int32.ofNat B)), .val (.int ((4 : Int32) - (Int32.ofNat B))), .val (.int (Int32.ofNat M)), .val (.int (Int32.ofNat (B + M))), .val (.ref t1), .val (.ref t2), .val (.int (0 : Int32)), .unset] [(.int (Int32.ofNat (B + M))), (.int (Int32.ofNat B)), (.ref t2), (.int (Int32.ofNat (A + N))), (.int (Int32.ofNat A)), (.ref t1)])) _
              refine st74 _ ?_
              show Steps p.tables e below (T74.setTop (mkF m 302 #[.val (.int p1), .val (.int p2), .val (.int p3), .val (.int p4), .val (.int p5), .val (.int (Int32.ofNat A)), .val (.int (Int32.ofNat N)), .val (.int (Int32.ofNat (A + N))), .val (.int (Int32.ofNat B)), .val (.int ((4 : Int32) - (Int32.ofNat B))), .val (.int (Int32.ofNat M)), .val (.int (Int32.ofNat (B + M))), .val (.ref t1), .val (.ref t2), .val (.int (0 : Int32)), .unset] [(.int zz)])) _
              refine XS.istore X74.here hx rfl (hb hby at_302) rfl (l' := #[.val (.int p1), .val (.int p2), .val (.int p3), .val (.int p4), .val (.int p5), .val (.int (Int32.ofNat A)), .val (.int (Int32.ofNat N)), .val (.int (Int32.ofNat (A + N))), .val (.int (Int32.ofNat B)), .val (.int ((4 : Int32) - (Int32.ofNat B))), .val (.int (Int32.ofNat M)), .val (.int (Int32.ofNat (B + M))), .val (.ref t1), .val (.ref t2), .val (.int (0 : Int32)), .val (.int zz)]) rfl ?_
              show Steps p.tables e below (T74.setTop (mkF m 304 #[.val (.int p1), .val (.int p2), .val (.int p3), .val (.int p4), .val (.int p5), .val (.int (Int32.ofNat A)), .val (.int (Int32.ofNat N)), .val (.int (Int32.ofNat (A + N))), .val (.int (Int32.ofNat B)), .val (.int ((4 : Int32) - (Int32.ofNat B))), .val (.int (Int32.ofNat M)), .val (.int (Int32.ofNat (B + M))), .val (.ref t1), .val (.ref t2), .val (.int (0 : Int32)), .val (.int zz)] [])) _
              refine XS.iload X74.here hx rfl (hb hby at_304) rfl ?_
              show Steps p.tables e below (T74.setTop (mkF m 306 #[.val (.int p1), .val (.int p2), .val (.int p3), .val (.int p4), .val (.int p5), .val (.int (Int32.ofNat A)), .val (.int (Int32.ofNat N)), .val (.int (Int32.ofNat (A + N))), .val (.int (Int32.ofNat B)), .val (.int ((4 : Int32) - (Int32.ofNat B))), .val (.int (Int32.ofNat M)), .val (.int (Int32.ofNat (B + M))), .val (.ref t1), .val (.ref t2), .val (.int (0 : Int32)), .val (.int zz)] [(.int zz)])) _
              refine XS.iload X74.here hx rfl (hb hby at_306) rfl ?_
              show Steps p.tables e below (T74.setTop (mkF m 308 #[.val (.int p1), .val (.int p2), .val (.int p3), .val (.int p4), .val (.int p5), .val (.int (Int32.ofNat A)), .val (.int (Int32.ofNat N)), .val (.int (Int32.ofNat (A + N))), .val (.int (Int32.ofNat B)), .val (.int ((4 : Int32) - (Int32.ofNat B))), .val (.int (Int32.ofNat M)), .val (.int (Int32.ofNat (B + M))), .val (.ref t1), .val (.ref t2), .val (.int (0 : Int32)), .val (.int zz)] [(.int (0 : Int32)), (.int zz)])) _
              refine XS.icmpNo X74.here hx rfl (hb hby at_308) rfl (teq hz75).2 ?_
              show Steps p.tables e below (T74.setTop (mkF m 311 #[.val (.int p1), .val (.int p2), .val (.int p3), .val (.int p4), .val (.int p5), .val (.int (Int32.ofNat A)), .val (.int (Int32.ofNat N)), .val (.int (Int32.ofNat (A + N))), .val (.int (Int32.ofNat B)), .val (.int ((4 : Int32) - (Int32.ofNat B))), .val (.int (Int32.ofNat M)), .val (.int (Int32.ofNat (B + M))), .val (.ref t1), .val (.ref t2), .val (.int (0 : Int32)), .val (.int zz)] [])) _
              refine XS.iconst X74.here hx rfl (hb hby at_311) ?_
              show Steps p.tables e below (T74.setTop (mkF m 312 #[.val (.int p1), .val (.int p2), .val (.int p3), .val (.int p4), .val (.int p5), .val (.int (Int32.ofNat A)), .val (.int (Int32.ofNat N)), .val (.int (Int32.ofNat (A + N))), .val (.int (Int32.ofNat B)), .val (.int ((4 : Int32) - (Int32.ofNat B))), .val (.int (Int32.ofNat M)), .val (.int (Int32.ofNat (B + M))), .val (.ref t1), .val (.ref t2), .val (.int (0 : Int32)), .val (.int zz)] [(.int (1 : Int32))])) _
              refine XS.goto X74.here hx rfl (pc0 := 312) (pc' := 316) rfl (hb hby at_312) (by decide) (by decide) ?_
              show Steps p.tables e below (T74.setTop (mkF m 316 #[.val (.int p1), .val (.int p2), .val (.int p3), .val (.int p4), .val (.int p5), .val (.int (Int32.ofNat A)), .val (.int (Int32.ofNat N)), .val (.int (Int32.ofNat (A + N))), .val (.int (Int32.ofNat B)), .val (.int ((4 : Int32) - (Int32.ofNat B))), .val (.int (Int32.ofNat M)), .val (.int (Int32.ofNat (B + M))), .val (.ref t1), .val (.ref t2), .val (.int (0 : Int32)), .val (.int zz)] [(.int (1 : Int32))])) _
              exact retN X74 hx (t := .boolean) Bd.returns (by simp) (hb hby at_316) hr
            · show Q0 Z p1 p2 p3 p4 p5 h0 n0 _ T74.heap _
              rw [e74]
              exact ⟨rfl, N74⟩
          · obtain ⟨_, _, ⟨T76, L76, k76, n76⟩, -, X76, ⟨Lc76, hQ76, l76, y76, z76⟩, st76⟩ := Jvm.LawKit.callS X73 hx (y := (⟨"com/example/trailsmith/trailsmith/check/Bytes", "equal", "([BII[BII)Z"⟩ : MethodName)) hown (mvT hZ (hw _ (List.mem_of_getElem? (i := 10) rfl))) (mvT hZ (hw _ (List.mem_of_getElem? (i := 11) rfl))) (mvT hZ (hw _ (List.mem_of_getElem? (i := 12) rfl))) (mvT hZ (hw _ (List.mem_of_getElem? (i := 13) rfl))) (by decide) (backOf (W := 0) (rm3 l Z a0 hw [] t1 t2 A B N M f g h58 n0 Z62 f60 BB hAN hBM) hZ (hw _ (List.mem_of_getElem? (i := 13) rfl)) (hw _ (List.mem_of_getElem? (i := 12) rfl)) (by decide) (by decide)) (g := (mkF m 299 #[.val (.int p1), .val (.int p2), .val (.int p3), .val (.int p4), .val (.int p5), .val (.int (Int32.ofNat A)), .val (.int (Int32.ofNat N)), .val (.int (Int32.ofNat (A + N))), .val (.int (Int32.ofNat B)), .val (.int ((4 : Int32) - (Int32.ofNat B))), .val (.int (Int32.ofNat M)), .val (.int (Int32.ofNat (B + M))), .val (.ref t1), .val (.ref t2), .val (.int (1 : Int32)), .unset] [(.int (Int32.ofNat (B + M))), (.int (Int32.ofNat B)), (.ref t2), (.int (Int32.ofNat (A + N))), (.int (Int32.ofNat A)), (.ref t1)])) rfl (by rw [hml]; rfl) (argsL := [(.ref t1), (.int (Int32.ofNat A)), (.int (Int32.ofNat (A + N))), (.ref t2), (.int (Int32.ofNat B)), (.int (Int32.ofNat (B + M)))]) (rest := []) (lenOf pd_78 rfl) rfl (by show 2 * 0 + _ ≤ _; exact Nat.le_of_eq rfl) (hb hby at_299) (fun _ _ => ⟨rfl, e73, (by decide : 2 + 0 ≤ _), (by decide : 8 + 0 ≤ _)⟩)
            dsimp only [Pt.U, Pt.locs, Pt.cells, Pt.slots] at X76 l76 y76 z76 st76 hQ76
            subst l76 y76 z76
            obtain ⟨zz, rfl, N76q, e76, hzz⟩ := hQ76
            have N76 := Fr.app N73 N76q
            have hz77 : zz = (1 : Int32) := (own_z1 hzz ⟨hNM, own_allN (by omega) (own_a1 hy0 hc226) (own_a1 hy1 hc243) (own_a1 hy2 hc260) (own_a1 hy3 hc277)⟩)
            obtain ⟨fs, hr, hrun, hended, hW, hsame⟩ := X76.leave (v := some (.int (1 : Int32))) (fun h => by rw [Bd.returns] at h; cases h)
            refine ⟨_, _, pre0 _ ?_, hrun, hended, _, _, rfl, ?_, ⟨_, rfl⟩, hW, hsame.mono (by decide) (by decide)⟩
            · show Steps p.tables e below (s₁.setTop (mkF m 0 #[.val (.int p1), .val (.int p2), .val (.int p3), .val (.int p4), .val (.int p5), .unset, .unset, .unset, .unset, .unset, .unset, .unset, .unset, .unset, .unset, .unset] [])) _
              refine seg63 _ ?_
              show Steps p.tables e below (T58.setTop (mkF m 199 #[.val (.int p1), .val (.int p2), .val (.int p3), .val (.int p4), .val (.int p5), .val (.int (Int32.ofNat A)), .val (.int (Int32.ofNat N)), .val (.int (Int32.ofNat (A + N))), .val (.int (Int32.ofNat B)), .val (.int ((4 : Int32) - (Int32.ofNat B))), .val (.int (Int32.ofNat M)), .val (.int (Int32.ofNat (B + M))), .val (.ref t1), .val (.ref t2), .unset, .unset] [])) _
              refine XS.iload X58.here hx rfl (hb hby at_199) rfl ?_
              show Steps p.tables e below (T58.setTop (mkF m 201 #[.val (.int p1), .val (.int p2), .val (.int p3), .val (.int p4), .val (.int p5), .val (.int (Int32.ofNat A)), .val (.int (Int32.ofNat N)), .val (.int (Int32.ofNat (A + N))), .val (.int (Int32.ofNat B)), .val (.int ((4 : Int32) - (Int32.ofNat B))), .val (.int (Int32.ofNat M)), .val (.int (Int32.ofNat (B + M))), .val (.ref t1), .val (.ref t2), .unset, .unset] [(.int (Int32.ofNat N))])) _
              refine XS.iload X58.here hx rfl (hb hby at_201) rfl ?_
              show Steps p.tables e below (T58.setTop (mkF m 203 #[.val (.int p1), .val (.int p2), .val (.int p3), .val (.int p4), .val (.int p5), .val (.int (Int32.ofNat A)), .val (.int (Int32.ofNat N)), .val (.int (Int32.ofNat (A + N))), .val (.int (Int32.ofNat B)), .val (.int ((4 : Int32) - (Int32.ofNat B))), .val (.int (Int32.ofNat M)), .val (.int (Int32.ofNat (B + M))), .val (.ref t1), .val (.ref t2), .unset, .unset] [(.int (Int32.ofNat M)), (.int (Int32.ofNat N))])) _
              refine XS.icmpYes X58.here hx rfl (pc0 := 203) (pc' := 212) rfl (hb hby at_203) rfl (teq hc203).1 (by decide) (by decide) ?_
              show Steps p.tables e below (T58.setTop (mkF m 212 #[.val (.int p1), .val (.int p2), .val (.int p3), .val (.int p4), .val (.int p5), .val (.int (Int32.ofNat A)), .val (.int (Int32.ofNat N)), .val (.int (Int32.ofNat (A + N))), .val (.int (Int32.ofNat B)), .val (.int ((4 : Int32) - (Int32.ofNat B))), .val (.int (Int32.ofNat M)), .val (.int (Int32.ofNat (B + M))), .val (.ref t1), .val (.ref t2), .unset, .unset] [])) _
              refine XS.aload X58.here hx rfl (hb hby at_212) rfl rfl ?_
              show Steps p.tables e below (T58.setTop (mkF m 214 #[.val (.int p1), .val (.int p2), .val (.int p3), .val (.int p4), .val (.int p5), .val (.int (Int32.ofNat A)), .val (.int (Int32.ofNat N)), .val (.int (Int32.ofNat (A + N))), .val (.int (Int32.ofNat B)), .val (.int ((4 : Int32) - (Int32.ofNat B))), .val (.int (Int32.ofNat M)), .val (.int (Int32.ofNat (B + M))), .val (.ref t1), .val (.ref t2), .unset, .unset] [(.ref t1)])) _
              refine XS.iload X58.here hx rfl (hb hby at_214) rfl ?_
              show Steps p.tables e below (T58.setTop (mkF m 216 #[.val (.int p1), .val (.int p2), .val (.int p3), .val (.int p4), .val (.int p5), .val (.int (Int32.ofNat A)), .val (.int (Int32.ofNat N)), .val (.int (Int32.ofNat (A + N))), .val (.int (Int32.ofNat B)), .val (.int ((4 : Int32) - (Int32.ofNat B))), .val (.int (Int32.ofNat M)), .val (.int (Int32.ofNat (B + M))), .val (.ref t1), .val (.ref t2), .unset, .unset] [(.int (Int32.ofNat A)), (.ref t1)])) _
              refine XS.aload X58.here hx rfl (hb hby at_216) rfl rfl ?_
              show Steps p.tables e below (T58.setTop (mkF m 218 #[.val (.int p1), .val (.int p2), .val (.int p3), .val (.int p4), .val (.int p5), .val (.int (Int32.ofNat A)), .val (.int (Int32.ofNat N)), .val (.int (Int32.ofNat (A + N))), .val (.int (Int32.ofNat B)), .val (.int ((4 : Int32) - (Int32.ofNat B))), .val (.int (Int32.ofNat M)), .val (.int (Int32.ofNat (B + M))), .val (.ref t1), .val (.ref t2), .unset, .unset] [(.ref t2), (.int (Int32.ofNat A)), (.ref t1)])) _
              refine XS.iload X58.here hx rfl (hb hby at_218) rfl ?_
              show Steps p.tables e below (T58.setTop (mkF m 220 #[.val (.int p1), .val (.int p2), .val (.int p3), .val (.int p4), .val (.int p5), .val (.int (Int32.ofNat A)), .val (.int (Int32.ofNat N)), .val (.int (Int32.ofNat (A + N))), .val (.int (Int32.ofNat B)), .val (.int ((4 : Int32) - (Int32.ofNat B))), .val (.int (Int32.ofNat M)), .val (.int (Int32.ofNat (B + M))), .val (.ref t1), .val (.ref t2), .unset, .unset] [(.int (Int32.ofNat B)), (.ref t2), (.int (Int32.ofNat A)), (.ref t1)])) _
              refine XS.iload X58.here hx rfl (hb hby at_220) rfl ?_
              show Steps p.tables e below (T58.setTop (mkF m 222 #[.val (.int p1), .val (.int p2), .val (.int p3), .val (.int p4), .val (.int p5), .val (.int (Int32.ofNat A)), .val (.int (Int32.ofNat N)), .val (.int (Int32.ofNat (A + N))), .val (.int (Int32.ofNat B)), .val (.int ((4 : Int32) - (Int32.ofNat B))), .val (.int (Int32.ofNat M)), .val (.int (Int32.ofNat (B + M))), .val (.ref t1), .val (.ref t2), .unset, .unset] [(.int (Int32.ofNat N)), (.int (Int32.ofNat B)), (.ref t2), (.int (Int32.ofNat A)), (.ref t1)])) _
              refine XS.iconst X58.here hx rfl (hb hby at_222) ?_
              show Steps p.tables e below (T58.setTop (mkF m 223 #[.val (.int p1), .val (.int p2), .val (.int p3), .val (.int p4), .val (.int p5), .val (.int (Int32.ofNat A)), .val (.int (Int32.ofNat N)), .val (.int (Int32.ofNat (A + N))), .val (.int (Int32.ofNat B)), .val (.int ((4 : Int32) - (Int32.ofNat B))), .val (.int (Int32.ofNat M)), .val (.int (Int32.ofNat (B + M))), .val (.ref t1), .val (.ref t2), .unset, .unset] [(.int (0 : Int32)), (.int (Int32.ofNat N)), (.int (Int32.ofNat B)), (.ref t2), (.int (Int32.ofNat A)), (.ref t1)])) _
              refine st64 _ ?_
              show Steps p.tables e below (T64.setTop (mkF m 226 #[.val (.int p1), .val (.int p2), .val (.int p3), .val (.int p4), .val (.int p5), .val (.int (Int32.ofNat A)), .val (.int (Int32.ofNat N)), .val (.int (Int32.ofNat (A + N))), .val (.int (Int32.ofNat B)), .val (.int ((4 : Int32) - (Int32.ofNat B))), .val (.int (Int32.ofNat M)), .val (.int (Int32.ofNat (B + M))), .val (.ref t1), .val (.ref t2), .unset, .unset] [(.int y0)])) _
              refine XS.ifNo X64.here hx rfl (hb hby at_226) rfl ((if0 _ _).trans (feq hc226).1) ?_
              show Steps p.tables e below (T64.setTop (mkF m 229 #[.val (.int p1), .val (.int p2), .val (.int p3), .val (.int p4), .val (.int p5), .val (.int (Int32.ofNat A)), .val (.int (Int32.ofNat N)), .val (.int (Int32.ofNat (A + N))), .val (.int (Int32.ofNat B)), .val (.int ((4 : Int32) - (Int32.ofNat B))), .val (.int (Int32.ofNat M)), .val (.int (Int32.ofNat (B + M))), .val (.ref t1), .val (.ref t2), .unset, .unset] [])) _
              refine XS.aload X64.here hx rfl (hb hby at_229) rfl rfl ?_
              show Steps p.tables e below (T64.setTop (mkF m 231 #[.val (.int p1), .val (.int p2), .val (.int p3), .val (.int p4), .val (.int p5), .val (.int (Int32.ofNat A)), .val (.int (Int32.ofNat N)), .val (.int (Int32.ofNat (A + N))), .val (.int (Int32.ofNat B)), .val (.int ((4 : Int32) - (Int32.ofNat B))), .val (.int (Int32.ofNat M)), .val (.int (Int32.ofNat (B + M))), .val (.ref t1), .val (.ref t2), .unset, .unset] [(.ref t1)])) _
              refine XS.iload X64.here hx rfl (hb hby at_231) rfl ?_
              show Steps p.tables e below (T64.setTop (mkF m 233 #[.val (.int p1), .val (.int p2), .val (.int p3), .val (.int p4), .val (.int p5), .val (.int (Int32.ofNat A)), .val (.int (Int32.ofNat N)), .val (.int (Int32.ofNat (A + N))), .val (.int (Int32.ofNat B)), .val (.int ((4 : Int32) - (Int32.ofNat B))), .val (.int (Int32.ofNat M)), .val (.int (Int32.ofNat (B + M))), .val (.ref t1), .val (.ref t2), .unset, .unset] [(.int (Int32.ofNat A)), (.ref t1)])) _
              refine XS.aload X64.here hx rfl (hb hby at_233) rfl rfl ?_
              show Steps p.tables e below (T64.setTop (mkF m 235 #[.val (.int p1), .val (.int p2), .val (.int p3), .val (.int p4), .val (.int p5), .val (.int (Int32.ofNat A)), .val (.int (Int32.ofNat N)), .val (.int (Int32.ofNat (A + N))), .val (.int (Int32.ofNat B)), .val (.int ((4 : Int32) - (Int32.ofNat B))), .val (.int (Int32.ofNat M)), .val (.int (Int32.ofNat (B + M))), .val (.ref t1), .val (.ref t2), .unset, .unset] [(.ref t2), (.int (Int32.ofNat A)), (.ref t1)])) _
              refine XS.iload X64.here hx rfl (hb hby at_235) rfl ?_
              show Steps p.tables e below (T64.setTop (mkF m 237 #[.val (.int p1), .val (.int p2), .val (.int p3), .val (.int p4), .val (.int p5), .val (.int (Int32.ofNat A)), .val (.int (Int32.ofNat N)), .val (.int (Int32.ofNat (A + N))), .val (.int (Int32.ofNat B)), .val (.int ((4 : Int32) - (Int32.ofNat B))), .val (.int (Int32.ofNat M)), .val (.int (Int32.ofNat (B + M))), .val (.ref t1), .val (.ref t2), .unset, .unset] [(.int (Int32.ofNat B)), (.ref t2), (.int (Int32.ofNat A)), (.ref t1)])) _
              refine XS.iload X64.here hx rfl (hb hby at_237) rfl ?_
              show Steps p.tables e below (T64.setTop (mkF m 239 #[.val (.int p1), .val (.int p2), .val (.int p3), .val (.int p4), .val (.int p5), .val (.int (Int32.ofNat A)), .val (.int (Int32.ofNat N)), .val (.int (Int32.ofNat (A + N))), .val (.int (Int32.ofNat B)), .val (.int ((4 : Int32) - (Int32.ofNat B))), .val (.int (Int32.ofNat M)), .val (.int (Int32.ofNat (B + M))), .val (.ref t1), .val (.ref t2), .unset, .unset] [(.int (Int32.ofNat N)), (.int (Int32.ofNat B)), (.ref t2), (.int (Int32.ofNat A)), (.ref t1)])) _
              refine XS.iconst X64.here hx rfl (hb hby at_239) ?_
              show Steps p.tables e below (T64.setTop (mkF m 240 #[.val (.int p1), .val (.int p2), .val (.int p3), .val (.int p4), .val (.int p5), .val (.int (Int32.ofNat A)), .val (.int (Int32.ofNat N)), .val (.int (Int32.ofNat (A + N))), .val (.int (Int32.ofNat B)), .val (.int ((4 : Int32) - (Int32.ofNat B))), .val (.int (Int32.ofNat M)), .val (.int (Int32.ofNat (B + M))), .val (.ref t1), .val (.ref t2), .unset, .unset] [(.int (1 : Int32)), (.int (Int32.ofNat N)), (.int (Int32.ofNat B)), (.ref t2), (.int (Int32.ofNat A)), (.ref t1)])) _
              refine st67 _ ?_
              show Steps p.tables e below (T67.setTop (mkF m 243 #[.val (.int p1), .val (.int p2), .val (.int p3), .val (.int p4), .val (.int p5), .val (.int (Int32.ofNat A)), .val (.int (Int32.ofNat N)), .val (.int (Int32.ofNat (A + N))), .val (.int (Int32.ofNat B)), .val (.int ((4 : Int32) - (Int32.ofNat B))), .val (.int (Int32.ofNat M)), .val (.int (Int32.ofNat (B + M))), .val (.ref t1), .val (.ref t2), .unset, .unset] [(.int y1)])) _
              refine XS.ifNo X67.here hx rfl (hb hby at_243) rfl ((if0 _ _).trans (feq hc243).1) ?_
              show Steps p.tables e below (T67.setTop (mkF m 246 #[.val (.int p1), .val (.int p2), .val (.int p3), .val (.int p4), .val (.int p5), .val (.int (Int32.ofNat A)), .val (.int (Int32.ofNat N)), .val (.int (Int32.ofNat (A + N))), .val (.int (Int32.ofNat B)), .val (.int ((4 : Int32) - (Int32.ofNat B))), .val (.int (Int32.ofNat M)), .val (.int (Int32.ofNat (B + M))), .val (.ref t1), .val (.ref t2), .unset, .unset] [])) _
              refine XS.aload X67.here hx rfl (hb hby at_246) rfl rfl ?_
              show Steps p.tables e below (T67.setTop (mkF m 248 #[.val (.int p1), .val (.int p2), .val (.int p3), .val (.int p4), .val (.int p5), .val (.int (Int32.ofNat A)), .val (.int (Int32.ofNat N)), .val (.int (Int32.ofNat (A + N))), .val (.int (Int32.ofNat B)), .val (.int ((4 : Int32) - (Int32.ofNat B))), .val (.int (Int32.ofNat M)), .val (.int (Int32.ofNat (B + M))), .val (.ref t1), .val (.ref t2), .unset, .unset] [(.ref t1)])) _
              refine XS.iload X67.here hx rfl (hb hby at_248) rfl ?_
              show Steps p.tables e below (T67.setTop (mkF m 250 #[.val (.int p1), .val (.int p2), .val (.int p3), .val (.int p4), .val (.int p5), .val (.int (Int32.ofNat A)), .val (.int (Int32.ofNat N)), .val (.int (Int32.ofNat (A + N))), .val (.int (Int32.ofNat B)), .val (.int ((4 : Int32) - (Int32.ofNat B))), .val (.int (Int32.ofNat M)), .val (.int (Int32.ofNat (B + M))), .val (.ref t1), .val (.ref t2), .unset, .unset] [(.int (Int32.ofNat A)), (.ref t1)])) _
              refine XS.aload X67.here hx rfl (hb hby at_250) rfl rfl ?_
              show Steps p.tables e below (T67.setTop (mkF m 252 #[.val (.int p1), .val (.int p2), .val (.int p3), .val (.int p4), .val (.int p5), .val (.int (Int32.ofNat A)), .val (.int (Int32.ofNat N)), .val (.int (Int32.ofNat (A + N))), .val (.int (Int32.ofNat B)), .val (.int ((4 : Int32) - (Int32.ofNat B))), .val (.int (Int32.ofNat M)), .val (.int (Int32.ofNat (B + M))), .val (.ref t1), .val (.ref t2), .unset, .unset] [(.ref t2), (.int (Int32.ofNat A)), (.ref t1)])) _
              refine XS.iload X67.here hx rfl (hb hby at_252) rfl ?_
              show Steps p.tables e below (T67.setTop (mkF m 254 #[.val (.int p1), .val (.int p2), .val (.int p3), .val (.int p4), .val (.int p5), .val (.int (Int32.ofNat A)), .val (.int (Int32.ofNat N)), .val (.int (Int32.ofNat (A + N))), .val (.int (Int32.ofNat B)), .val (.int ((4 : Int32) - (Int32.ofNat B))), .val (.int (Int32.ofNat M)), .val (.int (Int32.ofNat (B + M))), .val (.ref t1), .val (.ref t2), .unset, .unset] [(.int (Int32.ofNat B)), (.ref t2), (.int (Int32.ofNat A)), (.ref t1)])) _
              refine XS.iload X67.here hx rfl (hb hby at_254) rfl ?_
              show Steps p.tables e below (T67.setTop (mkF m 256 #[.val (.int p1), .val (.int p2), .val (.int p3), .val (.int p4), .val (.int p5), .val (.int (Int32.ofNat A)), .val (.int (Int32.ofNat N)), .val (.int (Int32.ofNat (A + N))), .val (.int (Int32.ofNat B)), .val (.int ((4 : Int32) - (Int32.ofNat B))), .val (.int (Int32.ofNat M)), .val (.int (Int32.ofNat (B + M))), .val (.ref t1), .val (.ref t2), .unset, .unset] [(.int (Int32.ofNat N)), (.int (Int32.ofNat B)), (.ref t2), (.int (Int32.ofNat A)), (.ref t1)])) _
              refine XS.iconst X67.here hx rfl (hb hby at_256) ?_
              show Steps p.tables e below (T67.setTop (mkF m 257 #[.val (.int p1), .val (.int p2), .val (.int p3), .val (.int p4), .val (.int p5), .val (.int (Int32.ofNat A)), .val (.int (Int32.ofNat N)), .val (.int (Int32.ofNat (A + N))), .val (.int (Int32.ofNat B)), .val (.int ((4 : Int32) - (Int32.ofNat B))), .val (.int (Int32.ofNat M)), .val (.int (Int32.ofNat (B + M))), .val (.ref t1), .val (.ref t2), .unset, .unset] [(.int (2 : Int32)), (.int (Int32.ofNat N)), (.int (Int32.ofNat B)), (.ref t2), (.int (Int32.ofNat A)), (.ref t1)])) _
              refine st70 _ ?_
              show Steps p.tables e below (T70.setTop (mkF m 260 #[.val (.int p1), .val (.int p2), .val (.int p3), .val (.int p4), .val (.int p5), .val (.int (Int32.ofNat A)), .val (.int (Int32.ofNat N)), .val (.int (Int32.ofNat (A + N))), .val (.int (Int32.ofNat B)), .val (.int ((4 : Int32) - (Int32.ofNat B))), .val (.int (Int32.ofNat M)), .val (.int (Int32.ofNat (B + M))), .val (.ref t1), .val (.ref t2), .unset, .unset] [(.int y2)])) _
              refine XS.ifNo X70.here hx rfl (hb hby at_260) rfl ((if0 _ _).trans (feq hc260).1) ?_
              show Steps p.tables e below (T70.setTop (mkF m 263 #[.val (.int p1), .val (.int p2), .val (.int p3), .val (.int p4), .val (.int p5), .val (.int (Int32.ofNat A)), .val (.int (Int32.ofNat N)), .val (.int (Int32.ofNat (A + N))), .val (.int (Int32.ofNat B)), .val (.int ((4 : Int32) - (Int32.ofNat B))), .val (.int (Int32.ofNat M)), .val (.int (Int32.ofNat (B + M))), .val (.ref t1), .val (.ref t2), .unset, .unset] [])) _
              refine XS.aload X70.here hx rfl (hb hby at_263) rfl rfl ?_
              show Steps p.tables e below (T70.setTop (mkF m 265 #[.val (.int p1), .val (.int p2), .val (.int p3), .val (.int p4), .val (.int p5), .val (.int (Int32.ofNat A)), .val (.int (Int32.ofNat N)), .val (.int (Int32.ofNat (A + N))), .val (.int (Int32.ofNat B)), .val (.int ((4 : Int32) - (Int32.ofNat B))), .val (.int (Int32.ofNat M)), .val (.int (Int32.ofNat (B + M))), .val (.ref t1), .val (.ref t2), .unset, .unset] [(.ref t1)])) _
              refine XS.iload X70.here hx rfl (hb hby at_265) rfl ?_
              show Steps p.tables e below (T70.setTop (mkF m 267 #[.val (.int p1), .val (.int p2), .val (.int p3), .val (.int p4), .val (.int p5), .val (.int (Int32.ofNat A)), .val (.int (Int32.ofNat N)), .val (.int (Int32.ofNat (A + N))), .val (.int (Int32.ofNat B)), .val (.int ((4 : Int32) - (Int32.ofNat B))), .val (.int (Int32.ofNat M)), .val (.int (Int32.ofNat (B + M))), .val (.ref t1), .val (.ref t2), .unset, .unset] [(.int (Int32.ofNat A)), (.ref t1)])) _
              refine XS.aload X70.here hx rfl (hb hby at_267) rfl rfl ?_
              show Steps p.tables e below (T70.setTop (mkF m 269 #[.val (.int p1), .val (.int p2), .val (.int p3), .val (.int p4), .val (.int p5), .val (.int (Int32.ofNat A)), .val (.int (Int32.ofNat N)), .val (.int (Int32.ofNat (A + N))), .val (.int (Int32.ofNat B)), .val (.int ((4 : Int32) - (Int32.ofNat B))), .val (.int (Int32.ofNat M)), .val (.int (Int32.ofNat (B + M))), .val (.ref t1), .val (.ref t2), .unset, .unset] [(.ref t2), (.int (Int32.ofNat A)), (.ref t1)])) _
              refine XS.iload X70.here hx rfl (hb hby at_269) rfl ?_
              show Steps p.tables e below (T70.setTop (mkF m 271 #[.val (.int p1), .val (.int p2), .val (.int p3), .val (.int p4), .val (.int p5), .val (.int (Int32.ofNat A)), .val (.int (Int32.ofNat N)), .val (.int (Int32.ofNat (A + N))), .val (.int (Int32.ofNat B)), .val (.int ((4 : Int32) - (Int32.ofNat B))), .val (.int (Int32.ofNat M)), .val (.int (Int32.ofNat (B + M))), .val (.ref t1), .val (.ref t2), .unset, .unset] [(.int (Int32.ofNat B)), (.ref t2), (.int (Int32.ofNat A)), (.ref t1)])) _
              refine XS.iload X70.here hx rfl (hb hby at_271) rfl ?_
              show Steps p.tables e below (T70.setTop (mkF m 273 #[.val (.int p1), .val (.int p2), .val (.int p3), .val (.int p4), .val (.int p5), .val (.int (Int32.ofNat A)), .val (.int (Int32.ofNat N)), .val (.int (Int32.ofNat (A + N))), .val (.int (Int32.ofNat B)), .val (.int ((4 : Int32) - (Int32.ofNat B))), .val (.int (Int32.ofNat M)), .val (.int (Int32.ofNat (B + M))), .val (.ref t1), .val (.ref t2), .unset, .unset] [(.int (Int32.ofNat N)), (.int (Int32.ofNat B)), (.ref t2), (.int (Int32.ofNat A)), (.ref t1)])) _
              refine XS.iconst X70.here hx rfl (hb hby at_273) ?_
              show Steps p.tables e below (T70.setTop (mkF m 274 #[.val (.int p1), .val (.int p2), .val (.int p3), .val (.int p4), .val (.int p5), .val (.int (Int32.ofNat A)), .val (.int (Int32.ofNat N)), .val (.int (Int32.ofNat (A + N))), .val (.int (Int32.ofNat B)), .val (.int ((4 : Int32) - (Int32.ofNat B))), .val (.int (Int32.ofNat M)), .val (.int (Int32.ofNat (B + M))), .val (.ref t1), .val (.ref t2), .unset, .unset] [(.int (3 : Int32)), (.int (Int32.ofNat N)), (.int (Int32.ofNat B)), (.ref t2), (.int (Int32.ofNat A)), (.ref t1)])) _
              refine st73 _ ?_
              show Steps p.tables e below (T73.setTop (mkF m 277 #[.val (.int p1), .val (.int p2), .val (.int p3), .val (.int p4), .val (.int p5), .val (.int (Int32.ofNat A)), .val (.int (Int32.ofNat N)), .val (.int (Int32.ofNat (A + N))), .val (.int (Int32.ofNat B)), .val (.int ((4 : Int32) - (Int32.ofNat B))), .val (.int (Int32.ofNat M)), .val (.int (Int32.ofNat (B + M))), .val (.ref t1), .val (.ref t2), .unset, .unset] [(.int y3)])) _
              refine XS.ifNo X73.here hx rfl (hb hby at_277) rfl ((if0 _ _).trans (feq hc277).1) ?_
              show Steps p.tables e below (T73.setTop (mkF m 280 #[.val (.int p1), .val (.int p2), .val (.int p3), .val (.int p4), .val (.int p5), .val (.int (Int32.ofNat A)), .val (.int (Int32.ofNat N)), .val (.int (Int32.ofNat (A + N))), .val (.int (Int32.ofNat B)), .val (.int ((4 : Int32) - (Int32.ofNat B))), .val (.int (Int32.ofNat M)), .val (.int (Int32.ofNat (B + M))), .val (.ref t1), .val (.ref t2), .unset, .unset] [])) _
              refine XS.iconst X73.here hx rfl (hb hby at_280) ?_
              show Steps p.tables e below (T73.setTop (mkF m 281 #[.val (.int p1), .val (.int p2), .val (.int p3), .val (.int p4), .val (.int p5), .val (.int (Int32.ofNat A)), .val (.int (Int32.ofNat N)), .val (.int (Int32.ofNat (A + N))), .val (.int (Int32.ofNat B)), .val (.int ((4 : Int32) - (Int32.ofNat B))), .val (.int (Int32.ofNat M)), .val (.int (Int32.ofNat (B + M))), .val (.ref t1), .val (.ref t2), .unset, .unset] [(.int (1 : Int32))])) _
              refine XS.goto X73.here hx rfl (pc0 := 281) (pc' := 285) rfl (hb hby at_281) (by decide) (by decide) ?_
              show Steps p.tables e below (T73.setTop (mkF m 285 #[.val (.int p1), .val (.int p2), .val (.int p3), .val (.int p4), .val (.int p5), .val (.int (Int32.ofNat A)), .val (.int (Int32.ofNat N)), .val (.int (Int32.ofNat (A + N))), .val (.int (Int32.ofNat B)), .val (.int ((4 : Int32) - (Int32.ofNat B))), .val (.int (Int32.ofNat M)), .val (.int (Int32.ofNat (B + M))), .val (.ref t1), .val (.ref t2), .unset, .unset] [(.int (1 : Int32))])) _
              refine XS.istore X73.here hx rfl (hb hby at_285) rfl (l' := #[.val (.int p1), .val (.int p2), .val (.int p3), .val (.int p4), .val (.int p5), .val (.int (Int32.ofNat A)), .val (.int (Int32.ofNat N)), .val (.int (Int32.ofNat (A + N))), .val (.int (Int32.ofNat B)), .val (.int ((4 : Int32) - (Int32.ofNat B))), .val (.int (Int32.ofNat M)), .val (.int (Int32.ofNat (B + M))), .val (.ref t1), .val (.ref t2), .val (.int (1 : Int32)), .unset]) rfl ?_
              show Steps p.tables e below (T73.setTop (mkF m 287 #[.val (.int p1), .val (.int p2), .val (.int p3), .val (.int p4), .val (.int p5), .val (.int (Int32.ofNat A)), .val (.int (Int32.ofNat N)), .val (.int (Int32.ofNat (A + N))), .val (.int (Int32.ofNat B)), .val (.int ((4 : Int32) - (Int32.ofNat B))), .val (.int (Int32.ofNat M)), .val (.int (Int32.ofNat (B + M))), .val (.ref t1), .val (.ref t2), .val (.int (1 : Int32)), .unset] [])) _
              refine XS.aload X73.here hx rfl (hb hby at_287) rfl rfl ?_
              show Steps p.tables e below (T73.setTop (mkF m 289 #[.val (.int p1), .val (.int p2), .val (.int p3), .val (.int p4), .val (.int p5), .val (.int (Int32.ofNat A)), .val (.int (Int32.ofNat N)), .val (.int (Int32.ofNat (A + N))), .val (.int (Int32.ofNat B)), .val (.int ((4 : Int32) - (Int32.ofNat B))), .val (.int (Int32.ofNat M)), .val (.int (Int32.ofNat (B + M))), .val (.ref t1), .val (.ref t2), .val (.int (1 : Int32)), .unset] [(.ref t1)])) _
              refine XS.iload X73.here hx rfl (hb hby at_289) rfl ?_
              show Steps p.tables e below (T73.setTop (mkF m 291 #[.val (.int p1), .val (.int p2), .val (.int p3), .val (.int p4), .val (.int p5), .val (.int (Int32.ofNat A)), .val (.int (Int32.ofNat N)), .val (.int (Int32.ofNat (A + N))), .val (.int (Int32.ofNat B)), .val (.int ((4 : Int32) - (Int32.ofNat B))), .val (.int (Int32.ofNat M)), .val (.int (Int32.ofNat (B + M))), .val (.ref t1), .val (.ref t2), .val (.int (1 : Int32)), .unset] [(.int (Int32.ofNat A)), (.ref t1)])) _
              refine XS.iload X73.here hx rfl (hb hby at_291) rfl ?_
              show Steps p.tables e below (T73.setTop (mkF m 293 #[.val (.int p1), .val (.int p2), .val (.int p3), .val (.int p4), .val (.int p5), .val (.int (Int32.ofNat A)), .val (.int (Int32.ofNat N)), .val (.int (Int32.ofNat (A + N))), .val (.int (Int32.ofNat B)), .val (.int ((4 : Int32) - (Int32.ofNat B))), .val (.int (Int32.ofNat M)), .val (.int (Int32.ofNat (B + M))), .val (.ref t1), .val (.ref t2), .val (.int (1 : Int32)), .unset] [(.int (Int32.ofNat (A + N))), (.int (Int32.ofNat A)), (.ref t1)])) _
              refine XS.aload X73.here hx rfl (hb hby at_293) rfl rfl ?_
              show Steps p.tables e below (T73.setTop (mkF m 295 #[.val (.int p1), .val (.int p2), .val (.int p3), .val (.int p4), .val (.int p5), .val (.int (Int32.ofNat A)), .val (.int (Int32.ofNat N)), .val (.int (Int32.ofNat (A + N))), .val (.int (Int32.ofNat B)), .val (.int ((4 : Int32) - (Int32.ofNat B))), .val (.int (Int32.ofNat M)), .val (.int (Int32.ofNat (B + M))), .val (.ref t1), .val (.ref t2), .val (.int (1 : Int32)), .unset] [(.ref t2), (.int (Int32.ofNat (A + N))), (.int (Int32.ofNat A)), (.ref t1)])) _
              refine XS.iload X73.here hx rfl (hb hby at_295) rfl ?_
              show Steps p.tables e below (T73.setTop (mkF m 297 #[.val (.int p1), .val (.int p2), .val (.int p3), .val (.int p4), .val (.int p5), .val (.int (Int32.ofNat A)), .val (.int (Int32.ofNat N)), .val (.int (Int32.ofNat (A + N))), .val (.int (Int32.ofNat B)), .val (.int ((4 : Int32) - (Int32.ofNat B))), .val (.int (Int32.ofNat M)), .val (.int (Int32.ofNat (B + M))), .val (.ref t1), .val (.ref t2), .val (.int (1 : Int32)), .unset] [(.int (Int32.ofNat B)), (.ref t2), (.int (Int32.ofNat (A + N))), (.int (Int32.ofNat A)), (.ref t1)])) _
              refine XS.iload X73.here hx rfl (hb hby at_297) rfl ?_
              show Steps p.tables e below (T73.setTop (mkF m 299 #[.val (.int p1), .val (.int p2), .val (.int p3), .val (.int p4), .val (.int p5), .val (.int (Int32.ofNat A)), .val (.int (Int32.ofNat N)), .val (.int (Int32.ofNat (A + N))), .val (.int (Int32.ofNat B)), .val (.int ((4 : Int32) - (Int32.ofNat B))), .val (.int (Int32.ofNat M)), .val (.int (Int32.ofNat (B + M))), .val (.ref t1), .val (.ref t2), .val (.int (1 : Int32)), .unset] [(.int (Int32.ofNat (B + M))), (.int (Int32.ofNat B)), (.ref t2), (.int (Int32.ofNat (A + N))), (.int (Int32.ofNat A)), (.ref t1)])) _
              refine st76 _ ?_
              show Steps p.tables e below (T76.setTop (mkF m 302 #[.val (.int p1), .val (.int p2), .val (.int p3), .val (.int p4), .val (.int p5), .val (.int (Int32.ofNat A)), .val (.int (Int32.ofNat N)), .val (.int (Int32.ofNat (A + N))), .val (.int (Int32.ofNat B)), .val (.int ((4 : Int32) - (Int32.ofNat B))), .val (.int (Int32.ofNat M)), .val (.int (Int32.ofNat (B + M))), .val (.ref t1), .val (.ref t2), .val (.int (1 : Int32)), .unset] [(.int zz)])) _
              refine XS.istore X76.here hx rfl (hb hby at_302) rfl (l' := #[.val (.int p1), .val (.int p2), .val (.int p3), .val (.int p4), .val (.int p5), .val (.int (Int32.ofNat A)), .val (.int (Int32.ofNat N)), .val (.int (Int32.ofNat (A + N))), .val (.int (Int32.ofNat B)), .val (.int ((4 : Int32) - (Int32.ofNat B))), .val (.int (Int32.ofNat M)), .val (.int (Int32.ofNat (B + M))), .val (.ref t1), .val (.ref t2), .val (.int (1 : Int32)), .val (.int zz)]) rfl ?_
              show Steps p.tables e below (T76.setTop (mkF m 304 #[.val (.int p1), .val (.int p2), .val (.int p3), .val (.int p4), .val (.int p5), .val (.int (Int32.ofNat A)), .val (.int (Int32.ofNat N)), .val (.int (Int32.ofNat (A + N))), .val (.int (Int32.ofNat B)), .val (.int ((4 : Int32) - (Int32.ofNat B))), .val (.int (Int32.ofNat M)), .val (.int (Int32.ofNat (B + M))), .val (.ref t1), .val (.ref t2), .val (.int (1 : Int32)), .val (.int zz)] [])) _
              refine XS.iload X76.here hx rfl (hb hby at_304) rfl ?_
              show Steps p.tables e below (T76.setTop (mkF m 306 #[.val (.int p1), .val (.int p2), .val (.int p3), .val (.int p4), .val (.int p5), .val (.int (Int32.ofNat A)), .val (.int (Int32.ofNat N)), .val (.int (Int32.ofNat (A + N))), .val (.int (Int32.ofNat B)), .val (.int ((4 : Int32) - (Int32.ofNat B))), .val (.int (Int32.ofNat M)), .val (.int (Int32.ofNat (B + M))), .val (.ref t1), .val (.ref t2), .val (.int (1 : Int32)), .val (.int zz)] [(.int zz)])) _
              refine XS.iload X76.here hx rfl (hb hby at_306) rfl ?_
              show Steps p.tables e below (T76.setTop (mkF m 308 #[.val (.int p1), .val (.int p2), .val (.int p3), .val (.int p4), .val (.int p5), .val (.int (Int32.ofNat A)), .val (.int (Int32.ofNat N)), .val (.int (Int32.ofNat (A + N))), .val (.int (Int32.ofNat B)), .val (.int ((4 : Int32) - (Int32.ofNat B))), .val (.int (Int32.ofNat M)), .val (.int (Int32.ofNat (B + M))), .val (.ref t1), .val (.ref t2), .val (.int (1 : Int32)), .val (.int zz)] [(.int (1 : Int32)), (.int zz)])) _
              refine XS.icmpNo X76.here hx rfl (hb hby at_308) rfl (teq hz77).2 ?_
              show Steps p.tables e below (T76.setTop (mkF m 311 #[.val (.int p1), .val (.int p2), .val (.int p3), .val (.int p4), .val (.int p5), .val (.int (Int32.ofNat A)), .val (.int (Int32.ofNat N)), .val (.int (Int32.ofNat (A + N))), .val (.int (Int32.ofNat B)), .val (.int ((4 : Int32) - (Int32.ofNat B))), .val (.int (Int32.ofNat M)), .val (.int (Int32.ofNat (B + M))), .val (.ref t1), .val (.ref t2), .val (.int (1 : Int32)), .val (.int zz)] [])) _
              refine XS.iconst X76.here hx rfl (hb hby at_311) ?_
              show Steps p.tables e below (T76.setTop (mkF m 312 #[.val (.int p1), .val (.int p2), .val (.int p3), .val (.int p4), .val (.int p5), .val (.int (Int32.ofNat A)), .val (.int (Int32.ofNat N)), .val (.int (Int32.ofNat (A + N))), .val (.int (Int32.ofNat B)), .val (.int ((4 : Int32) - (Int32.ofNat B))), .val (.int (Int32.ofNat M)), .val (.int (Int32.ofNat (B + M))), .val (.ref t1), .val (.ref t2), .val (.int (1 : Int32)), .val (.int zz)] [(.int (1 : Int32))])) _
              refine XS.goto X76.here hx rfl (pc0 := 312) (pc' := 316) rfl (hb hby at_312) (by decide) (by decide) ?_
              show Steps p.tables e below (T76.setTop (mkF m 316 #[.val (.int p1), .val (.int p2), .val (.int p3), .val (.int p4), .val (.int p5), .val (.int (Int32.ofNat A)), .val (.int (Int32.ofNat N)), .val (.int (Int32.ofNat (A + N))), .val (.int (Int32.ofNat B)), .val (.int ((4 : Int32) - (Int32.ofNat B))), .val (.int (Int32.ofNat M)), .val (.int (Int32.ofNat (B + M))), .val (.ref t1), .val (.ref t2), .val (.int (1 : Int32)), .val (.int zz)] [(.int (1 : Int32))])) _
              exact retN X76 hx (t := .boolean) Bd.returns (by simp) (hb hby at_316) hr
            · show Q0 Z p1 p2 p3 p4 p5 h0 n0 _ T76.heap _
              rw [e76]
              exact ⟨rfl, N76⟩
  · obtain ⟨_, _, ⟨T78, L78, k78, n78⟩, -, X78, ⟨Lc78, hQ78, l78, y78, z78⟩, st78⟩ := Jvm.LawKit.callS X58 hx (y := (⟨"com/example/trailsmith/trailsmith/check/Bytes", "equal", "([BII[BII)Z"⟩ : MethodName)) hown (mvT hZ (hw _ (List.mem_of_getElem? (i := 10) rfl))) (mvT hZ (hw _ (List.mem_of_getElem? (i := 11) rfl))) (mvT hZ (hw _ (List.mem_of_getElem? (i := 12) rfl))) (mvT hZ (hw _ (List.mem_of_getElem? (i := 13) rfl))) (by decide) (backOf (W := 0) (rm3 l Z a0 hw [] t1 t2 A B N M f g h58 n0 Z62 f60 BB hAN hBM) hZ (hw _ (List.mem_of_getElem? (i := 13) rfl)) (hw _ (List.mem_of_getElem? (i := 12) rfl)) (by decide) (by decide)) (g := (mkF m 299 #[.val (.int p1), .val (.int p2), .val (.int p3), .val (.int p4), .val (.int p5), .val (.int (Int32.ofNat A)), .val (.int (Int32.ofNat N)), .val (.int (Int32.ofNat (A + N))), .val (.int (Int32.ofNat B)), .val (.int ((4 : Int32) - (Int32.ofNat B))), .val (.int (Int32.ofNat M)), .val (.int (Int32.ofNat (B + M))), .val (.ref t1), .val (.ref t2), .val (.int (0 : Int32)), .unset] [(.int (Int32.ofNat (B + M))), (.int (Int32.ofNat B)), (.ref t2), (.int (Int32.ofNat (A + N))), (.int (Int32.ofNat A)), (.ref t1)])) rfl (by rw [hml]; rfl) (argsL := [(.ref t1), (.int (Int32.ofNat A)), (.int (Int32.ofNat (A + N))), (.ref t2), (.int (Int32.ofNat B)), (.int (Int32.ofNat (B + M)))]) (rest := []) (lenOf pd_78 rfl) rfl (by show 2 * 0 + _ ≤ _; exact Nat.le_of_eq rfl) (hb hby at_299) (fun _ _ => ⟨rfl, e58, (by decide : 2 + 0 ≤ _), (by decide : 8 + 0 ≤ _)⟩)
    dsimp only [Pt.U, Pt.locs, Pt.cells, Pt.slots] at X78 l78 y78 z78 st78 hQ78
    subst l78 y78 z78
    obtain ⟨zz, rfl, N78q, e78, hzz⟩ := hQ78
    have N78 := Fr.app N58 N78q
    have hz79 : zz = (0 : Int32) := (own_z0 hzz (fun q => hc203 (by rw [q.1])))
    obtain ⟨fs, hr, hrun, hended, hW, hsame⟩ := X78.leave (v := some (.int (1 : Int32))) (fun h => by rw [Bd.returns] at h; cases h)
    refine ⟨_, _, pre0 _ ?_, hrun, hended, _, _, rfl, ?_, ⟨_, rfl⟩, hW, hsame.mono (by decide) (by decide)⟩
    · show Steps p.tables e below (s₁.setTop (mkF m 0 #[.val (.int p1), .val (.int p2), .val (.int p3), .val (.int p4), .val (.int p5), .unset, .unset, .unset, .unset, .unset, .unset, .unset, .unset, .unset, .unset, .unset] [])) _
      refine seg63 _ ?_
      show Steps p.tables e below (T58.setTop (mkF m 199 #[.val (.int p1), .val (.int p2), .val (.int p3), .val (.int p4), .val (.int p5), .val (.int (Int32.ofNat A)), .val (.int (Int32.ofNat N)), .val (.int (Int32.ofNat (A + N))), .val (.int (Int32.ofNat B)), .val (.int ((4 : Int32) - (Int32.ofNat B))), .val (.int (Int32.ofNat M)), .val (.int (Int32.ofNat (B + M))), .val (.ref t1), .val (.ref t2), .unset, .unset] [])) _
      refine XS.iload X58.here hx rfl (hb hby at_199) rfl ?_
      show Steps p.tables e below (T58.setTop (mkF m 201 #[.val (.int p1), .val (.int p2), .val (.int p3), .val (.int p4), .val (.int p5), .val (.int (Int32.ofNat A)), .val (.int (Int32.ofNat N)), .val (.int (Int32.ofNat (A + N))), .val (.int (Int32.ofNat B)), .val (.int ((4 : Int32) - (Int32.ofNat B))), .val (.int (Int32.ofNat M)), .val (.int (Int32.ofNat (B + M))), .val (.ref t1), .val (.ref t2), .unset, .unset] [(.int (Int32.ofNat N))])) _
      refine XS.iload X58.here hx rfl (hb hby at_201) rfl ?_
      show Steps p.tables e below (T58.setTop (mkF m 203 #[.val (.int p1), .val (.int p2), .val (.int p3), .val (.int p4), .val (.int p5), .val (.int (Int32.ofNat A)), .val (.int (Int32.ofNat N)), .val (.int (Int32.ofNat (A + N))), .val (.int (Int32.ofNat B)), .val (.int ((4 : Int32) - (Int32.ofNat B))), .val (.int (Int32.ofNat M)), .val (.int (Int32.ofNat (B + M))), .val (.ref t1), .val (.ref t2), .unset, .unset] [(.int (Int32.ofNat M)), (.int (Int32.ofNat N))])) _
      refine XS.icmpNo X58.here hx rfl (hb hby at_203) rfl (feq hc203).1 ?_
      show Steps p.tables e below (T58.setTop (mkF m 206 #[.val (.int p1), .val (.int p2), .val (.int p3), .val (.int p4), .val (.int p5), .val (.int (Int32.ofNat A)), .val (.int (Int32.ofNat N)), .val (.int (Int32.ofNat (A + N))), .val (.int (Int32.ofNat B)), .val (.int ((4 : Int32) - (Int32.ofNat B))), .val (.int (Int32.ofNat M)), .val (.int (Int32.ofNat (B + M))), .val (.ref t1), .val (.ref t2), .unset, .unset] [])) _
      refine XS.iconst X58.here hx rfl (hb hby at_206) ?_
      show Steps p.tables e below (T58.setTop (mkF m 207 #[.val (.int p1), .val (.int p2), .val (.int p3), .val (.int p4), .val (.int p5), .val (.int (Int32.ofNat A)), .val (.int (Int32.ofNat N)), .val (.int (Int32.ofNat (A + N))), .val (.int (Int32.ofNat B)), .val (.int ((4 : Int32) - (Int32.ofNat B))), .val (.int (Int32.ofNat M)), .val (.int (Int32.ofNat (B + M))), .val (.ref t1), .val (.ref t2), .unset, .unset] [(.int (0 : Int32))])) _
      refine XS.istore X58.here hx rfl (hb hby at_207) rfl (l' := #[.val (.int p1), .val (.int p2), .val (.int p3), .val (.int p4), .val (.int p5), .val (.int (Int32.ofNat A)), .val (.int (Int32.ofNat N)), .val (.int (Int32.ofNat (A + N))), .val (.int (Int32.ofNat B)), .val (.int ((4 : Int32) - (Int32.ofNat B))), .val (.int (Int32.ofNat M)), .val (.int (Int32.ofNat (B + M))), .val (.ref t1), .val (.ref t2), .val (.int (0 : Int32)), .unset]) rfl ?_
      show Steps p.tables e below (T58.setTop (mkF m 209 #[.val (.int p1), .val (.int p2), .val (.int p3), .val (.int p4), .val (.int p5), .val (.int (Int32.ofNat A)), .val (.int (Int32.ofNat N)), .val (.int (Int32.ofNat (A + N))), .val (.int (Int32.ofNat B)), .val (.int ((4 : Int32) - (Int32.ofNat B))), .val (.int (Int32.ofNat M)), .val (.int (Int32.ofNat (B + M))), .val (.ref t1), .val (.ref t2), .val (.int (0 : Int32)), .unset] [])) _
      refine XS.goto X58.here hx rfl (pc0 := 209) (pc' := 287) rfl (hb hby at_209) (by decide) (by decide) ?_
      show Steps p.tables e below (T58.setTop (mkF m 287 #[.val (.int p1), .val (.int p2), .val (.int p3), .val (.int p4), .val (.int p5), .val (.int (Int32.ofNat A)), .val (.int (Int32.ofNat N)), .val (.int (Int32.ofNat (A + N))), .val (.int (Int32.ofNat B)), .val (.int ((4 : Int32) - (Int32.ofNat B))), .val (.int (Int32.ofNat M)), .val (.int (Int32.ofNat (B + M))), .val (.ref t1), .val (.ref t2), .val (.int (0 : Int32)), .unset] [])) _
      refine XS.aload X58.here hx rfl (hb hby at_287) rfl rfl ?_
      show Steps p.tables e below (T58.setTop (mkF m 289 #[.val (.int p1), .val (.int p2), .val (.int p3), .val (.int p4), .val (.int p5), .val (.int (Int32.ofNat A)), .val (.int (Int32.ofNat N)), .val (.int (Int32.ofNat (A + N))), .val (.int (Int32.ofNat B)), .val (.int ((4 : Int32) - (Int32.ofNat B))), .val (.int (Int32.ofNat M)), .val (.int (Int32.ofNat (B + M))), .val (.ref t1), .val (.ref t2), .val (.int (0 : Int32)), .unset] [(.ref t1)])) _
      refine XS.iload X58.here hx rfl (hb hby at_289) rfl ?_
      show Steps p.tables e below (T58.setTop (mkF m 291 #[.val (.int p1), .val (.int p2), .val (.int p3), .val (.int p4), .val (.int p5), .val (.int (Int32.ofNat A)), .val (.int (Int32.ofNat N)), .val (.int (Int32.ofNat (A + N))), .val (.int (Int32.ofNat B)), .val (.int ((4 : Int32) - (Int32.ofNat B))), .val (.int (Int32.ofNat M)), .val (.int (Int32.ofNat (B + M))), .val (.ref t1), .val (.ref t2), .val (.int (0 : Int32)), .unset] [(.int (Int32.ofNat A)), (.ref t1)])) _
      refine XS.iload X58.here hx rfl (hb hby at_291) rfl ?_
      show Steps p.tables e below (T58.setTop (mkF m 293 #[.val (.int p1), .val (.int p2), .val (.int p3), .val (.int p4), .val (.int p5), .val (.int (Int32.ofNat A)), .val (.int (Int32.ofNat N)), .val (.int (Int32.ofNat (A + N))), .val (.int (Int32.ofNat B)), .val (.int ((4 : Int32) - (Int32.ofNat B))), .val (.int (Int32.ofNat M)), .val (.int (Int32.ofNat (B + M))), .val (.ref t1), .val (.ref t2), .val (.int (0 : Int32)), .unset] [(.int (Int32.ofNat (A + N))), (.int (Int32.ofNat A)), (.ref t1)])) _
      refine XS.aload X58.here hx rfl (hb hby at_293) rfl rfl ?_
      show Steps p.tables e below (T58.setTop (mkF m 295 #[.val (.int p1), .val (.int p2), .val (.int p3), .val (.int p4), .val (.int p5), .val (.int (Int32.ofNat A)), .val (.int (Int32.ofNat N)), .val (.int (Int32.ofNat (A + N))), .val (.int (Int32.ofNat B)), .val (.int ((4 : Int32) - (Int32.ofNat B))), .val (.int (Int32.ofNat M)), .val (.int (Int32.ofNat (B + M))), .val (.ref t1), .val (.ref t2), .val (.int (0 : Int32)), .unset] [(.ref t2), (.int (Int32.ofNat (A + N))), (.int (Int32.ofNat A)), (.ref t1)])) _
      refine XS.iload X58.here hx rfl (hb hby at_295) rfl ?_
      show Steps p.tables e below (T58.setTop (mkF m 297 #[.val (.int p1), .val (.int p2), .val (.int p3), .val (.int p4), .val (.int p5), .val (.int (Int32.ofNat A)), .val (.int (Int32.ofNat N)), .val (.int (Int32.ofNat (A + N))), .val (.int (Int32.ofNat B)), .val (.int ((4 : Int32) - (Int32.ofNat B))), .val (.int (Int32.ofNat M)), .val (.int (Int32.ofNat (B + M))), .val (.ref t1), .val (.ref t2), .val (.int (0 : Int32)), .unset] [(.int (Int32.ofNat B)), (.ref t2), (.int (Int32.ofNat (A + N))), (.int (Int32.ofNat A)), (.ref t1)])) _
      refine XS.iload X58.here hx rfl (hb hby at_297) rfl ?_
      show Steps p.tables e below (T58.setTop (mkF m 299 #[.val (.int p1), .val (.int p2), .val (.int p3), .val (.int p4), .val (.int p5), .val (.int (Int32.ofNat A)), .val (.int (Int32.ofNat N)), .val (.int (Int32.ofNat (A + N))), .val (.int (Int32.ofNat B)), .val (.int ((4 : Int32) - (Int32.ofNat B))), .val (.int (Int32.ofNat M)), .val (.int (Int32.ofNat (B + M))), .val (.ref t1), .val (.ref t2), .val (.int (0 : Int32)), .unset] [(.int (Int32.ofNat (B + M))), (.int (Int32.ofNat B)), (.ref t2), (.int (Int32.ofNat (A + N))), (.int (Int32.ofNat A)), (.ref t1)])) _
      refine st78 _ ?_
      show Steps p.tables e below (T78.setTop (mkF m 302 #[.val (.int p1), .val (.int p2), .val (.int p3), .val (.int p4), .val (.int p5), .val (.int (Int32.ofNat A)), .val (.int (Int32.ofNat N)), .val (.int (Int32.ofNat (A + N))), .val (.int (Int32.ofNat B)), .val (.int ((4 : Int32) - (Int32.ofNat B))), .val (.int (Int32.ofNat M)), .val (.int (Int32.ofNat (B + M))), .val (.ref t1), .val (.ref t2), .val (.int (0 : Int32)), .unset] [(.int zz)])) _
      refine XS.istore X78.here hx rfl (hb hby at_302) rfl (l' := #[.val (.int p1), .val (.int p2), .val (.int p3), .val (.int p4), .val (.int p5), .val (.int (Int32.ofNat A)), .val (.int (Int32.ofNat N)), .val (.int (Int32.ofNat (A + N))), .val (.int (Int32.ofNat B)), .val (.int ((4 : Int32) - (Int32.ofNat B))), .val (.int (Int32.ofNat M)), .val (.int (Int32.ofNat (B + M))), .val (.ref t1), .val (.ref t2), .val (.int (0 : Int32)), .val (.int zz)]) rfl ?_
      show Steps p.tables e below (T78.setTop (mkF m 304 #[.val (.int p1), .val (.int p2), .val (.int p3), .val (.int p4), .val (.int p5), .val (.int (Int32.ofNat A)), .val (.int (Int32.ofNat N)), .val (.int (Int32.ofNat (A + N))), .val (.int (Int32.ofNat B)), .val (.int ((4 : Int32) - (Int32.ofNat B))), .val (.int (Int32.ofNat M)), .val (.int (Int32.ofNat (B + M))), .val (.ref t1), .val (.ref t2), .val (.int (0 : Int32)), .val (.int zz)] [])) _
      refine XS.iload X78.here hx rfl (hb hby at_304) rfl ?_
      show Steps p.tables e below (T78.setTop (mkF m 306 #[.val (.int p1), .val (.int p2), .val (.int p3), .val (.int p4), .val (.int p5), .val (.int (Int32.ofNat A)), .val (.int (Int32.ofNat N)), .val (.int (Int32.ofNat (A + N))), .val (.int (Int32.ofNat B)), .val (.int ((4 : Int32) - (Int32.ofNat B))), .val (.int (Int32.ofNat M)), .val (.int (Int32.ofNat (B + M))), .val (.ref t1), .val (.ref t2), .val (.int (0 : Int32)), .val (.int zz)] [(.int zz)])) _
      refine XS.iload X78.here hx rfl (hb hby at_306) rfl ?_
      show Steps p.tables e below (T78.setTop (mkF m 308 #[.val (.int p1), .val (.int p2), .val (.int p3), .val (.int p4), .val (.int p5), .val (.int (Int32.ofNat A)), .val (.int (Int32.ofNat N)), .val (.int (Int32.ofNat (A + N))), .val (.int (Int32.ofNat B)), .val (.int ((4 : Int32) - (Int32.ofNat B))), .val (.int (Int32.ofNat M)), .val (.int (Int32.ofNat (B + M))), .val (.ref t1), .val (.ref t2), .val (.int (0 : Int32)), .val (.int zz)] [(.int (0 : Int32)), (.int zz)])) _
      refine XS.icmpNo X78.here hx rfl (hb hby at_308) rfl (teq hz79).2 ?_
      show Steps p.tables e below (T78.setTop (mkF m 311 #[.val (.int p1), .val (.int p2), .val (.int p3), .val (.int p4), .val (.int p5), .val (.int (Int32.ofNat A)), .val (.int (Int32.ofNat N)), .val (.int (Int32.ofNat (A + N))), .val (.int (Int32.ofNat B)), .val (.int ((4 : Int32) - (Int32.ofNat B))), .val (.int (Int32.ofNat M)), .val (.int (Int32.ofNat (B + M))), .val (.ref t1), .val (.ref t2), .val (.int (0 : Int32)), .val (.int zz)] [])) _
      refine XS.iconst X78.here hx rfl (hb hby at_311) ?_
      show Steps p.tables e below (T78.setTop (mkF m 312 #[.val (.int p1), .val (.int p2), .val (.int p3), .val (.int p4), .val (.int p5), .val (.int (Int32.ofNat A)), .val (.int (Int32.ofNat N)), .val (.int (Int32.ofNat (A + N))), .val (.int (Int32.ofNat B)), .val (.int ((4 : Int32) - (Int32.ofNat B))), .val (.int (Int32.ofNat M)), .val (.int (Int32.ofNat (B + M))), .val (.ref t1), .val (.ref t2), .val (.int (0 : Int32)), .val (.int zz)] [(.int (1 : Int32))])) _
      refine XS.goto X78.here hx rfl (pc0 := 312) (pc' := 316) rfl (hb hby at_312) (by decide) (by decide) ?_
      show Steps p.tables e below (T78.setTop (mkF m 316 #[.val (.int p1), .val (.int p2), .val (.int p3), .val (.int p4), .val (.int p5), .val (.int (Int32.ofNat A)), .val (.int (Int32.ofNat N)), .val (.int (Int32.ofNat (A + N))), .val (.int (Int32.ofNat B)), .val (.int ((4 : Int32) - (Int32.ofNat B))), .val (.int (Int32.ofNat M)), .val (.int (Int32.ofNat (B + M))), .val (.ref t1), .val (.ref t2), .val (.int (0 : Int32)), .val (.int zz)] [(.int (1 : Int32))])) _
      exact retN X78 hx (t := .boolean) Bd.returns (by simp) (hb hby at_316) hr
    · show Q0 Z p1 p2 p3 p4 p5 h0 n0 _ T78.heap _
      rw [e78]
      exact ⟨rfl, N78⟩
set_option maxRecDepth 65536 in
set_option maxHeartbeats 40000000 in
theorem comes_1 {Post : Tables → Env → Array Value → State → Outcome → State → Prop} (hpost : ∀ tb e args s v u, (limb_1_1.after args s (.returned v) u = true ∧ limb_1_2.after args s (.returned v) u = true ∧ True) → FrameEnd s (.returned v) u (Jvm.fieldLocs frame_1_writes args s ++ Jvm.arrayLocs frame_1_arrays args s ++ Jvm.staticLocs frame_1_statics s) 16 128 → Post tb e args s (.returned v) u) :
    ArmFor flags0 classFile x code maxLocals ret World_1 tables_1 room_1 Calls_1 rest_1 Pre_1 Post := by
  intro l hfl _ _ p e ha hc hk s m args below hf hA hF happ hP
  obtain ⟨hcalls, hrest, hpre⟩ := hP
  obtain ⟨-, -, -, hnamed, -, -, -, hat⟩ := (Spec.applies_iff hf).mp happ
  obtain ⟨hg, hn⟩ := and_e (Cond.before_iff.mp (show (Jvm.Cond.and given_1 narrow_1).before args s = true from hpre))
  obtain ⟨gc, gr0⟩ := and_e hg
  obtain ⟨ga0, gr1⟩ := and_e gr0
  obtain ⟨ga1, gr2⟩ := and_e gr1
  obtain ⟨ga2, gr3⟩ := and_e gr2
  obtain ⟨ga3, gr4⟩ := and_e gr3
  have ga4 := gr4
  obtain ⟨w0, w1, w2, w3, w4, rfl⟩ : ∃ w0 w1 w2 w3 w4 : Value, args = #[w0, w1, w2, w3, w4] := by
    have hs : args.size = 5 := by simpa [Cond.value, given_1] using gc
    obtain ⟨L⟩ := args
    match L, hs with
    | [w0, w1, w2, w3, w4], _ => exact ⟨w0, w1, w2, w3, w4, rfl⟩
  have hw := fun d (hd : d ∈ tables_1) => atoms_spec (ws := Jvm.Cond.code x code maxLocals ret :: tables_1) hat d (List.mem_cons_of_mem _ hd)
  obtain ⟨i0, ei0⟩ := is_v ga0
  obtain rfl : w0 = (.int i0) := Option.some.inj ei0
  obtain ⟨i1, ei1⟩ := is_v ga1
  obtain rfl : w1 = (.int i1) := Option.some.inj ei1
  obtain ⟨i2, ei2⟩ := is_v ga2
  obtain rfl : w2 = (.int i2) := Option.some.inj ei2
  obtain ⟨i3, ei3⟩ := is_v ga3
  obtain rfl : w3 = (.int i3) := Option.some.inj ei3
  obtain ⟨i4, ei4⟩ := is_v ga4
  obtain rfl : w4 = (.int i4) := Option.some.inj ei4
  obtain ⟨n, o, h1, h2, h3, _, L, rfl, ⟨rfl, N⟩, hq⟩ := rm0 l s _ hw tables_1 i0 i1 i2 i3 i4 s.heap s.heap.size (Nat.le_refl _) p e ha hc hk s m _ below hf ((Spec.applies_iff_loose hf).mp happ).1 ⟨rfl, State.Warmed39.refl s, rfl⟩ trivial
  refine ⟨n, _, h1, h2, h3, hpost _ _ _ _ _ _ ⟨Cond.after_iff.mpr rfl, Cond.after_iff.mpr (eq_i res_at (Term.int_eval (1)) rfl), trivial⟩ ⟨hq.1, hq.2.1, (hq.2.2.sift fun y hy => Or.inr (N y hy)).mono (by decide) (by decide)⟩⟩
theorem main_1_1 : Claimed_1_1 := comes_1 fun _ _ _ _ _ _ h hF => ⟨h.1, hF⟩
theorem main_1_2 : Claimed_1_2 := comes_1 fun _ _ _ _ _ _ h hF => ⟨h.2.1, hF⟩
end Jvm.Pilot.@@N@@
namespace Jvm.Pilot.@@N@@
open Jvm Jvm.ClassFile Sem Op Lib Jvm.Free Jvm.Stand Jvm.Pilot.@@N@@.Jvm.D
/-! MADE BY PROGRAM (witnessworld.py) out of the Statement's table words and the real class files: 9 classes; the members and pool entries that the words name. The judged class is class 1, her method 3. -/
namespace start1
open Jvm.ClassFile
def u (s : String) : CpInfo := .utf8 (stringToUtf16 s)
/-- a pool by its gaps: so many unusable entries, then the entry; so many at the end -/
def gap : Nat → List CpInfo → List CpInfo
  | 0, r => r
  | n + 1, r => .unusable :: gap n r
def poolList (es : List (Nat × CpInfo)) (last : Nat) : List CpInfo := es.foldr (fun e r => gap e.1 (e.2 :: r)) (gap last [])
def pool (es : List (Nat × CpInfo)) (last : Nat) : Array CpInfo := ⟨poolList es last⟩
def fileOf (pool : Array CpInfo) (this : Nat) (attrs : Array Attribute := #[]) (ms : Array MethodInfo := #[]) (fl : Nat := 33) (sup : Nat := 0) (ifs : Array Nat := #[]) (fds : Array FieldInfo := #[]) : ClassFile where
  minorVersion := 0
  majorVersion := 65
  constantPool := pool
  accessFlags := fl
  thisClass := this
  superClass := sup
  interfaces := ifs
  fields := fds
  methods := ms
  attributes := attrs
def plain (name : String) (sup : Option ClassId) : Class where
  name := name
  kind := .ordinary
  loader := none
  accessFlags := 33
  super := sup
  interfaces := #[]
  cf := none
  fields := #[]
  methods := #[]
  instanceTypes := #[]
  staticTypes := #[]
  resolved := #[]
  callSites := []
  init := .initialized
  statics := none
  mirror := none

def pool0 : Array CpInfo := pool [(5, u "<init>"), (0, u "()V"), (1, .class_ 10), (1, u "java/lang/Object")] 113

def k0m0 : Method := { name := "<init>", desc := "()V", sig := { parameters := [], returnType := none }, accessFlags := 1, code := none }
/-- java/lang/Object -/
def k0 : Class := { plain "java/lang/Object" none with
  accessFlags := 33
  interfaces := #[]
  cf := some (fileOf pool0 8 #[] #[{ accessFlags := 1, nameIndex := 5, descriptorIndex := 6, attributes := #[] }] 33 0 #[] #[])
  fields := #[]
  methods := #[k0m0]
  instanceTypes := #[]
  staticTypes := #[]
  resolved := Array.replicate 124 none
  statics := none }

def pool1 : Array CpInfo := pool [(2, .class_ 4), (1, u "java/lang/Object"), (0, u "<init>"), (0, u "()V"), (0, .integer 2147483647), (0, .integer 8388607), (0, .methodref 10 11), (0, .class_ 12), (0, .nameAndType 13 14), (0, u "com/example/trailsmith/trailsmith/check/BytesEqualPinLaw"), (0, u "pick"), (0, u "(II[BIII)B"), (0, .methodref 10 16), (0, .nameAndType 17 18), (0, u "at"), (0, u "([BI[BIII)Z"), (0, .methodref 20 21), (0, .class_ 22), (0, .nameAndType 23 24), (0, u "com/example/trailsmith/trailsmith/check/Bytes"), (0, u "equal"), (0, u "([BII[BII)Z"), (3, u "law"), (0, u "(IIIII)Z")] 4

def k1m0 : Method := { name := "<init>", desc := "()V", sig := { parameters := [], returnType := none }, accessFlags := 2, code := none }
def k1c1 : Code := { maxStack := 4, maxLocals := 6, code := method_2_code, exceptionTable := #[], attributes := #[] }
def k1m1 : Method := { name := "at", desc := "([BI[BIII)Z", sig := { parameters := [(.array .byte), .int, (.array .byte), .int, .int, .int], returnType := some .boolean }, accessFlags := 10, code := some k1c1 }
def k1c2 : Code := { maxStack := 3, maxLocals := 6, code := method_3_code, exceptionTable := #[], attributes := #[] }
def k1m2 : Method := { name := "pick", desc := "(II[BIII)B", sig := { parameters := [.int, .int, (.array .byte), .int, .int, .int], returnType := some .byte }, accessFlags := 10, code := some k1c2 }
def k1c3 : Code := { maxStack := 8, maxLocals := 16, code := code, exceptionTable := #[], attributes := #[] }
def k1m3 : Method := { name := "law", desc := "(IIIII)Z", sig := { parameters := [.int, .int, .int, .int, .int], returnType := some .boolean }, accessFlags := 9, code := some k1c3 }
/-- com/example/trailsmith/trailsmith/check/BytesEqualPinLaw -/
def k1 : Class := { plain "com/example/trailsmith/trailsmith/check/BytesEqualPinLaw" (some 0) with
  accessFlags := 49
  interfaces := #[]
  cf := some (fileOf pool1 10 #[] #[{ accessFlags := 2, nameIndex := 5, descriptorIndex := 6, attributes := #[] }, { accessFlags := 10, nameIndex := 17, descriptorIndex := 18, attributes := #[] }, { accessFlags := 10, nameIndex := 13, descriptorIndex := 14, attributes := #[] }, { accessFlags := 9, nameIndex := 28, descriptorIndex := 29, attributes := #[] }] 49 2 #[] #[])
  fields := #[]
  methods := #[k1m0, k1m1, k1m2, k1m3]
  instanceTypes := #[]
  staticTypes := #[]
  resolved := Array.replicate 34 none
  statics := none }

def pool2 : Array CpInfo := pool [(2, .class_ 4), (1, u "java/lang/Object"), (0, u "<init>"), (0, u "()V"), (0, .class_ 8), (0, u "com/example/trailsmith/trailsmith/check/Bytes"), (2, u "equal"), (0, u "([BII[BII)Z")] 3

def k2m0 : Method := { name := "<init>", desc := "()V", sig := { parameters := [], returnType := none }, accessFlags := 2, code := none }
def k2c1 : Code := { maxStack := 4, maxLocals := 8, code := prog_37_method_2_code, exceptionTable := #[], attributes := #[] }
def k2m1 : Method := { name := "equal", desc := "([BII[BII)Z", sig := { parameters := [(.array .byte), .int, .int, (.array .byte), .int, .int], returnType := some .boolean }, accessFlags := 8, code := some k2c1 }
/-- com/example/trailsmith/trailsmith/check/Bytes -/
def k2 : Class := { plain "com/example/trailsmith/trailsmith/check/Bytes" (some 0) with
  accessFlags := 48
  interfaces := #[]
  cf := some (fileOf pool2 7 #[] #[{ accessFlags := 2, nameIndex := 5, descriptorIndex := 6, attributes := #[] }, { accessFlags := 8, nameIndex := 11, descriptorIndex := 12, attributes := #[] }] 48 2 #[] #[])
  fields := #[]
  methods := #[k2m0, k2m1]
  instanceTypes := #[]
  staticTypes := #[]
  resolved := Array.replicate 16 none
  statics := none }

def pool3 : Array CpInfo := pool [(1, u "java/lang/Cloneable"), (0, .class_ 1), (0, u "java/lang/Object"), (0, .class_ 3)] 3

/-- java/lang/Cloneable -/
def k3 : Class := { plain "java/lang/Cloneable" (some 0) with
  accessFlags := 1537
  interfaces := #[]
  cf := some (fileOf pool3 2 #[] #[] 1537 4 #[] #[])
  fields := #[]
  methods := #[]
  instanceTypes := #[]
  staticTypes := #[]
  resolved := Array.replicate 8 none
  statics := none }

def pool4 : Array CpInfo := pool [(1, u "java/io/Serializable"), (0, .class_ 1), (0, u "java/lang/Object"), (0, .class_ 3)] 3

/-- java/io/Serializable -/
def k4 : Class := { plain "java/io/Serializable" (some 0) with
  accessFlags := 1537
  interfaces := #[]
  cf := some (fileOf pool4 2 #[] #[] 1537 4 #[] #[])
  fields := #[]
  methods := #[]
  instanceTypes := #[]
  staticTypes := #[]
  resolved := Array.replicate 8 none
  statics := none }

/-- the primitive byte -/
def k5 : Class := { plain "byte" none with kind := .primitive 'B', accessFlags := 0x411 }
/-- [B -/
def k6 : Class := { plain "[B" (some 0) with kind := .array 5 .byte, interfaces := #[3, 4], accessFlags := 1041 }

/-- the primitive int -/
def k7 : Class := { plain "int" none with kind := .primitive 'I', accessFlags := 0x411 }
/-- [I -/
def k8 : Class := { plain "[I" (some 0) with kind := .array 7 .int, interfaces := #[3, 4], accessFlags := 1041 }

def heap : Heap := #[]
def classes : Array Class := #[k0, k1, k2, k3, k4, k5, k6, k7, k8]
def interned : List (Array UInt16 × Addr) := []
def slotsUsed : Nat := 0
def theMethod : MethodId := ⟨1, 3⟩
def args0 : Array Value := #[.int 5, .int 300, .int 7, .int 8, .int 9]
def aboutOver (below : List Frame) : State where
  vm := { classes := classes, interned := interned.toArray }
  heap := heap
  slotsUsed := slotsUsed
  threads := #[{ frames := .invoking theMethod args0 :: below }]
def below0 : List Frame := [.native { method := ⟨0, 0⟩, args := #[] }]
def about1 : State := aboutOver below0
def p0 : Program := .bare "" "" ""
def e0 : Env := launch0.env 0 0 0
theorem w_frames : about1.frames = Frame.invoking theMethod args0 :: below0 := rfl
set_option maxRecDepth 65536 in
theorem w_args : argsFit about1.vm theMethod args0 = true := by decide +kernel
set_option maxRecDepth 65536 in
theorem w_heap : heapFits about1 = true := by decide +kernel
set_option maxRecDepth 65536 in
theorem w_runnable : about1.curStatus? = some .runnable := by decide +kernel
set_option maxRecDepth 65536 in
theorem w_alone : about1.alone = true := by decide +kernel
set_option maxRecDepth 65536 in
theorem w_named : about1.methodNamed? x = some theMethod := by decide +kernel
set_option maxRecDepth 65536 in
theorem w_hears : about1.hears theMethod below0 = true := by decide +kernel
set_option maxRecDepth 65536 in
theorem w_ripe : about1.ripe theMethod args0 below0 = true := by decide +kernel
theorem w_running : about1.status = .running := rfl
set_option maxRecDepth 65536 in
theorem w_room : about1.hasRoom e0.platform room_1 = true :=
  launch0.hasRoom_least _ room_1 (by decide +kernel) (by decide +kernel) (by decide +kernel) (by decide +kernel) (by decide +kernel) (by decide +kernel)
theorem allAtoms_all (ts : List Jvm.Cond) (a : Array Jvm.Value) (st : Jvm.State) : (allAtoms ts).before a st = ts.all (fun c => c.before a st) := by
  induction ts with
  | nil => rfl
  | cons c t ih =>
    show (Jvm.Cond.and c (allAtoms t)).before a st = _
    rw [Jvm.Cond.before_and, ih, List.all_cons]
def words1 : List Jvm.Cond := Jvm.Cond.code x code maxLocals ret :: tables_1
/-- a 'code' word, met by the world's own term for the bytes: nothing is compared byte by byte -/
theorem code_word {y : MethodName} {bytes : ByteArray} {mx : Nat} {rt : Option FieldType} {a : Array Value} {s : State} {m : MethodId} {meth : Method} {c : Code} (h1 : s.methodNamed? y = some m) (h2 : s.vm.method? m = some meth) (h3 : meth.code = some c) (h4 : c.code = bytes)
    (h5 : (c.maxLocals == mx && c.exceptionTable.isEmpty && decide (c.maxStack ≤ mostOperands) && decide (meth.sig.returnType = rt) && !meth.locks && decide (parseMethodDescriptor y.desc = some meth.sig)) = true) : (Jvm.Cond.code y bytes mx rt).before a s = true := by
  simp only [Bool.and_eq_true, beq_iff_eq, Bool.not_eq_true', decide_eq_true_eq] at h5
  obtain ⟨⟨⟨⟨⟨g1, g2⟩, g3⟩, g4⟩, g5⟩, g6⟩ := h5
  simp [Cond.before, Cond.holds, Cond.value, h1, h2, h3, h4, g1, g2, g3, g4, g5, g6]
def isCode : Jvm.Cond → Bool
  | .code _ _ _ _ => true
  | _ => false
theorem all_split {L : List Jvm.Cond} {P : Jvm.Cond → Bool} (h1 : L.all (fun c => isCode c || P c) = true) (h2 : ∀ c ∈ L.filter isCode, P c = true) : L.all P = true := by
  refine List.all_eq_true.mpr fun c hc => ?_
  have h := List.all_eq_true.mp h1 c hc
  rcases Bool.eq_false_or_eq_true (isCode c) with hi | hi
  · exact h2 c (List.mem_filter.mpr ⟨hc, hi⟩)
  · simpa [hi] using h
set_option maxRecDepth 65536 in
theorem w_c0 : (Jvm.Cond.code x code maxLocals ret).before args0 about1 = true := code_word (m := ⟨1, 3⟩) (meth := k1m3) (c := k1c3) (by decide +kernel) rfl rfl rfl (by decide +kernel)
set_option maxRecDepth 65536 in
theorem w_c1 : (Jvm.Cond.code ({ cls := "com/example/trailsmith/trailsmith/check/BytesEqualPinLaw", name := "pick", desc := "(II[BIII)B" } : Jvm.MethodName) method_3_code (6 : Nat) (Option.some Jvm.ClassFile.FieldType.byte)).before args0 about1 = true := code_word (m := ⟨1, 2⟩) (meth := k1m2) (c := k1c2) (by decide +kernel) rfl rfl rfl (by decide +kernel)
set_option maxRecDepth 65536 in
theorem w_c2 : (Jvm.Cond.code ({ cls := "com/example/trailsmith/trailsmith/check/BytesEqualPinLaw", name := "at", desc := "([BI[BIII)Z" } : Jvm.MethodName) method_2_code (6 : Nat) (Option.some Jvm.ClassFile.FieldType.boolean)).before args0 about1 = true := code_word (m := ⟨1, 1⟩) (meth := k1m1) (c := k1c1) (by decide +kernel) rfl rfl rfl (by decide +kernel)
set_option maxRecDepth 65536 in
theorem w_c3 : (Jvm.Cond.code ({ cls := "com/example/trailsmith/trailsmith/check/Bytes", name := "equal", desc := "([BII[BII)Z" } : Jvm.MethodName) prog_37_method_2_code (8 : Nat) (Option.some Jvm.ClassFile.FieldType.boolean)).before args0 about1 = true := code_word (m := ⟨2, 1⟩) (meth := k2m1) (c := k2c1) (by decide +kernel) rfl rfl rfl (by decide +kernel)
def codes1 : List Jvm.Cond := [Jvm.Cond.code x code maxLocals ret, Jvm.Cond.code ({ cls := "com/example/trailsmith/trailsmith/check/BytesEqualPinLaw", name := "pick", desc := "(II[BIII)B" } : Jvm.MethodName) method_3_code (6 : Nat) (Option.some Jvm.ClassFile.FieldType.byte), Jvm.Cond.code ({ cls := "com/example/trailsmith/trailsmith/check/BytesEqualPinLaw", name := "at", desc := "([BI[BIII)Z" } : Jvm.MethodName) method_2_code (6 : Nat) (Option.some Jvm.ClassFile.FieldType.boolean), Jvm.Cond.code ({ cls := "com/example/trailsmith/trailsmith/check/Bytes", name := "equal", desc := "([BII[BII)Z" } : Jvm.MethodName) prog_37_method_2_code (8 : Nat) (Option.some Jvm.ClassFile.FieldType.boolean)]
set_option maxRecDepth 65536 in
theorem codes_eq : words1.filter isCode = codes1 := rfl
theorem w_codes : ∀ c ∈ words1.filter isCode, c.before args0 about1 = true := by
  rw [codes_eq]
  intro c hc
  simp only [codes1, List.mem_cons, List.not_mem_nil, or_false] at hc
  rcases hc with rfl | rfl | rfl | rfl
  · exact w_c0
  · exact w_c1
  · exact w_c2
  · exact w_c3
set_option maxRecDepth 65536 in
theorem w_t1 : words1.all (fun c => isCode c || c.before args0 about1) = true := by decide +kernel
theorem w_tables : (allAtoms (Jvm.Cond.code x code maxLocals ret :: tables_1)).before args0 about1 = true := by
  rw [allAtoms_all]
  show words1.all (fun c => c.before args0 about1) = true
  refine all_split ?_ w_codes
  rw [w_t1]
set_option maxRecDepth 65536 in
theorem w_case : (Jvm.Cond.and given_1 narrow_1).before args0 about1 = true := by decide +kernel
theorem w_applies : (headSpec (Jvm.Cond.code x code maxLocals ret :: tables_1) room_1).applies x e0.platform about1 = true :=
  (Spec.applies_iff w_frames).mpr ⟨w_running, w_runnable, w_alone, w_named, w_hears, w_ripe, w_room, w_tables⟩
theorem atStart : AtStart classFile x code maxLocals ret World_1 tables_1 room_1 Calls_1 rest_1 Pre_1 launch0 p0 e0 about1 theMethod args0 below0 :=
  ⟨lists_1, trivial, launch0.admits_env _ _ _, launch0.least_env, fairChoices_fair.cas, fairChoices_fair.clock, w_frames, w_args, w_heap, w_applies, trivial, trivial, w_case⟩
end start1
theorem witness_1 : WitnessClaimed_1 := ⟨start1.p0, start1.e0, start1.about1, start1.theMethod, start1.args0, start1.below0, start1.atStart⟩
end Jvm.Pilot.@@N@@
