import JvmDerived
import JvmDerived.Pilot.@@N@@Statement
import JvmDerived.Pilot.@@N@@Code
set_option linter.unusedVariables false
set_option linter.unusedSimpArgs false
namespace Jvm.RoadKit
open Sem ClassFile Op Lib Jvm.Stand Jvm.Free Jvm.LawKit
section New
variable {p : Program} {l : Launch} {e : Env} {R : Room} {s : State} {m : MethodId} {args : Array Value} {below : List Frame} {meth : Method} {c : Code} {T : State} {locs : List Loc} {cells slots : Nat}
theorem retI (X : Stand p l e R s m args below meth c T locs cells slots) (hx : p.tables.exec = Jvm.exec) {pc : Nat} {Ls : Array Slot} {z : Int32} {rest : List Value} (hret : meth.sig.returnType = some .int) (hd : decode c.code pc = .ok (.ireturn, 1)) {fs : List Frame}
    (hl : ∀ (f : JFrame) (acts : List Action), f.method = m → f.locked = none → f.entered = [] → (doReturn e (T.setTop f) acts (some (.int z))).1 = T.setFrames fs) : Steps p.tables e below (T.setTop (mkF m pc Ls (.int z :: rest))) (T.setFrames fs) := by
  have hm' : T.vm.method? m = some meth := X.method'
  have hn : narrow .int (.int z) = .int z := rfl
  show Steps p.tables e below (T.setTop { method := m, pc := pc, locals := Ls, stack := _ :: rest, locked := none }) _
  jvm_step X.here [X.here.top, hx, hd, hm', hret, hn]
  first | (intro acts; rw [hl _ acts rfl rfl rfl]) | rw [hl _ _ rfl rfl rfl]
  exact Steps.refl _
end New
end Jvm.RoadKit
namespace Jvm.Pilot.@@N@@
open Jvm Jvm.ClassFile Sem Op Lib Jvm.Free Jvm.Stand Jvm.LawKit Jvm.RoadKit Bundle Jvm.Pilot.@@N@@.Jvm.D

def own_tab : List Int64 := [0, 1, 1, 2, 3, 5, 8, 13, 21, 34, 55, 89, 144, 233, 377, 610, 987, 1597, 2584, 4181, 6765, 10946, 17711, 28657, 46368, 75025, 121393, 196418, 317811, 514229, 832040, 1346269, 2178309, 3524578, 5702887, 9227465, 14930352, 24157817, 39088169, 63245986, 102334155, 165580141, 267914296, 433494437, 701408733, 1134903170, 1836311903, 2971215073, 4807526976, 7778742049, 12586269025, 20365011074, 32951280099, 53316291173, 86267571272, 139583862445, 225851433717, 365435296162, 591286729879, 956722026041, 1548008755920, 2504730781961, 4052739537881, 6557470319842, 10610209857723, 17167680177565, 27777890035288, 44945570212853, 72723460248141, 117669030460994, 190392490709135, 308061521170129, 498454011879264, 806515533049393, 1304969544928657, 2111485077978050, 3416454622906707, 5527939700884757, 8944394323791464, 14472334024676221, 23416728348467685, 37889062373143906, 61305790721611591, 99194853094755497, 160500643816367088, 259695496911122585, 420196140727489673, 679891637638612258, 1100087778366101931, 1779979416004714189, 2880067194370816120, 4660046610375530309, 7540113804746346429]
def own_f (n : Nat) : Int64 := own_tab.getD n 0
theorem own_fib0 : ∀ i : Fin 91, own_f i.val + own_f (i.val + 1) = own_f (i.val + 1 + 1) := by decide +kernel
theorem own_fib {i : Nat} (h : i ≤ 90) : own_f i + own_f (i + 1) = own_f (i + 1 + 1) := own_fib0 ⟨i, by omega⟩
theorem own_small : ∀ i : Fin 91, 0 ≤ (own_f i.val).toInt ∧ (own_f i.val).toInt ≤ 2880067194370816120 := by decide +kernel
theorem own_f0 : (own_f 0).toInt = 0 := by decide +kernel
theorem own_f91 : (own_f 91).toInt = 4660046610375530309 := by decide +kernel
theorem own_one (i : Nat) : Int32.ofNat i + (1 : Int32) = Int32.ofNat (i + 1) := (Int32.ofNat_add i 1).symm
def own_max (a b : Int64) : Int64 := if a < b then b else a
theorem own_maxY {a b : Int64} (h : a < b) : own_max a b = b := if_pos h
theorem own_maxN {a b : Int64} (h : ¬ a < b) : own_max a b = a := if_neg h
theorem own_A (q : Int64) : ¬ ((q &&& (4611686018427387903 : Int64)) < own_f 0) ∧ (q &&& (4611686018427387903 : Int64)) < own_f 91 := by
  have h := c_maskL q 4611686018427387903 62 (by decide) (by decide)
  have e0 := own_f0
  have e1 := own_f91
  rw [show ((2 ^ 62 : Nat) : Int) = 4611686018427387904 from rfl] at h
  simp only [Int64.lt_iff_toInt_lt]
  omega
theorem own_off (p : Int32) : -1 ≤ ((((p >>> ((1 : Int32) &&& 31)) &&& (3 : Int32)) - (1 : Int32)).toInt64).toInt ∧ ((((p >>> ((1 : Int32) &&& 31)) &&& (3 : Int32)) - (1 : Int32)).toInt64).toInt ≤ 2 := by
  rw [c_i2l]
  have h1 := c_mask (p >>> ((1 : Int32) &&& 31)) 3 2 (by decide) (by decide)
  rw [show ((2 ^ 2 : Nat) : Int) = 4 from rfl] at h1
  have h2 := c_isub ((p >>> ((1 : Int32) &&& 31)) &&& 3) 1
  rw [show (1 : Int32).toInt = 1 from rfl] at h2
  have h3 := (((p >>> ((1 : Int32) &&& 31)) &&& (3 : Int32)) - (1 : Int32)).le_toInt
  have h4 := (((p >>> ((1 : Int32) &&& 31)) &&& (3 : Int32)) - (1 : Int32)).toInt_lt
  omega
theorem own_B (n : Nat) (hn : n ≤ 90) (o : Int64) (h1 : -1 ≤ o.toInt) (h2 : o.toInt ≤ 2) : ¬ (own_max (0 : Int64) (own_f n + o) < own_f 0) ∧ own_max (0 : Int64) (own_f n + o) < own_f 91 := by
  have s := own_small ⟨n, by omega⟩
  have c := c_ladd (own_f n) o
  have b1 := (own_f n + o).le_toInt
  have b2 := (own_f n + o).toInt_lt
  have e0 := own_f0
  have e1 := own_f91
  have e2 : (0 : Int64).toInt = 0 := rfl
  dsimp only at s
  by_cases q : (0 : Int64) < own_f n + o
  · rw [own_maxY q]
    simp only [Int64.lt_iff_toInt_lt] at q ⊢
    omega
  · rw [own_maxN q]
    simp only [Int64.lt_iff_toInt_lt] at q ⊢
    omega
theorem own_ofN (z : Int32) (N : Nat) (hN : N < 2 ^ 31) (h1 : 0 ≤ z.toInt) (h2 : z.toInt ≤ N) : ∃ n : Nat, n ≤ N ∧ z = Int32.ofNat n := by
  refine ⟨z.toInt.toNat, by omega, ?_⟩
  apply Int32.toInt_inj.mp
  rw [Int32.toInt_ofNat_of_lt (by omega)]
  omega
theorem own_idx (p : Int32) : ∃ n : Nat, n ≤ 90 ∧ ((p &&& (2147483647 : Int32)) % (91 : Int32)) = Int32.ofNat n := by
  have h1 := c_mask p 2147483647 31 (by decide) (by decide)
  rw [show ((2 ^ 31 : Nat) : Int) = 2147483648 from rfl] at h1
  have h2 := (c_irem (p &&& 2147483647) 91 91 (by decide)).1 (by rw [h1]; omega)
  exact own_ofN _ 90 (by decide) (by rw [h2]; omega) (by rw [h2]; omega)
theorem own_nn {n : Nat} (h : n ≤ 90) : ¬ Int32.ofNat n < (0 : Int32) := by
  rw [Int32.lt_iff_toInt_lt, Int32.toInt_ofNat_of_lt (by omega), show (0 : Int32).toInt = 0 from rfl]
  omega
theorem own_le {n : Nat} (h : n ≤ 90) : ¬ (91 : Int32) < Int32.ofNat n := by
  rw [Int32.lt_iff_toInt_lt, Int32.toInt_ofNat_of_lt (by omega), show (91 : Int32).toInt = 91 from rfl]
  omega
def own_Fil (Z : State) (h : Heap) (t : Addr) (i : Nat) : Prop := ∃ cl : Cell, Arr Z h t cl .long ∧ cl.slots.size = 93 ∧ ∀ j, j < i → cl.slots[j]? = some (.long (own_f j))
theorem own_put {p : Program} {l : Launch} {e : Env} {R : Room} {s : State} {m : MethodId} {args : Array Value} {below : List Frame} {meth : Method} {c : Code} {T : State} {locs : List Loc} {cells slots : Nat} {Z : State} {h : Heap}
    (X : Stand p l e R s m args below meth c T locs cells slots) (hx : p.tables.exec = Jvm.exec) (hZ : Z.Warmed39 s.vm) (eT : T.heap = h) {n0 : Nat} (N : Fr n0 locs) {t : Addr} (gt : n0 ≤ t) (i : Nat) (hi : i < 93) (F : own_Fil Z h t i) {j : Int32} (hj0 : ¬ j < 0) (hj : j.toNatClampNeg = i) {x : Int64} (hv : x = own_f i)
    {g : JFrame} (hg : g.method = m) {rest : List Value} (hs : g.stack = .long x :: .int j :: .ref t :: rest) (hd : decode c.code g.pc = .ok (.lastore, 1)) :
    ∃ T' h' L', Stand p l e R s m args below meth c T' L' cells slots ∧ T'.heap = h' ∧ Fr n0 L' ∧ own_Fil Z h' t (i + 1) ∧ h'.size = h.size ∧ ∀ target, Steps p.tables e below (T'.setTop { g with pc := g.pc + 1, stack := rest }) target → Steps p.tables e below (T.setTop g) target := by
  obtain ⟨cl, Ar, S, H⟩ := F
  have hin : ¬ (j < 0 ∨ cl.slots.size ≤ j.toNatClampNeg) := by
    rw [S, hj]
    intro q
    rcases q with q | q
    · exact hj0 q
    · omega
  obtain ⟨T', h', X', e', W, st⟩ := stJ X hx hZ eT Ar (j := j) hin hg hs hd
  refine ⟨T', h', _, X', e', Fr.snoc X' N gt, ⟨_, Ar.same W, by rw [sz_set]; exact S, ?_⟩, W.size, st⟩
  intro k hk
  rw [hj]
  show (cl.slots.setIfInBounds i (.long x))[k]? = some (.long (own_f k))
  by_cases q : k = i
  · subst q
    rw [hv]
    simp [S, hi]
  · rw [Array.getElem?_setIfInBounds_ne (Ne.symm q)]
    exact H k (by omega)
theorem d1_0 : decode jdk_29_method_66_code 0 = .ok (.lload_n 0, 1) := by decide +kernel
theorem d1_1 : decode jdk_29_method_66_code 1 = .ok (.lload_n 2, 1) := by decide +kernel
theorem d1_2 : decode jdk_29_method_66_code 2 = .ok (.lcmp, 1) := by decide +kernel
theorem d1_3 : decode jdk_29_method_66_code 3 = .ok (.ifCond .lt 7, 3) := by decide +kernel
theorem d1_6 : decode jdk_29_method_66_code 6 = .ok (.lload_n 0, 1) := by decide +kernel
theorem d1_7 : decode jdk_29_method_66_code 7 = .ok (.goto 4, 3) := by decide +kernel
theorem d1_10 : decode jdk_29_method_66_code 10 = .ok (.lload_n 2, 1) := by decide +kernel
theorem d1_11 : decode jdk_29_method_66_code 11 = .ok (.lreturn, 1) := by decide +kernel
theorem ef_1 (m : MethodId) (x0 : Int64) (x1 : Int64) : entryFrame m #[(.long x0), (.long x1)] 4 = mkF m 0 #[.val (.long x0), .second, .val (.long x1), .second] [] := by first | (simp [entryFrame, mkF, argsToLocals, Value.category]; done) | rfl
def Q1 (Z : State) (q1 : Int64) (q2 : Int64) (h0 : Heap) (n0 : Nat) (v : Option Value) (h : Heap) (L : List Loc) : Prop := v = some (.long (own_max q1 q2)) ∧ Fr n0 L ∧ h = h0
set_option maxRecDepth 65536 in
set_option maxHeartbeats 40000000 in
theorem rm1 (l : Launch) (Z : State) (a0 : Array Value) (hw : ∀ d ∈ tables_1, d.before a0 Z = true) (ws : List Jvm.Cond) (q1 : Int64) (q2 : Int64) (h0 : Heap) (n0 : Nat) (Z0 : n0 ≤ h0.size) :
    MetFree l (⟨"java/lang/Math", "max", "(JJ)J"⟩ : MethodName) (head1 (Jvm.Cond.code (⟨"java/lang/Math", "max", "(JJ)J"⟩ : MethodName) jdk_29_method_66_code 4 (some .long) :: ws) ({ frames := 0, cells := 0, slots := 0, locals := 0 } : Room)) (fun a U => a = #[(.long q1), (.long q2)] ∧ Z.Warmed39 U.vm ∧ U.heap = h0) (fun _ _ _ _ _ => True) (fun _ U o U' => ∃ v L, o = .returned v ∧ Q1 Z q1 q2 h0 n0 v U'.heap L ∧ FrameEnd U o U' L ({ frames := 0, cells := 0, slots := 0, locals := 0 } : Room).cells ({ frames := 0, cells := 0, slots := 0, locals := 0 } : Room).slots) := by
  refine MetFree.of_bodySF (Jvm.Free.JP.mathPlain rfl (by decide +kernel)) hisR ?_
  intro p e s m args below meth c s₁ Bd hml0 hP hK
  obtain ⟨rfl, hZ, hh⟩ := hP
  have hx := Bd.exec
  have hby := Bd.bytes
  have hml : c.maxLocals = 4 := hml0
  have hown : s.vm.findClass "java/lang/Math" = some m.cls := findClass_of_methodNamed Bd.named
  have hnm := (name_of_methodNamed Bd.named Bd.method).1
  have X0 : Stand p l e ({ frames := 0, cells := 0, slots := 0, locals := 0 } : Room) s m #[(.long q1), (.long q2)] below meth c s₁ [] 0 0 := Stand.of_body Bd
  have e0 : s₁.heap = h0 := by rw [← hh, Bd.state]; rfl
  have N0 := Fr.nil n0
  have pre0 : ∀ t, Steps p.tables e below (s₁.setTop (mkF m 0 #[.val (.long q1), .second, .val (.long q2), .second] [])) t → Steps p.tables e below (s₁.setTop (entryFrame m #[(.long q1), (.long q2)] 4)) t := fun t k => castTop (ef_1 m q1 q2) k
  by_cases hc3 : q1 < q2
  · obtain ⟨fs, hr, hrun, hended, hW, hsame⟩ := X0.leave (v := some (.long q2)) (fun h => by rw [Bd.returns] at h; cases h)
    refine ⟨_, _, pre0 _ ?_, hrun, hended, _, _, rfl, ?_, ⟨_, rfl⟩, hW, hsame.mono (by decide) (by decide)⟩
    · show Steps p.tables e below (s₁.setTop (mkF m 0 #[.val (.long q1), .second, .val (.long q2), .second] [])) _
      refine XS.lloadN X0.here hx rfl (hb hby d1_0) rfl ?_
      show Steps p.tables e below (s₁.setTop (mkF m 1 #[.val (.long q1), .second, .val (.long q2), .second] [(.long q1)])) _
      refine XS.lloadN X0.here hx rfl (hb hby d1_1) rfl ?_
      show Steps p.tables e below (s₁.setTop (mkF m 2 #[.val (.long q1), .second, .val (.long q2), .second] [(.long q2), (.long q1)])) _
      refine XS.lcmp X0.here hx rfl (hb hby d1_2) rfl ?_
      show Steps p.tables e below (s₁.setTop (mkF m 3 #[.val (.long q1), .second, .val (.long q2), .second] [(.int (lcmpW q1 q2))])) _
      refine XS.ifYes X0.here hx rfl (pc0 := 3) (pc' := 10) rfl (hb hby d1_3) rfl ((if0 _ _).trans (tlt ((lw_lt _ _).mpr hc3)).1) (by decide) (by decide) ?_
      show Steps p.tables e below (s₁.setTop (mkF m 10 #[.val (.long q1), .second, .val (.long q2), .second] [])) _
      refine XS.lloadN X0.here hx rfl (hb hby d1_10) rfl ?_
      show Steps p.tables e below (s₁.setTop (mkF m 11 #[.val (.long q1), .second, .val (.long q2), .second] [(.long q2)])) _
      jvm_step X0.here [X0.here.top, hx, (hb hby d1_11), X0.method', Bd.returns, narrow]
      first | (intro acts; rw [hr _ acts rfl rfl rfl]) | rw [hr _ _ rfl rfl rfl]
      exact Steps.refl _
    · show Q1 Z q1 q2 h0 n0 _ s₁.heap _
      rw [e0]
      exact ⟨by rw [own_maxY hc3], N0, rfl⟩
  · obtain ⟨fs, hr, hrun, hended, hW, hsame⟩ := X0.leave (v := some (.long q1)) (fun h => by rw [Bd.returns] at h; cases h)
    refine ⟨_, _, pre0 _ ?_, hrun, hended, _, _, rfl, ?_, ⟨_, rfl⟩, hW, hsame.mono (by decide) (by decide)⟩
    · show Steps p.tables e below (s₁.setTop (mkF m 0 #[.val (.long q1), .second, .val (.long q2), .second] [])) _
      refine XS.lloadN X0.here hx rfl (hb hby d1_0) rfl ?_
      show Steps p.tables e below (s₁.setTop (mkF m 1 #[.val (.long q1), .second, .val (.long q2), .second] [(.long q1)])) _
      refine XS.lloadN X0.here hx rfl (hb hby d1_1) rfl ?_
      show Steps p.tables e below (s₁.setTop (mkF m 2 #[.val (.long q1), .second, .val (.long q2), .second] [(.long q2), (.long q1)])) _
      refine XS.lcmp X0.here hx rfl (hb hby d1_2) rfl ?_
      show Steps p.tables e below (s₁.setTop (mkF m 3 #[.val (.long q1), .second, .val (.long q2), .second] [(.int (lcmpW q1 q2))])) _
      refine XS.ifNo X0.here hx rfl (hb hby d1_3) rfl ((if0 _ _).trans (flt (fun q => hc3 ((lw_lt _ _).mp q))).1) ?_
      show Steps p.tables e below (s₁.setTop (mkF m 6 #[.val (.long q1), .second, .val (.long q2), .second] [])) _
      refine XS.lloadN X0.here hx rfl (hb hby d1_6) rfl ?_
      show Steps p.tables e below (s₁.setTop (mkF m 7 #[.val (.long q1), .second, .val (.long q2), .second] [(.long q1)])) _
      refine XS.goto X0.here hx rfl (pc0 := 7) (pc' := 11) rfl (hb hby d1_7) (by decide) (by decide) ?_
      show Steps p.tables e below (s₁.setTop (mkF m 11 #[.val (.long q1), .second, .val (.long q2), .second] [(.long q1)])) _
      jvm_step X0.here [X0.here.top, hx, (hb hby d1_11), X0.method', Bd.returns, narrow]
      first | (intro acts; rw [hr _ acts rfl rfl rfl]) | rw [hr _ _ rfl rfl rfl]
      exact Steps.refl _
    · show Q1 Z q1 q2 h0 n0 _ s₁.heap _
      rw [e0]
      exact ⟨by rw [own_maxN hc3], N0, rfl⟩
theorem d2_7 : decode prog_13_method_2_code 7 = .ok (.lload 5, 2) := by decide +kernel
theorem d2_9 : decode prog_13_method_2_code 9 = .ok (.lload_n 0, 1) := by decide +kernel
theorem d2_10 : decode prog_13_method_2_code 10 = .ok (.lcmp, 1) := by decide +kernel
theorem d2_11 : decode prog_13_method_2_code 11 = .ok (.ifCond .gt 22, 3) := by decide +kernel
theorem d2_14 : decode prog_13_method_2_code 14 = .ok (.iinc 2 1, 3) := by decide +kernel
theorem d2_17 : decode prog_13_method_2_code 17 = .ok (.lload_n 3, 1) := by decide +kernel
theorem d2_18 : decode prog_13_method_2_code 18 = .ok (.lload 5, 2) := by decide +kernel
theorem d2_20 : decode prog_13_method_2_code 20 = .ok (.ladd, 1) := by decide +kernel
theorem d2_21 : decode prog_13_method_2_code 21 = .ok (.lstore 7, 2) := by decide +kernel
theorem d2_23 : decode prog_13_method_2_code 23 = .ok (.lload 5, 2) := by decide +kernel
theorem d2_25 : decode prog_13_method_2_code 25 = .ok (.lstore_n 3, 1) := by decide +kernel
theorem d2_26 : decode prog_13_method_2_code 26 = .ok (.lload 7, 2) := by decide +kernel
theorem d2_28 : decode prog_13_method_2_code 28 = .ok (.lstore 5, 2) := by decide +kernel
theorem d2_30 : decode prog_13_method_2_code 30 = .ok (.goto (-23), 3) := by decide +kernel
set_option maxRecDepth 65536 in
set_option maxHeartbeats 40000000 in
theorem own_turnU {p : Program} {l : Launch} {e : Env} {R : Room} {s : State} {m : MethodId} {args : Array Value} {below : List Frame} {meth : Method} {c : Code} {T0 : State} {locs : List Loc} {cells slots : Nat} (X0 : Stand p l e R s m args below meth c T0 locs cells slots) (hx : p.tables.exec = Jvm.exec) (hby : c.code = prog_13_method_2_code) (q1 : Int64) (d : Int32) (a b : Int64) (hc : ¬ (q1 < b)) : ∀ target, Steps p.tables e below (T0.setTop (mkF m 7 #[.val (.long q1), .second, .val (.int (d + (1 : Int32))), .val (.long b), .second, .val (.long (a + b)), .second, .val (.long (a + b)), .second] [])) target → Steps p.tables e below (T0.setTop (mkF m 7 #[.val (.long q1), .second, .val (.int d), .val (.long a), .second, .val (.long b), .second, .unset, .unset] [])) target := by
  intro target kt
  show Steps p.tables e below (T0.setTop (mkF m 7 #[.val (.long q1), .second, .val (.int d), .val (.long a), .second, .val (.long b), .second, .unset, .unset] [])) _
  refine XS.lload X0.here hx rfl (hb hby d2_7) rfl ?_
  show Steps p.tables e below (T0.setTop (mkF m 9 #[.val (.long q1), .second, .val (.int d), .val (.long a), .second, .val (.long b), .second, .unset, .unset] [(.long b)])) _
  refine XS.lloadN X0.here hx rfl (hb hby d2_9) rfl ?_
  show Steps p.tables e below (T0.setTop (mkF m 10 #[.val (.long q1), .second, .val (.int d), .val (.long a), .second, .val (.long b), .second, .unset, .unset] [(.long q1), (.long b)])) _
  refine XS.lcmp X0.here hx rfl (hb hby d2_10) rfl ?_
  show Steps p.tables e below (T0.setTop (mkF m 11 #[.val (.long q1), .second, .val (.int d), .val (.long a), .second, .val (.long b), .second, .unset, .unset] [(.int (lcmpW b q1))])) _
  refine XS.ifNo X0.here hx rfl (hb hby d2_11) rfl ((if0 _ _).trans (flt (fun q => hc ((lw_gt _ _).mp q))).2.2.1) ?_
  show Steps p.tables e below (T0.setTop (mkF m 14 #[.val (.long q1), .second, .val (.int d), .val (.long a), .second, .val (.long b), .second, .unset, .unset] [])) _
  refine XS.iinc X0.here hx rfl (hb hby d2_14) rfl (l' := #[.val (.long q1), .second, .val (.int (d + (1 : Int32))), .val (.long a), .second, .val (.long b), .second, .unset, .unset]) rfl ?_
  show Steps p.tables e below (T0.setTop (mkF m 17 #[.val (.long q1), .second, .val (.int (d + (1 : Int32))), .val (.long a), .second, .val (.long b), .second, .unset, .unset] [])) _
  refine XS.lloadN X0.here hx rfl (hb hby d2_17) rfl ?_
  show Steps p.tables e below (T0.setTop (mkF m 18 #[.val (.long q1), .second, .val (.int (d + (1 : Int32))), .val (.long a), .second, .val (.long b), .second, .unset, .unset] [(.long a)])) _
  refine XS.lload X0.here hx rfl (hb hby d2_18) rfl ?_
  show Steps p.tables e below (T0.setTop (mkF m 20 #[.val (.long q1), .second, .val (.int (d + (1 : Int32))), .val (.long a), .second, .val (.long b), .second, .unset, .unset] [(.long b), (.long a)])) _
  refine XS.ladd X0.here hx rfl (hb hby d2_20) rfl ?_
  show Steps p.tables e below (T0.setTop (mkF m 21 #[.val (.long q1), .second, .val (.int (d + (1 : Int32))), .val (.long a), .second, .val (.long b), .second, .unset, .unset] [(.long (a + b))])) _
  refine XS.lstore X0.here hx rfl (hb hby d2_21) rfl (l' := #[.val (.long q1), .second, .val (.int (d + (1 : Int32))), .val (.long a), .second, .val (.long b), .second, .val (.long (a + b)), .second]) rfl ?_
  show Steps p.tables e below (T0.setTop (mkF m 23 #[.val (.long q1), .second, .val (.int (d + (1 : Int32))), .val (.long a), .second, .val (.long b), .second, .val (.long (a + b)), .second] [])) _
  refine XS.lload X0.here hx rfl (hb hby d2_23) rfl ?_
  show Steps p.tables e below (T0.setTop (mkF m 25 #[.val (.long q1), .second, .val (.int (d + (1 : Int32))), .val (.long a), .second, .val (.long b), .second, .val (.long (a + b)), .second] [(.long b)])) _
  refine XS.lstoreN X0.here hx rfl (hb hby d2_25) rfl (l' := #[.val (.long q1), .second, .val (.int (d + (1 : Int32))), .val (.long b), .second, .val (.long b), .second, .val (.long (a + b)), .second]) rfl ?_
  show Steps p.tables e below (T0.setTop (mkF m 26 #[.val (.long q1), .second, .val (.int (d + (1 : Int32))), .val (.long b), .second, .val (.long b), .second, .val (.long (a + b)), .second] [])) _
  refine XS.lload X0.here hx rfl (hb hby d2_26) rfl ?_
  show Steps p.tables e below (T0.setTop (mkF m 28 #[.val (.long q1), .second, .val (.int (d + (1 : Int32))), .val (.long b), .second, .val (.long b), .second, .val (.long (a + b)), .second] [(.long (a + b))])) _
  refine XS.lstore X0.here hx rfl (hb hby d2_28) rfl (l' := #[.val (.long q1), .second, .val (.int (d + (1 : Int32))), .val (.long b), .second, .val (.long (a + b)), .second, .val (.long (a + b)), .second]) rfl ?_
  show Steps p.tables e below (T0.setTop (mkF m 30 #[.val (.long q1), .second, .val (.int (d + (1 : Int32))), .val (.long b), .second, .val (.long (a + b)), .second, .val (.long (a + b)), .second] [])) _
  refine XS.goto X0.here hx rfl (pc0 := 30) (pc' := 7) rfl (hb hby d2_30) (by decide) (by decide) ?_
  exact kt
set_option maxRecDepth 65536 in
set_option maxHeartbeats 40000000 in
theorem own_turnV {p : Program} {l : Launch} {e : Env} {R : Room} {s : State} {m : MethodId} {args : Array Value} {below : List Frame} {meth : Method} {c : Code} {T0 : State} {locs : List Loc} {cells slots : Nat} (X0 : Stand p l e R s m args below meth c T0 locs cells slots) (hx : p.tables.exec = Jvm.exec) (hby : c.code = prog_13_method_2_code) (q1 : Int64) (d : Int32) (a b : Int64) (z : Int64) (hc : ¬ (q1 < b)) : ∀ target, Steps p.tables e below (T0.setTop (mkF m 7 #[.val (.long q1), .second, .val (.int (d + (1 : Int32))), .val (.long b), .second, .val (.long (a + b)), .second, .val (.long (a + b)), .second] [])) target → Steps p.tables e below (T0.setTop (mkF m 7 #[.val (.long q1), .second, .val (.int d), .val (.long a), .second, .val (.long b), .second, .val (.long z), .second] [])) target := by
  intro target kt
  show Steps p.tables e below (T0.setTop (mkF m 7 #[.val (.long q1), .second, .val (.int d), .val (.long a), .second, .val (.long b), .second, .val (.long z), .second] [])) _
  refine XS.lload X0.here hx rfl (hb hby d2_7) rfl ?_
  show Steps p.tables e below (T0.setTop (mkF m 9 #[.val (.long q1), .second, .val (.int d), .val (.long a), .second, .val (.long b), .second, .val (.long z), .second] [(.long b)])) _
  refine XS.lloadN X0.here hx rfl (hb hby d2_9) rfl ?_
  show Steps p.tables e below (T0.setTop (mkF m 10 #[.val (.long q1), .second, .val (.int d), .val (.long a), .second, .val (.long b), .second, .val (.long z), .second] [(.long q1), (.long b)])) _
  refine XS.lcmp X0.here hx rfl (hb hby d2_10) rfl ?_
  show Steps p.tables e below (T0.setTop (mkF m 11 #[.val (.long q1), .second, .val (.int d), .val (.long a), .second, .val (.long b), .second, .val (.long z), .second] [(.int (lcmpW b q1))])) _
  refine XS.ifNo X0.here hx rfl (hb hby d2_11) rfl ((if0 _ _).trans (flt (fun q => hc ((lw_gt _ _).mp q))).2.2.1) ?_
  show Steps p.tables e below (T0.setTop (mkF m 14 #[.val (.long q1), .second, .val (.int d), .val (.long a), .second, .val (.long b), .second, .val (.long z), .second] [])) _
  refine XS.iinc X0.here hx rfl (hb hby d2_14) rfl (l' := #[.val (.long q1), .second, .val (.int (d + (1 : Int32))), .val (.long a), .second, .val (.long b), .second, .val (.long z), .second]) rfl ?_
  show Steps p.tables e below (T0.setTop (mkF m 17 #[.val (.long q1), .second, .val (.int (d + (1 : Int32))), .val (.long a), .second, .val (.long b), .second, .val (.long z), .second] [])) _
  refine XS.lloadN X0.here hx rfl (hb hby d2_17) rfl ?_
  show Steps p.tables e below (T0.setTop (mkF m 18 #[.val (.long q1), .second, .val (.int (d + (1 : Int32))), .val (.long a), .second, .val (.long b), .second, .val (.long z), .second] [(.long a)])) _
  refine XS.lload X0.here hx rfl (hb hby d2_18) rfl ?_
  show Steps p.tables e below (T0.setTop (mkF m 20 #[.val (.long q1), .second, .val (.int (d + (1 : Int32))), .val (.long a), .second, .val (.long b), .second, .val (.long z), .second] [(.long b), (.long a)])) _
  refine XS.ladd X0.here hx rfl (hb hby d2_20) rfl ?_
  show Steps p.tables e below (T0.setTop (mkF m 21 #[.val (.long q1), .second, .val (.int (d + (1 : Int32))), .val (.long a), .second, .val (.long b), .second, .val (.long z), .second] [(.long (a + b))])) _
  refine XS.lstore X0.here hx rfl (hb hby d2_21) rfl (l' := #[.val (.long q1), .second, .val (.int (d + (1 : Int32))), .val (.long a), .second, .val (.long b), .second, .val (.long (a + b)), .second]) rfl ?_
  show Steps p.tables e below (T0.setTop (mkF m 23 #[.val (.long q1), .second, .val (.int (d + (1 : Int32))), .val (.long a), .second, .val (.long b), .second, .val (.long (a + b)), .second] [])) _
  refine XS.lload X0.here hx rfl (hb hby d2_23) rfl ?_
  show Steps p.tables e below (T0.setTop (mkF m 25 #[.val (.long q1), .second, .val (.int (d + (1 : Int32))), .val (.long a), .second, .val (.long b), .second, .val (.long (a + b)), .second] [(.long b)])) _
  refine XS.lstoreN X0.here hx rfl (hb hby d2_25) rfl (l' := #[.val (.long q1), .second, .val (.int (d + (1 : Int32))), .val (.long b), .second, .val (.long b), .second, .val (.long (a + b)), .second]) rfl ?_
  show Steps p.tables e below (T0.setTop (mkF m 26 #[.val (.long q1), .second, .val (.int (d + (1 : Int32))), .val (.long b), .second, .val (.long b), .second, .val (.long (a + b)), .second] [])) _
  refine XS.lload X0.here hx rfl (hb hby d2_26) rfl ?_
  show Steps p.tables e below (T0.setTop (mkF m 28 #[.val (.long q1), .second, .val (.int (d + (1 : Int32))), .val (.long b), .second, .val (.long b), .second, .val (.long (a + b)), .second] [(.long (a + b))])) _
  refine XS.lstore X0.here hx rfl (hb hby d2_28) rfl (l' := #[.val (.long q1), .second, .val (.int (d + (1 : Int32))), .val (.long b), .second, .val (.long (a + b)), .second, .val (.long (a + b)), .second]) rfl ?_
  show Steps p.tables e below (T0.setTop (mkF m 30 #[.val (.long q1), .second, .val (.int (d + (1 : Int32))), .val (.long b), .second, .val (.long (a + b)), .second, .val (.long (a + b)), .second] [])) _
  refine XS.goto X0.here hx rfl (pc0 := 30) (pc' := 7) rfl (hb hby d2_30) (by decide) (by decide) ?_
  exact kt
set_option maxRecDepth 65536 in
set_option maxHeartbeats 40000000 in
theorem own_leave {p : Program} {l : Launch} {e : Env} {R : Room} {s : State} {m : MethodId} {args : Array Value} {below : List Frame} {meth : Method} {c : Code} {T0 : State} {locs : List Loc} {cells slots : Nat} (X0 : Stand p l e R s m args below meth c T0 locs cells slots) (hx : p.tables.exec = Jvm.exec) (hby : c.code = prog_13_method_2_code) (q1 : Int64) (d : Int32) (a b : Int64) (s7 s8 : Slot) (hc : q1 < b) : ∀ target, Steps p.tables e below (T0.setTop (mkF m 33 #[.val (.long q1), .second, .val (.int d), .val (.long a), .second, .val (.long b), .second, s7, s8] [])) target → Steps p.tables e below (T0.setTop (mkF m 7 #[.val (.long q1), .second, .val (.int d), .val (.long a), .second, .val (.long b), .second, s7, s8] [])) target := by
  intro target kt
  show Steps p.tables e below (T0.setTop (mkF m 7 #[.val (.long q1), .second, .val (.int d), .val (.long a), .second, .val (.long b), .second, s7, s8] [])) _
  refine XS.lload X0.here hx rfl (hb hby d2_7) rfl ?_
  show Steps p.tables e below (T0.setTop (mkF m 9 #[.val (.long q1), .second, .val (.int d), .val (.long a), .second, .val (.long b), .second, s7, s8] [(.long b)])) _
  refine XS.lloadN X0.here hx rfl (hb hby d2_9) rfl ?_
  show Steps p.tables e below (T0.setTop (mkF m 10 #[.val (.long q1), .second, .val (.int d), .val (.long a), .second, .val (.long b), .second, s7, s8] [(.long q1), (.long b)])) _
  refine XS.lcmp X0.here hx rfl (hb hby d2_10) rfl ?_
  show Steps p.tables e below (T0.setTop (mkF m 11 #[.val (.long q1), .second, .val (.int d), .val (.long a), .second, .val (.long b), .second, s7, s8] [(.int (lcmpW b q1))])) _
  refine XS.ifYes X0.here hx rfl (pc0 := 11) (pc' := 33) rfl (hb hby d2_11) rfl ((if0 _ _).trans (tlt ((lw_gt _ _).mpr hc)).2.2.1) (by decide) (by decide) ?_
  exact kt
theorem own_loop {p : Program} {l : Launch} {e : Env} {R : Room} {s : State} {m : MethodId} {args : Array Value} {below : List Frame} {meth : Method} {c : Code} {T0 : State} {locs : List Loc} {cells slots : Nat} (X0 : Stand p l e R s m args below meth c T0 locs cells slots) (hx : p.tables.exec = Jvm.exec) (hby : c.code = prog_13_method_2_code) (w : Int64) (h91 : w < own_f 91) :
    ∀ (k i : Nat) (s7 s8 : Slot), i + k = 90 → ¬ (w < own_f i) → ((s7 = .unset ∧ s8 = .unset) ∨ ∃ z, s7 = .val (.long z) ∧ s8 = .second) →
    ∃ (n : Nat) (s7' s8' : Slot), n ≤ 90 ∧ ¬ (w < own_f n) ∧ w < own_f (n + 1) ∧ ∀ target, Steps p.tables e below (T0.setTop (mkF m 33 #[.val (.long w), .second, .val (.int (Int32.ofNat n)), .val (.long (own_f n)), .second, .val (.long (own_f (n + 1))), .second, s7', s8'] [])) target → Steps p.tables e below (T0.setTop (mkF m 7 #[.val (.long w), .second, .val (.int (Int32.ofNat i)), .val (.long (own_f i)), .second, .val (.long (own_f (i + 1))), .second, s7, s8] [])) target := by
  intro k
  induction k with
  | zero =>
    intro i s7 s8 hi h0 hs
    obtain rfl : i = 90 := by omega
    exact ⟨90, s7, s8, Nat.le_refl _, h0, h91, own_leave X0 hx hby w (Int32.ofNat 90) (own_f 90) (own_f (90 + 1)) s7 s8 h91⟩
  | succ k ih =>
    intro i s7 s8 hi h0 hs
    by_cases hc : w < own_f (i + 1)
    · exact ⟨i, s7, s8, by omega, h0, hc, own_leave X0 hx hby w (Int32.ofNat i) (own_f i) (own_f (i + 1)) s7 s8 hc⟩
    · obtain ⟨n, s7', s8', a, b, c', st⟩ := ih (i + 1) (.val (.long (own_f (i + 1 + 1)))) .second (by omega) hc (Or.inr ⟨_, rfl, rfl⟩)
      refine ⟨n, s7', s8', a, b, c', fun target kt => ?_⟩
      have hst := st target kt
      rcases hs with ⟨rfl, rfl⟩ | ⟨z, rfl, rfl⟩
      · have t := own_turnU X0 hx hby w (Int32.ofNat i) (own_f i) (own_f (i + 1)) hc target
        rw [own_one i, own_fib (show i ≤ 90 by omega)] at t
        exact t hst
      · have t := own_turnV X0 hx hby w (Int32.ofNat i) (own_f i) (own_f (i + 1)) z hc target
        rw [own_one i, own_fib (show i ≤ 90 by omega)] at t
        exact t hst
theorem d2_0 : decode prog_13_method_2_code 0 = .ok (.iconst 0, 1) := by decide +kernel
theorem d2_1 : decode prog_13_method_2_code 1 = .ok (.istore_n 2, 1) := by decide +kernel
theorem d2_2 : decode prog_13_method_2_code 2 = .ok (.lconst 0, 1) := by decide +kernel
theorem d2_3 : decode prog_13_method_2_code 3 = .ok (.lstore_n 3, 1) := by decide +kernel
theorem d2_4 : decode prog_13_method_2_code 4 = .ok (.lconst 1, 1) := by decide +kernel
theorem d2_5 : decode prog_13_method_2_code 5 = .ok (.lstore 5, 2) := by decide +kernel
theorem d2_33 : decode prog_13_method_2_code 33 = .ok (.iload_n 2, 1) := by decide +kernel
theorem d2_34 : decode prog_13_method_2_code 34 = .ok (.ireturn, 1) := by decide +kernel
theorem pn_2 : plainName "com/example/kortkode/kortkode/coder/AdaptiveTree" = true := by first | (simp [plainName, overriddenIn]; done) | decide +kernel
theorem ef_2 (m : MethodId) (x0 : Int64) : entryFrame m #[(.long x0)] 9 = mkF m 0 #[.val (.long x0), .second, .unset, .unset, .unset, .unset, .unset, .unset, .unset] [] := by first | (simp [entryFrame, mkF, argsToLocals, Value.category]; done) | rfl
def Q2 (Z : State) (q1 : Int64) (h0 : Heap) (n0 : Nat) (v : Option Value) (h : Heap) (L : List Loc) : Prop := ∃ n : Nat, v = some (.int (Int32.ofNat n)) ∧ Fr n0 L ∧ h = h0 ∧ n ≤ 90 ∧ ¬ (q1 < own_f n) ∧ q1 < own_f (n + 1)
set_option maxRecDepth 65536 in
set_option maxHeartbeats 40000000 in
theorem rm2 (l : Launch) (Z : State) (a0 : Array Value) (hw : ∀ d ∈ tables_1, d.before a0 Z = true) (ws : List Jvm.Cond) (q1 : Int64) (h0 : Heap) (n0 : Nat) (Z0 : n0 ≤ h0.size) (hlo : ¬ (q1 < own_f 0)) (hhi : q1 < own_f 91) :
    MetFree l (⟨"com/example/kortkode/kortkode/coder/AdaptiveTree", "maxDepth", "(J)I"⟩ : MethodName) (head1 (Jvm.Cond.code (⟨"com/example/kortkode/kortkode/coder/AdaptiveTree", "maxDepth", "(J)I"⟩ : MethodName) prog_13_method_2_code 9 (some .int) :: ws) ({ frames := 0, cells := 0, slots := 0, locals := 0 } : Room)) (fun a U => a = #[(.long q1)] ∧ Z.Warmed39 U.vm ∧ U.heap = h0) (fun _ _ _ _ _ => True) (fun _ U o U' => ∃ v L, o = .returned v ∧ Q2 Z q1 h0 n0 v U'.heap L ∧ FrameEnd U o U' L ({ frames := 0, cells := 0, slots := 0, locals := 0 } : Room).cells ({ frames := 0, cells := 0, slots := 0, locals := 0 } : Room).slots) := by
  refine MetFree.of_bodySF (plainFor_of_name pn_2) hisR ?_
  intro p e s m args below meth c s₁ Bd hml0 hP hK
  obtain ⟨rfl, hZ, hh⟩ := hP
  have hx := Bd.exec
  have hby := Bd.bytes
  have hml : c.maxLocals = 9 := hml0
  have hown : s.vm.findClass "com/example/kortkode/kortkode/coder/AdaptiveTree" = some m.cls := findClass_of_methodNamed Bd.named
  have hnm := (name_of_methodNamed Bd.named Bd.method).1
  have X0 : Stand p l e ({ frames := 0, cells := 0, slots := 0, locals := 0 } : Room) s m #[(.long q1)] below meth c s₁ [] 0 0 := Stand.of_body Bd
  have e0 : s₁.heap = h0 := by rw [← hh, Bd.state]; rfl
  have N0 := Fr.nil n0
  have pre0 : ∀ t, Steps p.tables e below (s₁.setTop (mkF m 0 #[.val (.long q1), .second, .unset, .unset, .unset, .unset, .unset, .unset, .unset] [])) t → Steps p.tables e below (s₁.setTop (entryFrame m #[(.long q1)] 9)) t := fun t k => castTop (ef_2 m q1) k
  obtain ⟨nd, s7, s8, hn1, hn2, hn3, stL⟩ := own_loop X0 hx hby q1 hhi 90 0 .unset .unset rfl hlo (Or.inl ⟨rfl, rfl⟩)
  obtain ⟨fs, hr, hrun, hended, hW, hsame⟩ := X0.leave (v := some (.int (Int32.ofNat nd))) (fun h => by rw [Bd.returns] at h; cases h)
  refine ⟨_, _, pre0 _ ?_, hrun, hended, _, _, rfl, ?_, ⟨_, rfl⟩, hW, hsame.mono (by decide) (by decide)⟩
  · show Steps p.tables e below (s₁.setTop (mkF m 0 #[.val (.long q1), .second, .unset, .unset, .unset, .unset, .unset, .unset, .unset] [])) _
    refine XS.iconst X0.here hx rfl (hb hby d2_0) ?_
    show Steps p.tables e below (s₁.setTop (mkF m 1 #[.val (.long q1), .second, .unset, .unset, .unset, .unset, .unset, .unset, .unset] [(.int (0 : Int32))])) _
    refine XS.istoreN X0.here hx rfl (hb hby d2_1) rfl (l' := #[.val (.long q1), .second, .val (.int (0 : Int32)), .unset, .unset, .unset, .unset, .unset, .unset]) rfl ?_
    show Steps p.tables e below (s₁.setTop (mkF m 2 #[.val (.long q1), .second, .val (.int (0 : Int32)), .unset, .unset, .unset, .unset, .unset, .unset] [])) _
    refine XS.lconst X0.here hx rfl (hb hby d2_2) ?_
    show Steps p.tables e below (s₁.setTop (mkF m 3 #[.val (.long q1), .second, .val (.int (0 : Int32)), .unset, .unset, .unset, .unset, .unset, .unset] [(.long (0 : Int64))])) _
    refine XS.lstoreN X0.here hx rfl (hb hby d2_3) rfl (l' := #[.val (.long q1), .second, .val (.int (0 : Int32)), .val (.long (0 : Int64)), .second, .unset, .unset, .unset, .unset]) rfl ?_
    show Steps p.tables e below (s₁.setTop (mkF m 4 #[.val (.long q1), .second, .val (.int (0 : Int32)), .val (.long (0 : Int64)), .second, .unset, .unset, .unset, .unset] [])) _
    refine XS.lconst X0.here hx rfl (hb hby d2_4) ?_
    show Steps p.tables e below (s₁.setTop (mkF m 5 #[.val (.long q1), .second, .val (.int (0 : Int32)), .val (.long (0 : Int64)), .second, .unset, .unset, .unset, .unset] [(.long (1 : Int64))])) _
    refine XS.lstore X0.here hx rfl (hb hby d2_5) rfl (l' := #[.val (.long q1), .second, .val (.int (0 : Int32)), .val (.long (0 : Int64)), .second, .val (.long (1 : Int64)), .second, .unset, .unset]) rfl ?_
    show Steps p.tables e below (s₁.setTop (mkF m 7 #[.val (.long q1), .second, .val (.int (Int32.ofNat 0)), .val (.long (own_f 0)), .second, .val (.long (own_f (0 + 1))), .second, .unset, .unset] [])) _
    refine stL _ ?_
    show Steps p.tables e below (s₁.setTop (mkF m 33 #[.val (.long q1), .second, .val (.int (Int32.ofNat nd)), .val (.long (own_f nd)), .second, .val (.long (own_f (nd + 1))), .second, s7, s8] [])) _
    refine XS.iloadN X0.here hx rfl (hb hby d2_33) rfl ?_
    show Steps p.tables e below (s₁.setTop (mkF m 34 #[.val (.long q1), .second, .val (.int (Int32.ofNat nd)), .val (.long (own_f nd)), .second, .val (.long (own_f (nd + 1))), .second, s7, s8] [(.int (Int32.ofNat nd))])) _
    exact retI X0 hx Bd.returns (hb hby d2_34) hr
  · show Q2 Z q1 h0 n0 _ s₁.heap _
    rw [e0]
    exact ⟨nd, rfl, N0, rfl, hn1, hn2, hn3⟩
set_option maxRecDepth 65536 in
set_option maxHeartbeats 40000000 in
theorem own_fill {p : Program} {l : Launch} {e : Env} {s : State} {m : MethodId} {args : Array Value} {below : List Frame} {meth : Method} {c : Code} {T0 : State} {locs : List Loc} {Z : State} {a0 : Array Value} {h0 : Heap} {n0 : Nat} (q1 : Int64) (p1 p2 : Int32) (X0 : Stand p l e room_1 s m args below meth c T0 locs 0 0) (hx : p.tables.exec = Jvm.exec) (hZ : Z.Warmed39 s.vm) (hw : ∀ d ∈ tables_1, d.before a0 Z = true) (hby : c.code = code) (hown : s.vm.findClass "com/example/kortkode/kortkode/coder/AdaptiveTreeMaxDepthPinLaw" = some m.cls) (e0 : T0.heap = h0) (N0 : Fr n0 locs) (Z0 : n0 ≤ h0.size) :
    ∃ (T' : State) (h' : Heap) (L' : List Loc) (t1 : Addr), Stand p l e room_1 s m args below meth c T' L' 1 93 ∧ T'.heap = h' ∧ Fr n0 L' ∧ n0 ≤ h'.size ∧ own_Fil Z h' t1 93 ∧ ∀ target, Steps p.tables e below (T'.setTop (mkF m 645 #[.val (.long q1), .second, .val (.int p1), .val (.int p2), .val (.ref t1), .unset, .unset, .unset, .unset, .unset] [])) target → Steps p.tables e below (T0.setTop (mkF m 0 #[.val (.long q1), .second, .val (.int p1), .val (.int p2), .unset, .unset, .unset, .unset, .unset, .unset] [])) target := by
  obtain ⟨T1, h1, k1, X1, e1, E1, A1, st1⟩ := newP X0 hx hZ (hw _ (List.mem_of_getElem? (i := 0) rfl)) e0 (g := (mkF m 2 #[.val (.long q1), .second, .val (.int p1), .val (.int p2), .unset, .unset, .unset, .unset, .unset, .unset] [(.int (93 : Int32))])) rfl (hb hby at_2) rfl (by decide) (cap := 93) (by decide) (by decide) (by decide) (by decide)
  obtain ⟨t1, g1⟩ : ∃ z, z = h0.size := ⟨_, rfl⟩
  rw [← g1] at A1 st1
  have g_t1 : n0 ≤ t1 := Nat.le_trans Z0 (Nat.le_of_eq g1.symm)
  have Z2 : n0 ≤ h1.size := Nat.le_trans Z0 E1.1
  have f3 : Arv Z h1 t1 k1 .long (93 : Int32) [] (.long (0 : Int64)) := (Arv.new A1 (by decide))
  have Fi0 : own_Fil Z h1 t1 0 := by
    obtain ⟨cl, Ar, -, S, -, -, -⟩ := f3
    exact ⟨cl, Ar, S.trans (by decide), fun j hj => absurd hj (Nat.not_lt_zero j)⟩
  obtain ⟨T4, h4, L4, X4, e4, N4, Fi4, sz4, st4⟩ := own_put X1 hx hZ e1 N0 g_t1 0 (by decide) Fi0 (j := (0 : Int32)) (by decide) (by decide) (x := (0 : Int64)) (by decide +kernel) (g := (mkF m 7 #[.val (.long q1), .second, .val (.int p1), .val (.int p2), .unset, .unset, .unset, .unset, .unset, .unset] [(.long (0 : Int64)), (.int (0 : Int32)), (.ref t1), (.ref t1)])) rfl rfl (hb hby at_7)
  have Z4 : n0 ≤ h4.size := by rw [sz4]; exact Z2
  obtain ⟨T5, h5, L5, X5, e5, N5, Fi5, sz5, st5⟩ := own_put X4 hx hZ e4 N4 g_t1 1 (by decide) Fi4 (j := (1 : Int32)) (by decide) (by decide) (x := (1 : Int64)) (by decide +kernel) (g := (mkF m 11 #[.val (.long q1), .second, .val (.int p1), .val (.int p2), .unset, .unset, .unset, .unset, .unset, .unset] [(.long (1 : Int64)), (.int (1 : Int32)), (.ref t1), (.ref t1)])) rfl rfl (hb hby at_11)
  have Z5 : n0 ≤ h5.size := by rw [sz5]; exact Z4
  obtain ⟨T6, h6, L6, X6, e6, N6, Fi6, sz6, st6⟩ := own_put X5 hx hZ e5 N5 g_t1 2 (by decide) Fi5 (j := (2 : Int32)) (by decide) (by decide) (x := (1 : Int64)) (by decide +kernel) (g := (mkF m 15 #[.val (.long q1), .second, .val (.int p1), .val (.int p2), .unset, .unset, .unset, .unset, .unset, .unset] [(.long (1 : Int64)), (.int (2 : Int32)), (.ref t1), (.ref t1)])) rfl rfl (hb hby at_15)
  have Z6 : n0 ≤ h6.size := by rw [sz6]; exact Z5
  obtain ⟨T7, h7, L7, X7, e7, N7, Fi7, sz7, st7⟩ := own_put X6 hx hZ e6 N6 g_t1 3 (by decide) Fi6 (j := (3 : Int32)) (by decide) (by decide) (x := (2 : Int64)) (by decide +kernel) (g := (mkF m 21 #[.val (.long q1), .second, .val (.int p1), .val (.int p2), .unset, .unset, .unset, .unset, .unset, .unset] [(.long (2 : Int64)), (.int (3 : Int32)), (.ref t1), (.ref t1)])) rfl rfl (hb hby at_21)
  have Z7 : n0 ≤ h7.size := by rw [sz7]; exact Z6
  obtain ⟨T8, h8, L8, X8, e8, N8, Fi8, sz8, st8⟩ := own_put X7 hx hZ e7 N7 g_t1 4 (by decide) Fi7 (j := (4 : Int32)) (by decide) (by decide) (x := (3 : Int64)) (by decide +kernel) (g := (mkF m 27 #[.val (.long q1), .second, .val (.int p1), .val (.int p2), .unset, .unset, .unset, .unset, .unset, .unset] [(.long (3 : Int64)), (.int (4 : Int32)), (.ref t1), (.ref t1)])) rfl rfl (hb hby at_27)
  have Z8 : n0 ≤ h8.size := by rw [sz8]; exact Z7
  obtain ⟨T9, h9, L9, X9, e9, N9, Fi9, sz9, st9⟩ := own_put X8 hx hZ e8 N8 g_t1 5 (by decide) Fi8 (j := (5 : Int32)) (by decide) (by decide) (x := (5 : Int64)) (by decide +kernel) (g := (mkF m 33 #[.val (.long q1), .second, .val (.int p1), .val (.int p2), .unset, .unset, .unset, .unset, .unset, .unset] [(.long (5 : Int64)), (.int (5 : Int32)), (.ref t1), (.ref t1)])) rfl rfl (hb hby at_33)
  have Z9 : n0 ≤ h9.size := by rw [sz9]; exact Z8
  obtain ⟨T10, h10, L10, X10, e10, N10, Fi10, sz10, st10⟩ := own_put X9 hx hZ e9 N9 g_t1 6 (by decide) Fi9 (j := (6 : Int32)) (by decide) (by decide) (x := (8 : Int64)) (by decide +kernel) (g := (mkF m 40 #[.val (.long q1), .second, .val (.int p1), .val (.int p2), .unset, .unset, .unset, .unset, .unset, .unset] [(.long (8 : Int64)), (.int (6 : Int32)), (.ref t1), (.ref t1)])) rfl rfl (hb hby at_40)
  have Z10 : n0 ≤ h10.size := by rw [sz10]; exact Z9
  obtain ⟨T11, h11, L11, X11, e11, N11, Fi11, sz11, st11⟩ := own_put X10 hx hZ e10 N10 g_t1 7 (by decide) Fi10 (j := (7 : Int32)) (by decide) (by decide) (x := (13 : Int64)) (by decide +kernel) (g := (mkF m 47 #[.val (.long q1), .second, .val (.int p1), .val (.int p2), .unset, .unset, .unset, .unset, .unset, .unset] [(.long (13 : Int64)), (.int (7 : Int32)), (.ref t1), (.ref t1)])) rfl rfl (hb hby at_47)
  have Z11 : n0 ≤ h11.size := by rw [sz11]; exact Z10
  obtain ⟨T12, h12, L12, X12, e12, N12, Fi12, sz12, st12⟩ := own_put X11 hx hZ e11 N11 g_t1 8 (by decide) Fi11 (j := (8 : Int32)) (by decide) (by decide) (x := (21 : Int64)) (by decide +kernel) (g := (mkF m 54 #[.val (.long q1), .second, .val (.int p1), .val (.int p2), .unset, .unset, .unset, .unset, .unset, .unset] [(.long (21 : Int64)), (.int (8 : Int32)), (.ref t1), (.ref t1)])) rfl rfl (hb hby at_54)
  have Z12 : n0 ≤ h12.size := by rw [sz12]; exact Z11
  obtain ⟨T13, h13, L13, X13, e13, N13, Fi13, sz13, st13⟩ := own_put X12 hx hZ e12 N12 g_t1 9 (by decide) Fi12 (j := (9 : Int32)) (by decide) (by decide) (x := (34 : Int64)) (by decide +kernel) (g := (mkF m 61 #[.val (.long q1), .second, .val (.int p1), .val (.int p2), .unset, .unset, .unset, .unset, .unset, .unset] [(.long (34 : Int64)), (.int (9 : Int32)), (.ref t1), (.ref t1)])) rfl rfl (hb hby at_61)
  have Z13 : n0 ≤ h13.size := by rw [sz13]; exact Z12
  obtain ⟨T14, h14, L14, X14, e14, N14, Fi14, sz14, st14⟩ := own_put X13 hx hZ e13 N13 g_t1 10 (by decide) Fi13 (j := (10 : Int32)) (by decide) (by decide) (x := (55 : Int64)) (by decide +kernel) (g := (mkF m 68 #[.val (.long q1), .second, .val (.int p1), .val (.int p2), .unset, .unset, .unset, .unset, .unset, .unset] [(.long (55 : Int64)), (.int (10 : Int32)), (.ref t1), (.ref t1)])) rfl rfl (hb hby at_68)
  have Z14 : n0 ≤ h14.size := by rw [sz14]; exact Z13
  obtain ⟨T15, h15, L15, X15, e15, N15, Fi15, sz15, st15⟩ := own_put X14 hx hZ e14 N14 g_t1 11 (by decide) Fi14 (j := (11 : Int32)) (by decide) (by decide) (x := (89 : Int64)) (by decide +kernel) (g := (mkF m 75 #[.val (.long q1), .second, .val (.int p1), .val (.int p2), .unset, .unset, .unset, .unset, .unset, .unset] [(.long (89 : Int64)), (.int (11 : Int32)), (.ref t1), (.ref t1)])) rfl rfl (hb hby at_75)
  have Z15 : n0 ≤ h15.size := by rw [sz15]; exact Z14
  obtain ⟨T16, h16, L16, X16, e16, N16, Fi16, sz16, st16⟩ := own_put X15 hx hZ e15 N15 g_t1 12 (by decide) Fi15 (j := (12 : Int32)) (by decide) (by decide) (x := (144 : Int64)) (by decide +kernel) (g := (mkF m 82 #[.val (.long q1), .second, .val (.int p1), .val (.int p2), .unset, .unset, .unset, .unset, .unset, .unset] [(.long (144 : Int64)), (.int (12 : Int32)), (.ref t1), (.ref t1)])) rfl rfl (hb hby at_82)
  have Z16 : n0 ≤ h16.size := by rw [sz16]; exact Z15
  obtain ⟨T17, h17, L17, X17, e17, N17, Fi17, sz17, st17⟩ := own_put X16 hx hZ e16 N16 g_t1 13 (by decide) Fi16 (j := (13 : Int32)) (by decide) (by decide) (x := (233 : Int64)) (by decide +kernel) (g := (mkF m 89 #[.val (.long q1), .second, .val (.int p1), .val (.int p2), .unset, .unset, .unset, .unset, .unset, .unset] [(.long (233 : Int64)), (.int (13 : Int32)), (.ref t1), (.ref t1)])) rfl rfl (hb hby at_89)
  have Z17 : n0 ≤ h17.size := by rw [sz17]; exact Z16
  obtain ⟨T18, h18, L18, X18, e18, N18, Fi18, sz18, st18⟩ := own_put X17 hx hZ e17 N17 g_t1 14 (by decide) Fi17 (j := (14 : Int32)) (by decide) (by decide) (x := (377 : Int64)) (by decide +kernel) (g := (mkF m 96 #[.val (.long q1), .second, .val (.int p1), .val (.int p2), .unset, .unset, .unset, .unset, .unset, .unset] [(.long (377 : Int64)), (.int (14 : Int32)), (.ref t1), (.ref t1)])) rfl rfl (hb hby at_96)
  have Z18 : n0 ≤ h18.size := by rw [sz18]; exact Z17
  obtain ⟨T19, h19, L19, X19, e19, N19, Fi19, sz19, st19⟩ := own_put X18 hx hZ e18 N18 g_t1 15 (by decide) Fi18 (j := (15 : Int32)) (by decide) (by decide) (x := (610 : Int64)) (by decide +kernel) (g := (mkF m 103 #[.val (.long q1), .second, .val (.int p1), .val (.int p2), .unset, .unset, .unset, .unset, .unset, .unset] [(.long (610 : Int64)), (.int (15 : Int32)), (.ref t1), (.ref t1)])) rfl rfl (hb hby at_103)
  have Z19 : n0 ≤ h19.size := by rw [sz19]; exact Z18
  obtain ⟨T20, h20, L20, X20, e20, N20, Fi20, sz20, st20⟩ := own_put X19 hx hZ e19 N19 g_t1 16 (by decide) Fi19 (j := (16 : Int32)) (by decide) (by decide) (x := (987 : Int64)) (by decide +kernel) (g := (mkF m 110 #[.val (.long q1), .second, .val (.int p1), .val (.int p2), .unset, .unset, .unset, .unset, .unset, .unset] [(.long (987 : Int64)), (.int (16 : Int32)), (.ref t1), (.ref t1)])) rfl rfl (hb hby at_110)
  have Z20 : n0 ≤ h20.size := by rw [sz20]; exact Z19
  obtain ⟨T21, h21, L21, X21, e21, N21, Fi21, sz21, st21⟩ := own_put X20 hx hZ e20 N20 g_t1 17 (by decide) Fi20 (j := (17 : Int32)) (by decide) (by decide) (x := (1597 : Int64)) (by decide +kernel) (g := (mkF m 117 #[.val (.long q1), .second, .val (.int p1), .val (.int p2), .unset, .unset, .unset, .unset, .unset, .unset] [(.long (1597 : Int64)), (.int (17 : Int32)), (.ref t1), (.ref t1)])) rfl rfl (hb hby at_117)
  have Z21 : n0 ≤ h21.size := by rw [sz21]; exact Z20
  obtain ⟨T22, h22, L22, X22, e22, N22, Fi22, sz22, st22⟩ := own_put X21 hx hZ e21 N21 g_t1 18 (by decide) Fi21 (j := (18 : Int32)) (by decide) (by decide) (x := (2584 : Int64)) (by decide +kernel) (g := (mkF m 124 #[.val (.long q1), .second, .val (.int p1), .val (.int p2), .unset, .unset, .unset, .unset, .unset, .unset] [(.long (2584 : Int64)), (.int (18 : Int32)), (.ref t1), (.ref t1)])) rfl rfl (hb hby at_124)
  have Z22 : n0 ≤ h22.size := by rw [sz22]; exact Z21
  obtain ⟨T23, h23, L23, X23, e23, N23, Fi23, sz23, st23⟩ := own_put X22 hx hZ e22 N22 g_t1 19 (by decide) Fi22 (j := (19 : Int32)) (by decide) (by decide) (x := (4181 : Int64)) (by decide +kernel) (g := (mkF m 131 #[.val (.long q1), .second, .val (.int p1), .val (.int p2), .unset, .unset, .unset, .unset, .unset, .unset] [(.long (4181 : Int64)), (.int (19 : Int32)), (.ref t1), (.ref t1)])) rfl rfl (hb hby at_131)
  have Z23 : n0 ≤ h23.size := by rw [sz23]; exact Z22
  obtain ⟨T24, h24, L24, X24, e24, N24, Fi24, sz24, st24⟩ := own_put X23 hx hZ e23 N23 g_t1 20 (by decide) Fi23 (j := (20 : Int32)) (by decide) (by decide) (x := (6765 : Int64)) (by decide +kernel) (g := (mkF m 138 #[.val (.long q1), .second, .val (.int p1), .val (.int p2), .unset, .unset, .unset, .unset, .unset, .unset] [(.long (6765 : Int64)), (.int (20 : Int32)), (.ref t1), (.ref t1)])) rfl rfl (hb hby at_138)
  have Z24 : n0 ≤ h24.size := by rw [sz24]; exact Z23
  obtain ⟨T25, h25, L25, X25, e25, N25, Fi25, sz25, st25⟩ := own_put X24 hx hZ e24 N24 g_t1 21 (by decide) Fi24 (j := (21 : Int32)) (by decide) (by decide) (x := (10946 : Int64)) (by decide +kernel) (g := (mkF m 145 #[.val (.long q1), .second, .val (.int p1), .val (.int p2), .unset, .unset, .unset, .unset, .unset, .unset] [(.long (10946 : Int64)), (.int (21 : Int32)), (.ref t1), (.ref t1)])) rfl rfl (hb hby at_145)
  have Z25 : n0 ≤ h25.size := by rw [sz25]; exact Z24
  obtain ⟨T26, h26, L26, X26, e26, N26, Fi26, sz26, st26⟩ := own_put X25 hx hZ e25 N25 g_t1 22 (by decide) Fi25 (j := (22 : Int32)) (by decide) (by decide) (x := (17711 : Int64)) (by decide +kernel) (g := (mkF m 152 #[.val (.long q1), .second, .val (.int p1), .val (.int p2), .unset, .unset, .unset, .unset, .unset, .unset] [(.long (17711 : Int64)), (.int (22 : Int32)), (.ref t1), (.ref t1)])) rfl rfl (hb hby at_152)
  have Z26 : n0 ≤ h26.size := by rw [sz26]; exact Z25
  obtain ⟨T27, h27, L27, X27, e27, N27, Fi27, sz27, st27⟩ := own_put X26 hx hZ e26 N26 g_t1 23 (by decide) Fi26 (j := (23 : Int32)) (by decide) (by decide) (x := (28657 : Int64)) (by decide +kernel) (g := (mkF m 159 #[.val (.long q1), .second, .val (.int p1), .val (.int p2), .unset, .unset, .unset, .unset, .unset, .unset] [(.long (28657 : Int64)), (.int (23 : Int32)), (.ref t1), (.ref t1)])) rfl rfl (hb hby at_159)
  have Z27 : n0 ≤ h27.size := by rw [sz27]; exact Z26
  obtain ⟨T28, h28, L28, X28, e28, N28, Fi28, sz28, st28⟩ := own_put X27 hx hZ e27 N27 g_t1 24 (by decide) Fi27 (j := (24 : Int32)) (by decide) (by decide) (x := (46368 : Int64)) (by decide +kernel) (g := (mkF m 166 #[.val (.long q1), .second, .val (.int p1), .val (.int p2), .unset, .unset, .unset, .unset, .unset, .unset] [(.long (46368 : Int64)), (.int (24 : Int32)), (.ref t1), (.ref t1)])) rfl rfl (hb hby at_166)
  have Z28 : n0 ≤ h28.size := by rw [sz28]; exact Z27
  obtain ⟨T29, h29, L29, X29, e29, N29, Fi29, sz29, st29⟩ := own_put X28 hx hZ e28 N28 g_t1 25 (by decide) Fi28 (j := (25 : Int32)) (by decide) (by decide) (x := (75025 : Int64)) (by decide +kernel) (g := (mkF m 173 #[.val (.long q1), .second, .val (.int p1), .val (.int p2), .unset, .unset, .unset, .unset, .unset, .unset] [(.long (75025 : Int64)), (.int (25 : Int32)), (.ref t1), (.ref t1)])) rfl rfl (hb hby at_173)
  have Z29 : n0 ≤ h29.size := by rw [sz29]; exact Z28
  obtain ⟨T30, h30, L30, X30, e30, N30, Fi30, sz30, st30⟩ := own_put X29 hx hZ e29 N29 g_t1 26 (by decide) Fi29 (j := (26 : Int32)) (by decide) (by decide) (x := (121393 : Int64)) (by decide +kernel) (g := (mkF m 180 #[.val (.long q1), .second, .val (.int p1), .val (.int p2), .unset, .unset, .unset, .unset, .unset, .unset] [(.long (121393 : Int64)), (.int (26 : Int32)), (.ref t1), (.ref t1)])) rfl rfl (hb hby at_180)
  have Z30 : n0 ≤ h30.size := by rw [sz30]; exact Z29
  obtain ⟨T31, h31, L31, X31, e31, N31, Fi31, sz31, st31⟩ := own_put X30 hx hZ e30 N30 g_t1 27 (by decide) Fi30 (j := (27 : Int32)) (by decide) (by decide) (x := (196418 : Int64)) (by decide +kernel) (g := (mkF m 187 #[.val (.long q1), .second, .val (.int p1), .val (.int p2), .unset, .unset, .unset, .unset, .unset, .unset] [(.long (196418 : Int64)), (.int (27 : Int32)), (.ref t1), (.ref t1)])) rfl rfl (hb hby at_187)
  have Z31 : n0 ≤ h31.size := by rw [sz31]; exact Z30
  obtain ⟨T32, h32, L32, X32, e32, N32, Fi32, sz32, st32⟩ := own_put X31 hx hZ e31 N31 g_t1 28 (by decide) Fi31 (j := (28 : Int32)) (by decide) (by decide) (x := (317811 : Int64)) (by decide +kernel) (g := (mkF m 194 #[.val (.long q1), .second, .val (.int p1), .val (.int p2), .unset, .unset, .unset, .unset, .unset, .unset] [(.long (317811 : Int64)), (.int (28 : Int32)), (.ref t1), (.ref t1)])) rfl rfl (hb hby at_194)
  have Z32 : n0 ≤ h32.size := by rw [sz32]; exact Z31
  obtain ⟨T33, h33, L33, X33, e33, N33, Fi33, sz33, st33⟩ := own_put X32 hx hZ e32 N32 g_t1 29 (by decide) Fi32 (j := (29 : Int32)) (by decide) (by decide) (x := (514229 : Int64)) (by decide +kernel) (g := (mkF m 201 #[.val (.long q1), .second, .val (.int p1), .val (.int p2), .unset, .unset, .unset, .unset, .unset, .unset] [(.long (514229 : Int64)), (.int (29 : Int32)), (.ref t1), (.ref t1)])) rfl rfl (hb hby at_201)
  have Z33 : n0 ≤ h33.size := by rw [sz33]; exact Z32
  obtain ⟨T34, h34, L34, X34, e34, N34, Fi34, sz34, st34⟩ := own_put X33 hx hZ e33 N33 g_t1 30 (by decide) Fi33 (j := (30 : Int32)) (by decide) (by decide) (x := (832040 : Int64)) (by decide +kernel) (g := (mkF m 208 #[.val (.long q1), .second, .val (.int p1), .val (.int p2), .unset, .unset, .unset, .unset, .unset, .unset] [(.long (832040 : Int64)), (.int (30 : Int32)), (.ref t1), (.ref t1)])) rfl rfl (hb hby at_208)
  have Z34 : n0 ≤ h34.size := by rw [sz34]; exact Z33
  obtain ⟨T35, h35, L35, X35, e35, N35, Fi35, sz35, st35⟩ := own_put X34 hx hZ e34 N34 g_t1 31 (by decide) Fi34 (j := (31 : Int32)) (by decide) (by decide) (x := (1346269 : Int64)) (by decide +kernel) (g := (mkF m 215 #[.val (.long q1), .second, .val (.int p1), .val (.int p2), .unset, .unset, .unset, .unset, .unset, .unset] [(.long (1346269 : Int64)), (.int (31 : Int32)), (.ref t1), (.ref t1)])) rfl rfl (hb hby at_215)
  have Z35 : n0 ≤ h35.size := by rw [sz35]; exact Z34
  obtain ⟨T36, h36, L36, X36, e36, N36, Fi36, sz36, st36⟩ := own_put X35 hx hZ e35 N35 g_t1 32 (by decide) Fi35 (j := (32 : Int32)) (by decide) (by decide) (x := (2178309 : Int64)) (by decide +kernel) (g := (mkF m 222 #[.val (.long q1), .second, .val (.int p1), .val (.int p2), .unset, .unset, .unset, .unset, .unset, .unset] [(.long (2178309 : Int64)), (.int (32 : Int32)), (.ref t1), (.ref t1)])) rfl rfl (hb hby at_222)
  have Z36 : n0 ≤ h36.size := by rw [sz36]; exact Z35
  obtain ⟨T37, h37, L37, X37, e37, N37, Fi37, sz37, st37⟩ := own_put X36 hx hZ e36 N36 g_t1 33 (by decide) Fi36 (j := (33 : Int32)) (by decide) (by decide) (x := (3524578 : Int64)) (by decide +kernel) (g := (mkF m 229 #[.val (.long q1), .second, .val (.int p1), .val (.int p2), .unset, .unset, .unset, .unset, .unset, .unset] [(.long (3524578 : Int64)), (.int (33 : Int32)), (.ref t1), (.ref t1)])) rfl rfl (hb hby at_229)
  have Z37 : n0 ≤ h37.size := by rw [sz37]; exact Z36
  obtain ⟨T38, h38, L38, X38, e38, N38, Fi38, sz38, st38⟩ := own_put X37 hx hZ e37 N37 g_t1 34 (by decide) Fi37 (j := (34 : Int32)) (by decide) (by decide) (x := (5702887 : Int64)) (by decide +kernel) (g := (mkF m 236 #[.val (.long q1), .second, .val (.int p1), .val (.int p2), .unset, .unset, .unset, .unset, .unset, .unset] [(.long (5702887 : Int64)), (.int (34 : Int32)), (.ref t1), (.ref t1)])) rfl rfl (hb hby at_236)
  have Z38 : n0 ≤ h38.size := by rw [sz38]; exact Z37
  obtain ⟨T39, h39, L39, X39, e39, N39, Fi39, sz39, st39⟩ := own_put X38 hx hZ e38 N38 g_t1 35 (by decide) Fi38 (j := (35 : Int32)) (by decide) (by decide) (x := (9227465 : Int64)) (by decide +kernel) (g := (mkF m 243 #[.val (.long q1), .second, .val (.int p1), .val (.int p2), .unset, .unset, .unset, .unset, .unset, .unset] [(.long (9227465 : Int64)), (.int (35 : Int32)), (.ref t1), (.ref t1)])) rfl rfl (hb hby at_243)
  have Z39 : n0 ≤ h39.size := by rw [sz39]; exact Z38
  obtain ⟨T40, h40, L40, X40, e40, N40, Fi40, sz40, st40⟩ := own_put X39 hx hZ e39 N39 g_t1 36 (by decide) Fi39 (j := (36 : Int32)) (by decide) (by decide) (x := (14930352 : Int64)) (by decide +kernel) (g := (mkF m 250 #[.val (.long q1), .second, .val (.int p1), .val (.int p2), .unset, .unset, .unset, .unset, .unset, .unset] [(.long (14930352 : Int64)), (.int (36 : Int32)), (.ref t1), (.ref t1)])) rfl rfl (hb hby at_250)
  have Z40 : n0 ≤ h40.size := by rw [sz40]; exact Z39
  obtain ⟨T41, h41, L41, X41, e41, N41, Fi41, sz41, st41⟩ := own_put X40 hx hZ e40 N40 g_t1 37 (by decide) Fi40 (j := (37 : Int32)) (by decide) (by decide) (x := (24157817 : Int64)) (by decide +kernel) (g := (mkF m 257 #[.val (.long q1), .second, .val (.int p1), .val (.int p2), .unset, .unset, .unset, .unset, .unset, .unset] [(.long (24157817 : Int64)), (.int (37 : Int32)), (.ref t1), (.ref t1)])) rfl rfl (hb hby at_257)
  have Z41 : n0 ≤ h41.size := by rw [sz41]; exact Z40
  obtain ⟨T42, h42, L42, X42, e42, N42, Fi42, sz42, st42⟩ := own_put X41 hx hZ e41 N41 g_t1 38 (by decide) Fi41 (j := (38 : Int32)) (by decide) (by decide) (x := (39088169 : Int64)) (by decide +kernel) (g := (mkF m 264 #[.val (.long q1), .second, .val (.int p1), .val (.int p2), .unset, .unset, .unset, .unset, .unset, .unset] [(.long (39088169 : Int64)), (.int (38 : Int32)), (.ref t1), (.ref t1)])) rfl rfl (hb hby at_264)
  have Z42 : n0 ≤ h42.size := by rw [sz42]; exact Z41
  obtain ⟨T43, h43, L43, X43, e43, N43, Fi43, sz43, st43⟩ := own_put X42 hx hZ e42 N42 g_t1 39 (by decide) Fi42 (j := (39 : Int32)) (by decide) (by decide) (x := (63245986 : Int64)) (by decide +kernel) (g := (mkF m 271 #[.val (.long q1), .second, .val (.int p1), .val (.int p2), .unset, .unset, .unset, .unset, .unset, .unset] [(.long (63245986 : Int64)), (.int (39 : Int32)), (.ref t1), (.ref t1)])) rfl rfl (hb hby at_271)
  have Z43 : n0 ≤ h43.size := by rw [sz43]; exact Z42
  obtain ⟨T44, h44, L44, X44, e44, N44, Fi44, sz44, st44⟩ := own_put X43 hx hZ e43 N43 g_t1 40 (by decide) Fi43 (j := (40 : Int32)) (by decide) (by decide) (x := (102334155 : Int64)) (by decide +kernel) (g := (mkF m 278 #[.val (.long q1), .second, .val (.int p1), .val (.int p2), .unset, .unset, .unset, .unset, .unset, .unset] [(.long (102334155 : Int64)), (.int (40 : Int32)), (.ref t1), (.ref t1)])) rfl rfl (hb hby at_278)
  have Z44 : n0 ≤ h44.size := by rw [sz44]; exact Z43
  obtain ⟨T45, h45, L45, X45, e45, N45, Fi45, sz45, st45⟩ := own_put X44 hx hZ e44 N44 g_t1 41 (by decide) Fi44 (j := (41 : Int32)) (by decide) (by decide) (x := (165580141 : Int64)) (by decide +kernel) (g := (mkF m 285 #[.val (.long q1), .second, .val (.int p1), .val (.int p2), .unset, .unset, .unset, .unset, .unset, .unset] [(.long (165580141 : Int64)), (.int (41 : Int32)), (.ref t1), (.ref t1)])) rfl rfl (hb hby at_285)
  have Z45 : n0 ≤ h45.size := by rw [sz45]; exact Z44
  obtain ⟨T46, h46, L46, X46, e46, N46, Fi46, sz46, st46⟩ := own_put X45 hx hZ e45 N45 g_t1 42 (by decide) Fi45 (j := (42 : Int32)) (by decide) (by decide) (x := (267914296 : Int64)) (by decide +kernel) (g := (mkF m 292 #[.val (.long q1), .second, .val (.int p1), .val (.int p2), .unset, .unset, .unset, .unset, .unset, .unset] [(.long (267914296 : Int64)), (.int (42 : Int32)), (.ref t1), (.ref t1)])) rfl rfl (hb hby at_292)
  have Z46 : n0 ≤ h46.size := by rw [sz46]; exact Z45
  obtain ⟨T47, h47, L47, X47, e47, N47, Fi47, sz47, st47⟩ := own_put X46 hx hZ e46 N46 g_t1 43 (by decide) Fi46 (j := (43 : Int32)) (by decide) (by decide) (x := (433494437 : Int64)) (by decide +kernel) (g := (mkF m 299 #[.val (.long q1), .second, .val (.int p1), .val (.int p2), .unset, .unset, .unset, .unset, .unset, .unset] [(.long (433494437 : Int64)), (.int (43 : Int32)), (.ref t1), (.ref t1)])) rfl rfl (hb hby at_299)
  have Z47 : n0 ≤ h47.size := by rw [sz47]; exact Z46
  obtain ⟨T48, h48, L48, X48, e48, N48, Fi48, sz48, st48⟩ := own_put X47 hx hZ e47 N47 g_t1 44 (by decide) Fi47 (j := (44 : Int32)) (by decide) (by decide) (x := (701408733 : Int64)) (by decide +kernel) (g := (mkF m 306 #[.val (.long q1), .second, .val (.int p1), .val (.int p2), .unset, .unset, .unset, .unset, .unset, .unset] [(.long (701408733 : Int64)), (.int (44 : Int32)), (.ref t1), (.ref t1)])) rfl rfl (hb hby at_306)
  have Z48 : n0 ≤ h48.size := by rw [sz48]; exact Z47
  obtain ⟨T49, h49, L49, X49, e49, N49, Fi49, sz49, st49⟩ := own_put X48 hx hZ e48 N48 g_t1 45 (by decide) Fi48 (j := (45 : Int32)) (by decide) (by decide) (x := (1134903170 : Int64)) (by decide +kernel) (g := (mkF m 313 #[.val (.long q1), .second, .val (.int p1), .val (.int p2), .unset, .unset, .unset, .unset, .unset, .unset] [(.long (1134903170 : Int64)), (.int (45 : Int32)), (.ref t1), (.ref t1)])) rfl rfl (hb hby at_313)
  have Z49 : n0 ≤ h49.size := by rw [sz49]; exact Z48
  obtain ⟨T50, h50, L50, X50, e50, N50, Fi50, sz50, st50⟩ := own_put X49 hx hZ e49 N49 g_t1 46 (by decide) Fi49 (j := (46 : Int32)) (by decide) (by decide) (x := (1836311903 : Int64)) (by decide +kernel) (g := (mkF m 320 #[.val (.long q1), .second, .val (.int p1), .val (.int p2), .unset, .unset, .unset, .unset, .unset, .unset] [(.long (1836311903 : Int64)), (.int (46 : Int32)), (.ref t1), (.ref t1)])) rfl rfl (hb hby at_320)
  have Z50 : n0 ≤ h50.size := by rw [sz50]; exact Z49
  obtain ⟨T51, h51, L51, X51, e51, N51, Fi51, sz51, st51⟩ := own_put X50 hx hZ e50 N50 g_t1 47 (by decide) Fi50 (j := (47 : Int32)) (by decide) (by decide) (x := (2971215073 : Int64)) (by decide +kernel) (g := (mkF m 327 #[.val (.long q1), .second, .val (.int p1), .val (.int p2), .unset, .unset, .unset, .unset, .unset, .unset] [(.long (2971215073 : Int64)), (.int (47 : Int32)), (.ref t1), (.ref t1)])) rfl rfl (hb hby at_327)
  have Z51 : n0 ≤ h51.size := by rw [sz51]; exact Z50
  obtain ⟨T52, h52, L52, X52, e52, N52, Fi52, sz52, st52⟩ := own_put X51 hx hZ e51 N51 g_t1 48 (by decide) Fi51 (j := (48 : Int32)) (by decide) (by decide) (x := (4807526976 : Int64)) (by decide +kernel) (g := (mkF m 334 #[.val (.long q1), .second, .val (.int p1), .val (.int p2), .unset, .unset, .unset, .unset, .unset, .unset] [(.long (4807526976 : Int64)), (.int (48 : Int32)), (.ref t1), (.ref t1)])) rfl rfl (hb hby at_334)
  have Z52 : n0 ≤ h52.size := by rw [sz52]; exact Z51
  obtain ⟨T53, h53, L53, X53, e53, N53, Fi53, sz53, st53⟩ := own_put X52 hx hZ e52 N52 g_t1 49 (by decide) Fi52 (j := (49 : Int32)) (by decide) (by decide) (x := (7778742049 : Int64)) (by decide +kernel) (g := (mkF m 341 #[.val (.long q1), .second, .val (.int p1), .val (.int p2), .unset, .unset, .unset, .unset, .unset, .unset] [(.long (7778742049 : Int64)), (.int (49 : Int32)), (.ref t1), (.ref t1)])) rfl rfl (hb hby at_341)
  have Z53 : n0 ≤ h53.size := by rw [sz53]; exact Z52
  obtain ⟨T54, h54, L54, X54, e54, N54, Fi54, sz54, st54⟩ := own_put X53 hx hZ e53 N53 g_t1 50 (by decide) Fi53 (j := (50 : Int32)) (by decide) (by decide) (x := (12586269025 : Int64)) (by decide +kernel) (g := (mkF m 348 #[.val (.long q1), .second, .val (.int p1), .val (.int p2), .unset, .unset, .unset, .unset, .unset, .unset] [(.long (12586269025 : Int64)), (.int (50 : Int32)), (.ref t1), (.ref t1)])) rfl rfl (hb hby at_348)
  have Z54 : n0 ≤ h54.size := by rw [sz54]; exact Z53
  obtain ⟨T55, h55, L55, X55, e55, N55, Fi55, sz55, st55⟩ := own_put X54 hx hZ e54 N54 g_t1 51 (by decide) Fi54 (j := (51 : Int32)) (by decide) (by decide) (x := (20365011074 : Int64)) (by decide +kernel) (g := (mkF m 355 #[.val (.long q1), .second, .val (.int p1), .val (.int p2), .unset, .unset, .unset, .unset, .unset, .unset] [(.long (20365011074 : Int64)), (.int (51 : Int32)), (.ref t1), (.ref t1)])) rfl rfl (hb hby at_355)
  have Z55 : n0 ≤ h55.size := by rw [sz55]; exact Z54
  obtain ⟨T56, h56, L56, X56, e56, N56, Fi56, sz56, st56⟩ := own_put X55 hx hZ e55 N55 g_t1 52 (by decide) Fi55 (j := (52 : Int32)) (by decide) (by decide) (x := (32951280099 : Int64)) (by decide +kernel) (g := (mkF m 362 #[.val (.long q1), .second, .val (.int p1), .val (.int p2), .unset, .unset, .unset, .unset, .unset, .unset] [(.long (32951280099 : Int64)), (.int (52 : Int32)), (.ref t1), (.ref t1)])) rfl rfl (hb hby at_362)
  have Z56 : n0 ≤ h56.size := by rw [sz56]; exact Z55
  obtain ⟨T57, h57, L57, X57, e57, N57, Fi57, sz57, st57⟩ := own_put X56 hx hZ e56 N56 g_t1 53 (by decide) Fi56 (j := (53 : Int32)) (by decide) (by decide) (x := (53316291173 : Int64)) (by decide +kernel) (g := (mkF m 369 #[.val (.long q1), .second, .val (.int p1), .val (.int p2), .unset, .unset, .unset, .unset, .unset, .unset] [(.long (53316291173 : Int64)), (.int (53 : Int32)), (.ref t1), (.ref t1)])) rfl rfl (hb hby at_369)
  have Z57 : n0 ≤ h57.size := by rw [sz57]; exact Z56
  obtain ⟨T58, h58, L58, X58, e58, N58, Fi58, sz58, st58⟩ := own_put X57 hx hZ e57 N57 g_t1 54 (by decide) Fi57 (j := (54 : Int32)) (by decide) (by decide) (x := (86267571272 : Int64)) (by decide +kernel) (g := (mkF m 376 #[.val (.long q1), .second, .val (.int p1), .val (.int p2), .unset, .unset, .unset, .unset, .unset, .unset] [(.long (86267571272 : Int64)), (.int (54 : Int32)), (.ref t1), (.ref t1)])) rfl rfl (hb hby at_376)
  have Z58 : n0 ≤ h58.size := by rw [sz58]; exact Z57
  obtain ⟨T59, h59, L59, X59, e59, N59, Fi59, sz59, st59⟩ := own_put X58 hx hZ e58 N58 g_t1 55 (by decide) Fi58 (j := (55 : Int32)) (by decide) (by decide) (x := (139583862445 : Int64)) (by decide +kernel) (g := (mkF m 383 #[.val (.long q1), .second, .val (.int p1), .val (.int p2), .unset, .unset, .unset, .unset, .unset, .unset] [(.long (139583862445 : Int64)), (.int (55 : Int32)), (.ref t1), (.ref t1)])) rfl rfl (hb hby at_383)
  have Z59 : n0 ≤ h59.size := by rw [sz59]; exact Z58
  obtain ⟨T60, h60, L60, X60, e60, N60, Fi60, sz60, st60⟩ := own_put X59 hx hZ e59 N59 g_t1 56 (by decide) Fi59 (j := (56 : Int32)) (by decide) (by decide) (x := (225851433717 : Int64)) (by decide +kernel) (g := (mkF m 390 #[.val (.long q1), .second, .val (.int p1), .val (.int p2), .unset, .unset, .unset, .unset, .unset, .unset] [(.long (225851433717 : Int64)), (.int (56 : Int32)), (.ref t1), (.ref t1)])) rfl rfl (hb hby at_390)
  have Z60 : n0 ≤ h60.size := by rw [sz60]; exact Z59
  obtain ⟨T61, h61, L61, X61, e61, N61, Fi61, sz61, st61⟩ := own_put X60 hx hZ e60 N60 g_t1 57 (by decide) Fi60 (j := (57 : Int32)) (by decide) (by decide) (x := (365435296162 : Int64)) (by decide +kernel) (g := (mkF m 397 #[.val (.long q1), .second, .val (.int p1), .val (.int p2), .unset, .unset, .unset, .unset, .unset, .unset] [(.long (365435296162 : Int64)), (.int (57 : Int32)), (.ref t1), (.ref t1)])) rfl rfl (hb hby at_397)
  have Z61 : n0 ≤ h61.size := by rw [sz61]; exact Z60
  obtain ⟨T62, h62, L62, X62, e62, N62, Fi62, sz62, st62⟩ := own_put X61 hx hZ e61 N61 g_t1 58 (by decide) Fi61 (j := (58 : Int32)) (by decide) (by decide) (x := (591286729879 : Int64)) (by decide +kernel) (g := (mkF m 404 #[.val (.long q1), .second, .val (.int p1), .val (.int p2), .unset, .unset, .unset, .unset, .unset, .unset] [(.long (591286729879 : Int64)), (.int (58 : Int32)), (.ref t1), (.ref t1)])) rfl rfl (hb hby at_404)
  have Z62 : n0 ≤ h62.size := by rw [sz62]; exact Z61
  obtain ⟨T63, h63, L63, X63, e63, N63, Fi63, sz63, st63⟩ := own_put X62 hx hZ e62 N62 g_t1 59 (by decide) Fi62 (j := (59 : Int32)) (by decide) (by decide) (x := (956722026041 : Int64)) (by decide +kernel) (g := (mkF m 411 #[.val (.long q1), .second, .val (.int p1), .val (.int p2), .unset, .unset, .unset, .unset, .unset, .unset] [(.long (956722026041 : Int64)), (.int (59 : Int32)), (.ref t1), (.ref t1)])) rfl rfl (hb hby at_411)
  have Z63 : n0 ≤ h63.size := by rw [sz63]; exact Z62
  obtain ⟨T64, h64, L64, X64, e64, N64, Fi64, sz64, st64⟩ := own_put X63 hx hZ e63 N63 g_t1 60 (by decide) Fi63 (j := (60 : Int32)) (by decide) (by decide) (x := (1548008755920 : Int64)) (by decide +kernel) (g := (mkF m 418 #[.val (.long q1), .second, .val (.int p1), .val (.int p2), .unset, .unset, .unset, .unset, .unset, .unset] [(.long (1548008755920 : Int64)), (.int (60 : Int32)), (.ref t1), (.ref t1)])) rfl rfl (hb hby at_418)
  have Z64 : n0 ≤ h64.size := by rw [sz64]; exact Z63
  obtain ⟨T65, h65, L65, X65, e65, N65, Fi65, sz65, st65⟩ := own_put X64 hx hZ e64 N64 g_t1 61 (by decide) Fi64 (j := (61 : Int32)) (by decide) (by decide) (x := (2504730781961 : Int64)) (by decide +kernel) (g := (mkF m 425 #[.val (.long q1), .second, .val (.int p1), .val (.int p2), .unset, .unset, .unset, .unset, .unset, .unset] [(.long (2504730781961 : Int64)), (.int (61 : Int32)), (.ref t1), (.ref t1)])) rfl rfl (hb hby at_425)
  have Z65 : n0 ≤ h65.size := by rw [sz65]; exact Z64
  obtain ⟨T66, h66, L66, X66, e66, N66, Fi66, sz66, st66⟩ := own_put X65 hx hZ e65 N65 g_t1 62 (by decide) Fi65 (j := (62 : Int32)) (by decide) (by decide) (x := (4052739537881 : Int64)) (by decide +kernel) (g := (mkF m 432 #[.val (.long q1), .second, .val (.int p1), .val (.int p2), .unset, .unset, .unset, .unset, .unset, .unset] [(.long (4052739537881 : Int64)), (.int (62 : Int32)), (.ref t1), (.ref t1)])) rfl rfl (hb hby at_432)
  have Z66 : n0 ≤ h66.size := by rw [sz66]; exact Z65
  obtain ⟨T67, h67, L67, X67, e67, N67, Fi67, sz67, st67⟩ := own_put X66 hx hZ e66 N66 g_t1 63 (by decide) Fi66 (j := (63 : Int32)) (by decide) (by decide) (x := (6557470319842 : Int64)) (by decide +kernel) (g := (mkF m 439 #[.val (.long q1), .second, .val (.int p1), .val (.int p2), .unset, .unset, .unset, .unset, .unset, .unset] [(.long (6557470319842 : Int64)), (.int (63 : Int32)), (.ref t1), (.ref t1)])) rfl rfl (hb hby at_439)
  have Z67 : n0 ≤ h67.size := by rw [sz67]; exact Z66
  obtain ⟨T68, h68, L68, X68, e68, N68, Fi68, sz68, st68⟩ := own_put X67 hx hZ e67 N67 g_t1 64 (by decide) Fi67 (j := (64 : Int32)) (by decide) (by decide) (x := (10610209857723 : Int64)) (by decide +kernel) (g := (mkF m 446 #[.val (.long q1), .second, .val (.int p1), .val (.int p2), .unset, .unset, .unset, .unset, .unset, .unset] [(.long (10610209857723 : Int64)), (.int (64 : Int32)), (.ref t1), (.ref t1)])) rfl rfl (hb hby at_446)
  have Z68 : n0 ≤ h68.size := by rw [sz68]; exact Z67
  obtain ⟨T69, h69, L69, X69, e69, N69, Fi69, sz69, st69⟩ := own_put X68 hx hZ e68 N68 g_t1 65 (by decide) Fi68 (j := (65 : Int32)) (by decide) (by decide) (x := (17167680177565 : Int64)) (by decide +kernel) (g := (mkF m 453 #[.val (.long q1), .second, .val (.int p1), .val (.int p2), .unset, .unset, .unset, .unset, .unset, .unset] [(.long (17167680177565 : Int64)), (.int (65 : Int32)), (.ref t1), (.ref t1)])) rfl rfl (hb hby at_453)
  have Z69 : n0 ≤ h69.size := by rw [sz69]; exact Z68
  obtain ⟨T70, h70, L70, X70, e70, N70, Fi70, sz70, st70⟩ := own_put X69 hx hZ e69 N69 g_t1 66 (by decide) Fi69 (j := (66 : Int32)) (by decide) (by decide) (x := (27777890035288 : Int64)) (by decide +kernel) (g := (mkF m 460 #[.val (.long q1), .second, .val (.int p1), .val (.int p2), .unset, .unset, .unset, .unset, .unset, .unset] [(.long (27777890035288 : Int64)), (.int (66 : Int32)), (.ref t1), (.ref t1)])) rfl rfl (hb hby at_460)
  have Z70 : n0 ≤ h70.size := by rw [sz70]; exact Z69
  obtain ⟨T71, h71, L71, X71, e71, N71, Fi71, sz71, st71⟩ := own_put X70 hx hZ e70 N70 g_t1 67 (by decide) Fi70 (j := (67 : Int32)) (by decide) (by decide) (x := (44945570212853 : Int64)) (by decide +kernel) (g := (mkF m 467 #[.val (.long q1), .second, .val (.int p1), .val (.int p2), .unset, .unset, .unset, .unset, .unset, .unset] [(.long (44945570212853 : Int64)), (.int (67 : Int32)), (.ref t1), (.ref t1)])) rfl rfl (hb hby at_467)
  have Z71 : n0 ≤ h71.size := by rw [sz71]; exact Z70
  obtain ⟨T72, h72, L72, X72, e72, N72, Fi72, sz72, st72⟩ := own_put X71 hx hZ e71 N71 g_t1 68 (by decide) Fi71 (j := (68 : Int32)) (by decide) (by decide) (x := (72723460248141 : Int64)) (by decide +kernel) (g := (mkF m 474 #[.val (.long q1), .second, .val (.int p1), .val (.int p2), .unset, .unset, .unset, .unset, .unset, .unset] [(.long (72723460248141 : Int64)), (.int (68 : Int32)), (.ref t1), (.ref t1)])) rfl rfl (hb hby at_474)
  have Z72 : n0 ≤ h72.size := by rw [sz72]; exact Z71
  obtain ⟨T73, h73, L73, X73, e73, N73, Fi73, sz73, st73⟩ := own_put X72 hx hZ e72 N72 g_t1 69 (by decide) Fi72 (j := (69 : Int32)) (by decide) (by decide) (x := (117669030460994 : Int64)) (by decide +kernel) (g := (mkF m 481 #[.val (.long q1), .second, .val (.int p1), .val (.int p2), .unset, .unset, .unset, .unset, .unset, .unset] [(.long (117669030460994 : Int64)), (.int (69 : Int32)), (.ref t1), (.ref t1)])) rfl rfl (hb hby at_481)
  have Z73 : n0 ≤ h73.size := by rw [sz73]; exact Z72
  obtain ⟨T74, h74, L74, X74, e74, N74, Fi74, sz74, st74⟩ := own_put X73 hx hZ e73 N73 g_t1 70 (by decide) Fi73 (j := (70 : Int32)) (by decide) (by decide) (x := (190392490709135 : Int64)) (by decide +kernel) (g := (mkF m 488 #[.val (.long q1), .second, .val (.int p1), .val (.int p2), .unset, .unset, .unset, .unset, .unset, .unset] [(.long (190392490709135 : Int64)), (.int (70 : Int32)), (.ref t1), (.ref t1)])) rfl rfl (hb hby at_488)
  have Z74 : n0 ≤ h74.size := by rw [sz74]; exact Z73
  obtain ⟨T75, h75, L75, X75, e75, N75, Fi75, sz75, st75⟩ := own_put X74 hx hZ e74 N74 g_t1 71 (by decide) Fi74 (j := (71 : Int32)) (by decide) (by decide) (x := (308061521170129 : Int64)) (by decide +kernel) (g := (mkF m 495 #[.val (.long q1), .second, .val (.int p1), .val (.int p2), .unset, .unset, .unset, .unset, .unset, .unset] [(.long (308061521170129 : Int64)), (.int (71 : Int32)), (.ref t1), (.ref t1)])) rfl rfl (hb hby at_495)
  have Z75 : n0 ≤ h75.size := by rw [sz75]; exact Z74
  obtain ⟨T76, h76, L76, X76, e76, N76, Fi76, sz76, st76⟩ := own_put X75 hx hZ e75 N75 g_t1 72 (by decide) Fi75 (j := (72 : Int32)) (by decide) (by decide) (x := (498454011879264 : Int64)) (by decide +kernel) (g := (mkF m 502 #[.val (.long q1), .second, .val (.int p1), .val (.int p2), .unset, .unset, .unset, .unset, .unset, .unset] [(.long (498454011879264 : Int64)), (.int (72 : Int32)), (.ref t1), (.ref t1)])) rfl rfl (hb hby at_502)
  have Z76 : n0 ≤ h76.size := by rw [sz76]; exact Z75
  obtain ⟨T77, h77, L77, X77, e77, N77, Fi77, sz77, st77⟩ := own_put X76 hx hZ e76 N76 g_t1 73 (by decide) Fi76 (j := (73 : Int32)) (by decide) (by decide) (x := (806515533049393 : Int64)) (by decide +kernel) (g := (mkF m 509 #[.val (.long q1), .second, .val (.int p1), .val (.int p2), .unset, .unset, .unset, .unset, .unset, .unset] [(.long (806515533049393 : Int64)), (.int (73 : Int32)), (.ref t1), (.ref t1)])) rfl rfl (hb hby at_509)
  have Z77 : n0 ≤ h77.size := by rw [sz77]; exact Z76
  obtain ⟨T78, h78, L78, X78, e78, N78, Fi78, sz78, st78⟩ := own_put X77 hx hZ e77 N77 g_t1 74 (by decide) Fi77 (j := (74 : Int32)) (by decide) (by decide) (x := (1304969544928657 : Int64)) (by decide +kernel) (g := (mkF m 516 #[.val (.long q1), .second, .val (.int p1), .val (.int p2), .unset, .unset, .unset, .unset, .unset, .unset] [(.long (1304969544928657 : Int64)), (.int (74 : Int32)), (.ref t1), (.ref t1)])) rfl rfl (hb hby at_516)
  have Z78 : n0 ≤ h78.size := by rw [sz78]; exact Z77
  obtain ⟨T79, h79, L79, X79, e79, N79, Fi79, sz79, st79⟩ := own_put X78 hx hZ e78 N78 g_t1 75 (by decide) Fi78 (j := (75 : Int32)) (by decide) (by decide) (x := (2111485077978050 : Int64)) (by decide +kernel) (g := (mkF m 523 #[.val (.long q1), .second, .val (.int p1), .val (.int p2), .unset, .unset, .unset, .unset, .unset, .unset] [(.long (2111485077978050 : Int64)), (.int (75 : Int32)), (.ref t1), (.ref t1)])) rfl rfl (hb hby at_523)
  have Z79 : n0 ≤ h79.size := by rw [sz79]; exact Z78
  obtain ⟨T80, h80, L80, X80, e80, N80, Fi80, sz80, st80⟩ := own_put X79 hx hZ e79 N79 g_t1 76 (by decide) Fi79 (j := (76 : Int32)) (by decide) (by decide) (x := (3416454622906707 : Int64)) (by decide +kernel) (g := (mkF m 530 #[.val (.long q1), .second, .val (.int p1), .val (.int p2), .unset, .unset, .unset, .unset, .unset, .unset] [(.long (3416454622906707 : Int64)), (.int (76 : Int32)), (.ref t1), (.ref t1)])) rfl rfl (hb hby at_530)
  have Z80 : n0 ≤ h80.size := by rw [sz80]; exact Z79
  obtain ⟨T81, h81, L81, X81, e81, N81, Fi81, sz81, st81⟩ := own_put X80 hx hZ e80 N80 g_t1 77 (by decide) Fi80 (j := (77 : Int32)) (by decide) (by decide) (x := (5527939700884757 : Int64)) (by decide +kernel) (g := (mkF m 537 #[.val (.long q1), .second, .val (.int p1), .val (.int p2), .unset, .unset, .unset, .unset, .unset, .unset] [(.long (5527939700884757 : Int64)), (.int (77 : Int32)), (.ref t1), (.ref t1)])) rfl rfl (hb hby at_537)
  have Z81 : n0 ≤ h81.size := by rw [sz81]; exact Z80
  obtain ⟨T82, h82, L82, X82, e82, N82, Fi82, sz82, st82⟩ := own_put X81 hx hZ e81 N81 g_t1 78 (by decide) Fi81 (j := (78 : Int32)) (by decide) (by decide) (x := (8944394323791464 : Int64)) (by decide +kernel) (g := (mkF m 544 #[.val (.long q1), .second, .val (.int p1), .val (.int p2), .unset, .unset, .unset, .unset, .unset, .unset] [(.long (8944394323791464 : Int64)), (.int (78 : Int32)), (.ref t1), (.ref t1)])) rfl rfl (hb hby at_544)
  have Z82 : n0 ≤ h82.size := by rw [sz82]; exact Z81
  obtain ⟨T83, h83, L83, X83, e83, N83, Fi83, sz83, st83⟩ := own_put X82 hx hZ e82 N82 g_t1 79 (by decide) Fi82 (j := (79 : Int32)) (by decide) (by decide) (x := (14472334024676221 : Int64)) (by decide +kernel) (g := (mkF m 551 #[.val (.long q1), .second, .val (.int p1), .val (.int p2), .unset, .unset, .unset, .unset, .unset, .unset] [(.long (14472334024676221 : Int64)), (.int (79 : Int32)), (.ref t1), (.ref t1)])) rfl rfl (hb hby at_551)
  have Z83 : n0 ≤ h83.size := by rw [sz83]; exact Z82
  obtain ⟨T84, h84, L84, X84, e84, N84, Fi84, sz84, st84⟩ := own_put X83 hx hZ e83 N83 g_t1 80 (by decide) Fi83 (j := (80 : Int32)) (by decide) (by decide) (x := (23416728348467685 : Int64)) (by decide +kernel) (g := (mkF m 558 #[.val (.long q1), .second, .val (.int p1), .val (.int p2), .unset, .unset, .unset, .unset, .unset, .unset] [(.long (23416728348467685 : Int64)), (.int (80 : Int32)), (.ref t1), (.ref t1)])) rfl rfl (hb hby at_558)
  have Z84 : n0 ≤ h84.size := by rw [sz84]; exact Z83
  obtain ⟨T85, h85, L85, X85, e85, N85, Fi85, sz85, st85⟩ := own_put X84 hx hZ e84 N84 g_t1 81 (by decide) Fi84 (j := (81 : Int32)) (by decide) (by decide) (x := (37889062373143906 : Int64)) (by decide +kernel) (g := (mkF m 565 #[.val (.long q1), .second, .val (.int p1), .val (.int p2), .unset, .unset, .unset, .unset, .unset, .unset] [(.long (37889062373143906 : Int64)), (.int (81 : Int32)), (.ref t1), (.ref t1)])) rfl rfl (hb hby at_565)
  have Z85 : n0 ≤ h85.size := by rw [sz85]; exact Z84
  obtain ⟨T86, h86, L86, X86, e86, N86, Fi86, sz86, st86⟩ := own_put X85 hx hZ e85 N85 g_t1 82 (by decide) Fi85 (j := (82 : Int32)) (by decide) (by decide) (x := (61305790721611591 : Int64)) (by decide +kernel) (g := (mkF m 572 #[.val (.long q1), .second, .val (.int p1), .val (.int p2), .unset, .unset, .unset, .unset, .unset, .unset] [(.long (61305790721611591 : Int64)), (.int (82 : Int32)), (.ref t1), (.ref t1)])) rfl rfl (hb hby at_572)
  have Z86 : n0 ≤ h86.size := by rw [sz86]; exact Z85
  obtain ⟨T87, h87, L87, X87, e87, N87, Fi87, sz87, st87⟩ := own_put X86 hx hZ e86 N86 g_t1 83 (by decide) Fi86 (j := (83 : Int32)) (by decide) (by decide) (x := (99194853094755497 : Int64)) (by decide +kernel) (g := (mkF m 579 #[.val (.long q1), .second, .val (.int p1), .val (.int p2), .unset, .unset, .unset, .unset, .unset, .unset] [(.long (99194853094755497 : Int64)), (.int (83 : Int32)), (.ref t1), (.ref t1)])) rfl rfl (hb hby at_579)
  have Z87 : n0 ≤ h87.size := by rw [sz87]; exact Z86
  obtain ⟨T88, h88, L88, X88, e88, N88, Fi88, sz88, st88⟩ := own_put X87 hx hZ e87 N87 g_t1 84 (by decide) Fi87 (j := (84 : Int32)) (by decide) (by decide) (x := (160500643816367088 : Int64)) (by decide +kernel) (g := (mkF m 586 #[.val (.long q1), .second, .val (.int p1), .val (.int p2), .unset, .unset, .unset, .unset, .unset, .unset] [(.long (160500643816367088 : Int64)), (.int (84 : Int32)), (.ref t1), (.ref t1)])) rfl rfl (hb hby at_586)
  have Z88 : n0 ≤ h88.size := by rw [sz88]; exact Z87
  obtain ⟨T89, h89, L89, X89, e89, N89, Fi89, sz89, st89⟩ := own_put X88 hx hZ e88 N88 g_t1 85 (by decide) Fi88 (j := (85 : Int32)) (by decide) (by decide) (x := (259695496911122585 : Int64)) (by decide +kernel) (g := (mkF m 593 #[.val (.long q1), .second, .val (.int p1), .val (.int p2), .unset, .unset, .unset, .unset, .unset, .unset] [(.long (259695496911122585 : Int64)), (.int (85 : Int32)), (.ref t1), (.ref t1)])) rfl rfl (hb hby at_593)
  have Z89 : n0 ≤ h89.size := by rw [sz89]; exact Z88
  obtain ⟨T90, h90, L90, X90, e90, N90, Fi90, sz90, st90⟩ := own_put X89 hx hZ e89 N89 g_t1 86 (by decide) Fi89 (j := (86 : Int32)) (by decide) (by decide) (x := (420196140727489673 : Int64)) (by decide +kernel) (g := (mkF m 600 #[.val (.long q1), .second, .val (.int p1), .val (.int p2), .unset, .unset, .unset, .unset, .unset, .unset] [(.long (420196140727489673 : Int64)), (.int (86 : Int32)), (.ref t1), (.ref t1)])) rfl rfl (hb hby at_600)
  have Z90 : n0 ≤ h90.size := by rw [sz90]; exact Z89
  obtain ⟨T91, h91, L91, X91, e91, N91, Fi91, sz91, st91⟩ := own_put X90 hx hZ e90 N90 g_t1 87 (by decide) Fi90 (j := (87 : Int32)) (by decide) (by decide) (x := (679891637638612258 : Int64)) (by decide +kernel) (g := (mkF m 607 #[.val (.long q1), .second, .val (.int p1), .val (.int p2), .unset, .unset, .unset, .unset, .unset, .unset] [(.long (679891637638612258 : Int64)), (.int (87 : Int32)), (.ref t1), (.ref t1)])) rfl rfl (hb hby at_607)
  have Z91 : n0 ≤ h91.size := by rw [sz91]; exact Z90
  obtain ⟨T92, h92, L92, X92, e92, N92, Fi92, sz92, st92⟩ := own_put X91 hx hZ e91 N91 g_t1 88 (by decide) Fi91 (j := (88 : Int32)) (by decide) (by decide) (x := (1100087778366101931 : Int64)) (by decide +kernel) (g := (mkF m 614 #[.val (.long q1), .second, .val (.int p1), .val (.int p2), .unset, .unset, .unset, .unset, .unset, .unset] [(.long (1100087778366101931 : Int64)), (.int (88 : Int32)), (.ref t1), (.ref t1)])) rfl rfl (hb hby at_614)
  have Z92 : n0 ≤ h92.size := by rw [sz92]; exact Z91
  obtain ⟨T93, h93, L93, X93, e93, N93, Fi93, sz93, st93⟩ := own_put X92 hx hZ e92 N92 g_t1 89 (by decide) Fi92 (j := (89 : Int32)) (by decide) (by decide) (x := (1779979416004714189 : Int64)) (by decide +kernel) (g := (mkF m 621 #[.val (.long q1), .second, .val (.int p1), .val (.int p2), .unset, .unset, .unset, .unset, .unset, .unset] [(.long (1779979416004714189 : Int64)), (.int (89 : Int32)), (.ref t1), (.ref t1)])) rfl rfl (hb hby at_621)
  have Z93 : n0 ≤ h93.size := by rw [sz93]; exact Z92
  obtain ⟨T94, h94, L94, X94, e94, N94, Fi94, sz94, st94⟩ := own_put X93 hx hZ e93 N93 g_t1 90 (by decide) Fi93 (j := (90 : Int32)) (by decide) (by decide) (x := (2880067194370816120 : Int64)) (by decide +kernel) (g := (mkF m 628 #[.val (.long q1), .second, .val (.int p1), .val (.int p2), .unset, .unset, .unset, .unset, .unset, .unset] [(.long (2880067194370816120 : Int64)), (.int (90 : Int32)), (.ref t1), (.ref t1)])) rfl rfl (hb hby at_628)
  have Z94 : n0 ≤ h94.size := by rw [sz94]; exact Z93
  obtain ⟨T95, h95, L95, X95, e95, N95, Fi95, sz95, st95⟩ := own_put X94 hx hZ e94 N94 g_t1 91 (by decide) Fi94 (j := (91 : Int32)) (by decide) (by decide) (x := (4660046610375530309 : Int64)) (by decide +kernel) (g := (mkF m 635 #[.val (.long q1), .second, .val (.int p1), .val (.int p2), .unset, .unset, .unset, .unset, .unset, .unset] [(.long (4660046610375530309 : Int64)), (.int (91 : Int32)), (.ref t1), (.ref t1)])) rfl rfl (hb hby at_635)
  have Z95 : n0 ≤ h95.size := by rw [sz95]; exact Z94
  obtain ⟨T96, h96, L96, X96, e96, N96, Fi96, sz96, st96⟩ := own_put X95 hx hZ e95 N95 g_t1 92 (by decide) Fi95 (j := (92 : Int32)) (by decide) (by decide) (x := (7540113804746346429 : Int64)) (by decide +kernel) (g := (mkF m 642 #[.val (.long q1), .second, .val (.int p1), .val (.int p2), .unset, .unset, .unset, .unset, .unset, .unset] [(.long (7540113804746346429 : Int64)), (.int (92 : Int32)), (.ref t1), (.ref t1)])) rfl rfl (hb hby at_642)
  have Z96 : n0 ≤ h96.size := by rw [sz96]; exact Z95
  refine ⟨_, _, _, t1, X96, e96, N96, Z96, Fi96, fun target kt => ?_⟩
  show Steps p.tables e below (T0.setTop (mkF m 0 #[.val (.long q1), .second, .val (.int p1), .val (.int p2), .unset, .unset, .unset, .unset, .unset, .unset] [])) _
  refine XS.bipush X0.here hx rfl (hb hby at_0) ?_
  show Steps p.tables e below (T0.setTop (mkF m 2 #[.val (.long q1), .second, .val (.int p1), .val (.int p2), .unset, .unset, .unset, .unset, .unset, .unset] [(.int (93 : Int32))])) _
  refine st1 _ ?_
  show Steps p.tables e below (T1.setTop (mkF m 4 #[.val (.long q1), .second, .val (.int p1), .val (.int p2), .unset, .unset, .unset, .unset, .unset, .unset] [(.ref t1)])) _
  refine XS.dup X1.here hx rfl (hb hby at_4) rfl rfl ?_
  show Steps p.tables e below (T1.setTop (mkF m 5 #[.val (.long q1), .second, .val (.int p1), .val (.int p2), .unset, .unset, .unset, .unset, .unset, .unset] [(.ref t1), (.ref t1)])) _
  refine XS.iconst X1.here hx rfl (hb hby at_5) ?_
  show Steps p.tables e below (T1.setTop (mkF m 6 #[.val (.long q1), .second, .val (.int p1), .val (.int p2), .unset, .unset, .unset, .unset, .unset, .unset] [(.int (0 : Int32)), (.ref t1), (.ref t1)])) _
  refine XS.lconst X1.here hx rfl (hb hby at_6) ?_
  show Steps p.tables e below (T1.setTop (mkF m 7 #[.val (.long q1), .second, .val (.int p1), .val (.int p2), .unset, .unset, .unset, .unset, .unset, .unset] [(.long (0 : Int64)), (.int (0 : Int32)), (.ref t1), (.ref t1)])) _
  refine st4 _ ?_
  show Steps p.tables e below (T4.setTop (mkF m 8 #[.val (.long q1), .second, .val (.int p1), .val (.int p2), .unset, .unset, .unset, .unset, .unset, .unset] [(.ref t1)])) _
  refine XS.dup X4.here hx rfl (hb hby at_8) rfl rfl ?_
  show Steps p.tables e below (T4.setTop (mkF m 9 #[.val (.long q1), .second, .val (.int p1), .val (.int p2), .unset, .unset, .unset, .unset, .unset, .unset] [(.ref t1), (.ref t1)])) _
  refine XS.iconst X4.here hx rfl (hb hby at_9) ?_
  show Steps p.tables e below (T4.setTop (mkF m 10 #[.val (.long q1), .second, .val (.int p1), .val (.int p2), .unset, .unset, .unset, .unset, .unset, .unset] [(.int (1 : Int32)), (.ref t1), (.ref t1)])) _
  refine XS.lconst X4.here hx rfl (hb hby at_10) ?_
  show Steps p.tables e below (T4.setTop (mkF m 11 #[.val (.long q1), .second, .val (.int p1), .val (.int p2), .unset, .unset, .unset, .unset, .unset, .unset] [(.long (1 : Int64)), (.int (1 : Int32)), (.ref t1), (.ref t1)])) _
  refine st5 _ ?_
  show Steps p.tables e below (T5.setTop (mkF m 12 #[.val (.long q1), .second, .val (.int p1), .val (.int p2), .unset, .unset, .unset, .unset, .unset, .unset] [(.ref t1)])) _
  refine XS.dup X5.here hx rfl (hb hby at_12) rfl rfl ?_
  show Steps p.tables e below (T5.setTop (mkF m 13 #[.val (.long q1), .second, .val (.int p1), .val (.int p2), .unset, .unset, .unset, .unset, .unset, .unset] [(.ref t1), (.ref t1)])) _
  refine XS.iconst X5.here hx rfl (hb hby at_13) ?_
  show Steps p.tables e below (T5.setTop (mkF m 14 #[.val (.long q1), .second, .val (.int p1), .val (.int p2), .unset, .unset, .unset, .unset, .unset, .unset] [(.int (2 : Int32)), (.ref t1), (.ref t1)])) _
  refine XS.lconst X5.here hx rfl (hb hby at_14) ?_
  show Steps p.tables e below (T5.setTop (mkF m 15 #[.val (.long q1), .second, .val (.int p1), .val (.int p2), .unset, .unset, .unset, .unset, .unset, .unset] [(.long (1 : Int64)), (.int (2 : Int32)), (.ref t1), (.ref t1)])) _
  refine st6 _ ?_
  show Steps p.tables e below (T6.setTop (mkF m 16 #[.val (.long q1), .second, .val (.int p1), .val (.int p2), .unset, .unset, .unset, .unset, .unset, .unset] [(.ref t1)])) _
  refine XS.dup X6.here hx rfl (hb hby at_16) rfl rfl ?_
  show Steps p.tables e below (T6.setTop (mkF m 17 #[.val (.long q1), .second, .val (.int p1), .val (.int p2), .unset, .unset, .unset, .unset, .unset, .unset] [(.ref t1), (.ref t1)])) _
  refine XS.iconst X6.here hx rfl (hb hby at_17) ?_
  show Steps p.tables e below (T6.setTop (mkF m 18 #[.val (.long q1), .second, .val (.int p1), .val (.int p2), .unset, .unset, .unset, .unset, .unset, .unset] [(.int (3 : Int32)), (.ref t1), (.ref t1)])) _
  refine X6.ldc2Long hx hown (mvT hZ (hw _ (List.mem_of_getElem? (i := 1) rfl))) (g := (mkF m 18 #[.val (.long q1), .second, .val (.int p1), .val (.int p2), .unset, .unset, .unset, .unset, .unset, .unset] [(.int (3 : Int32)), (.ref t1), (.ref t1)])) rfl (hb hby at_18) _ ?_
  show Steps p.tables e below (T6.setTop (mkF m 21 #[.val (.long q1), .second, .val (.int p1), .val (.int p2), .unset, .unset, .unset, .unset, .unset, .unset] [(.long (2 : Int64)), (.int (3 : Int32)), (.ref t1), (.ref t1)])) _
  refine st7 _ ?_
  show Steps p.tables e below (T7.setTop (mkF m 22 #[.val (.long q1), .second, .val (.int p1), .val (.int p2), .unset, .unset, .unset, .unset, .unset, .unset] [(.ref t1)])) _
  refine XS.dup X7.here hx rfl (hb hby at_22) rfl rfl ?_
  show Steps p.tables e below (T7.setTop (mkF m 23 #[.val (.long q1), .second, .val (.int p1), .val (.int p2), .unset, .unset, .unset, .unset, .unset, .unset] [(.ref t1), (.ref t1)])) _
  refine XS.iconst X7.here hx rfl (hb hby at_23) ?_
  show Steps p.tables e below (T7.setTop (mkF m 24 #[.val (.long q1), .second, .val (.int p1), .val (.int p2), .unset, .unset, .unset, .unset, .unset, .unset] [(.int (4 : Int32)), (.ref t1), (.ref t1)])) _
  refine X7.ldc2Long hx hown (mvT hZ (hw _ (List.mem_of_getElem? (i := 2) rfl))) (g := (mkF m 24 #[.val (.long q1), .second, .val (.int p1), .val (.int p2), .unset, .unset, .unset, .unset, .unset, .unset] [(.int (4 : Int32)), (.ref t1), (.ref t1)])) rfl (hb hby at_24) _ ?_
  show Steps p.tables e below (T7.setTop (mkF m 27 #[.val (.long q1), .second, .val (.int p1), .val (.int p2), .unset, .unset, .unset, .unset, .unset, .unset] [(.long (3 : Int64)), (.int (4 : Int32)), (.ref t1), (.ref t1)])) _
  refine st8 _ ?_
  show Steps p.tables e below (T8.setTop (mkF m 28 #[.val (.long q1), .second, .val (.int p1), .val (.int p2), .unset, .unset, .unset, .unset, .unset, .unset] [(.ref t1)])) _
  refine XS.dup X8.here hx rfl (hb hby at_28) rfl rfl ?_
  show Steps p.tables e below (T8.setTop (mkF m 29 #[.val (.long q1), .second, .val (.int p1), .val (.int p2), .unset, .unset, .unset, .unset, .unset, .unset] [(.ref t1), (.ref t1)])) _
  refine XS.iconst X8.here hx rfl (hb hby at_29) ?_
  show Steps p.tables e below (T8.setTop (mkF m 30 #[.val (.long q1), .second, .val (.int p1), .val (.int p2), .unset, .unset, .unset, .unset, .unset, .unset] [(.int (5 : Int32)), (.ref t1), (.ref t1)])) _
  refine X8.ldc2Long hx hown (mvT hZ (hw _ (List.mem_of_getElem? (i := 3) rfl))) (g := (mkF m 30 #[.val (.long q1), .second, .val (.int p1), .val (.int p2), .unset, .unset, .unset, .unset, .unset, .unset] [(.int (5 : Int32)), (.ref t1), (.ref t1)])) rfl (hb hby at_30) _ ?_
  show Steps p.tables e below (T8.setTop (mkF m 33 #[.val (.long q1), .second, .val (.int p1), .val (.int p2), .unset, .unset, .unset, .unset, .unset, .unset] [(.long (5 : Int64)), (.int (5 : Int32)), (.ref t1), (.ref t1)])) _
  refine st9 _ ?_
  show Steps p.tables e below (T9.setTop (mkF m 34 #[.val (.long q1), .second, .val (.int p1), .val (.int p2), .unset, .unset, .unset, .unset, .unset, .unset] [(.ref t1)])) _
  refine XS.dup X9.here hx rfl (hb hby at_34) rfl rfl ?_
  show Steps p.tables e below (T9.setTop (mkF m 35 #[.val (.long q1), .second, .val (.int p1), .val (.int p2), .unset, .unset, .unset, .unset, .unset, .unset] [(.ref t1), (.ref t1)])) _
  refine XS.bipush X9.here hx rfl (hb hby at_35) ?_
  show Steps p.tables e below (T9.setTop (mkF m 37 #[.val (.long q1), .second, .val (.int p1), .val (.int p2), .unset, .unset, .unset, .unset, .unset, .unset] [(.int (6 : Int32)), (.ref t1), (.ref t1)])) _
  refine X9.ldc2Long hx hown (mvT hZ (hw _ (List.mem_of_getElem? (i := 4) rfl))) (g := (mkF m 37 #[.val (.long q1), .second, .val (.int p1), .val (.int p2), .unset, .unset, .unset, .unset, .unset, .unset] [(.int (6 : Int32)), (.ref t1), (.ref t1)])) rfl (hb hby at_37) _ ?_
  show Steps p.tables e below (T9.setTop (mkF m 40 #[.val (.long q1), .second, .val (.int p1), .val (.int p2), .unset, .unset, .unset, .unset, .unset, .unset] [(.long (8 : Int64)), (.int (6 : Int32)), (.ref t1), (.ref t1)])) _
  refine st10 _ ?_
  show Steps p.tables e below (T10.setTop (mkF m 41 #[.val (.long q1), .second, .val (.int p1), .val (.int p2), .unset, .unset, .unset, .unset, .unset, .unset] [(.ref t1)])) _
  refine XS.dup X10.here hx rfl (hb hby at_41) rfl rfl ?_
  show Steps p.tables e below (T10.setTop (mkF m 42 #[.val (.long q1), .second, .val (.int p1), .val (.int p2), .unset, .unset, .unset, .unset, .unset, .unset] [(.ref t1), (.ref t1)])) _
  refine XS.bipush X10.here hx rfl (hb hby at_42) ?_
  show Steps p.tables e below (T10.setTop (mkF m 44 #[.val (.long q1), .second, .val (.int p1), .val (.int p2), .unset, .unset, .unset, .unset, .unset, .unset] [(.int (7 : Int32)), (.ref t1), (.ref t1)])) _
  refine X10.ldc2Long hx hown (mvT hZ (hw _ (List.mem_of_getElem? (i := 5) rfl))) (g := (mkF m 44 #[.val (.long q1), .second, .val (.int p1), .val (.int p2), .unset, .unset, .unset, .unset, .unset, .unset] [(.int (7 : Int32)), (.ref t1), (.ref t1)])) rfl (hb hby at_44) _ ?_
  show Steps p.tables e below (T10.setTop (mkF m 47 #[.val (.long q1), .second, .val (.int p1), .val (.int p2), .unset, .unset, .unset, .unset, .unset, .unset] [(.long (13 : Int64)), (.int (7 : Int32)), (.ref t1), (.ref t1)])) _
  refine st11 _ ?_
  show Steps p.tables e below (T11.setTop (mkF m 48 #[.val (.long q1), .second, .val (.int p1), .val (.int p2), .unset, .unset, .unset, .unset, .unset, .unset] [(.ref t1)])) _
  refine XS.dup X11.here hx rfl (hb hby at_48) rfl rfl ?_
  show Steps p.tables e below (T11.setTop (mkF m 49 #[.val (.long q1), .second, .val (.int p1), .val (.int p2), .unset, .unset, .unset, .unset, .unset, .unset] [(.ref t1), (.ref t1)])) _
  refine XS.bipush X11.here hx rfl (hb hby at_49) ?_
  show Steps p.tables e below (T11.setTop (mkF m 51 #[.val (.long q1), .second, .val (.int p1), .val (.int p2), .unset, .unset, .unset, .unset, .unset, .unset] [(.int (8 : Int32)), (.ref t1), (.ref t1)])) _
  refine X11.ldc2Long hx hown (mvT hZ (hw _ (List.mem_of_getElem? (i := 6) rfl))) (g := (mkF m 51 #[.val (.long q1), .second, .val (.int p1), .val (.int p2), .unset, .unset, .unset, .unset, .unset, .unset] [(.int (8 : Int32)), (.ref t1), (.ref t1)])) rfl (hb hby at_51) _ ?_
  show Steps p.tables e below (T11.setTop (mkF m 54 #[.val (.long q1), .second, .val (.int p1), .val (.int p2), .unset, .unset, .unset, .unset, .unset, .unset] [(.long (21 : Int64)), (.int (8 : Int32)), (.ref t1), (.ref t1)])) _
  refine st12 _ ?_
  show Steps p.tables e below (T12.setTop (mkF m 55 #[.val (.long q1), .second, .val (.int p1), .val (.int p2), .unset, .unset, .unset, .unset, .unset, .unset] [(.ref t1)])) _
  refine XS.dup X12.here hx rfl (hb hby at_55) rfl rfl ?_
  show Steps p.tables e below (T12.setTop (mkF m 56 #[.val (.long q1), .second, .val (.int p1), .val (.int p2), .unset, .unset, .unset, .unset, .unset, .unset] [(.ref t1), (.ref t1)])) _
  refine XS.bipush X12.here hx rfl (hb hby at_56) ?_
  show Steps p.tables e below (T12.setTop (mkF m 58 #[.val (.long q1), .second, .val (.int p1), .val (.int p2), .unset, .unset, .unset, .unset, .unset, .unset] [(.int (9 : Int32)), (.ref t1), (.ref t1)])) _
  refine X12.ldc2Long hx hown (mvT hZ (hw _ (List.mem_of_getElem? (i := 7) rfl))) (g := (mkF m 58 #[.val (.long q1), .second, .val (.int p1), .val (.int p2), .unset, .unset, .unset, .unset, .unset, .unset] [(.int (9 : Int32)), (.ref t1), (.ref t1)])) rfl (hb hby at_58) _ ?_
  show Steps p.tables e below (T12.setTop (mkF m 61 #[.val (.long q1), .second, .val (.int p1), .val (.int p2), .unset, .unset, .unset, .unset, .unset, .unset] [(.long (34 : Int64)), (.int (9 : Int32)), (.ref t1), (.ref t1)])) _
  refine st13 _ ?_
  show Steps p.tables e below (T13.setTop (mkF m 62 #[.val (.long q1), .second, .val (.int p1), .val (.int p2), .unset, .unset, .unset, .unset, .unset, .unset] [(.ref t1)])) _
  refine XS.dup X13.here hx rfl (hb hby at_62) rfl rfl ?_
  show Steps p.tables e below (T13.setTop (mkF m 63 #[.val (.long q1), .second, .val (.int p1), .val (.int p2), .unset, .unset, .unset, .unset, .unset, .unset] [(.ref t1), (.ref t1)])) _
  refine XS.bipush X13.here hx rfl (hb hby at_63) ?_
  show Steps p.tables e below (T13.setTop (mkF m 65 #[.val (.long q1), .second, .val (.int p1), .val (.int p2), .unset, .unset, .unset, .unset, .unset, .unset] [(.int (10 : Int32)), (.ref t1), (.ref t1)])) _
  refine X13.ldc2Long hx hown (mvT hZ (hw _ (List.mem_of_getElem? (i := 8) rfl))) (g := (mkF m 65 #[.val (.long q1), .second, .val (.int p1), .val (.int p2), .unset, .unset, .unset, .unset, .unset, .unset] [(.int (10 : Int32)), (.ref t1), (.ref t1)])) rfl (hb hby at_65) _ ?_
  show Steps p.tables e below (T13.setTop (mkF m 68 #[.val (.long q1), .second, .val (.int p1), .val (.int p2), .unset, .unset, .unset, .unset, .unset, .unset] [(.long (55 : Int64)), (.int (10 : Int32)), (.ref t1), (.ref t1)])) _
  refine st14 _ ?_
  show Steps p.tables e below (T14.setTop (mkF m 69 #[.val (.long q1), .second, .val (.int p1), .val (.int p2), .unset, .unset, .unset, .unset, .unset, .unset] [(.ref t1)])) _
  refine XS.dup X14.here hx rfl (hb hby at_69) rfl rfl ?_
  show Steps p.tables e below (T14.setTop (mkF m 70 #[.val (.long q1), .second, .val (.int p1), .val (.int p2), .unset, .unset, .unset, .unset, .unset, .unset] [(.ref t1), (.ref t1)])) _
  refine XS.bipush X14.here hx rfl (hb hby at_70) ?_
  show Steps p.tables e below (T14.setTop (mkF m 72 #[.val (.long q1), .second, .val (.int p1), .val (.int p2), .unset, .unset, .unset, .unset, .unset, .unset] [(.int (11 : Int32)), (.ref t1), (.ref t1)])) _
  refine X14.ldc2Long hx hown (mvT hZ (hw _ (List.mem_of_getElem? (i := 9) rfl))) (g := (mkF m 72 #[.val (.long q1), .second, .val (.int p1), .val (.int p2), .unset, .unset, .unset, .unset, .unset, .unset] [(.int (11 : Int32)), (.ref t1), (.ref t1)])) rfl (hb hby at_72) _ ?_
  show Steps p.tables e below (T14.setTop (mkF m 75 #[.val (.long q1), .second, .val (.int p1), .val (.int p2), .unset, .unset, .unset, .unset, .unset, .unset] [(.long (89 : Int64)), (.int (11 : Int32)), (.ref t1), (.ref t1)])) _
  refine st15 _ ?_
  show Steps p.tables e below (T15.setTop (mkF m 76 #[.val (.long q1), .second, .val (.int p1), .val (.int p2), .unset, .unset, .unset, .unset, .unset, .unset] [(.ref t1)])) _
  refine XS.dup X15.here hx rfl (hb hby at_76) rfl rfl ?_
  show Steps p.tables e below (T15.setTop (mkF m 77 #[.val (.long q1), .second, .val (.int p1), .val (.int p2), .unset, .unset, .unset, .unset, .unset, .unset] [(.ref t1), (.ref t1)])) _
  refine XS.bipush X15.here hx rfl (hb hby at_77) ?_
  show Steps p.tables e below (T15.setTop (mkF m 79 #[.val (.long q1), .second, .val (.int p1), .val (.int p2), .unset, .unset, .unset, .unset, .unset, .unset] [(.int (12 : Int32)), (.ref t1), (.ref t1)])) _
  refine X15.ldc2Long hx hown (mvT hZ (hw _ (List.mem_of_getElem? (i := 10) rfl))) (g := (mkF m 79 #[.val (.long q1), .second, .val (.int p1), .val (.int p2), .unset, .unset, .unset, .unset, .unset, .unset] [(.int (12 : Int32)), (.ref t1), (.ref t1)])) rfl (hb hby at_79) _ ?_
  show Steps p.tables e below (T15.setTop (mkF m 82 #[.val (.long q1), .second, .val (.int p1), .val (.int p2), .unset, .unset, .unset, .unset, .unset, .unset] [(.long (144 : Int64)), (.int (12 : Int32)), (.ref t1), (.ref t1)])) _
  refine st16 _ ?_
  show Steps p.tables e below (T16.setTop (mkF m 83 #[.val (.long q1), .second, .val (.int p1), .val (.int p2), .unset, .unset, .unset, .unset, .unset, .unset] [(.ref t1)])) _
  refine XS.dup X16.here hx rfl (hb hby at_83) rfl rfl ?_
  show Steps p.tables e below (T16.setTop (mkF m 84 #[.val (.long q1), .second, .val (.int p1), .val (.int p2), .unset, .unset, .unset, .unset, .unset, .unset] [(.ref t1), (.ref t1)])) _
  refine XS.bipush X16.here hx rfl (hb hby at_84) ?_
  show Steps p.tables e below (T16.setTop (mkF m 86 #[.val (.long q1), .second, .val (.int p1), .val (.int p2), .unset, .unset, .unset, .unset, .unset, .unset] [(.int (13 : Int32)), (.ref t1), (.ref t1)])) _
  refine X16.ldc2Long hx hown (mvT hZ (hw _ (List.mem_of_getElem? (i := 11) rfl))) (g := (mkF m 86 #[.val (.long q1), .second, .val (.int p1), .val (.int p2), .unset, .unset, .unset, .unset, .unset, .unset] [(.int (13 : Int32)), (.ref t1), (.ref t1)])) rfl (hb hby at_86) _ ?_
  show Steps p.tables e below (T16.setTop (mkF m 89 #[.val (.long q1), .second, .val (.int p1), .val (.int p2), .unset, .unset, .unset, .unset, .unset, .unset] [(.long (233 : Int64)), (.int (13 : Int32)), (.ref t1), (.ref t1)])) _
  refine st17 _ ?_
  show Steps p.tables e below (T17.setTop (mkF m 90 #[.val (.long q1), .second, .val (.int p1), .val (.int p2), .unset, .unset, .unset, .unset, .unset, .unset] [(.ref t1)])) _
  refine XS.dup X17.here hx rfl (hb hby at_90) rfl rfl ?_
  show Steps p.tables e below (T17.setTop (mkF m 91 #[.val (.long q1), .second, .val (.int p1), .val (.int p2), .unset, .unset, .unset, .unset, .unset, .unset] [(.ref t1), (.ref t1)])) _
  refine XS.bipush X17.here hx rfl (hb hby at_91) ?_
  show Steps p.tables e below (T17.setTop (mkF m 93 #[.val (.long q1), .second, .val (.int p1), .val (.int p2), .unset, .unset, .unset, .unset, .unset, .unset] [(.int (14 : Int32)), (.ref t1), (.ref t1)])) _
  refine X17.ldc2Long hx hown (mvT hZ (hw _ (List.mem_of_getElem? (i := 12) rfl))) (g := (mkF m 93 #[.val (.long q1), .second, .val (.int p1), .val (.int p2), .unset, .unset, .unset, .unset, .unset, .unset] [(.int (14 : Int32)), (.ref t1), (.ref t1)])) rfl (hb hby at_93) _ ?_
  show Steps p.tables e below (T17.setTop (mkF m 96 #[.val (.long q1), .second, .val (.int p1), .val (.int p2), .unset, .unset, .unset, .unset, .unset, .unset] [(.long (377 : Int64)), (.int (14 : Int32)), (.ref t1), (.ref t1)])) _
  refine st18 _ ?_
  show Steps p.tables e below (T18.setTop (mkF m 97 #[.val (.long q1), .second, .val (.int p1), .val (.int p2), .unset, .unset, .unset, .unset, .unset, .unset] [(.ref t1)])) _
  refine XS.dup X18.here hx rfl (hb hby at_97) rfl rfl ?_
  show Steps p.tables e below (T18.setTop (mkF m 98 #[.val (.long q1), .second, .val (.int p1), .val (.int p2), .unset, .unset, .unset, .unset, .unset, .unset] [(.ref t1), (.ref t1)])) _
  refine XS.bipush X18.here hx rfl (hb hby at_98) ?_
  show Steps p.tables e below (T18.setTop (mkF m 100 #[.val (.long q1), .second, .val (.int p1), .val (.int p2), .unset, .unset, .unset, .unset, .unset, .unset] [(.int (15 : Int32)), (.ref t1), (.ref t1)])) _
  refine X18.ldc2Long hx hown (mvT hZ (hw _ (List.mem_of_getElem? (i := 13) rfl))) (g := (mkF m 100 #[.val (.long q1), .second, .val (.int p1), .val (.int p2), .unset, .unset, .unset, .unset, .unset, .unset] [(.int (15 : Int32)), (.ref t1), (.ref t1)])) rfl (hb hby at_100) _ ?_
  show Steps p.tables e below (T18.setTop (mkF m 103 #[.val (.long q1), .second, .val (.int p1), .val (.int p2), .unset, .unset, .unset, .unset, .unset, .unset] [(.long (610 : Int64)), (.int (15 : Int32)), (.ref t1), (.ref t1)])) _
  refine st19 _ ?_
  show Steps p.tables e below (T19.setTop (mkF m 104 #[.val (.long q1), .second, .val (.int p1), .val (.int p2), .unset, .unset, .unset, .unset, .unset, .unset] [(.ref t1)])) _
  refine XS.dup X19.here hx rfl (hb hby at_104) rfl rfl ?_
  show Steps p.tables e below (T19.setTop (mkF m 105 #[.val (.long q1), .second, .val (.int p1), .val (.int p2), .unset, .unset, .unset, .unset, .unset, .unset] [(.ref t1), (.ref t1)])) _
  refine XS.bipush X19.here hx rfl (hb hby at_105) ?_
  show Steps p.tables e below (T19.setTop (mkF m 107 #[.val (.long q1), .second, .val (.int p1), .val (.int p2), .unset, .unset, .unset, .unset, .unset, .unset] [(.int (16 : Int32)), (.ref t1), (.ref t1)])) _
  refine X19.ldc2Long hx hown (mvT hZ (hw _ (List.mem_of_getElem? (i := 14) rfl))) (g := (mkF m 107 #[.val (.long q1), .second, .val (.int p1), .val (.int p2), .unset, .unset, .unset, .unset, .unset, .unset] [(.int (16 : Int32)), (.ref t1), (.ref t1)])) rfl (hb hby at_107) _ ?_
  show Steps p.tables e below (T19.setTop (mkF m 110 #[.val (.long q1), .second, .val (.int p1), .val (.int p2), .unset, .unset, .unset, .unset, .unset, .unset] [(.long (987 : Int64)), (.int (16 : Int32)), (.ref t1), (.ref t1)])) _
  refine st20 _ ?_
  show Steps p.tables e below (T20.setTop (mkF m 111 #[.val (.long q1), .second, .val (.int p1), .val (.int p2), .unset, .unset, .unset, .unset, .unset, .unset] [(.ref t1)])) _
  refine XS.dup X20.here hx rfl (hb hby at_111) rfl rfl ?_
  show Steps p.tables e below (T20.setTop (mkF m 112 #[.val (.long q1), .second, .val (.int p1), .val (.int p2), .unset, .unset, .unset, .unset, .unset, .unset] [(.ref t1), (.ref t1)])) _
  refine XS.bipush X20.here hx rfl (hb hby at_112) ?_
  show Steps p.tables e below (T20.setTop (mkF m 114 #[.val (.long q1), .second, .val (.int p1), .val (.int p2), .unset, .unset, .unset, .unset, .unset, .unset] [(.int (17 : Int32)), (.ref t1), (.ref t1)])) _
  refine X20.ldc2Long hx hown (mvT hZ (hw _ (List.mem_of_getElem? (i := 15) rfl))) (g := (mkF m 114 #[.val (.long q1), .second, .val (.int p1), .val (.int p2), .unset, .unset, .unset, .unset, .unset, .unset] [(.int (17 : Int32)), (.ref t1), (.ref t1)])) rfl (hb hby at_114) _ ?_
  show Steps p.tables e below (T20.setTop (mkF m 117 #[.val (.long q1), .second, .val (.int p1), .val (.int p2), .unset, .unset, .unset, .unset, .unset, .unset] [(.long (1597 : Int64)), (.int (17 : Int32)), (.ref t1), (.ref t1)])) _
  refine st21 _ ?_
  show Steps p.tables e below (T21.setTop (mkF m 118 #[.val (.long q1), .second, .val (.int p1), .val (.int p2), .unset, .unset, .unset, .unset, .unset, .unset] [(.ref t1)])) _
  refine XS.dup X21.here hx rfl (hb hby at_118) rfl rfl ?_
  show Steps p.tables e below (T21.setTop (mkF m 119 #[.val (.long q1), .second, .val (.int p1), .val (.int p2), .unset, .unset, .unset, .unset, .unset, .unset] [(.ref t1), (.ref t1)])) _
  refine XS.bipush X21.here hx rfl (hb hby at_119) ?_
  show Steps p.tables e below (T21.setTop (mkF m 121 #[.val (.long q1), .second, .val (.int p1), .val (.int p2), .unset, .unset, .unset, .unset, .unset, .unset] [(.int (18 : Int32)), (.ref t1), (.ref t1)])) _
  refine X21.ldc2Long hx hown (mvT hZ (hw _ (List.mem_of_getElem? (i := 16) rfl))) (g := (mkF m 121 #[.val (.long q1), .second, .val (.int p1), .val (.int p2), .unset, .unset, .unset, .unset, .unset, .unset] [(.int (18 : Int32)), (.ref t1), (.ref t1)])) rfl (hb hby at_121) _ ?_
  show Steps p.tables e below (T21.setTop (mkF m 124 #[.val (.long q1), .second, .val (.int p1), .val (.int p2), .unset, .unset, .unset, .unset, .unset, .unset] [(.long (2584 : Int64)), (.int (18 : Int32)), (.ref t1), (.ref t1)])) _
  refine st22 _ ?_
  show Steps p.tables e below (T22.setTop (mkF m 125 #[.val (.long q1), .second, .val (.int p1), .val (.int p2), .unset, .unset, .unset, .unset, .unset, .unset] [(.ref t1)])) _
  refine XS.dup X22.here hx rfl (hb hby at_125) rfl rfl ?_
  show Steps p.tables e below (T22.setTop (mkF m 126 #[.val (.long q1), .second, .val (.int p1), .val (.int p2), .unset, .unset, .unset, .unset, .unset, .unset] [(.ref t1), (.ref t1)])) _
  refine XS.bipush X22.here hx rfl (hb hby at_126) ?_
  show Steps p.tables e below (T22.setTop (mkF m 128 #[.val (.long q1), .second, .val (.int p1), .val (.int p2), .unset, .unset, .unset, .unset, .unset, .unset] [(.int (19 : Int32)), (.ref t1), (.ref t1)])) _
  refine X22.ldc2Long hx hown (mvT hZ (hw _ (List.mem_of_getElem? (i := 17) rfl))) (g := (mkF m 128 #[.val (.long q1), .second, .val (.int p1), .val (.int p2), .unset, .unset, .unset, .unset, .unset, .unset] [(.int (19 : Int32)), (.ref t1), (.ref t1)])) rfl (hb hby at_128) _ ?_
  show Steps p.tables e below (T22.setTop (mkF m 131 #[.val (.long q1), .second, .val (.int p1), .val (.int p2), .unset, .unset, .unset, .unset, .unset, .unset] [(.long (4181 : Int64)), (.int (19 : Int32)), (.ref t1), (.ref t1)])) _
  refine st23 _ ?_
  show Steps p.tables e below (T23.setTop (mkF m 132 #[.val (.long q1), .second, .val (.int p1), .val (.int p2), .unset, .unset, .unset, .unset, .unset, .unset] [(.ref t1)])) _
  refine XS.dup X23.here hx rfl (hb hby at_132) rfl rfl ?_
  show Steps p.tables e below (T23.setTop (mkF m 133 #[.val (.long q1), .second, .val (.int p1), .val (.int p2), .unset, .unset, .unset, .unset, .unset, .unset] [(.ref t1), (.ref t1)])) _
  refine XS.bipush X23.here hx rfl (hb hby at_133) ?_
  show Steps p.tables e below (T23.setTop (mkF m 135 #[.val (.long q1), .second, .val (.int p1), .val (.int p2), .unset, .unset, .unset, .unset, .unset, .unset] [(.int (20 : Int32)), (.ref t1), (.ref t1)])) _
  refine X23.ldc2Long hx hown (mvT hZ (hw _ (List.mem_of_getElem? (i := 18) rfl))) (g := (mkF m 135 #[.val (.long q1), .second, .val (.int p1), .val (.int p2), .unset, .unset, .unset, .unset, .unset, .unset] [(.int (20 : Int32)), (.ref t1), (.ref t1)])) rfl (hb hby at_135) _ ?_
  show Steps p.tables e below (T23.setTop (mkF m 138 #[.val (.long q1), .second, .val (.int p1), .val (.int p2), .unset, .unset, .unset, .unset, .unset, .unset] [(.long (6765 : Int64)), (.int (20 : Int32)), (.ref t1), (.ref t1)])) _
  refine st24 _ ?_
  show Steps p.tables e below (T24.setTop (mkF m 139 #[.val (.long q1), .second, .val (.int p1), .val (.int p2), .unset, .unset, .unset, .unset, .unset, .unset] [(.ref t1)])) _
  refine XS.dup X24.here hx rfl (hb hby at_139) rfl rfl ?_
  show Steps p.tables e below (T24.setTop (mkF m 140 #[.val (.long q1), .second, .val (.int p1), .val (.int p2), .unset, .unset, .unset, .unset, .unset, .unset] [(.ref t1), (.ref t1)])) _
  refine XS.bipush X24.here hx rfl (hb hby at_140) ?_
  show Steps p.tables e below (T24.setTop (mkF m 142 #[.val (.long q1), .second, .val (.int p1), .val (.int p2), .unset, .unset, .unset, .unset, .unset, .unset] [(.int (21 : Int32)), (.ref t1), (.ref t1)])) _
  refine X24.ldc2Long hx hown (mvT hZ (hw _ (List.mem_of_getElem? (i := 19) rfl))) (g := (mkF m 142 #[.val (.long q1), .second, .val (.int p1), .val (.int p2), .unset, .unset, .unset, .unset, .unset, .unset] [(.int (21 : Int32)), (.ref t1), (.ref t1)])) rfl (hb hby at_142) _ ?_
  show Steps p.tables e below (T24.setTop (mkF m 145 #[.val (.long q1), .second, .val (.int p1), .val (.int p2), .unset, .unset, .unset, .unset, .unset, .unset] [(.long (10946 : Int64)), (.int (21 : Int32)), (.ref t1), (.ref t1)])) _
  refine st25 _ ?_
  show Steps p.tables e below (T25.setTop (mkF m 146 #[.val (.long q1), .second, .val (.int p1), .val (.int p2), .unset, .unset, .unset, .unset, .unset, .unset] [(.ref t1)])) _
  refine XS.dup X25.here hx rfl (hb hby at_146) rfl rfl ?_
  show Steps p.tables e below (T25.setTop (mkF m 147 #[.val (.long q1), .second, .val (.int p1), .val (.int p2), .unset, .unset, .unset, .unset, .unset, .unset] [(.ref t1), (.ref t1)])) _
  refine XS.bipush X25.here hx rfl (hb hby at_147) ?_
  show Steps p.tables e below (T25.setTop (mkF m 149 #[.val (.long q1), .second, .val (.int p1), .val (.int p2), .unset, .unset, .unset, .unset, .unset, .unset] [(.int (22 : Int32)), (.ref t1), (.ref t1)])) _
  refine X25.ldc2Long hx hown (mvT hZ (hw _ (List.mem_of_getElem? (i := 20) rfl))) (g := (mkF m 149 #[.val (.long q1), .second, .val (.int p1), .val (.int p2), .unset, .unset, .unset, .unset, .unset, .unset] [(.int (22 : Int32)), (.ref t1), (.ref t1)])) rfl (hb hby at_149) _ ?_
  show Steps p.tables e below (T25.setTop (mkF m 152 #[.val (.long q1), .second, .val (.int p1), .val (.int p2), .unset, .unset, .unset, .unset, .unset, .unset] [(.long (17711 : Int64)), (.int (22 : Int32)), (.ref t1), (.ref t1)])) _
  refine st26 _ ?_
  show Steps p.tables e below (T26.setTop (mkF m 153 #[.val (.long q1), .second, .val (.int p1), .val (.int p2), .unset, .unset, .unset, .unset, .unset, .unset] [(.ref t1)])) _
  refine XS.dup X26.here hx rfl (hb hby at_153) rfl rfl ?_
  show Steps p.tables e below (T26.setTop (mkF m 154 #[.val (.long q1), .second, .val (.int p1), .val (.int p2), .unset, .unset, .unset, .unset, .unset, .unset] [(.ref t1), (.ref t1)])) _
  refine XS.bipush X26.here hx rfl (hb hby at_154) ?_
  show Steps p.tables e below (T26.setTop (mkF m 156 #[.val (.long q1), .second, .val (.int p1), .val (.int p2), .unset, .unset, .unset, .unset, .unset, .unset] [(.int (23 : Int32)), (.ref t1), (.ref t1)])) _
  refine X26.ldc2Long hx hown (mvT hZ (hw _ (List.mem_of_getElem? (i := 21) rfl))) (g := (mkF m 156 #[.val (.long q1), .second, .val (.int p1), .val (.int p2), .unset, .unset, .unset, .unset, .unset, .unset] [(.int (23 : Int32)), (.ref t1), (.ref t1)])) rfl (hb hby at_156) _ ?_
  show Steps p.tables e below (T26.setTop (mkF m 159 #[.val (.long q1), .second, .val (.int p1), .val (.int p2), .unset, .unset, .unset, .unset, .unset, .unset] [(.long (28657 : Int64)), (.int (23 : Int32)), (.ref t1), (.ref t1)])) _
  refine st27 _ ?_
  show Steps p.tables e below (T27.setTop (mkF m 160 #[.val (.long q1), .second, .val (.int p1), .val (.int p2), .unset, .unset, .unset, .unset, .unset, .unset] [(.ref t1)])) _
  refine XS.dup X27.here hx rfl (hb hby at_160) rfl rfl ?_
  show Steps p.tables e below (T27.setTop (mkF m 161 #[.val (.long q1), .second, .val (.int p1), .val (.int p2), .unset, .unset, .unset, .unset, .unset, .unset] [(.ref t1), (.ref t1)])) _
  refine XS.bipush X27.here hx rfl (hb hby at_161) ?_
  show Steps p.tables e below (T27.setTop (mkF m 163 #[.val (.long q1), .second, .val (.int p1), .val (.int p2), .unset, .unset, .unset, .unset, .unset, .unset] [(.int (24 : Int32)), (.ref t1), (.ref t1)])) _
  refine X27.ldc2Long hx hown (mvT hZ (hw _ (List.mem_of_getElem? (i := 22) rfl))) (g := (mkF m 163 #[.val (.long q1), .second, .val (.int p1), .val (.int p2), .unset, .unset, .unset, .unset, .unset, .unset] [(.int (24 : Int32)), (.ref t1), (.ref t1)])) rfl (hb hby at_163) _ ?_
  show Steps p.tables e below (T27.setTop (mkF m 166 #[.val (.long q1), .second, .val (.int p1), .val (.int p2), .unset, .unset, .unset, .unset, .unset, .unset] [(.long (46368 : Int64)), (.int (24 : Int32)), (.ref t1), (.ref t1)])) _
  refine st28 _ ?_
  show Steps p.tables e below (T28.setTop (mkF m 167 #[.val (.long q1), .second, .val (.int p1), .val (.int p2), .unset, .unset, .unset, .unset, .unset, .unset] [(.ref t1)])) _
  refine XS.dup X28.here hx rfl (hb hby at_167) rfl rfl ?_
  show Steps p.tables e below (T28.setTop (mkF m 168 #[.val (.long q1), .second, .val (.int p1), .val (.int p2), .unset, .unset, .unset, .unset, .unset, .unset] [(.ref t1), (.ref t1)])) _
  refine XS.bipush X28.here hx rfl (hb hby at_168) ?_
  show Steps p.tables e below (T28.setTop (mkF m 170 #[.val (.long q1), .second, .val (.int p1), .val (.int p2), .unset, .unset, .unset, .unset, .unset, .unset] [(.int (25 : Int32)), (.ref t1), (.ref t1)])) _
  refine X28.ldc2Long hx hown (mvT hZ (hw _ (List.mem_of_getElem? (i := 23) rfl))) (g := (mkF m 170 #[.val (.long q1), .second, .val (.int p1), .val (.int p2), .unset, .unset, .unset, .unset, .unset, .unset] [(.int (25 : Int32)), (.ref t1), (.ref t1)])) rfl (hb hby at_170) _ ?_
  show Steps p.tables e below (T28.setTop (mkF m 173 #[.val (.long q1), .second, .val (.int p1), .val (.int p2), .unset, .unset, .unset, .unset, .unset, .unset] [(.long (75025 : Int64)), (.int (25 : Int32)), (.ref t1), (.ref t1)])) _
  refine st29 _ ?_
  show Steps p.tables e below (T29.setTop (mkF m 174 #[.val (.long q1), .second, .val (.int p1), .val (.int p2), .unset, .unset, .unset, .unset, .unset, .unset] [(.ref t1)])) _
  refine XS.dup X29.here hx rfl (hb hby at_174) rfl rfl ?_
  show Steps p.tables e below (T29.setTop (mkF m 175 #[.val (.long q1), .second, .val (.int p1), .val (.int p2), .unset, .unset, .unset, .unset, .unset, .unset] [(.ref t1), (.ref t1)])) _
  refine XS.bipush X29.here hx rfl (hb hby at_175) ?_
  show Steps p.tables e below (T29.setTop (mkF m 177 #[.val (.long q1), .second, .val (.int p1), .val (.int p2), .unset, .unset, .unset, .unset, .unset, .unset] [(.int (26 : Int32)), (.ref t1), (.ref t1)])) _
  refine X29.ldc2Long hx hown (mvT hZ (hw _ (List.mem_of_getElem? (i := 24) rfl))) (g := (mkF m 177 #[.val (.long q1), .second, .val (.int p1), .val (.int p2), .unset, .unset, .unset, .unset, .unset, .unset] [(.int (26 : Int32)), (.ref t1), (.ref t1)])) rfl (hb hby at_177) _ ?_
  show Steps p.tables e below (T29.setTop (mkF m 180 #[.val (.long q1), .second, .val (.int p1), .val (.int p2), .unset, .unset, .unset, .unset, .unset, .unset] [(.long (121393 : Int64)), (.int (26 : Int32)), (.ref t1), (.ref t1)])) _
  refine st30 _ ?_
  show Steps p.tables e below (T30.setTop (mkF m 181 #[.val (.long q1), .second, .val (.int p1), .val (.int p2), .unset, .unset, .unset, .unset, .unset, .unset] [(.ref t1)])) _
  refine XS.dup X30.here hx rfl (hb hby at_181) rfl rfl ?_
  show Steps p.tables e below (T30.setTop (mkF m 182 #[.val (.long q1), .second, .val (.int p1), .val (.int p2), .unset, .unset, .unset, .unset, .unset, .unset] [(.ref t1), (.ref t1)])) _
  refine XS.bipush X30.here hx rfl (hb hby at_182) ?_
  show Steps p.tables e below (T30.setTop (mkF m 184 #[.val (.long q1), .second, .val (.int p1), .val (.int p2), .unset, .unset, .unset, .unset, .unset, .unset] [(.int (27 : Int32)), (.ref t1), (.ref t1)])) _
  refine X30.ldc2Long hx hown (mvT hZ (hw _ (List.mem_of_getElem? (i := 25) rfl))) (g := (mkF m 184 #[.val (.long q1), .second, .val (.int p1), .val (.int p2), .unset, .unset, .unset, .unset, .unset, .unset] [(.int (27 : Int32)), (.ref t1), (.ref t1)])) rfl (hb hby at_184) _ ?_
  show Steps p.tables e below (T30.setTop (mkF m 187 #[.val (.long q1), .second, .val (.int p1), .val (.int p2), .unset, .unset, .unset, .unset, .unset, .unset] [(.long (196418 : Int64)), (.int (27 : Int32)), (.ref t1), (.ref t1)])) _
  refine st31 _ ?_
  show Steps p.tables e below (T31.setTop (mkF m 188 #[.val (.long q1), .second, .val (.int p1), .val (.int p2), .unset, .unset, .unset, .unset, .unset, .unset] [(.ref t1)])) _
  refine XS.dup X31.here hx rfl (hb hby at_188) rfl rfl ?_
  show Steps p.tables e below (T31.setTop (mkF m 189 #[.val (.long q1), .second, .val (.int p1), .val (.int p2), .unset, .unset, .unset, .unset, .unset, .unset] [(.ref t1), (.ref t1)])) _
  refine XS.bipush X31.here hx rfl (hb hby at_189) ?_
  show Steps p.tables e below (T31.setTop (mkF m 191 #[.val (.long q1), .second, .val (.int p1), .val (.int p2), .unset, .unset, .unset, .unset, .unset, .unset] [(.int (28 : Int32)), (.ref t1), (.ref t1)])) _
  refine X31.ldc2Long hx hown (mvT hZ (hw _ (List.mem_of_getElem? (i := 26) rfl))) (g := (mkF m 191 #[.val (.long q1), .second, .val (.int p1), .val (.int p2), .unset, .unset, .unset, .unset, .unset, .unset] [(.int (28 : Int32)), (.ref t1), (.ref t1)])) rfl (hb hby at_191) _ ?_
  show Steps p.tables e below (T31.setTop (mkF m 194 #[.val (.long q1), .second, .val (.int p1), .val (.int p2), .unset, .unset, .unset, .unset, .unset, .unset] [(.long (317811 : Int64)), (.int (28 : Int32)), (.ref t1), (.ref t1)])) _
  refine st32 _ ?_
  show Steps p.tables e below (T32.setTop (mkF m 195 #[.val (.long q1), .second, .val (.int p1), .val (.int p2), .unset, .unset, .unset, .unset, .unset, .unset] [(.ref t1)])) _
  refine XS.dup X32.here hx rfl (hb hby at_195) rfl rfl ?_
  show Steps p.tables e below (T32.setTop (mkF m 196 #[.val (.long q1), .second, .val (.int p1), .val (.int p2), .unset, .unset, .unset, .unset, .unset, .unset] [(.ref t1), (.ref t1)])) _
  refine XS.bipush X32.here hx rfl (hb hby at_196) ?_
  show Steps p.tables e below (T32.setTop (mkF m 198 #[.val (.long q1), .second, .val (.int p1), .val (.int p2), .unset, .unset, .unset, .unset, .unset, .unset] [(.int (29 : Int32)), (.ref t1), (.ref t1)])) _
  refine X32.ldc2Long hx hown (mvT hZ (hw _ (List.mem_of_getElem? (i := 27) rfl))) (g := (mkF m 198 #[.val (.long q1), .second, .val (.int p1), .val (.int p2), .unset, .unset, .unset, .unset, .unset, .unset] [(.int (29 : Int32)), (.ref t1), (.ref t1)])) rfl (hb hby at_198) _ ?_
  show Steps p.tables e below (T32.setTop (mkF m 201 #[.val (.long q1), .second, .val (.int p1), .val (.int p2), .unset, .unset, .unset, .unset, .unset, .unset] [(.long (514229 : Int64)), (.int (29 : Int32)), (.ref t1), (.ref t1)])) _
  refine st33 _ ?_
  show Steps p.tables e below (T33.setTop (mkF m 202 #[.val (.long q1), .second, .val (.int p1), .val (.int p2), .unset, .unset, .unset, .unset, .unset, .unset] [(.ref t1)])) _
  refine XS.dup X33.here hx rfl (hb hby at_202) rfl rfl ?_
  show Steps p.tables e below (T33.setTop (mkF m 203 #[.val (.long q1), .second, .val (.int p1), .val (.int p2), .unset, .unset, .unset, .unset, .unset, .unset] [(.ref t1), (.ref t1)])) _
  refine XS.bipush X33.here hx rfl (hb hby at_203) ?_
  show Steps p.tables e below (T33.setTop (mkF m 205 #[.val (.long q1), .second, .val (.int p1), .val (.int p2), .unset, .unset, .unset, .unset, .unset, .unset] [(.int (30 : Int32)), (.ref t1), (.ref t1)])) _
  refine X33.ldc2Long hx hown (mvT hZ (hw _ (List.mem_of_getElem? (i := 28) rfl))) (g := (mkF m 205 #[.val (.long q1), .second, .val (.int p1), .val (.int p2), .unset, .unset, .unset, .unset, .unset, .unset] [(.int (30 : Int32)), (.ref t1), (.ref t1)])) rfl (hb hby at_205) _ ?_
  show Steps p.tables e below (T33.setTop (mkF m 208 #[.val (.long q1), .second, .val (.int p1), .val (.int p2), .unset, .unset, .unset, .unset, .unset, .unset] [(.long (832040 : Int64)), (.int (30 : Int32)), (.ref t1), (.ref t1)])) _
  refine st34 _ ?_
  show Steps p.tables e below (T34.setTop (mkF m 209 #[.val (.long q1), .second, .val (.int p1), .val (.int p2), .unset, .unset, .unset, .unset, .unset, .unset] [(.ref t1)])) _
  refine XS.dup X34.here hx rfl (hb hby at_209) rfl rfl ?_
  show Steps p.tables e below (T34.setTop (mkF m 210 #[.val (.long q1), .second, .val (.int p1), .val (.int p2), .unset, .unset, .unset, .unset, .unset, .unset] [(.ref t1), (.ref t1)])) _
  refine XS.bipush X34.here hx rfl (hb hby at_210) ?_
  show Steps p.tables e below (T34.setTop (mkF m 212 #[.val (.long q1), .second, .val (.int p1), .val (.int p2), .unset, .unset, .unset, .unset, .unset, .unset] [(.int (31 : Int32)), (.ref t1), (.ref t1)])) _
  refine X34.ldc2Long hx hown (mvT hZ (hw _ (List.mem_of_getElem? (i := 29) rfl))) (g := (mkF m 212 #[.val (.long q1), .second, .val (.int p1), .val (.int p2), .unset, .unset, .unset, .unset, .unset, .unset] [(.int (31 : Int32)), (.ref t1), (.ref t1)])) rfl (hb hby at_212) _ ?_
  show Steps p.tables e below (T34.setTop (mkF m 215 #[.val (.long q1), .second, .val (.int p1), .val (.int p2), .unset, .unset, .unset, .unset, .unset, .unset] [(.long (1346269 : Int64)), (.int (31 : Int32)), (.ref t1), (.ref t1)])) _
  refine st35 _ ?_
  show Steps p.tables e below (T35.setTop (mkF m 216 #[.val (.long q1), .second, .val (.int p1), .val (.int p2), .unset, .unset, .unset, .unset, .unset, .unset] [(.ref t1)])) _
  refine XS.dup X35.here hx rfl (hb hby at_216) rfl rfl ?_
  show Steps p.tables e below (T35.setTop (mkF m 217 #[.val (.long q1), .second, .val (.int p1), .val (.int p2), .unset, .unset, .unset, .unset, .unset, .unset] [(.ref t1), (.ref t1)])) _
  refine XS.bipush X35.here hx rfl (hb hby at_217) ?_
  show Steps p.tables e below (T35.setTop (mkF m 219 #[.val (.long q1), .second, .val (.int p1), .val (.int p2), .unset, .unset, .unset, .unset, .unset, .unset] [(.int (32 : Int32)), (.ref t1), (.ref t1)])) _
  refine X35.ldc2Long hx hown (mvT hZ (hw _ (List.mem_of_getElem? (i := 30) rfl))) (g := (mkF m 219 #[.val (.long q1), .second, .val (.int p1), .val (.int p2), .unset, .unset, .unset, .unset, .unset, .unset] [(.int (32 : Int32)), (.ref t1), (.ref t1)])) rfl (hb hby at_219) _ ?_
  show Steps p.tables e below (T35.setTop (mkF m 222 #[.val (.long q1), .second, .val (.int p1), .val (.int p2), .unset, .unset, .unset, .unset, .unset, .unset] [(.long (2178309 : Int64)), (.int (32 : Int32)), (.ref t1), (.ref t1)])) _
  refine st36 _ ?_
  show Steps p.tables e below (T36.setTop (mkF m 223 #[.val (.long q1), .second, .val (.int p1), .val (.int p2), .unset, .unset, .unset, .unset, .unset, .unset] [(.ref t1)])) _
  refine XS.dup X36.here hx rfl (hb hby at_223) rfl rfl ?_
  show Steps p.tables e below (T36.setTop (mkF m 224 #[.val (.long q1), .second, .val (.int p1), .val (.int p2), .unset, .unset, .unset, .unset, .unset, .unset] [(.ref t1), (.ref t1)])) _
  refine XS.bipush X36.here hx rfl (hb hby at_224) ?_
  show Steps p.tables e below (T36.setTop (mkF m 226 #[.val (.long q1), .second, .val (.int p1), .val (.int p2), .unset, .unset, .unset, .unset, .unset, .unset] [(.int (33 : Int32)), (.ref t1), (.ref t1)])) _
  refine X36.ldc2Long hx hown (mvT hZ (hw _ (List.mem_of_getElem? (i := 31) rfl))) (g := (mkF m 226 #[.val (.long q1), .second, .val (.int p1), .val (.int p2), .unset, .unset, .unset, .unset, .unset, .unset] [(.int (33 : Int32)), (.ref t1), (.ref t1)])) rfl (hb hby at_226) _ ?_
  show Steps p.tables e below (T36.setTop (mkF m 229 #[.val (.long q1), .second, .val (.int p1), .val (.int p2), .unset, .unset, .unset, .unset, .unset, .unset] [(.long (3524578 : Int64)), (.int (33 : Int32)), (.ref t1), (.ref t1)])) _
  refine st37 _ ?_
  show Steps p.tables e below (T37.setTop (mkF m 230 #[.val (.long q1), .second, .val (.int p1), .val (.int p2), .unset, .unset, .unset, .unset, .unset, .unset] [(.ref t1)])) _
  refine XS.dup X37.here hx rfl (hb hby at_230) rfl rfl ?_
  show Steps p.tables e below (T37.setTop (mkF m 231 #[.val (.long q1), .second, .val (.int p1), .val (.int p2), .unset, .unset, .unset, .unset, .unset, .unset] [(.ref t1), (.ref t1)])) _
  refine XS.bipush X37.here hx rfl (hb hby at_231) ?_
  show Steps p.tables e below (T37.setTop (mkF m 233 #[.val (.long q1), .second, .val (.int p1), .val (.int p2), .unset, .unset, .unset, .unset, .unset, .unset] [(.int (34 : Int32)), (.ref t1), (.ref t1)])) _
  refine X37.ldc2Long hx hown (mvT hZ (hw _ (List.mem_of_getElem? (i := 32) rfl))) (g := (mkF m 233 #[.val (.long q1), .second, .val (.int p1), .val (.int p2), .unset, .unset, .unset, .unset, .unset, .unset] [(.int (34 : Int32)), (.ref t1), (.ref t1)])) rfl (hb hby at_233) _ ?_
  show Steps p.tables e below (T37.setTop (mkF m 236 #[.val (.long q1), .second, .val (.int p1), .val (.int p2), .unset, .unset, .unset, .unset, .unset, .unset] [(.long (5702887 : Int64)), (.int (34 : Int32)), (.ref t1), (.ref t1)])) _
  refine st38 _ ?_
  show Steps p.tables e below (T38.setTop (mkF m 237 #[.val (.long q1), .second, .val (.int p1), .val (.int p2), .unset, .unset, .unset, .unset, .unset, .unset] [(.ref t1)])) _
  refine XS.dup X38.here hx rfl (hb hby at_237) rfl rfl ?_
  show Steps p.tables e below (T38.setTop (mkF m 238 #[.val (.long q1), .second, .val (.int p1), .val (.int p2), .unset, .unset, .unset, .unset, .unset, .unset] [(.ref t1), (.ref t1)])) _
  refine XS.bipush X38.here hx rfl (hb hby at_238) ?_
  show Steps p.tables e below (T38.setTop (mkF m 240 #[.val (.long q1), .second, .val (.int p1), .val (.int p2), .unset, .unset, .unset, .unset, .unset, .unset] [(.int (35 : Int32)), (.ref t1), (.ref t1)])) _
  refine X38.ldc2Long hx hown (mvT hZ (hw _ (List.mem_of_getElem? (i := 33) rfl))) (g := (mkF m 240 #[.val (.long q1), .second, .val (.int p1), .val (.int p2), .unset, .unset, .unset, .unset, .unset, .unset] [(.int (35 : Int32)), (.ref t1), (.ref t1)])) rfl (hb hby at_240) _ ?_
  show Steps p.tables e below (T38.setTop (mkF m 243 #[.val (.long q1), .second, .val (.int p1), .val (.int p2), .unset, .unset, .unset, .unset, .unset, .unset] [(.long (9227465 : Int64)), (.int (35 : Int32)), (.ref t1), (.ref t1)])) _
  refine st39 _ ?_
  show Steps p.tables e below (T39.setTop (mkF m 244 #[.val (.long q1), .second, .val (.int p1), .val (.int p2), .unset, .unset, .unset, .unset, .unset, .unset] [(.ref t1)])) _
  refine XS.dup X39.here hx rfl (hb hby at_244) rfl rfl ?_
  show Steps p.tables e below (T39.setTop (mkF m 245 #[.val (.long q1), .second, .val (.int p1), .val (.int p2), .unset, .unset, .unset, .unset, .unset, .unset] [(.ref t1), (.ref t1)])) _
  refine XS.bipush X39.here hx rfl (hb hby at_245) ?_
  show Steps p.tables e below (T39.setTop (mkF m 247 #[.val (.long q1), .second, .val (.int p1), .val (.int p2), .unset, .unset, .unset, .unset, .unset, .unset] [(.int (36 : Int32)), (.ref t1), (.ref t1)])) _
  refine X39.ldc2Long hx hown (mvT hZ (hw _ (List.mem_of_getElem? (i := 34) rfl))) (g := (mkF m 247 #[.val (.long q1), .second, .val (.int p1), .val (.int p2), .unset, .unset, .unset, .unset, .unset, .unset] [(.int (36 : Int32)), (.ref t1), (.ref t1)])) rfl (hb hby at_247) _ ?_
  show Steps p.tables e below (T39.setTop (mkF m 250 #[.val (.long q1), .second, .val (.int p1), .val (.int p2), .unset, .unset, .unset, .unset, .unset, .unset] [(.long (14930352 : Int64)), (.int (36 : Int32)), (.ref t1), (.ref t1)])) _
  refine st40 _ ?_
  show Steps p.tables e below (T40.setTop (mkF m 251 #[.val (.long q1), .second, .val (.int p1), .val (.int p2), .unset, .unset, .unset, .unset, .unset, .unset] [(.ref t1)])) _
  refine XS.dup X40.here hx rfl (hb hby at_251) rfl rfl ?_
  show Steps p.tables e below (T40.setTop (mkF m 252 #[.val (.long q1), .second, .val (.int p1), .val (.int p2), .unset, .unset, .unset, .unset, .unset, .unset] [(.ref t1), (.ref t1)])) _
  refine XS.bipush X40.here hx rfl (hb hby at_252) ?_
  show Steps p.tables e below (T40.setTop (mkF m 254 #[.val (.long q1), .second, .val (.int p1), .val (.int p2), .unset, .unset, .unset, .unset, .unset, .unset] [(.int (37 : Int32)), (.ref t1), (.ref t1)])) _
  refine X40.ldc2Long hx hown (mvT hZ (hw _ (List.mem_of_getElem? (i := 35) rfl))) (g := (mkF m 254 #[.val (.long q1), .second, .val (.int p1), .val (.int p2), .unset, .unset, .unset, .unset, .unset, .unset] [(.int (37 : Int32)), (.ref t1), (.ref t1)])) rfl (hb hby at_254) _ ?_
  show Steps p.tables e below (T40.setTop (mkF m 257 #[.val (.long q1), .second, .val (.int p1), .val (.int p2), .unset, .unset, .unset, .unset, .unset, .unset] [(.long (24157817 : Int64)), (.int (37 : Int32)), (.ref t1), (.ref t1)])) _
  refine st41 _ ?_
  show Steps p.tables e below (T41.setTop (mkF m 258 #[.val (.long q1), .second, .val (.int p1), .val (.int p2), .unset, .unset, .unset, .unset, .unset, .unset] [(.ref t1)])) _
  refine XS.dup X41.here hx rfl (hb hby at_258) rfl rfl ?_
  show Steps p.tables e below (T41.setTop (mkF m 259 #[.val (.long q1), .second, .val (.int p1), .val (.int p2), .unset, .unset, .unset, .unset, .unset, .unset] [(.ref t1), (.ref t1)])) _
  refine XS.bipush X41.here hx rfl (hb hby at_259) ?_
  show Steps p.tables e below (T41.setTop (mkF m 261 #[.val (.long q1), .second, .val (.int p1), .val (.int p2), .unset, .unset, .unset, .unset, .unset, .unset] [(.int (38 : Int32)), (.ref t1), (.ref t1)])) _
  refine X41.ldc2Long hx hown (mvT hZ (hw _ (List.mem_of_getElem? (i := 36) rfl))) (g := (mkF m 261 #[.val (.long q1), .second, .val (.int p1), .val (.int p2), .unset, .unset, .unset, .unset, .unset, .unset] [(.int (38 : Int32)), (.ref t1), (.ref t1)])) rfl (hb hby at_261) _ ?_
  show Steps p.tables e below (T41.setTop (mkF m 264 #[.val (.long q1), .second, .val (.int p1), .val (.int p2), .unset, .unset, .unset, .unset, .unset, .unset] [(.long (39088169 : Int64)), (.int (38 : Int32)), (.ref t1), (.ref t1)])) _
  refine st42 _ ?_
  show Steps p.tables e below (T42.setTop (mkF m 265 #[.val (.long q1), .second, .val (.int p1), .val (.int p2), .unset, .unset, .unset, .unset, .unset, .unset] [(.ref t1)])) _
  refine XS.dup X42.here hx rfl (hb hby at_265) rfl rfl ?_
  show Steps p.tables e below (T42.setTop (mkF m 266 #[.val (.long q1), .second, .val (.int p1), .val (.int p2), .unset, .unset, .unset, .unset, .unset, .unset] [(.ref t1), (.ref t1)])) _
  refine XS.bipush X42.here hx rfl (hb hby at_266) ?_
  show Steps p.tables e below (T42.setTop (mkF m 268 #[.val (.long q1), .second, .val (.int p1), .val (.int p2), .unset, .unset, .unset, .unset, .unset, .unset] [(.int (39 : Int32)), (.ref t1), (.ref t1)])) _
  refine X42.ldc2Long hx hown (mvT hZ (hw _ (List.mem_of_getElem? (i := 37) rfl))) (g := (mkF m 268 #[.val (.long q1), .second, .val (.int p1), .val (.int p2), .unset, .unset, .unset, .unset, .unset, .unset] [(.int (39 : Int32)), (.ref t1), (.ref t1)])) rfl (hb hby at_268) _ ?_
  show Steps p.tables e below (T42.setTop (mkF m 271 #[.val (.long q1), .second, .val (.int p1), .val (.int p2), .unset, .unset, .unset, .unset, .unset, .unset] [(.long (63245986 : Int64)), (.int (39 : Int32)), (.ref t1), (.ref t1)])) _
  refine st43 _ ?_
  show Steps p.tables e below (T43.setTop (mkF m 272 #[.val (.long q1), .second, .val (.int p1), .val (.int p2), .unset, .unset, .unset, .unset, .unset, .unset] [(.ref t1)])) _
  refine XS.dup X43.here hx rfl (hb hby at_272) rfl rfl ?_
  show Steps p.tables e below (T43.setTop (mkF m 273 #[.val (.long q1), .second, .val (.int p1), .val (.int p2), .unset, .unset, .unset, .unset, .unset, .unset] [(.ref t1), (.ref t1)])) _
  refine XS.bipush X43.here hx rfl (hb hby at_273) ?_
  show Steps p.tables e below (T43.setTop (mkF m 275 #[.val (.long q1), .second, .val (.int p1), .val (.int p2), .unset, .unset, .unset, .unset, .unset, .unset] [(.int (40 : Int32)), (.ref t1), (.ref t1)])) _
  refine X43.ldc2Long hx hown (mvT hZ (hw _ (List.mem_of_getElem? (i := 38) rfl))) (g := (mkF m 275 #[.val (.long q1), .second, .val (.int p1), .val (.int p2), .unset, .unset, .unset, .unset, .unset, .unset] [(.int (40 : Int32)), (.ref t1), (.ref t1)])) rfl (hb hby at_275) _ ?_
  show Steps p.tables e below (T43.setTop (mkF m 278 #[.val (.long q1), .second, .val (.int p1), .val (.int p2), .unset, .unset, .unset, .unset, .unset, .unset] [(.long (102334155 : Int64)), (.int (40 : Int32)), (.ref t1), (.ref t1)])) _
  refine st44 _ ?_
  show Steps p.tables e below (T44.setTop (mkF m 279 #[.val (.long q1), .second, .val (.int p1), .val (.int p2), .unset, .unset, .unset, .unset, .unset, .unset] [(.ref t1)])) _
  refine XS.dup X44.here hx rfl (hb hby at_279) rfl rfl ?_
  show Steps p.tables e below (T44.setTop (mkF m 280 #[.val (.long q1), .second, .val (.int p1), .val (.int p2), .unset, .unset, .unset, .unset, .unset, .unset] [(.ref t1), (.ref t1)])) _
  refine XS.bipush X44.here hx rfl (hb hby at_280) ?_
  show Steps p.tables e below (T44.setTop (mkF m 282 #[.val (.long q1), .second, .val (.int p1), .val (.int p2), .unset, .unset, .unset, .unset, .unset, .unset] [(.int (41 : Int32)), (.ref t1), (.ref t1)])) _
  refine X44.ldc2Long hx hown (mvT hZ (hw _ (List.mem_of_getElem? (i := 39) rfl))) (g := (mkF m 282 #[.val (.long q1), .second, .val (.int p1), .val (.int p2), .unset, .unset, .unset, .unset, .unset, .unset] [(.int (41 : Int32)), (.ref t1), (.ref t1)])) rfl (hb hby at_282) _ ?_
  show Steps p.tables e below (T44.setTop (mkF m 285 #[.val (.long q1), .second, .val (.int p1), .val (.int p2), .unset, .unset, .unset, .unset, .unset, .unset] [(.long (165580141 : Int64)), (.int (41 : Int32)), (.ref t1), (.ref t1)])) _
  refine st45 _ ?_
  show Steps p.tables e below (T45.setTop (mkF m 286 #[.val (.long q1), .second, .val (.int p1), .val (.int p2), .unset, .unset, .unset, .unset, .unset, .unset] [(.ref t1)])) _
  refine XS.dup X45.here hx rfl (hb hby at_286) rfl rfl ?_
  show Steps p.tables e below (T45.setTop (mkF m 287 #[.val (.long q1), .second, .val (.int p1), .val (.int p2), .unset, .unset, .unset, .unset, .unset, .unset] [(.ref t1), (.ref t1)])) _
  refine XS.bipush X45.here hx rfl (hb hby at_287) ?_
  show Steps p.tables e below (T45.setTop (mkF m 289 #[.val (.long q1), .second, .val (.int p1), .val (.int p2), .unset, .unset, .unset, .unset, .unset, .unset] [(.int (42 : Int32)), (.ref t1), (.ref t1)])) _
  refine X45.ldc2Long hx hown (mvT hZ (hw _ (List.mem_of_getElem? (i := 40) rfl))) (g := (mkF m 289 #[.val (.long q1), .second, .val (.int p1), .val (.int p2), .unset, .unset, .unset, .unset, .unset, .unset] [(.int (42 : Int32)), (.ref t1), (.ref t1)])) rfl (hb hby at_289) _ ?_
  show Steps p.tables e below (T45.setTop (mkF m 292 #[.val (.long q1), .second, .val (.int p1), .val (.int p2), .unset, .unset, .unset, .unset, .unset, .unset] [(.long (267914296 : Int64)), (.int (42 : Int32)), (.ref t1), (.ref t1)])) _
  refine st46 _ ?_
  show Steps p.tables e below (T46.setTop (mkF m 293 #[.val (.long q1), .second, .val (.int p1), .val (.int p2), .unset, .unset, .unset, .unset, .unset, .unset] [(.ref t1)])) _
  refine XS.dup X46.here hx rfl (hb hby at_293) rfl rfl ?_
  show Steps p.tables e below (T46.setTop (mkF m 294 #[.val (.long q1), .second, .val (.int p1), .val (.int p2), .unset, .unset, .unset, .unset, .unset, .unset] [(.ref t1), (.ref t1)])) _
  refine XS.bipush X46.here hx rfl (hb hby at_294) ?_
  show Steps p.tables e below (T46.setTop (mkF m 296 #[.val (.long q1), .second, .val (.int p1), .val (.int p2), .unset, .unset, .unset, .unset, .unset, .unset] [(.int (43 : Int32)), (.ref t1), (.ref t1)])) _
  refine X46.ldc2Long hx hown (mvT hZ (hw _ (List.mem_of_getElem? (i := 41) rfl))) (g := (mkF m 296 #[.val (.long q1), .second, .val (.int p1), .val (.int p2), .unset, .unset, .unset, .unset, .unset, .unset] [(.int (43 : Int32)), (.ref t1), (.ref t1)])) rfl (hb hby at_296) _ ?_
  show Steps p.tables e below (T46.setTop (mkF m 299 #[.val (.long q1), .second, .val (.int p1), .val (.int p2), .unset, .unset, .unset, .unset, .unset, .unset] [(.long (433494437 : Int64)), (.int (43 : Int32)), (.ref t1), (.ref t1)])) _
  refine st47 _ ?_
  show Steps p.tables e below (T47.setTop (mkF m 300 #[.val (.long q1), .second, .val (.int p1), .val (.int p2), .unset, .unset, .unset, .unset, .unset, .unset] [(.ref t1)])) _
  refine XS.dup X47.here hx rfl (hb hby at_300) rfl rfl ?_
  show Steps p.tables e below (T47.setTop (mkF m 301 #[.val (.long q1), .second, .val (.int p1), .val (.int p2), .unset, .unset, .unset, .unset, .unset, .unset] [(.ref t1), (.ref t1)])) _
  refine XS.bipush X47.here hx rfl (hb hby at_301) ?_
  show Steps p.tables e below (T47.setTop (mkF m 303 #[.val (.long q1), .second, .val (.int p1), .val (.int p2), .unset, .unset, .unset, .unset, .unset, .unset] [(.int (44 : Int32)), (.ref t1), (.ref t1)])) _
  refine X47.ldc2Long hx hown (mvT hZ (hw _ (List.mem_of_getElem? (i := 42) rfl))) (g := (mkF m 303 #[.val (.long q1), .second, .val (.int p1), .val (.int p2), .unset, .unset, .unset, .unset, .unset, .unset] [(.int (44 : Int32)), (.ref t1), (.ref t1)])) rfl (hb hby at_303) _ ?_
  show Steps p.tables e below (T47.setTop (mkF m 306 #[.val (.long q1), .second, .val (.int p1), .val (.int p2), .unset, .unset, .unset, .unset, .unset, .unset] [(.long (701408733 : Int64)), (.int (44 : Int32)), (.ref t1), (.ref t1)])) _
  refine st48 _ ?_
  show Steps p.tables e below (T48.setTop (mkF m 307 #[.val (.long q1), .second, .val (.int p1), .val (.int p2), .unset, .unset, .unset, .unset, .unset, .unset] [(.ref t1)])) _
  refine XS.dup X48.here hx rfl (hb hby at_307) rfl rfl ?_
  show Steps p.tables e below (T48.setTop (mkF m 308 #[.val (.long q1), .second, .val (.int p1), .val (.int p2), .unset, .unset, .unset, .unset, .unset, .unset] [(.ref t1), (.ref t1)])) _
  refine XS.bipush X48.here hx rfl (hb hby at_308) ?_
  show Steps p.tables e below (T48.setTop (mkF m 310 #[.val (.long q1), .second, .val (.int p1), .val (.int p2), .unset, .unset, .unset, .unset, .unset, .unset] [(.int (45 : Int32)), (.ref t1), (.ref t1)])) _
  refine X48.ldc2Long hx hown (mvT hZ (hw _ (List.mem_of_getElem? (i := 43) rfl))) (g := (mkF m 310 #[.val (.long q1), .second, .val (.int p1), .val (.int p2), .unset, .unset, .unset, .unset, .unset, .unset] [(.int (45 : Int32)), (.ref t1), (.ref t1)])) rfl (hb hby at_310) _ ?_
  show Steps p.tables e below (T48.setTop (mkF m 313 #[.val (.long q1), .second, .val (.int p1), .val (.int p2), .unset, .unset, .unset, .unset, .unset, .unset] [(.long (1134903170 : Int64)), (.int (45 : Int32)), (.ref t1), (.ref t1)])) _
  refine st49 _ ?_
  show Steps p.tables e below (T49.setTop (mkF m 314 #[.val (.long q1), .second, .val (.int p1), .val (.int p2), .unset, .unset, .unset, .unset, .unset, .unset] [(.ref t1)])) _
  refine XS.dup X49.here hx rfl (hb hby at_314) rfl rfl ?_
  show Steps p.tables e below (T49.setTop (mkF m 315 #[.val (.long q1), .second, .val (.int p1), .val (.int p2), .unset, .unset, .unset, .unset, .unset, .unset] [(.ref t1), (.ref t1)])) _
  refine XS.bipush X49.here hx rfl (hb hby at_315) ?_
  show Steps p.tables e below (T49.setTop (mkF m 317 #[.val (.long q1), .second, .val (.int p1), .val (.int p2), .unset, .unset, .unset, .unset, .unset, .unset] [(.int (46 : Int32)), (.ref t1), (.ref t1)])) _
  refine X49.ldc2Long hx hown (mvT hZ (hw _ (List.mem_of_getElem? (i := 44) rfl))) (g := (mkF m 317 #[.val (.long q1), .second, .val (.int p1), .val (.int p2), .unset, .unset, .unset, .unset, .unset, .unset] [(.int (46 : Int32)), (.ref t1), (.ref t1)])) rfl (hb hby at_317) _ ?_
  show Steps p.tables e below (T49.setTop (mkF m 320 #[.val (.long q1), .second, .val (.int p1), .val (.int p2), .unset, .unset, .unset, .unset, .unset, .unset] [(.long (1836311903 : Int64)), (.int (46 : Int32)), (.ref t1), (.ref t1)])) _
  refine st50 _ ?_
  show Steps p.tables e below (T50.setTop (mkF m 321 #[.val (.long q1), .second, .val (.int p1), .val (.int p2), .unset, .unset, .unset, .unset, .unset, .unset] [(.ref t1)])) _
  refine XS.dup X50.here hx rfl (hb hby at_321) rfl rfl ?_
  show Steps p.tables e below (T50.setTop (mkF m 322 #[.val (.long q1), .second, .val (.int p1), .val (.int p2), .unset, .unset, .unset, .unset, .unset, .unset] [(.ref t1), (.ref t1)])) _
  refine XS.bipush X50.here hx rfl (hb hby at_322) ?_
  show Steps p.tables e below (T50.setTop (mkF m 324 #[.val (.long q1), .second, .val (.int p1), .val (.int p2), .unset, .unset, .unset, .unset, .unset, .unset] [(.int (47 : Int32)), (.ref t1), (.ref t1)])) _
  refine X50.ldc2Long hx hown (mvT hZ (hw _ (List.mem_of_getElem? (i := 45) rfl))) (g := (mkF m 324 #[.val (.long q1), .second, .val (.int p1), .val (.int p2), .unset, .unset, .unset, .unset, .unset, .unset] [(.int (47 : Int32)), (.ref t1), (.ref t1)])) rfl (hb hby at_324) _ ?_
  show Steps p.tables e below (T50.setTop (mkF m 327 #[.val (.long q1), .second, .val (.int p1), .val (.int p2), .unset, .unset, .unset, .unset, .unset, .unset] [(.long (2971215073 : Int64)), (.int (47 : Int32)), (.ref t1), (.ref t1)])) _
  refine st51 _ ?_
  show Steps p.tables e below (T51.setTop (mkF m 328 #[.val (.long q1), .second, .val (.int p1), .val (.int p2), .unset, .unset, .unset, .unset, .unset, .unset] [(.ref t1)])) _
  refine XS.dup X51.here hx rfl (hb hby at_328) rfl rfl ?_
  show Steps p.tables e below (T51.setTop (mkF m 329 #[.val (.long q1), .second, .val (.int p1), .val (.int p2), .unset, .unset, .unset, .unset, .unset, .unset] [(.ref t1), (.ref t1)])) _
  refine XS.bipush X51.here hx rfl (hb hby at_329) ?_
  show Steps p.tables e below (T51.setTop (mkF m 331 #[.val (.long q1), .second, .val (.int p1), .val (.int p2), .unset, .unset, .unset, .unset, .unset, .unset] [(.int (48 : Int32)), (.ref t1), (.ref t1)])) _
  refine X51.ldc2Long hx hown (mvT hZ (hw _ (List.mem_of_getElem? (i := 46) rfl))) (g := (mkF m 331 #[.val (.long q1), .second, .val (.int p1), .val (.int p2), .unset, .unset, .unset, .unset, .unset, .unset] [(.int (48 : Int32)), (.ref t1), (.ref t1)])) rfl (hb hby at_331) _ ?_
  show Steps p.tables e below (T51.setTop (mkF m 334 #[.val (.long q1), .second, .val (.int p1), .val (.int p2), .unset, .unset, .unset, .unset, .unset, .unset] [(.long (4807526976 : Int64)), (.int (48 : Int32)), (.ref t1), (.ref t1)])) _
  refine st52 _ ?_
  show Steps p.tables e below (T52.setTop (mkF m 335 #[.val (.long q1), .second, .val (.int p1), .val (.int p2), .unset, .unset, .unset, .unset, .unset, .unset] [(.ref t1)])) _
  refine XS.dup X52.here hx rfl (hb hby at_335) rfl rfl ?_
  show Steps p.tables e below (T52.setTop (mkF m 336 #[.val (.long q1), .second, .val (.int p1), .val (.int p2), .unset, .unset, .unset, .unset, .unset, .unset] [(.ref t1), (.ref t1)])) _
  refine XS.bipush X52.here hx rfl (hb hby at_336) ?_
  show Steps p.tables e below (T52.setTop (mkF m 338 #[.val (.long q1), .second, .val (.int p1), .val (.int p2), .unset, .unset, .unset, .unset, .unset, .unset] [(.int (49 : Int32)), (.ref t1), (.ref t1)])) _
  refine X52.ldc2Long hx hown (mvT hZ (hw _ (List.mem_of_getElem? (i := 47) rfl))) (g := (mkF m 338 #[.val (.long q1), .second, .val (.int p1), .val (.int p2), .unset, .unset, .unset, .unset, .unset, .unset] [(.int (49 : Int32)), (.ref t1), (.ref t1)])) rfl (hb hby at_338) _ ?_
  show Steps p.tables e below (T52.setTop (mkF m 341 #[.val (.long q1), .second, .val (.int p1), .val (.int p2), .unset, .unset, .unset, .unset, .unset, .unset] [(.long (7778742049 : Int64)), (.int (49 : Int32)), (.ref t1), (.ref t1)])) _
  refine st53 _ ?_
  show Steps p.tables e below (T53.setTop (mkF m 342 #[.val (.long q1), .second, .val (.int p1), .val (.int p2), .unset, .unset, .unset, .unset, .unset, .unset] [(.ref t1)])) _
  refine XS.dup X53.here hx rfl (hb hby at_342) rfl rfl ?_
  show Steps p.tables e below (T53.setTop (mkF m 343 #[.val (.long q1), .second, .val (.int p1), .val (.int p2), .unset, .unset, .unset, .unset, .unset, .unset] [(.ref t1), (.ref t1)])) _
  refine XS.bipush X53.here hx rfl (hb hby at_343) ?_
  show Steps p.tables e below (T53.setTop (mkF m 345 #[.val (.long q1), .second, .val (.int p1), .val (.int p2), .unset, .unset, .unset, .unset, .unset, .unset] [(.int (50 : Int32)), (.ref t1), (.ref t1)])) _
  refine X53.ldc2Long hx hown (mvT hZ (hw _ (List.mem_of_getElem? (i := 48) rfl))) (g := (mkF m 345 #[.val (.long q1), .second, .val (.int p1), .val (.int p2), .unset, .unset, .unset, .unset, .unset, .unset] [(.int (50 : Int32)), (.ref t1), (.ref t1)])) rfl (hb hby at_345) _ ?_
  show Steps p.tables e below (T53.setTop (mkF m 348 #[.val (.long q1), .second, .val (.int p1), .val (.int p2), .unset, .unset, .unset, .unset, .unset, .unset] [(.long (12586269025 : Int64)), (.int (50 : Int32)), (.ref t1), (.ref t1)])) _
  refine st54 _ ?_
  show Steps p.tables e below (T54.setTop (mkF m 349 #[.val (.long q1), .second, .val (.int p1), .val (.int p2), .unset, .unset, .unset, .unset, .unset, .unset] [(.ref t1)])) _
  refine XS.dup X54.here hx rfl (hb hby at_349) rfl rfl ?_
  show Steps p.tables e below (T54.setTop (mkF m 350 #[.val (.long q1), .second, .val (.int p1), .val (.int p2), .unset, .unset, .unset, .unset, .unset, .unset] [(.ref t1), (.ref t1)])) _
  refine XS.bipush X54.here hx rfl (hb hby at_350) ?_
  show Steps p.tables e below (T54.setTop (mkF m 352 #[.val (.long q1), .second, .val (.int p1), .val (.int p2), .unset, .unset, .unset, .unset, .unset, .unset] [(.int (51 : Int32)), (.ref t1), (.ref t1)])) _
  refine X54.ldc2Long hx hown (mvT hZ (hw _ (List.mem_of_getElem? (i := 49) rfl))) (g := (mkF m 352 #[.val (.long q1), .second, .val (.int p1), .val (.int p2), .unset, .unset, .unset, .unset, .unset, .unset] [(.int (51 : Int32)), (.ref t1), (.ref t1)])) rfl (hb hby at_352) _ ?_
  show Steps p.tables e below (T54.setTop (mkF m 355 #[.val (.long q1), .second, .val (.int p1), .val (.int p2), .unset, .unset, .unset, .unset, .unset, .unset] [(.long (20365011074 : Int64)), (.int (51 : Int32)), (.ref t1), (.ref t1)])) _
  refine st55 _ ?_
  show Steps p.tables e below (T55.setTop (mkF m 356 #[.val (.long q1), .second, .val (.int p1), .val (.int p2), .unset, .unset, .unset, .unset, .unset, .unset] [(.ref t1)])) _
  refine XS.dup X55.here hx rfl (hb hby at_356) rfl rfl ?_
  show Steps p.tables e below (T55.setTop (mkF m 357 #[.val (.long q1), .second, .val (.int p1), .val (.int p2), .unset, .unset, .unset, .unset, .unset, .unset] [(.ref t1), (.ref t1)])) _
  refine XS.bipush X55.here hx rfl (hb hby at_357) ?_
  show Steps p.tables e below (T55.setTop (mkF m 359 #[.val (.long q1), .second, .val (.int p1), .val (.int p2), .unset, .unset, .unset, .unset, .unset, .unset] [(.int (52 : Int32)), (.ref t1), (.ref t1)])) _
  refine X55.ldc2Long hx hown (mvT hZ (hw _ (List.mem_of_getElem? (i := 50) rfl))) (g := (mkF m 359 #[.val (.long q1), .second, .val (.int p1), .val (.int p2), .unset, .unset, .unset, .unset, .unset, .unset] [(.int (52 : Int32)), (.ref t1), (.ref t1)])) rfl (hb hby at_359) _ ?_
  show Steps p.tables e below (T55.setTop (mkF m 362 #[.val (.long q1), .second, .val (.int p1), .val (.int p2), .unset, .unset, .unset, .unset, .unset, .unset] [(.long (32951280099 : Int64)), (.int (52 : Int32)), (.ref t1), (.ref t1)])) _
  refine st56 _ ?_
  show Steps p.tables e below (T56.setTop (mkF m 363 #[.val (.long q1), .second, .val (.int p1), .val (.int p2), .unset, .unset, .unset, .unset, .unset, .unset] [(.ref t1)])) _
  refine XS.dup X56.here hx rfl (hb hby at_363) rfl rfl ?_
  show Steps p.tables e below (T56.setTop (mkF m 364 #[.val (.long q1), .second, .val (.int p1), .val (.int p2), .unset, .unset, .unset, .unset, .unset, .unset] [(.ref t1), (.ref t1)])) _
  refine XS.bipush X56.here hx rfl (hb hby at_364) ?_
  show Steps p.tables e below (T56.setTop (mkF m 366 #[.val (.long q1), .second, .val (.int p1), .val (.int p2), .unset, .unset, .unset, .unset, .unset, .unset] [(.int (53 : Int32)), (.ref t1), (.ref t1)])) _
  refine X56.ldc2Long hx hown (mvT hZ (hw _ (List.mem_of_getElem? (i := 51) rfl))) (g := (mkF m 366 #[.val (.long q1), .second, .val (.int p1), .val (.int p2), .unset, .unset, .unset, .unset, .unset, .unset] [(.int (53 : Int32)), (.ref t1), (.ref t1)])) rfl (hb hby at_366) _ ?_
  show Steps p.tables e below (T56.setTop (mkF m 369 #[.val (.long q1), .second, .val (.int p1), .val (.int p2), .unset, .unset, .unset, .unset, .unset, .unset] [(.long (53316291173 : Int64)), (.int (53 : Int32)), (.ref t1), (.ref t1)])) _
  refine st57 _ ?_
  show Steps p.tables e below (T57.setTop (mkF m 370 #[.val (.long q1), .second, .val (.int p1), .val (.int p2), .unset, .unset, .unset, .unset, .unset, .unset] [(.ref t1)])) _
  refine XS.dup X57.here hx rfl (hb hby at_370) rfl rfl ?_
  show Steps p.tables e below (T57.setTop (mkF m 371 #[.val (.long q1), .second, .val (.int p1), .val (.int p2), .unset, .unset, .unset, .unset, .unset, .unset] [(.ref t1), (.ref t1)])) _
  refine XS.bipush X57.here hx rfl (hb hby at_371) ?_
  show Steps p.tables e below (T57.setTop (mkF m 373 #[.val (.long q1), .second, .val (.int p1), .val (.int p2), .unset, .unset, .unset, .unset, .unset, .unset] [(.int (54 : Int32)), (.ref t1), (.ref t1)])) _
  refine X57.ldc2Long hx hown (mvT hZ (hw _ (List.mem_of_getElem? (i := 52) rfl))) (g := (mkF m 373 #[.val (.long q1), .second, .val (.int p1), .val (.int p2), .unset, .unset, .unset, .unset, .unset, .unset] [(.int (54 : Int32)), (.ref t1), (.ref t1)])) rfl (hb hby at_373) _ ?_
  show Steps p.tables e below (T57.setTop (mkF m 376 #[.val (.long q1), .second, .val (.int p1), .val (.int p2), .unset, .unset, .unset, .unset, .unset, .unset] [(.long (86267571272 : Int64)), (.int (54 : Int32)), (.ref t1), (.ref t1)])) _
  refine st58 _ ?_
  show Steps p.tables e below (T58.setTop (mkF m 377 #[.val (.long q1), .second, .val (.int p1), .val (.int p2), .unset, .unset, .unset, .unset, .unset, .unset] [(.ref t1)])) _
  refine XS.dup X58.here hx rfl (hb hby at_377) rfl rfl ?_
  show Steps p.tables e below (T58.setTop (mkF m 378 #[.val (.long q1), .second, .val (.int p1), .val (.int p2), .unset, .unset, .unset, .unset, .unset, .unset] [(.ref t1), (.ref t1)])) _
  refine XS.bipush X58.here hx rfl (hb hby at_378) ?_
  show Steps p.tables e below (T58.setTop (mkF m 380 #[.val (.long q1), .second, .val (.int p1), .val (.int p2), .unset, .unset, .unset, .unset, .unset, .unset] [(.int (55 : Int32)), (.ref t1), (.ref t1)])) _
  refine X58.ldc2Long hx hown (mvT hZ (hw _ (List.mem_of_getElem? (i := 53) rfl))) (g := (mkF m 380 #[.val (.long q1), .second, .val (.int p1), .val (.int p2), .unset, .unset, .unset, .unset, .unset, .unset] [(.int (55 : Int32)), (.ref t1), (.ref t1)])) rfl (hb hby at_380) _ ?_
  show Steps p.tables e below (T58.setTop (mkF m 383 #[.val (.long q1), .second, .val (.int p1), .val (.int p2), .unset, .unset, .unset, .unset, .unset, .unset] [(.long (139583862445 : Int64)), (.int (55 : Int32)), (.ref t1), (.ref t1)])) _
  refine st59 _ ?_
  show Steps p.tables e below (T59.setTop (mkF m 384 #[.val (.long q1), .second, .val (.int p1), .val (.int p2), .unset, .unset, .unset, .unset, .unset, .unset] [(.ref t1)])) _
  refine XS.dup X59.here hx rfl (hb hby at_384) rfl rfl ?_
  show Steps p.tables e below (T59.setTop (mkF m 385 #[.val (.long q1), .second, .val (.int p1), .val (.int p2), .unset, .unset, .unset, .unset, .unset, .unset] [(.ref t1), (.ref t1)])) _
  refine XS.bipush X59.here hx rfl (hb hby at_385) ?_
  show Steps p.tables e below (T59.setTop (mkF m 387 #[.val (.long q1), .second, .val (.int p1), .val (.int p2), .unset, .unset, .unset, .unset, .unset, .unset] [(.int (56 : Int32)), (.ref t1), (.ref t1)])) _
  refine X59.ldc2Long hx hown (mvT hZ (hw _ (List.mem_of_getElem? (i := 54) rfl))) (g := (mkF m 387 #[.val (.long q1), .second, .val (.int p1), .val (.int p2), .unset, .unset, .unset, .unset, .unset, .unset] [(.int (56 : Int32)), (.ref t1), (.ref t1)])) rfl (hb hby at_387) _ ?_
  show Steps p.tables e below (T59.setTop (mkF m 390 #[.val (.long q1), .second, .val (.int p1), .val (.int p2), .unset, .unset, .unset, .unset, .unset, .unset] [(.long (225851433717 : Int64)), (.int (56 : Int32)), (.ref t1), (.ref t1)])) _
  refine st60 _ ?_
  show Steps p.tables e below (T60.setTop (mkF m 391 #[.val (.long q1), .second, .val (.int p1), .val (.int p2), .unset, .unset, .unset, .unset, .unset, .unset] [(.ref t1)])) _
  refine XS.dup X60.here hx rfl (hb hby at_391) rfl rfl ?_
  show Steps p.tables e below (T60.setTop (mkF m 392 #[.val (.long q1), .second, .val (.int p1), .val (.int p2), .unset, .unset, .unset, .unset, .unset, .unset] [(.ref t1), (.ref t1)])) _
  refine XS.bipush X60.here hx rfl (hb hby at_392) ?_
  show Steps p.tables e below (T60.setTop (mkF m 394 #[.val (.long q1), .second, .val (.int p1), .val (.int p2), .unset, .unset, .unset, .unset, .unset, .unset] [(.int (57 : Int32)), (.ref t1), (.ref t1)])) _
  refine X60.ldc2Long hx hown (mvT hZ (hw _ (List.mem_of_getElem? (i := 55) rfl))) (g := (mkF m 394 #[.val (.long q1), .second, .val (.int p1), .val (.int p2), .unset, .unset, .unset, .unset, .unset, .unset] [(.int (57 : Int32)), (.ref t1), (.ref t1)])) rfl (hb hby at_394) _ ?_
  show Steps p.tables e below (T60.setTop (mkF m 397 #[.val (.long q1), .second, .val (.int p1), .val (.int p2), .unset, .unset, .unset, .unset, .unset, .unset] [(.long (365435296162 : Int64)), (.int (57 : Int32)), (.ref t1), (.ref t1)])) _
  refine st61 _ ?_
  show Steps p.tables e below (T61.setTop (mkF m 398 #[.val (.long q1), .second, .val (.int p1), .val (.int p2), .unset, .unset, .unset, .unset, .unset, .unset] [(.ref t1)])) _
  refine XS.dup X61.here hx rfl (hb hby at_398) rfl rfl ?_
  show Steps p.tables e below (T61.setTop (mkF m 399 #[.val (.long q1), .second, .val (.int p1), .val (.int p2), .unset, .unset, .unset, .unset, .unset, .unset] [(.ref t1), (.ref t1)])) _
  refine XS.bipush X61.here hx rfl (hb hby at_399) ?_
  show Steps p.tables e below (T61.setTop (mkF m 401 #[.val (.long q1), .second, .val (.int p1), .val (.int p2), .unset, .unset, .unset, .unset, .unset, .unset] [(.int (58 : Int32)), (.ref t1), (.ref t1)])) _
  refine X61.ldc2Long hx hown (mvT hZ (hw _ (List.mem_of_getElem? (i := 56) rfl))) (g := (mkF m 401 #[.val (.long q1), .second, .val (.int p1), .val (.int p2), .unset, .unset, .unset, .unset, .unset, .unset] [(.int (58 : Int32)), (.ref t1), (.ref t1)])) rfl (hb hby at_401) _ ?_
  show Steps p.tables e below (T61.setTop (mkF m 404 #[.val (.long q1), .second, .val (.int p1), .val (.int p2), .unset, .unset, .unset, .unset, .unset, .unset] [(.long (591286729879 : Int64)), (.int (58 : Int32)), (.ref t1), (.ref t1)])) _
  refine st62 _ ?_
  show Steps p.tables e below (T62.setTop (mkF m 405 #[.val (.long q1), .second, .val (.int p1), .val (.int p2), .unset, .unset, .unset, .unset, .unset, .unset] [(.ref t1)])) _
  refine XS.dup X62.here hx rfl (hb hby at_405) rfl rfl ?_
  show Steps p.tables e below (T62.setTop (mkF m 406 #[.val (.long q1), .second, .val (.int p1), .val (.int p2), .unset, .unset, .unset, .unset, .unset, .unset] [(.ref t1), (.ref t1)])) _
  refine XS.bipush X62.here hx rfl (hb hby at_406) ?_
  show Steps p.tables e below (T62.setTop (mkF m 408 #[.val (.long q1), .second, .val (.int p1), .val (.int p2), .unset, .unset, .unset, .unset, .unset, .unset] [(.int (59 : Int32)), (.ref t1), (.ref t1)])) _
  refine X62.ldc2Long hx hown (mvT hZ (hw _ (List.mem_of_getElem? (i := 57) rfl))) (g := (mkF m 408 #[.val (.long q1), .second, .val (.int p1), .val (.int p2), .unset, .unset, .unset, .unset, .unset, .unset] [(.int (59 : Int32)), (.ref t1), (.ref t1)])) rfl (hb hby at_408) _ ?_
  show Steps p.tables e below (T62.setTop (mkF m 411 #[.val (.long q1), .second, .val (.int p1), .val (.int p2), .unset, .unset, .unset, .unset, .unset, .unset] [(.long (956722026041 : Int64)), (.int (59 : Int32)), (.ref t1), (.ref t1)])) _
  refine st63 _ ?_
  show Steps p.tables e below (T63.setTop (mkF m 412 #[.val (.long q1), .second, .val (.int p1), .val (.int p2), .unset, .unset, .unset, .unset, .unset, .unset] [(.ref t1)])) _
  refine XS.dup X63.here hx rfl (hb hby at_412) rfl rfl ?_
  show Steps p.tables e below (T63.setTop (mkF m 413 #[.val (.long q1), .second, .val (.int p1), .val (.int p2), .unset, .unset, .unset, .unset, .unset, .unset] [(.ref t1), (.ref t1)])) _
  refine XS.bipush X63.here hx rfl (hb hby at_413) ?_
  show Steps p.tables e below (T63.setTop (mkF m 415 #[.val (.long q1), .second, .val (.int p1), .val (.int p2), .unset, .unset, .unset, .unset, .unset, .unset] [(.int (60 : Int32)), (.ref t1), (.ref t1)])) _
  refine X63.ldc2Long hx hown (mvT hZ (hw _ (List.mem_of_getElem? (i := 58) rfl))) (g := (mkF m 415 #[.val (.long q1), .second, .val (.int p1), .val (.int p2), .unset, .unset, .unset, .unset, .unset, .unset] [(.int (60 : Int32)), (.ref t1), (.ref t1)])) rfl (hb hby at_415) _ ?_
  show Steps p.tables e below (T63.setTop (mkF m 418 #[.val (.long q1), .second, .val (.int p1), .val (.int p2), .unset, .unset, .unset, .unset, .unset, .unset] [(.long (1548008755920 : Int64)), (.int (60 : Int32)), (.ref t1), (.ref t1)])) _
  refine st64 _ ?_
  show Steps p.tables e below (T64.setTop (mkF m 419 #[.val (.long q1), .second, .val (.int p1), .val (.int p2), .unset, .unset, .unset, .unset, .unset, .unset] [(.ref t1)])) _
  refine XS.dup X64.here hx rfl (hb hby at_419) rfl rfl ?_
  show Steps p.tables e below (T64.setTop (mkF m 420 #[.val (.long q1), .second, .val (.int p1), .val (.int p2), .unset, .unset, .unset, .unset, .unset, .unset] [(.ref t1), (.ref t1)])) _
  refine XS.bipush X64.here hx rfl (hb hby at_420) ?_
  show Steps p.tables e below (T64.setTop (mkF m 422 #[.val (.long q1), .second, .val (.int p1), .val (.int p2), .unset, .unset, .unset, .unset, .unset, .unset] [(.int (61 : Int32)), (.ref t1), (.ref t1)])) _
  refine X64.ldc2Long hx hown (mvT hZ (hw _ (List.mem_of_getElem? (i := 59) rfl))) (g := (mkF m 422 #[.val (.long q1), .second, .val (.int p1), .val (.int p2), .unset, .unset, .unset, .unset, .unset, .unset] [(.int (61 : Int32)), (.ref t1), (.ref t1)])) rfl (hb hby at_422) _ ?_
  show Steps p.tables e below (T64.setTop (mkF m 425 #[.val (.long q1), .second, .val (.int p1), .val (.int p2), .unset, .unset, .unset, .unset, .unset, .unset] [(.long (2504730781961 : Int64)), (.int (61 : Int32)), (.ref t1), (.ref t1)])) _
  refine st65 _ ?_
  show Steps p.tables e below (T65.setTop (mkF m 426 #[.val (.long q1), .second, .val (.int p1), .val (.int p2), .unset, .unset, .unset, .unset, .unset, .unset] [(.ref t1)])) _
  refine XS.dup X65.here hx rfl (hb hby at_426) rfl rfl ?_
  show Steps p.tables e below (T65.setTop (mkF m 427 #[.val (.long q1), .second, .val (.int p1), .val (.int p2), .unset, .unset, .unset, .unset, .unset, .unset] [(.ref t1), (.ref t1)])) _
  refine XS.bipush X65.here hx rfl (hb hby at_427) ?_
  show Steps p.tables e below (T65.setTop (mkF m 429 #[.val (.long q1), .second, .val (.int p1), .val (.int p2), .unset, .unset, .unset, .unset, .unset, .unset] [(.int (62 : Int32)), (.ref t1), (.ref t1)])) _
  refine X65.ldc2Long hx hown (mvT hZ (hw _ (List.mem_of_getElem? (i := 60) rfl))) (g := (mkF m 429 #[.val (.long q1), .second, .val (.int p1), .val (.int p2), .unset, .unset, .unset, .unset, .unset, .unset] [(.int (62 : Int32)), (.ref t1), (.ref t1)])) rfl (hb hby at_429) _ ?_
  show Steps p.tables e below (T65.setTop (mkF m 432 #[.val (.long q1), .second, .val (.int p1), .val (.int p2), .unset, .unset, .unset, .unset, .unset, .unset] [(.long (4052739537881 : Int64)), (.int (62 : Int32)), (.ref t1), (.ref t1)])) _
  refine st66 _ ?_
  show Steps p.tables e below (T66.setTop (mkF m 433 #[.val (.long q1), .second, .val (.int p1), .val (.int p2), .unset, .unset, .unset, .unset, .unset, .unset] [(.ref t1)])) _
  refine XS.dup X66.here hx rfl (hb hby at_433) rfl rfl ?_
  show Steps p.tables e below (T66.setTop (mkF m 434 #[.val (.long q1), .second, .val (.int p1), .val (.int p2), .unset, .unset, .unset, .unset, .unset, .unset] [(.ref t1), (.ref t1)])) _
  refine XS.bipush X66.here hx rfl (hb hby at_434) ?_
  show Steps p.tables e below (T66.setTop (mkF m 436 #[.val (.long q1), .second, .val (.int p1), .val (.int p2), .unset, .unset, .unset, .unset, .unset, .unset] [(.int (63 : Int32)), (.ref t1), (.ref t1)])) _
  refine X66.ldc2Long hx hown (mvT hZ (hw _ (List.mem_of_getElem? (i := 61) rfl))) (g := (mkF m 436 #[.val (.long q1), .second, .val (.int p1), .val (.int p2), .unset, .unset, .unset, .unset, .unset, .unset] [(.int (63 : Int32)), (.ref t1), (.ref t1)])) rfl (hb hby at_436) _ ?_
  show Steps p.tables e below (T66.setTop (mkF m 439 #[.val (.long q1), .second, .val (.int p1), .val (.int p2), .unset, .unset, .unset, .unset, .unset, .unset] [(.long (6557470319842 : Int64)), (.int (63 : Int32)), (.ref t1), (.ref t1)])) _
  refine st67 _ ?_
  show Steps p.tables e below (T67.setTop (mkF m 440 #[.val (.long q1), .second, .val (.int p1), .val (.int p2), .unset, .unset, .unset, .unset, .unset, .unset] [(.ref t1)])) _
  refine XS.dup X67.here hx rfl (hb hby at_440) rfl rfl ?_
  show Steps p.tables e below (T67.setTop (mkF m 441 #[.val (.long q1), .second, .val (.int p1), .val (.int p2), .unset, .unset, .unset, .unset, .unset, .unset] [(.ref t1), (.ref t1)])) _
  refine XS.bipush X67.here hx rfl (hb hby at_441) ?_
  show Steps p.tables e below (T67.setTop (mkF m 443 #[.val (.long q1), .second, .val (.int p1), .val (.int p2), .unset, .unset, .unset, .unset, .unset, .unset] [(.int (64 : Int32)), (.ref t1), (.ref t1)])) _
  refine X67.ldc2Long hx hown (mvT hZ (hw _ (List.mem_of_getElem? (i := 62) rfl))) (g := (mkF m 443 #[.val (.long q1), .second, .val (.int p1), .val (.int p2), .unset, .unset, .unset, .unset, .unset, .unset] [(.int (64 : Int32)), (.ref t1), (.ref t1)])) rfl (hb hby at_443) _ ?_
  show Steps p.tables e below (T67.setTop (mkF m 446 #[.val (.long q1), .second, .val (.int p1), .val (.int p2), .unset, .unset, .unset, .unset, .unset, .unset] [(.long (10610209857723 : Int64)), (.int (64 : Int32)), (.ref t1), (.ref t1)])) _
  refine st68 _ ?_
  show Steps p.tables e below (T68.setTop (mkF m 447 #[.val (.long q1), .second, .val (.int p1), .val (.int p2), .unset, .unset, .unset, .unset, .unset, .unset] [(.ref t1)])) _
  refine XS.dup X68.here hx rfl (hb hby at_447) rfl rfl ?_
  show Steps p.tables e below (T68.setTop (mkF m 448 #[.val (.long q1), .second, .val (.int p1), .val (.int p2), .unset, .unset, .unset, .unset, .unset, .unset] [(.ref t1), (.ref t1)])) _
  refine XS.bipush X68.here hx rfl (hb hby at_448) ?_
  show Steps p.tables e below (T68.setTop (mkF m 450 #[.val (.long q1), .second, .val (.int p1), .val (.int p2), .unset, .unset, .unset, .unset, .unset, .unset] [(.int (65 : Int32)), (.ref t1), (.ref t1)])) _
  refine X68.ldc2Long hx hown (mvT hZ (hw _ (List.mem_of_getElem? (i := 63) rfl))) (g := (mkF m 450 #[.val (.long q1), .second, .val (.int p1), .val (.int p2), .unset, .unset, .unset, .unset, .unset, .unset] [(.int (65 : Int32)), (.ref t1), (.ref t1)])) rfl (hb hby at_450) _ ?_
  show Steps p.tables e below (T68.setTop (mkF m 453 #[.val (.long q1), .second, .val (.int p1), .val (.int p2), .unset, .unset, .unset, .unset, .unset, .unset] [(.long (17167680177565 : Int64)), (.int (65 : Int32)), (.ref t1), (.ref t1)])) _
  refine st69 _ ?_
  show Steps p.tables e below (T69.setTop (mkF m 454 #[.val (.long q1), .second, .val (.int p1), .val (.int p2), .unset, .unset, .unset, .unset, .unset, .unset] [(.ref t1)])) _
  refine XS.dup X69.here hx rfl (hb hby at_454) rfl rfl ?_
  show Steps p.tables e below (T69.setTop (mkF m 455 #[.val (.long q1), .second, .val (.int p1), .val (.int p2), .unset, .unset, .unset, .unset, .unset, .unset] [(.ref t1), (.ref t1)])) _
  refine XS.bipush X69.here hx rfl (hb hby at_455) ?_
  show Steps p.tables e below (T69.setTop (mkF m 457 #[.val (.long q1), .second, .val (.int p1), .val (.int p2), .unset, .unset, .unset, .unset, .unset, .unset] [(.int (66 : Int32)), (.ref t1), (.ref t1)])) _
  refine X69.ldc2Long hx hown (mvT hZ (hw _ (List.mem_of_getElem? (i := 64) rfl))) (g := (mkF m 457 #[.val (.long q1), .second, .val (.int p1), .val (.int p2), .unset, .unset, .unset, .unset, .unset, .unset] [(.int (66 : Int32)), (.ref t1), (.ref t1)])) rfl (hb hby at_457) _ ?_
  show Steps p.tables e below (T69.setTop (mkF m 460 #[.val (.long q1), .second, .val (.int p1), .val (.int p2), .unset, .unset, .unset, .unset, .unset, .unset] [(.long (27777890035288 : Int64)), (.int (66 : Int32)), (.ref t1), (.ref t1)])) _
  refine st70 _ ?_
  show Steps p.tables e below (T70.setTop (mkF m 461 #[.val (.long q1), .second, .val (.int p1), .val (.int p2), .unset, .unset, .unset, .unset, .unset, .unset] [(.ref t1)])) _
  refine XS.dup X70.here hx rfl (hb hby at_461) rfl rfl ?_
  show Steps p.tables e below (T70.setTop (mkF m 462 #[.val (.long q1), .second, .val (.int p1), .val (.int p2), .unset, .unset, .unset, .unset, .unset, .unset] [(.ref t1), (.ref t1)])) _
  refine XS.bipush X70.here hx rfl (hb hby at_462) ?_
  show Steps p.tables e below (T70.setTop (mkF m 464 #[.val (.long q1), .second, .val (.int p1), .val (.int p2), .unset, .unset, .unset, .unset, .unset, .unset] [(.int (67 : Int32)), (.ref t1), (.ref t1)])) _
  refine X70.ldc2Long hx hown (mvT hZ (hw _ (List.mem_of_getElem? (i := 65) rfl))) (g := (mkF m 464 #[.val (.long q1), .second, .val (.int p1), .val (.int p2), .unset, .unset, .unset, .unset, .unset, .unset] [(.int (67 : Int32)), (.ref t1), (.ref t1)])) rfl (hb hby at_464) _ ?_
  show Steps p.tables e below (T70.setTop (mkF m 467 #[.val (.long q1), .second, .val (.int p1), .val (.int p2), .unset, .unset, .unset, .unset, .unset, .unset] [(.long (44945570212853 : Int64)), (.int (67 : Int32)), (.ref t1), (.ref t1)])) _
  refine st71 _ ?_
  show Steps p.tables e below (T71.setTop (mkF m 468 #[.val (.long q1), .second, .val (.int p1), .val (.int p2), .unset, .unset, .unset, .unset, .unset, .unset] [(.ref t1)])) _
  refine XS.dup X71.here hx rfl (hb hby at_468) rfl rfl ?_
  show Steps p.tables e below (T71.setTop (mkF m 469 #[.val (.long q1), .second, .val (.int p1), .val (.int p2), .unset, .unset, .unset, .unset, .unset, .unset] [(.ref t1), (.ref t1)])) _
  refine XS.bipush X71.here hx rfl (hb hby at_469) ?_
  show Steps p.tables e below (T71.setTop (mkF m 471 #[.val (.long q1), .second, .val (.int p1), .val (.int p2), .unset, .unset, .unset, .unset, .unset, .unset] [(.int (68 : Int32)), (.ref t1), (.ref t1)])) _
  refine X71.ldc2Long hx hown (mvT hZ (hw _ (List.mem_of_getElem? (i := 66) rfl))) (g := (mkF m 471 #[.val (.long q1), .second, .val (.int p1), .val (.int p2), .unset, .unset, .unset, .unset, .unset, .unset] [(.int (68 : Int32)), (.ref t1), (.ref t1)])) rfl (hb hby at_471) _ ?_
  show Steps p.tables e below (T71.setTop (mkF m 474 #[.val (.long q1), .second, .val (.int p1), .val (.int p2), .unset, .unset, .unset, .unset, .unset, .unset] [(.long (72723460248141 : Int64)), (.int (68 : Int32)), (.ref t1), (.ref t1)])) _
  refine st72 _ ?_
  show Steps p.tables e below (T72.setTop (mkF m 475 #[.val (.long q1), .second, .val (.int p1), .val (.int p2), .unset, .unset, .unset, .unset, .unset, .unset] [(.ref t1)])) _
  refine XS.dup X72.here hx rfl (hb hby at_475) rfl rfl ?_
  show Steps p.tables e below (T72.setTop (mkF m 476 #[.val (.long q1), .second, .val (.int p1), .val (.int p2), .unset, .unset, .unset, .unset, .unset, .unset] [(.ref t1), (.ref t1)])) _
  refine XS.bipush X72.here hx rfl (hb hby at_476) ?_
  show Steps p.tables e below (T72.setTop (mkF m 478 #[.val (.long q1), .second, .val (.int p1), .val (.int p2), .unset, .unset, .unset, .unset, .unset, .unset] [(.int (69 : Int32)), (.ref t1), (.ref t1)])) _
  refine X72.ldc2Long hx hown (mvT hZ (hw _ (List.mem_of_getElem? (i := 67) rfl))) (g := (mkF m 478 #[.val (.long q1), .second, .val (.int p1), .val (.int p2), .unset, .unset, .unset, .unset, .unset, .unset] [(.int (69 : Int32)), (.ref t1), (.ref t1)])) rfl (hb hby at_478) _ ?_
  show Steps p.tables e below (T72.setTop (mkF m 481 #[.val (.long q1), .second, .val (.int p1), .val (.int p2), .unset, .unset, .unset, .unset, .unset, .unset] [(.long (117669030460994 : Int64)), (.int (69 : Int32)), (.ref t1), (.ref t1)])) _
  refine st73 _ ?_
  show Steps p.tables e below (T73.setTop (mkF m 482 #[.val (.long q1), .second, .val (.int p1), .val (.int p2), .unset, .unset, .unset, .unset, .unset, .unset] [(.ref t1)])) _
  refine XS.dup X73.here hx rfl (hb hby at_482) rfl rfl ?_
  show Steps p.tables e below (T73.setTop (mkF m 483 #[.val (.long q1), .second, .val (.int p1), .val (.int p2), .unset, .unset, .unset, .unset, .unset, .unset] [(.ref t1), (.ref t1)])) _
  refine XS.bipush X73.here hx rfl (hb hby at_483) ?_
  show Steps p.tables e below (T73.setTop (mkF m 485 #[.val (.long q1), .second, .val (.int p1), .val (.int p2), .unset, .unset, .unset, .unset, .unset, .unset] [(.int (70 : Int32)), (.ref t1), (.ref t1)])) _
  refine X73.ldc2Long hx hown (mvT hZ (hw _ (List.mem_of_getElem? (i := 68) rfl))) (g := (mkF m 485 #[.val (.long q1), .second, .val (.int p1), .val (.int p2), .unset, .unset, .unset, .unset, .unset, .unset] [(.int (70 : Int32)), (.ref t1), (.ref t1)])) rfl (hb hby at_485) _ ?_
  show Steps p.tables e below (T73.setTop (mkF m 488 #[.val (.long q1), .second, .val (.int p1), .val (.int p2), .unset, .unset, .unset, .unset, .unset, .unset] [(.long (190392490709135 : Int64)), (.int (70 : Int32)), (.ref t1), (.ref t1)])) _
  refine st74 _ ?_
  show Steps p.tables e below (T74.setTop (mkF m 489 #[.val (.long q1), .second, .val (.int p1), .val (.int p2), .unset, .unset, .unset, .unset, .unset, .unset] [(.ref t1)])) _
  refine XS.dup X74.here hx rfl (hb hby at_489) rfl rfl ?_
  show Steps p.tables e below (T74.setTop (mkF m 490 #[.val (.long q1), .second, .val (.int p1), .val (.int p2), .unset, .unset, .unset, .unset, .unset, .unset] [(.ref t1), (.ref t1)])) _
  refine XS.bipush X74.here hx rfl (hb hby at_490) ?_
  show Steps p.tables e below (T74.setTop (mkF m 492 #[.val (.long q1), .second, .val (.int p1), .val (.int p2), .unset, .unset, .unset, .unset, .unset, .unset] [(.int (71 : Int32)), (.ref t1), (.ref t1)])) _
  refine X74.ldc2Long hx hown (mvT hZ (hw _ (List.mem_of_getElem? (i := 69) rfl))) (g := (mkF m 492 #[.val (.long q1), .second, .val (.int p1), .val (.int p2), .unset, .unset, .unset, .unset, .unset, .unset] [(.int (71 : Int32)), (.ref t1), (.ref t1)])) rfl (hb hby at_492) _ ?_
  show Steps p.tables e below (T74.setTop (mkF m 495 #[.val (.long q1), .second, .val (.int p1), .val (.int p2), .unset, .unset, .unset, .unset, .unset, .unset] [(.long (308061521170129 : Int64)), (.int (71 : Int32)), (.ref t1), (.ref t1)])) _
  refine st75 _ ?_
  show Steps p.tables e below (T75.setTop (mkF m 496 #[.val (.long q1), .second, .val (.int p1), .val (.int p2), .unset, .unset, .unset, .unset, .unset, .unset] [(.ref t1)])) _
  refine XS.dup X75.here hx rfl (hb hby at_496) rfl rfl ?_
  show Steps p.tables e below (T75.setTop (mkF m 497 #[.val (.long q1), .second, .val (.int p1), .val (.int p2), .unset, .unset, .unset, .unset, .unset, .unset] [(.ref t1), (.ref t1)])) _
  refine XS.bipush X75.here hx rfl (hb hby at_497) ?_
  show Steps p.tables e below (T75.setTop (mkF m 499 #[.val (.long q1), .second, .val (.int p1), .val (.int p2), .unset, .unset, .unset, .unset, .unset, .unset] [(.int (72 : Int32)), (.ref t1), (.ref t1)])) _
  refine X75.ldc2Long hx hown (mvT hZ (hw _ (List.mem_of_getElem? (i := 70) rfl))) (g := (mkF m 499 #[.val (.long q1), .second, .val (.int p1), .val (.int p2), .unset, .unset, .unset, .unset, .unset, .unset] [(.int (72 : Int32)), (.ref t1), (.ref t1)])) rfl (hb hby at_499) _ ?_
  show Steps p.tables e below (T75.setTop (mkF m 502 #[.val (.long q1), .second, .val (.int p1), .val (.int p2), .unset, .unset, .unset, .unset, .unset, .unset] [(.long (498454011879264 : Int64)), (.int (72 : Int32)), (.ref t1), (.ref t1)])) _
  refine st76 _ ?_
  show Steps p.tables e below (T76.setTop (mkF m 503 #[.val (.long q1), .second, .val (.int p1), .val (.int p2), .unset, .unset, .unset, .unset, .unset, .unset] [(.ref t1)])) _
  refine XS.dup X76.here hx rfl (hb hby at_503) rfl rfl ?_
  show Steps p.tables e below (T76.setTop (mkF m 504 #[.val (.long q1), .second, .val (.int p1), .val (.int p2), .unset, .unset, .unset, .unset, .unset, .unset] [(.ref t1), (.ref t1)])) _
  refine XS.bipush X76.here hx rfl (hb hby at_504) ?_
  show Steps p.tables e below (T76.setTop (mkF m 506 #[.val (.long q1), .second, .val (.int p1), .val (.int p2), .unset, .unset, .unset, .unset, .unset, .unset] [(.int (73 : Int32)), (.ref t1), (.ref t1)])) _
  refine X76.ldc2Long hx hown (mvT hZ (hw _ (List.mem_of_getElem? (i := 71) rfl))) (g := (mkF m 506 #[.val (.long q1), .second, .val (.int p1), .val (.int p2), .unset, .unset, .unset, .unset, .unset, .unset] [(.int (73 : Int32)), (.ref t1), (.ref t1)])) rfl (hb hby at_506) _ ?_
  show Steps p.tables e below (T76.setTop (mkF m 509 #[.val (.long q1), .second, .val (.int p1), .val (.int p2), .unset, .unset, .unset, .unset, .unset, .unset] [(.long (806515533049393 : Int64)), (.int (73 : Int32)), (.ref t1), (.ref t1)])) _
  refine st77 _ ?_
  show Steps p.tables e below (T77.setTop (mkF m 510 #[.val (.long q1), .second, .val (.int p1), .val (.int p2), .unset, .unset, .unset, .unset, .unset, .unset] [(.ref t1)])) _
  refine XS.dup X77.here hx rfl (hb hby at_510) rfl rfl ?_
  show Steps p.tables e below (T77.setTop (mkF m 511 #[.val (.long q1), .second, .val (.int p1), .val (.int p2), .unset, .unset, .unset, .unset, .unset, .unset] [(.ref t1), (.ref t1)])) _
  refine XS.bipush X77.here hx rfl (hb hby at_511) ?_
  show Steps p.tables e below (T77.setTop (mkF m 513 #[.val (.long q1), .second, .val (.int p1), .val (.int p2), .unset, .unset, .unset, .unset, .unset, .unset] [(.int (74 : Int32)), (.ref t1), (.ref t1)])) _
  refine X77.ldc2Long hx hown (mvT hZ (hw _ (List.mem_of_getElem? (i := 72) rfl))) (g := (mkF m 513 #[.val (.long q1), .second, .val (.int p1), .val (.int p2), .unset, .unset, .unset, .unset, .unset, .unset] [(.int (74 : Int32)), (.ref t1), (.ref t1)])) rfl (hb hby at_513) _ ?_
  show Steps p.tables e below (T77.setTop (mkF m 516 #[.val (.long q1), .second, .val (.int p1), .val (.int p2), .unset, .unset, .unset, .unset, .unset, .unset] [(.long (1304969544928657 : Int64)), (.int (74 : Int32)), (.ref t1), (.ref t1)])) _
  refine st78 _ ?_
  show Steps p.tables e below (T78.setTop (mkF m 517 #[.val (.long q1), .second, .val (.int p1), .val (.int p2), .unset, .unset, .unset, .unset, .unset, .unset] [(.ref t1)])) _
  refine XS.dup X78.here hx rfl (hb hby at_517) rfl rfl ?_
  show Steps p.tables e below (T78.setTop (mkF m 518 #[.val (.long q1), .second, .val (.int p1), .val (.int p2), .unset, .unset, .unset, .unset, .unset, .unset] [(.ref t1), (.ref t1)])) _
  refine XS.bipush X78.here hx rfl (hb hby at_518) ?_
  show Steps p.tables e below (T78.setTop (mkF m 520 #[.val (.long q1), .second, .val (.int p1), .val (.int p2), .unset, .unset, .unset, .unset, .unset, .unset] [(.int (75 : Int32)), (.ref t1), (.ref t1)])) _
  refine X78.ldc2Long hx hown (mvT hZ (hw _ (List.mem_of_getElem? (i := 73) rfl))) (g := (mkF m 520 #[.val (.long q1), .second, .val (.int p1), .val (.int p2), .unset, .unset, .unset, .unset, .unset, .unset] [(.int (75 : Int32)), (.ref t1), (.ref t1)])) rfl (hb hby at_520) _ ?_
  show Steps p.tables e below (T78.setTop (mkF m 523 #[.val (.long q1), .second, .val (.int p1), .val (.int p2), .unset, .unset, .unset, .unset, .unset, .unset] [(.long (2111485077978050 : Int64)), (.int (75 : Int32)), (.ref t1), (.ref t1)])) _
  refine st79 _ ?_
  show Steps p.tables e below (T79.setTop (mkF m 524 #[.val (.long q1), .second, .val (.int p1), .val (.int p2), .unset, .unset, .unset, .unset, .unset, .unset] [(.ref t1)])) _
  refine XS.dup X79.here hx rfl (hb hby at_524) rfl rfl ?_
  show Steps p.tables e below (T79.setTop (mkF m 525 #[.val (.long q1), .second, .val (.int p1), .val (.int p2), .unset, .unset, .unset, .unset, .unset, .unset] [(.ref t1), (.ref t1)])) _
  refine XS.bipush X79.here hx rfl (hb hby at_525) ?_
  show Steps p.tables e below (T79.setTop (mkF m 527 #[.val (.long q1), .second, .val (.int p1), .val (.int p2), .unset, .unset, .unset, .unset, .unset, .unset] [(.int (76 : Int32)), (.ref t1), (.ref t1)])) _
  refine X79.ldc2Long hx hown (mvT hZ (hw _ (List.mem_of_getElem? (i := 74) rfl))) (g := (mkF m 527 #[.val (.long q1), .second, .val (.int p1), .val (.int p2), .unset, .unset, .unset, .unset, .unset, .unset] [(.int (76 : Int32)), (.ref t1), (.ref t1)])) rfl (hb hby at_527) _ ?_
  show Steps p.tables e below (T79.setTop (mkF m 530 #[.val (.long q1), .second, .val (.int p1), .val (.int p2), .unset, .unset, .unset, .unset, .unset, .unset] [(.long (3416454622906707 : Int64)), (.int (76 : Int32)), (.ref t1), (.ref t1)])) _
  refine st80 _ ?_
  show Steps p.tables e below (T80.setTop (mkF m 531 #[.val (.long q1), .second, .val (.int p1), .val (.int p2), .unset, .unset, .unset, .unset, .unset, .unset] [(.ref t1)])) _
  refine XS.dup X80.here hx rfl (hb hby at_531) rfl rfl ?_
  show Steps p.tables e below (T80.setTop (mkF m 532 #[.val (.long q1), .second, .val (.int p1), .val (.int p2), .unset, .unset, .unset, .unset, .unset, .unset] [(.ref t1), (.ref t1)])) _
  refine XS.bipush X80.here hx rfl (hb hby at_532) ?_
  show Steps p.tables e below (T80.setTop (mkF m 534 #[.val (.long q1), .second, .val (.int p1), .val (.int p2), .unset, .unset, .unset, .unset, .unset, .unset] [(.int (77 : Int32)), (.ref t1), (.ref t1)])) _
  refine X80.ldc2Long hx hown (mvT hZ (hw _ (List.mem_of_getElem? (i := 75) rfl))) (g := (mkF m 534 #[.val (.long q1), .second, .val (.int p1), .val (.int p2), .unset, .unset, .unset, .unset, .unset, .unset] [(.int (77 : Int32)), (.ref t1), (.ref t1)])) rfl (hb hby at_534) _ ?_
  show Steps p.tables e below (T80.setTop (mkF m 537 #[.val (.long q1), .second, .val (.int p1), .val (.int p2), .unset, .unset, .unset, .unset, .unset, .unset] [(.long (5527939700884757 : Int64)), (.int (77 : Int32)), (.ref t1), (.ref t1)])) _
  refine st81 _ ?_
  show Steps p.tables e below (T81.setTop (mkF m 538 #[.val (.long q1), .second, .val (.int p1), .val (.int p2), .unset, .unset, .unset, .unset, .unset, .unset] [(.ref t1)])) _
  refine XS.dup X81.here hx rfl (hb hby at_538) rfl rfl ?_
  show Steps p.tables e below (T81.setTop (mkF m 539 #[.val (.long q1), .second, .val (.int p1), .val (.int p2), .unset, .unset, .unset, .unset, .unset, .unset] [(.ref t1), (.ref t1)])) _
  refine XS.bipush X81.here hx rfl (hb hby at_539) ?_
  show Steps p.tables e below (T81.setTop (mkF m 541 #[.val (.long q1), .second, .val (.int p1), .val (.int p2), .unset, .unset, .unset, .unset, .unset, .unset] [(.int (78 : Int32)), (.ref t1), (.ref t1)])) _
  refine X81.ldc2Long hx hown (mvT hZ (hw _ (List.mem_of_getElem? (i := 76) rfl))) (g := (mkF m 541 #[.val (.long q1), .second, .val (.int p1), .val (.int p2), .unset, .unset, .unset, .unset, .unset, .unset] [(.int (78 : Int32)), (.ref t1), (.ref t1)])) rfl (hb hby at_541) _ ?_
  show Steps p.tables e below (T81.setTop (mkF m 544 #[.val (.long q1), .second, .val (.int p1), .val (.int p2), .unset, .unset, .unset, .unset, .unset, .unset] [(.long (8944394323791464 : Int64)), (.int (78 : Int32)), (.ref t1), (.ref t1)])) _
  refine st82 _ ?_
  show Steps p.tables e below (T82.setTop (mkF m 545 #[.val (.long q1), .second, .val (.int p1), .val (.int p2), .unset, .unset, .unset, .unset, .unset, .unset] [(.ref t1)])) _
  refine XS.dup X82.here hx rfl (hb hby at_545) rfl rfl ?_
  show Steps p.tables e below (T82.setTop (mkF m 546 #[.val (.long q1), .second, .val (.int p1), .val (.int p2), .unset, .unset, .unset, .unset, .unset, .unset] [(.ref t1), (.ref t1)])) _
  refine XS.bipush X82.here hx rfl (hb hby at_546) ?_
  show Steps p.tables e below (T82.setTop (mkF m 548 #[.val (.long q1), .second, .val (.int p1), .val (.int p2), .unset, .unset, .unset, .unset, .unset, .unset] [(.int (79 : Int32)), (.ref t1), (.ref t1)])) _
  refine X82.ldc2Long hx hown (mvT hZ (hw _ (List.mem_of_getElem? (i := 77) rfl))) (g := (mkF m 548 #[.val (.long q1), .second, .val (.int p1), .val (.int p2), .unset, .unset, .unset, .unset, .unset, .unset] [(.int (79 : Int32)), (.ref t1), (.ref t1)])) rfl (hb hby at_548) _ ?_
  show Steps p.tables e below (T82.setTop (mkF m 551 #[.val (.long q1), .second, .val (.int p1), .val (.int p2), .unset, .unset, .unset, .unset, .unset, .unset] [(.long (14472334024676221 : Int64)), (.int (79 : Int32)), (.ref t1), (.ref t1)])) _
  refine st83 _ ?_
  show Steps p.tables e below (T83.setTop (mkF m 552 #[.val (.long q1), .second, .val (.int p1), .val (.int p2), .unset, .unset, .unset, .unset, .unset, .unset] [(.ref t1)])) _
  refine XS.dup X83.here hx rfl (hb hby at_552) rfl rfl ?_
  show Steps p.tables e below (T83.setTop (mkF m 553 #[.val (.long q1), .second, .val (.int p1), .val (.int p2), .unset, .unset, .unset, .unset, .unset, .unset] [(.ref t1), (.ref t1)])) _
  refine XS.bipush X83.here hx rfl (hb hby at_553) ?_
  show Steps p.tables e below (T83.setTop (mkF m 555 #[.val (.long q1), .second, .val (.int p1), .val (.int p2), .unset, .unset, .unset, .unset, .unset, .unset] [(.int (80 : Int32)), (.ref t1), (.ref t1)])) _
  refine X83.ldc2Long hx hown (mvT hZ (hw _ (List.mem_of_getElem? (i := 78) rfl))) (g := (mkF m 555 #[.val (.long q1), .second, .val (.int p1), .val (.int p2), .unset, .unset, .unset, .unset, .unset, .unset] [(.int (80 : Int32)), (.ref t1), (.ref t1)])) rfl (hb hby at_555) _ ?_
  show Steps p.tables e below (T83.setTop (mkF m 558 #[.val (.long q1), .second, .val (.int p1), .val (.int p2), .unset, .unset, .unset, .unset, .unset, .unset] [(.long (23416728348467685 : Int64)), (.int (80 : Int32)), (.ref t1), (.ref t1)])) _
  refine st84 _ ?_
  show Steps p.tables e below (T84.setTop (mkF m 559 #[.val (.long q1), .second, .val (.int p1), .val (.int p2), .unset, .unset, .unset, .unset, .unset, .unset] [(.ref t1)])) _
  refine XS.dup X84.here hx rfl (hb hby at_559) rfl rfl ?_
  show Steps p.tables e below (T84.setTop (mkF m 560 #[.val (.long q1), .second, .val (.int p1), .val (.int p2), .unset, .unset, .unset, .unset, .unset, .unset] [(.ref t1), (.ref t1)])) _
  refine XS.bipush X84.here hx rfl (hb hby at_560) ?_
  show Steps p.tables e below (T84.setTop (mkF m 562 #[.val (.long q1), .second, .val (.int p1), .val (.int p2), .unset, .unset, .unset, .unset, .unset, .unset] [(.int (81 : Int32)), (.ref t1), (.ref t1)])) _
  refine X84.ldc2Long hx hown (mvT hZ (hw _ (List.mem_of_getElem? (i := 79) rfl))) (g := (mkF m 562 #[.val (.long q1), .second, .val (.int p1), .val (.int p2), .unset, .unset, .unset, .unset, .unset, .unset] [(.int (81 : Int32)), (.ref t1), (.ref t1)])) rfl (hb hby at_562) _ ?_
  show Steps p.tables e below (T84.setTop (mkF m 565 #[.val (.long q1), .second, .val (.int p1), .val (.int p2), .unset, .unset, .unset, .unset, .unset, .unset] [(.long (37889062373143906 : Int64)), (.int (81 : Int32)), (.ref t1), (.ref t1)])) _
  refine st85 _ ?_
  show Steps p.tables e below (T85.setTop (mkF m 566 #[.val (.long q1), .second, .val (.int p1), .val (.int p2), .unset, .unset, .unset, .unset, .unset, .unset] [(.ref t1)])) _
  refine XS.dup X85.here hx rfl (hb hby at_566) rfl rfl ?_
  show Steps p.tables e below (T85.setTop (mkF m 567 #[.val (.long q1), .second, .val (.int p1), .val (.int p2), .unset, .unset, .unset, .unset, .unset, .unset] [(.ref t1), (.ref t1)])) _
  refine XS.bipush X85.here hx rfl (hb hby at_567) ?_
  show Steps p.tables e below (T85.setTop (mkF m 569 #[.val (.long q1), .second, .val (.int p1), .val (.int p2), .unset, .unset, .unset, .unset, .unset, .unset] [(.int (82 : Int32)), (.ref t1), (.ref t1)])) _
  refine X85.ldc2Long hx hown (mvT hZ (hw _ (List.mem_of_getElem? (i := 80) rfl))) (g := (mkF m 569 #[.val (.long q1), .second, .val (.int p1), .val (.int p2), .unset, .unset, .unset, .unset, .unset, .unset] [(.int (82 : Int32)), (.ref t1), (.ref t1)])) rfl (hb hby at_569) _ ?_
  show Steps p.tables e below (T85.setTop (mkF m 572 #[.val (.long q1), .second, .val (.int p1), .val (.int p2), .unset, .unset, .unset, .unset, .unset, .unset] [(.long (61305790721611591 : Int64)), (.int (82 : Int32)), (.ref t1), (.ref t1)])) _
  refine st86 _ ?_
  show Steps p.tables e below (T86.setTop (mkF m 573 #[.val (.long q1), .second, .val (.int p1), .val (.int p2), .unset, .unset, .unset, .unset, .unset, .unset] [(.ref t1)])) _
  refine XS.dup X86.here hx rfl (hb hby at_573) rfl rfl ?_
  show Steps p.tables e below (T86.setTop (mkF m 574 #[.val (.long q1), .second, .val (.int p1), .val (.int p2), .unset, .unset, .unset, .unset, .unset, .unset] [(.ref t1), (.ref t1)])) _
  refine XS.bipush X86.here hx rfl (hb hby at_574) ?_
  show Steps p.tables e below (T86.setTop (mkF m 576 #[.val (.long q1), .second, .val (.int p1), .val (.int p2), .unset, .unset, .unset, .unset, .unset, .unset] [(.int (83 : Int32)), (.ref t1), (.ref t1)])) _
  refine X86.ldc2Long hx hown (mvT hZ (hw _ (List.mem_of_getElem? (i := 81) rfl))) (g := (mkF m 576 #[.val (.long q1), .second, .val (.int p1), .val (.int p2), .unset, .unset, .unset, .unset, .unset, .unset] [(.int (83 : Int32)), (.ref t1), (.ref t1)])) rfl (hb hby at_576) _ ?_
  show Steps p.tables e below (T86.setTop (mkF m 579 #[.val (.long q1), .second, .val (.int p1), .val (.int p2), .unset, .unset, .unset, .unset, .unset, .unset] [(.long (99194853094755497 : Int64)), (.int (83 : Int32)), (.ref t1), (.ref t1)])) _
  refine st87 _ ?_
  show Steps p.tables e below (T87.setTop (mkF m 580 #[.val (.long q1), .second, .val (.int p1), .val (.int p2), .unset, .unset, .unset, .unset, .unset, .unset] [(.ref t1)])) _
  refine XS.dup X87.here hx rfl (hb hby at_580) rfl rfl ?_
  show Steps p.tables e below (T87.setTop (mkF m 581 #[.val (.long q1), .second, .val (.int p1), .val (.int p2), .unset, .unset, .unset, .unset, .unset, .unset] [(.ref t1), (.ref t1)])) _
  refine XS.bipush X87.here hx rfl (hb hby at_581) ?_
  show Steps p.tables e below (T87.setTop (mkF m 583 #[.val (.long q1), .second, .val (.int p1), .val (.int p2), .unset, .unset, .unset, .unset, .unset, .unset] [(.int (84 : Int32)), (.ref t1), (.ref t1)])) _
  refine X87.ldc2Long hx hown (mvT hZ (hw _ (List.mem_of_getElem? (i := 82) rfl))) (g := (mkF m 583 #[.val (.long q1), .second, .val (.int p1), .val (.int p2), .unset, .unset, .unset, .unset, .unset, .unset] [(.int (84 : Int32)), (.ref t1), (.ref t1)])) rfl (hb hby at_583) _ ?_
  show Steps p.tables e below (T87.setTop (mkF m 586 #[.val (.long q1), .second, .val (.int p1), .val (.int p2), .unset, .unset, .unset, .unset, .unset, .unset] [(.long (160500643816367088 : Int64)), (.int (84 : Int32)), (.ref t1), (.ref t1)])) _
  refine st88 _ ?_
  show Steps p.tables e below (T88.setTop (mkF m 587 #[.val (.long q1), .second, .val (.int p1), .val (.int p2), .unset, .unset, .unset, .unset, .unset, .unset] [(.ref t1)])) _
  refine XS.dup X88.here hx rfl (hb hby at_587) rfl rfl ?_
  show Steps p.tables e below (T88.setTop (mkF m 588 #[.val (.long q1), .second, .val (.int p1), .val (.int p2), .unset, .unset, .unset, .unset, .unset, .unset] [(.ref t1), (.ref t1)])) _
  refine XS.bipush X88.here hx rfl (hb hby at_588) ?_
  show Steps p.tables e below (T88.setTop (mkF m 590 #[.val (.long q1), .second, .val (.int p1), .val (.int p2), .unset, .unset, .unset, .unset, .unset, .unset] [(.int (85 : Int32)), (.ref t1), (.ref t1)])) _
  refine X88.ldc2Long hx hown (mvT hZ (hw _ (List.mem_of_getElem? (i := 83) rfl))) (g := (mkF m 590 #[.val (.long q1), .second, .val (.int p1), .val (.int p2), .unset, .unset, .unset, .unset, .unset, .unset] [(.int (85 : Int32)), (.ref t1), (.ref t1)])) rfl (hb hby at_590) _ ?_
  show Steps p.tables e below (T88.setTop (mkF m 593 #[.val (.long q1), .second, .val (.int p1), .val (.int p2), .unset, .unset, .unset, .unset, .unset, .unset] [(.long (259695496911122585 : Int64)), (.int (85 : Int32)), (.ref t1), (.ref t1)])) _
  refine st89 _ ?_
  show Steps p.tables e below (T89.setTop (mkF m 594 #[.val (.long q1), .second, .val (.int p1), .val (.int p2), .unset, .unset, .unset, .unset, .unset, .unset] [(.ref t1)])) _
  refine XS.dup X89.here hx rfl (hb hby at_594) rfl rfl ?_
  show Steps p.tables e below (T89.setTop (mkF m 595 #[.val (.long q1), .second, .val (.int p1), .val (.int p2), .unset, .unset, .unset, .unset, .unset, .unset] [(.ref t1), (.ref t1)])) _
  refine XS.bipush X89.here hx rfl (hb hby at_595) ?_
  show Steps p.tables e below (T89.setTop (mkF m 597 #[.val (.long q1), .second, .val (.int p1), .val (.int p2), .unset, .unset, .unset, .unset, .unset, .unset] [(.int (86 : Int32)), (.ref t1), (.ref t1)])) _
  refine X89.ldc2Long hx hown (mvT hZ (hw _ (List.mem_of_getElem? (i := 84) rfl))) (g := (mkF m 597 #[.val (.long q1), .second, .val (.int p1), .val (.int p2), .unset, .unset, .unset, .unset, .unset, .unset] [(.int (86 : Int32)), (.ref t1), (.ref t1)])) rfl (hb hby at_597) _ ?_
  show Steps p.tables e below (T89.setTop (mkF m 600 #[.val (.long q1), .second, .val (.int p1), .val (.int p2), .unset, .unset, .unset, .unset, .unset, .unset] [(.long (420196140727489673 : Int64)), (.int (86 : Int32)), (.ref t1), (.ref t1)])) _
  refine st90 _ ?_
  show Steps p.tables e below (T90.setTop (mkF m 601 #[.val (.long q1), .second, .val (.int p1), .val (.int p2), .unset, .unset, .unset, .unset, .unset, .unset] [(.ref t1)])) _
  refine XS.dup X90.here hx rfl (hb hby at_601) rfl rfl ?_
  show Steps p.tables e below (T90.setTop (mkF m 602 #[.val (.long q1), .second, .val (.int p1), .val (.int p2), .unset, .unset, .unset, .unset, .unset, .unset] [(.ref t1), (.ref t1)])) _
  refine XS.bipush X90.here hx rfl (hb hby at_602) ?_
  show Steps p.tables e below (T90.setTop (mkF m 604 #[.val (.long q1), .second, .val (.int p1), .val (.int p2), .unset, .unset, .unset, .unset, .unset, .unset] [(.int (87 : Int32)), (.ref t1), (.ref t1)])) _
  refine X90.ldc2Long hx hown (mvT hZ (hw _ (List.mem_of_getElem? (i := 85) rfl))) (g := (mkF m 604 #[.val (.long q1), .second, .val (.int p1), .val (.int p2), .unset, .unset, .unset, .unset, .unset, .unset] [(.int (87 : Int32)), (.ref t1), (.ref t1)])) rfl (hb hby at_604) _ ?_
  show Steps p.tables e below (T90.setTop (mkF m 607 #[.val (.long q1), .second, .val (.int p1), .val (.int p2), .unset, .unset, .unset, .unset, .unset, .unset] [(.long (679891637638612258 : Int64)), (.int (87 : Int32)), (.ref t1), (.ref t1)])) _
  refine st91 _ ?_
  show Steps p.tables e below (T91.setTop (mkF m 608 #[.val (.long q1), .second, .val (.int p1), .val (.int p2), .unset, .unset, .unset, .unset, .unset, .unset] [(.ref t1)])) _
  refine XS.dup X91.here hx rfl (hb hby at_608) rfl rfl ?_
  show Steps p.tables e below (T91.setTop (mkF m 609 #[.val (.long q1), .second, .val (.int p1), .val (.int p2), .unset, .unset, .unset, .unset, .unset, .unset] [(.ref t1), (.ref t1)])) _
  refine XS.bipush X91.here hx rfl (hb hby at_609) ?_
  show Steps p.tables e below (T91.setTop (mkF m 611 #[.val (.long q1), .second, .val (.int p1), .val (.int p2), .unset, .unset, .unset, .unset, .unset, .unset] [(.int (88 : Int32)), (.ref t1), (.ref t1)])) _
  refine X91.ldc2Long hx hown (mvT hZ (hw _ (List.mem_of_getElem? (i := 86) rfl))) (g := (mkF m 611 #[.val (.long q1), .second, .val (.int p1), .val (.int p2), .unset, .unset, .unset, .unset, .unset, .unset] [(.int (88 : Int32)), (.ref t1), (.ref t1)])) rfl (hb hby at_611) _ ?_
  show Steps p.tables e below (T91.setTop (mkF m 614 #[.val (.long q1), .second, .val (.int p1), .val (.int p2), .unset, .unset, .unset, .unset, .unset, .unset] [(.long (1100087778366101931 : Int64)), (.int (88 : Int32)), (.ref t1), (.ref t1)])) _
  refine st92 _ ?_
  show Steps p.tables e below (T92.setTop (mkF m 615 #[.val (.long q1), .second, .val (.int p1), .val (.int p2), .unset, .unset, .unset, .unset, .unset, .unset] [(.ref t1)])) _
  refine XS.dup X92.here hx rfl (hb hby at_615) rfl rfl ?_
  show Steps p.tables e below (T92.setTop (mkF m 616 #[.val (.long q1), .second, .val (.int p1), .val (.int p2), .unset, .unset, .unset, .unset, .unset, .unset] [(.ref t1), (.ref t1)])) _
  refine XS.bipush X92.here hx rfl (hb hby at_616) ?_
  show Steps p.tables e below (T92.setTop (mkF m 618 #[.val (.long q1), .second, .val (.int p1), .val (.int p2), .unset, .unset, .unset, .unset, .unset, .unset] [(.int (89 : Int32)), (.ref t1), (.ref t1)])) _
  refine X92.ldc2Long hx hown (mvT hZ (hw _ (List.mem_of_getElem? (i := 87) rfl))) (g := (mkF m 618 #[.val (.long q1), .second, .val (.int p1), .val (.int p2), .unset, .unset, .unset, .unset, .unset, .unset] [(.int (89 : Int32)), (.ref t1), (.ref t1)])) rfl (hb hby at_618) _ ?_
  show Steps p.tables e below (T92.setTop (mkF m 621 #[.val (.long q1), .second, .val (.int p1), .val (.int p2), .unset, .unset, .unset, .unset, .unset, .unset] [(.long (1779979416004714189 : Int64)), (.int (89 : Int32)), (.ref t1), (.ref t1)])) _
  refine st93 _ ?_
  show Steps p.tables e below (T93.setTop (mkF m 622 #[.val (.long q1), .second, .val (.int p1), .val (.int p2), .unset, .unset, .unset, .unset, .unset, .unset] [(.ref t1)])) _
  refine XS.dup X93.here hx rfl (hb hby at_622) rfl rfl ?_
  show Steps p.tables e below (T93.setTop (mkF m 623 #[.val (.long q1), .second, .val (.int p1), .val (.int p2), .unset, .unset, .unset, .unset, .unset, .unset] [(.ref t1), (.ref t1)])) _
  refine XS.bipush X93.here hx rfl (hb hby at_623) ?_
  show Steps p.tables e below (T93.setTop (mkF m 625 #[.val (.long q1), .second, .val (.int p1), .val (.int p2), .unset, .unset, .unset, .unset, .unset, .unset] [(.int (90 : Int32)), (.ref t1), (.ref t1)])) _
  refine X93.ldc2Long hx hown (mvT hZ (hw _ (List.mem_of_getElem? (i := 88) rfl))) (g := (mkF m 625 #[.val (.long q1), .second, .val (.int p1), .val (.int p2), .unset, .unset, .unset, .unset, .unset, .unset] [(.int (90 : Int32)), (.ref t1), (.ref t1)])) rfl (hb hby at_625) _ ?_
  show Steps p.tables e below (T93.setTop (mkF m 628 #[.val (.long q1), .second, .val (.int p1), .val (.int p2), .unset, .unset, .unset, .unset, .unset, .unset] [(.long (2880067194370816120 : Int64)), (.int (90 : Int32)), (.ref t1), (.ref t1)])) _
  refine st94 _ ?_
  show Steps p.tables e below (T94.setTop (mkF m 629 #[.val (.long q1), .second, .val (.int p1), .val (.int p2), .unset, .unset, .unset, .unset, .unset, .unset] [(.ref t1)])) _
  refine XS.dup X94.here hx rfl (hb hby at_629) rfl rfl ?_
  show Steps p.tables e below (T94.setTop (mkF m 630 #[.val (.long q1), .second, .val (.int p1), .val (.int p2), .unset, .unset, .unset, .unset, .unset, .unset] [(.ref t1), (.ref t1)])) _
  refine XS.bipush X94.here hx rfl (hb hby at_630) ?_
  show Steps p.tables e below (T94.setTop (mkF m 632 #[.val (.long q1), .second, .val (.int p1), .val (.int p2), .unset, .unset, .unset, .unset, .unset, .unset] [(.int (91 : Int32)), (.ref t1), (.ref t1)])) _
  refine X94.ldc2Long hx hown (mvT hZ (hw _ (List.mem_of_getElem? (i := 89) rfl))) (g := (mkF m 632 #[.val (.long q1), .second, .val (.int p1), .val (.int p2), .unset, .unset, .unset, .unset, .unset, .unset] [(.int (91 : Int32)), (.ref t1), (.ref t1)])) rfl (hb hby at_632) _ ?_
  show Steps p.tables e below (T94.setTop (mkF m 635 #[.val (.long q1), .second, .val (.int p1), .val (.int p2), .unset, .unset, .unset, .unset, .unset, .unset] [(.long (4660046610375530309 : Int64)), (.int (91 : Int32)), (.ref t1), (.ref t1)])) _
  refine st95 _ ?_
  show Steps p.tables e below (T95.setTop (mkF m 636 #[.val (.long q1), .second, .val (.int p1), .val (.int p2), .unset, .unset, .unset, .unset, .unset, .unset] [(.ref t1)])) _
  refine XS.dup X95.here hx rfl (hb hby at_636) rfl rfl ?_
  show Steps p.tables e below (T95.setTop (mkF m 637 #[.val (.long q1), .second, .val (.int p1), .val (.int p2), .unset, .unset, .unset, .unset, .unset, .unset] [(.ref t1), (.ref t1)])) _
  refine XS.bipush X95.here hx rfl (hb hby at_637) ?_
  show Steps p.tables e below (T95.setTop (mkF m 639 #[.val (.long q1), .second, .val (.int p1), .val (.int p2), .unset, .unset, .unset, .unset, .unset, .unset] [(.int (92 : Int32)), (.ref t1), (.ref t1)])) _
  refine X95.ldc2Long hx hown (mvT hZ (hw _ (List.mem_of_getElem? (i := 90) rfl))) (g := (mkF m 639 #[.val (.long q1), .second, .val (.int p1), .val (.int p2), .unset, .unset, .unset, .unset, .unset, .unset] [(.int (92 : Int32)), (.ref t1), (.ref t1)])) rfl (hb hby at_639) _ ?_
  show Steps p.tables e below (T95.setTop (mkF m 642 #[.val (.long q1), .second, .val (.int p1), .val (.int p2), .unset, .unset, .unset, .unset, .unset, .unset] [(.long (7540113804746346429 : Int64)), (.int (92 : Int32)), (.ref t1), (.ref t1)])) _
  refine st96 _ ?_
  show Steps p.tables e below (T96.setTop (mkF m 643 #[.val (.long q1), .second, .val (.int p1), .val (.int p2), .unset, .unset, .unset, .unset, .unset, .unset] [(.ref t1)])) _
  refine XS.astore X96.here hx rfl (hb hby at_643) rfl rfl (l' := #[.val (.long q1), .second, .val (.int p1), .val (.int p2), .val (.ref t1), .unset, .unset, .unset, .unset, .unset]) rfl ?_
  exact kt
theorem pd_31 : parseMethodDescriptor "(J)I" = some ⟨[.long], some .int⟩ := by decide +kernel
theorem pd_32 : parseMethodDescriptor "(JJ)J" = some ⟨[.long, .long], some .long⟩ := by decide +kernel
theorem pn_0 : plainName "com/example/kortkode/kortkode/coder/AdaptiveTreeMaxDepthPinLaw" = true := by first | (simp [plainName, overriddenIn]; done) | decide +kernel
theorem ef_0 (m : MethodId) (x0 : Int64) (x1 : Int32) (x2 : Int32) : entryFrame m #[(.long x0), (.int x1), (.int x2)] maxLocals = mkF m 0 #[.val (.long x0), .second, .val (.int x1), .val (.int x2), .unset, .unset, .unset, .unset, .unset, .unset] [] := by first | (simp [entryFrame, mkF, argsToLocals, Value.category, maxLocals]; done) | rfl
def Q0 (Z : State) (q1 : Int64) (p1 : Int32) (p2 : Int32) (h0 : Heap) (n0 : Nat) (v : Option Value) (h : Heap) (L : List Loc) : Prop := v = some (.int (1 : Int32)) ∧ Fr n0 L
set_option maxRecDepth 65536 in
set_option maxHeartbeats 40000000 in
theorem rm0 (l : Launch) (Z : State) (a0 : Array Value) (hw : ∀ d ∈ tables_1, d.before a0 Z = true) (ws : List Jvm.Cond) (q1 : Int64) (p1 : Int32) (p2 : Int32) (h0 : Heap) (n0 : Nat) (Z0 : n0 ≤ h0.size) :
    MetFree l x (head1 (Jvm.Cond.code x code maxLocals ret :: ws) room_1) (fun a U => a = #[(.long q1), (.int p1), (.int p2)] ∧ Z.Warmed39 U.vm ∧ U.heap = h0) (fun _ _ _ _ _ => True) (fun _ U o U' => ∃ v L, o = .returned v ∧ Q0 Z q1 p1 p2 h0 n0 v U'.heap L ∧ FrameEnd U o U' L room_1.cells room_1.slots) := by
  refine MetFree.of_bodySF (plainFor_of_name pn_0) hisR ?_
  intro p e s m args below meth c s₁ Bd hml0 hP hK
  obtain ⟨rfl, hZ, hh⟩ := hP
  have hx := Bd.exec
  have hby := Bd.bytes
  have hml : c.maxLocals = 10 := hml0
  have hown : s.vm.findClass "com/example/kortkode/kortkode/coder/AdaptiveTreeMaxDepthPinLaw" = some m.cls := findClass_of_methodNamed Bd.named
  have hnm := (name_of_methodNamed Bd.named Bd.method).1
  have X0 : Stand p l e room_1 s m #[(.long q1), (.int p1), (.int p2)] below meth c s₁ [] 0 0 := Stand.of_body Bd
  have e0 : s₁.heap = h0 := by rw [← hh, Bd.state]; rfl
  have N0 := Fr.nil n0
  have pre0 : ∀ t, Steps p.tables e below (s₁.setTop (mkF m 0 #[.val (.long q1), .second, .val (.int p1), .val (.int p2), .unset, .unset, .unset, .unset, .unset, .unset] [])) t → Steps p.tables e below (s₁.setTop (entryFrame m #[(.long q1), (.int p1), (.int p2)] maxLocals)) t := fun t k => castTop (ef_0 m q1 p1 p2) k
  obtain ⟨TF, hF, LF, t1, XF, eF, NF, ZF, FF, stF⟩ := own_fill q1 p1 p2 X0 hx hZ hw hby hown e0 N0 Z0
  by_cases hc648 : (p2 &&& (1 : Int32)) = (0 : Int32)
  · obtain ⟨_, _, ⟨T1, L1, k1, n1⟩, -, X1, ⟨Lc1, hQ1, l1, y1, z1⟩, st1⟩ := Jvm.LawKit.callS XF hx (y := (⟨"com/example/kortkode/kortkode/coder/AdaptiveTree", "maxDepth", "(J)I"⟩ : MethodName)) hown (mvT hZ (hw _ (List.mem_of_getElem? (i := 96) rfl))) (mvT hZ (hw _ (List.mem_of_getElem? (i := 97) rfl))) (mvT hZ (hw _ (List.mem_of_getElem? (i := 98) rfl))) (mvT hZ (hw _ (List.mem_of_getElem? (i := 99) rfl))) (by decide) (backOf (W := 0) (rm2 l Z a0 hw [] (q1 &&& (4611686018427387903 : Int64)) hF n0 ZF (own_A q1).1 (own_A q1).2) hZ (hw _ (List.mem_of_getElem? (i := 99) rfl)) (hw _ (List.mem_of_getElem? (i := 98) rfl)) (by decide) (by decide)) (g := (mkF m 696 #[.val (.long q1), .second, .val (.int p1), .val (.int p2), .val (.ref t1), .val (.long (q1 &&& (4611686018427387903 : Int64))), .second, .unset, .unset, .unset] [(.long (q1 &&& (4611686018427387903 : Int64)))])) rfl (by rw [hml]; rfl) (argsL := [(.long (q1 &&& (4611686018427387903 : Int64)))]) (rest := []) (lenOf pd_31 rfl) rfl (by show 2 * 0 + _ ≤ _; exact Nat.le_of_eq rfl) (hb hby at_696) (fun _ _ => ⟨rfl, eF, (by decide : 1 + 0 ≤ _), (by decide : 93 + 0 ≤ _)⟩)
    dsimp only [Pt.U, Pt.locs, Pt.cells, Pt.slots] at X1 l1 y1 z1 st1 hQ1
    subst l1 y1 z1
    obtain ⟨nd, rfl, N1q, e1, hn1, hn2, hn3⟩ := hQ1
    have N1 := Fr.app NF N1q
    obtain ⟨cl2, Ar2, S2, H2⟩ := id FF
    have hin2 : ¬ ((Int32.ofNat nd) < 0 ∨ cl2.slots.size ≤ ((Int32.ofNat nd)).toNatClampNeg) := by rw [S2]; exact within (rfl : Int32.ofNat nd = Int32.ofNat nd) (by omega) (by decide)
    have hat2 : cl2.slots[((Int32.ofNat nd)).toNatClampNeg]? = some (.long (own_f nd)) := by rw [clamp_of (rfl : Int32.ofNat nd = Int32.ofNat nd) (by omega)]; exact H2 _ (by omega)
    obtain ⟨cl3, Ar3, S3, H3⟩ := id FF
    have hin3 : ¬ (((Int32.ofNat nd) + (1 : Int32)) < 0 ∨ cl3.slots.size ≤ (((Int32.ofNat nd) + (1 : Int32))).toNatClampNeg) := by rw [S3]; exact within (own_one nd) (by omega) (by decide)
    have hat3 : cl3.slots[(((Int32.ofNat nd) + (1 : Int32))).toNatClampNeg]? = some (.long (own_f (nd + 1))) := by rw [clamp_of (own_one nd) (by omega)]; exact H3 _ (by omega)
    obtain ⟨fs, hr, hrun, hended, hW, hsame⟩ := X1.leave (v := some (.int (1 : Int32))) (fun h => by rw [Bd.returns] at h; cases h)
    refine ⟨_, _, pre0 _ ?_, hrun, hended, _, _, rfl, ?_, ⟨_, rfl⟩, hW, hsame.mono (by decide) (by decide)⟩
    · show Steps p.tables e below (s₁.setTop (mkF m 0 #[.val (.long q1), .second, .val (.int p1), .val (.int p2), .unset, .unset, .unset, .unset, .unset, .unset] [])) _
      refine stF _ ?_
      show Steps p.tables e below (TF.setTop (mkF m 645 #[.val (.long q1), .second, .val (.int p1), .val (.int p2), .val (.ref t1), .unset, .unset, .unset, .unset, .unset] [])) _
      refine XS.iloadN XF.here hx rfl (hb hby at_645) rfl ?_
      show Steps p.tables e below (TF.setTop (mkF m 646 #[.val (.long q1), .second, .val (.int p1), .val (.int p2), .val (.ref t1), .unset, .unset, .unset, .unset, .unset] [(.int p2)])) _
      refine XS.iconst XF.here hx rfl (hb hby at_646) ?_
      show Steps p.tables e below (TF.setTop (mkF m 647 #[.val (.long q1), .second, .val (.int p1), .val (.int p2), .val (.ref t1), .unset, .unset, .unset, .unset, .unset] [(.int (1 : Int32)), (.int p2)])) _
      refine XS.iand XF.here hx rfl (hb hby at_647) rfl ?_
      show Steps p.tables e below (TF.setTop (mkF m 648 #[.val (.long q1), .second, .val (.int p1), .val (.int p2), .val (.ref t1), .unset, .unset, .unset, .unset, .unset] [(.int (p2 &&& (1 : Int32)))])) _
      refine XS.ifNo XF.here hx rfl (hb hby at_648) rfl ((if0 _ _).trans (teq hc648).2) ?_
      show Steps p.tables e below (TF.setTop (mkF m 651 #[.val (.long q1), .second, .val (.int p1), .val (.int p2), .val (.ref t1), .unset, .unset, .unset, .unset, .unset] [])) _
      refine XS.lloadN XF.here hx rfl (hb hby at_651) rfl ?_
      show Steps p.tables e below (TF.setTop (mkF m 652 #[.val (.long q1), .second, .val (.int p1), .val (.int p2), .val (.ref t1), .unset, .unset, .unset, .unset, .unset] [(.long q1)])) _
      refine XF.ldc2Long hx hown (mvT hZ (hw _ (List.mem_of_getElem? (i := 100) rfl))) (g := (mkF m 652 #[.val (.long q1), .second, .val (.int p1), .val (.int p2), .val (.ref t1), .unset, .unset, .unset, .unset, .unset] [(.long q1)])) rfl (hb hby at_652) _ ?_
      show Steps p.tables e below (TF.setTop (mkF m 655 #[.val (.long q1), .second, .val (.int p1), .val (.int p2), .val (.ref t1), .unset, .unset, .unset, .unset, .unset] [(.long (4611686018427387903 : Int64)), (.long q1)])) _
      refine XS.land XF.here hx rfl (hb hby at_655) rfl ?_
      show Steps p.tables e below (TF.setTop (mkF m 656 #[.val (.long q1), .second, .val (.int p1), .val (.int p2), .val (.ref t1), .unset, .unset, .unset, .unset, .unset] [(.long (q1 &&& (4611686018427387903 : Int64)))])) _
      refine XS.lstore XF.here hx rfl (hb hby at_656) rfl (l' := #[.val (.long q1), .second, .val (.int p1), .val (.int p2), .val (.ref t1), .val (.long (q1 &&& (4611686018427387903 : Int64))), .second, .unset, .unset, .unset]) rfl ?_
      show Steps p.tables e below (TF.setTop (mkF m 658 #[.val (.long q1), .second, .val (.int p1), .val (.int p2), .val (.ref t1), .val (.long (q1 &&& (4611686018427387903 : Int64))), .second, .unset, .unset, .unset] [])) _
      refine XS.goto XF.here hx rfl (pc0 := 658) (pc' := 694) rfl (hb hby at_658) (by decide) (by decide) ?_
      show Steps p.tables e below (TF.setTop (mkF m 694 #[.val (.long q1), .second, .val (.int p1), .val (.int p2), .val (.ref t1), .val (.long (q1 &&& (4611686018427387903 : Int64))), .second, .unset, .unset, .unset] [])) _
      refine XS.lload XF.here hx rfl (hb hby at_694) rfl ?_
      show Steps p.tables e below (TF.setTop (mkF m 696 #[.val (.long q1), .second, .val (.int p1), .val (.int p2), .val (.ref t1), .val (.long (q1 &&& (4611686018427387903 : Int64))), .second, .unset, .unset, .unset] [(.long (q1 &&& (4611686018427387903 : Int64)))])) _
      refine st1 _ ?_
      show Steps p.tables e below (T1.setTop (mkF m 699 #[.val (.long q1), .second, .val (.int p1), .val (.int p2), .val (.ref t1), .val (.long (q1 &&& (4611686018427387903 : Int64))), .second, .unset, .unset, .unset] [(.int (Int32.ofNat nd))])) _
      refine XS.istore X1.here hx rfl (hb hby at_699) rfl (l' := #[.val (.long q1), .second, .val (.int p1), .val (.int p2), .val (.ref t1), .val (.long (q1 &&& (4611686018427387903 : Int64))), .second, .val (.int (Int32.ofNat nd)), .unset, .unset]) rfl ?_
      show Steps p.tables e below (T1.setTop (mkF m 701 #[.val (.long q1), .second, .val (.int p1), .val (.int p2), .val (.ref t1), .val (.long (q1 &&& (4611686018427387903 : Int64))), .second, .val (.int (Int32.ofNat nd)), .unset, .unset] [])) _
      refine XS.iload X1.here hx rfl (hb hby at_701) rfl ?_
      show Steps p.tables e below (T1.setTop (mkF m 703 #[.val (.long q1), .second, .val (.int p1), .val (.int p2), .val (.ref t1), .val (.long (q1 &&& (4611686018427387903 : Int64))), .second, .val (.int (Int32.ofNat nd)), .unset, .unset] [(.int (Int32.ofNat nd))])) _
      refine XS.ifNo X1.here hx rfl (hb hby at_703) rfl ((if0 _ _).trans (flt (own_nn hn1)).1) ?_
      show Steps p.tables e below (T1.setTop (mkF m 706 #[.val (.long q1), .second, .val (.int p1), .val (.int p2), .val (.ref t1), .val (.long (q1 &&& (4611686018427387903 : Int64))), .second, .val (.int (Int32.ofNat nd)), .unset, .unset] [])) _
      refine XS.iload X1.here hx rfl (hb hby at_706) rfl ?_
      show Steps p.tables e below (T1.setTop (mkF m 708 #[.val (.long q1), .second, .val (.int p1), .val (.int p2), .val (.ref t1), .val (.long (q1 &&& (4611686018427387903 : Int64))), .second, .val (.int (Int32.ofNat nd)), .unset, .unset] [(.int (Int32.ofNat nd))])) _
      refine XS.bipush X1.here hx rfl (hb hby at_708) ?_
      show Steps p.tables e below (T1.setTop (mkF m 710 #[.val (.long q1), .second, .val (.int p1), .val (.int p2), .val (.ref t1), .val (.long (q1 &&& (4611686018427387903 : Int64))), .second, .val (.int (Int32.ofNat nd)), .unset, .unset] [(.int (91 : Int32)), (.int (Int32.ofNat nd))])) _
      refine XS.icmpYes X1.here hx rfl (pc0 := 710) (pc' := 715) rfl (hb hby at_710) rfl (flt (own_le hn1)).2.2.2 (by decide) (by decide) ?_
      show Steps p.tables e below (T1.setTop (mkF m 715 #[.val (.long q1), .second, .val (.int p1), .val (.int p2), .val (.ref t1), .val (.long (q1 &&& (4611686018427387903 : Int64))), .second, .val (.int (Int32.ofNat nd)), .unset, .unset] [])) _
      refine XS.aload X1.here hx rfl (hb hby at_715) rfl rfl ?_
      show Steps p.tables e below (T1.setTop (mkF m 717 #[.val (.long q1), .second, .val (.int p1), .val (.int p2), .val (.ref t1), .val (.long (q1 &&& (4611686018427387903 : Int64))), .second, .val (.int (Int32.ofNat nd)), .unset, .unset] [(.ref t1)])) _
      refine XS.iload X1.here hx rfl (hb hby at_717) rfl ?_
      show Steps p.tables e below (T1.setTop (mkF m 719 #[.val (.long q1), .second, .val (.int p1), .val (.int p2), .val (.ref t1), .val (.long (q1 &&& (4611686018427387903 : Int64))), .second, .val (.int (Int32.ofNat nd)), .unset, .unset] [(.int (Int32.ofNat nd)), (.ref t1)])) _
      refine X1.laload hx (j := (Int32.ofNat nd)) (v := (.long (own_f nd))) (by rw [e1]; exact Ar2.1) (State.isArrayOf_alike hZ.alike Ar2.2.1) Ar2.2.2 hin2 hat2 (g := (mkF m 719 #[.val (.long q1), .second, .val (.int p1), .val (.int p2), .val (.ref t1), .val (.long (q1 &&& (4611686018427387903 : Int64))), .second, .val (.int (Int32.ofNat nd)), .unset, .unset] [(.int (Int32.ofNat nd)), (.ref t1)])) rfl rfl (hb hby at_719) _ ?_
      show Steps p.tables e below (T1.setTop (mkF m 720 #[.val (.long q1), .second, .val (.int p1), .val (.int p2), .val (.ref t1), .val (.long (q1 &&& (4611686018427387903 : Int64))), .second, .val (.int (Int32.ofNat nd)), .unset, .unset] [(.long (own_f nd))])) _
      refine XS.lload X1.here hx rfl (hb hby at_720) rfl ?_
      show Steps p.tables e below (T1.setTop (mkF m 722 #[.val (.long q1), .second, .val (.int p1), .val (.int p2), .val (.ref t1), .val (.long (q1 &&& (4611686018427387903 : Int64))), .second, .val (.int (Int32.ofNat nd)), .unset, .unset] [(.long (q1 &&& (4611686018427387903 : Int64))), (.long (own_f nd))])) _
      refine XS.lcmp X1.here hx rfl (hb hby at_722) rfl ?_
      show Steps p.tables e below (T1.setTop (mkF m 723 #[.val (.long q1), .second, .val (.int p1), .val (.int p2), .val (.ref t1), .val (.long (q1 &&& (4611686018427387903 : Int64))), .second, .val (.int (Int32.ofNat nd)), .unset, .unset] [(.int (lcmpW (own_f nd) (q1 &&& (4611686018427387903 : Int64))))])) _
      refine XS.ifNo X1.here hx rfl (hb hby at_723) rfl ((if0 _ _).trans (flt (fun q => hn2 ((lw_gt _ _).mp q))).2.2.1) ?_
      show Steps p.tables e below (T1.setTop (mkF m 726 #[.val (.long q1), .second, .val (.int p1), .val (.int p2), .val (.ref t1), .val (.long (q1 &&& (4611686018427387903 : Int64))), .second, .val (.int (Int32.ofNat nd)), .unset, .unset] [])) _
      refine XS.lload X1.here hx rfl (hb hby at_726) rfl ?_
      show Steps p.tables e below (T1.setTop (mkF m 728 #[.val (.long q1), .second, .val (.int p1), .val (.int p2), .val (.ref t1), .val (.long (q1 &&& (4611686018427387903 : Int64))), .second, .val (.int (Int32.ofNat nd)), .unset, .unset] [(.long (q1 &&& (4611686018427387903 : Int64)))])) _
      refine XS.aload X1.here hx rfl (hb hby at_728) rfl rfl ?_
      show Steps p.tables e below (T1.setTop (mkF m 730 #[.val (.long q1), .second, .val (.int p1), .val (.int p2), .val (.ref t1), .val (.long (q1 &&& (4611686018427387903 : Int64))), .second, .val (.int (Int32.ofNat nd)), .unset, .unset] [(.ref t1), (.long (q1 &&& (4611686018427387903 : Int64)))])) _
      refine XS.iload X1.here hx rfl (hb hby at_730) rfl ?_
      show Steps p.tables e below (T1.setTop (mkF m 732 #[.val (.long q1), .second, .val (.int p1), .val (.int p2), .val (.ref t1), .val (.long (q1 &&& (4611686018427387903 : Int64))), .second, .val (.int (Int32.ofNat nd)), .unset, .unset] [(.int (Int32.ofNat nd)), (.ref t1), (.long (q1 &&& (4611686018427387903 : Int64)))])) _
      refine XS.iconst X1.here hx rfl (hb hby at_732) ?_
      show Steps p.tables e below (T1.setTop (mkF m 733 #[.val (.long q1), .second, .val (.int p1), .val (.int p2), .val (.ref t1), .val (.long (q1 &&& (4611686018427387903 : Int64))), .second, .val (.int (Int32.ofNat nd)), .unset, .unset] [(.int (1 : Int32)), (.int (Int32.ofNat nd)), (.ref t1), (.long (q1 &&& (4611686018427387903 : Int64)))])) _
      refine XS.iadd X1.here hx rfl (hb hby at_733) rfl ?_
      show Steps p.tables e below (T1.setTop (mkF m 734 #[.val (.long q1), .second, .val (.int p1), .val (.int p2), .val (.ref t1), .val (.long (q1 &&& (4611686018427387903 : Int64))), .second, .val (.int (Int32.ofNat nd)), .unset, .unset] [(.int ((Int32.ofNat nd) + (1 : Int32))), (.ref t1), (.long (q1 &&& (4611686018427387903 : Int64)))])) _
      refine X1.laload hx (j := ((Int32.ofNat nd) + (1 : Int32))) (v := (.long (own_f (nd + 1)))) (by rw [e1]; exact Ar3.1) (State.isArrayOf_alike hZ.alike Ar3.2.1) Ar3.2.2 hin3 hat3 (g := (mkF m 734 #[.val (.long q1), .second, .val (.int p1), .val (.int p2), .val (.ref t1), .val (.long (q1 &&& (4611686018427387903 : Int64))), .second, .val (.int (Int32.ofNat nd)), .unset, .unset] [(.int ((Int32.ofNat nd) + (1 : Int32))), (.ref t1), (.long (q1 &&& (4611686018427387903 : Int64)))])) rfl rfl (hb hby at_734) _ ?_
      show Steps p.tables e below (T1.setTop (mkF m 735 #[.val (.long q1), .second, .val (.int p1), .val (.int p2), .val (.ref t1), .val (.long (q1 &&& (4611686018427387903 : Int64))), .second, .val (.int (Int32.ofNat nd)), .unset, .unset] [(.long (own_f (nd + 1))), (.long (q1 &&& (4611686018427387903 : Int64)))])) _
      refine XS.lcmp X1.here hx rfl (hb hby at_735) rfl ?_
      show Steps p.tables e below (T1.setTop (mkF m 736 #[.val (.long q1), .second, .val (.int p1), .val (.int p2), .val (.ref t1), .val (.long (q1 &&& (4611686018427387903 : Int64))), .second, .val (.int (Int32.ofNat nd)), .unset, .unset] [(.int (lcmpW (q1 &&& (4611686018427387903 : Int64)) (own_f (nd + 1))))])) _
      refine XS.ifNo X1.here hx rfl (hb hby at_736) rfl ((if0 _ _).trans (tlt ((lw_lt _ _).mpr hn3)).2.1) ?_
      show Steps p.tables e below (T1.setTop (mkF m 739 #[.val (.long q1), .second, .val (.int p1), .val (.int p2), .val (.ref t1), .val (.long (q1 &&& (4611686018427387903 : Int64))), .second, .val (.int (Int32.ofNat nd)), .unset, .unset] [])) _
      refine XS.iconst X1.here hx rfl (hb hby at_739) ?_
      show Steps p.tables e below (T1.setTop (mkF m 740 #[.val (.long q1), .second, .val (.int p1), .val (.int p2), .val (.ref t1), .val (.long (q1 &&& (4611686018427387903 : Int64))), .second, .val (.int (Int32.ofNat nd)), .unset, .unset] [(.int (1 : Int32))])) _
      refine XS.goto X1.here hx rfl (pc0 := 740) (pc' := 744) rfl (hb hby at_740) (by decide) (by decide) ?_
      show Steps p.tables e below (T1.setTop (mkF m 744 #[.val (.long q1), .second, .val (.int p1), .val (.int p2), .val (.ref t1), .val (.long (q1 &&& (4611686018427387903 : Int64))), .second, .val (.int (Int32.ofNat nd)), .unset, .unset] [(.int (1 : Int32))])) _
      exact retN X1 hx (t := .boolean) Bd.returns (by simp) (hb hby at_744) hr
    · show Q0 Z q1 p1 p2 h0 n0 _ T1.heap _
      rw [e1]
      exact ⟨rfl, N1⟩
  · obtain ⟨ni, hni, ei⟩ := own_idx p1
    obtain ⟨cl4, Ar4, S4, H4⟩ := id FF
    have hin4 : ¬ (((p1 &&& (2147483647 : Int32)) % (91 : Int32)) < 0 ∨ cl4.slots.size ≤ (((p1 &&& (2147483647 : Int32)) % (91 : Int32))).toNatClampNeg) := by rw [S4]; exact within ei (by omega) (by decide)
    have hat4 : cl4.slots[(((p1 &&& (2147483647 : Int32)) % (91 : Int32))).toNatClampNeg]? = some (.long (own_f ni)) := by rw [clamp_of ei (by omega)]; exact H4 _ (by omega)
    obtain ⟨_, _, ⟨T5, L5, k5, n5⟩, -, X5, ⟨Lc5, hQ5, l5, y5, z5⟩, st5⟩ := Jvm.LawKit.callS XF hx (y := (⟨"java/lang/Math", "max", "(JJ)J"⟩ : MethodName)) hown (mvT hZ (hw _ (List.mem_of_getElem? (i := 92) rfl))) (mvT hZ (hw _ (List.mem_of_getElem? (i := 93) rfl))) (mvT hZ (hw _ (List.mem_of_getElem? (i := 94) rfl))) (mvT hZ (hw _ (List.mem_of_getElem? (i := 95) rfl))) (by decide) (backOf (W := 0) (rm1 l Z a0 hw [] (0 : Int64) ((own_f ni) + ((((p2 >>> ((1 : Int32) &&& 31)) &&& (3 : Int32)) - (1 : Int32)).toInt64)) hF n0 ZF) hZ (hw _ (List.mem_of_getElem? (i := 95) rfl)) (hw _ (List.mem_of_getElem? (i := 94) rfl)) (by decide) (by decide)) (g := (mkF m 689 #[.val (.long q1), .second, .val (.int p1), .val (.int p2), .val (.ref t1), .unset, .unset, .val (.int ((p1 &&& (2147483647 : Int32)) % (91 : Int32))), .val (.long ((((p2 >>> ((1 : Int32) &&& 31)) &&& (3 : Int32)) - (1 : Int32)).toInt64)), .second] [(.long ((own_f ni) + ((((p2 >>> ((1 : Int32) &&& 31)) &&& (3 : Int32)) - (1 : Int32)).toInt64))), (.long (0 : Int64))])) rfl (by rw [hml]; rfl) (argsL := [(.long (0 : Int64)), (.long ((own_f ni) + ((((p2 >>> ((1 : Int32) &&& 31)) &&& (3 : Int32)) - (1 : Int32)).toInt64)))]) (rest := []) (lenOf pd_32 rfl) rfl (by show 2 * 0 + _ ≤ _; exact Nat.le_of_eq rfl) (hb hby at_689) (fun _ _ => ⟨rfl, eF, (by decide : 1 + 0 ≤ _), (by decide : 93 + 0 ≤ _)⟩)
    dsimp only [Pt.U, Pt.locs, Pt.cells, Pt.slots] at X5 l5 y5 z5 st5 hQ5
    subst l5 y5 z5
    obtain ⟨rfl, N5q, e5⟩ := hQ5
    have N5 := Fr.app NF N5q
    obtain ⟨_, _, ⟨T6, L6, k6, n6⟩, -, X6, ⟨Lc6, hQ6, l6, y6, z6⟩, st6⟩ := Jvm.LawKit.callS X5 hx (y := (⟨"com/example/kortkode/kortkode/coder/AdaptiveTree", "maxDepth", "(J)I"⟩ : MethodName)) hown (mvT hZ (hw _ (List.mem_of_getElem? (i := 96) rfl))) (mvT hZ (hw _ (List.mem_of_getElem? (i := 97) rfl))) (mvT hZ (hw _ (List.mem_of_getElem? (i := 98) rfl))) (mvT hZ (hw _ (List.mem_of_getElem? (i := 99) rfl))) (by decide) (backOf (W := 0) (rm2 l Z a0 hw [] (own_max (0 : Int64) ((own_f ni) + ((((p2 >>> ((1 : Int32) &&& 31)) &&& (3 : Int32)) - (1 : Int32)).toInt64))) hF n0 ZF (own_B ni hni _ (own_off p2).1 (own_off p2).2).1 (own_B ni hni _ (own_off p2).1 (own_off p2).2).2) hZ (hw _ (List.mem_of_getElem? (i := 99) rfl)) (hw _ (List.mem_of_getElem? (i := 98) rfl)) (by decide) (by decide)) (g := (mkF m 696 #[.val (.long q1), .second, .val (.int p1), .val (.int p2), .val (.ref t1), .val (.long (own_max (0 : Int64) ((own_f ni) + ((((p2 >>> ((1 : Int32) &&& 31)) &&& (3 : Int32)) - (1 : Int32)).toInt64)))), .second, .val (.int ((p1 &&& (2147483647 : Int32)) % (91 : Int32))), .val (.long ((((p2 >>> ((1 : Int32) &&& 31)) &&& (3 : Int32)) - (1 : Int32)).toInt64)), .second] [(.long (own_max (0 : Int64) ((own_f ni) + ((((p2 >>> ((1 : Int32) &&& 31)) &&& (3 : Int32)) - (1 : Int32)).toInt64))))])) rfl (by rw [hml]; rfl) (argsL := [(.long (own_max (0 : Int64) ((own_f ni) + ((((p2 >>> ((1 : Int32) &&& 31)) &&& (3 : Int32)) - (1 : Int32)).toInt64))))]) (rest := []) (lenOf pd_31 rfl) rfl (by show 2 * 0 + _ ≤ _; exact Nat.le_of_eq rfl) (hb hby at_696) (fun _ _ => ⟨rfl, e5, (by decide : 1 + 0 ≤ _), (by decide : 93 + 0 ≤ _)⟩)
    dsimp only [Pt.U, Pt.locs, Pt.cells, Pt.slots] at X6 l6 y6 z6 st6 hQ6
    subst l6 y6 z6
    obtain ⟨nd, rfl, N6q, e6, hn1, hn2, hn3⟩ := hQ6
    have N6 := Fr.app N5 N6q
    obtain ⟨cl7, Ar7, S7, H7⟩ := id FF
    have hin7 : ¬ ((Int32.ofNat nd) < 0 ∨ cl7.slots.size ≤ ((Int32.ofNat nd)).toNatClampNeg) := by rw [S7]; exact within (rfl : Int32.ofNat nd = Int32.ofNat nd) (by omega) (by decide)
    have hat7 : cl7.slots[((Int32.ofNat nd)).toNatClampNeg]? = some (.long (own_f nd)) := by rw [clamp_of (rfl : Int32.ofNat nd = Int32.ofNat nd) (by omega)]; exact H7 _ (by omega)
    obtain ⟨cl8, Ar8, S8, H8⟩ := id FF
    have hin8 : ¬ (((Int32.ofNat nd) + (1 : Int32)) < 0 ∨ cl8.slots.size ≤ (((Int32.ofNat nd) + (1 : Int32))).toNatClampNeg) := by rw [S8]; exact within (own_one nd) (by omega) (by decide)
    have hat8 : cl8.slots[(((Int32.ofNat nd) + (1 : Int32))).toNatClampNeg]? = some (.long (own_f (nd + 1))) := by rw [clamp_of (own_one nd) (by omega)]; exact H8 _ (by omega)
    obtain ⟨fs, hr, hrun, hended, hW, hsame⟩ := X6.leave (v := some (.int (1 : Int32))) (fun h => by rw [Bd.returns] at h; cases h)
    refine ⟨_, _, pre0 _ ?_, hrun, hended, _, _, rfl, ?_, ⟨_, rfl⟩, hW, hsame.mono (by decide) (by decide)⟩
    · show Steps p.tables e below (s₁.setTop (mkF m 0 #[.val (.long q1), .second, .val (.int p1), .val (.int p2), .unset, .unset, .unset, .unset, .unset, .unset] [])) _
      refine stF _ ?_
      show Steps p.tables e below (TF.setTop (mkF m 645 #[.val (.long q1), .second, .val (.int p1), .val (.int p2), .val (.ref t1), .unset, .unset, .unset, .unset, .unset] [])) _
      refine XS.iloadN XF.here hx rfl (hb hby at_645) rfl ?_
      show Steps p.tables e below (TF.setTop (mkF m 646 #[.val (.long q1), .second, .val (.int p1), .val (.int p2), .val (.ref t1), .unset, .unset, .unset, .unset, .unset] [(.int p2)])) _
      refine XS.iconst XF.here hx rfl (hb hby at_646) ?_
      show Steps p.tables e below (TF.setTop (mkF m 647 #[.val (.long q1), .second, .val (.int p1), .val (.int p2), .val (.ref t1), .unset, .unset, .unset, .unset, .unset] [(.int (1 : Int32)), (.int p2)])) _
      refine XS.iand XF.here hx rfl (hb hby at_647) rfl ?_
      show Steps p.tables e below (TF.setTop (mkF m 648 #[.val (.long q1), .second, .val (.int p1), .val (.int p2), .val (.ref t1), .unset, .unset, .unset, .unset, .unset] [(.int (p2 &&& (1 : Int32)))])) _
      refine XS.ifYes XF.here hx rfl (pc0 := 648) (pc' := 661) rfl (hb hby at_648) rfl ((if0 _ _).trans (feq hc648).2) (by decide) (by decide) ?_
      show Steps p.tables e below (TF.setTop (mkF m 661 #[.val (.long q1), .second, .val (.int p1), .val (.int p2), .val (.ref t1), .unset, .unset, .unset, .unset, .unset] [])) _
      refine XS.iloadN XF.here hx rfl (hb hby at_661) rfl ?_
      show Steps p.tables e below (TF.setTop (mkF m 662 #[.val (.long q1), .second, .val (.int p1), .val (.int p2), .val (.ref t1), .unset, .unset, .unset, .unset, .unset] [(.int p1)])) _
      refine XF.ldcInt hx hown (mvT hZ (hw _ (List.mem_of_getElem? (i := 91) rfl))) (g := (mkF m 662 #[.val (.long q1), .second, .val (.int p1), .val (.int p2), .val (.ref t1), .unset, .unset, .unset, .unset, .unset] [(.int p1)])) rfl (hb hby at_662) _ ?_
      show Steps p.tables e below (TF.setTop (mkF m 664 #[.val (.long q1), .second, .val (.int p1), .val (.int p2), .val (.ref t1), .unset, .unset, .unset, .unset, .unset] [(.int (2147483647 : Int32)), (.int p1)])) _
      refine XS.iand XF.here hx rfl (hb hby at_664) rfl ?_
      show Steps p.tables e below (TF.setTop (mkF m 665 #[.val (.long q1), .second, .val (.int p1), .val (.int p2), .val (.ref t1), .unset, .unset, .unset, .unset, .unset] [(.int (p1 &&& (2147483647 : Int32)))])) _
      refine XS.bipush XF.here hx rfl (hb hby at_665) ?_
      show Steps p.tables e below (TF.setTop (mkF m 667 #[.val (.long q1), .second, .val (.int p1), .val (.int p2), .val (.ref t1), .unset, .unset, .unset, .unset, .unset] [(.int (91 : Int32)), (.int (p1 &&& (2147483647 : Int32)))])) _
      refine XS.irem XF.here hx rfl (hb hby at_667) rfl (by decide) ?_
      rw [irem_eq_mod]
      show Steps p.tables e below (TF.setTop (mkF m 668 #[.val (.long q1), .second, .val (.int p1), .val (.int p2), .val (.ref t1), .unset, .unset, .unset, .unset, .unset] [(.int ((p1 &&& (2147483647 : Int32)) % (91 : Int32)))])) _
      refine XS.istore XF.here hx rfl (hb hby at_668) rfl (l' := #[.val (.long q1), .second, .val (.int p1), .val (.int p2), .val (.ref t1), .unset, .unset, .val (.int ((p1 &&& (2147483647 : Int32)) % (91 : Int32))), .unset, .unset]) rfl ?_
      show Steps p.tables e below (TF.setTop (mkF m 670 #[.val (.long q1), .second, .val (.int p1), .val (.int p2), .val (.ref t1), .unset, .unset, .val (.int ((p1 &&& (2147483647 : Int32)) % (91 : Int32))), .unset, .unset] [])) _
      refine XS.iloadN XF.here hx rfl (hb hby at_670) rfl ?_
      show Steps p.tables e below (TF.setTop (mkF m 671 #[.val (.long q1), .second, .val (.int p1), .val (.int p2), .val (.ref t1), .unset, .unset, .val (.int ((p1 &&& (2147483647 : Int32)) % (91 : Int32))), .unset, .unset] [(.int p2)])) _
      refine XS.iconst XF.here hx rfl (hb hby at_671) ?_
      show Steps p.tables e below (TF.setTop (mkF m 672 #[.val (.long q1), .second, .val (.int p1), .val (.int p2), .val (.ref t1), .unset, .unset, .val (.int ((p1 &&& (2147483647 : Int32)) % (91 : Int32))), .unset, .unset] [(.int (1 : Int32)), (.int p2)])) _
      refine XS.ishr XF.here hx rfl (hb hby at_672) rfl ?_
      show Steps p.tables e below (TF.setTop (mkF m 673 #[.val (.long q1), .second, .val (.int p1), .val (.int p2), .val (.ref t1), .unset, .unset, .val (.int ((p1 &&& (2147483647 : Int32)) % (91 : Int32))), .unset, .unset] [(.int (p2 >>> ((1 : Int32) &&& 31)))])) _
      refine XS.iconst XF.here hx rfl (hb hby at_673) ?_
      show Steps p.tables e below (TF.setTop (mkF m 674 #[.val (.long q1), .second, .val (.int p1), .val (.int p2), .val (.ref t1), .unset, .unset, .val (.int ((p1 &&& (2147483647 : Int32)) % (91 : Int32))), .unset, .unset] [(.int (3 : Int32)), (.int (p2 >>> ((1 : Int32) &&& 31)))])) _
      refine XS.iand XF.here hx rfl (hb hby at_674) rfl ?_
      show Steps p.tables e below (TF.setTop (mkF m 675 #[.val (.long q1), .second, .val (.int p1), .val (.int p2), .val (.ref t1), .unset, .unset, .val (.int ((p1 &&& (2147483647 : Int32)) % (91 : Int32))), .unset, .unset] [(.int ((p2 >>> ((1 : Int32) &&& 31)) &&& (3 : Int32)))])) _
      refine XS.iconst XF.here hx rfl (hb hby at_675) ?_
      show Steps p.tables e below (TF.setTop (mkF m 676 #[.val (.long q1), .second, .val (.int p1), .val (.int p2), .val (.ref t1), .unset, .unset, .val (.int ((p1 &&& (2147483647 : Int32)) % (91 : Int32))), .unset, .unset] [(.int (1 : Int32)), (.int ((p2 >>> ((1 : Int32) &&& 31)) &&& (3 : Int32)))])) _
      refine XS.isub XF.here hx rfl (hb hby at_676) rfl ?_
      show Steps p.tables e below (TF.setTop (mkF m 677 #[.val (.long q1), .second, .val (.int p1), .val (.int p2), .val (.ref t1), .unset, .unset, .val (.int ((p1 &&& (2147483647 : Int32)) % (91 : Int32))), .unset, .unset] [(.int (((p2 >>> ((1 : Int32) &&& 31)) &&& (3 : Int32)) - (1 : Int32)))])) _
      refine XS.i2l XF.here hx rfl (hb hby at_677) rfl ?_
      show Steps p.tables e below (TF.setTop (mkF m 678 #[.val (.long q1), .second, .val (.int p1), .val (.int p2), .val (.ref t1), .unset, .unset, .val (.int ((p1 &&& (2147483647 : Int32)) % (91 : Int32))), .unset, .unset] [(.long ((((p2 >>> ((1 : Int32) &&& 31)) &&& (3 : Int32)) - (1 : Int32)).toInt64))])) _
      refine XS.lstore XF.here hx rfl (hb hby at_678) rfl (l' := #[.val (.long q1), .second, .val (.int p1), .val (.int p2), .val (.ref t1), .unset, .unset, .val (.int ((p1 &&& (2147483647 : Int32)) % (91 : Int32))), .val (.long ((((p2 >>> ((1 : Int32) &&& 31)) &&& (3 : Int32)) - (1 : Int32)).toInt64)), .second]) rfl ?_
      show Steps p.tables e below (TF.setTop (mkF m 680 #[.val (.long q1), .second, .val (.int p1), .val (.int p2), .val (.ref t1), .unset, .unset, .val (.int ((p1 &&& (2147483647 : Int32)) % (91 : Int32))), .val (.long ((((p2 >>> ((1 : Int32) &&& 31)) &&& (3 : Int32)) - (1 : Int32)).toInt64)), .second] [])) _
      refine XS.lconst XF.here hx rfl (hb hby at_680) ?_
      show Steps p.tables e below (TF.setTop (mkF m 681 #[.val (.long q1), .second, .val (.int p1), .val (.int p2), .val (.ref t1), .unset, .unset, .val (.int ((p1 &&& (2147483647 : Int32)) % (91 : Int32))), .val (.long ((((p2 >>> ((1 : Int32) &&& 31)) &&& (3 : Int32)) - (1 : Int32)).toInt64)), .second] [(.long (0 : Int64))])) _
      refine XS.aload XF.here hx rfl (hb hby at_681) rfl rfl ?_
      show Steps p.tables e below (TF.setTop (mkF m 683 #[.val (.long q1), .second, .val (.int p1), .val (.int p2), .val (.ref t1), .unset, .unset, .val (.int ((p1 &&& (2147483647 : Int32)) % (91 : Int32))), .val (.long ((((p2 >>> ((1 : Int32) &&& 31)) &&& (3 : Int32)) - (1 : Int32)).toInt64)), .second] [(.ref t1), (.long (0 : Int64))])) _
      refine XS.iload XF.here hx rfl (hb hby at_683) rfl ?_
      show Steps p.tables e below (TF.setTop (mkF m 685 #[.val (.long q1), .second, .val (.int p1), .val (.int p2), .val (.ref t1), .unset, .unset, .val (.int ((p1 &&& (2147483647 : Int32)) % (91 : Int32))), .val (.long ((((p2 >>> ((1 : Int32) &&& 31)) &&& (3 : Int32)) - (1 : Int32)).toInt64)), .second] [(.int ((p1 &&& (2147483647 : Int32)) % (91 : Int32))), (.ref t1), (.long (0 : Int64))])) _
      refine XF.laload hx (j := ((p1 &&& (2147483647 : Int32)) % (91 : Int32))) (v := (.long (own_f ni))) (by rw [eF]; exact Ar4.1) (State.isArrayOf_alike hZ.alike Ar4.2.1) Ar4.2.2 hin4 hat4 (g := (mkF m 685 #[.val (.long q1), .second, .val (.int p1), .val (.int p2), .val (.ref t1), .unset, .unset, .val (.int ((p1 &&& (2147483647 : Int32)) % (91 : Int32))), .val (.long ((((p2 >>> ((1 : Int32) &&& 31)) &&& (3 : Int32)) - (1 : Int32)).toInt64)), .second] [(.int ((p1 &&& (2147483647 : Int32)) % (91 : Int32))), (.ref t1), (.long (0 : Int64))])) rfl rfl (hb hby at_685) _ ?_
      show Steps p.tables e below (TF.setTop (mkF m 686 #[.val (.long q1), .second, .val (.int p1), .val (.int p2), .val (.ref t1), .unset, .unset, .val (.int ((p1 &&& (2147483647 : Int32)) % (91 : Int32))), .val (.long ((((p2 >>> ((1 : Int32) &&& 31)) &&& (3 : Int32)) - (1 : Int32)).toInt64)), .second] [(.long (own_f ni)), (.long (0 : Int64))])) _
      refine XS.lload XF.here hx rfl (hb hby at_686) rfl ?_
      show Steps p.tables e below (TF.setTop (mkF m 688 #[.val (.long q1), .second, .val (.int p1), .val (.int p2), .val (.ref t1), .unset, .unset, .val (.int ((p1 &&& (2147483647 : Int32)) % (91 : Int32))), .val (.long ((((p2 >>> ((1 : Int32) &&& 31)) &&& (3 : Int32)) - (1 : Int32)).toInt64)), .second] [(.long ((((p2 >>> ((1 : Int32) &&& 31)) &&& (3 : Int32)) - (1 : Int32)).toInt64)), (.long (own_f ni)), (.long (0 : Int64))])) _
      refine XS.ladd XF.here hx rfl (hb hby at_688) rfl ?_
      show Steps p.tables e below (TF.setTop (mkF m 689 #[.val (.long q1), .second, .val (.int p1), .val (.int p2), .val (.ref t1), .unset, .unset, .val (.int ((p1 &&& (2147483647 : Int32)) % (91 : Int32))), .val (.long ((((p2 >>> ((1 : Int32) &&& 31)) &&& (3 : Int32)) - (1 : Int32)).toInt64)), .second] [(.long ((own_f ni) + ((((p2 >>> ((1 : Int32) &&& 31)) &&& (3 : Int32)) - (1 : Int32)).toInt64))), (.long (0 : Int64))])) _
      refine st5 _ ?_
      show Steps p.tables e below (T5.setTop (mkF m 692 #[.val (.long q1), .second, .val (.int p1), .val (.int p2), .val (.ref t1), .unset, .unset, .val (.int ((p1 &&& (2147483647 : Int32)) % (91 : Int32))), .val (.long ((((p2 >>> ((1 : Int32) &&& 31)) &&& (3 : Int32)) - (1 : Int32)).toInt64)), .second] [(.long (own_max (0 : Int64) ((own_f ni) + ((((p2 >>> ((1 : Int32) &&& 31)) &&& (3 : Int32)) - (1 : Int32)).toInt64))))])) _
      refine XS.lstore X5.here hx rfl (hb hby at_692) rfl (l' := #[.val (.long q1), .second, .val (.int p1), .val (.int p2), .val (.ref t1), .val (.long (own_max (0 : Int64) ((own_f ni) + ((((p2 >>> ((1 : Int32) &&& 31)) &&& (3 : Int32)) - (1 : Int32)).toInt64)))), .second, .val (.int ((p1 &&& (2147483647 : Int32)) % (91 : Int32))), .val (.long ((((p2 >>> ((1 : Int32) &&& 31)) &&& (3 : Int32)) - (1 : Int32)).toInt64)), .second]) rfl ?_
      show Steps p.tables e below (T5.setTop (mkF m 694 #[.val (.long q1), .second, .val (.int p1), .val (.int p2), .val (.ref t1), .val (.long (own_max (0 : Int64) ((own_f ni) + ((((p2 >>> ((1 : Int32) &&& 31)) &&& (3 : Int32)) - (1 : Int32)).toInt64)))), .second, .val (.int ((p1 &&& (2147483647 : Int32)) % (91 : Int32))), .val (.long ((((p2 >>> ((1 : Int32) &&& 31)) &&& (3 : Int32)) - (1 : Int32)).toInt64)), .second] [])) _
      refine XS.lload X5.here hx rfl (hb hby at_694) rfl ?_
      show Steps p.tables e below (T5.setTop (mkF m 696 #[.val (.long q1), .second, .val (.int p1), .val (.int p2), .val (.ref t1), .val (.long (own_max (0 : Int64) ((own_f ni) + ((((p2 >>> ((1 : Int32) &&& 31)) &&& (3 : Int32)) - (1 : Int32)).toInt64)))), .second, .val (.int ((p1 &&& (2147483647 : Int32)) % (91 : Int32))), .val (.long ((((p2 >>> ((1 : Int32) &&& 31)) &&& (3 : Int32)) - (1 : Int32)).toInt64)), .second] [(.long (own_max (0 : Int64) ((own_f ni) + ((((p2 >>> ((1 : Int32) &&& 31)) &&& (3 : Int32)) - (1 : Int32)).toInt64))))])) _
      refine st6 _ ?_
      show Steps p.tables e below (T6.setTop (mkF m 699 #[.val (.long q1), .second, .val (.int p1), .val (.int p2), .val (.ref t1), .val (.long (own_max (0 : Int64) ((own_f ni) + ((((p2 >>> ((1 : Int32) &&& 31)) &&& (3 : Int32)) - (1 : Int32)).toInt64)))), .second, .val (.int ((p1 &&& (2147483647 : Int32)) % (91 : Int32))), .val (.long ((((p2 >>> ((1 : Int32) &&& 31)) &&& (3 : Int32)) - (1 : Int32)).toInt64)), .second] [(.int (Int32.ofNat nd))])) _
      refine XS.istore X6.here hx rfl (hb hby at_699) rfl (l' := #[.val (.long q1), .second, .val (.int p1), .val (.int p2), .val (.ref t1), .val (.long (own_max (0 : Int64) ((own_f ni) + ((((p2 >>> ((1 : Int32) &&& 31)) &&& (3 : Int32)) - (1 : Int32)).toInt64)))), .second, .val (.int (Int32.ofNat nd)), .val (.long ((((p2 >>> ((1 : Int32) &&& 31)) &&& (3 : Int32)) - (1 : Int32)).toInt64)), .second]) rfl ?_
      show Steps p.tables e below (T6.setTop (mkF m 701 #[.val (.long q1), .second, .val (.int p1), .val (.int p2), .val (.ref t1), .val (.long (own_max (0 : Int64) ((own_f ni) + ((((p2 >>> ((1 : Int32) &&& 31)) &&& (3 : Int32)) - (1 : Int32)).toInt64)))), .second, .val (.int (Int32.ofNat nd)), .val (.long ((((p2 >>> ((1 : Int32) &&& 31)) &&& (3 : Int32)) - (1 : Int32)).toInt64)), .second] [])) _
      refine XS.iload X6.here hx rfl (hb hby at_701) rfl ?_
      show Steps p.tables e below (T6.setTop (mkF m 703 #[.val (.long q1), .second, .val (.int p1), .val (.int p2), .val (.ref t1), .val (.long (own_max (0 : Int64) ((own_f ni) + ((((p2 >>> ((1 : Int32) &&& 31)) &&& (3 : Int32)) - (1 : Int32)).toInt64)))), .second, .val (.int (Int32.ofNat nd)), .val (.long ((((p2 >>> ((1 : Int32) &&& 31)) &&& (3 : Int32)) - (1 : Int32)).toInt64)), .second] [(.int (Int32.ofNat nd))])) _
      refine XS.ifNo X6.here hx rfl (hb hby at_703) rfl ((if0 _ _).trans (flt (own_nn hn1)).1) ?_
      show Steps p.tables e below (T6.setTop (mkF m 706 #[.val (.long q1), .second, .val (.int p1), .val (.int p2), .val (.ref t1), .val (.long (own_max (0 : Int64) ((own_f ni) + ((((p2 >>> ((1 : Int32) &&& 31)) &&& (3 : Int32)) - (1 : Int32)).toInt64)))), .second, .val (.int (Int32.ofNat nd)), .val (.long ((((p2 >>> ((1 : Int32) &&& 31)) &&& (3 : Int32)) - (1 : Int32)).toInt64)), .second] [])) _
      refine XS.iload X6.here hx rfl (hb hby at_706) rfl ?_
      show Steps p.tables e below (T6.setTop (mkF m 708 #[.val (.long q1), .second, .val (.int p1), .val (.int p2), .val (.ref t1), .val (.long (own_max (0 : Int64) ((own_f ni) + ((((p2 >>> ((1 : Int32) &&& 31)) &&& (3 : Int32)) - (1 : Int32)).toInt64)))), .second, .val (.int (Int32.ofNat nd)), .val (.long ((((p2 >>> ((1 : Int32) &&& 31)) &&& (3 : Int32)) - (1 : Int32)).toInt64)), .second] [(.int (Int32.ofNat nd))])) _
      refine XS.bipush X6.here hx rfl (hb hby at_708) ?_
      show Steps p.tables e below (T6.setTop (mkF m 710 #[.val (.long q1), .second, .val (.int p1), .val (.int p2), .val (.ref t1), .val (.long (own_max (0 : Int64) ((own_f ni) + ((((p2 >>> ((1 : Int32) &&& 31)) &&& (3 : Int32)) - (1 : Int32)).toInt64)))), .second, .val (.int (Int32.ofNat nd)), .val (.long ((((p2 >>> ((1 : Int32) &&& 31)) &&& (3 : Int32)) - (1 : Int32)).toInt64)), .second] [(.int (91 : Int32)), (.int (Int32.ofNat nd))])) _
      refine XS.icmpYes X6.here hx rfl (pc0 := 710) (pc' := 715) rfl (hb hby at_710) rfl (flt (own_le hn1)).2.2.2 (by decide) (by decide) ?_
      show Steps p.tables e below (T6.setTop (mkF m 715 #[.val (.long q1), .second, .val (.int p1), .val (.int p2), .val (.ref t1), .val (.long (own_max (0 : Int64) ((own_f ni) + ((((p2 >>> ((1 : Int32) &&& 31)) &&& (3 : Int32)) - (1 : Int32)).toInt64)))), .second, .val (.int (Int32.ofNat nd)), .val (.long ((((p2 >>> ((1 : Int32) &&& 31)) &&& (3 : Int32)) - (1 : Int32)).toInt64)), .second] [])) _
      refine XS.aload X6.here hx rfl (hb hby at_715) rfl rfl ?_
      show Steps p.tables e below (T6.setTop (mkF m 717 #[.val (.long q1), .second, .val (.int p1), .val (.int p2), .val (.ref t1), .val (.long (own_max (0 : Int64) ((own_f ni) + ((((p2 >>> ((1 : Int32) &&& 31)) &&& (3 : Int32)) - (1 : Int32)).toInt64)))), .second, .val (.int (Int32.ofNat nd)), .val (.long ((((p2 >>> ((1 : Int32) &&& 31)) &&& (3 : Int32)) - (1 : Int32)).toInt64)), .second] [(.ref t1)])) _
      refine XS.iload X6.here hx rfl (hb hby at_717) rfl ?_
      show Steps p.tables e below (T6.setTop (mkF m 719 #[.val (.long q1), .second, .val (.int p1), .val (.int p2), .val (.ref t1), .val (.long (own_max (0 : Int64) ((own_f ni) + ((((p2 >>> ((1 : Int32) &&& 31)) &&& (3 : Int32)) - (1 : Int32)).toInt64)))), .second, .val (.int (Int32.ofNat nd)), .val (.long ((((p2 >>> ((1 : Int32) &&& 31)) &&& (3 : Int32)) - (1 : Int32)).toInt64)), .second] [(.int (Int32.ofNat nd)), (.ref t1)])) _
      refine X6.laload hx (j := (Int32.ofNat nd)) (v := (.long (own_f nd))) (by rw [e6]; exact Ar7.1) (State.isArrayOf_alike hZ.alike Ar7.2.1) Ar7.2.2 hin7 hat7 (g := (mkF m 719 #[.val (.long q1), .second, .val (.int p1), .val (.int p2), .val (.ref t1), .val (.long (own_max (0 : Int64) ((own_f ni) + ((((p2 >>> ((1 : Int32) &&& 31)) &&& (3 : Int32)) - (1 : Int32)).toInt64)))), .second, .val (.int (Int32.ofNat nd)), .val (.long ((((p2 >>> ((1 : Int32) &&& 31)) &&& (3 : Int32)) - (1 : Int32)).toInt64)), .second] [(.int (Int32.ofNat nd)), (.ref t1)])) rfl rfl (hb hby at_719) _ ?_
      show Steps p.tables e below (T6.setTop (mkF m 720 #[.val (.long q1), .second, .val (.int p1), .val (.int p2), .val (.ref t1), .val (.long (own_max (0 : Int64) ((own_f ni) + ((((p2 >>> ((1 : Int32) &&& 31)) &&& (3 : Int32)) - (1 : Int32)).toInt64)))), .second, .val (.int (Int32.ofNat nd)), .val (.long ((((p2 >>> ((1 : Int32) &&& 31)) &&& (3 : Int32)) - (1 : Int32)).toInt64)), .second] [(.long (own_f nd))])) _
      refine XS.lload X6.here hx rfl (hb hby at_720) rfl ?_
      show Steps p.tables e below (T6.setTop (mkF m 722 #[.val (.long q1), .second, .val (.int p1), .val (.int p2), .val (.ref t1), .val (.long (own_max (0 : Int64) ((own_f ni) + ((((p2 >>> ((1 : Int32) &&& 31)) &&& (3 : Int32)) - (1 : Int32)).toInt64)))), .second, .val (.int (Int32.ofNat nd)), .val (.long ((((p2 >>> ((1 : Int32) &&& 31)) &&& (3 : Int32)) - (1 : Int32)).toInt64)), .second] [(.long (own_max (0 : Int64) ((own_f ni) + ((((p2 >>> ((1 : Int32) &&& 31)) &&& (3 : Int32)) - (1 : Int32)).toInt64)))), (.long (own_f nd))])) _
      refine XS.lcmp X6.here hx rfl (hb hby at_722) rfl ?_
      show Steps p.tables e below (T6.setTop (mkF m 723 #[.val (.long q1), .second, .val (.int p1), .val (.int p2), .val (.ref t1), .val (.long (own_max (0 : Int64) ((own_f ni) + ((((p2 >>> ((1 : Int32) &&& 31)) &&& (3 : Int32)) - (1 : Int32)).toInt64)))), .second, .val (.int (Int32.ofNat nd)), .val (.long ((((p2 >>> ((1 : Int32) &&& 31)) &&& (3 : Int32)) - (1 : Int32)).toInt64)), .second] [(.int (lcmpW (own_f nd) (own_max (0 : Int64) ((own_f ni) + ((((p2 >>> ((1 : Int32) &&& 31)) &&& (3 : Int32)) - (1 : Int32)).toInt64)))))])) _
      refine XS.ifNo X6.here hx rfl (hb hby at_723) rfl ((if0 _ _).trans (flt (fun q => hn2 ((lw_gt _ _).mp q))).2.2.1) ?_
      show Steps p.tables e below (T6.setTop (mkF m 726 #[.val (.long q1), .second, .val (.int p1), .val (.int p2), .val (.ref t1), .val (.long (own_max (0 : Int64) ((own_f ni) + ((((p2 >>> ((1 : Int32) &&& 31)) &&& (3 : Int32)) - (1 : Int32)).toInt64)))), .second, .val (.int (Int32.ofNat nd)), .val (.long ((((p2 >>> ((1 : Int32) &&& 31)) &&& (3 : Int32)) - (1 : Int32)).toInt64)), .second] [])) _
      refine XS.lload X6.here hx rfl (hb hby at_726) rfl ?_
      show Steps p.tables e below (T6.setTop (mkF m 728 #[.val (.long q1), .second, .val (.int p1), .val (.int p2), .val (.ref t1), .val (.long (own_max (0 : Int64) ((own_f ni) + ((((p2 >>> ((1 : Int32) &&& 31)) &&& (3 : Int32)) - (1 : Int32)).toInt64)))), .second, .val (.int (Int32.ofNat nd)), .val (.long ((((p2 >>> ((1 : Int32) &&& 31)) &&& (3 : Int32)) - (1 : Int32)).toInt64)), .second] [(.long (own_max (0 : Int64) ((own_f ni) + ((((p2 >>> ((1 : Int32) &&& 31)) &&& (3 : Int32)) - (1 : Int32)).toInt64))))])) _
      refine XS.aload X6.here hx rfl (hb hby at_728) rfl rfl ?_
      show Steps p.tables e below (T6.setTop (mkF m 730 #[.val (.long q1), .second, .val (.int p1), .val (.int p2), .val (.ref t1), .val (.long (own_max (0 : Int64) ((own_f ni) + ((((p2 >>> ((1 : Int32) &&& 31)) &&& (3 : Int32)) - (1 : Int32)).toInt64)))), .second, .val (.int (Int32.ofNat nd)), .val (.long ((((p2 >>> ((1 : Int32) &&& 31)) &&& (3 : Int32)) - (1 : Int32)).toInt64)), .second] [(.ref t1), (.long (own_max (0 : Int64) ((own_f ni) + ((((p2 >>> ((1 : Int32) &&& 31)) &&& (3 : Int32)) - (1 : Int32)).toInt64))))])) _
      refine XS.iload X6.here hx rfl (hb hby at_730) rfl ?_
      show Steps p.tables e below (T6.setTop (mkF m 732 #[.val (.long q1), .second, .val (.int p1), .val (.int p2), .val (.ref t1), .val (.long (own_max (0 : Int64) ((own_f ni) + ((((p2 >>> ((1 : Int32) &&& 31)) &&& (3 : Int32)) - (1 : Int32)).toInt64)))), .second, .val (.int (Int32.ofNat nd)), .val (.long ((((p2 >>> ((1 : Int32) &&& 31)) &&& (3 : Int32)) - (1 : Int32)).toInt64)), .second] [(.int (Int32.ofNat nd)), (.ref t1), (.long (own_max (0 : Int64) ((own_f ni) + ((((p2 >>> ((1 : Int32) &&& 31)) &&& (3 : Int32)) - (1 : Int32)).toInt64))))])) _
      refine XS.iconst X6.here hx rfl (hb hby at_732) ?_
      show Steps p.tables e below (T6.setTop (mkF m 733 #[.val (.long q1), .second, .val (.int p1), .val (.int p2), .val (.ref t1), .val (.long (own_max (0 : Int64) ((own_f ni) + ((((p2 >>> ((1 : Int32) &&& 31)) &&& (3 : Int32)) - (1 : Int32)).toInt64)))), .second, .val (.int (Int32.ofNat nd)), .val (.long ((((p2 >>> ((1 : Int32) &&& 31)) &&& (3 : Int32)) - (1 : Int32)).toInt64)), .second] [(.int (1 : Int32)), (.int (Int32.ofNat nd)), (.ref t1), (.long (own_max (0 : Int64) ((own_f ni) + ((((p2 >>> ((1 : Int32) &&& 31)) &&& (3 : Int32)) - (1 : Int32)).toInt64))))])) _
      refine XS.iadd X6.here hx rfl (hb hby at_733) rfl ?_
      show Steps p.tables e below (T6.setTop (mkF m 734 #[.val (.long q1), .second, .val (.int p1), .val (.int p2), .val (.ref t1), .val (.long (own_max (0 : Int64) ((own_f ni) + ((((p2 >>> ((1 : Int32) &&& 31)) &&& (3 : Int32)) - (1 : Int32)).toInt64)))), .second, .val (.int (Int32.ofNat nd)), .val (.long ((((p2 >>> ((1 : Int32) &&& 31)) &&& (3 : Int32)) - (1 : Int32)).toInt64)), .second] [(.int ((Int32.ofNat nd) + (1 : Int32))), (.ref t1), (.long (own_max (0 : Int64) ((own_f ni) + ((((p2 >>> ((1 : Int32) &&& 31)) &&& (3 : Int32)) - (1 : Int32)).toInt64))))])) _
      refine X6.laload hx (j := ((Int32.ofNat nd) + (1 : Int32))) (v := (.long (own_f (nd + 1)))) (by rw [e6]; exact Ar8.1) (State.isArrayOf_alike hZ.alike Ar8.2.1) Ar8.2.2 hin8 hat8 (g := (mkF m 734 #[.val (.long q1), .second, .val (.int p1), .val (.int p2), .val (.ref t1), .val (.long (own_max (0 : Int64) ((own_f ni) + ((((p2 >>> ((1 : Int32) &&& 31)) &&& (3 : Int32)) - (1 : Int32)).toInt64)))), .second, .val (.int (Int32.ofNat nd)), .val (.long ((((p2 >>> ((1 : Int32) &&& 31)) &&& (3 : Int32)) - (1 : Int32)).toInt64)), .second] [(.int ((Int32.ofNat nd) + (1 : Int32))), (.ref t1), (.long (own_max (0 : Int64) ((own_f ni) + ((((p2 >>> ((1 : Int32) &&& 31)) &&& (3 : Int32)) - (1 : Int32)).toInt64))))])) rfl rfl (hb hby at_734) _ ?_
      show Steps p.tables e below (T6.setTop (mkF m 735 #[.val (.long q1), .second, .val (.int p1), .val (.int p2), .val (.ref t1), .val (.long (own_max (0 : Int64) ((own_f ni) + ((((p2 >>> ((1 : Int32) &&& 31)) &&& (3 : Int32)) - (1 : Int32)).toInt64)))), .second, .val (.int (Int32.ofNat nd)), .val (.long ((((p2 >>> ((1 : Int32) &&& 31)) &&& (3 : Int32)) - (1 : Int32)).toInt64)), .second] [(.long (own_f (nd + 1))), (.long (own_max (0 : Int64) ((own_f ni) + ((((p2 >>> ((1 : Int32) &&& 31)) &&& (3 : Int32)) - (1 : Int32)).toInt64))))])) _
      refine XS.lcmp X6.here hx rfl (hb hby at_735) rfl ?_
      show Steps p.tables e below (T6.setTop (mkF m 736 #[.val (.long q1), .second, .val (.int p1), .val (.int p2), .val (.ref t1), .val (.long (own_max (0 : Int64) ((own_f ni) + ((((p2 >>> ((1 : Int32) &&& 31)) &&& (3 : Int32)) - (1 : Int32)).toInt64)))), .second, .val (.int (Int32.ofNat nd)), .val (.long ((((p2 >>> ((1 : Int32) &&& 31)) &&& (3 : Int32)) - (1 : Int32)).toInt64)), .second] [(.int (lcmpW (own_max (0 : Int64) ((own_f ni) + ((((p2 >>> ((1 : Int32) &&& 31)) &&& (3 : Int32)) - (1 : Int32)).toInt64))) (own_f (nd + 1))))])) _
      refine XS.ifNo X6.here hx rfl (hb hby at_736) rfl ((if0 _ _).trans (tlt ((lw_lt _ _).mpr hn3)).2.1) ?_
      show Steps p.tables e below (T6.setTop (mkF m 739 #[.val (.long q1), .second, .val (.int p1), .val (.int p2), .val (.ref t1), .val (.long (own_max (0 : Int64) ((own_f ni) + ((((p2 >>> ((1 : Int32) &&& 31)) &&& (3 : Int32)) - (1 : Int32)).toInt64)))), .second, .val (.int (Int32.ofNat nd)), .val (.long ((((p2 >>> ((1 : Int32) &&& 31)) &&& (3 : Int32)) - (1 : Int32)).toInt64)), .second] [])) _
      refine XS.iconst X6.here hx rfl (hb hby at_739) ?_
      show Steps p.tables e below (T6.setTop (mkF m 740 #[.val (.long q1), .second, .val (.int p1), .val (.int p2), .val (.ref t1), .val (.long (own_max (0 : Int64) ((own_f ni) + ((((p2 >>> ((1 : Int32) &&& 31)) &&& (3 : Int32)) - (1 : Int32)).toInt64)))), .second, .val (.int (Int32.ofNat nd)), .val (.long ((((p2 >>> ((1 : Int32) &&& 31)) &&& (3 : Int32)) - (1 : Int32)).toInt64)), .second] [(.int (1 : Int32))])) _
      refine XS.goto X6.here hx rfl (pc0 := 740) (pc' := 744) rfl (hb hby at_740) (by decide) (by decide) ?_
      show Steps p.tables e below (T6.setTop (mkF m 744 #[.val (.long q1), .second, .val (.int p1), .val (.int p2), .val (.ref t1), .val (.long (own_max (0 : Int64) ((own_f ni) + ((((p2 >>> ((1 : Int32) &&& 31)) &&& (3 : Int32)) - (1 : Int32)).toInt64)))), .second, .val (.int (Int32.ofNat nd)), .val (.long ((((p2 >>> ((1 : Int32) &&& 31)) &&& (3 : Int32)) - (1 : Int32)).toInt64)), .second] [(.int (1 : Int32))])) _
      exact retN X6 hx (t := .boolean) Bd.returns (by simp) (hb hby at_744) hr
    · show Q0 Z q1 p1 p2 h0 n0 _ T6.heap _
      rw [e6]
      exact ⟨rfl, N6⟩
set_option maxRecDepth 65536 in
set_option maxHeartbeats 40000000 in
theorem comes_1 {Post : Tables → Env → Array Value → State → Outcome → State → Prop} (hpost : ∀ tb e args s v u, (limb_1_1.after args s (.returned v) u = true ∧ limb_1_2.after args s (.returned v) u = true ∧ True) → FrameEnd s (.returned v) u (Jvm.fieldLocs frame_1_writes args s ++ Jvm.arrayLocs frame_1_arrays args s ++ Jvm.staticLocs frame_1_statics s) 16 256 → Post tb e args s (.returned v) u) :
    ArmFor flags0 classFile x code maxLocals ret World_1 tables_1 room_1 Calls_1 rest_1 Pre_1 Post := by
  intro l hfl _ _ p e ha hc hk s m args below hf hA hF happ hP
  obtain ⟨hcalls, hrest, hpre⟩ := hP
  obtain ⟨-, -, -, hnamed, -, -, -, hat⟩ := (Spec.applies_iff hf).mp happ
  obtain ⟨hg, hn⟩ := and_e (Cond.before_iff.mp (show (Jvm.Cond.and given_1 narrow_1).before args s = true from hpre))
  obtain ⟨gc, gr0⟩ := and_e hg
  obtain ⟨ga0, gr1⟩ := and_e gr0
  obtain ⟨ga1, gr2⟩ := and_e gr1
  have ga2 := gr2
  obtain ⟨w0, w1, w2, rfl⟩ : ∃ w0 w1 w2 : Value, args = #[w0, w1, w2] := by
    have hs : args.size = 3 := by simpa [Cond.value, given_1] using gc
    obtain ⟨L⟩ := args
    match L, hs with
    | [w0, w1, w2], _ => exact ⟨w0, w1, w2, rfl⟩
  have hw := fun d (hd : d ∈ tables_1) => atoms_spec (ws := Jvm.Cond.code x code maxLocals ret :: tables_1) hat d (List.mem_cons_of_mem _ hd)
  obtain ⟨i0, ei0⟩ := isL_v ga0
  obtain rfl : w0 = (.long i0) := Option.some.inj ei0
  obtain ⟨i1, ei1⟩ := is_v ga1
  obtain rfl : w1 = (.int i1) := Option.some.inj ei1
  obtain ⟨i2, ei2⟩ := is_v ga2
  obtain rfl : w2 = (.int i2) := Option.some.inj ei2
  obtain ⟨n, o, h1, h2, h3, _, L, rfl, ⟨rfl, N⟩, hq⟩ := rm0 l s _ hw tables_1 i0 i1 i2 s.heap s.heap.size (Nat.le_refl _) p e ha hc hk s m _ below hf ((Spec.applies_iff_loose hf).mp happ).1 ⟨rfl, State.Warmed39.refl s, rfl⟩ trivial
  refine ⟨n, _, h1, h2, h3, hpost _ _ _ _ _ _ ⟨Cond.after_iff.mpr rfl, Cond.after_iff.mpr (eq_i res_at (Term.int_eval (1)) rfl), trivial⟩ ⟨hq.1, hq.2.1, (hq.2.2.sift fun y hy => Or.inr (N y hy)).mono (by decide) (by decide)⟩⟩
theorem main_1_1 : Claimed_1_1 := comes_1 fun _ _ _ _ _ _ h hF => ⟨h.1, hF⟩
theorem main_1_2 : Claimed_1_2 := comes_1 fun _ _ _ _ _ _ h hF => ⟨h.2.1, hF⟩
end Jvm.Pilot.@@N@@
namespace Jvm.Pilot.@@N@@
open Jvm Jvm.ClassFile Sem Op Lib Jvm.Free Jvm.Stand Jvm.Pilot.@@N@@.Jvm.D
/-! MADE BY PROGRAM (witnessworld.py) out of the Statement's table words and the real class files: 12 classes; the members and pool entries that the words name. The judged class is class 1, her method 1. -/
namespace start1
open Jvm.ClassFile
def u (s : String) : CpInfo := .utf8 (stringToUtf16 s)
/-- a pool by its gaps: so many unusable entries, then the entry; so many at the end -/
def gap : Nat → List CpInfo → List CpInfo
  | 0, r => r
  | n + 1, r => .unusable :: gap n r
def poolList (es : List (Nat × CpInfo)) (last : Nat) : List CpInfo := es.foldr (fun e r => gap e.1 (e.2 :: r)) (gap last [])
def pool (es : List (Nat × CpInfo)) (last : Nat) : Array CpInfo := ⟨poolList es last⟩
def fileOf (pool : Array CpInfo) (this : Nat) (attrs : Array Attribute := #[]) (ms : Array MethodInfo := #[]) (fl : Nat := 33) (sup : Nat := 0) (ifs : Array Nat := #[]) (fds : Array FieldInfo := #[]) : ClassFile where
  minorVersion := 0
  majorVersion := 65
  constantPool := pool
  accessFlags := fl
  thisClass := this
  superClass := sup
  interfaces := ifs
  fields := fds
  methods := ms
  attributes := attrs
def plain (name : String) (sup : Option ClassId) : Class where
  name := name
  kind := .ordinary
  loader := none
  accessFlags := 33
  super := sup
  interfaces := #[]
  cf := none
  fields := #[]
  methods := #[]
  instanceTypes := #[]
  staticTypes := #[]
  resolved := #[]
  callSites := []
  init := .initialized
  statics := none
  mirror := none

def pool0 : Array CpInfo := pool [(5, u "<init>"), (0, u "()V"), (1, .class_ 10), (1, u "java/lang/Object")] 113

def k0m0 : Method := { name := "<init>", desc := "()V", sig := { parameters := [], returnType := none }, accessFlags := 1, code := none }
/-- java/lang/Object -/
def k0 : Class := { plain "java/lang/Object" none with
  accessFlags := 33
  interfaces := #[]
  cf := some (fileOf pool0 8 #[] #[{ accessFlags := 1, nameIndex := 5, descriptorIndex := 6, attributes := #[] }] 33 0 #[] #[])
  fields := #[]
  methods := #[k0m0]
  instanceTypes := #[]
  staticTypes := #[]
  resolved := Array.replicate 124 none
  statics := none }

def pool1 : Array CpInfo := pool [(2, .class_ 4), (1, u "java/lang/Object"), (0, u "<init>"), (0, u "()V"), (0, .long 2), (1, .long 3), (1, .long 5), (1, .long 8), (1, .long 13), (1, .long 21), (1, .long 34), (1, .long 55), (1, .long 89), (1, .long 144), (1, .long 233), (1, .long 377), (1, .long 610), (1, .long 987), (1, .long 1597), (1, .long 2584), (1, .long 4181), (1, .long 6765), (1, .long 10946), (1, .long 17711), (1, .long 28657), (1, .long 46368), (1, .long 75025), (1, .long 121393), (1, .long 196418), (1, .long 317811), (1, .long 514229), (1, .long 832040), (1, .long 1346269), (1, .long 2178309), (1, .long 3524578), (1, .long 5702887), (1, .long 9227465), (1, .long 14930352), (1, .long 24157817), (1, .long 39088169), (1, .long 63245986), (1, .long 102334155), (1, .long 165580141), (1, .long 267914296), (1, .long 433494437), (1, .long 701408733), (1, .long 1134903170), (1, .long 1836311903), (1, .long 2971215073), (1, .long 4807526976), (1, .long 7778742049), (1, .long 12586269025), (1, .long 20365011074), (1, .long 32951280099), (1, .long 53316291173), (1, .long 86267571272), (1, .long 139583862445), (1, .long 225851433717), (1, .long 365435296162), (1, .long 591286729879), (1, .long 956722026041), (1, .long 1548008755920), (1, .long 2504730781961), (1, .long 4052739537881), (1, .long 6557470319842), (1, .long 10610209857723), (1, .long 17167680177565), (1, .long 27777890035288), (1, .long 44945570212853), (1, .long 72723460248141), (1, .long 117669030460994), (1, .long 190392490709135), (1, .long 308061521170129), (1, .long 498454011879264), (1, .long 806515533049393), (1, .long 1304969544928657), (1, .long 2111485077978050), (1, .long 3416454622906707), (1, .long 5527939700884757), (1, .long 8944394323791464), (1, .long 14472334024676221), (1, .long 23416728348467685), (1, .long 37889062373143906), (1, .long 61305790721611591), (1, .long 99194853094755497), (1, .long 160500643816367088), (1, .long 259695496911122585), (1, .long 420196140727489673), (1, .long 679891637638612258), (1, .long 1100087778366101931), (1, .long 1779979416004714189), (1, .long 2880067194370816120), (1, .long 4660046610375530309), (1, .long 7540113804746346429), (1, .long 4611686018427387903), (1, .integer 2147483647), (0, .methodref 191 192), (0, .class_ 193), (0, .nameAndType 194 195), (0, u "java/lang/Math"), (0, u "max"), (0, u "(JJ)J"), (0, .methodref 197 198), (0, .class_ 199), (0, .nameAndType 200 201), (0, u "com/example/kortkode/kortkode/coder/AdaptiveTree"), (0, u "maxDepth"), (0, u "(J)I"), (0, .class_ 203), (0, u "com/example/kortkode/kortkode/coder/AdaptiveTreeMaxDepthPinLaw"), (2, u "law"), (0, u "(JII)Z")] 5

def k1m0 : Method := { name := "<init>", desc := "()V", sig := { parameters := [], returnType := none }, accessFlags := 1, code := none }
def k1c1 : Code := { maxStack := 6, maxLocals := 10, code := code, exceptionTable := #[], attributes := #[] }
def k1m1 : Method := { name := "law", desc := "(JII)Z", sig := { parameters := [.long, .int, .int], returnType := some .boolean }, accessFlags := 9, code := some k1c1 }
/-- com/example/kortkode/kortkode/coder/AdaptiveTreeMaxDepthPinLaw -/
def k1 : Class := { plain "com/example/kortkode/kortkode/coder/AdaptiveTreeMaxDepthPinLaw" (some 0) with
  accessFlags := 49
  interfaces := #[]
  cf := some (fileOf pool1 202 #[] #[{ accessFlags := 1, nameIndex := 5, descriptorIndex := 6, attributes := #[] }, { accessFlags := 9, nameIndex := 206, descriptorIndex := 207, attributes := #[] }] 49 2 #[] #[])
  fields := #[]
  methods := #[k1m0, k1m1]
  instanceTypes := #[]
  staticTypes := #[]
  resolved := Array.replicate 213 none
  statics := none }

def pool2 : Array CpInfo := pool [(1, .class_ 2), (0, u "java/lang/Math"), (1, .class_ 6), (1, u "java/lang/Object"), (0, u "<init>"), (0, u "()V"), (89, .class_ 100), (1, u "java/lang/Math$RandomNumberGeneratorHolder"), (20, u "(JJ)J"), (50, u "negativeZeroFloatBits"), (0, u "J"), (2, u "negativeZeroDoubleBits"), (21, u "max"), (46, u "$assertionsDisabled"), (0, u "Z"), (91, u "twoToTheDoubleScaleDown"), (0, u "D"), (4, u "twoToTheDoubleScaleUp"), (9, u "E"), (3, u "PI"), (2, u "TAU"), (2, u "DEGREES_TO_RADIANS"), (0, u "RADIANS_TO_DEGREES")] 94

def k2m0 : Method := { name := "<init>", desc := "()V", sig := { parameters := [], returnType := none }, accessFlags := 2, code := none }
def k2c1 : Code := { maxStack := 4, maxLocals := 4, code := jdk_29_method_66_code, exceptionTable := #[], attributes := #[] }
def k2m1 : Method := { name := "max", desc := "(JJ)J", sig := { parameters := [.long, .long], returnType := some .long }, accessFlags := 9, code := some k2c1 }
/-- java/lang/Math -/
def k2 : Class := { plain "java/lang/Math" (some 0) with
  accessFlags := 49
  interfaces := #[]
  cf := some (fileOf pool2 1 #[.nestMembers #[98]] #[{ accessFlags := 2, nameIndex := 7, descriptorIndex := 8, attributes := #[] }, { accessFlags := 9, nameIndex := 198, descriptorIndex := 121, attributes := #[] }] 49 4 #[] #[{ accessFlags := 25, nameIndex := 354, descriptorIndex := 339, attributes := #[] }, { accessFlags := 25, nameIndex := 358, descriptorIndex := 339, attributes := #[] }, { accessFlags := 25, nameIndex := 361, descriptorIndex := 339, attributes := #[] }, { accessFlags := 26, nameIndex := 364, descriptorIndex := 339, attributes := #[] }, { accessFlags := 26, nameIndex := 365, descriptorIndex := 339, attributes := #[] }, { accessFlags := 26, nameIndex := 172, descriptorIndex := 173, attributes := #[] }, { accessFlags := 26, nameIndex := 176, descriptorIndex := 173, attributes := #[] }, { accessFlags := 8, nameIndex := 344, descriptorIndex := 339, attributes := #[] }, { accessFlags := 8, nameIndex := 338, descriptorIndex := 339, attributes := #[] }, { accessFlags := 4120, nameIndex := 245, descriptorIndex := 246, attributes := #[] }])
  fields := #[{ name := "E", type := .double, accessFlags := 25, slot := 0, constantValue := 0 }, { name := "PI", type := .double, accessFlags := 25, slot := 1, constantValue := 0 }, { name := "TAU", type := .double, accessFlags := 25, slot := 2, constantValue := 0 }, { name := "DEGREES_TO_RADIANS", type := .double, accessFlags := 26, slot := 3, constantValue := 0 }, { name := "RADIANS_TO_DEGREES", type := .double, accessFlags := 26, slot := 4, constantValue := 0 }, { name := "negativeZeroFloatBits", type := .long, accessFlags := 26, slot := 5, constantValue := 0 }, { name := "negativeZeroDoubleBits", type := .long, accessFlags := 26, slot := 6, constantValue := 0 }, { name := "twoToTheDoubleScaleUp", type := .double, accessFlags := 8, slot := 7, constantValue := 0 }, { name := "twoToTheDoubleScaleDown", type := .double, accessFlags := 8, slot := 8, constantValue := 0 }, { name := "$assertionsDisabled", type := .boolean, accessFlags := 4120, slot := 9, constantValue := 0 }]
  methods := #[k2m0, k2m1]
  instanceTypes := #[]
  staticTypes := #[.double, .double, .double, .double, .double, .long, .long, .double, .double, .boolean]
  resolved := Array.replicate 460 none
  statics := none }

def pool3 : Array CpInfo := pool [(1, .class_ 2), (0, u "com/example/kortkode/kortkode/coder/AdaptiveTree"), (1, .class_ 6), (1, u "java/lang/Object"), (0, u "<init>"), (0, u "()V"), (2, u "weights"), (0, u "[I"), (2, u "parents"), (2, u "rightChildren"), (2, u "symbols"), (2, u "leaves"), (11, u "size"), (0, u "I"), (56, u "END"), (2, u "ESCAPE_WIDTH"), (1, u "ROOT"), (1, u "NULL"), (0, u "NODES"), (1, u "ABSENT"), (3, u "maxDepth"), (0, u "(J)I")] 26

def k3m0 : Method := { name := "<init>", desc := "()V", sig := { parameters := [], returnType := none }, accessFlags := 0, code := none }
def k3c1 : Code := { maxStack := 4, maxLocals := 9, code := prog_13_method_2_code, exceptionTable := #[], attributes := #[] }
def k3m1 : Method := { name := "maxDepth", desc := "(J)I", sig := { parameters := [.long], returnType := some .int }, accessFlags := 8, code := some k3c1 }
/-- com/example/kortkode/kortkode/coder/AdaptiveTree -/
def k3 : Class := { plain "com/example/kortkode/kortkode/coder/AdaptiveTree" (some 0) with
  accessFlags := 48
  interfaces := #[]
  cf := some (fileOf pool3 1 #[] #[{ accessFlags := 0, nameIndex := 7, descriptorIndex := 8, attributes := #[] }, { accessFlags := 8, nameIndex := 108, descriptorIndex := 109, attributes := #[] }] 48 4 #[] #[{ accessFlags := 24, nameIndex := 94, descriptorIndex := 37, attributes := #[] }, { accessFlags := 24, nameIndex := 97, descriptorIndex := 37, attributes := #[] }, { accessFlags := 26, nameIndex := 99, descriptorIndex := 37, attributes := #[] }, { accessFlags := 26, nameIndex := 101, descriptorIndex := 37, attributes := #[] }, { accessFlags := 26, nameIndex := 102, descriptorIndex := 37, attributes := #[] }, { accessFlags := 26, nameIndex := 104, descriptorIndex := 37, attributes := #[] }, { accessFlags := 18, nameIndex := 11, descriptorIndex := 12, attributes := #[] }, { accessFlags := 18, nameIndex := 15, descriptorIndex := 12, attributes := #[] }, { accessFlags := 18, nameIndex := 18, descriptorIndex := 12, attributes := #[] }, { accessFlags := 18, nameIndex := 21, descriptorIndex := 12, attributes := #[] }, { accessFlags := 18, nameIndex := 24, descriptorIndex := 12, attributes := #[] }, { accessFlags := 2, nameIndex := 36, descriptorIndex := 37, attributes := #[] }])
  fields := #[{ name := "END", type := .int, accessFlags := 24, slot := 0, constantValue := 0 }, { name := "ESCAPE_WIDTH", type := .int, accessFlags := 24, slot := 1, constantValue := 0 }, { name := "ROOT", type := .int, accessFlags := 26, slot := 2, constantValue := 0 }, { name := "NULL", type := .int, accessFlags := 26, slot := 3, constantValue := 0 }, { name := "NODES", type := .int, accessFlags := 26, slot := 4, constantValue := 0 }, { name := "ABSENT", type := .int, accessFlags := 26, slot := 5, constantValue := 0 }, { name := "weights", type := (.array .int), accessFlags := 18, slot := 0, constantValue := 0 }, { name := "parents", type := (.array .int), accessFlags := 18, slot := 1, constantValue := 0 }, { name := "rightChildren", type := (.array .int), accessFlags := 18, slot := 2, constantValue := 0 }, { name := "symbols", type := (.array .int), accessFlags := 18, slot := 3, constantValue := 0 }, { name := "leaves", type := (.array .int), accessFlags := 18, slot := 4, constantValue := 0 }, { name := "size", type := .int, accessFlags := 2, slot := 5, constantValue := 0 }]
  methods := #[k3m0, k3m1]
  instanceTypes := #[(.array .int), (.array .int), (.array .int), (.array .int), (.array .int), .int]
  staticTypes := #[.int, .int, .int, .int, .int, .int]
  resolved := Array.replicate 136 none
  statics := none }

def pool4 : Array CpInfo := pool [(1, u "java/lang/Cloneable"), (0, .class_ 1), (0, u "java/lang/Object"), (0, .class_ 3)] 3

/-- java/lang/Cloneable -/
def k4 : Class := { plain "java/lang/Cloneable" (some 0) with
  accessFlags := 1537
  interfaces := #[]
  cf := some (fileOf pool4 2 #[] #[] 1537 4 #[] #[])
  fields := #[]
  methods := #[]
  instanceTypes := #[]
  staticTypes := #[]
  resolved := Array.replicate 8 none
  statics := none }

def pool5 : Array CpInfo := pool [(1, u "java/io/Serializable"), (0, .class_ 1), (0, u "java/lang/Object"), (0, .class_ 3)] 3

/-- java/io/Serializable -/
def k5 : Class := { plain "java/io/Serializable" (some 0) with
  accessFlags := 1537
  interfaces := #[]
  cf := some (fileOf pool5 2 #[] #[] 1537 4 #[] #[])
  fields := #[]
  methods := #[]
  instanceTypes := #[]
  staticTypes := #[]
  resolved := Array.replicate 8 none
  statics := none }

/-- the primitive byte -/
def k6 : Class := { plain "byte" none with kind := .primitive 'B', accessFlags := 0x411 }
/-- [B -/
def k7 : Class := { plain "[B" (some 0) with kind := .array 6 .byte, interfaces := #[4, 5], accessFlags := 1041 }

/-- the primitive int -/
def k8 : Class := { plain "int" none with kind := .primitive 'I', accessFlags := 0x411 }
/-- [I -/
def k9 : Class := { plain "[I" (some 0) with kind := .array 8 .int, interfaces := #[4, 5], accessFlags := 1041 }

/-- the primitive long -/
def k10 : Class := { plain "long" none with kind := .primitive 'J', accessFlags := 0x411 }
/-- [J -/
def k11 : Class := { plain "[J" (some 0) with kind := .array 10 .long, interfaces := #[4, 5], accessFlags := 1041 }

def heap : Heap := #[]
def classes : Array Class := #[k0, k1, k2, k3, k4, k5, k6, k7, k8, k9, k10, k11]
def interned : List (Array UInt16 × Addr) := []
def slotsUsed : Nat := 0
def theMethod : MethodId := ⟨1, 1⟩
def args0 : Array Value := #[.long 5, .int 300, .int 7]
def aboutOver (below : List Frame) : State where
  vm := { classes := classes, interned := interned.toArray }
  heap := heap
  slotsUsed := slotsUsed
  threads := #[{ frames := .invoking theMethod args0 :: below }]
def below0 : List Frame := [.native { method := ⟨0, 0⟩, args := #[] }]
def about1 : State := aboutOver below0
def p0 : Program := .bare "" "" ""
def e0 : Env := launch0.env 0 0 0
theorem w_frames : about1.frames = Frame.invoking theMethod args0 :: below0 := rfl
set_option maxRecDepth 65536 in
theorem w_args : argsFit about1.vm theMethod args0 = true := by decide +kernel
set_option maxRecDepth 65536 in
theorem w_heap : heapFits about1 = true := by decide +kernel
set_option maxRecDepth 65536 in
theorem w_runnable : about1.curStatus? = some .runnable := by decide +kernel
set_option maxRecDepth 65536 in
theorem w_alone : about1.alone = true := by decide +kernel
set_option maxRecDepth 65536 in
theorem w_named : about1.methodNamed? x = some theMethod := by decide +kernel
set_option maxRecDepth 65536 in
theorem w_hears : about1.hears theMethod below0 = true := by decide +kernel
set_option maxRecDepth 65536 in
theorem w_ripe : about1.ripe theMethod args0 below0 = true := by decide +kernel
theorem w_running : about1.status = .running := rfl
set_option maxRecDepth 65536 in
theorem w_room : about1.hasRoom e0.platform room_1 = true :=
  launch0.hasRoom_least _ room_1 (by decide +kernel) (by decide +kernel) (by decide +kernel) (by decide +kernel) (by decide +kernel) (by decide +kernel)
theorem allAtoms_all (ts : List Jvm.Cond) (a : Array Jvm.Value) (st : Jvm.State) : (allAtoms ts).before a st = ts.all (fun c => c.before a st) := by
  induction ts with
  | nil => rfl
  | cons c t ih =>
    show (Jvm.Cond.and c (allAtoms t)).before a st = _
    rw [Jvm.Cond.before_and, ih, List.all_cons]
def words1 : List Jvm.Cond := Jvm.Cond.code x code maxLocals ret :: tables_1
/-- a 'code' word, met by the world's own term for the bytes: nothing is compared byte by byte -/
theorem code_word {y : MethodName} {bytes : ByteArray} {mx : Nat} {rt : Option FieldType} {a : Array Value} {s : State} {m : MethodId} {meth : Method} {c : Code} (h1 : s.methodNamed? y = some m) (h2 : s.vm.method? m = some meth) (h3 : meth.code = some c) (h4 : c.code = bytes)
    (h5 : (c.maxLocals == mx && c.exceptionTable.isEmpty && decide (c.maxStack ≤ mostOperands) && decide (meth.sig.returnType = rt) && !meth.locks && decide (parseMethodDescriptor y.desc = some meth.sig)) = true) : (Jvm.Cond.code y bytes mx rt).before a s = true := by
  simp only [Bool.and_eq_true, beq_iff_eq, Bool.not_eq_true', decide_eq_true_eq] at h5
  obtain ⟨⟨⟨⟨⟨g1, g2⟩, g3⟩, g4⟩, g5⟩, g6⟩ := h5
  simp [Cond.before, Cond.holds, Cond.value, h1, h2, h3, h4, g1, g2, g3, g4, g5, g6]
def isCode : Jvm.Cond → Bool
  | .code _ _ _ _ => true
  | _ => false
theorem all_split {L : List Jvm.Cond} {P : Jvm.Cond → Bool} (h1 : L.all (fun c => isCode c || P c) = true) (h2 : ∀ c ∈ L.filter isCode, P c = true) : L.all P = true := by
  refine List.all_eq_true.mpr fun c hc => ?_
  have h := List.all_eq_true.mp h1 c hc
  rcases Bool.eq_false_or_eq_true (isCode c) with hi | hi
  · exact h2 c (List.mem_filter.mpr ⟨hc, hi⟩)
  · simpa [hi] using h
set_option maxRecDepth 65536 in
theorem w_c0 : (Jvm.Cond.code x code maxLocals ret).before args0 about1 = true := code_word (m := ⟨1, 1⟩) (meth := k1m1) (c := k1c1) (by decide +kernel) rfl rfl rfl (by decide +kernel)
set_option maxRecDepth 65536 in
theorem w_c1 : (Jvm.Cond.code ({ cls := "java/lang/Math", name := "max", desc := "(JJ)J" } : Jvm.MethodName) jdk_29_method_66_code (4 : Nat) (Option.some Jvm.ClassFile.FieldType.long)).before args0 about1 = true := code_word (m := ⟨2, 1⟩) (meth := k2m1) (c := k2c1) (by decide +kernel) rfl rfl rfl (by decide +kernel)
set_option maxRecDepth 65536 in
theorem w_c2 : (Jvm.Cond.code ({ cls := "com/example/kortkode/kortkode/coder/AdaptiveTree", name := "maxDepth", desc := "(J)I" } : Jvm.MethodName) prog_13_method_2_code (9 : Nat) (Option.some Jvm.ClassFile.FieldType.int)).before args0 about1 = true := code_word (m := ⟨3, 1⟩) (meth := k3m1) (c := k3c1) (by decide +kernel) rfl rfl rfl (by decide +kernel)
def codes1 : List Jvm.Cond := [Jvm.Cond.code x code maxLocals ret, Jvm.Cond.code ({ cls := "java/lang/Math", name := "max", desc := "(JJ)J" } : Jvm.MethodName) jdk_29_method_66_code (4 : Nat) (Option.some Jvm.ClassFile.FieldType.long), Jvm.Cond.code ({ cls := "com/example/kortkode/kortkode/coder/AdaptiveTree", name := "maxDepth", desc := "(J)I" } : Jvm.MethodName) prog_13_method_2_code (9 : Nat) (Option.some Jvm.ClassFile.FieldType.int)]
set_option maxRecDepth 65536 in
theorem codes_eq : words1.filter isCode = codes1 := rfl
theorem w_codes : ∀ c ∈ words1.filter isCode, c.before args0 about1 = true := by
  rw [codes_eq]
  intro c hc
  simp only [codes1, List.mem_cons, List.not_mem_nil, or_false] at hc
  rcases hc with rfl | rfl | rfl
  · exact w_c0
  · exact w_c1
  · exact w_c2
set_option maxRecDepth 65536 in
theorem w_t1 : (words1.take 24).all (fun c => isCode c || c.before args0 about1) = true := by decide +kernel
set_option maxRecDepth 65536 in
theorem w_t2 : ((words1.drop 24).take 24).all (fun c => isCode c || c.before args0 about1) = true := by decide +kernel
set_option maxRecDepth 65536 in
theorem w_t3 : (((words1.drop 24).drop 24).take 24).all (fun c => isCode c || c.before args0 about1) = true := by decide +kernel
set_option maxRecDepth 65536 in
theorem w_t4 : ((((words1.drop 24).drop 24).drop 24).take 24).all (fun c => isCode c || c.before args0 about1) = true := by decide +kernel
set_option maxRecDepth 65536 in
theorem w_t5 : ((((words1.drop 24).drop 24).drop 24).drop 24).all (fun c => isCode c || c.before args0 about1) = true := by decide +kernel
theorem w_tables : (allAtoms (Jvm.Cond.code x code maxLocals ret :: tables_1)).before args0 about1 = true := by
  rw [allAtoms_all]
  show words1.all (fun c => c.before args0 about1) = true
  refine all_split ?_ w_codes
  rw [← List.take_append_drop 24 words1, List.all_append, w_t1, ← List.take_append_drop 24 (words1.drop 24), List.all_append, w_t2, ← List.take_append_drop 24 ((words1.drop 24).drop 24), List.all_append, w_t3, ← List.take_append_drop 24 (((words1.drop 24).drop 24).drop 24), List.all_append, w_t4, w_t5]
  rfl
set_option maxRecDepth 65536 in
theorem w_case : (Jvm.Cond.and given_1 narrow_1).before args0 about1 = true := by decide +kernel
theorem w_applies : (headSpec (Jvm.Cond.code x code maxLocals ret :: tables_1) room_1).applies x e0.platform about1 = true :=
  (Spec.applies_iff w_frames).mpr ⟨w_running, w_runnable, w_alone, w_named, w_hears, w_ripe, w_room, w_tables⟩
theorem atStart : AtStart classFile x code maxLocals ret World_1 tables_1 room_1 Calls_1 rest_1 Pre_1 launch0 p0 e0 about1 theMethod args0 below0 :=
  ⟨lists_1, trivial, launch0.admits_env _ _ _, launch0.least_env, fairChoices_fair.cas, fairChoices_fair.clock, w_frames, w_args, w_heap, w_applies, trivial, trivial, w_case⟩
end start1
theorem witness_1 : WitnessClaimed_1 := ⟨start1.p0, start1.e0, start1.about1, start1.theMethod, start1.args0, start1.below0, start1.atStart⟩
end Jvm.Pilot.@@N@@
