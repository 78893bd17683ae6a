import JvmDerived
import JvmDerived.Pilot.@@N@@Statement
import JvmDerived.Pilot.@@N@@Code
set_option linter.unusedVariables false
set_option linter.unusedSimpArgs false
namespace Jvm.RoadKit
open Sem ClassFile Op Lib Jvm.Stand Jvm.Free Jvm.LawKit
section New
variable {p : Program} {l : Launch} {e : Env} {R : Room} {s : State} {m : MethodId} {args : Array Value} {below : List Frame} {meth : Method} {c : Code} {T : State} {locs : List Loc} {cells slots : Nat}
theorem retI (X : Stand p l e R s m args below meth c T locs cells slots) (hx : p.tables.exec = Jvm.exec) {pc : Nat} {Ls : Array Slot} {z : Int32} {rest : List Value} (hret : meth.sig.returnType = some .int) (hd : decode c.code pc = .ok (.ireturn, 1)) {fs : List Frame}
    (hl : ∀ (f : JFrame) (acts : List Action), f.method = m → f.locked = none → f.entered = [] → (doReturn e (T.setTop f) acts (some (.int z))).1 = T.setFrames fs) : Steps p.tables e below (T.setTop (mkF m pc Ls (.int z :: rest))) (T.setFrames fs) := by
  have hm' : T.vm.method? m = some meth := X.method'
  have hn : narrow .int (.int z) = .int z := rfl
  show Steps p.tables e below (T.setTop { method := m, pc := pc, locals := Ls, stack := _ :: rest, locked := none }) _
  jvm_step X.here [X.here.top, hx, hd, hm', hret, hn]
  first | (intro acts; rw [hl _ acts rfl rfl rfl]) | rw [hl _ _ rfl rfl rfl]
  exact Steps.refl _
end New
end Jvm.RoadKit
namespace Jvm.Pilot.@@N@@
open Jvm Jvm.ClassFile Sem Op Lib Jvm.Free Jvm.Stand Jvm.LawKit Jvm.RoadKit Bundle Jvm.Pilot.@@N@@.Jvm.D
theorem own_mask (x : Int32) (M : Nat) (hM : M < 2 ^ 31) : ∃ t : Nat, t ≤ M ∧ (x &&& Int32.ofNat M) = Int32.ofNat t := by
  refine ⟨(x &&& Int32.ofNat M).toBitVec.toNat, ?_, ?_⟩
  · simp only [Int32.toBitVec_and, BitVec.toNat_and]
    refine Nat.le_trans Nat.and_le_right ?_
    show (BitVec.ofNat 32 M).toNat ≤ M
    rw [BitVec.toNat_ofNat]
    exact Nat.mod_le _ _
  · apply Int32.toBitVec_inj.mp
    show _ = BitVec.ofNat 32 _
    rw [BitVec.ofNat_toNat]; simp
theorem own_rem (t n : Nat) (ht : t < 2 ^ 31) (hn : n < 2 ^ 31) : Int32.ofNat t % Int32.ofNat n = Int32.ofNat (t % n) := by
  apply Int32.toInt_inj.mp
  have hm : t % n ≤ t := Nat.mod_le _ _
  rw [Int32.toInt_mod, Int32.toInt_ofNat_of_lt ht, Int32.toInt_ofNat_of_lt hn, Int32.toInt_ofNat_of_lt (by omega)]
  rfl
theorem own_maskrem (x : Int32) (M n : Nat) (hM : M < 2 ^ 31) (h0 : 0 < n) (hn : n < 2 ^ 31) : ∃ t : Nat, t < n ∧ (x &&& Int32.ofNat M) % Int32.ofNat n = Int32.ofNat t := by
  obtain ⟨t, ht, e⟩ := own_mask x M hM
  exact ⟨t % n, Nat.mod_lt _ h0, by rw [e, own_rem t n (by omega) hn]⟩
theorem own_keq {h h' : Heap} (e : h' = h) : Keep h h' [] := e ▸ Keep.refl _ _
theorem own_five (x : Int32) : (x &&& (2147483647 : Int32)) % (5 : Int32) = 0 ∨ (x &&& (2147483647 : Int32)) % (5 : Int32) = 1 ∨ (x &&& (2147483647 : Int32)) % (5 : Int32) = 2 ∨ (x &&& (2147483647 : Int32)) % (5 : Int32) = 3 ∨ (x &&& (2147483647 : Int32)) % (5 : Int32) = 4 := by
  obtain ⟨t, ht, e⟩ := own_maskrem x 2147483647 5 (by decide) (by decide) (by decide)
  have e' : (x &&& (2147483647 : Int32)) % (5 : Int32) = Int32.ofNat t := e
  rw [e']
  match t, ht with
  | 0, _ => exact Or.inl rfl
  | 1, _ => exact Or.inr (Or.inl rfl)
  | 2, _ => exact Or.inr (Or.inr (Or.inl rfl))
  | 3, _ => exact Or.inr (Or.inr (Or.inr (Or.inl rfl)))
  | 4, _ => exact Or.inr (Or.inr (Or.inr (Or.inr rfl)))
theorem own_lt {i n : Nat} (hi : i < 2 ^ 31) (hn : n < 2 ^ 31) : Int32.ofNat i < Int32.ofNat n ↔ i < n := by
  rw [Int32.lt_iff_toInt_lt, Int32.toInt_ofNat_of_lt hi, Int32.toInt_ofNat_of_lt hn]
  omega
theorem own_clamp {i : Nat} (hi : i < 2 ^ 31) : (Int32.ofNat i).toNatClampNeg = i := Int32.toNatClampNeg_ofNat_of_lt hi
theorem own_nneg {i : Nat} (hi : i < 2 ^ 31) : ¬ Int32.ofNat i < 0 := fun h => absurd ((own_lt (i := i) (n := 0) hi (by decide)).mp h) (by omega)
theorem own_one (i : Nat) : Int32.ofNat i + (1 : Int32) = Int32.ofNat (i + 1) := (Int32.ofNat_add i 1).symm
def own_or (a c : Int32) : Int32 := if a = 0 then (if c = 1 then 1 else 0) else 1
def own_anyf (f : Nat → Int32) : Nat → Nat → Int32 → Int32
  | 0, _, a => a
  | k + 1, i, a => own_anyf f k (i + 1) (own_or a (f i))
theorem own_or01 (a c : Int32) : own_or a c = 0 ∨ own_or a c = 1 := by
  unfold own_or
  split
  · split
    · exact Or.inr rfl
    · exact Or.inl rfl
  · exact Or.inr rfl
theorem own_any01 (f : Nat → Int32) : ∀ (k i : Nat) (a : Int32), (a = 0 ∨ a = 1) → (own_anyf f k i a = 0 ∨ own_anyf f k i a = 1) := by
  intro k
  induction k with
  | zero => intro i a h; exact h
  | succ k ih => intro i a h; exact ih (i + 1) _ (own_or01 a (f i))
def own_at (L : List Int32) (j : Nat) : Int32 := L.getD j 0
theorem d1_0 : decode prog_216_method_1_code 0 = .ok (.aload_n 0, 1) := by decide +kernel
theorem d1_1 : decode prog_216_method_1_code 1 = .ok (.invokespecial 3, 3) := by decide +kernel
theorem d1_4 : decode prog_216_method_1_code 4 = .ok (.aload_n 0, 1) := by decide +kernel
theorem d1_5 : decode prog_216_method_1_code 5 = .ok (.aload_n 1, 1) := by decide +kernel
theorem d1_6 : decode prog_216_method_1_code 6 = .ok (.invokevirtual 9, 3) := by decide +kernel
theorem d1_9 : decode prog_216_method_1_code 9 = .ok (.checkcast 10, 3) := by decide +kernel
theorem d1_12 : decode prog_216_method_1_code 12 = .ok (.putfield 15, 3) := by decide +kernel
theorem d1_15 : decode prog_216_method_1_code 15 = .ok (.return_, 1) := by decide +kernel
theorem pn_1 : plainName "com/example/tendril/tendril/WireColumns$Formats" = true := by first | (simp [plainName, overriddenIn]; done) | decide +kernel
theorem pd_1_2 : parseMethodDescriptor "()Ljava/lang/Object;" = some ⟨[], some (.object "java/lang/Object")⟩ := by decide +kernel
theorem ef_1 (m : MethodId) (x0 : Addr) (x1 : Addr) : entryFrame m #[(.ref x0), (.ref x1)] 2 = mkF m 0 #[.val (.ref x0), .val (.ref x1)] [] := by first | (simp [entryFrame, mkF, argsToLocals, Value.category]; done) | rfl
def Q1 (Z : State) (a1 : Addr) (k2 : ClassId) (z2 : Int32) (vs2 : List Value) (d2 : Value) (h0 : Heap) (n0 : Nat) (v : Option Value) (h : Heap) (L : List Loc) : Prop := v = none ∧ Fr n0 L ∧ Keep h0 h [a1] ∧ Exa Z h a1 "com/example/tendril/tendril/WireColumns$Formats" ∧ ∃ b : Addr, h0.size ≤ b ∧ Fld Z h a1 "com/example/tendril/tendril/WireColumns$Formats" "codes" "[I" (.ref b) ∧ Arv Z h b k2 .int z2 vs2 d2
set_option maxRecDepth 65536 in
set_option maxHeartbeats 40000000 in
theorem rm1 (l : Launch) (Z : State) (a0 : Array Value) (hw : ∀ d ∈ tables_1, d.before a0 Z = true) (ws : List Jvm.Cond) (a1 : Addr) (a2 : Addr) (u_codes_a1 : Value) (k2 : ClassId) (z2 : Int32) (vs2 : List Value) (d2 : Value) (h0 : Heap) (n0 : Nat) (Z0 : n0 ≤ h0.size) (E_a2 : Exa Z h0 a2 "[I") (V_a2 : Arv Z h0 a2 k2 .int z2 vs2 d2) (hz2 : z2.toNatClampNeg ≤ 4) (E_a1 : Exa Z h0 a1 "com/example/tendril/tendril/WireColumns$Formats") (F_codes_a1 : Fld Z h0 a1 "com/example/tendril/tendril/WireColumns$Formats" "codes" "[I" u_codes_a1) (g_a1 : n0 ≤ a1) :
    MetFree l (⟨"com/example/tendril/tendril/WireColumns$Formats", "<init>", "([I)V"⟩ : MethodName) (head1 (Jvm.Cond.code (⟨"com/example/tendril/tendril/WireColumns$Formats", "<init>", "([I)V"⟩ : MethodName) prog_216_method_1_code 2 none :: ws) ({ frames := 1, cells := 1, slots := 4, locals := 15 } : Room)) (fun a U => a = #[(.ref a1), (.ref a2)] ∧ Z.Warmed39 U.vm ∧ U.heap = h0) (fun _ _ _ _ _ => True) (fun _ U o U' => ∃ v L, o = .returned v ∧ Q1 Z a1 k2 z2 vs2 d2 h0 n0 v U'.heap L ∧ FrameEnd U o U' L ({ frames := 1, cells := 1, slots := 4, locals := 15 } : Room).cells ({ frames := 1, cells := 1, slots := 4, locals := 15 } : Room).slots) := by
  refine MetFree.of_bodySF (plainFor_of_name pn_1) hisR ?_
  intro p e s m args below meth c s₁ Bd hml0 hP hK
  obtain ⟨rfl, hZ, hh⟩ := hP
  have hx := Bd.exec
  have hby := Bd.bytes
  have hml : c.maxLocals = 2 := hml0
  have hown : s.vm.findClass "com/example/tendril/tendril/WireColumns$Formats" = some m.cls := findClass_of_methodNamed Bd.named
  have hnm := (name_of_methodNamed Bd.named Bd.method).1
  have X0 : Stand p l e ({ frames := 1, cells := 1, slots := 4, locals := 15 } : Room) s m #[(.ref a1), (.ref a2)] below meth c s₁ [] 0 0 := Stand.of_body Bd
  have e0 : s₁.heap = h0 := by rw [← hh, Bd.state]; rfl
  have N0 := Fr.nil n0
  have pre0 : ∀ t, Steps p.tables e below (s₁.setTop (mkF m 0 #[.val (.ref a1), .val (.ref a2)] [])) t → Steps p.tables e below (s₁.setTop (entryFrame m #[(.ref a1), (.ref a2)] 2)) t := fun t k => castTop (ef_1 m a1 a2) k
  obtain ⟨T3, X3, e3, st3⟩ := initO X0 hx hZ hown (hw _ (List.mem_of_getElem? (i := 8) rfl)) (hw _ (List.mem_of_getElem? (i := 9) rfl)) (hw _ (List.mem_of_getElem? (i := 10) rfl)) e0 (g := (mkF m 1 #[.val (.ref a1), .val (.ref a2)] [(.ref a1)])) rfl (by rw [hml]; rfl) rfl (hb hby d1_1) (by decide) (W := 0) (by show 2 * 0 + _ ≤ _; exact Nat.le_of_eq rfl) (by decide)
  obtain ⟨T4, h4, X4, e4, E4, V4, A4, st4⟩ := cloneH X3 hx hZ hown (hw _ (List.mem_of_getElem? (i := 11) rfl)) (hw _ (List.mem_of_getElem? (i := 12) rfl)) (hw _ (List.mem_of_getElem? (i := 16) rfl)) (hw _ (List.mem_of_getElem? (i := 14) rfl)) (hw _ (List.mem_of_getElem? (i := 15) rfl)) (hw _ (List.mem_of_getElem? (i := 17) rfl)) e3 (Arv.arh V_a2) E_a2 (g := (mkF m 6 #[.val (.ref a1), .val (.ref a2)] [(.ref a2), (.ref a1)])) rfl (by rw [hml]; rfl) rfl (hb hby d1_6) (by decide) (W := 1) (cap := 4) (by show 2 * 0 + _ ≤ _; exact Nat.le_of_eq rfl) (by decide) hz2 (by decide) (by decide)
  obtain ⟨b4, g4⟩ : ∃ z, z = h0.size := ⟨_, rfl⟩
  rw [← g4] at V4 A4 st4
  obtain ⟨T5, X5, e5, st5⟩ := castY X4 hx hZ hown (hw _ (List.mem_of_getElem? (i := 18) rfl)) e4 (Ins.self A4) (g := (mkF m 9 #[.val (.ref a1), .val (.ref a2)] [(.ref b4), (.ref a1)])) rfl rfl (hb hby d1_9)
  obtain ⟨T6, h6, X6, e6, W6, st6⟩ := putF X5 hx hZ hown (host := "") (Or.inl (hw _ (List.mem_of_getElem? (i := 20) rfl))) Via.refl e5 (F_codes_a1.ext E4) (E_a1.ext E4) (Or.inr ⟨(hw _ (List.mem_of_getElem? (i := 21) rfl)), rfl, hnm⟩) (hw _ (List.mem_of_getElem? (i := 3) rfl)) (ty := (.array .int)) (by decide) rfl rfl (g := (mkF m 12 #[.val (.ref a1), .val (.ref a2)] [(.ref b4), (.ref a1)])) rfl rfl (hb hby d1_12)
  have Fw6 := (F_codes_a1.ext E4).same W6
  have K6 : Keep h0 h6 [a1] := ((Keep.refl h0 [a1]).ext E4).wr W6 (Or.inl (List.mem_of_getElem? (i := 0) rfl))
  have N6 := Fr.snoc X6 N0 g_a1
  obtain ⟨fs, hr, hrun, hended, hW, hsame⟩ := X6.leave (v := none) (fun _ => rfl)
  refine ⟨_, _, pre0 _ ?_, hrun, hended, _, _, rfl, ?_, ⟨_, rfl⟩, hW, hsame.mono (by decide) (by decide)⟩
  · show Steps p.tables e below (s₁.setTop (mkF m 0 #[.val (.ref a1), .val (.ref a2)] [])) _
    refine XS.aloadN X0.here hx rfl (hb hby d1_0) rfl rfl ?_
    show Steps p.tables e below (s₁.setTop (mkF m 1 #[.val (.ref a1), .val (.ref a2)] [(.ref a1)])) _
    refine st3 _ ?_
    show Steps p.tables e below (T3.setTop (mkF m 4 #[.val (.ref a1), .val (.ref a2)] [])) _
    refine XS.aloadN X3.here hx rfl (hb hby d1_4) rfl rfl ?_
    show Steps p.tables e below (T3.setTop (mkF m 5 #[.val (.ref a1), .val (.ref a2)] [(.ref a1)])) _
    refine XS.aloadN X3.here hx rfl (hb hby d1_5) rfl rfl ?_
    show Steps p.tables e below (T3.setTop (mkF m 6 #[.val (.ref a1), .val (.ref a2)] [(.ref a2), (.ref a1)])) _
    refine st4 _ ?_
    show Steps p.tables e below (T4.setTop (mkF m 9 #[.val (.ref a1), .val (.ref a2)] [(.ref b4), (.ref a1)])) _
    refine st5 _ ?_
    show Steps p.tables e below (T5.setTop (mkF m 12 #[.val (.ref a1), .val (.ref a2)] [(.ref b4), (.ref a1)])) _
    refine st6 _ ?_
    show Steps p.tables e below (T6.setTop (mkF m 15 #[.val (.ref a1), .val (.ref a2)] [])) _
    exact X6.returnOut hx Bd.returns (hb hby d1_15) hr
  · show Q1 Z a1 k2 z2 vs2 d2 h0 n0 _ T6.heap _
    rw [e6]
    exact ⟨rfl, N6, K6, (E_a1.ext E4).wr W6, b4, Nat.le_of_eq g4.symm, Fw6, (show Arv Z h4 b4 k2 .int z2 vs2 d2 from V4).other W6 (Ne.symm (Nat.ne_of_lt (Nat.lt_of_lt_of_le E_a1.lt (Nat.le_of_eq g4.symm))))⟩
theorem d3_0 : decode method_2_code 0 = .ok (.iload_n 1, 1) := by decide +kernel
theorem d3_1 : decode method_2_code 1 = .ok (.iload_n 0, 1) := by decide +kernel
theorem d3_2 : decode method_2_code 2 = .ok (.if_icmp .ge 12, 3) := by decide +kernel
theorem d3_5 : decode method_2_code 5 = .ok (.iload_n 2, 1) := by decide +kernel
theorem d3_6 : decode method_2_code 6 = .ok (.iconst 1, 1) := by decide +kernel
theorem d3_7 : decode method_2_code 7 = .ok (.if_icmp .ne 7, 3) := by decide +kernel
theorem d3_10 : decode method_2_code 10 = .ok (.iconst 1, 1) := by decide +kernel
theorem d3_11 : decode method_2_code 11 = .ok (.goto 4, 3) := by decide +kernel
theorem d3_15 : decode method_2_code 15 = .ok (.ireturn, 1) := by decide +kernel
theorem pn_3 : plainName "com/example/tendril/tendril/FormatsAnyBinaryPinLaw" = true := by first | (simp [plainName, overriddenIn]; done) | decide +kernel
theorem ef_3 (m : MethodId) (x0 : Int32) (x1 : Int32) (x2 : Int32) : entryFrame m #[(.int x0), (.int x1), (.int x2)] 3 = mkF m 0 #[.val (.int x0), .val (.int x1), .val (.int x2)] [] := by first | (simp [entryFrame, mkF, argsToLocals, Value.category]; done) | rfl
def Q3ff (Z : State) (p1 : Int32) (p2 : Int32) (p3 : Int32) (h0 : Heap) (n0 : Nat) (v : Option Value) (h : Heap) (L : List Loc) : Prop := v = some (.int (1 : Int32)) ∧ Fr n0 L ∧ h = h0
set_option maxRecDepth 65536 in
set_option maxHeartbeats 40000000 in
theorem rm3ff (l : Launch) (Z : State) (a0 : Array Value) (hw : ∀ d ∈ tables_1, d.before a0 Z = true) (ws : List Jvm.Cond) (p1 : Int32) (p2 : Int32) (p3 : Int32) (h0 : Heap) (n0 : Nat) (Z0 : n0 ≤ h0.size) (hc2 : p2 < p1) (hc7 : p3 = (1 : Int32)) :
    MetFree l (⟨"com/example/tendril/tendril/FormatsAnyBinaryPinLaw", "hit", "(III)Z"⟩ : MethodName) (head1 (Jvm.Cond.code (⟨"com/example/tendril/tendril/FormatsAnyBinaryPinLaw", "hit", "(III)Z"⟩ : MethodName) method_2_code 3 (some .boolean) :: ws) ({ frames := 0, cells := 0, slots := 0, locals := 0 } : Room)) (fun a U => a = #[(.int p1), (.int p2), (.int p3)] ∧ Z.Warmed39 U.vm ∧ U.heap = h0) (fun _ _ _ _ _ => True) (fun _ U o U' => ∃ v L, o = .returned v ∧ Q3ff Z p1 p2 p3 h0 n0 v U'.heap L ∧ FrameEnd U o U' L ({ frames := 0, cells := 0, slots := 0, locals := 0 } : Room).cells ({ frames := 0, cells := 0, slots := 0, locals := 0 } : Room).slots) := by
  refine MetFree.of_bodySF (plainFor_of_name pn_3) hisR ?_
  intro p e s m args below meth c s₁ Bd hml0 hP hK
  obtain ⟨rfl, hZ, hh⟩ := hP
  have hx := Bd.exec
  have hby := Bd.bytes
  have hml : c.maxLocals = 3 := hml0
  have hown : s.vm.findClass "com/example/tendril/tendril/FormatsAnyBinaryPinLaw" = some m.cls := findClass_of_methodNamed Bd.named
  have hnm := (name_of_methodNamed Bd.named Bd.method).1
  have X0 : Stand p l e ({ frames := 0, cells := 0, slots := 0, locals := 0 } : Room) s m #[(.int p1), (.int p2), (.int p3)] below meth c s₁ [] 0 0 := Stand.of_body Bd
  have e0 : s₁.heap = h0 := by rw [← hh, Bd.state]; rfl
  have N0 := Fr.nil n0
  have pre0 : ∀ t, Steps p.tables e below (s₁.setTop (mkF m 0 #[.val (.int p1), .val (.int p2), .val (.int p3)] [])) t → Steps p.tables e below (s₁.setTop (entryFrame m #[(.int p1), (.int p2), (.int p3)] 3)) t := fun t k => castTop (ef_3 m p1 p2 p3) k

  obtain ⟨fs, hr, hrun, hended, hW, hsame⟩ := X0.leave (v := some (.int (1 : Int32))) (fun h => by rw [Bd.returns] at h; cases h)
  refine ⟨_, _, pre0 _ ?_, hrun, hended, _, _, rfl, ?_, ⟨_, rfl⟩, hW, hsame.mono (by decide) (by decide)⟩
  · show Steps p.tables e below (s₁.setTop (mkF m 0 #[.val (.int p1), .val (.int p2), .val (.int p3)] [])) _
    refine XS.iloadN X0.here hx rfl (hb hby d3_0) rfl ?_
    show Steps p.tables e below (s₁.setTop (mkF m 1 #[.val (.int p1), .val (.int p2), .val (.int p3)] [(.int p2)])) _
    refine XS.iloadN X0.here hx rfl (hb hby d3_1) rfl ?_
    show Steps p.tables e below (s₁.setTop (mkF m 2 #[.val (.int p1), .val (.int p2), .val (.int p3)] [(.int p1), (.int p2)])) _
    refine XS.icmpNo X0.here hx rfl (hb hby d3_2) rfl (tlt hc2).2.1 ?_
    show Steps p.tables e below (s₁.setTop (mkF m 5 #[.val (.int p1), .val (.int p2), .val (.int p3)] [])) _
    refine XS.iloadN X0.here hx rfl (hb hby d3_5) rfl ?_
    show Steps p.tables e below (s₁.setTop (mkF m 6 #[.val (.int p1), .val (.int p2), .val (.int p3)] [(.int p3)])) _
    refine XS.iconst X0.here hx rfl (hb hby d3_6) ?_
    show Steps p.tables e below (s₁.setTop (mkF m 7 #[.val (.int p1), .val (.int p2), .val (.int p3)] [(.int (1 : Int32)), (.int p3)])) _
    refine XS.icmpNo X0.here hx rfl (hb hby d3_7) rfl (teq hc7).2 ?_
    show Steps p.tables e below (s₁.setTop (mkF m 10 #[.val (.int p1), .val (.int p2), .val (.int p3)] [])) _
    refine XS.iconst X0.here hx rfl (hb hby d3_10) ?_
    show Steps p.tables e below (s₁.setTop (mkF m 11 #[.val (.int p1), .val (.int p2), .val (.int p3)] [(.int (1 : Int32))])) _
    refine XS.goto X0.here hx rfl (pc0 := 11) (pc' := 15) rfl (hb hby d3_11) (by decide) (by decide) ?_
    show Steps p.tables e below (s₁.setTop (mkF m 15 #[.val (.int p1), .val (.int p2), .val (.int p3)] [(.int (1 : Int32))])) _
    exact retN X0 hx (t := .boolean) Bd.returns (by simp) (hb hby d3_15) hr
  · show Q3ff Z p1 p2 p3 h0 n0 _ s₁.heap _
    rw [e0]
    exact ⟨rfl, N0, rfl⟩
theorem d3_14 : decode method_2_code 14 = .ok (.iconst 0, 1) := by decide +kernel
def Q3ft (Z : State) (p1 : Int32) (p2 : Int32) (p3 : Int32) (h0 : Heap) (n0 : Nat) (v : Option Value) (h : Heap) (L : List Loc) : Prop := v = some (.int (0 : Int32)) ∧ Fr n0 L ∧ h = h0
set_option maxRecDepth 65536 in
set_option maxHeartbeats 40000000 in
theorem rm3ft (l : Launch) (Z : State) (a0 : Array Value) (hw : ∀ d ∈ tables_1, d.before a0 Z = true) (ws : List Jvm.Cond) (p1 : Int32) (p2 : Int32) (p3 : Int32) (h0 : Heap) (n0 : Nat) (Z0 : n0 ≤ h0.size) (hc2 : p2 < p1) (hc7 : ¬ (p3 = (1 : Int32))) :
    MetFree l (⟨"com/example/tendril/tendril/FormatsAnyBinaryPinLaw", "hit", "(III)Z"⟩ : MethodName) (head1 (Jvm.Cond.code (⟨"com/example/tendril/tendril/FormatsAnyBinaryPinLaw", "hit", "(III)Z"⟩ : MethodName) method_2_code 3 (some .boolean) :: ws) ({ frames := 0, cells := 0, slots := 0, locals := 0 } : Room)) (fun a U => a = #[(.int p1), (.int p2), (.int p3)] ∧ Z.Warmed39 U.vm ∧ U.heap = h0) (fun _ _ _ _ _ => True) (fun _ U o U' => ∃ v L, o = .returned v ∧ Q3ft Z p1 p2 p3 h0 n0 v U'.heap L ∧ FrameEnd U o U' L ({ frames := 0, cells := 0, slots := 0, locals := 0 } : Room).cells ({ frames := 0, cells := 0, slots := 0, locals := 0 } : Room).slots) := by
  refine MetFree.of_bodySF (plainFor_of_name pn_3) hisR ?_
  intro p e s m args below meth c s₁ Bd hml0 hP hK
  obtain ⟨rfl, hZ, hh⟩ := hP
  have hx := Bd.exec
  have hby := Bd.bytes
  have hml : c.maxLocals = 3 := hml0
  have hown : s.vm.findClass "com/example/tendril/tendril/FormatsAnyBinaryPinLaw" = some m.cls := findClass_of_methodNamed Bd.named
  have hnm := (name_of_methodNamed Bd.named Bd.method).1
  have X0 : Stand p l e ({ frames := 0, cells := 0, slots := 0, locals := 0 } : Room) s m #[(.int p1), (.int p2), (.int p3)] below meth c s₁ [] 0 0 := Stand.of_body Bd
  have e0 : s₁.heap = h0 := by rw [← hh, Bd.state]; rfl
  have N0 := Fr.nil n0
  have pre0 : ∀ t, Steps p.tables e below (s₁.setTop (mkF m 0 #[.val (.int p1), .val (.int p2), .val (.int p3)] [])) t → Steps p.tables e below (s₁.setTop (entryFrame m #[(.int p1), (.int p2), (.int p3)] 3)) t := fun t k => castTop (ef_3 m p1 p2 p3) k

  obtain ⟨fs, hr, hrun, hended, hW, hsame⟩ := X0.leave (v := some (.int (0 : Int32))) (fun h => by rw [Bd.returns] at h; cases h)
  refine ⟨_, _, pre0 _ ?_, hrun, hended, _, _, rfl, ?_, ⟨_, rfl⟩, hW, hsame.mono (by decide) (by decide)⟩
  · show Steps p.tables e below (s₁.setTop (mkF m 0 #[.val (.int p1), .val (.int p2), .val (.int p3)] [])) _
    refine XS.iloadN X0.here hx rfl (hb hby d3_0) rfl ?_
    show Steps p.tables e below (s₁.setTop (mkF m 1 #[.val (.int p1), .val (.int p2), .val (.int p3)] [(.int p2)])) _
    refine XS.iloadN X0.here hx rfl (hb hby d3_1) rfl ?_
    show Steps p.tables e below (s₁.setTop (mkF m 2 #[.val (.int p1), .val (.int p2), .val (.int p3)] [(.int p1), (.int p2)])) _
    refine XS.icmpNo X0.here hx rfl (hb hby d3_2) rfl (tlt hc2).2.1 ?_
    show Steps p.tables e below (s₁.setTop (mkF m 5 #[.val (.int p1), .val (.int p2), .val (.int p3)] [])) _
    refine XS.iloadN X0.here hx rfl (hb hby d3_5) rfl ?_
    show Steps p.tables e below (s₁.setTop (mkF m 6 #[.val (.int p1), .val (.int p2), .val (.int p3)] [(.int p3)])) _
    refine XS.iconst X0.here hx rfl (hb hby d3_6) ?_
    show Steps p.tables e below (s₁.setTop (mkF m 7 #[.val (.int p1), .val (.int p2), .val (.int p3)] [(.int (1 : Int32)), (.int p3)])) _
    refine XS.icmpYes X0.here hx rfl (pc0 := 7) (pc' := 14) rfl (hb hby d3_7) rfl (feq hc7).2 (by decide) (by decide) ?_
    show Steps p.tables e below (s₁.setTop (mkF m 14 #[.val (.int p1), .val (.int p2), .val (.int p3)] [])) _
    refine XS.iconst X0.here hx rfl (hb hby d3_14) ?_
    show Steps p.tables e below (s₁.setTop (mkF m 15 #[.val (.int p1), .val (.int p2), .val (.int p3)] [(.int (0 : Int32))])) _
    exact retN X0 hx (t := .boolean) Bd.returns (by simp) (hb hby d3_15) hr
  · show Q3ft Z p1 p2 p3 h0 n0 _ s₁.heap _
    rw [e0]
    exact ⟨rfl, N0, rfl⟩
def Q3t (Z : State) (p1 : Int32) (p2 : Int32) (p3 : Int32) (h0 : Heap) (n0 : Nat) (v : Option Value) (h : Heap) (L : List Loc) : Prop := v = some (.int (0 : Int32)) ∧ Fr n0 L ∧ h = h0
set_option maxRecDepth 65536 in
set_option maxHeartbeats 40000000 in
theorem rm3t (l : Launch) (Z : State) (a0 : Array Value) (hw : ∀ d ∈ tables_1, d.before a0 Z = true) (ws : List Jvm.Cond) (p1 : Int32) (p2 : Int32) (p3 : Int32) (h0 : Heap) (n0 : Nat) (Z0 : n0 ≤ h0.size) (hc2 : ¬ (p2 < p1)) :
    MetFree l (⟨"com/example/tendril/tendril/FormatsAnyBinaryPinLaw", "hit", "(III)Z"⟩ : MethodName) (head1 (Jvm.Cond.code (⟨"com/example/tendril/tendril/FormatsAnyBinaryPinLaw", "hit", "(III)Z"⟩ : MethodName) method_2_code 3 (some .boolean) :: ws) ({ frames := 0, cells := 0, slots := 0, locals := 0 } : Room)) (fun a U => a = #[(.int p1), (.int p2), (.int p3)] ∧ Z.Warmed39 U.vm ∧ U.heap = h0) (fun _ _ _ _ _ => True) (fun _ U o U' => ∃ v L, o = .returned v ∧ Q3t Z p1 p2 p3 h0 n0 v U'.heap L ∧ FrameEnd U o U' L ({ frames := 0, cells := 0, slots := 0, locals := 0 } : Room).cells ({ frames := 0, cells := 0, slots := 0, locals := 0 } : Room).slots) := by
  refine MetFree.of_bodySF (plainFor_of_name pn_3) hisR ?_
  intro p e s m args below meth c s₁ Bd hml0 hP hK
  obtain ⟨rfl, hZ, hh⟩ := hP
  have hx := Bd.exec
  have hby := Bd.bytes
  have hml : c.maxLocals = 3 := hml0
  have hown : s.vm.findClass "com/example/tendril/tendril/FormatsAnyBinaryPinLaw" = some m.cls := findClass_of_methodNamed Bd.named
  have hnm := (name_of_methodNamed Bd.named Bd.method).1
  have X0 : Stand p l e ({ frames := 0, cells := 0, slots := 0, locals := 0 } : Room) s m #[(.int p1), (.int p2), (.int p3)] below meth c s₁ [] 0 0 := Stand.of_body Bd
  have e0 : s₁.heap = h0 := by rw [← hh, Bd.state]; rfl
  have N0 := Fr.nil n0
  have pre0 : ∀ t, Steps p.tables e below (s₁.setTop (mkF m 0 #[.val (.int p1), .val (.int p2), .val (.int p3)] [])) t → Steps p.tables e below (s₁.setTop (entryFrame m #[(.int p1), (.int p2), (.int p3)] 3)) t := fun t k => castTop (ef_3 m p1 p2 p3) k

  obtain ⟨fs, hr, hrun, hended, hW, hsame⟩ := X0.leave (v := some (.int (0 : Int32))) (fun h => by rw [Bd.returns] at h; cases h)
  refine ⟨_, _, pre0 _ ?_, hrun, hended, _, _, rfl, ?_, ⟨_, rfl⟩, hW, hsame.mono (by decide) (by decide)⟩
  · show Steps p.tables e below (s₁.setTop (mkF m 0 #[.val (.int p1), .val (.int p2), .val (.int p3)] [])) _
    refine XS.iloadN X0.here hx rfl (hb hby d3_0) rfl ?_
    show Steps p.tables e below (s₁.setTop (mkF m 1 #[.val (.int p1), .val (.int p2), .val (.int p3)] [(.int p2)])) _
    refine XS.iloadN X0.here hx rfl (hb hby d3_1) rfl ?_
    show Steps p.tables e below (s₁.setTop (mkF m 2 #[.val (.int p1), .val (.int p2), .val (.int p3)] [(.int p1), (.int p2)])) _
    refine XS.icmpYes X0.here hx rfl (pc0 := 2) (pc' := 14) rfl (hb hby d3_2) rfl (flt hc2).2.1 (by decide) (by decide) ?_
    show Steps p.tables e below (s₁.setTop (mkF m 14 #[.val (.int p1), .val (.int p2), .val (.int p3)] [])) _
    refine XS.iconst X0.here hx rfl (hb hby d3_14) ?_
    show Steps p.tables e below (s₁.setTop (mkF m 15 #[.val (.int p1), .val (.int p2), .val (.int p3)] [(.int (0 : Int32))])) _
    exact retN X0 hx (t := .boolean) Bd.returns (by simp) (hb hby d3_15) hr
  · show Q3t Z p1 p2 p3 h0 n0 _ s₁.heap _
    rw [e0]
    exact ⟨rfl, N0, rfl⟩
theorem d4_13 : decode prog_216_method_3_code 13 = .ok (.iload 4, 2) := by decide +kernel
theorem d4_15 : decode prog_216_method_3_code 15 = .ok (.iload_n 3, 1) := by decide +kernel
theorem d4_16 : decode prog_216_method_3_code 16 = .ok (.if_icmp .ge 31, 3) := by decide +kernel
theorem d4_19 : decode prog_216_method_3_code 19 = .ok (.aload_n 2, 1) := by decide +kernel
theorem d4_20 : decode prog_216_method_3_code 20 = .ok (.iload 4, 2) := by decide +kernel
theorem d4_22 : decode prog_216_method_3_code 22 = .ok (.iaload, 1) := by decide +kernel
theorem d4_23 : decode prog_216_method_3_code 23 = .ok (.istore 5, 2) := by decide +kernel
theorem d4_25 : decode prog_216_method_3_code 25 = .ok (.iload_n 1, 1) := by decide +kernel
theorem d4_26 : decode prog_216_method_3_code 26 = .ok (.ifCond .ne 9, 3) := by decide +kernel
theorem d4_35 : decode prog_216_method_3_code 35 = .ok (.iconst 1, 1) := by decide +kernel
theorem d4_36 : decode prog_216_method_3_code 36 = .ok (.goto 4, 3) := by decide +kernel
theorem d4_40 : decode prog_216_method_3_code 40 = .ok (.istore_n 1, 1) := by decide +kernel
theorem d4_41 : decode prog_216_method_3_code 41 = .ok (.iinc 4 1, 3) := by decide +kernel
theorem d4_44 : decode prog_216_method_3_code 44 = .ok (.goto (-31), 3) := by decide +kernel
theorem os4_23 {s0 : Slot} {z1 : Value} {z2 : Value} {z3 : Value} {z4 : Value} {s5 : Slot} {v : Int32} (h : One s5) : storeLocals #[s0, .val z1, .val z2, .val z3, .val z4, s5] 5 (.int v) = some #[s0, .val z1, .val z2, .val z3, .val z4, .val (.int v)] := by
  rcases h with rfl | ⟨w, rfl, hw⟩
  · rfl
  · cases w <;> first | rfl | (simp [Value.category] at hw)
set_option maxRecDepth 65536 in
set_option maxHeartbeats 40000000 in
theorem tn4_ft {p : Program} {l : Launch} {e : Env} {R : Room} {s : State} {m : MethodId} {args : Array Value} {below : List Frame} {meth : Method} {c : Code} {T0 : State} {locs : List Loc} {cells slots : Nat} {Z : State} {a0 : Array Value} {h0 : Heap} (s0 : Slot) (i1 : Int32) (o2 : Addr) (i3 : Int32) (i4 : Int32) (s5 : Slot) (w2 : Int32) (cl_o2 : Cell)
    (X0 : Stand p l e R s m args below meth c T0 locs cells slots) (hx : p.tables.exec = Jvm.exec) (hZ : Z.Warmed39 s.vm) (hw : ∀ d ∈ tables_1, d.before a0 Z = true) (hby : c.code = prog_216_method_3_code) (hml : c.maxLocals = 6) (hown : s.vm.findClass "com/example/tendril/tendril/WireColumns$Formats" = some m.cls) (e0 : T0.heap = h0) (Ar_o2 : Arr Z h0 o2 cl_o2 .int) (hin22 : ¬ (i4 < 0 ∨ cl_o2.slots.size ≤ (i4).toNatClampNeg)) (hat22 : cl_o2.slots[(i4).toNatClampNeg]? = some (.int w2)) (hs5 : One s5) (hc16 : i4 < i3) (hc26 : ¬ (i1 = (0 : Int32))) :
    ∃ (T' : State), Stand p l e R s m args below meth c T' locs cells slots ∧ T'.heap = h0 ∧
      ∀ target, Steps p.tables e below (T'.setTop (mkF m 13 #[s0, .val (.int (1 : Int32)), .val (.ref o2), .val (.int i3), .val (.int (i4 + (1 : Int32))), .val (.int w2)] [])) target → Steps p.tables e below (T0.setTop (mkF m 13 #[s0, .val (.int i1), .val (.ref o2), .val (.int i3), .val (.int i4), s5] [])) target := by

  refine ⟨T0, X0, e0, fun target kt => ?_⟩
  show Steps p.tables e below (T0.setTop (mkF m 13 #[s0, .val (.int i1), .val (.ref o2), .val (.int i3), .val (.int i4), s5] [])) _
  refine XS.iload X0.here hx rfl (hb hby d4_13) rfl ?_
  show Steps p.tables e below (T0.setTop (mkF m 15 #[s0, .val (.int i1), .val (.ref o2), .val (.int i3), .val (.int i4), s5] [(.int i4)])) _
  refine XS.iloadN X0.here hx rfl (hb hby d4_15) rfl ?_
  show Steps p.tables e below (T0.setTop (mkF m 16 #[s0, .val (.int i1), .val (.ref o2), .val (.int i3), .val (.int i4), s5] [(.int i3), (.int i4)])) _
  refine XS.icmpNo X0.here hx rfl (hb hby d4_16) rfl (tlt hc16).2.1 ?_
  show Steps p.tables e below (T0.setTop (mkF m 19 #[s0, .val (.int i1), .val (.ref o2), .val (.int i3), .val (.int i4), s5] [])) _
  refine XS.aloadN X0.here hx rfl (hb hby d4_19) rfl rfl ?_
  show Steps p.tables e below (T0.setTop (mkF m 20 #[s0, .val (.int i1), .val (.ref o2), .val (.int i3), .val (.int i4), s5] [(.ref o2)])) _
  refine XS.iload X0.here hx rfl (hb hby d4_20) rfl ?_
  show Steps p.tables e below (T0.setTop (mkF m 22 #[s0, .val (.int i1), .val (.ref o2), .val (.int i3), .val (.int i4), s5] [(.int i4), (.ref o2)])) _
  refine X0.iaload hx (j := i4) (v := (.int w2)) (by rw [e0]; exact Ar_o2.1) (State.isArrayOf_alike hZ.alike Ar_o2.2.1) Ar_o2.2.2 hin22 hat22 (g := (mkF m 22 #[s0, .val (.int i1), .val (.ref o2), .val (.int i3), .val (.int i4), s5] [(.int i4), (.ref o2)])) rfl rfl (hb hby d4_22) _ ?_
  show Steps p.tables e below (T0.setTop (mkF m 23 #[s0, .val (.int i1), .val (.ref o2), .val (.int i3), .val (.int i4), s5] [(.int w2)])) _
  refine XS.istore X0.here hx rfl (hb hby d4_23) rfl (l' := #[s0, .val (.int i1), .val (.ref o2), .val (.int i3), .val (.int i4), .val (.int w2)]) (os4_23 hs5) ?_
  show Steps p.tables e below (T0.setTop (mkF m 25 #[s0, .val (.int i1), .val (.ref o2), .val (.int i3), .val (.int i4), .val (.int w2)] [])) _
  refine XS.iloadN X0.here hx rfl (hb hby d4_25) rfl ?_
  show Steps p.tables e below (T0.setTop (mkF m 26 #[s0, .val (.int i1), .val (.ref o2), .val (.int i3), .val (.int i4), .val (.int w2)] [(.int i1)])) _
  refine XS.ifYes X0.here hx rfl (pc0 := 26) (pc' := 35) rfl (hb hby d4_26) rfl ((if0 _ _).trans (feq hc26).2) (by decide) (by decide) ?_
  show Steps p.tables e below (T0.setTop (mkF m 35 #[s0, .val (.int i1), .val (.ref o2), .val (.int i3), .val (.int i4), .val (.int w2)] [])) _
  refine XS.iconst X0.here hx rfl (hb hby d4_35) ?_
  show Steps p.tables e below (T0.setTop (mkF m 36 #[s0, .val (.int i1), .val (.ref o2), .val (.int i3), .val (.int i4), .val (.int w2)] [(.int (1 : Int32))])) _
  refine XS.goto X0.here hx rfl (pc0 := 36) (pc' := 40) rfl (hb hby d4_36) (by decide) (by decide) ?_
  show Steps p.tables e below (T0.setTop (mkF m 40 #[s0, .val (.int i1), .val (.ref o2), .val (.int i3), .val (.int i4), .val (.int w2)] [(.int (1 : Int32))])) _
  refine XS.istoreN X0.here hx rfl (hb hby d4_40) rfl (l' := #[s0, .val (.int (1 : Int32)), .val (.ref o2), .val (.int i3), .val (.int i4), .val (.int w2)]) rfl ?_
  show Steps p.tables e below (T0.setTop (mkF m 41 #[s0, .val (.int (1 : Int32)), .val (.ref o2), .val (.int i3), .val (.int i4), .val (.int w2)] [])) _
  refine XS.iinc X0.here hx rfl (hb hby d4_41) rfl (l' := #[s0, .val (.int (1 : Int32)), .val (.ref o2), .val (.int i3), .val (.int (i4 + (1 : Int32))), .val (.int w2)]) rfl ?_
  show Steps p.tables e below (T0.setTop (mkF m 44 #[s0, .val (.int (1 : Int32)), .val (.ref o2), .val (.int i3), .val (.int (i4 + (1 : Int32))), .val (.int w2)] [])) _
  refine XS.goto X0.here hx rfl (pc0 := 44) (pc' := 13) rfl (hb hby d4_44) (by decide) (by decide) ?_
  exact kt
theorem d4_29 : decode prog_216_method_3_code 29 = .ok (.iload 5, 2) := by decide +kernel
theorem d4_31 : decode prog_216_method_3_code 31 = .ok (.iconst 1, 1) := by decide +kernel
theorem d4_32 : decode prog_216_method_3_code 32 = .ok (.if_icmp .ne 7, 3) := by decide +kernel
set_option maxRecDepth 65536 in
set_option maxHeartbeats 40000000 in
theorem tn4_fff {p : Program} {l : Launch} {e : Env} {R : Room} {s : State} {m : MethodId} {args : Array Value} {below : List Frame} {meth : Method} {c : Code} {T0 : State} {locs : List Loc} {cells slots : Nat} {Z : State} {a0 : Array Value} {h0 : Heap} (s0 : Slot) (i1 : Int32) (o2 : Addr) (i3 : Int32) (i4 : Int32) (s5 : Slot) (w2 : Int32) (cl_o2 : Cell)
    (X0 : Stand p l e R s m args below meth c T0 locs cells slots) (hx : p.tables.exec = Jvm.exec) (hZ : Z.Warmed39 s.vm) (hw : ∀ d ∈ tables_1, d.before a0 Z = true) (hby : c.code = prog_216_method_3_code) (hml : c.maxLocals = 6) (hown : s.vm.findClass "com/example/tendril/tendril/WireColumns$Formats" = some m.cls) (e0 : T0.heap = h0) (Ar_o2 : Arr Z h0 o2 cl_o2 .int) (hin22 : ¬ (i4 < 0 ∨ cl_o2.slots.size ≤ (i4).toNatClampNeg)) (hat22 : cl_o2.slots[(i4).toNatClampNeg]? = some (.int w2)) (hs5 : One s5) (hc16 : i4 < i3) (hc26 : i1 = (0 : Int32)) (hc32 : w2 = (1 : Int32)) :
    ∃ (T' : State), Stand p l e R s m args below meth c T' locs cells slots ∧ T'.heap = h0 ∧
      ∀ target, Steps p.tables e below (T'.setTop (mkF m 13 #[s0, .val (.int (1 : Int32)), .val (.ref o2), .val (.int i3), .val (.int (i4 + (1 : Int32))), .val (.int w2)] [])) target → Steps p.tables e below (T0.setTop (mkF m 13 #[s0, .val (.int i1), .val (.ref o2), .val (.int i3), .val (.int i4), s5] [])) target := by

  refine ⟨T0, X0, e0, fun target kt => ?_⟩
  show Steps p.tables e below (T0.setTop (mkF m 13 #[s0, .val (.int i1), .val (.ref o2), .val (.int i3), .val (.int i4), s5] [])) _
  refine XS.iload X0.here hx rfl (hb hby d4_13) rfl ?_
  show Steps p.tables e below (T0.setTop (mkF m 15 #[s0, .val (.int i1), .val (.ref o2), .val (.int i3), .val (.int i4), s5] [(.int i4)])) _
  refine XS.iloadN X0.here hx rfl (hb hby d4_15) rfl ?_
  show Steps p.tables e below (T0.setTop (mkF m 16 #[s0, .val (.int i1), .val (.ref o2), .val (.int i3), .val (.int i4), s5] [(.int i3), (.int i4)])) _
  refine XS.icmpNo X0.here hx rfl (hb hby d4_16) rfl (tlt hc16).2.1 ?_
  show Steps p.tables e below (T0.setTop (mkF m 19 #[s0, .val (.int i1), .val (.ref o2), .val (.int i3), .val (.int i4), s5] [])) _
  refine XS.aloadN X0.here hx rfl (hb hby d4_19) rfl rfl ?_
  show Steps p.tables e below (T0.setTop (mkF m 20 #[s0, .val (.int i1), .val (.ref o2), .val (.int i3), .val (.int i4), s5] [(.ref o2)])) _
  refine XS.iload X0.here hx rfl (hb hby d4_20) rfl ?_
  show Steps p.tables e below (T0.setTop (mkF m 22 #[s0, .val (.int i1), .val (.ref o2), .val (.int i3), .val (.int i4), s5] [(.int i4), (.ref o2)])) _
  refine X0.iaload hx (j := i4) (v := (.int w2)) (by rw [e0]; exact Ar_o2.1) (State.isArrayOf_alike hZ.alike Ar_o2.2.1) Ar_o2.2.2 hin22 hat22 (g := (mkF m 22 #[s0, .val (.int i1), .val (.ref o2), .val (.int i3), .val (.int i4), s5] [(.int i4), (.ref o2)])) rfl rfl (hb hby d4_22) _ ?_
  show Steps p.tables e below (T0.setTop (mkF m 23 #[s0, .val (.int i1), .val (.ref o2), .val (.int i3), .val (.int i4), s5] [(.int w2)])) _
  refine XS.istore X0.here hx rfl (hb hby d4_23) rfl (l' := #[s0, .val (.int i1), .val (.ref o2), .val (.int i3), .val (.int i4), .val (.int w2)]) (os4_23 hs5) ?_
  show Steps p.tables e below (T0.setTop (mkF m 25 #[s0, .val (.int i1), .val (.ref o2), .val (.int i3), .val (.int i4), .val (.int w2)] [])) _
  refine XS.iloadN X0.here hx rfl (hb hby d4_25) rfl ?_
  show Steps p.tables e below (T0.setTop (mkF m 26 #[s0, .val (.int i1), .val (.ref o2), .val (.int i3), .val (.int i4), .val (.int w2)] [(.int i1)])) _
  refine XS.ifNo X0.here hx rfl (hb hby d4_26) rfl ((if0 _ _).trans (teq hc26).2) ?_
  show Steps p.tables e below (T0.setTop (mkF m 29 #[s0, .val (.int i1), .val (.ref o2), .val (.int i3), .val (.int i4), .val (.int w2)] [])) _
  refine XS.iload X0.here hx rfl (hb hby d4_29) rfl ?_
  show Steps p.tables e below (T0.setTop (mkF m 31 #[s0, .val (.int i1), .val (.ref o2), .val (.int i3), .val (.int i4), .val (.int w2)] [(.int w2)])) _
  refine XS.iconst X0.here hx rfl (hb hby d4_31) ?_
  show Steps p.tables e below (T0.setTop (mkF m 32 #[s0, .val (.int i1), .val (.ref o2), .val (.int i3), .val (.int i4), .val (.int w2)] [(.int (1 : Int32)), (.int w2)])) _
  refine XS.icmpNo X0.here hx rfl (hb hby d4_32) rfl (teq hc32).2 ?_
  show Steps p.tables e below (T0.setTop (mkF m 35 #[s0, .val (.int i1), .val (.ref o2), .val (.int i3), .val (.int i4), .val (.int w2)] [])) _
  refine XS.iconst X0.here hx rfl (hb hby d4_35) ?_
  show Steps p.tables e below (T0.setTop (mkF m 36 #[s0, .val (.int i1), .val (.ref o2), .val (.int i3), .val (.int i4), .val (.int w2)] [(.int (1 : Int32))])) _
  refine XS.goto X0.here hx rfl (pc0 := 36) (pc' := 40) rfl (hb hby d4_36) (by decide) (by decide) ?_
  show Steps p.tables e below (T0.setTop (mkF m 40 #[s0, .val (.int i1), .val (.ref o2), .val (.int i3), .val (.int i4), .val (.int w2)] [(.int (1 : Int32))])) _
  refine XS.istoreN X0.here hx rfl (hb hby d4_40) rfl (l' := #[s0, .val (.int (1 : Int32)), .val (.ref o2), .val (.int i3), .val (.int i4), .val (.int w2)]) rfl ?_
  show Steps p.tables e below (T0.setTop (mkF m 41 #[s0, .val (.int (1 : Int32)), .val (.ref o2), .val (.int i3), .val (.int i4), .val (.int w2)] [])) _
  refine XS.iinc X0.here hx rfl (hb hby d4_41) rfl (l' := #[s0, .val (.int (1 : Int32)), .val (.ref o2), .val (.int i3), .val (.int (i4 + (1 : Int32))), .val (.int w2)]) rfl ?_
  show Steps p.tables e below (T0.setTop (mkF m 44 #[s0, .val (.int (1 : Int32)), .val (.ref o2), .val (.int i3), .val (.int (i4 + (1 : Int32))), .val (.int w2)] [])) _
  refine XS.goto X0.here hx rfl (pc0 := 44) (pc' := 13) rfl (hb hby d4_44) (by decide) (by decide) ?_
  exact kt
theorem d4_39 : decode prog_216_method_3_code 39 = .ok (.iconst 0, 1) := by decide +kernel
set_option maxRecDepth 65536 in
set_option maxHeartbeats 40000000 in
theorem tn4_fft {p : Program} {l : Launch} {e : Env} {R : Room} {s : State} {m : MethodId} {args : Array Value} {below : List Frame} {meth : Method} {c : Code} {T0 : State} {locs : List Loc} {cells slots : Nat} {Z : State} {a0 : Array Value} {h0 : Heap} (s0 : Slot) (i1 : Int32) (o2 : Addr) (i3 : Int32) (i4 : Int32) (s5 : Slot) (w2 : Int32) (cl_o2 : Cell)
    (X0 : Stand p l e R s m args below meth c T0 locs cells slots) (hx : p.tables.exec = Jvm.exec) (hZ : Z.Warmed39 s.vm) (hw : ∀ d ∈ tables_1, d.before a0 Z = true) (hby : c.code = prog_216_method_3_code) (hml : c.maxLocals = 6) (hown : s.vm.findClass "com/example/tendril/tendril/WireColumns$Formats" = some m.cls) (e0 : T0.heap = h0) (Ar_o2 : Arr Z h0 o2 cl_o2 .int) (hin22 : ¬ (i4 < 0 ∨ cl_o2.slots.size ≤ (i4).toNatClampNeg)) (hat22 : cl_o2.slots[(i4).toNatClampNeg]? = some (.int w2)) (hs5 : One s5) (hc16 : i4 < i3) (hc26 : i1 = (0 : Int32)) (hc32 : ¬ (w2 = (1 : Int32))) :
    ∃ (T' : State), Stand p l e R s m args below meth c T' locs cells slots ∧ T'.heap = h0 ∧
      ∀ target, Steps p.tables e below (T'.setTop (mkF m 13 #[s0, .val (.int (0 : Int32)), .val (.ref o2), .val (.int i3), .val (.int (i4 + (1 : Int32))), .val (.int w2)] [])) target → Steps p.tables e below (T0.setTop (mkF m 13 #[s0, .val (.int i1), .val (.ref o2), .val (.int i3), .val (.int i4), s5] [])) target := by

  refine ⟨T0, X0, e0, fun target kt => ?_⟩
  show Steps p.tables e below (T0.setTop (mkF m 13 #[s0, .val (.int i1), .val (.ref o2), .val (.int i3), .val (.int i4), s5] [])) _
  refine XS.iload X0.here hx rfl (hb hby d4_13) rfl ?_
  show Steps p.tables e below (T0.setTop (mkF m 15 #[s0, .val (.int i1), .val (.ref o2), .val (.int i3), .val (.int i4), s5] [(.int i4)])) _
  refine XS.iloadN X0.here hx rfl (hb hby d4_15) rfl ?_
  show Steps p.tables e below (T0.setTop (mkF m 16 #[s0, .val (.int i1), .val (.ref o2), .val (.int i3), .val (.int i4), s5] [(.int i3), (.int i4)])) _
  refine XS.icmpNo X0.here hx rfl (hb hby d4_16) rfl (tlt hc16).2.1 ?_
  show Steps p.tables e below (T0.setTop (mkF m 19 #[s0, .val (.int i1), .val (.ref o2), .val (.int i3), .val (.int i4), s5] [])) _
  refine XS.aloadN X0.here hx rfl (hb hby d4_19) rfl rfl ?_
  show Steps p.tables e below (T0.setTop (mkF m 20 #[s0, .val (.int i1), .val (.ref o2), .val (.int i3), .val (.int i4), s5] [(.ref o2)])) _
  refine XS.iload X0.here hx rfl (hb hby d4_20) rfl ?_
  show Steps p.tables e below (T0.setTop (mkF m 22 #[s0, .val (.int i1), .val (.ref o2), .val (.int i3), .val (.int i4), s5] [(.int i4), (.ref o2)])) _
  refine X0.iaload hx (j := i4) (v := (.int w2)) (by rw [e0]; exact Ar_o2.1) (State.isArrayOf_alike hZ.alike Ar_o2.2.1) Ar_o2.2.2 hin22 hat22 (g := (mkF m 22 #[s0, .val (.int i1), .val (.ref o2), .val (.int i3), .val (.int i4), s5] [(.int i4), (.ref o2)])) rfl rfl (hb hby d4_22) _ ?_
  show Steps p.tables e below (T0.setTop (mkF m 23 #[s0, .val (.int i1), .val (.ref o2), .val (.int i3), .val (.int i4), s5] [(.int w2)])) _
  refine XS.istore X0.here hx rfl (hb hby d4_23) rfl (l' := #[s0, .val (.int i1), .val (.ref o2), .val (.int i3), .val (.int i4), .val (.int w2)]) (os4_23 hs5) ?_
  show Steps p.tables e below (T0.setTop (mkF m 25 #[s0, .val (.int i1), .val (.ref o2), .val (.int i3), .val (.int i4), .val (.int w2)] [])) _
  refine XS.iloadN X0.here hx rfl (hb hby d4_25) rfl ?_
  show Steps p.tables e below (T0.setTop (mkF m 26 #[s0, .val (.int i1), .val (.ref o2), .val (.int i3), .val (.int i4), .val (.int w2)] [(.int i1)])) _
  refine XS.ifNo X0.here hx rfl (hb hby d4_26) rfl ((if0 _ _).trans (teq hc26).2) ?_
  show Steps p.tables e below (T0.setTop (mkF m 29 #[s0, .val (.int i1), .val (.ref o2), .val (.int i3), .val (.int i4), .val (.int w2)] [])) _
  refine XS.iload X0.here hx rfl (hb hby d4_29) rfl ?_
  show Steps p.tables e below (T0.setTop (mkF m 31 #[s0, .val (.int i1), .val (.ref o2), .val (.int i3), .val (.int i4), .val (.int w2)] [(.int w2)])) _
  refine XS.iconst X0.here hx rfl (hb hby d4_31) ?_
  show Steps p.tables e below (T0.setTop (mkF m 32 #[s0, .val (.int i1), .val (.ref o2), .val (.int i3), .val (.int i4), .val (.int w2)] [(.int (1 : Int32)), (.int w2)])) _
  refine XS.icmpYes X0.here hx rfl (pc0 := 32) (pc' := 39) rfl (hb hby d4_32) rfl (feq hc32).2 (by decide) (by decide) ?_
  show Steps p.tables e below (T0.setTop (mkF m 39 #[s0, .val (.int i1), .val (.ref o2), .val (.int i3), .val (.int i4), .val (.int w2)] [])) _
  refine XS.iconst X0.here hx rfl (hb hby d4_39) ?_
  show Steps p.tables e below (T0.setTop (mkF m 40 #[s0, .val (.int i1), .val (.ref o2), .val (.int i3), .val (.int i4), .val (.int w2)] [(.int (0 : Int32))])) _
  refine XS.istoreN X0.here hx rfl (hb hby d4_40) rfl (l' := #[s0, .val (.int (0 : Int32)), .val (.ref o2), .val (.int i3), .val (.int i4), .val (.int w2)]) rfl ?_
  show Steps p.tables e below (T0.setTop (mkF m 41 #[s0, .val (.int (0 : Int32)), .val (.ref o2), .val (.int i3), .val (.int i4), .val (.int w2)] [])) _
  refine XS.iinc X0.here hx rfl (hb hby d4_41) rfl (l' := #[s0, .val (.int (0 : Int32)), .val (.ref o2), .val (.int i3), .val (.int (i4 + (1 : Int32))), .val (.int w2)]) rfl ?_
  show Steps p.tables e below (T0.setTop (mkF m 44 #[s0, .val (.int (0 : Int32)), .val (.ref o2), .val (.int i3), .val (.int (i4 + (1 : Int32))), .val (.int w2)] [])) _
  refine XS.goto X0.here hx rfl (pc0 := 44) (pc' := 13) rfl (hb hby d4_44) (by decide) (by decide) ?_
  exact kt
set_option maxRecDepth 65536 in
set_option maxHeartbeats 40000000 in
theorem tn4_13_47 {p : Program} {l : Launch} {e : Env} {R : Room} {s : State} {m : MethodId} {args : Array Value} {below : List Frame} {meth : Method} {c : Code} {T0 : State} {locs : List Loc} {cells slots : Nat} {Z : State} {a0 : Array Value} {h0 : Heap} (s0 : Slot) (s1 : Slot) (s2 : Slot) (i3 : Int32) (i4 : Int32) (s5 : Slot)
    (X0 : Stand p l e R s m args below meth c T0 locs cells slots) (hx : p.tables.exec = Jvm.exec) (hZ : Z.Warmed39 s.vm) (hw : ∀ d ∈ tables_1, d.before a0 Z = true) (hby : c.code = prog_216_method_3_code) (hml : c.maxLocals = 6) (hown : s.vm.findClass "com/example/tendril/tendril/WireColumns$Formats" = some m.cls) (e0 : T0.heap = h0) (hc16 : ¬ (i4 < i3)) :
    ∃ (T' : State), Stand p l e R s m args below meth c T' locs cells slots ∧ T'.heap = h0 ∧
      ∀ target, Steps p.tables e below (T'.setTop (mkF m 47 #[s0, s1, s2, .val (.int i3), .val (.int i4), s5] [])) target → Steps p.tables e below (T0.setTop (mkF m 13 #[s0, s1, s2, .val (.int i3), .val (.int i4), s5] [])) target := by

  refine ⟨T0, X0, e0, fun target kt => ?_⟩
  show Steps p.tables e below (T0.setTop (mkF m 13 #[s0, s1, s2, .val (.int i3), .val (.int i4), s5] [])) _
  refine XS.iload X0.here hx rfl (hb hby d4_13) rfl ?_
  show Steps p.tables e below (T0.setTop (mkF m 15 #[s0, s1, s2, .val (.int i3), .val (.int i4), s5] [(.int i4)])) _
  refine XS.iloadN X0.here hx rfl (hb hby d4_15) rfl ?_
  show Steps p.tables e below (T0.setTop (mkF m 16 #[s0, s1, s2, .val (.int i3), .val (.int i4), s5] [(.int i3), (.int i4)])) _
  refine XS.icmpYes X0.here hx rfl (pc0 := 16) (pc' := 47) rfl (hb hby d4_16) rfl (flt hc16).2.1 (by decide) (by decide) ?_
  exact kt
set_option maxRecDepth 65536 in
theorem loop4 {p : Program} {l : Launch} {e : Env} {R : Room} {s : State} {m : MethodId} {args : Array Value} {below : List Frame} {meth : Method} {c : Code} {cells slots : Nat} {Z : State} {a0 : Array Value} {h0 : Heap} {locs : List Loc} (s0 : Slot) (o2 : Addr) (cl : Cell) (N : Nat) (f : Nat → Int32) (hN : N < 18) (hx : p.tables.exec = Jvm.exec) (hZ : Z.Warmed39 s.vm) (hw : ∀ d ∈ tables_1, d.before a0 Z = true) (hby : c.code = prog_216_method_3_code) (hml : c.maxLocals = 6) (hown : s.vm.findClass "com/example/tendril/tendril/WireColumns$Formats" = some m.cls) (A : Arr Z h0 o2 cl .int) (Sz : cl.slots.size = N) (H : ∀ j, j < N → cl.slots[j]? = some (.int (f j))) :
    ∀ (k i : Nat) (a : Int32) (s5 : Slot) (T0 : State), i + k = N → One s5 → Stand p l e R s m args below meth c T0 locs cells slots → T0.heap = h0 →
      ∃ (T' : State) (s5' : Slot), Stand p l e R s m args below meth c T' locs cells slots ∧ T'.heap = h0 ∧
        ∀ target, Steps p.tables e below (T'.setTop (mkF m 47 #[s0, .val (.int (own_anyf f k i a)), .val (.ref o2), .val (.int (Int32.ofNat N)), .val (.int (Int32.ofNat N)), s5'] [])) target → Steps p.tables e below (T0.setTop (mkF m 13 #[s0, .val (.int a), .val (.ref o2), .val (.int (Int32.ofNat N)), .val (.int (Int32.ofNat i)), s5] [])) target := by
  intro k
  induction k with
  | zero =>
    intro i a s5 T0 hik h5 X e0
    obtain rfl : i = N := by omega
    obtain ⟨T1, X1, e1, st1⟩ := tn4_13_47 s0 (.val (.int a)) (.val (.ref o2)) (Int32.ofNat i) (Int32.ofNat i) s5 X hx hZ hw hby hml hown e0 (fun q => absurd ((own_lt (by omega) (by omega)).mp q) (by omega))
    exact ⟨T1, s5, X1, e1, st1⟩
  | succ k ih =>
    intro i a s5 T0 hik h5 X e0
    have hcl : (Int32.ofNat i).toNatClampNeg = i := own_clamp (by omega)
    have hin : ¬ (Int32.ofNat i < 0 ∨ cl.slots.size ≤ (Int32.ofNat i).toNatClampNeg) := by
      rw [hcl, Sz]
      rintro (q | q)
      · exact own_nneg (by omega) q
      · omega
    have hat : cl.slots[(Int32.ofNat i).toNatClampNeg]? = some (.int (f i)) := by rw [hcl]; exact H i (by omega)
    have hlt : Int32.ofNat i < Int32.ofNat N := (own_lt (by omega) (by omega)).mpr (by omega)
    have turn : ∃ (T' : State), Stand p l e R s m args below meth c T' locs cells slots ∧ T'.heap = h0 ∧
        ∀ target, Steps p.tables e below (T'.setTop (mkF m 13 #[s0, .val (.int (own_or a (f i))), .val (.ref o2), .val (.int (Int32.ofNat N)), .val (.int (Int32.ofNat i + (1 : Int32))), .val (.int (f i))] [])) target → Steps p.tables e below (T0.setTop (mkF m 13 #[s0, .val (.int a), .val (.ref o2), .val (.int (Int32.ofNat N)), .val (.int (Int32.ofNat i)), s5] [])) target := by
      by_cases ha : a = 0
      · by_cases hf : f i = 1
        · rw [show own_or a (f i) = (1 : Int32) by simp [own_or, ha, hf]]
          exact tn4_fff s0 a o2 (Int32.ofNat N) (Int32.ofNat i) s5 (f i) cl X hx hZ hw hby hml hown e0 A hin hat h5 hlt ha hf
        · rw [show own_or a (f i) = (0 : Int32) by simp [own_or, ha, hf]]
          exact tn4_fft s0 a o2 (Int32.ofNat N) (Int32.ofNat i) s5 (f i) cl X hx hZ hw hby hml hown e0 A hin hat h5 hlt ha hf
      · rw [show own_or a (f i) = (1 : Int32) by simp [own_or, ha]]
        exact tn4_ft s0 a o2 (Int32.ofNat N) (Int32.ofNat i) s5 (f i) cl X hx hZ hw hby hml hown e0 A hin hat h5 hlt ha
    obtain ⟨T1, X1, e1, st1⟩ := turn
    obtain ⟨T2, s5', X2, e2, st2⟩ := ih (i + 1) (own_or a (f i)) (.val (.int (f i))) T1 (by omega) (One.val rfl) X1 e1
    refine ⟨T2, s5', X2, e2, fun target kt => st1 target ?_⟩
    rw [own_one]
    exact st2 target kt
theorem d4_0 : decode prog_216_method_3_code 0 = .ok (.iconst 0, 1) := by decide +kernel
theorem d4_1 : decode prog_216_method_3_code 1 = .ok (.istore_n 1, 1) := by decide +kernel
theorem d4_2 : decode prog_216_method_3_code 2 = .ok (.aload_n 0, 1) := by decide +kernel
theorem d4_3 : decode prog_216_method_3_code 3 = .ok (.getfield 15, 3) := by decide +kernel
theorem d4_6 : decode prog_216_method_3_code 6 = .ok (.astore_n 2, 1) := by decide +kernel
theorem d4_7 : decode prog_216_method_3_code 7 = .ok (.aload_n 2, 1) := by decide +kernel
theorem d4_8 : decode prog_216_method_3_code 8 = .ok (.arraylength, 1) := by decide +kernel
theorem d4_9 : decode prog_216_method_3_code 9 = .ok (.istore_n 3, 1) := by decide +kernel
theorem d4_10 : decode prog_216_method_3_code 10 = .ok (.iconst 0, 1) := by decide +kernel
theorem d4_11 : decode prog_216_method_3_code 11 = .ok (.istore 4, 2) := by decide +kernel
theorem d4_47 : decode prog_216_method_3_code 47 = .ok (.iload_n 1, 1) := by decide +kernel
theorem d4_48 : decode prog_216_method_3_code 48 = .ok (.ireturn, 1) := by decide +kernel
theorem pn_4 : plainName "com/example/tendril/tendril/WireColumns$Formats" = true := by first | (simp [plainName, overriddenIn]; done) | decide +kernel
theorem ef_4 (m : MethodId) (x0 : Addr) : entryFrame m #[(.ref x0)] 6 = mkF m 0 #[.val (.ref x0), .unset, .unset, .unset, .unset, .unset] [] := by first | (simp [entryFrame, mkF, argsToLocals, Value.category]; done) | rfl
def Q4 (r : Int32) (h0 : Heap) (n0 : Nat) (v : Option Value) (h : Heap) (L : List Loc) : Prop := v = some (.int r) ∧ Fr n0 L ∧ h = h0
set_option maxRecDepth 65536 in
set_option maxHeartbeats 40000000 in
theorem rm4 (l : Launch) (Z : State) (a0 : Array Value) (hw : ∀ d ∈ tables_1, d.before a0 Z = true) (ws : List Jvm.Cond) (a1 : Addr) (w2 : Addr) (cl_w2 : Cell) (N : Nat) (f : Nat → Int32) (h0 : Heap) (n0 : Nat) (Z0 : n0 ≤ h0.size) (F_codes_a1 : Fld Z h0 a1 "com/example/tendril/tendril/WireColumns$Formats" "codes" "[I" (.ref w2)) (Ar_w2 : Arr Z h0 w2 cl_w2 .int) (Sz : cl_w2.slots.size = N) (H : ∀ j, j < N → cl_w2.slots[j]? = some (.int (f j))) (hN : N < 18) :
    MetFree l (⟨"com/example/tendril/tendril/WireColumns$Formats", "anyBinary", "()Z"⟩ : MethodName) (head1 (Jvm.Cond.code (⟨"com/example/tendril/tendril/WireColumns$Formats", "anyBinary", "()Z"⟩ : MethodName) prog_216_method_3_code 6 (some .boolean) :: ws) ({ frames := 0, cells := 0, slots := 0, locals := 0 } : Room)) (fun a U => a = #[(.ref a1)] ∧ Z.Warmed39 U.vm ∧ U.heap = h0) (fun _ _ _ _ _ => True) (fun _ U o U' => ∃ v L, o = .returned v ∧ Q4 (own_anyf f N 0 0) h0 n0 v U'.heap L ∧ FrameEnd U o U' L ({ frames := 0, cells := 0, slots := 0, locals := 0 } : Room).cells ({ frames := 0, cells := 0, slots := 0, locals := 0 } : Room).slots) := by
  refine MetFree.of_bodySF (plainFor_of_name pn_4) hisR ?_
  intro p e s m args below meth c s₁ Bd hml0 hP hK
  obtain ⟨rfl, hZ, hh⟩ := hP
  have S_w2 : cl_w2.slots.size = (Int32.ofNat N).toNatClampNeg := by rw [own_clamp (by omega)]; exact Sz
  have N_w2 : ¬ Int32.ofNat N < 0 := own_nneg (by omega)
  have hx := Bd.exec
  have hby := Bd.bytes
  have hml : c.maxLocals = 6 := hml0
  have hown : s.vm.findClass "com/example/tendril/tendril/WireColumns$Formats" = some m.cls := findClass_of_methodNamed Bd.named
  have hnm := (name_of_methodNamed Bd.named Bd.method).1
  have X0 : Stand p l e ({ frames := 0, cells := 0, slots := 0, locals := 0 } : Room) s m #[(.ref a1)] below meth c s₁ [] 0 0 := Stand.of_body Bd
  have e0 : s₁.heap = h0 := by rw [← hh, Bd.state]; rfl
  have N0 := Fr.nil n0
  have pre0 : ∀ t, Steps p.tables e below (s₁.setTop (mkF m 0 #[.val (.ref a1), .unset, .unset, .unset, .unset, .unset] [])) t → Steps p.tables e below (s₁.setTop (entryFrame m #[(.ref a1)] 6)) t := fun t k => castTop (ef_4 m a1) k
  obtain ⟨T3, X3, e3, st3⟩ := getF X0 hx hZ hown (host := "") (Or.inl (hw _ (List.mem_of_getElem? (i := 20) rfl))) Via.refl e0 F_codes_a1 (g := (mkF m 3 #[.val (.ref a1), .val (.int (0 : Int32)), .unset, .unset, .unset, .unset] [(.ref a1)])) rfl rfl (hb hby d4_3)
  obtain ⟨TL, sL, XL, eL, stL⟩ := loop4 (.val (.ref a1)) w2 cl_w2 N f hN hx hZ hw hby hml hown Ar_w2 Sz H N 0 0 .unset T3 (by omega) One.u X3 e3
  obtain ⟨fs, hr, hrun, hended, hW, hsame⟩ := XL.leave (v := some (.int (nar .boolean (own_anyf f N 0 0)))) (fun h => by rw [Bd.returns] at h; cases h)
  refine ⟨_, _, pre0 _ ?_, hrun, hended, _, _, rfl, ?_, ⟨_, rfl⟩, hW, hsame.mono (by decide) (by decide)⟩
  · show Steps p.tables e below (s₁.setTop (mkF m 0 #[.val (.ref a1), .unset, .unset, .unset, .unset, .unset] [])) _
    refine XS.iconst X0.here hx rfl (hb hby d4_0) ?_
    show Steps p.tables e below (s₁.setTop (mkF m 1 #[.val (.ref a1), .unset, .unset, .unset, .unset, .unset] [(.int (0 : Int32))])) _
    refine XS.istoreN X0.here hx rfl (hb hby d4_1) rfl (l' := #[.val (.ref a1), .val (.int (0 : Int32)), .unset, .unset, .unset, .unset]) rfl ?_
    show Steps p.tables e below (s₁.setTop (mkF m 2 #[.val (.ref a1), .val (.int (0 : Int32)), .unset, .unset, .unset, .unset] [])) _
    refine XS.aloadN X0.here hx rfl (hb hby d4_2) rfl rfl ?_
    show Steps p.tables e below (s₁.setTop (mkF m 3 #[.val (.ref a1), .val (.int (0 : Int32)), .unset, .unset, .unset, .unset] [(.ref a1)])) _
    refine st3 _ ?_
    show Steps p.tables e below (T3.setTop (mkF m 6 #[.val (.ref a1), .val (.int (0 : Int32)), .unset, .unset, .unset, .unset] [(.ref w2)])) _
    refine XS.astoreN X3.here hx rfl (hb hby d4_6) rfl rfl (l' := #[.val (.ref a1), .val (.int (0 : Int32)), .val (.ref w2), .unset, .unset, .unset]) rfl ?_
    show Steps p.tables e below (T3.setTop (mkF m 7 #[.val (.ref a1), .val (.int (0 : Int32)), .val (.ref w2), .unset, .unset, .unset] [])) _
    refine XS.aloadN X3.here hx rfl (hb hby d4_7) rfl rfl ?_
    show Steps p.tables e below (T3.setTop (mkF m 8 #[.val (.ref a1), .val (.int (0 : Int32)), .val (.ref w2), .unset, .unset, .unset] [(.ref w2)])) _
    refine X3.arraylength hx (by rw [e3]; exact Ar_w2.1) (State.isArrayOf_alike hZ.alike Ar_w2.2.1) (g := (mkF m 8 #[.val (.ref a1), .val (.int (0 : Int32)), .val (.ref w2), .unset, .unset, .unset] [(.ref w2)])) rfl rfl (hb hby d4_8) _ ?_
    rw [len_of S_w2 N_w2]
    show Steps p.tables e below (T3.setTop (mkF m 9 #[.val (.ref a1), .val (.int (0 : Int32)), .val (.ref w2), .unset, .unset, .unset] [(.int (Int32.ofNat N))])) _
    refine XS.istoreN X3.here hx rfl (hb hby d4_9) rfl (l' := #[.val (.ref a1), .val (.int (0 : Int32)), .val (.ref w2), .val (.int (Int32.ofNat N)), .unset, .unset]) rfl ?_
    show Steps p.tables e below (T3.setTop (mkF m 10 #[.val (.ref a1), .val (.int (0 : Int32)), .val (.ref w2), .val (.int (Int32.ofNat N)), .unset, .unset] [])) _
    refine XS.iconst X3.here hx rfl (hb hby d4_10) ?_
    show Steps p.tables e below (T3.setTop (mkF m 11 #[.val (.ref a1), .val (.int (0 : Int32)), .val (.ref w2), .val (.int (Int32.ofNat N)), .unset, .unset] [(.int (0 : Int32))])) _
    refine XS.istore X3.here hx rfl (hb hby d4_11) rfl (l' := #[.val (.ref a1), .val (.int (0 : Int32)), .val (.ref w2), .val (.int (Int32.ofNat N)), .val (.int (0 : Int32)), .unset]) rfl ?_
    show Steps p.tables e below (T3.setTop (mkF m 13 #[.val (.ref a1), .val (.int (0 : Int32)), .val (.ref w2), .val (.int (Int32.ofNat N)), .val (.int (0 : Int32)), .unset] [])) _
    refine stL _ ?_
    refine XS.iloadN XL.here hx rfl (hb hby d4_47) rfl ?_
    exact retN XL hx (t := .boolean) Bd.returns (by simp) (hb hby d4_48) hr
  · show Q4 (own_anyf f N 0 0) h0 n0 _ TL.heap _
    rw [eL]
    refine ⟨?_, N0, rfl⟩
    rcases own_any01 f N 0 0 (Or.inl rfl) with q | q <;> rw [q] <;> rfl
theorem pn_0 : plainName "com/example/tendril/tendril/FormatsAnyBinaryPinLaw" = true := by first | (simp [plainName, overriddenIn]; done) | decide +kernel
theorem pd_0_0 : parseMethodDescriptor "([I)V" = some ⟨[(.array .int)], none⟩ := by decide +kernel
theorem pd_0_3 : parseMethodDescriptor "(III)Z" = some ⟨[.int, .int, .int], some .boolean⟩ := by decide +kernel
theorem pd_0_4 : parseMethodDescriptor "()Z" = some ⟨[], some .boolean⟩ := by decide +kernel
theorem ef_0 (m : MethodId) (x0 : Int32) (x1 : Int32) (x2 : Int32) (x3 : Int32) (x4 : Int32) : entryFrame m #[(.int x0), (.int x1), (.int x2), (.int x3), (.int x4)] maxLocals = mkF m 0 #[.val (.int x0), .val (.int x1), .val (.int x2), .val (.int x3), .val (.int x4), .unset, .unset, .unset, .unset, .unset, .unset, .unset] [] := by first | (simp [entryFrame, mkF, argsToLocals, Value.category, maxLocals]; done) | rfl
def Q0_00 (Z : State) (p1 : Int32) (p2 : Int32) (p3 : Int32) (p4 : Int32) (p5 : Int32) (h0 : Heap) (n0 : Nat) (v : Option Value) (h : Heap) (L : List Loc) : Prop := v = some (.int (1 : Int32)) ∧ Fr n0 L
set_option maxRecDepth 65536 in
set_option maxHeartbeats 40000000 in
theorem rm0_00 (l : Launch) (Z : State) (a0 : Array Value) (hw : ∀ d ∈ tables_1, d.before a0 Z = true) (ws : List Jvm.Cond) (p1 : Int32) (p2 : Int32) (p3 : Int32) (p4 : Int32) (p5 : Int32) (h0 : Heap) (n0 : Nat) (Z0 : n0 ≤ h0.size) (hp5 : ((p1 &&& (2147483647 : Int32)) % (5 : Int32)) = (0 : Int32)) :
    MetFree l x (head1 (Jvm.Cond.code x code maxLocals ret :: ws) room_1) (fun a U => a = #[(.int p1), (.int p2), (.int p3), (.int p4), (.int p5)] ∧ Z.Warmed39 U.vm ∧ U.heap = h0) (fun _ _ _ _ _ => True) (fun _ U o U' => ∃ v L, o = .returned v ∧ Q0_00 Z p1 p2 p3 p4 p5 h0 n0 v U'.heap L ∧ FrameEnd U o U' L room_1.cells room_1.slots) := by
  refine MetFree.of_bodySF (plainFor_of_name pn_0) hisR ?_
  intro p e s m args below meth c s₁ Bd hml0 hP hK
  obtain ⟨rfl, hZ, hh⟩ := hP
  have own_ok : (own_anyf (own_at []) 0 0 0) = (0 : Int32) := by
    simp [own_anyf, own_or, own_at]
  have hx := Bd.exec
  have hby := Bd.bytes
  have hml : c.maxLocals = 12 := hml0
  have hown : s.vm.findClass "com/example/tendril/tendril/FormatsAnyBinaryPinLaw" = some m.cls := findClass_of_methodNamed Bd.named
  have hnm := (name_of_methodNamed Bd.named Bd.method).1
  have X0 : Stand p l e room_1 s m #[(.int p1), (.int p2), (.int p3), (.int p4), (.int p5)] below meth c s₁ [] 0 0 := Stand.of_body Bd
  have e0 : s₁.heap = h0 := by rw [← hh, Bd.state]; rfl
  have N0 := Fr.nil n0
  have pre0 : ∀ t, Steps p.tables e below (s₁.setTop (mkF m 0 #[.val (.int p1), .val (.int p2), .val (.int p3), .val (.int p4), .val (.int p5), .unset, .unset, .unset, .unset, .unset, .unset, .unset] [])) t → Steps p.tables e below (s₁.setTop (entryFrame m #[(.int p1), (.int p2), (.int p3), (.int p4), (.int p5)] maxLocals)) t := fun t k => castTop (ef_0 m p1 p2 p3 p4 p5) k
  obtain ⟨T6, h6, k6, X6, e6, E6, A6, Ea6, st6⟩ := newPE X0 hx hZ (hw _ (List.mem_of_getElem? (i := 1) rfl)) e0 (g := (mkF m 10 #[.val (.int p1), .val (.int p2), .val (.int p3), .val (.int p4), .val (.int p5), .val (.int (0 : Int32)), .unset, .unset, .unset, .unset, .unset, .unset] [(.int (0 : Int32))])) rfl (hb hby at_10) rfl (by decide) (cap := 0) (by decide) (by decide) (by decide) (by decide) (ad := "[I") rfl
  obtain ⟨b6, g6⟩ : ∃ z, z = h0.size := ⟨_, rfl⟩
  rw [← g6] at A6 Ea6 st6
  have V_b6 := Arv.new A6 (by decide)
  have g_b6 : n0 ≤ b6 := Nat.le_trans Z0 (Nat.le_of_eq g6.symm)
  have sz_b6 : h0.size ≤ b6 := (Nat.le_trans (Keep.refl h0 []).1 (Nat.le_of_eq g6.symm))
  have K6 : Keep h0 h6 [] := (Keep.refl h0 []).ext E6
  obtain ⟨T7, h7, X7, e7, E7, A7, D7, -, st7⟩ := newO X6 hx hZ hown (hw _ (List.mem_of_getElem? (i := 2) rfl)) (hw _ (List.mem_of_getElem? (i := 3) rfl)) (hw _ (List.mem_of_getElem? (i := 4) rfl)) e6 (g := (mkF m 58 #[.val (.int p1), .val (.int p2), .val (.int p3), .val (.int p4), .val (.int p5), .val (.int (0 : Int32)), .val (.ref b6), .unset, .unset, .unset, .unset, .unset] [])) rfl (hb hby at_58) (by decide) (by decide)
  obtain ⟨b7, g7⟩ : ∃ z, z = h6.size := ⟨_, rfl⟩
  rw [← g7] at A7 D7 st7
  have F_codes_b7 : Fld Z h7 b7 "com/example/tendril/tendril/WireColumns$Formats" "codes" "[I" .null := D7 (Or.inr (hw _ (List.mem_of_getElem? (i := 21) rfl))) (ty := (.array .int)) (by decide)
  have E_b7 := A7
  have g_b7 : n0 ≤ b7 := Nat.le_trans (Nat.le_trans Z0 E6.1) (Nat.le_of_eq g7.symm)
  have sz_b7 : h0.size ≤ b7 := (Nat.le_trans K6.1 (Nat.le_of_eq g7.symm))
  have K7 : Keep h0 h7 [] := K6.ext E7
  obtain ⟨_, _, ⟨T8, L8, k8, n8⟩, -, X8, ⟨Lc8, hQ8, l8, y8, z8⟩, st8⟩ := X7.specialBack hx (y := (⟨"com/example/tendril/tendril/WireColumns$Formats", "<init>", "([I)V"⟩ : MethodName)) rfl hown (mvT hZ (hw _ (List.mem_of_getElem? (i := 5) rfl))) (mvT hZ (hw _ (List.mem_of_getElem? (i := 6) rfl))) (mvT hZ (hw _ (List.mem_of_getElem? (i := 7) rfl))) (by decide) (backOf (W := 1) (rm1 l Z a0 hw [] b7 b6 .null _ _ _ _ h7 n0 (Nat.le_trans Z0 K7.1) (Ea6.ext E7) (V_b6.ext E7) (by decide) E_b7 F_codes_b7 g_b7) hZ (hw _ (List.mem_of_getElem? (i := 7) rfl)) (hw _ (List.mem_of_getElem? (i := 4) rfl)) (by decide) (by decide)) (g := (mkF m 64 #[.val (.int p1), .val (.int p2), .val (.int p3), .val (.int p4), .val (.int p5), .val (.int (0 : Int32)), .val (.ref b6), .unset, .unset, .unset, .unset, .unset] [(.ref b6), (.ref b7), (.ref b7)])) rfl (by rw [hml]; rfl) (Steps.refl _) (a := b7) (argsL := [(.ref b6)]) (rest := [(.ref b7)]) (lenOf pd_0_0 rfl) rfl (by show 2 * 0 + _ ≤ _; exact Nat.le_of_eq rfl) (hb hby at_64) (fun _ _ => ⟨rfl, e7, (Nat.le_of_ble_eq_true rfl), (Nat.le_of_ble_eq_true rfl)⟩)
  dsimp only [Pt.U, Pt.locs, Pt.cells, Pt.slots] at X8 l8 y8 z8 st8 hQ8
  subst l8 y8 z8
  obtain ⟨rfl, N8q, K8c, E8c, bC, szC, FC, VC⟩ := hQ8
  have ne_ao : b6 ≠ b7 := Nat.ne_of_lt (Nat.lt_of_lt_of_le V_b6.lt (Nat.le_of_eq g7.symm))
  have ne_Ca : bC ≠ b6 := Ne.symm (Nat.ne_of_lt (Nat.lt_of_lt_of_le (V_b6.ext E7).lt szC))
  have K8 : Keep h0 T8.heap [] := K7.trans K8c (allS (Or.inr sz_b7) all0)
  have N8 := Fr.app N0 N8q
  obtain ⟨_, _, ⟨T9, L9, k9, n9⟩, -, X9, ⟨Lc9, hQ9, l9, y9, z9⟩, st9⟩ := Jvm.LawKit.callS X8 hx (y := (⟨"com/example/tendril/tendril/FormatsAnyBinaryPinLaw", "hit", "(III)Z"⟩ : MethodName)) hown (mvT hZ (hw _ (List.mem_of_getElem? (i := 22) rfl))) (mvT hZ (hw _ (List.mem_of_getElem? (i := 23) rfl))) (mvT hZ (hw _ (List.mem_of_getElem? (i := 24) rfl))) (mvT hZ (hw _ (List.mem_of_getElem? (i := 25) rfl))) (by decide) (backOf (W := 0) (rm3t l Z a0 hw [] (0 : Int32) (0 : Int32) p2 T8.heap n0 (Nat.le_trans Z0 K8.1) (by decide)) hZ (hw _ (List.mem_of_getElem? (i := 25) rfl)) (hw _ (List.mem_of_getElem? (i := 24) rfl)) (by decide) (by decide)) (g := (mkF m 73 #[.val (.int p1), .val (.int p2), .val (.int p3), .val (.int p4), .val (.int p5), .val (.int (0 : Int32)), .val (.ref b6), .val (.ref b7), .unset, .unset, .unset, .unset] [(.int p2), (.int (0 : Int32)), (.int (0 : Int32))])) rfl (by rw [hml]; rfl) (argsL := [(.int (0 : Int32)), (.int (0 : Int32)), (.int p2)]) (rest := []) (lenOf pd_0_3 rfl) rfl (by show 2 * 0 + _ ≤ _; exact Nat.le_of_eq rfl) (hb hby at_73) (fun _ _ => ⟨rfl, rfl, (Nat.le_of_ble_eq_true rfl), (Nat.le_of_ble_eq_true rfl)⟩)
  dsimp only [Pt.U, Pt.locs, Pt.cells, Pt.slots] at X9 l9 y9 z9 st9 hQ9
  subst l9 y9 z9
  obtain ⟨rfl, N9q, e9⟩ := hQ9
  have K9 : Keep h0 T9.heap [] := K8.trans (own_keq e9) all0
  have N9 := Fr.app N8 N9q
  obtain ⟨_, _, ⟨T10, L10, k10, n10⟩, -, X10, ⟨Lc10, hQ10, l10, y10, z10⟩, st10⟩ := Jvm.LawKit.callS X9 hx (y := (⟨"com/example/tendril/tendril/FormatsAnyBinaryPinLaw", "hit", "(III)Z"⟩ : MethodName)) hown (mvT hZ (hw _ (List.mem_of_getElem? (i := 22) rfl))) (mvT hZ (hw _ (List.mem_of_getElem? (i := 23) rfl))) (mvT hZ (hw _ (List.mem_of_getElem? (i := 24) rfl))) (mvT hZ (hw _ (List.mem_of_getElem? (i := 25) rfl))) (by decide) (backOf (W := 0) (rm3t l Z a0 hw [] (0 : Int32) (1 : Int32) p3 T9.heap n0 (Nat.le_trans Z0 K9.1) (by decide)) hZ (hw _ (List.mem_of_getElem? (i := 25) rfl)) (hw _ (List.mem_of_getElem? (i := 24) rfl)) (by decide) (by decide)) (g := (mkF m 83 #[.val (.int p1), .val (.int p2), .val (.int p3), .val (.int p4), .val (.int p5), .val (.int (0 : Int32)), .val (.ref b6), .val (.ref b7), .unset, .unset, .unset, .unset] [(.int p3), (.int (1 : Int32)), (.int (0 : Int32))])) rfl (by rw [hml]; rfl) (argsL := [(.int (0 : Int32)), (.int (1 : Int32)), (.int p3)]) (rest := []) (lenOf pd_0_3 rfl) rfl (by show 2 * 0 + _ ≤ _; exact Nat.le_of_eq rfl) (hb hby at_83) (fun _ _ => ⟨rfl, rfl, (Nat.le_of_ble_eq_true rfl), (Nat.le_of_ble_eq_true rfl)⟩)
  dsimp only [Pt.U, Pt.locs, Pt.cells, Pt.slots] at X10 l10 y10 z10 st10 hQ10
  subst l10 y10 z10
  obtain ⟨rfl, N10q, e10⟩ := hQ10
  have K10 : Keep h0 T10.heap [] := K9.trans (own_keq e10) all0
  have N10 := Fr.app N9 N10q
  obtain ⟨_, _, ⟨T11, L11, k11, n11⟩, -, X11, ⟨Lc11, hQ11, l11, y11, z11⟩, st11⟩ := Jvm.LawKit.callS X10 hx (y := (⟨"com/example/tendril/tendril/FormatsAnyBinaryPinLaw", "hit", "(III)Z"⟩ : MethodName)) hown (mvT hZ (hw _ (List.mem_of_getElem? (i := 22) rfl))) (mvT hZ (hw _ (List.mem_of_getElem? (i := 23) rfl))) (mvT hZ (hw _ (List.mem_of_getElem? (i := 24) rfl))) (mvT hZ (hw _ (List.mem_of_getElem? (i := 25) rfl))) (by decide) (backOf (W := 0) (rm3t l Z a0 hw [] (0 : Int32) (2 : Int32) p4 T10.heap n0 (Nat.le_trans Z0 K10.1) (by decide)) hZ (hw _ (List.mem_of_getElem? (i := 25) rfl)) (hw _ (List.mem_of_getElem? (i := 24) rfl)) (by decide) (by decide)) (g := (mkF m 93 #[.val (.int p1), .val (.int p2), .val (.int p3), .val (.int p4), .val (.int p5), .val (.int (0 : Int32)), .val (.ref b6), .val (.ref b7), .unset, .unset, .unset, .unset] [(.int p4), (.int (2 : Int32)), (.int (0 : Int32))])) rfl (by rw [hml]; rfl) (argsL := [(.int (0 : Int32)), (.int (2 : Int32)), (.int p4)]) (rest := []) (lenOf pd_0_3 rfl) rfl (by show 2 * 0 + _ ≤ _; exact Nat.le_of_eq rfl) (hb hby at_93) (fun _ _ => ⟨rfl, rfl, (Nat.le_of_ble_eq_true rfl), (Nat.le_of_ble_eq_true rfl)⟩)
  dsimp only [Pt.U, Pt.locs, Pt.cells, Pt.slots] at X11 l11 y11 z11 st11 hQ11
  subst l11 y11 z11
  obtain ⟨rfl, N11q, e11⟩ := hQ11
  have K11 : Keep h0 T11.heap [] := K10.trans (own_keq e11) all0
  have N11 := Fr.app N10 N11q
  obtain ⟨_, _, ⟨T12, L12, k12, n12⟩, -, X12, ⟨Lc12, hQ12, l12, y12, z12⟩, st12⟩ := Jvm.LawKit.callS X11 hx (y := (⟨"com/example/tendril/tendril/FormatsAnyBinaryPinLaw", "hit", "(III)Z"⟩ : MethodName)) hown (mvT hZ (hw _ (List.mem_of_getElem? (i := 22) rfl))) (mvT hZ (hw _ (List.mem_of_getElem? (i := 23) rfl))) (mvT hZ (hw _ (List.mem_of_getElem? (i := 24) rfl))) (mvT hZ (hw _ (List.mem_of_getElem? (i := 25) rfl))) (by decide) (backOf (W := 0) (rm3t l Z a0 hw [] (0 : Int32) (3 : Int32) p5 T11.heap n0 (Nat.le_trans Z0 K11.1) (by decide)) hZ (hw _ (List.mem_of_getElem? (i := 25) rfl)) (hw _ (List.mem_of_getElem? (i := 24) rfl)) (by decide) (by decide)) (g := (mkF m 104 #[.val (.int p1), .val (.int p2), .val (.int p3), .val (.int p4), .val (.int p5), .val (.int (0 : Int32)), .val (.ref b6), .val (.ref b7), .unset, .unset, .unset, .unset] [(.int p5), (.int (3 : Int32)), (.int (0 : Int32))])) rfl (by rw [hml]; rfl) (argsL := [(.int (0 : Int32)), (.int (3 : Int32)), (.int p5)]) (rest := []) (lenOf pd_0_3 rfl) rfl (by show 2 * 0 + _ ≤ _; exact Nat.le_of_eq rfl) (hb hby at_104) (fun _ _ => ⟨rfl, rfl, (Nat.le_of_ble_eq_true rfl), (Nat.le_of_ble_eq_true rfl)⟩)
  dsimp only [Pt.U, Pt.locs, Pt.cells, Pt.slots] at X12 l12 y12 z12 st12 hQ12
  subst l12 y12 z12
  obtain ⟨rfl, N12q, e12⟩ := hQ12
  have K12 : Keep h0 T12.heap [] := K11.trans (own_keq e12) all0
  have N12 := Fr.app N11 N12q
  obtain ⟨clC1, ArC1, -, SC1, NC1, HC1, -⟩ := ((((VC.keep (own_keq e9) nin0).keep (own_keq e10) nin0).keep (own_keq e11) nin0).keep (own_keq e12) nin0)
  have HV1 : ∀ j, j < 0 → clC1.slots[j]? = some (.int (own_at [] j)) := by
    intro j hj
    exact absurd hj (Nat.not_lt_zero _)
  obtain ⟨cq13, kq13, q13a, q13b, q13c⟩ := isOf hZ rfl (((((E_b7.keep K8c).keep (own_keq e9)).keep (own_keq e10)).keep (own_keq e11)).keep (own_keq e12))
  obtain ⟨_, _, ⟨T13, L13, k13, n13⟩, -, X13, ⟨Lc13, hQ13, l13, y13, z13⟩, st13⟩ := X12.virtualBack hx (y := (⟨"com/example/tendril/tendril/WireColumns$Formats", "anyBinary", "()Z"⟩ : MethodName)) (z := (⟨"com/example/tendril/tendril/WireColumns$Formats", "anyBinary", "()Z"⟩ : MethodName)) hown (mvT hZ (hw _ (List.mem_of_getElem? (i := 26) rfl))) (mvT hZ (hw _ (List.mem_of_getElem? (i := 27) rfl))) (notFace_of_selects (args := #[]) (mvT hZ (hw _ (List.mem_of_getElem? (i := 29) rfl)))) (mvT hZ (hw _ (List.mem_of_getElem? (i := 29) rfl))) (mvT hZ (hw _ (List.mem_of_getElem? (i := 28) rfl))) (by decide) (backOf (W := 0) (rm4 l Z a0 hw [] b7 bC clC1 0 (own_at []) T12.heap n0 (Nat.le_trans Z0 K12.1) ((((FC.keep (own_keq e9) nin0).keep (own_keq e10) nin0).keep (own_keq e11) nin0).keep (own_keq e12) nin0) ArC1 (SC1.trans (by decide)) HV1 (by decide)) hZ (hw _ (List.mem_of_getElem? (i := 30) rfl)) (hw _ (List.mem_of_getElem? (i := 4) rfl)) (by decide) (by decide)) q13a q13c (g := (mkF m 119 #[.val (.int p1), .val (.int p2), .val (.int p3), .val (.int p4), .val (.int p5), .val (.int (0 : Int32)), .val (.ref b6), .val (.ref b7), .val (.int (0 : Int32)), .unset, .unset, .unset] [(.ref b7)])) rfl (by rw [hml]; rfl) (Steps.refl _) (argsL := []) (rest := []) (lenOf pd_0_4 rfl) rfl (by show 2 * 0 + _ ≤ _; exact Nat.le_of_eq rfl) (hb hby at_119) (fun _ _ => ⟨rfl, rfl, (Nat.le_of_ble_eq_true rfl), (Nat.le_of_ble_eq_true rfl)⟩)
  dsimp only [Pt.U, Pt.locs, Pt.cells, Pt.slots] at X13 l13 y13 z13 st13 hQ13
  subst l13 y13 z13
  obtain ⟨rfl, N13q, e13⟩ := hQ13
  have K13 : Keep h0 T13.heap [] := K12.trans (own_keq e13) all0
  have N13 := Fr.app N12 N13q
  obtain ⟨clC2, ArC2, -, SC2, NC2, HC2, -⟩ := (((((VC.keep (own_keq e9) nin0).keep (own_keq e10) nin0).keep (own_keq e11) nin0).keep (own_keq e12) nin0).keep (own_keq e13) nin0)
  have HV2 : ∀ j, j < 0 → clC2.slots[j]? = some (.int (own_at [] j)) := by
    intro j hj
    exact absurd hj (Nat.not_lt_zero _)
  obtain ⟨cq14, kq14, q14a, q14b, q14c⟩ := isOf hZ rfl ((((((E_b7.keep K8c).keep (own_keq e9)).keep (own_keq e10)).keep (own_keq e11)).keep (own_keq e12)).keep (own_keq e13))
  obtain ⟨_, _, ⟨T14, L14, k14, n14⟩, -, X14, ⟨Lc14, hQ14, l14, y14, z14⟩, st14⟩ := X13.virtualBack hx (y := (⟨"com/example/tendril/tendril/WireColumns$Formats", "anyBinary", "()Z"⟩ : MethodName)) (z := (⟨"com/example/tendril/tendril/WireColumns$Formats", "anyBinary", "()Z"⟩ : MethodName)) hown (mvT hZ (hw _ (List.mem_of_getElem? (i := 26) rfl))) (mvT hZ (hw _ (List.mem_of_getElem? (i := 27) rfl))) (notFace_of_selects (args := #[]) (mvT hZ (hw _ (List.mem_of_getElem? (i := 29) rfl)))) (mvT hZ (hw _ (List.mem_of_getElem? (i := 29) rfl))) (mvT hZ (hw _ (List.mem_of_getElem? (i := 28) rfl))) (by decide) (backOf (W := 0) (rm4 l Z a0 hw [] b7 bC clC2 0 (own_at []) T13.heap n0 (Nat.le_trans Z0 K13.1) (((((FC.keep (own_keq e9) nin0).keep (own_keq e10) nin0).keep (own_keq e11) nin0).keep (own_keq e12) nin0).keep (own_keq e13) nin0) ArC2 (SC2.trans (by decide)) HV2 (by decide)) hZ (hw _ (List.mem_of_getElem? (i := 30) rfl)) (hw _ (List.mem_of_getElem? (i := 4) rfl)) (by decide) (by decide)) q14a q14c (g := (mkF m 185 #[.val (.int p1), .val (.int p2), .val (.int p3), .val (.int p4), .val (.int p5), .val (.int (0 : Int32)), .val (.ref b6), .val (.ref b7), .val (.int (0 : Int32)), .val (.int (own_anyf (own_at []) 0 0 0)), .val (.int (1 : Int32)), .unset] [(.ref b7)])) rfl (by rw [hml]; rfl) (Steps.refl _) (argsL := []) (rest := []) (lenOf pd_0_4 rfl) rfl (by show 2 * 0 + _ ≤ _; exact Nat.le_of_eq rfl) (hb hby at_185) (fun _ _ => ⟨rfl, rfl, (Nat.le_of_ble_eq_true rfl), (Nat.le_of_ble_eq_true rfl)⟩)
  dsimp only [Pt.U, Pt.locs, Pt.cells, Pt.slots] at X14 l14 y14 z14 st14 hQ14
  subst l14 y14 z14
  obtain ⟨rfl, N14q, e14⟩ := hQ14
  have K14 : Keep h0 T14.heap [] := K13.trans (own_keq e14) all0
  have N14 := Fr.app N13 N14q
  obtain ⟨fs, hr, hrun, hended, hW, hsame⟩ := X14.leave (v := some (.int (1 : Int32))) (fun h => by rw [Bd.returns] at h; cases h)
  refine ⟨_, _, pre0 _ ?_, hrun, hended, _, _, rfl, ?_, ⟨_, rfl⟩, hW, hsame.mono (by decide) (by decide)⟩
  · show Steps p.tables e below (s₁.setTop (mkF m 0 #[.val (.int p1), .val (.int p2), .val (.int p3), .val (.int p4), .val (.int p5), .unset, .unset, .unset, .unset, .unset, .unset, .unset] [])) _
    refine XS.iloadN X0.here hx rfl (hb hby at_0) rfl ?_
    show Steps p.tables e below (s₁.setTop (mkF m 1 #[.val (.int p1), .val (.int p2), .val (.int p3), .val (.int p4), .val (.int p5), .unset, .unset, .unset, .unset, .unset, .unset, .unset] [(.int p1)])) _
    refine X0.ldcInt hx hown (mvT hZ (hw _ (List.mem_of_getElem? (i := 0) rfl))) (g := (mkF m 1 #[.val (.int p1), .val (.int p2), .val (.int p3), .val (.int p4), .val (.int p5), .unset, .unset, .unset, .unset, .unset, .unset, .unset] [(.int p1)])) rfl (hb hby at_1) _ ?_
    show Steps p.tables e below (s₁.setTop (mkF m 3 #[.val (.int p1), .val (.int p2), .val (.int p3), .val (.int p4), .val (.int p5), .unset, .unset, .unset, .unset, .unset, .unset, .unset] [(.int (2147483647 : Int32)), (.int p1)])) _
    refine XS.iand X0.here hx rfl (hb hby at_3) rfl ?_
    show Steps p.tables e below (s₁.setTop (mkF m 4 #[.val (.int p1), .val (.int p2), .val (.int p3), .val (.int p4), .val (.int p5), .unset, .unset, .unset, .unset, .unset, .unset, .unset] [(.int (p1 &&& (2147483647 : Int32)))])) _
    refine XS.iconst X0.here hx rfl (hb hby at_4) ?_
    show Steps p.tables e below (s₁.setTop (mkF m 5 #[.val (.int p1), .val (.int p2), .val (.int p3), .val (.int p4), .val (.int p5), .unset, .unset, .unset, .unset, .unset, .unset, .unset] [(.int (5 : Int32)), (.int (p1 &&& (2147483647 : Int32)))])) _
    refine iremM X0 hx rfl (hb hby at_5) rfl (by decide) ?_
    rw [hp5]
    show Steps p.tables e below (s₁.setTop (mkF m 6 #[.val (.int p1), .val (.int p2), .val (.int p3), .val (.int p4), .val (.int p5), .unset, .unset, .unset, .unset, .unset, .unset, .unset] [(.int (0 : Int32))])) _
    refine XS.istore X0.here hx rfl (hb hby at_6) rfl (l' := #[.val (.int p1), .val (.int p2), .val (.int p3), .val (.int p4), .val (.int p5), .val (.int (0 : Int32)), .unset, .unset, .unset, .unset, .unset, .unset]) rfl ?_
    show Steps p.tables e below (s₁.setTop (mkF m 8 #[.val (.int p1), .val (.int p2), .val (.int p3), .val (.int p4), .val (.int p5), .val (.int (0 : Int32)), .unset, .unset, .unset, .unset, .unset, .unset] [])) _
    refine XS.iload X0.here hx rfl (hb hby at_8) rfl ?_
    show Steps p.tables e below (s₁.setTop (mkF m 10 #[.val (.int p1), .val (.int p2), .val (.int p3), .val (.int p4), .val (.int p5), .val (.int (0 : Int32)), .unset, .unset, .unset, .unset, .unset, .unset] [(.int (0 : Int32))])) _
    refine st6 _ ?_
    show Steps p.tables e below (T6.setTop (mkF m 12 #[.val (.int p1), .val (.int p2), .val (.int p3), .val (.int p4), .val (.int p5), .val (.int (0 : Int32)), .unset, .unset, .unset, .unset, .unset, .unset] [(.ref b6)])) _
    refine XS.astore X6.here hx rfl (hb hby at_12) rfl rfl (l' := #[.val (.int p1), .val (.int p2), .val (.int p3), .val (.int p4), .val (.int p5), .val (.int (0 : Int32)), .val (.ref b6), .unset, .unset, .unset, .unset, .unset]) rfl ?_
    show Steps p.tables e below (T6.setTop (mkF m 14 #[.val (.int p1), .val (.int p2), .val (.int p3), .val (.int p4), .val (.int p5), .val (.int (0 : Int32)), .val (.ref b6), .unset, .unset, .unset, .unset, .unset] [])) _
    refine XS.iload X6.here hx rfl (hb hby at_14) rfl ?_
    show Steps p.tables e below (T6.setTop (mkF m 16 #[.val (.int p1), .val (.int p2), .val (.int p3), .val (.int p4), .val (.int p5), .val (.int (0 : Int32)), .val (.ref b6), .unset, .unset, .unset, .unset, .unset] [(.int (0 : Int32))])) _
    refine XS.ifYes X6.here hx rfl (pc0 := 16) (pc' := 24) rfl (hb hby at_16) rfl ((if0 _ _).trans (flt (by decide : ¬ ((0 : Int32) < (0 : Int32)))).2.2.2) (by decide) (by decide) ?_
    show Steps p.tables e below (T6.setTop (mkF m 24 #[.val (.int p1), .val (.int p2), .val (.int p3), .val (.int p4), .val (.int p5), .val (.int (0 : Int32)), .val (.ref b6), .unset, .unset, .unset, .unset, .unset] [])) _
    refine XS.iload X6.here hx rfl (hb hby at_24) rfl ?_
    show Steps p.tables e below (T6.setTop (mkF m 26 #[.val (.int p1), .val (.int p2), .val (.int p3), .val (.int p4), .val (.int p5), .val (.int (0 : Int32)), .val (.ref b6), .unset, .unset, .unset, .unset, .unset] [(.int (0 : Int32))])) _
    refine XS.iconst X6.here hx rfl (hb hby at_26) ?_
    show Steps p.tables e below (T6.setTop (mkF m 27 #[.val (.int p1), .val (.int p2), .val (.int p3), .val (.int p4), .val (.int p5), .val (.int (0 : Int32)), .val (.ref b6), .unset, .unset, .unset, .unset, .unset] [(.int (1 : Int32)), (.int (0 : Int32))])) _
    refine XS.icmpYes X6.here hx rfl (pc0 := 27) (pc' := 35) rfl (hb hby at_27) rfl (flt (by decide : ¬ ((1 : Int32) < (0 : Int32)))).2.2.2 (by decide) (by decide) ?_
    show Steps p.tables e below (T6.setTop (mkF m 35 #[.val (.int p1), .val (.int p2), .val (.int p3), .val (.int p4), .val (.int p5), .val (.int (0 : Int32)), .val (.ref b6), .unset, .unset, .unset, .unset, .unset] [])) _
    refine XS.iload X6.here hx rfl (hb hby at_35) rfl ?_
    show Steps p.tables e below (T6.setTop (mkF m 37 #[.val (.int p1), .val (.int p2), .val (.int p3), .val (.int p4), .val (.int p5), .val (.int (0 : Int32)), .val (.ref b6), .unset, .unset, .unset, .unset, .unset] [(.int (0 : Int32))])) _
    refine XS.iconst X6.here hx rfl (hb hby at_37) ?_
    show Steps p.tables e below (T6.setTop (mkF m 38 #[.val (.int p1), .val (.int p2), .val (.int p3), .val (.int p4), .val (.int p5), .val (.int (0 : Int32)), .val (.ref b6), .unset, .unset, .unset, .unset, .unset] [(.int (2 : Int32)), (.int (0 : Int32))])) _
    refine XS.icmpYes X6.here hx rfl (pc0 := 38) (pc' := 46) rfl (hb hby at_38) rfl (flt (by decide : ¬ ((2 : Int32) < (0 : Int32)))).2.2.2 (by decide) (by decide) ?_
    show Steps p.tables e below (T6.setTop (mkF m 46 #[.val (.int p1), .val (.int p2), .val (.int p3), .val (.int p4), .val (.int p5), .val (.int (0 : Int32)), .val (.ref b6), .unset, .unset, .unset, .unset, .unset] [])) _
    refine XS.iload X6.here hx rfl (hb hby at_46) rfl ?_
    show Steps p.tables e below (T6.setTop (mkF m 48 #[.val (.int p1), .val (.int p2), .val (.int p3), .val (.int p4), .val (.int p5), .val (.int (0 : Int32)), .val (.ref b6), .unset, .unset, .unset, .unset, .unset] [(.int (0 : Int32))])) _
    refine XS.iconst X6.here hx rfl (hb hby at_48) ?_
    show Steps p.tables e below (T6.setTop (mkF m 49 #[.val (.int p1), .val (.int p2), .val (.int p3), .val (.int p4), .val (.int p5), .val (.int (0 : Int32)), .val (.ref b6), .unset, .unset, .unset, .unset, .unset] [(.int (3 : Int32)), (.int (0 : Int32))])) _
    refine XS.icmpYes X6.here hx rfl (pc0 := 49) (pc' := 58) rfl (hb hby at_49) rfl (flt (by decide : ¬ ((3 : Int32) < (0 : Int32)))).2.2.2 (by decide) (by decide) ?_
    show Steps p.tables e below (T6.setTop (mkF m 58 #[.val (.int p1), .val (.int p2), .val (.int p3), .val (.int p4), .val (.int p5), .val (.int (0 : Int32)), .val (.ref b6), .unset, .unset, .unset, .unset, .unset] [])) _
    refine st7 _ ?_
    show Steps p.tables e below (T7.setTop (mkF m 61 #[.val (.int p1), .val (.int p2), .val (.int p3), .val (.int p4), .val (.int p5), .val (.int (0 : Int32)), .val (.ref b6), .unset, .unset, .unset, .unset, .unset] [(.ref b7)])) _
    refine XS.dup X7.here hx rfl (hb hby at_61) rfl rfl ?_
    show Steps p.tables e below (T7.setTop (mkF m 62 #[.val (.int p1), .val (.int p2), .val (.int p3), .val (.int p4), .val (.int p5), .val (.int (0 : Int32)), .val (.ref b6), .unset, .unset, .unset, .unset, .unset] [(.ref b7), (.ref b7)])) _
    refine XS.aload X7.here hx rfl (hb hby at_62) rfl rfl ?_
    show Steps p.tables e below (T7.setTop (mkF m 64 #[.val (.int p1), .val (.int p2), .val (.int p3), .val (.int p4), .val (.int p5), .val (.int (0 : Int32)), .val (.ref b6), .unset, .unset, .unset, .unset, .unset] [(.ref b6), (.ref b7), (.ref b7)])) _
    refine st8.trans ?_
    show Steps p.tables e below (T8.setTop (mkF m 67 #[.val (.int p1), .val (.int p2), .val (.int p3), .val (.int p4), .val (.int p5), .val (.int (0 : Int32)), .val (.ref b6), .unset, .unset, .unset, .unset, .unset] [(.ref b7)])) _
    refine XS.astore X8.here hx rfl (hb hby at_67) rfl rfl (l' := #[.val (.int p1), .val (.int p2), .val (.int p3), .val (.int p4), .val (.int p5), .val (.int (0 : Int32)), .val (.ref b6), .val (.ref b7), .unset, .unset, .unset, .unset]) rfl ?_
    show Steps p.tables e below (T8.setTop (mkF m 69 #[.val (.int p1), .val (.int p2), .val (.int p3), .val (.int p4), .val (.int p5), .val (.int (0 : Int32)), .val (.ref b6), .val (.ref b7), .unset, .unset, .unset, .unset] [])) _
    refine XS.iload X8.here hx rfl (hb hby at_69) rfl ?_
    show Steps p.tables e below (T8.setTop (mkF m 71 #[.val (.int p1), .val (.int p2), .val (.int p3), .val (.int p4), .val (.int p5), .val (.int (0 : Int32)), .val (.ref b6), .val (.ref b7), .unset, .unset, .unset, .unset] [(.int (0 : Int32))])) _
    refine XS.iconst X8.here hx rfl (hb hby at_71) ?_
    show Steps p.tables e below (T8.setTop (mkF m 72 #[.val (.int p1), .val (.int p2), .val (.int p3), .val (.int p4), .val (.int p5), .val (.int (0 : Int32)), .val (.ref b6), .val (.ref b7), .unset, .unset, .unset, .unset] [(.int (0 : Int32)), (.int (0 : Int32))])) _
    refine XS.iloadN X8.here hx rfl (hb hby at_72) rfl ?_
    show Steps p.tables e below (T8.setTop (mkF m 73 #[.val (.int p1), .val (.int p2), .val (.int p3), .val (.int p4), .val (.int p5), .val (.int (0 : Int32)), .val (.ref b6), .val (.ref b7), .unset, .unset, .unset, .unset] [(.int p2), (.int (0 : Int32)), (.int (0 : Int32))])) _
    refine st9 _ ?_
    show Steps p.tables e below (T9.setTop (mkF m 76 #[.val (.int p1), .val (.int p2), .val (.int p3), .val (.int p4), .val (.int p5), .val (.int (0 : Int32)), .val (.ref b6), .val (.ref b7), .unset, .unset, .unset, .unset] [(.int (0 : Int32))])) _
    refine XS.ifNo X9.here hx rfl (hb hby at_76) rfl ((if0 _ _).trans (teq (by decide : (0 : Int32) = (0 : Int32))).2) ?_
    show Steps p.tables e below (T9.setTop (mkF m 79 #[.val (.int p1), .val (.int p2), .val (.int p3), .val (.int p4), .val (.int p5), .val (.int (0 : Int32)), .val (.ref b6), .val (.ref b7), .unset, .unset, .unset, .unset] [])) _
    refine XS.iload X9.here hx rfl (hb hby at_79) rfl ?_
    show Steps p.tables e below (T9.setTop (mkF m 81 #[.val (.int p1), .val (.int p2), .val (.int p3), .val (.int p4), .val (.int p5), .val (.int (0 : Int32)), .val (.ref b6), .val (.ref b7), .unset, .unset, .unset, .unset] [(.int (0 : Int32))])) _
    refine XS.iconst X9.here hx rfl (hb hby at_81) ?_
    show Steps p.tables e below (T9.setTop (mkF m 82 #[.val (.int p1), .val (.int p2), .val (.int p3), .val (.int p4), .val (.int p5), .val (.int (0 : Int32)), .val (.ref b6), .val (.ref b7), .unset, .unset, .unset, .unset] [(.int (1 : Int32)), (.int (0 : Int32))])) _
    refine XS.iloadN X9.here hx rfl (hb hby at_82) rfl ?_
    show Steps p.tables e below (T9.setTop (mkF m 83 #[.val (.int p1), .val (.int p2), .val (.int p3), .val (.int p4), .val (.int p5), .val (.int (0 : Int32)), .val (.ref b6), .val (.ref b7), .unset, .unset, .unset, .unset] [(.int p3), (.int (1 : Int32)), (.int (0 : Int32))])) _
    refine st10 _ ?_
    show Steps p.tables e below (T10.setTop (mkF m 86 #[.val (.int p1), .val (.int p2), .val (.int p3), .val (.int p4), .val (.int p5), .val (.int (0 : Int32)), .val (.ref b6), .val (.ref b7), .unset, .unset, .unset, .unset] [(.int (0 : Int32))])) _
    refine XS.ifNo X10.here hx rfl (hb hby at_86) rfl ((if0 _ _).trans (teq (by decide : (0 : Int32) = (0 : Int32))).2) ?_
    show Steps p.tables e below (T10.setTop (mkF m 89 #[.val (.int p1), .val (.int p2), .val (.int p3), .val (.int p4), .val (.int p5), .val (.int (0 : Int32)), .val (.ref b6), .val (.ref b7), .unset, .unset, .unset, .unset] [])) _
    refine XS.iload X10.here hx rfl (hb hby at_89) rfl ?_
    show Steps p.tables e below (T10.setTop (mkF m 91 #[.val (.int p1), .val (.int p2), .val (.int p3), .val (.int p4), .val (.int p5), .val (.int (0 : Int32)), .val (.ref b6), .val (.ref b7), .unset, .unset, .unset, .unset] [(.int (0 : Int32))])) _
    refine XS.iconst X10.here hx rfl (hb hby at_91) ?_
    show Steps p.tables e below (T10.setTop (mkF m 92 #[.val (.int p1), .val (.int p2), .val (.int p3), .val (.int p4), .val (.int p5), .val (.int (0 : Int32)), .val (.ref b6), .val (.ref b7), .unset, .unset, .unset, .unset] [(.int (2 : Int32)), (.int (0 : Int32))])) _
    refine XS.iloadN X10.here hx rfl (hb hby at_92) rfl ?_
    show Steps p.tables e below (T10.setTop (mkF m 93 #[.val (.int p1), .val (.int p2), .val (.int p3), .val (.int p4), .val (.int p5), .val (.int (0 : Int32)), .val (.ref b6), .val (.ref b7), .unset, .unset, .unset, .unset] [(.int p4), (.int (2 : Int32)), (.int (0 : Int32))])) _
    refine st11 _ ?_
    show Steps p.tables e below (T11.setTop (mkF m 96 #[.val (.int p1), .val (.int p2), .val (.int p3), .val (.int p4), .val (.int p5), .val (.int (0 : Int32)), .val (.ref b6), .val (.ref b7), .unset, .unset, .unset, .unset] [(.int (0 : Int32))])) _
    refine XS.ifNo X11.here hx rfl (hb hby at_96) rfl ((if0 _ _).trans (teq (by decide : (0 : Int32) = (0 : Int32))).2) ?_
    show Steps p.tables e below (T11.setTop (mkF m 99 #[.val (.int p1), .val (.int p2), .val (.int p3), .val (.int p4), .val (.int p5), .val (.int (0 : Int32)), .val (.ref b6), .val (.ref b7), .unset, .unset, .unset, .unset] [])) _
    refine XS.iload X11.here hx rfl (hb hby at_99) rfl ?_
    show Steps p.tables e below (T11.setTop (mkF m 101 #[.val (.int p1), .val (.int p2), .val (.int p3), .val (.int p4), .val (.int p5), .val (.int (0 : Int32)), .val (.ref b6), .val (.ref b7), .unset, .unset, .unset, .unset] [(.int (0 : Int32))])) _
    refine XS.iconst X11.here hx rfl (hb hby at_101) ?_
    show Steps p.tables e below (T11.setTop (mkF m 102 #[.val (.int p1), .val (.int p2), .val (.int p3), .val (.int p4), .val (.int p5), .val (.int (0 : Int32)), .val (.ref b6), .val (.ref b7), .unset, .unset, .unset, .unset] [(.int (3 : Int32)), (.int (0 : Int32))])) _
    refine XS.iload X11.here hx rfl (hb hby at_102) rfl ?_
    show Steps p.tables e below (T11.setTop (mkF m 104 #[.val (.int p1), .val (.int p2), .val (.int p3), .val (.int p4), .val (.int p5), .val (.int (0 : Int32)), .val (.ref b6), .val (.ref b7), .unset, .unset, .unset, .unset] [(.int p5), (.int (3 : Int32)), (.int (0 : Int32))])) _
    refine st12 _ ?_
    show Steps p.tables e below (T12.setTop (mkF m 107 #[.val (.int p1), .val (.int p2), .val (.int p3), .val (.int p4), .val (.int p5), .val (.int (0 : Int32)), .val (.ref b6), .val (.ref b7), .unset, .unset, .unset, .unset] [(.int (0 : Int32))])) _
    refine XS.ifYes X12.here hx rfl (pc0 := 107) (pc' := 114) rfl (hb hby at_107) rfl ((if0 _ _).trans (teq (by decide : (0 : Int32) = (0 : Int32))).1) (by decide) (by decide) ?_
    show Steps p.tables e below (T12.setTop (mkF m 114 #[.val (.int p1), .val (.int p2), .val (.int p3), .val (.int p4), .val (.int p5), .val (.int (0 : Int32)), .val (.ref b6), .val (.ref b7), .unset, .unset, .unset, .unset] [])) _
    refine XS.iconst X12.here hx rfl (hb hby at_114) ?_
    show Steps p.tables e below (T12.setTop (mkF m 115 #[.val (.int p1), .val (.int p2), .val (.int p3), .val (.int p4), .val (.int p5), .val (.int (0 : Int32)), .val (.ref b6), .val (.ref b7), .unset, .unset, .unset, .unset] [(.int (0 : Int32))])) _
    refine XS.istore X12.here hx rfl (hb hby at_115) rfl (l' := #[.val (.int p1), .val (.int p2), .val (.int p3), .val (.int p4), .val (.int p5), .val (.int (0 : Int32)), .val (.ref b6), .val (.ref b7), .val (.int (0 : Int32)), .unset, .unset, .unset]) rfl ?_
    show Steps p.tables e below (T12.setTop (mkF m 117 #[.val (.int p1), .val (.int p2), .val (.int p3), .val (.int p4), .val (.int p5), .val (.int (0 : Int32)), .val (.ref b6), .val (.ref b7), .val (.int (0 : Int32)), .unset, .unset, .unset] [])) _
    refine XS.aload X12.here hx rfl (hb hby at_117) rfl rfl ?_
    show Steps p.tables e below (T12.setTop (mkF m 119 #[.val (.int p1), .val (.int p2), .val (.int p3), .val (.int p4), .val (.int p5), .val (.int (0 : Int32)), .val (.ref b6), .val (.ref b7), .val (.int (0 : Int32)), .unset, .unset, .unset] [(.ref b7)])) _
    refine st13.trans ?_
    show Steps p.tables e below (T13.setTop (mkF m 122 #[.val (.int p1), .val (.int p2), .val (.int p3), .val (.int p4), .val (.int p5), .val (.int (0 : Int32)), .val (.ref b6), .val (.ref b7), .val (.int (0 : Int32)), .unset, .unset, .unset] [(.int (own_anyf (own_at []) 0 0 0))])) _
    refine XS.istore X13.here hx rfl (hb hby at_122) rfl (l' := #[.val (.int p1), .val (.int p2), .val (.int p3), .val (.int p4), .val (.int p5), .val (.int (0 : Int32)), .val (.ref b6), .val (.ref b7), .val (.int (0 : Int32)), .val (.int (own_anyf (own_at []) 0 0 0)), .unset, .unset]) rfl ?_
    show Steps p.tables e below (T13.setTop (mkF m 124 #[.val (.int p1), .val (.int p2), .val (.int p3), .val (.int p4), .val (.int p5), .val (.int (0 : Int32)), .val (.ref b6), .val (.ref b7), .val (.int (0 : Int32)), .val (.int (own_anyf (own_at []) 0 0 0)), .unset, .unset] [])) _
    refine XS.iload X13.here hx rfl (hb hby at_124) rfl ?_
    show Steps p.tables e below (T13.setTop (mkF m 126 #[.val (.int p1), .val (.int p2), .val (.int p3), .val (.int p4), .val (.int p5), .val (.int (0 : Int32)), .val (.ref b6), .val (.ref b7), .val (.int (0 : Int32)), .val (.int (own_anyf (own_at []) 0 0 0)), .unset, .unset] [(.int (0 : Int32))])) _
    refine XS.ifYes X13.here hx rfl (pc0 := 126) (pc' := 133) rfl (hb hby at_126) rfl ((if0 _ _).trans (teq (by decide : (0 : Int32) = (0 : Int32))).1) (by decide) (by decide) ?_
    show Steps p.tables e below (T13.setTop (mkF m 133 #[.val (.int p1), .val (.int p2), .val (.int p3), .val (.int p4), .val (.int p5), .val (.int (0 : Int32)), .val (.ref b6), .val (.ref b7), .val (.int (0 : Int32)), .val (.int (own_anyf (own_at []) 0 0 0)), .unset, .unset] [])) _
    refine XS.iconst X13.here hx rfl (hb hby at_133) ?_
    show Steps p.tables e below (T13.setTop (mkF m 134 #[.val (.int p1), .val (.int p2), .val (.int p3), .val (.int p4), .val (.int p5), .val (.int (0 : Int32)), .val (.ref b6), .val (.ref b7), .val (.int (0 : Int32)), .val (.int (own_anyf (own_at []) 0 0 0)), .unset, .unset] [(.int (1 : Int32))])) _
    refine XS.istore X13.here hx rfl (hb hby at_134) rfl (l' := #[.val (.int p1), .val (.int p2), .val (.int p3), .val (.int p4), .val (.int p5), .val (.int (0 : Int32)), .val (.ref b6), .val (.ref b7), .val (.int (0 : Int32)), .val (.int (own_anyf (own_at []) 0 0 0)), .val (.int (1 : Int32)), .unset]) rfl ?_
    show Steps p.tables e below (T13.setTop (mkF m 136 #[.val (.int p1), .val (.int p2), .val (.int p3), .val (.int p4), .val (.int p5), .val (.int (0 : Int32)), .val (.ref b6), .val (.ref b7), .val (.int (0 : Int32)), .val (.int (own_anyf (own_at []) 0 0 0)), .val (.int (1 : Int32)), .unset] [])) _
    refine XS.iload X13.here hx rfl (hb hby at_136) rfl ?_
    show Steps p.tables e below (T13.setTop (mkF m 138 #[.val (.int p1), .val (.int p2), .val (.int p3), .val (.int p4), .val (.int p5), .val (.int (0 : Int32)), .val (.ref b6), .val (.ref b7), .val (.int (0 : Int32)), .val (.int (own_anyf (own_at []) 0 0 0)), .val (.int (1 : Int32)), .unset] [(.int (0 : Int32))])) _
    refine XS.ifYes X13.here hx rfl (pc0 := 138) (pc' := 147) rfl (hb hby at_138) rfl ((if0 _ _).trans (flt (by decide : ¬ ((0 : Int32) < (0 : Int32)))).2.2.2) (by decide) (by decide) ?_
    show Steps p.tables e below (T13.setTop (mkF m 147 #[.val (.int p1), .val (.int p2), .val (.int p3), .val (.int p4), .val (.int p5), .val (.int (0 : Int32)), .val (.ref b6), .val (.ref b7), .val (.int (0 : Int32)), .val (.int (own_anyf (own_at []) 0 0 0)), .val (.int (1 : Int32)), .unset] [])) _
    refine XS.iload X13.here hx rfl (hb hby at_147) rfl ?_
    show Steps p.tables e below (T13.setTop (mkF m 149 #[.val (.int p1), .val (.int p2), .val (.int p3), .val (.int p4), .val (.int p5), .val (.int (0 : Int32)), .val (.ref b6), .val (.ref b7), .val (.int (0 : Int32)), .val (.int (own_anyf (own_at []) 0 0 0)), .val (.int (1 : Int32)), .unset] [(.int (0 : Int32))])) _
    refine XS.iconst X13.here hx rfl (hb hby at_149) ?_
    show Steps p.tables e below (T13.setTop (mkF m 150 #[.val (.int p1), .val (.int p2), .val (.int p3), .val (.int p4), .val (.int p5), .val (.int (0 : Int32)), .val (.ref b6), .val (.ref b7), .val (.int (0 : Int32)), .val (.int (own_anyf (own_at []) 0 0 0)), .val (.int (1 : Int32)), .unset] [(.int (1 : Int32)), (.int (0 : Int32))])) _
    refine XS.icmpYes X13.here hx rfl (pc0 := 150) (pc' := 159) rfl (hb hby at_150) rfl (flt (by decide : ¬ ((1 : Int32) < (0 : Int32)))).2.2.2 (by decide) (by decide) ?_
    show Steps p.tables e below (T13.setTop (mkF m 159 #[.val (.int p1), .val (.int p2), .val (.int p3), .val (.int p4), .val (.int p5), .val (.int (0 : Int32)), .val (.ref b6), .val (.ref b7), .val (.int (0 : Int32)), .val (.int (own_anyf (own_at []) 0 0 0)), .val (.int (1 : Int32)), .unset] [])) _
    refine XS.iload X13.here hx rfl (hb hby at_159) rfl ?_
    show Steps p.tables e below (T13.setTop (mkF m 161 #[.val (.int p1), .val (.int p2), .val (.int p3), .val (.int p4), .val (.int p5), .val (.int (0 : Int32)), .val (.ref b6), .val (.ref b7), .val (.int (0 : Int32)), .val (.int (own_anyf (own_at []) 0 0 0)), .val (.int (1 : Int32)), .unset] [(.int (0 : Int32))])) _
    refine XS.iconst X13.here hx rfl (hb hby at_161) ?_
    show Steps p.tables e below (T13.setTop (mkF m 162 #[.val (.int p1), .val (.int p2), .val (.int p3), .val (.int p4), .val (.int p5), .val (.int (0 : Int32)), .val (.ref b6), .val (.ref b7), .val (.int (0 : Int32)), .val (.int (own_anyf (own_at []) 0 0 0)), .val (.int (1 : Int32)), .unset] [(.int (2 : Int32)), (.int (0 : Int32))])) _
    refine XS.icmpYes X13.here hx rfl (pc0 := 162) (pc' := 171) rfl (hb hby at_162) rfl (flt (by decide : ¬ ((2 : Int32) < (0 : Int32)))).2.2.2 (by decide) (by decide) ?_
    show Steps p.tables e below (T13.setTop (mkF m 171 #[.val (.int p1), .val (.int p2), .val (.int p3), .val (.int p4), .val (.int p5), .val (.int (0 : Int32)), .val (.ref b6), .val (.ref b7), .val (.int (0 : Int32)), .val (.int (own_anyf (own_at []) 0 0 0)), .val (.int (1 : Int32)), .unset] [])) _
    refine XS.iload X13.here hx rfl (hb hby at_171) rfl ?_
    show Steps p.tables e below (T13.setTop (mkF m 173 #[.val (.int p1), .val (.int p2), .val (.int p3), .val (.int p4), .val (.int p5), .val (.int (0 : Int32)), .val (.ref b6), .val (.ref b7), .val (.int (0 : Int32)), .val (.int (own_anyf (own_at []) 0 0 0)), .val (.int (1 : Int32)), .unset] [(.int (0 : Int32))])) _
    refine XS.iconst X13.here hx rfl (hb hby at_173) ?_
    show Steps p.tables e below (T13.setTop (mkF m 174 #[.val (.int p1), .val (.int p2), .val (.int p3), .val (.int p4), .val (.int p5), .val (.int (0 : Int32)), .val (.ref b6), .val (.ref b7), .val (.int (0 : Int32)), .val (.int (own_anyf (own_at []) 0 0 0)), .val (.int (1 : Int32)), .unset] [(.int (3 : Int32)), (.int (0 : Int32))])) _
    refine XS.icmpYes X13.here hx rfl (pc0 := 174) (pc' := 183) rfl (hb hby at_174) rfl (flt (by decide : ¬ ((3 : Int32) < (0 : Int32)))).2.2.2 (by decide) (by decide) ?_
    show Steps p.tables e below (T13.setTop (mkF m 183 #[.val (.int p1), .val (.int p2), .val (.int p3), .val (.int p4), .val (.int p5), .val (.int (0 : Int32)), .val (.ref b6), .val (.ref b7), .val (.int (0 : Int32)), .val (.int (own_anyf (own_at []) 0 0 0)), .val (.int (1 : Int32)), .unset] [])) _
    refine XS.aload X13.here hx rfl (hb hby at_183) rfl rfl ?_
    show Steps p.tables e below (T13.setTop (mkF m 185 #[.val (.int p1), .val (.int p2), .val (.int p3), .val (.int p4), .val (.int p5), .val (.int (0 : Int32)), .val (.ref b6), .val (.ref b7), .val (.int (0 : Int32)), .val (.int (own_anyf (own_at []) 0 0 0)), .val (.int (1 : Int32)), .unset] [(.ref b7)])) _
    refine st14.trans ?_
    show Steps p.tables e below (T14.setTop (mkF m 188 #[.val (.int p1), .val (.int p2), .val (.int p3), .val (.int p4), .val (.int p5), .val (.int (0 : Int32)), .val (.ref b6), .val (.ref b7), .val (.int (0 : Int32)), .val (.int (own_anyf (own_at []) 0 0 0)), .val (.int (1 : Int32)), .unset] [(.int (own_anyf (own_at []) 0 0 0))])) _
    refine XS.istore X14.here hx rfl (hb hby at_188) rfl (l' := #[.val (.int p1), .val (.int p2), .val (.int p3), .val (.int p4), .val (.int p5), .val (.int (0 : Int32)), .val (.ref b6), .val (.ref b7), .val (.int (0 : Int32)), .val (.int (own_anyf (own_at []) 0 0 0)), .val (.int (1 : Int32)), .val (.int (own_anyf (own_at []) 0 0 0))]) rfl ?_
    show Steps p.tables e below (T14.setTop (mkF m 190 #[.val (.int p1), .val (.int p2), .val (.int p3), .val (.int p4), .val (.int p5), .val (.int (0 : Int32)), .val (.ref b6), .val (.ref b7), .val (.int (0 : Int32)), .val (.int (own_anyf (own_at []) 0 0 0)), .val (.int (1 : Int32)), .val (.int (own_anyf (own_at []) 0 0 0))] [])) _
    refine XS.iload X14.here hx rfl (hb hby at_190) rfl ?_
    show Steps p.tables e below (T14.setTop (mkF m 192 #[.val (.int p1), .val (.int p2), .val (.int p3), .val (.int p4), .val (.int p5), .val (.int (0 : Int32)), .val (.ref b6), .val (.ref b7), .val (.int (0 : Int32)), .val (.int (own_anyf (own_at []) 0 0 0)), .val (.int (1 : Int32)), .val (.int (own_anyf (own_at []) 0 0 0))] [(.int (own_anyf (own_at []) 0 0 0))])) _
    refine XS.iload X14.here hx rfl (hb hby at_192) rfl ?_
    show Steps p.tables e below (T14.setTop (mkF m 194 #[.val (.int p1), .val (.int p2), .val (.int p3), .val (.int p4), .val (.int p5), .val (.int (0 : Int32)), .val (.ref b6), .val (.ref b7), .val (.int (0 : Int32)), .val (.int (own_anyf (own_at []) 0 0 0)), .val (.int (1 : Int32)), .val (.int (own_anyf (own_at []) 0 0 0))] [(.int (0 : Int32)), (.int (own_anyf (own_at []) 0 0 0))])) _
    refine XS.icmpNo X14.here hx rfl (hb hby at_194) rfl (teq (own_ok : (own_anyf (own_at []) 0 0 0) = (0 : Int32))).2 ?_
    show Steps p.tables e below (T14.setTop (mkF m 197 #[.val (.int p1), .val (.int p2), .val (.int p3), .val (.int p4), .val (.int p5), .val (.int (0 : Int32)), .val (.ref b6), .val (.ref b7), .val (.int (0 : Int32)), .val (.int (own_anyf (own_at []) 0 0 0)), .val (.int (1 : Int32)), .val (.int (own_anyf (own_at []) 0 0 0))] [])) _
    refine XS.iload X14.here hx rfl (hb hby at_197) rfl ?_
    show Steps p.tables e below (T14.setTop (mkF m 199 #[.val (.int p1), .val (.int p2), .val (.int p3), .val (.int p4), .val (.int p5), .val (.int (0 : Int32)), .val (.ref b6), .val (.ref b7), .val (.int (0 : Int32)), .val (.int (own_anyf (own_at []) 0 0 0)), .val (.int (1 : Int32)), .val (.int (own_anyf (own_at []) 0 0 0))] [(.int (own_anyf (own_at []) 0 0 0))])) _
    refine XS.iload X14.here hx rfl (hb hby at_199) rfl ?_
    show Steps p.tables e below (T14.setTop (mkF m 201 #[.val (.int p1), .val (.int p2), .val (.int p3), .val (.int p4), .val (.int p5), .val (.int (0 : Int32)), .val (.ref b6), .val (.ref b7), .val (.int (0 : Int32)), .val (.int (own_anyf (own_at []) 0 0 0)), .val (.int (1 : Int32)), .val (.int (own_anyf (own_at []) 0 0 0))] [(.int (0 : Int32)), (.int (own_anyf (own_at []) 0 0 0))])) _
    refine XS.icmpNo X14.here hx rfl (hb hby at_201) rfl (teq (own_ok : (own_anyf (own_at []) 0 0 0) = (0 : Int32))).2 ?_
    show Steps p.tables e below (T14.setTop (mkF m 204 #[.val (.int p1), .val (.int p2), .val (.int p3), .val (.int p4), .val (.int p5), .val (.int (0 : Int32)), .val (.ref b6), .val (.ref b7), .val (.int (0 : Int32)), .val (.int (own_anyf (own_at []) 0 0 0)), .val (.int (1 : Int32)), .val (.int (own_anyf (own_at []) 0 0 0))] [])) _
    refine XS.iconst X14.here hx rfl (hb hby at_204) ?_
    show Steps p.tables e below (T14.setTop (mkF m 205 #[.val (.int p1), .val (.int p2), .val (.int p3), .val (.int p4), .val (.int p5), .val (.int (0 : Int32)), .val (.ref b6), .val (.ref b7), .val (.int (0 : Int32)), .val (.int (own_anyf (own_at []) 0 0 0)), .val (.int (1 : Int32)), .val (.int (own_anyf (own_at []) 0 0 0))] [(.int (1 : Int32))])) _
    refine XS.goto X14.here hx rfl (pc0 := 205) (pc' := 209) rfl (hb hby at_205) (by decide) (by decide) ?_
    show Steps p.tables e below (T14.setTop (mkF m 209 #[.val (.int p1), .val (.int p2), .val (.int p3), .val (.int p4), .val (.int p5), .val (.int (0 : Int32)), .val (.ref b6), .val (.ref b7), .val (.int (0 : Int32)), .val (.int (own_anyf (own_at []) 0 0 0)), .val (.int (1 : Int32)), .val (.int (own_anyf (own_at []) 0 0 0))] [(.int (1 : Int32))])) _
    exact retN X14 hx (t := .boolean) Bd.returns (by simp) (hb hby at_209) hr
  · show Q0_00 Z p1 p2 p3 p4 p5 h0 n0 _ T14.heap _
    exact ⟨rfl, N14⟩
def Q0_10 (Z : State) (p1 : Int32) (p2 : Int32) (p3 : Int32) (p4 : Int32) (p5 : Int32) (h0 : Heap) (n0 : Nat) (v : Option Value) (h : Heap) (L : List Loc) : Prop := v = some (.int (1 : Int32)) ∧ Fr n0 L
set_option maxRecDepth 65536 in
set_option maxHeartbeats 40000000 in
theorem rm0_10 (l : Launch) (Z : State) (a0 : Array Value) (hw : ∀ d ∈ tables_1, d.before a0 Z = true) (ws : List Jvm.Cond) (p1 : Int32) (p2 : Int32) (p3 : Int32) (p4 : Int32) (p5 : Int32) (h0 : Heap) (n0 : Nat) (Z0 : n0 ≤ h0.size) (hp5 : ((p1 &&& (2147483647 : Int32)) % (5 : Int32)) = (1 : Int32)) (ch0 : p2 = (1 : Int32)) :
    MetFree l x (head1 (Jvm.Cond.code x code maxLocals ret :: ws) room_1) (fun a U => a = #[(.int p1), (.int p2), (.int p3), (.int p4), (.int p5)] ∧ Z.Warmed39 U.vm ∧ U.heap = h0) (fun _ _ _ _ _ => True) (fun _ U o U' => ∃ v L, o = .returned v ∧ Q0_10 Z p1 p2 p3 p4 p5 h0 n0 v U'.heap L ∧ FrameEnd U o U' L room_1.cells room_1.slots) := by
  refine MetFree.of_bodySF (plainFor_of_name pn_0) hisR ?_
  intro p e s m args below meth c s₁ Bd hml0 hP hK
  obtain ⟨rfl, hZ, hh⟩ := hP
  have own_ok : (own_anyf (own_at [p2]) 1 0 0) = (1 : Int32) := by
    simp [own_anyf, own_or, own_at, ch0]
  have hx := Bd.exec
  have hby := Bd.bytes
  have hml : c.maxLocals = 12 := hml0
  have hown : s.vm.findClass "com/example/tendril/tendril/FormatsAnyBinaryPinLaw" = some m.cls := findClass_of_methodNamed Bd.named
  have hnm := (name_of_methodNamed Bd.named Bd.method).1
  have X0 : Stand p l e room_1 s m #[(.int p1), (.int p2), (.int p3), (.int p4), (.int p5)] below meth c s₁ [] 0 0 := Stand.of_body Bd
  have e0 : s₁.heap = h0 := by rw [← hh, Bd.state]; rfl
  have N0 := Fr.nil n0
  have pre0 : ∀ t, Steps p.tables e below (s₁.setTop (mkF m 0 #[.val (.int p1), .val (.int p2), .val (.int p3), .val (.int p4), .val (.int p5), .unset, .unset, .unset, .unset, .unset, .unset, .unset] [])) t → Steps p.tables e below (s₁.setTop (entryFrame m #[(.int p1), (.int p2), (.int p3), (.int p4), (.int p5)] maxLocals)) t := fun t k => castTop (ef_0 m p1 p2 p3 p4 p5) k
  obtain ⟨T6, h6, k6, X6, e6, E6, A6, Ea6, st6⟩ := newPE X0 hx hZ (hw _ (List.mem_of_getElem? (i := 1) rfl)) e0 (g := (mkF m 10 #[.val (.int p1), .val (.int p2), .val (.int p3), .val (.int p4), .val (.int p5), .val (.int (1 : Int32)), .unset, .unset, .unset, .unset, .unset, .unset] [(.int (1 : Int32))])) rfl (hb hby at_10) rfl (by decide) (cap := 1) (by decide) (by decide) (by decide) (by decide) (ad := "[I") rfl
  obtain ⟨b6, g6⟩ : ∃ z, z = h0.size := ⟨_, rfl⟩
  rw [← g6] at A6 Ea6 st6
  have V_b6 : Arv Z h6 b6 k6 .int (1 : Int32) [(.int (0 : Int32))] (.int (0 : Int32)) := (Arv.new A6 (by decide)).pad (pad_rep [] (.int (0 : Int32)) 1)
  have g_b6 : n0 ≤ b6 := Nat.le_trans Z0 (Nat.le_of_eq g6.symm)
  have sz_b6 : h0.size ≤ b6 := (Nat.le_trans (Keep.refl h0 []).1 (Nat.le_of_eq g6.symm))
  have K6 : Keep h0 h6 [] := (Keep.refl h0 []).ext E6
  obtain ⟨cl_b6_23, Ar_b6, q_b6, S_b6, N_b6, H_b6, G_b6⟩ := V_b6
  have hin23 : ¬ ((0 : Int32) < 0 ∨ cl_b6_23.slots.size ≤ ((0 : Int32)).toNatClampNeg) := inb_of S_b6 ⟨by decide, by decide⟩
  obtain ⟨T7, h7, X7, e7, W7, st7⟩ := stI X6 hx hZ e6 Ar_b6 (j := (0 : Int32)) hin23 (g := (mkF m 23 #[.val (.int p1), .val (.int p2), .val (.int p3), .val (.int p4), .val (.int p5), .val (.int (1 : Int32)), .val (.ref b6), .unset, .unset, .unset, .unset, .unset] [(.int p2), (.int (0 : Int32)), (.ref b6)])) rfl rfl (hb hby at_23)
  have V_b6_7 := Arv.set Ar_b6 q_b6 S_b6 N_b6 H_b6 G_b6 rfl W7 0 rfl (Nat.le_of_ble_eq_true rfl)
  have K7 : Keep h0 h7 [] := K6.wr W7 (Or.inr sz_b6)
  have N7 := Fr.snoc X7 N0 g_b6
  obtain ⟨T8, h8, X8, e8, E8, A8, D8, -, st8⟩ := newO X7 hx hZ hown (hw _ (List.mem_of_getElem? (i := 2) rfl)) (hw _ (List.mem_of_getElem? (i := 3) rfl)) (hw _ (List.mem_of_getElem? (i := 4) rfl)) e7 (g := (mkF m 58 #[.val (.int p1), .val (.int p2), .val (.int p3), .val (.int p4), .val (.int p5), .val (.int (1 : Int32)), .val (.ref b6), .unset, .unset, .unset, .unset, .unset] [])) rfl (hb hby at_58) (by decide) (by decide)
  obtain ⟨b8, g8⟩ : ∃ z, z = h7.size := ⟨_, rfl⟩
  rw [← g8] at A8 D8 st8
  have F_codes_b8 : Fld Z h8 b8 "com/example/tendril/tendril/WireColumns$Formats" "codes" "[I" .null := D8 (Or.inr (hw _ (List.mem_of_getElem? (i := 21) rfl))) (ty := (.array .int)) (by decide)
  have E_b8 := A8
  have g_b8 : n0 ≤ b8 := Nat.le_trans (Nat.le_trans (Nat.le_trans Z0 E6.1) (Keep.of_wr W7).1) (Nat.le_of_eq g8.symm)
  have sz_b8 : h0.size ≤ b8 := (Nat.le_trans K7.1 (Nat.le_of_eq g8.symm))
  have K8 : Keep h0 h8 [] := K7.ext E8
  obtain ⟨_, _, ⟨T9, L9, k9, n9⟩, -, X9, ⟨Lc9, hQ9, l9, y9, z9⟩, st9⟩ := X8.specialBack hx (y := (⟨"com/example/tendril/tendril/WireColumns$Formats", "<init>", "([I)V"⟩ : MethodName)) rfl hown (mvT hZ (hw _ (List.mem_of_getElem? (i := 5) rfl))) (mvT hZ (hw _ (List.mem_of_getElem? (i := 6) rfl))) (mvT hZ (hw _ (List.mem_of_getElem? (i := 7) rfl))) (by decide) (backOf (W := 1) (rm1 l Z a0 hw [] b8 b6 .null _ _ _ _ h8 n0 (Nat.le_trans Z0 K8.1) ((Ea6.wr W7).ext E8) (V_b6_7.ext E8) (by decide) E_b8 F_codes_b8 g_b8) hZ (hw _ (List.mem_of_getElem? (i := 7) rfl)) (hw _ (List.mem_of_getElem? (i := 4) rfl)) (by decide) (by decide)) (g := (mkF m 64 #[.val (.int p1), .val (.int p2), .val (.int p3), .val (.int p4), .val (.int p5), .val (.int (1 : Int32)), .val (.ref b6), .unset, .unset, .unset, .unset, .unset] [(.ref b6), (.ref b8), (.ref b8)])) rfl (by rw [hml]; rfl) (Steps.refl _) (a := b8) (argsL := [(.ref b6)]) (rest := [(.ref b8)]) (lenOf pd_0_0 rfl) rfl (by show 2 * 0 + _ ≤ _; exact Nat.le_of_eq rfl) (hb hby at_64) (fun _ _ => ⟨rfl, e8, (Nat.le_of_ble_eq_true rfl), (Nat.le_of_ble_eq_true rfl)⟩)
  dsimp only [Pt.U, Pt.locs, Pt.cells, Pt.slots] at X9 l9 y9 z9 st9 hQ9
  subst l9 y9 z9
  obtain ⟨rfl, N9q, K9c, E9c, bC, szC, FC, VC⟩ := hQ9
  have ne_ao : b6 ≠ b8 := Nat.ne_of_lt (Nat.lt_of_lt_of_le V_b6_7.lt (Nat.le_of_eq g8.symm))
  have ne_Ca : bC ≠ b6 := Ne.symm (Nat.ne_of_lt (Nat.lt_of_lt_of_le (V_b6_7.ext E8).lt szC))
  have K9 : Keep h0 T9.heap [] := K8.trans K9c (allS (Or.inr sz_b8) all0)
  have N9 := Fr.app N7 N9q
  obtain ⟨_, _, ⟨T10, L10, k10, n10⟩, -, X10, ⟨Lc10, hQ10, l10, y10, z10⟩, st10⟩ := Jvm.LawKit.callS X9 hx (y := (⟨"com/example/tendril/tendril/FormatsAnyBinaryPinLaw", "hit", "(III)Z"⟩ : MethodName)) hown (mvT hZ (hw _ (List.mem_of_getElem? (i := 22) rfl))) (mvT hZ (hw _ (List.mem_of_getElem? (i := 23) rfl))) (mvT hZ (hw _ (List.mem_of_getElem? (i := 24) rfl))) (mvT hZ (hw _ (List.mem_of_getElem? (i := 25) rfl))) (by decide) (backOf (W := 0) (rm3ff l Z a0 hw [] (1 : Int32) (0 : Int32) p2 T9.heap n0 (Nat.le_trans Z0 K9.1) (by decide) ch0) hZ (hw _ (List.mem_of_getElem? (i := 25) rfl)) (hw _ (List.mem_of_getElem? (i := 24) rfl)) (by decide) (by decide)) (g := (mkF m 73 #[.val (.int p1), .val (.int p2), .val (.int p3), .val (.int p4), .val (.int p5), .val (.int (1 : Int32)), .val (.ref b6), .val (.ref b8), .unset, .unset, .unset, .unset] [(.int p2), (.int (0 : Int32)), (.int (1 : Int32))])) rfl (by rw [hml]; rfl) (argsL := [(.int (1 : Int32)), (.int (0 : Int32)), (.int p2)]) (rest := []) (lenOf pd_0_3 rfl) rfl (by show 2 * 0 + _ ≤ _; exact Nat.le_of_eq rfl) (hb hby at_73) (fun _ _ => ⟨rfl, rfl, (Nat.le_of_ble_eq_true rfl), (Nat.le_of_ble_eq_true rfl)⟩)
  dsimp only [Pt.U, Pt.locs, Pt.cells, Pt.slots] at X10 l10 y10 z10 st10 hQ10
  subst l10 y10 z10
  obtain ⟨rfl, N10q, e10⟩ := hQ10
  have K10 : Keep h0 T10.heap [] := K9.trans (own_keq e10) all0
  have N10 := Fr.app N9 N10q
  obtain ⟨clC1, ArC1, -, SC1, NC1, HC1, -⟩ := (VC.keep (own_keq e10) nin0)
  have HV1 : ∀ j, j < 1 → clC1.slots[j]? = some (.int (own_at [p2] j)) := by
    intro j hj
    match j, hj with
    | 0, _ => exact HC1 0 (by rw [SC1]; decide)
  obtain ⟨cq11, kq11, q11a, q11b, q11c⟩ := isOf hZ rfl ((E_b8.keep K9c).keep (own_keq e10))
  obtain ⟨_, _, ⟨T11, L11, k11, n11⟩, -, X11, ⟨Lc11, hQ11, l11, y11, z11⟩, st11⟩ := X10.virtualBack hx (y := (⟨"com/example/tendril/tendril/WireColumns$Formats", "anyBinary", "()Z"⟩ : MethodName)) (z := (⟨"com/example/tendril/tendril/WireColumns$Formats", "anyBinary", "()Z"⟩ : MethodName)) hown (mvT hZ (hw _ (List.mem_of_getElem? (i := 26) rfl))) (mvT hZ (hw _ (List.mem_of_getElem? (i := 27) rfl))) (notFace_of_selects (args := #[]) (mvT hZ (hw _ (List.mem_of_getElem? (i := 29) rfl)))) (mvT hZ (hw _ (List.mem_of_getElem? (i := 29) rfl))) (mvT hZ (hw _ (List.mem_of_getElem? (i := 28) rfl))) (by decide) (backOf (W := 0) (rm4 l Z a0 hw [] b8 bC clC1 1 (own_at [p2]) T10.heap n0 (Nat.le_trans Z0 K10.1) (FC.keep (own_keq e10) nin0) ArC1 (SC1.trans (by decide)) HV1 (by decide)) hZ (hw _ (List.mem_of_getElem? (i := 30) rfl)) (hw _ (List.mem_of_getElem? (i := 4) rfl)) (by decide) (by decide)) q11a q11c (g := (mkF m 119 #[.val (.int p1), .val (.int p2), .val (.int p3), .val (.int p4), .val (.int p5), .val (.int (1 : Int32)), .val (.ref b6), .val (.ref b8), .val (.int (1 : Int32)), .unset, .unset, .unset] [(.ref b8)])) rfl (by rw [hml]; rfl) (Steps.refl _) (argsL := []) (rest := []) (lenOf pd_0_4 rfl) rfl (by show 2 * 0 + _ ≤ _; exact Nat.le_of_eq rfl) (hb hby at_119) (fun _ _ => ⟨rfl, rfl, (Nat.le_of_ble_eq_true rfl), (Nat.le_of_ble_eq_true rfl)⟩)
  dsimp only [Pt.U, Pt.locs, Pt.cells, Pt.slots] at X11 l11 y11 z11 st11 hQ11
  subst l11 y11 z11
  obtain ⟨rfl, N11q, e11⟩ := hQ11
  have K11 : Keep h0 T11.heap [] := K10.trans (own_keq e11) all0
  have N11 := Fr.app N10 N11q
  obtain ⟨cl_b6_146, Ar_b6, q_b6, S_b6, N_b6, H_b6, G_b6⟩ := ((((V_b6_7.ext E8).keep K9c (ninS ne_ao nin0)).keep (own_keq e10) nin0).keep (own_keq e11) nin0)
  have hin146 : ¬ ((0 : Int32) < 0 ∨ cl_b6_146.slots.size ≤ ((0 : Int32)).toNatClampNeg) := inb_of S_b6 ⟨by decide, by decide⟩
  obtain ⟨T12, h12, X12, e12, W12, st12⟩ := stI X11 hx hZ rfl Ar_b6 (j := (0 : Int32)) hin146 (g := (mkF m 146 #[.val (.int p1), .val (.int p2), .val (.int p3), .val (.int p4), .val (.int p5), .val (.int (1 : Int32)), .val (.ref b6), .val (.ref b8), .val (.int (1 : Int32)), .val (.int (own_anyf (own_at [p2]) 1 0 0)), .val (.int (0 : Int32)), .unset] [(.int (0 : Int32)), (.int (0 : Int32)), (.ref b6)])) rfl rfl (hb hby at_146)
  have V_b6_12 := Arv.set Ar_b6 q_b6 S_b6 N_b6 H_b6 G_b6 rfl W12 0 rfl (Nat.le_of_ble_eq_true rfl)
  have K12 : Keep h0 h12 [] := K11.wr W12 (Or.inr sz_b6)
  have N12 := Fr.snoc X12 N11 g_b6
  obtain ⟨clC2, ArC2, -, SC2, NC2, HC2, -⟩ := (((VC.keep (own_keq e10) nin0).keep (own_keq e11) nin0).other W12 ne_Ca)
  have HV2 : ∀ j, j < 1 → clC2.slots[j]? = some (.int (own_at [p2] j)) := by
    intro j hj
    match j, hj with
    | 0, _ => exact HC2 0 (by rw [SC2]; decide)
  obtain ⟨cq13, kq13, q13a, q13b, q13c⟩ := isOf hZ e12 ((((E_b8.keep K9c).keep (own_keq e10)).keep (own_keq e11)).wr W12)
  obtain ⟨_, _, ⟨T13, L13, k13, n13⟩, -, X13, ⟨Lc13, hQ13, l13, y13, z13⟩, st13⟩ := X12.virtualBack hx (y := (⟨"com/example/tendril/tendril/WireColumns$Formats", "anyBinary", "()Z"⟩ : MethodName)) (z := (⟨"com/example/tendril/tendril/WireColumns$Formats", "anyBinary", "()Z"⟩ : MethodName)) hown (mvT hZ (hw _ (List.mem_of_getElem? (i := 26) rfl))) (mvT hZ (hw _ (List.mem_of_getElem? (i := 27) rfl))) (notFace_of_selects (args := #[]) (mvT hZ (hw _ (List.mem_of_getElem? (i := 29) rfl)))) (mvT hZ (hw _ (List.mem_of_getElem? (i := 29) rfl))) (mvT hZ (hw _ (List.mem_of_getElem? (i := 28) rfl))) (by decide) (backOf (W := 0) (rm4 l Z a0 hw [] b8 bC clC2 1 (own_at [p2]) h12 n0 (Nat.le_trans Z0 K12.1) (((FC.keep (own_keq e10) nin0).keep (own_keq e11) nin0).other W12 (Or.inl (Ne.symm ne_ao))) ArC2 (SC2.trans (by decide)) HV2 (by decide)) hZ (hw _ (List.mem_of_getElem? (i := 30) rfl)) (hw _ (List.mem_of_getElem? (i := 4) rfl)) (by decide) (by decide)) q13a q13c (g := (mkF m 185 #[.val (.int p1), .val (.int p2), .val (.int p3), .val (.int p4), .val (.int p5), .val (.int (1 : Int32)), .val (.ref b6), .val (.ref b8), .val (.int (1 : Int32)), .val (.int (own_anyf (own_at [p2]) 1 0 0)), .val (.int (0 : Int32)), .unset] [(.ref b8)])) rfl (by rw [hml]; rfl) (Steps.refl _) (argsL := []) (rest := []) (lenOf pd_0_4 rfl) rfl (by show 2 * 0 + _ ≤ _; exact Nat.le_of_eq rfl) (hb hby at_185) (fun _ _ => ⟨rfl, e12, (Nat.le_of_ble_eq_true rfl), (Nat.le_of_ble_eq_true rfl)⟩)
  dsimp only [Pt.U, Pt.locs, Pt.cells, Pt.slots] at X13 l13 y13 z13 st13 hQ13
  subst l13 y13 z13
  obtain ⟨rfl, N13q, e13⟩ := hQ13
  have K13 : Keep h0 T13.heap [] := K12.trans (own_keq e13) all0
  have N13 := Fr.app N12 N13q
  obtain ⟨fs, hr, hrun, hended, hW, hsame⟩ := X13.leave (v := some (.int (1 : Int32))) (fun h => by rw [Bd.returns] at h; cases h)
  refine ⟨_, _, pre0 _ ?_, hrun, hended, _, _, rfl, ?_, ⟨_, rfl⟩, hW, hsame.mono (by decide) (by decide)⟩
  · show Steps p.tables e below (s₁.setTop (mkF m 0 #[.val (.int p1), .val (.int p2), .val (.int p3), .val (.int p4), .val (.int p5), .unset, .unset, .unset, .unset, .unset, .unset, .unset] [])) _
    refine XS.iloadN X0.here hx rfl (hb hby at_0) rfl ?_
    show Steps p.tables e below (s₁.setTop (mkF m 1 #[.val (.int p1), .val (.int p2), .val (.int p3), .val (.int p4), .val (.int p5), .unset, .unset, .unset, .unset, .unset, .unset, .unset] [(.int p1)])) _
    refine X0.ldcInt hx hown (mvT hZ (hw _ (List.mem_of_getElem? (i := 0) rfl))) (g := (mkF m 1 #[.val (.int p1), .val (.int p2), .val (.int p3), .val (.int p4), .val (.int p5), .unset, .unset, .unset, .unset, .unset, .unset, .unset] [(.int p1)])) rfl (hb hby at_1) _ ?_
    show Steps p.tables e below (s₁.setTop (mkF m 3 #[.val (.int p1), .val (.int p2), .val (.int p3), .val (.int p4), .val (.int p5), .unset, .unset, .unset, .unset, .unset, .unset, .unset] [(.int (2147483647 : Int32)), (.int p1)])) _
    refine XS.iand X0.here hx rfl (hb hby at_3) rfl ?_
    show Steps p.tables e below (s₁.setTop (mkF m 4 #[.val (.int p1), .val (.int p2), .val (.int p3), .val (.int p4), .val (.int p5), .unset, .unset, .unset, .unset, .unset, .unset, .unset] [(.int (p1 &&& (2147483647 : Int32)))])) _
    refine XS.iconst X0.here hx rfl (hb hby at_4) ?_
    show Steps p.tables e below (s₁.setTop (mkF m 5 #[.val (.int p1), .val (.int p2), .val (.int p3), .val (.int p4), .val (.int p5), .unset, .unset, .unset, .unset, .unset, .unset, .unset] [(.int (5 : Int32)), (.int (p1 &&& (2147483647 : Int32)))])) _
    refine iremM X0 hx rfl (hb hby at_5) rfl (by decide) ?_
    rw [hp5]
    show Steps p.tables e below (s₁.setTop (mkF m 6 #[.val (.int p1), .val (.int p2), .val (.int p3), .val (.int p4), .val (.int p5), .unset, .unset, .unset, .unset, .unset, .unset, .unset] [(.int (1 : Int32))])) _
    refine XS.istore X0.here hx rfl (hb hby at_6) rfl (l' := #[.val (.int p1), .val (.int p2), .val (.int p3), .val (.int p4), .val (.int p5), .val (.int (1 : Int32)), .unset, .unset, .unset, .unset, .unset, .unset]) rfl ?_
    show Steps p.tables e below (s₁.setTop (mkF m 8 #[.val (.int p1), .val (.int p2), .val (.int p3), .val (.int p4), .val (.int p5), .val (.int (1 : Int32)), .unset, .unset, .unset, .unset, .unset, .unset] [])) _
    refine XS.iload X0.here hx rfl (hb hby at_8) rfl ?_
    show Steps p.tables e below (s₁.setTop (mkF m 10 #[.val (.int p1), .val (.int p2), .val (.int p3), .val (.int p4), .val (.int p5), .val (.int (1 : Int32)), .unset, .unset, .unset, .unset, .unset, .unset] [(.int (1 : Int32))])) _
    refine st6 _ ?_
    show Steps p.tables e below (T6.setTop (mkF m 12 #[.val (.int p1), .val (.int p2), .val (.int p3), .val (.int p4), .val (.int p5), .val (.int (1 : Int32)), .unset, .unset, .unset, .unset, .unset, .unset] [(.ref b6)])) _
    refine XS.astore X6.here hx rfl (hb hby at_12) rfl rfl (l' := #[.val (.int p1), .val (.int p2), .val (.int p3), .val (.int p4), .val (.int p5), .val (.int (1 : Int32)), .val (.ref b6), .unset, .unset, .unset, .unset, .unset]) rfl ?_
    show Steps p.tables e below (T6.setTop (mkF m 14 #[.val (.int p1), .val (.int p2), .val (.int p3), .val (.int p4), .val (.int p5), .val (.int (1 : Int32)), .val (.ref b6), .unset, .unset, .unset, .unset, .unset] [])) _
    refine XS.iload X6.here hx rfl (hb hby at_14) rfl ?_
    show Steps p.tables e below (T6.setTop (mkF m 16 #[.val (.int p1), .val (.int p2), .val (.int p3), .val (.int p4), .val (.int p5), .val (.int (1 : Int32)), .val (.ref b6), .unset, .unset, .unset, .unset, .unset] [(.int (1 : Int32))])) _
    refine XS.ifNo X6.here hx rfl (hb hby at_16) rfl ((if0 _ _).trans (tlt (by decide : (0 : Int32) < (1 : Int32))).2.2.2) ?_
    show Steps p.tables e below (T6.setTop (mkF m 19 #[.val (.int p1), .val (.int p2), .val (.int p3), .val (.int p4), .val (.int p5), .val (.int (1 : Int32)), .val (.ref b6), .unset, .unset, .unset, .unset, .unset] [])) _
    refine XS.aload X6.here hx rfl (hb hby at_19) rfl rfl ?_
    show Steps p.tables e below (T6.setTop (mkF m 21 #[.val (.int p1), .val (.int p2), .val (.int p3), .val (.int p4), .val (.int p5), .val (.int (1 : Int32)), .val (.ref b6), .unset, .unset, .unset, .unset, .unset] [(.ref b6)])) _
    refine XS.iconst X6.here hx rfl (hb hby at_21) ?_
    show Steps p.tables e below (T6.setTop (mkF m 22 #[.val (.int p1), .val (.int p2), .val (.int p3), .val (.int p4), .val (.int p5), .val (.int (1 : Int32)), .val (.ref b6), .unset, .unset, .unset, .unset, .unset] [(.int (0 : Int32)), (.ref b6)])) _
    refine XS.iloadN X6.here hx rfl (hb hby at_22) rfl ?_
    show Steps p.tables e below (T6.setTop (mkF m 23 #[.val (.int p1), .val (.int p2), .val (.int p3), .val (.int p4), .val (.int p5), .val (.int (1 : Int32)), .val (.ref b6), .unset, .unset, .unset, .unset, .unset] [(.int p2), (.int (0 : Int32)), (.ref b6)])) _
    refine st7 _ ?_
    show Steps p.tables e below (T7.setTop (mkF m 24 #[.val (.int p1), .val (.int p2), .val (.int p3), .val (.int p4), .val (.int p5), .val (.int (1 : Int32)), .val (.ref b6), .unset, .unset, .unset, .unset, .unset] [])) _
    refine XS.iload X7.here hx rfl (hb hby at_24) rfl ?_
    show Steps p.tables e below (T7.setTop (mkF m 26 #[.val (.int p1), .val (.int p2), .val (.int p3), .val (.int p4), .val (.int p5), .val (.int (1 : Int32)), .val (.ref b6), .unset, .unset, .unset, .unset, .unset] [(.int (1 : Int32))])) _
    refine XS.iconst X7.here hx rfl (hb hby at_26) ?_
    show Steps p.tables e below (T7.setTop (mkF m 27 #[.val (.int p1), .val (.int p2), .val (.int p3), .val (.int p4), .val (.int p5), .val (.int (1 : Int32)), .val (.ref b6), .unset, .unset, .unset, .unset, .unset] [(.int (1 : Int32)), (.int (1 : Int32))])) _
    refine XS.icmpYes X7.here hx rfl (pc0 := 27) (pc' := 35) rfl (hb hby at_27) rfl (flt (by decide : ¬ ((1 : Int32) < (1 : Int32)))).2.2.2 (by decide) (by decide) ?_
    show Steps p.tables e below (T7.setTop (mkF m 35 #[.val (.int p1), .val (.int p2), .val (.int p3), .val (.int p4), .val (.int p5), .val (.int (1 : Int32)), .val (.ref b6), .unset, .unset, .unset, .unset, .unset] [])) _
    refine XS.iload X7.here hx rfl (hb hby at_35) rfl ?_
    show Steps p.tables e below (T7.setTop (mkF m 37 #[.val (.int p1), .val (.int p2), .val (.int p3), .val (.int p4), .val (.int p5), .val (.int (1 : Int32)), .val (.ref b6), .unset, .unset, .unset, .unset, .unset] [(.int (1 : Int32))])) _
    refine XS.iconst X7.here hx rfl (hb hby at_37) ?_
    show Steps p.tables e below (T7.setTop (mkF m 38 #[.val (.int p1), .val (.int p2), .val (.int p3), .val (.int p4), .val (.int p5), .val (.int (1 : Int32)), .val (.ref b6), .unset, .unset, .unset, .unset, .unset] [(.int (2 : Int32)), (.int (1 : Int32))])) _
    refine XS.icmpYes X7.here hx rfl (pc0 := 38) (pc' := 46) rfl (hb hby at_38) rfl (flt (by decide : ¬ ((2 : Int32) < (1 : Int32)))).2.2.2 (by decide) (by decide) ?_
    show Steps p.tables e below (T7.setTop (mkF m 46 #[.val (.int p1), .val (.int p2), .val (.int p3), .val (.int p4), .val (.int p5), .val (.int (1 : Int32)), .val (.ref b6), .unset, .unset, .unset, .unset, .unset] [])) _
    refine XS.iload X7.here hx rfl (hb hby at_46) rfl ?_
    show Steps p.tables e below (T7.setTop (mkF m 48 #[.val (.int p1), .val (.int p2), .val (.int p3), .val (.int p4), .val (.int p5), .val (.int (1 : Int32)), .val (.ref b6), .unset, .unset, .unset, .unset, .unset] [(.int (1 : Int32))])) _
    refine XS.iconst X7.here hx rfl (hb hby at_48) ?_
    show Steps p.tables e below (T7.setTop (mkF m 49 #[.val (.int p1), .val (.int p2), .val (.int p3), .val (.int p4), .val (.int p5), .val (.int (1 : Int32)), .val (.ref b6), .unset, .unset, .unset, .unset, .unset] [(.int (3 : Int32)), (.int (1 : Int32))])) _
    refine XS.icmpYes X7.here hx rfl (pc0 := 49) (pc' := 58) rfl (hb hby at_49) rfl (flt (by decide : ¬ ((3 : Int32) < (1 : Int32)))).2.2.2 (by decide) (by decide) ?_
    show Steps p.tables e below (T7.setTop (mkF m 58 #[.val (.int p1), .val (.int p2), .val (.int p3), .val (.int p4), .val (.int p5), .val (.int (1 : Int32)), .val (.ref b6), .unset, .unset, .unset, .unset, .unset] [])) _
    refine st8 _ ?_
    show Steps p.tables e below (T8.setTop (mkF m 61 #[.val (.int p1), .val (.int p2), .val (.int p3), .val (.int p4), .val (.int p5), .val (.int (1 : Int32)), .val (.ref b6), .unset, .unset, .unset, .unset, .unset] [(.ref b8)])) _
    refine XS.dup X8.here hx rfl (hb hby at_61) rfl rfl ?_
    show Steps p.tables e below (T8.setTop (mkF m 62 #[.val (.int p1), .val (.int p2), .val (.int p3), .val (.int p4), .val (.int p5), .val (.int (1 : Int32)), .val (.ref b6), .unset, .unset, .unset, .unset, .unset] [(.ref b8), (.ref b8)])) _
    refine XS.aload X8.here hx rfl (hb hby at_62) rfl rfl ?_
    show Steps p.tables e below (T8.setTop (mkF m 64 #[.val (.int p1), .val (.int p2), .val (.int p3), .val (.int p4), .val (.int p5), .val (.int (1 : Int32)), .val (.ref b6), .unset, .unset, .unset, .unset, .unset] [(.ref b6), (.ref b8), (.ref b8)])) _
    refine st9.trans ?_
    show Steps p.tables e below (T9.setTop (mkF m 67 #[.val (.int p1), .val (.int p2), .val (.int p3), .val (.int p4), .val (.int p5), .val (.int (1 : Int32)), .val (.ref b6), .unset, .unset, .unset, .unset, .unset] [(.ref b8)])) _
    refine XS.astore X9.here hx rfl (hb hby at_67) rfl rfl (l' := #[.val (.int p1), .val (.int p2), .val (.int p3), .val (.int p4), .val (.int p5), .val (.int (1 : Int32)), .val (.ref b6), .val (.ref b8), .unset, .unset, .unset, .unset]) rfl ?_
    show Steps p.tables e below (T9.setTop (mkF m 69 #[.val (.int p1), .val (.int p2), .val (.int p3), .val (.int p4), .val (.int p5), .val (.int (1 : Int32)), .val (.ref b6), .val (.ref b8), .unset, .unset, .unset, .unset] [])) _
    refine XS.iload X9.here hx rfl (hb hby at_69) rfl ?_
    show Steps p.tables e below (T9.setTop (mkF m 71 #[.val (.int p1), .val (.int p2), .val (.int p3), .val (.int p4), .val (.int p5), .val (.int (1 : Int32)), .val (.ref b6), .val (.ref b8), .unset, .unset, .unset, .unset] [(.int (1 : Int32))])) _
    refine XS.iconst X9.here hx rfl (hb hby at_71) ?_
    show Steps p.tables e below (T9.setTop (mkF m 72 #[.val (.int p1), .val (.int p2), .val (.int p3), .val (.int p4), .val (.int p5), .val (.int (1 : Int32)), .val (.ref b6), .val (.ref b8), .unset, .unset, .unset, .unset] [(.int (0 : Int32)), (.int (1 : Int32))])) _
    refine XS.iloadN X9.here hx rfl (hb hby at_72) rfl ?_
    show Steps p.tables e below (T9.setTop (mkF m 73 #[.val (.int p1), .val (.int p2), .val (.int p3), .val (.int p4), .val (.int p5), .val (.int (1 : Int32)), .val (.ref b6), .val (.ref b8), .unset, .unset, .unset, .unset] [(.int p2), (.int (0 : Int32)), (.int (1 : Int32))])) _
    refine st10 _ ?_
    show Steps p.tables e below (T10.setTop (mkF m 76 #[.val (.int p1), .val (.int p2), .val (.int p3), .val (.int p4), .val (.int p5), .val (.int (1 : Int32)), .val (.ref b6), .val (.ref b8), .unset, .unset, .unset, .unset] [(.int (1 : Int32))])) _
    refine XS.ifYes X10.here hx rfl (pc0 := 76) (pc' := 110) rfl (hb hby at_76) rfl ((if0 _ _).trans (feq (by decide : ¬ ((1 : Int32) = (0 : Int32)))).2) (by decide) (by decide) ?_
    show Steps p.tables e below (T10.setTop (mkF m 110 #[.val (.int p1), .val (.int p2), .val (.int p3), .val (.int p4), .val (.int p5), .val (.int (1 : Int32)), .val (.ref b6), .val (.ref b8), .unset, .unset, .unset, .unset] [])) _
    refine XS.iconst X10.here hx rfl (hb hby at_110) ?_
    show Steps p.tables e below (T10.setTop (mkF m 111 #[.val (.int p1), .val (.int p2), .val (.int p3), .val (.int p4), .val (.int p5), .val (.int (1 : Int32)), .val (.ref b6), .val (.ref b8), .unset, .unset, .unset, .unset] [(.int (1 : Int32))])) _
    refine XS.goto X10.here hx rfl (pc0 := 111) (pc' := 115) rfl (hb hby at_111) (by decide) (by decide) ?_
    show Steps p.tables e below (T10.setTop (mkF m 115 #[.val (.int p1), .val (.int p2), .val (.int p3), .val (.int p4), .val (.int p5), .val (.int (1 : Int32)), .val (.ref b6), .val (.ref b8), .unset, .unset, .unset, .unset] [(.int (1 : Int32))])) _
    refine XS.istore X10.here hx rfl (hb hby at_115) rfl (l' := #[.val (.int p1), .val (.int p2), .val (.int p3), .val (.int p4), .val (.int p5), .val (.int (1 : Int32)), .val (.ref b6), .val (.ref b8), .val (.int (1 : Int32)), .unset, .unset, .unset]) rfl ?_
    show Steps p.tables e below (T10.setTop (mkF m 117 #[.val (.int p1), .val (.int p2), .val (.int p3), .val (.int p4), .val (.int p5), .val (.int (1 : Int32)), .val (.ref b6), .val (.ref b8), .val (.int (1 : Int32)), .unset, .unset, .unset] [])) _
    refine XS.aload X10.here hx rfl (hb hby at_117) rfl rfl ?_
    show Steps p.tables e below (T10.setTop (mkF m 119 #[.val (.int p1), .val (.int p2), .val (.int p3), .val (.int p4), .val (.int p5), .val (.int (1 : Int32)), .val (.ref b6), .val (.ref b8), .val (.int (1 : Int32)), .unset, .unset, .unset] [(.ref b8)])) _
    refine st11.trans ?_
    show Steps p.tables e below (T11.setTop (mkF m 122 #[.val (.int p1), .val (.int p2), .val (.int p3), .val (.int p4), .val (.int p5), .val (.int (1 : Int32)), .val (.ref b6), .val (.ref b8), .val (.int (1 : Int32)), .unset, .unset, .unset] [(.int (own_anyf (own_at [p2]) 1 0 0))])) _
    refine XS.istore X11.here hx rfl (hb hby at_122) rfl (l' := #[.val (.int p1), .val (.int p2), .val (.int p3), .val (.int p4), .val (.int p5), .val (.int (1 : Int32)), .val (.ref b6), .val (.ref b8), .val (.int (1 : Int32)), .val (.int (own_anyf (own_at [p2]) 1 0 0)), .unset, .unset]) rfl ?_
    show Steps p.tables e below (T11.setTop (mkF m 124 #[.val (.int p1), .val (.int p2), .val (.int p3), .val (.int p4), .val (.int p5), .val (.int (1 : Int32)), .val (.ref b6), .val (.ref b8), .val (.int (1 : Int32)), .val (.int (own_anyf (own_at [p2]) 1 0 0)), .unset, .unset] [])) _
    refine XS.iload X11.here hx rfl (hb hby at_124) rfl ?_
    show Steps p.tables e below (T11.setTop (mkF m 126 #[.val (.int p1), .val (.int p2), .val (.int p3), .val (.int p4), .val (.int p5), .val (.int (1 : Int32)), .val (.ref b6), .val (.ref b8), .val (.int (1 : Int32)), .val (.int (own_anyf (own_at [p2]) 1 0 0)), .unset, .unset] [(.int (1 : Int32))])) _
    refine XS.ifNo X11.here hx rfl (hb hby at_126) rfl ((if0 _ _).trans (feq (by decide : ¬ ((1 : Int32) = (0 : Int32)))).1) ?_
    show Steps p.tables e below (T11.setTop (mkF m 129 #[.val (.int p1), .val (.int p2), .val (.int p3), .val (.int p4), .val (.int p5), .val (.int (1 : Int32)), .val (.ref b6), .val (.ref b8), .val (.int (1 : Int32)), .val (.int (own_anyf (own_at [p2]) 1 0 0)), .unset, .unset] [])) _
    refine XS.iconst X11.here hx rfl (hb hby at_129) ?_
    show Steps p.tables e below (T11.setTop (mkF m 130 #[.val (.int p1), .val (.int p2), .val (.int p3), .val (.int p4), .val (.int p5), .val (.int (1 : Int32)), .val (.ref b6), .val (.ref b8), .val (.int (1 : Int32)), .val (.int (own_anyf (own_at [p2]) 1 0 0)), .unset, .unset] [(.int (0 : Int32))])) _
    refine XS.goto X11.here hx rfl (pc0 := 130) (pc' := 134) rfl (hb hby at_130) (by decide) (by decide) ?_
    show Steps p.tables e below (T11.setTop (mkF m 134 #[.val (.int p1), .val (.int p2), .val (.int p3), .val (.int p4), .val (.int p5), .val (.int (1 : Int32)), .val (.ref b6), .val (.ref b8), .val (.int (1 : Int32)), .val (.int (own_anyf (own_at [p2]) 1 0 0)), .unset, .unset] [(.int (0 : Int32))])) _
    refine XS.istore X11.here hx rfl (hb hby at_134) rfl (l' := #[.val (.int p1), .val (.int p2), .val (.int p3), .val (.int p4), .val (.int p5), .val (.int (1 : Int32)), .val (.ref b6), .val (.ref b8), .val (.int (1 : Int32)), .val (.int (own_anyf (own_at [p2]) 1 0 0)), .val (.int (0 : Int32)), .unset]) rfl ?_
    show Steps p.tables e below (T11.setTop (mkF m 136 #[.val (.int p1), .val (.int p2), .val (.int p3), .val (.int p4), .val (.int p5), .val (.int (1 : Int32)), .val (.ref b6), .val (.ref b8), .val (.int (1 : Int32)), .val (.int (own_anyf (own_at [p2]) 1 0 0)), .val (.int (0 : Int32)), .unset] [])) _
    refine XS.iload X11.here hx rfl (hb hby at_136) rfl ?_
    show Steps p.tables e below (T11.setTop (mkF m 138 #[.val (.int p1), .val (.int p2), .val (.int p3), .val (.int p4), .val (.int p5), .val (.int (1 : Int32)), .val (.ref b6), .val (.ref b8), .val (.int (1 : Int32)), .val (.int (own_anyf (own_at [p2]) 1 0 0)), .val (.int (0 : Int32)), .unset] [(.int (1 : Int32))])) _
    refine XS.ifNo X11.here hx rfl (hb hby at_138) rfl ((if0 _ _).trans (tlt (by decide : (0 : Int32) < (1 : Int32))).2.2.2) ?_
    show Steps p.tables e below (T11.setTop (mkF m 141 #[.val (.int p1), .val (.int p2), .val (.int p3), .val (.int p4), .val (.int p5), .val (.int (1 : Int32)), .val (.ref b6), .val (.ref b8), .val (.int (1 : Int32)), .val (.int (own_anyf (own_at [p2]) 1 0 0)), .val (.int (0 : Int32)), .unset] [])) _
    refine XS.aload X11.here hx rfl (hb hby at_141) rfl rfl ?_
    show Steps p.tables e below (T11.setTop (mkF m 143 #[.val (.int p1), .val (.int p2), .val (.int p3), .val (.int p4), .val (.int p5), .val (.int (1 : Int32)), .val (.ref b6), .val (.ref b8), .val (.int (1 : Int32)), .val (.int (own_anyf (own_at [p2]) 1 0 0)), .val (.int (0 : Int32)), .unset] [(.ref b6)])) _
    refine XS.iconst X11.here hx rfl (hb hby at_143) ?_
    show Steps p.tables e below (T11.setTop (mkF m 144 #[.val (.int p1), .val (.int p2), .val (.int p3), .val (.int p4), .val (.int p5), .val (.int (1 : Int32)), .val (.ref b6), .val (.ref b8), .val (.int (1 : Int32)), .val (.int (own_anyf (own_at [p2]) 1 0 0)), .val (.int (0 : Int32)), .unset] [(.int (0 : Int32)), (.ref b6)])) _
    refine XS.iload X11.here hx rfl (hb hby at_144) rfl ?_
    show Steps p.tables e below (T11.setTop (mkF m 146 #[.val (.int p1), .val (.int p2), .val (.int p3), .val (.int p4), .val (.int p5), .val (.int (1 : Int32)), .val (.ref b6), .val (.ref b8), .val (.int (1 : Int32)), .val (.int (own_anyf (own_at [p2]) 1 0 0)), .val (.int (0 : Int32)), .unset] [(.int (0 : Int32)), (.int (0 : Int32)), (.ref b6)])) _
    refine st12 _ ?_
    show Steps p.tables e below (T12.setTop (mkF m 147 #[.val (.int p1), .val (.int p2), .val (.int p3), .val (.int p4), .val (.int p5), .val (.int (1 : Int32)), .val (.ref b6), .val (.ref b8), .val (.int (1 : Int32)), .val (.int (own_anyf (own_at [p2]) 1 0 0)), .val (.int (0 : Int32)), .unset] [])) _
    refine XS.iload X12.here hx rfl (hb hby at_147) rfl ?_
    show Steps p.tables e below (T12.setTop (mkF m 149 #[.val (.int p1), .val (.int p2), .val (.int p3), .val (.int p4), .val (.int p5), .val (.int (1 : Int32)), .val (.ref b6), .val (.ref b8), .val (.int (1 : Int32)), .val (.int (own_anyf (own_at [p2]) 1 0 0)), .val (.int (0 : Int32)), .unset] [(.int (1 : Int32))])) _
    refine XS.iconst X12.here hx rfl (hb hby at_149) ?_
    show Steps p.tables e below (T12.setTop (mkF m 150 #[.val (.int p1), .val (.int p2), .val (.int p3), .val (.int p4), .val (.int p5), .val (.int (1 : Int32)), .val (.ref b6), .val (.ref b8), .val (.int (1 : Int32)), .val (.int (own_anyf (own_at [p2]) 1 0 0)), .val (.int (0 : Int32)), .unset] [(.int (1 : Int32)), (.int (1 : Int32))])) _
    refine XS.icmpYes X12.here hx rfl (pc0 := 150) (pc' := 159) rfl (hb hby at_150) rfl (flt (by decide : ¬ ((1 : Int32) < (1 : Int32)))).2.2.2 (by decide) (by decide) ?_
    show Steps p.tables e below (T12.setTop (mkF m 159 #[.val (.int p1), .val (.int p2), .val (.int p3), .val (.int p4), .val (.int p5), .val (.int (1 : Int32)), .val (.ref b6), .val (.ref b8), .val (.int (1 : Int32)), .val (.int (own_anyf (own_at [p2]) 1 0 0)), .val (.int (0 : Int32)), .unset] [])) _
    refine XS.iload X12.here hx rfl (hb hby at_159) rfl ?_
    show Steps p.tables e below (T12.setTop (mkF m 161 #[.val (.int p1), .val (.int p2), .val (.int p3), .val (.int p4), .val (.int p5), .val (.int (1 : Int32)), .val (.ref b6), .val (.ref b8), .val (.int (1 : Int32)), .val (.int (own_anyf (own_at [p2]) 1 0 0)), .val (.int (0 : Int32)), .unset] [(.int (1 : Int32))])) _
    refine XS.iconst X12.here hx rfl (hb hby at_161) ?_
    show Steps p.tables e below (T12.setTop (mkF m 162 #[.val (.int p1), .val (.int p2), .val (.int p3), .val (.int p4), .val (.int p5), .val (.int (1 : Int32)), .val (.ref b6), .val (.ref b8), .val (.int (1 : Int32)), .val (.int (own_anyf (own_at [p2]) 1 0 0)), .val (.int (0 : Int32)), .unset] [(.int (2 : Int32)), (.int (1 : Int32))])) _
    refine XS.icmpYes X12.here hx rfl (pc0 := 162) (pc' := 171) rfl (hb hby at_162) rfl (flt (by decide : ¬ ((2 : Int32) < (1 : Int32)))).2.2.2 (by decide) (by decide) ?_
    show Steps p.tables e below (T12.setTop (mkF m 171 #[.val (.int p1), .val (.int p2), .val (.int p3), .val (.int p4), .val (.int p5), .val (.int (1 : Int32)), .val (.ref b6), .val (.ref b8), .val (.int (1 : Int32)), .val (.int (own_anyf (own_at [p2]) 1 0 0)), .val (.int (0 : Int32)), .unset] [])) _
    refine XS.iload X12.here hx rfl (hb hby at_171) rfl ?_
    show Steps p.tables e below (T12.setTop (mkF m 173 #[.val (.int p1), .val (.int p2), .val (.int p3), .val (.int p4), .val (.int p5), .val (.int (1 : Int32)), .val (.ref b6), .val (.ref b8), .val (.int (1 : Int32)), .val (.int (own_anyf (own_at [p2]) 1 0 0)), .val (.int (0 : Int32)), .unset] [(.int (1 : Int32))])) _
    refine XS.iconst X12.here hx rfl (hb hby at_173) ?_
    show Steps p.tables e below (T12.setTop (mkF m 174 #[.val (.int p1), .val (.int p2), .val (.int p3), .val (.int p4), .val (.int p5), .val (.int (1 : Int32)), .val (.ref b6), .val (.ref b8), .val (.int (1 : Int32)), .val (.int (own_anyf (own_at [p2]) 1 0 0)), .val (.int (0 : Int32)), .unset] [(.int (3 : Int32)), (.int (1 : Int32))])) _
    refine XS.icmpYes X12.here hx rfl (pc0 := 174) (pc' := 183) rfl (hb hby at_174) rfl (flt (by decide : ¬ ((3 : Int32) < (1 : Int32)))).2.2.2 (by decide) (by decide) ?_
    show Steps p.tables e below (T12.setTop (mkF m 183 #[.val (.int p1), .val (.int p2), .val (.int p3), .val (.int p4), .val (.int p5), .val (.int (1 : Int32)), .val (.ref b6), .val (.ref b8), .val (.int (1 : Int32)), .val (.int (own_anyf (own_at [p2]) 1 0 0)), .val (.int (0 : Int32)), .unset] [])) _
    refine XS.aload X12.here hx rfl (hb hby at_183) rfl rfl ?_
    show Steps p.tables e below (T12.setTop (mkF m 185 #[.val (.int p1), .val (.int p2), .val (.int p3), .val (.int p4), .val (.int p5), .val (.int (1 : Int32)), .val (.ref b6), .val (.ref b8), .val (.int (1 : Int32)), .val (.int (own_anyf (own_at [p2]) 1 0 0)), .val (.int (0 : Int32)), .unset] [(.ref b8)])) _
    refine st13.trans ?_
    show Steps p.tables e below (T13.setTop (mkF m 188 #[.val (.int p1), .val (.int p2), .val (.int p3), .val (.int p4), .val (.int p5), .val (.int (1 : Int32)), .val (.ref b6), .val (.ref b8), .val (.int (1 : Int32)), .val (.int (own_anyf (own_at [p2]) 1 0 0)), .val (.int (0 : Int32)), .unset] [(.int (own_anyf (own_at [p2]) 1 0 0))])) _
    refine XS.istore X13.here hx rfl (hb hby at_188) rfl (l' := #[.val (.int p1), .val (.int p2), .val (.int p3), .val (.int p4), .val (.int p5), .val (.int (1 : Int32)), .val (.ref b6), .val (.ref b8), .val (.int (1 : Int32)), .val (.int (own_anyf (own_at [p2]) 1 0 0)), .val (.int (0 : Int32)), .val (.int (own_anyf (own_at [p2]) 1 0 0))]) rfl ?_
    show Steps p.tables e below (T13.setTop (mkF m 190 #[.val (.int p1), .val (.int p2), .val (.int p3), .val (.int p4), .val (.int p5), .val (.int (1 : Int32)), .val (.ref b6), .val (.ref b8), .val (.int (1 : Int32)), .val (.int (own_anyf (own_at [p2]) 1 0 0)), .val (.int (0 : Int32)), .val (.int (own_anyf (own_at [p2]) 1 0 0))] [])) _
    refine XS.iload X13.here hx rfl (hb hby at_190) rfl ?_
    show Steps p.tables e below (T13.setTop (mkF m 192 #[.val (.int p1), .val (.int p2), .val (.int p3), .val (.int p4), .val (.int p5), .val (.int (1 : Int32)), .val (.ref b6), .val (.ref b8), .val (.int (1 : Int32)), .val (.int (own_anyf (own_at [p2]) 1 0 0)), .val (.int (0 : Int32)), .val (.int (own_anyf (own_at [p2]) 1 0 0))] [(.int (own_anyf (own_at [p2]) 1 0 0))])) _
    refine XS.iload X13.here hx rfl (hb hby at_192) rfl ?_
    show Steps p.tables e below (T13.setTop (mkF m 194 #[.val (.int p1), .val (.int p2), .val (.int p3), .val (.int p4), .val (.int p5), .val (.int (1 : Int32)), .val (.ref b6), .val (.ref b8), .val (.int (1 : Int32)), .val (.int (own_anyf (own_at [p2]) 1 0 0)), .val (.int (0 : Int32)), .val (.int (own_anyf (own_at [p2]) 1 0 0))] [(.int (1 : Int32)), (.int (own_anyf (own_at [p2]) 1 0 0))])) _
    refine XS.icmpNo X13.here hx rfl (hb hby at_194) rfl (teq (own_ok : (own_anyf (own_at [p2]) 1 0 0) = (1 : Int32))).2 ?_
    show Steps p.tables e below (T13.setTop (mkF m 197 #[.val (.int p1), .val (.int p2), .val (.int p3), .val (.int p4), .val (.int p5), .val (.int (1 : Int32)), .val (.ref b6), .val (.ref b8), .val (.int (1 : Int32)), .val (.int (own_anyf (own_at [p2]) 1 0 0)), .val (.int (0 : Int32)), .val (.int (own_anyf (own_at [p2]) 1 0 0))] [])) _
    refine XS.iload X13.here hx rfl (hb hby at_197) rfl ?_
    show Steps p.tables e below (T13.setTop (mkF m 199 #[.val (.int p1), .val (.int p2), .val (.int p3), .val (.int p4), .val (.int p5), .val (.int (1 : Int32)), .val (.ref b6), .val (.ref b8), .val (.int (1 : Int32)), .val (.int (own_anyf (own_at [p2]) 1 0 0)), .val (.int (0 : Int32)), .val (.int (own_anyf (own_at [p2]) 1 0 0))] [(.int (own_anyf (own_at [p2]) 1 0 0))])) _
    refine XS.iload X13.here hx rfl (hb hby at_199) rfl ?_
    show Steps p.tables e below (T13.setTop (mkF m 201 #[.val (.int p1), .val (.int p2), .val (.int p3), .val (.int p4), .val (.int p5), .val (.int (1 : Int32)), .val (.ref b6), .val (.ref b8), .val (.int (1 : Int32)), .val (.int (own_anyf (own_at [p2]) 1 0 0)), .val (.int (0 : Int32)), .val (.int (own_anyf (own_at [p2]) 1 0 0))] [(.int (1 : Int32)), (.int (own_anyf (own_at [p2]) 1 0 0))])) _
    refine XS.icmpNo X13.here hx rfl (hb hby at_201) rfl (teq (own_ok : (own_anyf (own_at [p2]) 1 0 0) = (1 : Int32))).2 ?_
    show Steps p.tables e below (T13.setTop (mkF m 204 #[.val (.int p1), .val (.int p2), .val (.int p3), .val (.int p4), .val (.int p5), .val (.int (1 : Int32)), .val (.ref b6), .val (.ref b8), .val (.int (1 : Int32)), .val (.int (own_anyf (own_at [p2]) 1 0 0)), .val (.int (0 : Int32)), .val (.int (own_anyf (own_at [p2]) 1 0 0))] [])) _
    refine XS.iconst X13.here hx rfl (hb hby at_204) ?_
    show Steps p.tables e below (T13.setTop (mkF m 205 #[.val (.int p1), .val (.int p2), .val (.int p3), .val (.int p4), .val (.int p5), .val (.int (1 : Int32)), .val (.ref b6), .val (.ref b8), .val (.int (1 : Int32)), .val (.int (own_anyf (own_at [p2]) 1 0 0)), .val (.int (0 : Int32)), .val (.int (own_anyf (own_at [p2]) 1 0 0))] [(.int (1 : Int32))])) _
    refine XS.goto X13.here hx rfl (pc0 := 205) (pc' := 209) rfl (hb hby at_205) (by decide) (by decide) ?_
    show Steps p.tables e below (T13.setTop (mkF m 209 #[.val (.int p1), .val (.int p2), .val (.int p3), .val (.int p4), .val (.int p5), .val (.int (1 : Int32)), .val (.ref b6), .val (.ref b8), .val (.int (1 : Int32)), .val (.int (own_anyf (own_at [p2]) 1 0 0)), .val (.int (0 : Int32)), .val (.int (own_anyf (own_at [p2]) 1 0 0))] [(.int (1 : Int32))])) _
    exact retN X13 hx (t := .boolean) Bd.returns (by simp) (hb hby at_209) hr
  · show Q0_10 Z p1 p2 p3 p4 p5 h0 n0 _ T13.heap _
    exact ⟨rfl, N13⟩
def Q0_11 (Z : State) (p1 : Int32) (p2 : Int32) (p3 : Int32) (p4 : Int32) (p5 : Int32) (h0 : Heap) (n0 : Nat) (v : Option Value) (h : Heap) (L : List Loc) : Prop := v = some (.int (1 : Int32)) ∧ Fr n0 L
set_option maxRecDepth 65536 in
set_option maxHeartbeats 40000000 in
theorem rm0_11 (l : Launch) (Z : State) (a0 : Array Value) (hw : ∀ d ∈ tables_1, d.before a0 Z = true) (ws : List Jvm.Cond) (p1 : Int32) (p2 : Int32) (p3 : Int32) (p4 : Int32) (p5 : Int32) (h0 : Heap) (n0 : Nat) (Z0 : n0 ≤ h0.size) (hp5 : ((p1 &&& (2147483647 : Int32)) % (5 : Int32)) = (1 : Int32)) (ch0 : ¬ (p2 = (1 : Int32))) :
    MetFree l x (head1 (Jvm.Cond.code x code maxLocals ret :: ws) room_1) (fun a U => a = #[(.int p1), (.int p2), (.int p3), (.int p4), (.int p5)] ∧ Z.Warmed39 U.vm ∧ U.heap = h0) (fun _ _ _ _ _ => True) (fun _ U o U' => ∃ v L, o = .returned v ∧ Q0_11 Z p1 p2 p3 p4 p5 h0 n0 v U'.heap L ∧ FrameEnd U o U' L room_1.cells room_1.slots) := by
  refine MetFree.of_bodySF (plainFor_of_name pn_0) hisR ?_
  intro p e s m args below meth c s₁ Bd hml0 hP hK
  obtain ⟨rfl, hZ, hh⟩ := hP
  have own_ok : (own_anyf (own_at [p2]) 1 0 0) = (0 : Int32) := by
    simp [own_anyf, own_or, own_at, ch0]
  have hx := Bd.exec
  have hby := Bd.bytes
  have hml : c.maxLocals = 12 := hml0
  have hown : s.vm.findClass "com/example/tendril/tendril/FormatsAnyBinaryPinLaw" = some m.cls := findClass_of_methodNamed Bd.named
  have hnm := (name_of_methodNamed Bd.named Bd.method).1
  have X0 : Stand p l e room_1 s m #[(.int p1), (.int p2), (.int p3), (.int p4), (.int p5)] below meth c s₁ [] 0 0 := Stand.of_body Bd
  have e0 : s₁.heap = h0 := by rw [← hh, Bd.state]; rfl
  have N0 := Fr.nil n0
  have pre0 : ∀ t, Steps p.tables e below (s₁.setTop (mkF m 0 #[.val (.int p1), .val (.int p2), .val (.int p3), .val (.int p4), .val (.int p5), .unset, .unset, .unset, .unset, .unset, .unset, .unset] [])) t → Steps p.tables e below (s₁.setTop (entryFrame m #[(.int p1), (.int p2), (.int p3), (.int p4), (.int p5)] maxLocals)) t := fun t k => castTop (ef_0 m p1 p2 p3 p4 p5) k
  obtain ⟨T6, h6, k6, X6, e6, E6, A6, Ea6, st6⟩ := newPE X0 hx hZ (hw _ (List.mem_of_getElem? (i := 1) rfl)) e0 (g := (mkF m 10 #[.val (.int p1), .val (.int p2), .val (.int p3), .val (.int p4), .val (.int p5), .val (.int (1 : Int32)), .unset, .unset, .unset, .unset, .unset, .unset] [(.int (1 : Int32))])) rfl (hb hby at_10) rfl (by decide) (cap := 1) (by decide) (by decide) (by decide) (by decide) (ad := "[I") rfl
  obtain ⟨b6, g6⟩ : ∃ z, z = h0.size := ⟨_, rfl⟩
  rw [← g6] at A6 Ea6 st6
  have V_b6 : Arv Z h6 b6 k6 .int (1 : Int32) [(.int (0 : Int32))] (.int (0 : Int32)) := (Arv.new A6 (by decide)).pad (pad_rep [] (.int (0 : Int32)) 1)
  have g_b6 : n0 ≤ b6 := Nat.le_trans Z0 (Nat.le_of_eq g6.symm)
  have sz_b6 : h0.size ≤ b6 := (Nat.le_trans (Keep.refl h0 []).1 (Nat.le_of_eq g6.symm))
  have K6 : Keep h0 h6 [] := (Keep.refl h0 []).ext E6
  obtain ⟨cl_b6_23, Ar_b6, q_b6, S_b6, N_b6, H_b6, G_b6⟩ := V_b6
  have hin23 : ¬ ((0 : Int32) < 0 ∨ cl_b6_23.slots.size ≤ ((0 : Int32)).toNatClampNeg) := inb_of S_b6 ⟨by decide, by decide⟩
  obtain ⟨T7, h7, X7, e7, W7, st7⟩ := stI X6 hx hZ e6 Ar_b6 (j := (0 : Int32)) hin23 (g := (mkF m 23 #[.val (.int p1), .val (.int p2), .val (.int p3), .val (.int p4), .val (.int p5), .val (.int (1 : Int32)), .val (.ref b6), .unset, .unset, .unset, .unset, .unset] [(.int p2), (.int (0 : Int32)), (.ref b6)])) rfl rfl (hb hby at_23)
  have V_b6_7 := Arv.set Ar_b6 q_b6 S_b6 N_b6 H_b6 G_b6 rfl W7 0 rfl (Nat.le_of_ble_eq_true rfl)
  have K7 : Keep h0 h7 [] := K6.wr W7 (Or.inr sz_b6)
  have N7 := Fr.snoc X7 N0 g_b6
  obtain ⟨T8, h8, X8, e8, E8, A8, D8, -, st8⟩ := newO X7 hx hZ hown (hw _ (List.mem_of_getElem? (i := 2) rfl)) (hw _ (List.mem_of_getElem? (i := 3) rfl)) (hw _ (List.mem_of_getElem? (i := 4) rfl)) e7 (g := (mkF m 58 #[.val (.int p1), .val (.int p2), .val (.int p3), .val (.int p4), .val (.int p5), .val (.int (1 : Int32)), .val (.ref b6), .unset, .unset, .unset, .unset, .unset] [])) rfl (hb hby at_58) (by decide) (by decide)
  obtain ⟨b8, g8⟩ : ∃ z, z = h7.size := ⟨_, rfl⟩
  rw [← g8] at A8 D8 st8
  have F_codes_b8 : Fld Z h8 b8 "com/example/tendril/tendril/WireColumns$Formats" "codes" "[I" .null := D8 (Or.inr (hw _ (List.mem_of_getElem? (i := 21) rfl))) (ty := (.array .int)) (by decide)
  have E_b8 := A8
  have g_b8 : n0 ≤ b8 := Nat.le_trans (Nat.le_trans (Nat.le_trans Z0 E6.1) (Keep.of_wr W7).1) (Nat.le_of_eq g8.symm)
  have sz_b8 : h0.size ≤ b8 := (Nat.le_trans K7.1 (Nat.le_of_eq g8.symm))
  have K8 : Keep h0 h8 [] := K7.ext E8
  obtain ⟨_, _, ⟨T9, L9, k9, n9⟩, -, X9, ⟨Lc9, hQ9, l9, y9, z9⟩, st9⟩ := X8.specialBack hx (y := (⟨"com/example/tendril/tendril/WireColumns$Formats", "<init>", "([I)V"⟩ : MethodName)) rfl hown (mvT hZ (hw _ (List.mem_of_getElem? (i := 5) rfl))) (mvT hZ (hw _ (List.mem_of_getElem? (i := 6) rfl))) (mvT hZ (hw _ (List.mem_of_getElem? (i := 7) rfl))) (by decide) (backOf (W := 1) (rm1 l Z a0 hw [] b8 b6 .null _ _ _ _ h8 n0 (Nat.le_trans Z0 K8.1) ((Ea6.wr W7).ext E8) (V_b6_7.ext E8) (by decide) E_b8 F_codes_b8 g_b8) hZ (hw _ (List.mem_of_getElem? (i := 7) rfl)) (hw _ (List.mem_of_getElem? (i := 4) rfl)) (by decide) (by decide)) (g := (mkF m 64 #[.val (.int p1), .val (.int p2), .val (.int p3), .val (.int p4), .val (.int p5), .val (.int (1 : Int32)), .val (.ref b6), .unset, .unset, .unset, .unset, .unset] [(.ref b6), (.ref b8), (.ref b8)])) rfl (by rw [hml]; rfl) (Steps.refl _) (a := b8) (argsL := [(.ref b6)]) (rest := [(.ref b8)]) (lenOf pd_0_0 rfl) rfl (by show 2 * 0 + _ ≤ _; exact Nat.le_of_eq rfl) (hb hby at_64) (fun _ _ => ⟨rfl, e8, (Nat.le_of_ble_eq_true rfl), (Nat.le_of_ble_eq_true rfl)⟩)
  dsimp only [Pt.U, Pt.locs, Pt.cells, Pt.slots] at X9 l9 y9 z9 st9 hQ9
  subst l9 y9 z9
  obtain ⟨rfl, N9q, K9c, E9c, bC, szC, FC, VC⟩ := hQ9
  have ne_ao : b6 ≠ b8 := Nat.ne_of_lt (Nat.lt_of_lt_of_le V_b6_7.lt (Nat.le_of_eq g8.symm))
  have ne_Ca : bC ≠ b6 := Ne.symm (Nat.ne_of_lt (Nat.lt_of_lt_of_le (V_b6_7.ext E8).lt szC))
  have K9 : Keep h0 T9.heap [] := K8.trans K9c (allS (Or.inr sz_b8) all0)
  have N9 := Fr.app N7 N9q
  obtain ⟨_, _, ⟨T10, L10, k10, n10⟩, -, X10, ⟨Lc10, hQ10, l10, y10, z10⟩, st10⟩ := Jvm.LawKit.callS X9 hx (y := (⟨"com/example/tendril/tendril/FormatsAnyBinaryPinLaw", "hit", "(III)Z"⟩ : MethodName)) hown (mvT hZ (hw _ (List.mem_of_getElem? (i := 22) rfl))) (mvT hZ (hw _ (List.mem_of_getElem? (i := 23) rfl))) (mvT hZ (hw _ (List.mem_of_getElem? (i := 24) rfl))) (mvT hZ (hw _ (List.mem_of_getElem? (i := 25) rfl))) (by decide) (backOf (W := 0) (rm3ft l Z a0 hw [] (1 : Int32) (0 : Int32) p2 T9.heap n0 (Nat.le_trans Z0 K9.1) (by decide) ch0) hZ (hw _ (List.mem_of_getElem? (i := 25) rfl)) (hw _ (List.mem_of_getElem? (i := 24) rfl)) (by decide) (by decide)) (g := (mkF m 73 #[.val (.int p1), .val (.int p2), .val (.int p3), .val (.int p4), .val (.int p5), .val (.int (1 : Int32)), .val (.ref b6), .val (.ref b8), .unset, .unset, .unset, .unset] [(.int p2), (.int (0 : Int32)), (.int (1 : Int32))])) rfl (by rw [hml]; rfl) (argsL := [(.int (1 : Int32)), (.int (0 : Int32)), (.int p2)]) (rest := []) (lenOf pd_0_3 rfl) rfl (by show 2 * 0 + _ ≤ _; exact Nat.le_of_eq rfl) (hb hby at_73) (fun _ _ => ⟨rfl, rfl, (Nat.le_of_ble_eq_true rfl), (Nat.le_of_ble_eq_true rfl)⟩)
  dsimp only [Pt.U, Pt.locs, Pt.cells, Pt.slots] at X10 l10 y10 z10 st10 hQ10
  subst l10 y10 z10
  obtain ⟨rfl, N10q, e10⟩ := hQ10
  have K10 : Keep h0 T10.heap [] := K9.trans (own_keq e10) all0
  have N10 := Fr.app N9 N10q
  obtain ⟨_, _, ⟨T11, L11, k11, n11⟩, -, X11, ⟨Lc11, hQ11, l11, y11, z11⟩, st11⟩ := Jvm.LawKit.callS X10 hx (y := (⟨"com/example/tendril/tendril/FormatsAnyBinaryPinLaw", "hit", "(III)Z"⟩ : MethodName)) hown (mvT hZ (hw _ (List.mem_of_getElem? (i := 22) rfl))) (mvT hZ (hw _ (List.mem_of_getElem? (i := 23) rfl))) (mvT hZ (hw _ (List.mem_of_getElem? (i := 24) rfl))) (mvT hZ (hw _ (List.mem_of_getElem? (i := 25) rfl))) (by decide) (backOf (W := 0) (rm3t l Z a0 hw [] (1 : Int32) (1 : Int32) p3 T10.heap n0 (Nat.le_trans Z0 K10.1) (by decide)) hZ (hw _ (List.mem_of_getElem? (i := 25) rfl)) (hw _ (List.mem_of_getElem? (i := 24) rfl)) (by decide) (by decide)) (g := (mkF m 83 #[.val (.int p1), .val (.int p2), .val (.int p3), .val (.int p4), .val (.int p5), .val (.int (1 : Int32)), .val (.ref b6), .val (.ref b8), .unset, .unset, .unset, .unset] [(.int p3), (.int (1 : Int32)), (.int (1 : Int32))])) rfl (by rw [hml]; rfl) (argsL := [(.int (1 : Int32)), (.int (1 : Int32)), (.int p3)]) (rest := []) (lenOf pd_0_3 rfl) rfl (by show 2 * 0 + _ ≤ _; exact Nat.le_of_eq rfl) (hb hby at_83) (fun _ _ => ⟨rfl, rfl, (Nat.le_of_ble_eq_true rfl), (Nat.le_of_ble_eq_true rfl)⟩)
  dsimp only [Pt.U, Pt.locs, Pt.cells, Pt.slots] at X11 l11 y11 z11 st11 hQ11
  subst l11 y11 z11
  obtain ⟨rfl, N11q, e11⟩ := hQ11
  have K11 : Keep h0 T11.heap [] := K10.trans (own_keq e11) all0
  have N11 := Fr.app N10 N11q
  obtain ⟨_, _, ⟨T12, L12, k12, n12⟩, -, X12, ⟨Lc12, hQ12, l12, y12, z12⟩, st12⟩ := Jvm.LawKit.callS X11 hx (y := (⟨"com/example/tendril/tendril/FormatsAnyBinaryPinLaw", "hit", "(III)Z"⟩ : MethodName)) hown (mvT hZ (hw _ (List.mem_of_getElem? (i := 22) rfl))) (mvT hZ (hw _ (List.mem_of_getElem? (i := 23) rfl))) (mvT hZ (hw _ (List.mem_of_getElem? (i := 24) rfl))) (mvT hZ (hw _ (List.mem_of_getElem? (i := 25) rfl))) (by decide) (backOf (W := 0) (rm3t l Z a0 hw [] (1 : Int32) (2 : Int32) p4 T11.heap n0 (Nat.le_trans Z0 K11.1) (by decide)) hZ (hw _ (List.mem_of_getElem? (i := 25) rfl)) (hw _ (List.mem_of_getElem? (i := 24) rfl)) (by decide) (by decide)) (g := (mkF m 93 #[.val (.int p1), .val (.int p2), .val (.int p3), .val (.int p4), .val (.int p5), .val (.int (1 : Int32)), .val (.ref b6), .val (.ref b8), .unset, .unset, .unset, .unset] [(.int p4), (.int (2 : Int32)), (.int (1 : Int32))])) rfl (by rw [hml]; rfl) (argsL := [(.int (1 : Int32)), (.int (2 : Int32)), (.int p4)]) (rest := []) (lenOf pd_0_3 rfl) rfl (by show 2 * 0 + _ ≤ _; exact Nat.le_of_eq rfl) (hb hby at_93) (fun _ _ => ⟨rfl, rfl, (Nat.le_of_ble_eq_true rfl), (Nat.le_of_ble_eq_true rfl)⟩)
  dsimp only [Pt.U, Pt.locs, Pt.cells, Pt.slots] at X12 l12 y12 z12 st12 hQ12
  subst l12 y12 z12
  obtain ⟨rfl, N12q, e12⟩ := hQ12
  have K12 : Keep h0 T12.heap [] := K11.trans (own_keq e12) all0
  have N12 := Fr.app N11 N12q
  obtain ⟨_, _, ⟨T13, L13, k13, n13⟩, -, X13, ⟨Lc13, hQ13, l13, y13, z13⟩, st13⟩ := Jvm.LawKit.callS X12 hx (y := (⟨"com/example/tendril/tendril/FormatsAnyBinaryPinLaw", "hit", "(III)Z"⟩ : MethodName)) hown (mvT hZ (hw _ (List.mem_of_getElem? (i := 22) rfl))) (mvT hZ (hw _ (List.mem_of_getElem? (i := 23) rfl))) (mvT hZ (hw _ (List.mem_of_getElem? (i := 24) rfl))) (mvT hZ (hw _ (List.mem_of_getElem? (i := 25) rfl))) (by decide) (backOf (W := 0) (rm3t l Z a0 hw [] (1 : Int32) (3 : Int32) p5 T12.heap n0 (Nat.le_trans Z0 K12.1) (by decide)) hZ (hw _ (List.mem_of_getElem? (i := 25) rfl)) (hw _ (List.mem_of_getElem? (i := 24) rfl)) (by decide) (by decide)) (g := (mkF m 104 #[.val (.int p1), .val (.int p2), .val (.int p3), .val (.int p4), .val (.int p5), .val (.int (1 : Int32)), .val (.ref b6), .val (.ref b8), .unset, .unset, .unset, .unset] [(.int p5), (.int (3 : Int32)), (.int (1 : Int32))])) rfl (by rw [hml]; rfl) (argsL := [(.int (1 : Int32)), (.int (3 : Int32)), (.int p5)]) (rest := []) (lenOf pd_0_3 rfl) rfl (by show 2 * 0 + _ ≤ _; exact Nat.le_of_eq rfl) (hb hby at_104) (fun _ _ => ⟨rfl, rfl, (Nat.le_of_ble_eq_true rfl), (Nat.le_of_ble_eq_true rfl)⟩)
  dsimp only [Pt.U, Pt.locs, Pt.cells, Pt.slots] at X13 l13 y13 z13 st13 hQ13
  subst l13 y13 z13
  obtain ⟨rfl, N13q, e13⟩ := hQ13
  have K13 : Keep h0 T13.heap [] := K12.trans (own_keq e13) all0
  have N13 := Fr.app N12 N13q
  obtain ⟨clC1, ArC1, -, SC1, NC1, HC1, -⟩ := ((((VC.keep (own_keq e10) nin0).keep (own_keq e11) nin0).keep (own_keq e12) nin0).keep (own_keq e13) nin0)
  have HV1 : ∀ j, j < 1 → clC1.slots[j]? = some (.int (own_at [p2] j)) := by
    intro j hj
    match j, hj with
    | 0, _ => exact HC1 0 (by rw [SC1]; decide)
  obtain ⟨cq14, kq14, q14a, q14b, q14c⟩ := isOf hZ rfl (((((E_b8.keep K9c).keep (own_keq e10)).keep (own_keq e11)).keep (own_keq e12)).keep (own_keq e13))
  obtain ⟨_, _, ⟨T14, L14, k14, n14⟩, -, X14, ⟨Lc14, hQ14, l14, y14, z14⟩, st14⟩ := X13.virtualBack hx (y := (⟨"com/example/tendril/tendril/WireColumns$Formats", "anyBinary", "()Z"⟩ : MethodName)) (z := (⟨"com/example/tendril/tendril/WireColumns$Formats", "anyBinary", "()Z"⟩ : MethodName)) hown (mvT hZ (hw _ (List.mem_of_getElem? (i := 26) rfl))) (mvT hZ (hw _ (List.mem_of_getElem? (i := 27) rfl))) (notFace_of_selects (args := #[]) (mvT hZ (hw _ (List.mem_of_getElem? (i := 29) rfl)))) (mvT hZ (hw _ (List.mem_of_getElem? (i := 29) rfl))) (mvT hZ (hw _ (List.mem_of_getElem? (i := 28) rfl))) (by decide) (backOf (W := 0) (rm4 l Z a0 hw [] b8 bC clC1 1 (own_at [p2]) T13.heap n0 (Nat.le_trans Z0 K13.1) ((((FC.keep (own_keq e10) nin0).keep (own_keq e11) nin0).keep (own_keq e12) nin0).keep (own_keq e13) nin0) ArC1 (SC1.trans (by decide)) HV1 (by decide)) hZ (hw _ (List.mem_of_getElem? (i := 30) rfl)) (hw _ (List.mem_of_getElem? (i := 4) rfl)) (by decide) (by decide)) q14a q14c (g := (mkF m 119 #[.val (.int p1), .val (.int p2), .val (.int p3), .val (.int p4), .val (.int p5), .val (.int (1 : Int32)), .val (.ref b6), .val (.ref b8), .val (.int (0 : Int32)), .unset, .unset, .unset] [(.ref b8)])) rfl (by rw [hml]; rfl) (Steps.refl _) (argsL := []) (rest := []) (lenOf pd_0_4 rfl) rfl (by show 2 * 0 + _ ≤ _; exact Nat.le_of_eq rfl) (hb hby at_119) (fun _ _ => ⟨rfl, rfl, (Nat.le_of_ble_eq_true rfl), (Nat.le_of_ble_eq_true rfl)⟩)
  dsimp only [Pt.U, Pt.locs, Pt.cells, Pt.slots] at X14 l14 y14 z14 st14 hQ14
  subst l14 y14 z14
  obtain ⟨rfl, N14q, e14⟩ := hQ14
  have K14 : Keep h0 T14.heap [] := K13.trans (own_keq e14) all0
  have N14 := Fr.app N13 N14q
  obtain ⟨cl_b6_146, Ar_b6, q_b6, S_b6, N_b6, H_b6, G_b6⟩ := (((((((V_b6_7.ext E8).keep K9c (ninS ne_ao nin0)).keep (own_keq e10) nin0).keep (own_keq e11) nin0).keep (own_keq e12) nin0).keep (own_keq e13) nin0).keep (own_keq e14) nin0)
  have hin146 : ¬ ((0 : Int32) < 0 ∨ cl_b6_146.slots.size ≤ ((0 : Int32)).toNatClampNeg) := inb_of S_b6 ⟨by decide, by decide⟩
  obtain ⟨T15, h15, X15, e15, W15, st15⟩ := stI X14 hx hZ rfl Ar_b6 (j := (0 : Int32)) hin146 (g := (mkF m 146 #[.val (.int p1), .val (.int p2), .val (.int p3), .val (.int p4), .val (.int p5), .val (.int (1 : Int32)), .val (.ref b6), .val (.ref b8), .val (.int (0 : Int32)), .val (.int (own_anyf (own_at [p2]) 1 0 0)), .val (.int (1 : Int32)), .unset] [(.int (1 : Int32)), (.int (0 : Int32)), (.ref b6)])) rfl rfl (hb hby at_146)
  have V_b6_15 := Arv.set Ar_b6 q_b6 S_b6 N_b6 H_b6 G_b6 rfl W15 0 rfl (Nat.le_of_ble_eq_true rfl)
  have K15 : Keep h0 h15 [] := K14.wr W15 (Or.inr sz_b6)
  have N15 := Fr.snoc X15 N14 g_b6
  obtain ⟨clC2, ArC2, -, SC2, NC2, HC2, -⟩ := ((((((VC.keep (own_keq e10) nin0).keep (own_keq e11) nin0).keep (own_keq e12) nin0).keep (own_keq e13) nin0).keep (own_keq e14) nin0).other W15 ne_Ca)
  have HV2 : ∀ j, j < 1 → clC2.slots[j]? = some (.int (own_at [p2] j)) := by
    intro j hj
    match j, hj with
    | 0, _ => exact HC2 0 (by rw [SC2]; decide)
  obtain ⟨cq16, kq16, q16a, q16b, q16c⟩ := isOf hZ e15 (((((((E_b8.keep K9c).keep (own_keq e10)).keep (own_keq e11)).keep (own_keq e12)).keep (own_keq e13)).keep (own_keq e14)).wr W15)
  obtain ⟨_, _, ⟨T16, L16, k16, n16⟩, -, X16, ⟨Lc16, hQ16, l16, y16, z16⟩, st16⟩ := X15.virtualBack hx (y := (⟨"com/example/tendril/tendril/WireColumns$Formats", "anyBinary", "()Z"⟩ : MethodName)) (z := (⟨"com/example/tendril/tendril/WireColumns$Formats", "anyBinary", "()Z"⟩ : MethodName)) hown (mvT hZ (hw _ (List.mem_of_getElem? (i := 26) rfl))) (mvT hZ (hw _ (List.mem_of_getElem? (i := 27) rfl))) (notFace_of_selects (args := #[]) (mvT hZ (hw _ (List.mem_of_getElem? (i := 29) rfl)))) (mvT hZ (hw _ (List.mem_of_getElem? (i := 29) rfl))) (mvT hZ (hw _ (List.mem_of_getElem? (i := 28) rfl))) (by decide) (backOf (W := 0) (rm4 l Z a0 hw [] b8 bC clC2 1 (own_at [p2]) h15 n0 (Nat.le_trans Z0 K15.1) ((((((FC.keep (own_keq e10) nin0).keep (own_keq e11) nin0).keep (own_keq e12) nin0).keep (own_keq e13) nin0).keep (own_keq e14) nin0).other W15 (Or.inl (Ne.symm ne_ao))) ArC2 (SC2.trans (by decide)) HV2 (by decide)) hZ (hw _ (List.mem_of_getElem? (i := 30) rfl)) (hw _ (List.mem_of_getElem? (i := 4) rfl)) (by decide) (by decide)) q16a q16c (g := (mkF m 185 #[.val (.int p1), .val (.int p2), .val (.int p3), .val (.int p4), .val (.int p5), .val (.int (1 : Int32)), .val (.ref b6), .val (.ref b8), .val (.int (0 : Int32)), .val (.int (own_anyf (own_at [p2]) 1 0 0)), .val (.int (1 : Int32)), .unset] [(.ref b8)])) rfl (by rw [hml]; rfl) (Steps.refl _) (argsL := []) (rest := []) (lenOf pd_0_4 rfl) rfl (by show 2 * 0 + _ ≤ _; exact Nat.le_of_eq rfl) (hb hby at_185) (fun _ _ => ⟨rfl, e15, (Nat.le_of_ble_eq_true rfl), (Nat.le_of_ble_eq_true rfl)⟩)
  dsimp only [Pt.U, Pt.locs, Pt.cells, Pt.slots] at X16 l16 y16 z16 st16 hQ16
  subst l16 y16 z16
  obtain ⟨rfl, N16q, e16⟩ := hQ16
  have K16 : Keep h0 T16.heap [] := K15.trans (own_keq e16) all0
  have N16 := Fr.app N15 N16q
  obtain ⟨fs, hr, hrun, hended, hW, hsame⟩ := X16.leave (v := some (.int (1 : Int32))) (fun h => by rw [Bd.returns] at h; cases h)
  refine ⟨_, _, pre0 _ ?_, hrun, hended, _, _, rfl, ?_, ⟨_, rfl⟩, hW, hsame.mono (by decide) (by decide)⟩
  · show Steps p.tables e below (s₁.setTop (mkF m 0 #[.val (.int p1), .val (.int p2), .val (.int p3), .val (.int p4), .val (.int p5), .unset, .unset, .unset, .unset, .unset, .unset, .unset] [])) _
    refine XS.iloadN X0.here hx rfl (hb hby at_0) rfl ?_
    show Steps p.tables e below (s₁.setTop (mkF m 1 #[.val (.int p1), .val (.int p2), .val (.int p3), .val (.int p4), .val (.int p5), .unset, .unset, .unset, .unset, .unset, .unset, .unset] [(.int p1)])) _
    refine X0.ldcInt hx hown (mvT hZ (hw _ (List.mem_of_getElem? (i := 0) rfl))) (g := (mkF m 1 #[.val (.int p1), .val (.int p2), .val (.int p3), .val (.int p4), .val (.int p5), .unset, .unset, .unset, .unset, .unset, .unset, .unset] [(.int p1)])) rfl (hb hby at_1) _ ?_
    show Steps p.tables e below (s₁.setTop (mkF m 3 #[.val (.int p1), .val (.int p2), .val (.int p3), .val (.int p4), .val (.int p5), .unset, .unset, .unset, .unset, .unset, .unset, .unset] [(.int (2147483647 : Int32)), (.int p1)])) _
    refine XS.iand X0.here hx rfl (hb hby at_3) rfl ?_
    show Steps p.tables e below (s₁.setTop (mkF m 4 #[.val (.int p1), .val (.int p2), .val (.int p3), .val (.int p4), .val (.int p5), .unset, .unset, .unset, .unset, .unset, .unset, .unset] [(.int (p1 &&& (2147483647 : Int32)))])) _
    refine XS.iconst X0.here hx rfl (hb hby at_4) ?_
    show Steps p.tables e below (s₁.setTop (mkF m 5 #[.val (.int p1), .val (.int p2), .val (.int p3), .val (.int p4), .val (.int p5), .unset, .unset, .unset, .unset, .unset, .unset, .unset] [(.int (5 : Int32)), (.int (p1 &&& (2147483647 : Int32)))])) _
    refine iremM X0 hx rfl (hb hby at_5) rfl (by decide) ?_
    rw [hp5]
    show Steps p.tables e below (s₁.setTop (mkF m 6 #[.val (.int p1), .val (.int p2), .val (.int p3), .val (.int p4), .val (.int p5), .unset, .unset, .unset, .unset, .unset, .unset, .unset] [(.int (1 : Int32))])) _
    refine XS.istore X0.here hx rfl (hb hby at_6) rfl (l' := #[.val (.int p1), .val (.int p2), .val (.int p3), .val (.int p4), .val (.int p5), .val (.int (1 : Int32)), .unset, .unset, .unset, .unset, .unset, .unset]) rfl ?_
    show Steps p.tables e below (s₁.setTop (mkF m 8 #[.val (.int p1), .val (.int p2), .val (.int p3), .val (.int p4), .val (.int p5), .val (.int (1 : Int32)), .unset, .unset, .unset, .unset, .unset, .unset] [])) _
    refine XS.iload X0.here hx rfl (hb hby at_8) rfl ?_
    show Steps p.tables e below (s₁.setTop (mkF m 10 #[.val (.int p1), .val (.int p2), .val (.int p3), .val (.int p4), .val (.int p5), .val (.int (1 : Int32)), .unset, .unset, .unset, .unset, .unset, .unset] [(.int (1 : Int32))])) _
    refine st6 _ ?_
    show Steps p.tables e below (T6.setTop (mkF m 12 #[.val (.int p1), .val (.int p2), .val (.int p3), .val (.int p4), .val (.int p5), .val (.int (1 : Int32)), .unset, .unset, .unset, .unset, .unset, .unset] [(.ref b6)])) _
    refine XS.astore X6.here hx rfl (hb hby at_12) rfl rfl (l' := #[.val (.int p1), .val (.int p2), .val (.int p3), .val (.int p4), .val (.int p5), .val (.int (1 : Int32)), .val (.ref b6), .unset, .unset, .unset, .unset, .unset]) rfl ?_
    show Steps p.tables e below (T6.setTop (mkF m 14 #[.val (.int p1), .val (.int p2), .val (.int p3), .val (.int p4), .val (.int p5), .val (.int (1 : Int32)), .val (.ref b6), .unset, .unset, .unset, .unset, .unset] [])) _
    refine XS.iload X6.here hx rfl (hb hby at_14) rfl ?_
    show Steps p.tables e below (T6.setTop (mkF m 16 #[.val (.int p1), .val (.int p2), .val (.int p3), .val (.int p4), .val (.int p5), .val (.int (1 : Int32)), .val (.ref b6), .unset, .unset, .unset, .unset, .unset] [(.int (1 : Int32))])) _
    refine XS.ifNo X6.here hx rfl (hb hby at_16) rfl ((if0 _ _).trans (tlt (by decide : (0 : Int32) < (1 : Int32))).2.2.2) ?_
    show Steps p.tables e below (T6.setTop (mkF m 19 #[.val (.int p1), .val (.int p2), .val (.int p3), .val (.int p4), .val (.int p5), .val (.int (1 : Int32)), .val (.ref b6), .unset, .unset, .unset, .unset, .unset] [])) _
    refine XS.aload X6.here hx rfl (hb hby at_19) rfl rfl ?_
    show Steps p.tables e below (T6.setTop (mkF m 21 #[.val (.int p1), .val (.int p2), .val (.int p3), .val (.int p4), .val (.int p5), .val (.int (1 : Int32)), .val (.ref b6), .unset, .unset, .unset, .unset, .unset] [(.ref b6)])) _
    refine XS.iconst X6.here hx rfl (hb hby at_21) ?_
    show Steps p.tables e below (T6.setTop (mkF m 22 #[.val (.int p1), .val (.int p2), .val (.int p3), .val (.int p4), .val (.int p5), .val (.int (1 : Int32)), .val (.ref b6), .unset, .unset, .unset, .unset, .unset] [(.int (0 : Int32)), (.ref b6)])) _
    refine XS.iloadN X6.here hx rfl (hb hby at_22) rfl ?_
    show Steps p.tables e below (T6.setTop (mkF m 23 #[.val (.int p1), .val (.int p2), .val (.int p3), .val (.int p4), .val (.int p5), .val (.int (1 : Int32)), .val (.ref b6), .unset, .unset, .unset, .unset, .unset] [(.int p2), (.int (0 : Int32)), (.ref b6)])) _
    refine st7 _ ?_
    show Steps p.tables e below (T7.setTop (mkF m 24 #[.val (.int p1), .val (.int p2), .val (.int p3), .val (.int p4), .val (.int p5), .val (.int (1 : Int32)), .val (.ref b6), .unset, .unset, .unset, .unset, .unset] [])) _
    refine XS.iload X7.here hx rfl (hb hby at_24) rfl ?_
    show Steps p.tables e below (T7.setTop (mkF m 26 #[.val (.int p1), .val (.int p2), .val (.int p3), .val (.int p4), .val (.int p5), .val (.int (1 : Int32)), .val (.ref b6), .unset, .unset, .unset, .unset, .unset] [(.int (1 : Int32))])) _
    refine XS.iconst X7.here hx rfl (hb hby at_26) ?_
    show Steps p.tables e below (T7.setTop (mkF m 27 #[.val (.int p1), .val (.int p2), .val (.int p3), .val (.int p4), .val (.int p5), .val (.int (1 : Int32)), .val (.ref b6), .unset, .unset, .unset, .unset, .unset] [(.int (1 : Int32)), (.int (1 : Int32))])) _
    refine XS.icmpYes X7.here hx rfl (pc0 := 27) (pc' := 35) rfl (hb hby at_27) rfl (flt (by decide : ¬ ((1 : Int32) < (1 : Int32)))).2.2.2 (by decide) (by decide) ?_
    show Steps p.tables e below (T7.setTop (mkF m 35 #[.val (.int p1), .val (.int p2), .val (.int p3), .val (.int p4), .val (.int p5), .val (.int (1 : Int32)), .val (.ref b6), .unset, .unset, .unset, .unset, .unset] [])) _
    refine XS.iload X7.here hx rfl (hb hby at_35) rfl ?_
    show Steps p.tables e below (T7.setTop (mkF m 37 #[.val (.int p1), .val (.int p2), .val (.int p3), .val (.int p4), .val (.int p5), .val (.int (1 : Int32)), .val (.ref b6), .unset, .unset, .unset, .unset, .unset] [(.int (1 : Int32))])) _
    refine XS.iconst X7.here hx rfl (hb hby at_37) ?_
    show Steps p.tables e below (T7.setTop (mkF m 38 #[.val (.int p1), .val (.int p2), .val (.int p3), .val (.int p4), .val (.int p5), .val (.int (1 : Int32)), .val (.ref b6), .unset, .unset, .unset, .unset, .unset] [(.int (2 : Int32)), (.int (1 : Int32))])) _
    refine XS.icmpYes X7.here hx rfl (pc0 := 38) (pc' := 46) rfl (hb hby at_38) rfl (flt (by decide : ¬ ((2 : Int32) < (1 : Int32)))).2.2.2 (by decide) (by decide) ?_
    show Steps p.tables e below (T7.setTop (mkF m 46 #[.val (.int p1), .val (.int p2), .val (.int p3), .val (.int p4), .val (.int p5), .val (.int (1 : Int32)), .val (.ref b6), .unset, .unset, .unset, .unset, .unset] [])) _
    refine XS.iload X7.here hx rfl (hb hby at_46) rfl ?_
    show Steps p.tables e below (T7.setTop (mkF m 48 #[.val (.int p1), .val (.int p2), .val (.int p3), .val (.int p4), .val (.int p5), .val (.int (1 : Int32)), .val (.ref b6), .unset, .unset, .unset, .unset, .unset] [(.int (1 : Int32))])) _
    refine XS.iconst X7.here hx rfl (hb hby at_48) ?_
    show Steps p.tables e below (T7.setTop (mkF m 49 #[.val (.int p1), .val (.int p2), .val (.int p3), .val (.int p4), .val (.int p5), .val (.int (1 : Int32)), .val (.ref b6), .unset, .unset, .unset, .unset, .unset] [(.int (3 : Int32)), (.int (1 : Int32))])) _
    refine XS.icmpYes X7.here hx rfl (pc0 := 49) (pc' := 58) rfl (hb hby at_49) rfl (flt (by decide : ¬ ((3 : Int32) < (1 : Int32)))).2.2.2 (by decide) (by decide) ?_
    show Steps p.tables e below (T7.setTop (mkF m 58 #[.val (.int p1), .val (.int p2), .val (.int p3), .val (.int p4), .val (.int p5), .val (.int (1 : Int32)), .val (.ref b6), .unset, .unset, .unset, .unset, .unset] [])) _
    refine st8 _ ?_
    show Steps p.tables e below (T8.setTop (mkF m 61 #[.val (.int p1), .val (.int p2), .val (.int p3), .val (.int p4), .val (.int p5), .val (.int (1 : Int32)), .val (.ref b6), .unset, .unset, .unset, .unset, .unset] [(.ref b8)])) _
    refine XS.dup X8.here hx rfl (hb hby at_61) rfl rfl ?_
    show Steps p.tables e below (T8.setTop (mkF m 62 #[.val (.int p1), .val (.int p2), .val (.int p3), .val (.int p4), .val (.int p5), .val (.int (1 : Int32)), .val (.ref b6), .unset, .unset, .unset, .unset, .unset] [(.ref b8), (.ref b8)])) _
    refine XS.aload X8.here hx rfl (hb hby at_62) rfl rfl ?_
    show Steps p.tables e below (T8.setTop (mkF m 64 #[.val (.int p1), .val (.int p2), .val (.int p3), .val (.int p4), .val (.int p5), .val (.int (1 : Int32)), .val (.ref b6), .unset, .unset, .unset, .unset, .unset] [(.ref b6), (.ref b8), (.ref b8)])) _
    refine st9.trans ?_
    show Steps p.tables e below (T9.setTop (mkF m 67 #[.val (.int p1), .val (.int p2), .val (.int p3), .val (.int p4), .val (.int p5), .val (.int (1 : Int32)), .val (.ref b6), .unset, .unset, .unset, .unset, .unset] [(.ref b8)])) _
    refine XS.astore X9.here hx rfl (hb hby at_67) rfl rfl (l' := #[.val (.int p1), .val (.int p2), .val (.int p3), .val (.int p4), .val (.int p5), .val (.int (1 : Int32)), .val (.ref b6), .val (.ref b8), .unset, .unset, .unset, .unset]) rfl ?_
    show Steps p.tables e below (T9.setTop (mkF m 69 #[.val (.int p1), .val (.int p2), .val (.int p3), .val (.int p4), .val (.int p5), .val (.int (1 : Int32)), .val (.ref b6), .val (.ref b8), .unset, .unset, .unset, .unset] [])) _
    refine XS.iload X9.here hx rfl (hb hby at_69) rfl ?_
    show Steps p.tables e below (T9.setTop (mkF m 71 #[.val (.int p1), .val (.int p2), .val (.int p3), .val (.int p4), .val (.int p5), .val (.int (1 : Int32)), .val (.ref b6), .val (.ref b8), .unset, .unset, .unset, .unset] [(.int (1 : Int32))])) _
    refine XS.iconst X9.here hx rfl (hb hby at_71) ?_
    show Steps p.tables e below (T9.setTop (mkF m 72 #[.val (.int p1), .val (.int p2), .val (.int p3), .val (.int p4), .val (.int p5), .val (.int (1 : Int32)), .val (.ref b6), .val (.ref b8), .unset, .unset, .unset, .unset] [(.int (0 : Int32)), (.int (1 : Int32))])) _
    refine XS.iloadN X9.here hx rfl (hb hby at_72) rfl ?_
    show Steps p.tables e below (T9.setTop (mkF m 73 #[.val (.int p1), .val (.int p2), .val (.int p3), .val (.int p4), .val (.int p5), .val (.int (1 : Int32)), .val (.ref b6), .val (.ref b8), .unset, .unset, .unset, .unset] [(.int p2), (.int (0 : Int32)), (.int (1 : Int32))])) _
    refine st10 _ ?_
    show Steps p.tables e below (T10.setTop (mkF m 76 #[.val (.int p1), .val (.int p2), .val (.int p3), .val (.int p4), .val (.int p5), .val (.int (1 : Int32)), .val (.ref b6), .val (.ref b8), .unset, .unset, .unset, .unset] [(.int (0 : Int32))])) _
    refine XS.ifNo X10.here hx rfl (hb hby at_76) rfl ((if0 _ _).trans (teq (by decide : (0 : Int32) = (0 : Int32))).2) ?_
    show Steps p.tables e below (T10.setTop (mkF m 79 #[.val (.int p1), .val (.int p2), .val (.int p3), .val (.int p4), .val (.int p5), .val (.int (1 : Int32)), .val (.ref b6), .val (.ref b8), .unset, .unset, .unset, .unset] [])) _
    refine XS.iload X10.here hx rfl (hb hby at_79) rfl ?_
    show Steps p.tables e below (T10.setTop (mkF m 81 #[.val (.int p1), .val (.int p2), .val (.int p3), .val (.int p4), .val (.int p5), .val (.int (1 : Int32)), .val (.ref b6), .val (.ref b8), .unset, .unset, .unset, .unset] [(.int (1 : Int32))])) _
    refine XS.iconst X10.here hx rfl (hb hby at_81) ?_
    show Steps p.tables e below (T10.setTop (mkF m 82 #[.val (.int p1), .val (.int p2), .val (.int p3), .val (.int p4), .val (.int p5), .val (.int (1 : Int32)), .val (.ref b6), .val (.ref b8), .unset, .unset, .unset, .unset] [(.int (1 : Int32)), (.int (1 : Int32))])) _
    refine XS.iloadN X10.here hx rfl (hb hby at_82) rfl ?_
    show Steps p.tables e below (T10.setTop (mkF m 83 #[.val (.int p1), .val (.int p2), .val (.int p3), .val (.int p4), .val (.int p5), .val (.int (1 : Int32)), .val (.ref b6), .val (.ref b8), .unset, .unset, .unset, .unset] [(.int p3), (.int (1 : Int32)), (.int (1 : Int32))])) _
    refine st11 _ ?_
    show Steps p.tables e below (T11.setTop (mkF m 86 #[.val (.int p1), .val (.int p2), .val (.int p3), .val (.int p4), .val (.int p5), .val (.int (1 : Int32)), .val (.ref b6), .val (.ref b8), .unset, .unset, .unset, .unset] [(.int (0 : Int32))])) _
    refine XS.ifNo X11.here hx rfl (hb hby at_86) rfl ((if0 _ _).trans (teq (by decide : (0 : Int32) = (0 : Int32))).2) ?_
    show Steps p.tables e below (T11.setTop (mkF m 89 #[.val (.int p1), .val (.int p2), .val (.int p3), .val (.int p4), .val (.int p5), .val (.int (1 : Int32)), .val (.ref b6), .val (.ref b8), .unset, .unset, .unset, .unset] [])) _
    refine XS.iload X11.here hx rfl (hb hby at_89) rfl ?_
    show Steps p.tables e below (T11.setTop (mkF m 91 #[.val (.int p1), .val (.int p2), .val (.int p3), .val (.int p4), .val (.int p5), .val (.int (1 : Int32)), .val (.ref b6), .val (.ref b8), .unset, .unset, .unset, .unset] [(.int (1 : Int32))])) _
    refine XS.iconst X11.here hx rfl (hb hby at_91) ?_
    show Steps p.tables e below (T11.setTop (mkF m 92 #[.val (.int p1), .val (.int p2), .val (.int p3), .val (.int p4), .val (.int p5), .val (.int (1 : Int32)), .val (.ref b6), .val (.ref b8), .unset, .unset, .unset, .unset] [(.int (2 : Int32)), (.int (1 : Int32))])) _
    refine XS.iloadN X11.here hx rfl (hb hby at_92) rfl ?_
    show Steps p.tables e below (T11.setTop (mkF m 93 #[.val (.int p1), .val (.int p2), .val (.int p3), .val (.int p4), .val (.int p5), .val (.int (1 : Int32)), .val (.ref b6), .val (.ref b8), .unset, .unset, .unset, .unset] [(.int p4), (.int (2 : Int32)), (.int (1 : Int32))])) _
    refine st12 _ ?_
    show Steps p.tables e below (T12.setTop (mkF m 96 #[.val (.int p1), .val (.int p2), .val (.int p3), .val (.int p4), .val (.int p5), .val (.int (1 : Int32)), .val (.ref b6), .val (.ref b8), .unset, .unset, .unset, .unset] [(.int (0 : Int32))])) _
    refine XS.ifNo X12.here hx rfl (hb hby at_96) rfl ((if0 _ _).trans (teq (by decide : (0 : Int32) = (0 : Int32))).2) ?_
    show Steps p.tables e below (T12.setTop (mkF m 99 #[.val (.int p1), .val (.int p2), .val (.int p3), .val (.int p4), .val (.int p5), .val (.int (1 : Int32)), .val (.ref b6), .val (.ref b8), .unset, .unset, .unset, .unset] [])) _
    refine XS.iload X12.here hx rfl (hb hby at_99) rfl ?_
    show Steps p.tables e below (T12.setTop (mkF m 101 #[.val (.int p1), .val (.int p2), .val (.int p3), .val (.int p4), .val (.int p5), .val (.int (1 : Int32)), .val (.ref b6), .val (.ref b8), .unset, .unset, .unset, .unset] [(.int (1 : Int32))])) _
    refine XS.iconst X12.here hx rfl (hb hby at_101) ?_
    show Steps p.tables e below (T12.setTop (mkF m 102 #[.val (.int p1), .val (.int p2), .val (.int p3), .val (.int p4), .val (.int p5), .val (.int (1 : Int32)), .val (.ref b6), .val (.ref b8), .unset, .unset, .unset, .unset] [(.int (3 : Int32)), (.int (1 : Int32))])) _
    refine XS.iload X12.here hx rfl (hb hby at_102) rfl ?_
    show Steps p.tables e below (T12.setTop (mkF m 104 #[.val (.int p1), .val (.int p2), .val (.int p3), .val (.int p4), .val (.int p5), .val (.int (1 : Int32)), .val (.ref b6), .val (.ref b8), .unset, .unset, .unset, .unset] [(.int p5), (.int (3 : Int32)), (.int (1 : Int32))])) _
    refine st13 _ ?_
    show Steps p.tables e below (T13.setTop (mkF m 107 #[.val (.int p1), .val (.int p2), .val (.int p3), .val (.int p4), .val (.int p5), .val (.int (1 : Int32)), .val (.ref b6), .val (.ref b8), .unset, .unset, .unset, .unset] [(.int (0 : Int32))])) _
    refine XS.ifYes X13.here hx rfl (pc0 := 107) (pc' := 114) rfl (hb hby at_107) rfl ((if0 _ _).trans (teq (by decide : (0 : Int32) = (0 : Int32))).1) (by decide) (by decide) ?_
    show Steps p.tables e below (T13.setTop (mkF m 114 #[.val (.int p1), .val (.int p2), .val (.int p3), .val (.int p4), .val (.int p5), .val (.int (1 : Int32)), .val (.ref b6), .val (.ref b8), .unset, .unset, .unset, .unset] [])) _
    refine XS.iconst X13.here hx rfl (hb hby at_114) ?_
    show Steps p.tables e below (T13.setTop (mkF m 115 #[.val (.int p1), .val (.int p2), .val (.int p3), .val (.int p4), .val (.int p5), .val (.int (1 : Int32)), .val (.ref b6), .val (.ref b8), .unset, .unset, .unset, .unset] [(.int (0 : Int32))])) _
    refine XS.istore X13.here hx rfl (hb hby at_115) rfl (l' := #[.val (.int p1), .val (.int p2), .val (.int p3), .val (.int p4), .val (.int p5), .val (.int (1 : Int32)), .val (.ref b6), .val (.ref b8), .val (.int (0 : Int32)), .unset, .unset, .unset]) rfl ?_
    show Steps p.tables e below (T13.setTop (mkF m 117 #[.val (.int p1), .val (.int p2), .val (.int p3), .val (.int p4), .val (.int p5), .val (.int (1 : Int32)), .val (.ref b6), .val (.ref b8), .val (.int (0 : Int32)), .unset, .unset, .unset] [])) _
    refine XS.aload X13.here hx rfl (hb hby at_117) rfl rfl ?_
    show Steps p.tables e below (T13.setTop (mkF m 119 #[.val (.int p1), .val (.int p2), .val (.int p3), .val (.int p4), .val (.int p5), .val (.int (1 : Int32)), .val (.ref b6), .val (.ref b8), .val (.int (0 : Int32)), .unset, .unset, .unset] [(.ref b8)])) _
    refine st14.trans ?_
    show Steps p.tables e below (T14.setTop (mkF m 122 #[.val (.int p1), .val (.int p2), .val (.int p3), .val (.int p4), .val (.int p5), .val (.int (1 : Int32)), .val (.ref b6), .val (.ref b8), .val (.int (0 : Int32)), .unset, .unset, .unset] [(.int (own_anyf (own_at [p2]) 1 0 0))])) _
    refine XS.istore X14.here hx rfl (hb hby at_122) rfl (l' := #[.val (.int p1), .val (.int p2), .val (.int p3), .val (.int p4), .val (.int p5), .val (.int (1 : Int32)), .val (.ref b6), .val (.ref b8), .val (.int (0 : Int32)), .val (.int (own_anyf (own_at [p2]) 1 0 0)), .unset, .unset]) rfl ?_
    show Steps p.tables e below (T14.setTop (mkF m 124 #[.val (.int p1), .val (.int p2), .val (.int p3), .val (.int p4), .val (.int p5), .val (.int (1 : Int32)), .val (.ref b6), .val (.ref b8), .val (.int (0 : Int32)), .val (.int (own_anyf (own_at [p2]) 1 0 0)), .unset, .unset] [])) _
    refine XS.iload X14.here hx rfl (hb hby at_124) rfl ?_
    show Steps p.tables e below (T14.setTop (mkF m 126 #[.val (.int p1), .val (.int p2), .val (.int p3), .val (.int p4), .val (.int p5), .val (.int (1 : Int32)), .val (.ref b6), .val (.ref b8), .val (.int (0 : Int32)), .val (.int (own_anyf (own_at [p2]) 1 0 0)), .unset, .unset] [(.int (0 : Int32))])) _
    refine XS.ifYes X14.here hx rfl (pc0 := 126) (pc' := 133) rfl (hb hby at_126) rfl ((if0 _ _).trans (teq (by decide : (0 : Int32) = (0 : Int32))).1) (by decide) (by decide) ?_
    show Steps p.tables e below (T14.setTop (mkF m 133 #[.val (.int p1), .val (.int p2), .val (.int p3), .val (.int p4), .val (.int p5), .val (.int (1 : Int32)), .val (.ref b6), .val (.ref b8), .val (.int (0 : Int32)), .val (.int (own_anyf (own_at [p2]) 1 0 0)), .unset, .unset] [])) _
    refine XS.iconst X14.here hx rfl (hb hby at_133) ?_
    show Steps p.tables e below (T14.setTop (mkF m 134 #[.val (.int p1), .val (.int p2), .val (.int p3), .val (.int p4), .val (.int p5), .val (.int (1 : Int32)), .val (.ref b6), .val (.ref b8), .val (.int (0 : Int32)), .val (.int (own_anyf (own_at [p2]) 1 0 0)), .unset, .unset] [(.int (1 : Int32))])) _
    refine XS.istore X14.here hx rfl (hb hby at_134) rfl (l' := #[.val (.int p1), .val (.int p2), .val (.int p3), .val (.int p4), .val (.int p5), .val (.int (1 : Int32)), .val (.ref b6), .val (.ref b8), .val (.int (0 : Int32)), .val (.int (own_anyf (own_at [p2]) 1 0 0)), .val (.int (1 : Int32)), .unset]) rfl ?_
    show Steps p.tables e below (T14.setTop (mkF m 136 #[.val (.int p1), .val (.int p2), .val (.int p3), .val (.int p4), .val (.int p5), .val (.int (1 : Int32)), .val (.ref b6), .val (.ref b8), .val (.int (0 : Int32)), .val (.int (own_anyf (own_at [p2]) 1 0 0)), .val (.int (1 : Int32)), .unset] [])) _
    refine XS.iload X14.here hx rfl (hb hby at_136) rfl ?_
    show Steps p.tables e below (T14.setTop (mkF m 138 #[.val (.int p1), .val (.int p2), .val (.int p3), .val (.int p4), .val (.int p5), .val (.int (1 : Int32)), .val (.ref b6), .val (.ref b8), .val (.int (0 : Int32)), .val (.int (own_anyf (own_at [p2]) 1 0 0)), .val (.int (1 : Int32)), .unset] [(.int (1 : Int32))])) _
    refine XS.ifNo X14.here hx rfl (hb hby at_138) rfl ((if0 _ _).trans (tlt (by decide : (0 : Int32) < (1 : Int32))).2.2.2) ?_
    show Steps p.tables e below (T14.setTop (mkF m 141 #[.val (.int p1), .val (.int p2), .val (.int p3), .val (.int p4), .val (.int p5), .val (.int (1 : Int32)), .val (.ref b6), .val (.ref b8), .val (.int (0 : Int32)), .val (.int (own_anyf (own_at [p2]) 1 0 0)), .val (.int (1 : Int32)), .unset] [])) _
    refine XS.aload X14.here hx rfl (hb hby at_141) rfl rfl ?_
    show Steps p.tables e below (T14.setTop (mkF m 143 #[.val (.int p1), .val (.int p2), .val (.int p3), .val (.int p4), .val (.int p5), .val (.int (1 : Int32)), .val (.ref b6), .val (.ref b8), .val (.int (0 : Int32)), .val (.int (own_anyf (own_at [p2]) 1 0 0)), .val (.int (1 : Int32)), .unset] [(.ref b6)])) _
    refine XS.iconst X14.here hx rfl (hb hby at_143) ?_
    show Steps p.tables e below (T14.setTop (mkF m 144 #[.val (.int p1), .val (.int p2), .val (.int p3), .val (.int p4), .val (.int p5), .val (.int (1 : Int32)), .val (.ref b6), .val (.ref b8), .val (.int (0 : Int32)), .val (.int (own_anyf (own_at [p2]) 1 0 0)), .val (.int (1 : Int32)), .unset] [(.int (0 : Int32)), (.ref b6)])) _
    refine XS.iload X14.here hx rfl (hb hby at_144) rfl ?_
    show Steps p.tables e below (T14.setTop (mkF m 146 #[.val (.int p1), .val (.int p2), .val (.int p3), .val (.int p4), .val (.int p5), .val (.int (1 : Int32)), .val (.ref b6), .val (.ref b8), .val (.int (0 : Int32)), .val (.int (own_anyf (own_at [p2]) 1 0 0)), .val (.int (1 : Int32)), .unset] [(.int (1 : Int32)), (.int (0 : Int32)), (.ref b6)])) _
    refine st15 _ ?_
    show Steps p.tables e below (T15.setTop (mkF m 147 #[.val (.int p1), .val (.int p2), .val (.int p3), .val (.int p4), .val (.int p5), .val (.int (1 : Int32)), .val (.ref b6), .val (.ref b8), .val (.int (0 : Int32)), .val (.int (own_anyf (own_at [p2]) 1 0 0)), .val (.int (1 : Int32)), .unset] [])) _
    refine XS.iload X15.here hx rfl (hb hby at_147) rfl ?_
    show Steps p.tables e below (T15.setTop (mkF m 149 #[.val (.int p1), .val (.int p2), .val (.int p3), .val (.int p4), .val (.int p5), .val (.int (1 : Int32)), .val (.ref b6), .val (.ref b8), .val (.int (0 : Int32)), .val (.int (own_anyf (own_at [p2]) 1 0 0)), .val (.int (1 : Int32)), .unset] [(.int (1 : Int32))])) _
    refine XS.iconst X15.here hx rfl (hb hby at_149) ?_
    show Steps p.tables e below (T15.setTop (mkF m 150 #[.val (.int p1), .val (.int p2), .val (.int p3), .val (.int p4), .val (.int p5), .val (.int (1 : Int32)), .val (.ref b6), .val (.ref b8), .val (.int (0 : Int32)), .val (.int (own_anyf (own_at [p2]) 1 0 0)), .val (.int (1 : Int32)), .unset] [(.int (1 : Int32)), (.int (1 : Int32))])) _
    refine XS.icmpYes X15.here hx rfl (pc0 := 150) (pc' := 159) rfl (hb hby at_150) rfl (flt (by decide : ¬ ((1 : Int32) < (1 : Int32)))).2.2.2 (by decide) (by decide) ?_
    show Steps p.tables e below (T15.setTop (mkF m 159 #[.val (.int p1), .val (.int p2), .val (.int p3), .val (.int p4), .val (.int p5), .val (.int (1 : Int32)), .val (.ref b6), .val (.ref b8), .val (.int (0 : Int32)), .val (.int (own_anyf (own_at [p2]) 1 0 0)), .val (.int (1 : Int32)), .unset] [])) _
    refine XS.iload X15.here hx rfl (hb hby at_159) rfl ?_
    show Steps p.tables e below (T15.setTop (mkF m 161 #[.val (.int p1), .val (.int p2), .val (.int p3), .val (.int p4), .val (.int p5), .val (.int (1 : Int32)), .val (.ref b6), .val (.ref b8), .val (.int (0 : Int32)), .val (.int (own_anyf (own_at [p2]) 1 0 0)), .val (.int (1 : Int32)), .unset] [(.int (1 : Int32))])) _
    refine XS.iconst X15.here hx rfl (hb hby at_161) ?_
    show Steps p.tables e below (T15.setTop (mkF m 162 #[.val (.int p1), .val (.int p2), .val (.int p3), .val (.int p4), .val (.int p5), .val (.int (1 : Int32)), .val (.ref b6), .val (.ref b8), .val (.int (0 : Int32)), .val (.int (own_anyf (own_at [p2]) 1 0 0)), .val (.int (1 : Int32)), .unset] [(.int (2 : Int32)), (.int (1 : Int32))])) _
    refine XS.icmpYes X15.here hx rfl (pc0 := 162) (pc' := 171) rfl (hb hby at_162) rfl (flt (by decide : ¬ ((2 : Int32) < (1 : Int32)))).2.2.2 (by decide) (by decide) ?_
    show Steps p.tables e below (T15.setTop (mkF m 171 #[.val (.int p1), .val (.int p2), .val (.int p3), .val (.int p4), .val (.int p5), .val (.int (1 : Int32)), .val (.ref b6), .val (.ref b8), .val (.int (0 : Int32)), .val (.int (own_anyf (own_at [p2]) 1 0 0)), .val (.int (1 : Int32)), .unset] [])) _
    refine XS.iload X15.here hx rfl (hb hby at_171) rfl ?_
    show Steps p.tables e below (T15.setTop (mkF m 173 #[.val (.int p1), .val (.int p2), .val (.int p3), .val (.int p4), .val (.int p5), .val (.int (1 : Int32)), .val (.ref b6), .val (.ref b8), .val (.int (0 : Int32)), .val (.int (own_anyf (own_at [p2]) 1 0 0)), .val (.int (1 : Int32)), .unset] [(.int (1 : Int32))])) _
    refine XS.iconst X15.here hx rfl (hb hby at_173) ?_
    show Steps p.tables e below (T15.setTop (mkF m 174 #[.val (.int p1), .val (.int p2), .val (.int p3), .val (.int p4), .val (.int p5), .val (.int (1 : Int32)), .val (.ref b6), .val (.ref b8), .val (.int (0 : Int32)), .val (.int (own_anyf (own_at [p2]) 1 0 0)), .val (.int (1 : Int32)), .unset] [(.int (3 : Int32)), (.int (1 : Int32))])) _
    refine XS.icmpYes X15.here hx rfl (pc0 := 174) (pc' := 183) rfl (hb hby at_174) rfl (flt (by decide : ¬ ((3 : Int32) < (1 : Int32)))).2.2.2 (by decide) (by decide) ?_
    show Steps p.tables e below (T15.setTop (mkF m 183 #[.val (.int p1), .val (.int p2), .val (.int p3), .val (.int p4), .val (.int p5), .val (.int (1 : Int32)), .val (.ref b6), .val (.ref b8), .val (.int (0 : Int32)), .val (.int (own_anyf (own_at [p2]) 1 0 0)), .val (.int (1 : Int32)), .unset] [])) _
    refine XS.aload X15.here hx rfl (hb hby at_183) rfl rfl ?_
    show Steps p.tables e below (T15.setTop (mkF m 185 #[.val (.int p1), .val (.int p2), .val (.int p3), .val (.int p4), .val (.int p5), .val (.int (1 : Int32)), .val (.ref b6), .val (.ref b8), .val (.int (0 : Int32)), .val (.int (own_anyf (own_at [p2]) 1 0 0)), .val (.int (1 : Int32)), .unset] [(.ref b8)])) _
    refine st16.trans ?_
    show Steps p.tables e below (T16.setTop (mkF m 188 #[.val (.int p1), .val (.int p2), .val (.int p3), .val (.int p4), .val (.int p5), .val (.int (1 : Int32)), .val (.ref b6), .val (.ref b8), .val (.int (0 : Int32)), .val (.int (own_anyf (own_at [p2]) 1 0 0)), .val (.int (1 : Int32)), .unset] [(.int (own_anyf (own_at [p2]) 1 0 0))])) _
    refine XS.istore X16.here hx rfl (hb hby at_188) rfl (l' := #[.val (.int p1), .val (.int p2), .val (.int p3), .val (.int p4), .val (.int p5), .val (.int (1 : Int32)), .val (.ref b6), .val (.ref b8), .val (.int (0 : Int32)), .val (.int (own_anyf (own_at [p2]) 1 0 0)), .val (.int (1 : Int32)), .val (.int (own_anyf (own_at [p2]) 1 0 0))]) rfl ?_
    show Steps p.tables e below (T16.setTop (mkF m 190 #[.val (.int p1), .val (.int p2), .val (.int p3), .val (.int p4), .val (.int p5), .val (.int (1 : Int32)), .val (.ref b6), .val (.ref b8), .val (.int (0 : Int32)), .val (.int (own_anyf (own_at [p2]) 1 0 0)), .val (.int (1 : Int32)), .val (.int (own_anyf (own_at [p2]) 1 0 0))] [])) _
    refine XS.iload X16.here hx rfl (hb hby at_190) rfl ?_
    show Steps p.tables e below (T16.setTop (mkF m 192 #[.val (.int p1), .val (.int p2), .val (.int p3), .val (.int p4), .val (.int p5), .val (.int (1 : Int32)), .val (.ref b6), .val (.ref b8), .val (.int (0 : Int32)), .val (.int (own_anyf (own_at [p2]) 1 0 0)), .val (.int (1 : Int32)), .val (.int (own_anyf (own_at [p2]) 1 0 0))] [(.int (own_anyf (own_at [p2]) 1 0 0))])) _
    refine XS.iload X16.here hx rfl (hb hby at_192) rfl ?_
    show Steps p.tables e below (T16.setTop (mkF m 194 #[.val (.int p1), .val (.int p2), .val (.int p3), .val (.int p4), .val (.int p5), .val (.int (1 : Int32)), .val (.ref b6), .val (.ref b8), .val (.int (0 : Int32)), .val (.int (own_anyf (own_at [p2]) 1 0 0)), .val (.int (1 : Int32)), .val (.int (own_anyf (own_at [p2]) 1 0 0))] [(.int (0 : Int32)), (.int (own_anyf (own_at [p2]) 1 0 0))])) _
    refine XS.icmpNo X16.here hx rfl (hb hby at_194) rfl (teq (own_ok : (own_anyf (own_at [p2]) 1 0 0) = (0 : Int32))).2 ?_
    show Steps p.tables e below (T16.setTop (mkF m 197 #[.val (.int p1), .val (.int p2), .val (.int p3), .val (.int p4), .val (.int p5), .val (.int (1 : Int32)), .val (.ref b6), .val (.ref b8), .val (.int (0 : Int32)), .val (.int (own_anyf (own_at [p2]) 1 0 0)), .val (.int (1 : Int32)), .val (.int (own_anyf (own_at [p2]) 1 0 0))] [])) _
    refine XS.iload X16.here hx rfl (hb hby at_197) rfl ?_
    show Steps p.tables e below (T16.setTop (mkF m 199 #[.val (.int p1), .val (.int p2), .val (.int p3), .val (.int p4), .val (.int p5), .val (.int (1 : Int32)), .val (.ref b6), .val (.ref b8), .val (.int (0 : Int32)), .val (.int (own_anyf (own_at [p2]) 1 0 0)), .val (.int (1 : Int32)), .val (.int (own_anyf (own_at [p2]) 1 0 0))] [(.int (own_anyf (own_at [p2]) 1 0 0))])) _
    refine XS.iload X16.here hx rfl (hb hby at_199) rfl ?_
    show Steps p.tables e below (T16.setTop (mkF m 201 #[.val (.int p1), .val (.int p2), .val (.int p3), .val (.int p4), .val (.int p5), .val (.int (1 : Int32)), .val (.ref b6), .val (.ref b8), .val (.int (0 : Int32)), .val (.int (own_anyf (own_at [p2]) 1 0 0)), .val (.int (1 : Int32)), .val (.int (own_anyf (own_at [p2]) 1 0 0))] [(.int (0 : Int32)), (.int (own_anyf (own_at [p2]) 1 0 0))])) _
    refine XS.icmpNo X16.here hx rfl (hb hby at_201) rfl (teq (own_ok : (own_anyf (own_at [p2]) 1 0 0) = (0 : Int32))).2 ?_
    show Steps p.tables e below (T16.setTop (mkF m 204 #[.val (.int p1), .val (.int p2), .val (.int p3), .val (.int p4), .val (.int p5), .val (.int (1 : Int32)), .val (.ref b6), .val (.ref b8), .val (.int (0 : Int32)), .val (.int (own_anyf (own_at [p2]) 1 0 0)), .val (.int (1 : Int32)), .val (.int (own_anyf (own_at [p2]) 1 0 0))] [])) _
    refine XS.iconst X16.here hx rfl (hb hby at_204) ?_
    show Steps p.tables e below (T16.setTop (mkF m 205 #[.val (.int p1), .val (.int p2), .val (.int p3), .val (.int p4), .val (.int p5), .val (.int (1 : Int32)), .val (.ref b6), .val (.ref b8), .val (.int (0 : Int32)), .val (.int (own_anyf (own_at [p2]) 1 0 0)), .val (.int (1 : Int32)), .val (.int (own_anyf (own_at [p2]) 1 0 0))] [(.int (1 : Int32))])) _
    refine XS.goto X16.here hx rfl (pc0 := 205) (pc' := 209) rfl (hb hby at_205) (by decide) (by decide) ?_
    show Steps p.tables e below (T16.setTop (mkF m 209 #[.val (.int p1), .val (.int p2), .val (.int p3), .val (.int p4), .val (.int p5), .val (.int (1 : Int32)), .val (.ref b6), .val (.ref b8), .val (.int (0 : Int32)), .val (.int (own_anyf (own_at [p2]) 1 0 0)), .val (.int (1 : Int32)), .val (.int (own_anyf (own_at [p2]) 1 0 0))] [(.int (1 : Int32))])) _
    exact retN X16 hx (t := .boolean) Bd.returns (by simp) (hb hby at_209) hr
  · show Q0_11 Z p1 p2 p3 p4 p5 h0 n0 _ T16.heap _
    exact ⟨rfl, N16⟩
def Q0_20 (Z : State) (p1 : Int32) (p2 : Int32) (p3 : Int32) (p4 : Int32) (p5 : Int32) (h0 : Heap) (n0 : Nat) (v : Option Value) (h : Heap) (L : List Loc) : Prop := v = some (.int (1 : Int32)) ∧ Fr n0 L
set_option maxRecDepth 65536 in
set_option maxHeartbeats 40000000 in
theorem rm0_20 (l : Launch) (Z : State) (a0 : Array Value) (hw : ∀ d ∈ tables_1, d.before a0 Z = true) (ws : List Jvm.Cond) (p1 : Int32) (p2 : Int32) (p3 : Int32) (p4 : Int32) (p5 : Int32) (h0 : Heap) (n0 : Nat) (Z0 : n0 ≤ h0.size) (hp5 : ((p1 &&& (2147483647 : Int32)) % (5 : Int32)) = (2 : Int32)) (ch0 : p2 = (1 : Int32)) :
    MetFree l x (head1 (Jvm.Cond.code x code maxLocals ret :: ws) room_1) (fun a U => a = #[(.int p1), (.int p2), (.int p3), (.int p4), (.int p5)] ∧ Z.Warmed39 U.vm ∧ U.heap = h0) (fun _ _ _ _ _ => True) (fun _ U o U' => ∃ v L, o = .returned v ∧ Q0_20 Z p1 p2 p3 p4 p5 h0 n0 v U'.heap L ∧ FrameEnd U o U' L room_1.cells room_1.slots) := by
  refine MetFree.of_bodySF (plainFor_of_name pn_0) hisR ?_
  intro p e s m args below meth c s₁ Bd hml0 hP hK
  obtain ⟨rfl, hZ, hh⟩ := hP
  have own_ok : (own_anyf (own_at [p2, p3]) 2 0 0) = (1 : Int32) := by
    simp [own_anyf, own_or, own_at, ch0]
  have hx := Bd.exec
  have hby := Bd.bytes
  have hml : c.maxLocals = 12 := hml0
  have hown : s.vm.findClass "com/example/tendril/tendril/FormatsAnyBinaryPinLaw" = some m.cls := findClass_of_methodNamed Bd.named
  have hnm := (name_of_methodNamed Bd.named Bd.method).1
  have X0 : Stand p l e room_1 s m #[(.int p1), (.int p2), (.int p3), (.int p4), (.int p5)] below meth c s₁ [] 0 0 := Stand.of_body Bd
  have e0 : s₁.heap = h0 := by rw [← hh, Bd.state]; rfl
  have N0 := Fr.nil n0
  have pre0 : ∀ t, Steps p.tables e below (s₁.setTop (mkF m 0 #[.val (.int p1), .val (.int p2), .val (.int p3), .val (.int p4), .val (.int p5), .unset, .unset, .unset, .unset, .unset, .unset, .unset] [])) t → Steps p.tables e below (s₁.setTop (entryFrame m #[(.int p1), (.int p2), (.int p3), (.int p4), (.int p5)] maxLocals)) t := fun t k => castTop (ef_0 m p1 p2 p3 p4 p5) k
  obtain ⟨T6, h6, k6, X6, e6, E6, A6, Ea6, st6⟩ := newPE X0 hx hZ (hw _ (List.mem_of_getElem? (i := 1) rfl)) e0 (g := (mkF m 10 #[.val (.int p1), .val (.int p2), .val (.int p3), .val (.int p4), .val (.int p5), .val (.int (2 : Int32)), .unset, .unset, .unset, .unset, .unset, .unset] [(.int (2 : Int32))])) rfl (hb hby at_10) rfl (by decide) (cap := 2) (by decide) (by decide) (by decide) (by decide) (ad := "[I") rfl
  obtain ⟨b6, g6⟩ : ∃ z, z = h0.size := ⟨_, rfl⟩
  rw [← g6] at A6 Ea6 st6
  have V_b6 : Arv Z h6 b6 k6 .int (2 : Int32) [(.int (0 : Int32)), (.int (0 : Int32))] (.int (0 : Int32)) := (Arv.new A6 (by decide)).pad (pad_rep [] (.int (0 : Int32)) 2)
  have g_b6 : n0 ≤ b6 := Nat.le_trans Z0 (Nat.le_of_eq g6.symm)
  have sz_b6 : h0.size ≤ b6 := (Nat.le_trans (Keep.refl h0 []).1 (Nat.le_of_eq g6.symm))
  have K6 : Keep h0 h6 [] := (Keep.refl h0 []).ext E6
  obtain ⟨cl_b6_23, Ar_b6, q_b6, S_b6, N_b6, H_b6, G_b6⟩ := V_b6
  have hin23 : ¬ ((0 : Int32) < 0 ∨ cl_b6_23.slots.size ≤ ((0 : Int32)).toNatClampNeg) := inb_of S_b6 ⟨by decide, by decide⟩
  obtain ⟨T7, h7, X7, e7, W7, st7⟩ := stI X6 hx hZ e6 Ar_b6 (j := (0 : Int32)) hin23 (g := (mkF m 23 #[.val (.int p1), .val (.int p2), .val (.int p3), .val (.int p4), .val (.int p5), .val (.int (2 : Int32)), .val (.ref b6), .unset, .unset, .unset, .unset, .unset] [(.int p2), (.int (0 : Int32)), (.ref b6)])) rfl rfl (hb hby at_23)
  have V_b6_7 := Arv.set Ar_b6 q_b6 S_b6 N_b6 H_b6 G_b6 rfl W7 0 rfl (Nat.le_of_ble_eq_true rfl)
  have K7 : Keep h0 h7 [] := K6.wr W7 (Or.inr sz_b6)
  have N7 := Fr.snoc X7 N0 g_b6
  obtain ⟨cl_b6_34, Ar_b6, q_b6, S_b6, N_b6, H_b6, G_b6⟩ := V_b6_7
  have hin34 : ¬ ((1 : Int32) < 0 ∨ cl_b6_34.slots.size ≤ ((1 : Int32)).toNatClampNeg) := inb_of S_b6 ⟨by decide, by decide⟩
  obtain ⟨T8, h8, X8, e8, W8, st8⟩ := stI X7 hx hZ e7 Ar_b6 (j := (1 : Int32)) hin34 (g := (mkF m 34 #[.val (.int p1), .val (.int p2), .val (.int p3), .val (.int p4), .val (.int p5), .val (.int (2 : Int32)), .val (.ref b6), .unset, .unset, .unset, .unset, .unset] [(.int p3), (.int (1 : Int32)), (.ref b6)])) rfl rfl (hb hby at_34)
  have V_b6_8 := Arv.set Ar_b6 q_b6 S_b6 N_b6 H_b6 G_b6 rfl W8 1 rfl (Nat.le_of_ble_eq_true rfl)
  have K8 : Keep h0 h8 [] := K7.wr W8 (Or.inr sz_b6)
  have N8 := Fr.snoc X8 N7 g_b6
  obtain ⟨T9, h9, X9, e9, E9, A9, D9, -, st9⟩ := newO X8 hx hZ hown (hw _ (List.mem_of_getElem? (i := 2) rfl)) (hw _ (List.mem_of_getElem? (i := 3) rfl)) (hw _ (List.mem_of_getElem? (i := 4) rfl)) e8 (g := (mkF m 58 #[.val (.int p1), .val (.int p2), .val (.int p3), .val (.int p4), .val (.int p5), .val (.int (2 : Int32)), .val (.ref b6), .unset, .unset, .unset, .unset, .unset] [])) rfl (hb hby at_58) (by decide) (by decide)
  obtain ⟨b9, g9⟩ : ∃ z, z = h8.size := ⟨_, rfl⟩
  rw [← g9] at A9 D9 st9
  have F_codes_b9 : Fld Z h9 b9 "com/example/tendril/tendril/WireColumns$Formats" "codes" "[I" .null := D9 (Or.inr (hw _ (List.mem_of_getElem? (i := 21) rfl))) (ty := (.array .int)) (by decide)
  have E_b9 := A9
  have g_b9 : n0 ≤ b9 := Nat.le_trans (Nat.le_trans (Nat.le_trans (Nat.le_trans Z0 E6.1) (Keep.of_wr W7).1) (Keep.of_wr W8).1) (Nat.le_of_eq g9.symm)
  have sz_b9 : h0.size ≤ b9 := (Nat.le_trans K8.1 (Nat.le_of_eq g9.symm))
  have K9 : Keep h0 h9 [] := K8.ext E9
  obtain ⟨_, _, ⟨T10, L10, k10, n10⟩, -, X10, ⟨Lc10, hQ10, l10, y10, z10⟩, st10⟩ := X9.specialBack hx (y := (⟨"com/example/tendril/tendril/WireColumns$Formats", "<init>", "([I)V"⟩ : MethodName)) rfl hown (mvT hZ (hw _ (List.mem_of_getElem? (i := 5) rfl))) (mvT hZ (hw _ (List.mem_of_getElem? (i := 6) rfl))) (mvT hZ (hw _ (List.mem_of_getElem? (i := 7) rfl))) (by decide) (backOf (W := 1) (rm1 l Z a0 hw [] b9 b6 .null _ _ _ _ h9 n0 (Nat.le_trans Z0 K9.1) (((Ea6.wr W7).wr W8).ext E9) (V_b6_8.ext E9) (by decide) E_b9 F_codes_b9 g_b9) hZ (hw _ (List.mem_of_getElem? (i := 7) rfl)) (hw _ (List.mem_of_getElem? (i := 4) rfl)) (by decide) (by decide)) (g := (mkF m 64 #[.val (.int p1), .val (.int p2), .val (.int p3), .val (.int p4), .val (.int p5), .val (.int (2 : Int32)), .val (.ref b6), .unset, .unset, .unset, .unset, .unset] [(.ref b6), (.ref b9), (.ref b9)])) rfl (by rw [hml]; rfl) (Steps.refl _) (a := b9) (argsL := [(.ref b6)]) (rest := [(.ref b9)]) (lenOf pd_0_0 rfl) rfl (by show 2 * 0 + _ ≤ _; exact Nat.le_of_eq rfl) (hb hby at_64) (fun _ _ => ⟨rfl, e9, (Nat.le_of_ble_eq_true rfl), (Nat.le_of_ble_eq_true rfl)⟩)
  dsimp only [Pt.U, Pt.locs, Pt.cells, Pt.slots] at X10 l10 y10 z10 st10 hQ10
  subst l10 y10 z10
  obtain ⟨rfl, N10q, K10c, E10c, bC, szC, FC, VC⟩ := hQ10
  have ne_ao : b6 ≠ b9 := Nat.ne_of_lt (Nat.lt_of_lt_of_le V_b6_8.lt (Nat.le_of_eq g9.symm))
  have ne_Ca : bC ≠ b6 := Ne.symm (Nat.ne_of_lt (Nat.lt_of_lt_of_le (V_b6_8.ext E9).lt szC))
  have K10 : Keep h0 T10.heap [] := K9.trans K10c (allS (Or.inr sz_b9) all0)
  have N10 := Fr.app N8 N10q
  obtain ⟨_, _, ⟨T11, L11, k11, n11⟩, -, X11, ⟨Lc11, hQ11, l11, y11, z11⟩, st11⟩ := Jvm.LawKit.callS X10 hx (y := (⟨"com/example/tendril/tendril/FormatsAnyBinaryPinLaw", "hit", "(III)Z"⟩ : MethodName)) hown (mvT hZ (hw _ (List.mem_of_getElem? (i := 22) rfl))) (mvT hZ (hw _ (List.mem_of_getElem? (i := 23) rfl))) (mvT hZ (hw _ (List.mem_of_getElem? (i := 24) rfl))) (mvT hZ (hw _ (List.mem_of_getElem? (i := 25) rfl))) (by decide) (backOf (W := 0) (rm3ff l Z a0 hw [] (2 : Int32) (0 : Int32) p2 T10.heap n0 (Nat.le_trans Z0 K10.1) (by decide) ch0) hZ (hw _ (List.mem_of_getElem? (i := 25) rfl)) (hw _ (List.mem_of_getElem? (i := 24) rfl)) (by decide) (by decide)) (g := (mkF m 73 #[.val (.int p1), .val (.int p2), .val (.int p3), .val (.int p4), .val (.int p5), .val (.int (2 : Int32)), .val (.ref b6), .val (.ref b9), .unset, .unset, .unset, .unset] [(.int p2), (.int (0 : Int32)), (.int (2 : Int32))])) rfl (by rw [hml]; rfl) (argsL := [(.int (2 : Int32)), (.int (0 : Int32)), (.int p2)]) (rest := []) (lenOf pd_0_3 rfl) rfl (by show 2 * 0 + _ ≤ _; exact Nat.le_of_eq rfl) (hb hby at_73) (fun _ _ => ⟨rfl, rfl, (Nat.le_of_ble_eq_true rfl), (Nat.le_of_ble_eq_true rfl)⟩)
  dsimp only [Pt.U, Pt.locs, Pt.cells, Pt.slots] at X11 l11 y11 z11 st11 hQ11
  subst l11 y11 z11
  obtain ⟨rfl, N11q, e11⟩ := hQ11
  have K11 : Keep h0 T11.heap [] := K10.trans (own_keq e11) all0
  have N11 := Fr.app N10 N11q
  obtain ⟨clC1, ArC1, -, SC1, NC1, HC1, -⟩ := (VC.keep (own_keq e11) nin0)
  have HV1 : ∀ j, j < 2 → clC1.slots[j]? = some (.int (own_at [p2, p3] j)) := by
    intro j hj
    match j, hj with
    | 0, _ => exact HC1 0 (by rw [SC1]; decide)
    | 1, _ => exact HC1 1 (by rw [SC1]; decide)
  obtain ⟨cq12, kq12, q12a, q12b, q12c⟩ := isOf hZ rfl ((E_b9.keep K10c).keep (own_keq e11))
  obtain ⟨_, _, ⟨T12, L12, k12, n12⟩, -, X12, ⟨Lc12, hQ12, l12, y12, z12⟩, st12⟩ := X11.virtualBack hx (y := (⟨"com/example/tendril/tendril/WireColumns$Formats", "anyBinary", "()Z"⟩ : MethodName)) (z := (⟨"com/example/tendril/tendril/WireColumns$Formats", "anyBinary", "()Z"⟩ : MethodName)) hown (mvT hZ (hw _ (List.mem_of_getElem? (i := 26) rfl))) (mvT hZ (hw _ (List.mem_of_getElem? (i := 27) rfl))) (notFace_of_selects (args := #[]) (mvT hZ (hw _ (List.mem_of_getElem? (i := 29) rfl)))) (mvT hZ (hw _ (List.mem_of_getElem? (i := 29) rfl))) (mvT hZ (hw _ (List.mem_of_getElem? (i := 28) rfl))) (by decide) (backOf (W := 0) (rm4 l Z a0 hw [] b9 bC clC1 2 (own_at [p2, p3]) T11.heap n0 (Nat.le_trans Z0 K11.1) (FC.keep (own_keq e11) nin0) ArC1 (SC1.trans (by decide)) HV1 (by decide)) hZ (hw _ (List.mem_of_getElem? (i := 30) rfl)) (hw _ (List.mem_of_getElem? (i := 4) rfl)) (by decide) (by decide)) q12a q12c (g := (mkF m 119 #[.val (.int p1), .val (.int p2), .val (.int p3), .val (.int p4), .val (.int p5), .val (.int (2 : Int32)), .val (.ref b6), .val (.ref b9), .val (.int (1 : Int32)), .unset, .unset, .unset] [(.ref b9)])) rfl (by rw [hml]; rfl) (Steps.refl _) (argsL := []) (rest := []) (lenOf pd_0_4 rfl) rfl (by show 2 * 0 + _ ≤ _; exact Nat.le_of_eq rfl) (hb hby at_119) (fun _ _ => ⟨rfl, rfl, (Nat.le_of_ble_eq_true rfl), (Nat.le_of_ble_eq_true rfl)⟩)
  dsimp only [Pt.U, Pt.locs, Pt.cells, Pt.slots] at X12 l12 y12 z12 st12 hQ12
  subst l12 y12 z12
  obtain ⟨rfl, N12q, e12⟩ := hQ12
  have K12 : Keep h0 T12.heap [] := K11.trans (own_keq e12) all0
  have N12 := Fr.app N11 N12q
  obtain ⟨cl_b6_146, Ar_b6, q_b6, S_b6, N_b6, H_b6, G_b6⟩ := ((((V_b6_8.ext E9).keep K10c (ninS ne_ao nin0)).keep (own_keq e11) nin0).keep (own_keq e12) nin0)
  have hin146 : ¬ ((0 : Int32) < 0 ∨ cl_b6_146.slots.size ≤ ((0 : Int32)).toNatClampNeg) := inb_of S_b6 ⟨by decide, by decide⟩
  obtain ⟨T13, h13, X13, e13, W13, st13⟩ := stI X12 hx hZ rfl Ar_b6 (j := (0 : Int32)) hin146 (g := (mkF m 146 #[.val (.int p1), .val (.int p2), .val (.int p3), .val (.int p4), .val (.int p5), .val (.int (2 : Int32)), .val (.ref b6), .val (.ref b9), .val (.int (1 : Int32)), .val (.int (own_anyf (own_at [p2, p3]) 2 0 0)), .val (.int (0 : Int32)), .unset] [(.int (0 : Int32)), (.int (0 : Int32)), (.ref b6)])) rfl rfl (hb hby at_146)
  have V_b6_13 := Arv.set Ar_b6 q_b6 S_b6 N_b6 H_b6 G_b6 rfl W13 0 rfl (Nat.le_of_ble_eq_true rfl)
  have K13 : Keep h0 h13 [] := K12.wr W13 (Or.inr sz_b6)
  have N13 := Fr.snoc X13 N12 g_b6
  obtain ⟨cl_b6_158, Ar_b6, q_b6, S_b6, N_b6, H_b6, G_b6⟩ := V_b6_13
  have hin158 : ¬ ((1 : Int32) < 0 ∨ cl_b6_158.slots.size ≤ ((1 : Int32)).toNatClampNeg) := inb_of S_b6 ⟨by decide, by decide⟩
  obtain ⟨T14, h14, X14, e14, W14, st14⟩ := stI X13 hx hZ e13 Ar_b6 (j := (1 : Int32)) hin158 (g := (mkF m 158 #[.val (.int p1), .val (.int p2), .val (.int p3), .val (.int p4), .val (.int p5), .val (.int (2 : Int32)), .val (.ref b6), .val (.ref b9), .val (.int (1 : Int32)), .val (.int (own_anyf (own_at [p2, p3]) 2 0 0)), .val (.int (0 : Int32)), .unset] [(.int (0 : Int32)), (.int (1 : Int32)), (.ref b6)])) rfl rfl (hb hby at_158)
  have V_b6_14 := Arv.set Ar_b6 q_b6 S_b6 N_b6 H_b6 G_b6 rfl W14 1 rfl (Nat.le_of_ble_eq_true rfl)
  have K14 : Keep h0 h14 [] := K13.wr W14 (Or.inr sz_b6)
  have N14 := Fr.snoc X14 N13 g_b6
  obtain ⟨clC2, ArC2, -, SC2, NC2, HC2, -⟩ := ((((VC.keep (own_keq e11) nin0).keep (own_keq e12) nin0).other W13 ne_Ca).other W14 ne_Ca)
  have HV2 : ∀ j, j < 2 → clC2.slots[j]? = some (.int (own_at [p2, p3] j)) := by
    intro j hj
    match j, hj with
    | 0, _ => exact HC2 0 (by rw [SC2]; decide)
    | 1, _ => exact HC2 1 (by rw [SC2]; decide)
  obtain ⟨cq15, kq15, q15a, q15b, q15c⟩ := isOf hZ e14 (((((E_b9.keep K10c).keep (own_keq e11)).keep (own_keq e12)).wr W13).wr W14)
  obtain ⟨_, _, ⟨T15, L15, k15, n15⟩, -, X15, ⟨Lc15, hQ15, l15, y15, z15⟩, st15⟩ := X14.virtualBack hx (y := (⟨"com/example/tendril/tendril/WireColumns$Formats", "anyBinary", "()Z"⟩ : MethodName)) (z := (⟨"com/example/tendril/tendril/WireColumns$Formats", "anyBinary", "()Z"⟩ : MethodName)) hown (mvT hZ (hw _ (List.mem_of_getElem? (i := 26) rfl))) (mvT hZ (hw _ (List.mem_of_getElem? (i := 27) rfl))) (notFace_of_selects (args := #[]) (mvT hZ (hw _ (List.mem_of_getElem? (i := 29) rfl)))) (mvT hZ (hw _ (List.mem_of_getElem? (i := 29) rfl))) (mvT hZ (hw _ (List.mem_of_getElem? (i := 28) rfl))) (by decide) (backOf (W := 0) (rm4 l Z a0 hw [] b9 bC clC2 2 (own_at [p2, p3]) h14 n0 (Nat.le_trans Z0 K14.1) ((((FC.keep (own_keq e11) nin0).keep (own_keq e12) nin0).other W13 (Or.inl (Ne.symm ne_ao))).other W14 (Or.inl (Ne.symm ne_ao))) ArC2 (SC2.trans (by decide)) HV2 (by decide)) hZ (hw _ (List.mem_of_getElem? (i := 30) rfl)) (hw _ (List.mem_of_getElem? (i := 4) rfl)) (by decide) (by decide)) q15a q15c (g := (mkF m 185 #[.val (.int p1), .val (.int p2), .val (.int p3), .val (.int p4), .val (.int p5), .val (.int (2 : Int32)), .val (.ref b6), .val (.ref b9), .val (.int (1 : Int32)), .val (.int (own_anyf (own_at [p2, p3]) 2 0 0)), .val (.int (0 : Int32)), .unset] [(.ref b9)])) rfl (by rw [hml]; rfl) (Steps.refl _) (argsL := []) (rest := []) (lenOf pd_0_4 rfl) rfl (by show 2 * 0 + _ ≤ _; exact Nat.le_of_eq rfl) (hb hby at_185) (fun _ _ => ⟨rfl, e14, (Nat.le_of_ble_eq_true rfl), (Nat.le_of_ble_eq_true rfl)⟩)
  dsimp only [Pt.U, Pt.locs, Pt.cells, Pt.slots] at X15 l15 y15 z15 st15 hQ15
  subst l15 y15 z15
  obtain ⟨rfl, N15q, e15⟩ := hQ15
  have K15 : Keep h0 T15.heap [] := K14.trans (own_keq e15) all0
  have N15 := Fr.app N14 N15q
  obtain ⟨fs, hr, hrun, hended, hW, hsame⟩ := X15.leave (v := some (.int (1 : Int32))) (fun h => by rw [Bd.returns] at h; cases h)
  refine ⟨_, _, pre0 _ ?_, hrun, hended, _, _, rfl, ?_, ⟨_, rfl⟩, hW, hsame.mono (by decide) (by decide)⟩
  · show Steps p.tables e below (s₁.setTop (mkF m 0 #[.val (.int p1), .val (.int p2), .val (.int p3), .val (.int p4), .val (.int p5), .unset, .unset, .unset, .unset, .unset, .unset, .unset] [])) _
    refine XS.iloadN X0.here hx rfl (hb hby at_0) rfl ?_
    show Steps p.tables e below (s₁.setTop (mkF m 1 #[.val (.int p1), .val (.int p2), .val (.int p3), .val (.int p4), .val (.int p5), .unset, .unset, .unset, .unset, .unset, .unset, .unset] [(.int p1)])) _
    refine X0.ldcInt hx hown (mvT hZ (hw _ (List.mem_of_getElem? (i := 0) rfl))) (g := (mkF m 1 #[.val (.int p1), .val (.int p2), .val (.int p3), .val (.int p4), .val (.int p5), .unset, .unset, .unset, .unset, .unset, .unset, .unset] [(.int p1)])) rfl (hb hby at_1) _ ?_
    show Steps p.tables e below (s₁.setTop (mkF m 3 #[.val (.int p1), .val (.int p2), .val (.int p3), .val (.int p4), .val (.int p5), .unset, .unset, .unset, .unset, .unset, .unset, .unset] [(.int (2147483647 : Int32)), (.int p1)])) _
    refine XS.iand X0.here hx rfl (hb hby at_3) rfl ?_
    show Steps p.tables e below (s₁.setTop (mkF m 4 #[.val (.int p1), .val (.int p2), .val (.int p3), .val (.int p4), .val (.int p5), .unset, .unset, .unset, .unset, .unset, .unset, .unset] [(.int (p1 &&& (2147483647 : Int32)))])) _
    refine XS.iconst X0.here hx rfl (hb hby at_4) ?_
    show Steps p.tables e below (s₁.setTop (mkF m 5 #[.val (.int p1), .val (.int p2), .val (.int p3), .val (.int p4), .val (.int p5), .unset, .unset, .unset, .unset, .unset, .unset, .unset] [(.int (5 : Int32)), (.int (p1 &&& (2147483647 : Int32)))])) _
    refine iremM X0 hx rfl (hb hby at_5) rfl (by decide) ?_
    rw [hp5]
    show Steps p.tables e below (s₁.setTop (mkF m 6 #[.val (.int p1), .val (.int p2), .val (.int p3), .val (.int p4), .val (.int p5), .unset, .unset, .unset, .unset, .unset, .unset, .unset] [(.int (2 : Int32))])) _
    refine XS.istore X0.here hx rfl (hb hby at_6) rfl (l' := #[.val (.int p1), .val (.int p2), .val (.int p3), .val (.int p4), .val (.int p5), .val (.int (2 : Int32)), .unset, .unset, .unset, .unset, .unset, .unset]) rfl ?_
    show Steps p.tables e below (s₁.setTop (mkF m 8 #[.val (.int p1), .val (.int p2), .val (.int p3), .val (.int p4), .val (.int p5), .val (.int (2 : Int32)), .unset, .unset, .unset, .unset, .unset, .unset] [])) _
    refine XS.iload X0.here hx rfl (hb hby at_8) rfl ?_
    show Steps p.tables e below (s₁.setTop (mkF m 10 #[.val (.int p1), .val (.int p2), .val (.int p3), .val (.int p4), .val (.int p5), .val (.int (2 : Int32)), .unset, .unset, .unset, .unset, .unset, .unset] [(.int (2 : Int32))])) _
    refine st6 _ ?_
    show Steps p.tables e below (T6.setTop (mkF m 12 #[.val (.int p1), .val (.int p2), .val (.int p3), .val (.int p4), .val (.int p5), .val (.int (2 : Int32)), .unset, .unset, .unset, .unset, .unset, .unset] [(.ref b6)])) _
    refine XS.astore X6.here hx rfl (hb hby at_12) rfl rfl (l' := #[.val (.int p1), .val (.int p2), .val (.int p3), .val (.int p4), .val (.int p5), .val (.int (2 : Int32)), .val (.ref b6), .unset, .unset, .unset, .unset, .unset]) rfl ?_
    show Steps p.tables e below (T6.setTop (mkF m 14 #[.val (.int p1), .val (.int p2), .val (.int p3), .val (.int p4), .val (.int p5), .val (.int (2 : Int32)), .val (.ref b6), .unset, .unset, .unset, .unset, .unset] [])) _
    refine XS.iload X6.here hx rfl (hb hby at_14) rfl ?_
    show Steps p.tables e below (T6.setTop (mkF m 16 #[.val (.int p1), .val (.int p2), .val (.int p3), .val (.int p4), .val (.int p5), .val (.int (2 : Int32)), .val (.ref b6), .unset, .unset, .unset, .unset, .unset] [(.int (2 : Int32))])) _
    refine XS.ifNo X6.here hx rfl (hb hby at_16) rfl ((if0 _ _).trans (tlt (by decide : (0 : Int32) < (2 : Int32))).2.2.2) ?_
    show Steps p.tables e below (T6.setTop (mkF m 19 #[.val (.int p1), .val (.int p2), .val (.int p3), .val (.int p4), .val (.int p5), .val (.int (2 : Int32)), .val (.ref b6), .unset, .unset, .unset, .unset, .unset] [])) _
    refine XS.aload X6.here hx rfl (hb hby at_19) rfl rfl ?_
    show Steps p.tables e below (T6.setTop (mkF m 21 #[.val (.int p1), .val (.int p2), .val (.int p3), .val (.int p4), .val (.int p5), .val (.int (2 : Int32)), .val (.ref b6), .unset, .unset, .unset, .unset, .unset] [(.ref b6)])) _
    refine XS.iconst X6.here hx rfl (hb hby at_21) ?_
    show Steps p.tables e below (T6.setTop (mkF m 22 #[.val (.int p1), .val (.int p2), .val (.int p3), .val (.int p4), .val (.int p5), .val (.int (2 : Int32)), .val (.ref b6), .unset, .unset, .unset, .unset, .unset] [(.int (0 : Int32)), (.ref b6)])) _
    refine XS.iloadN X6.here hx rfl (hb hby at_22) rfl ?_
    show Steps p.tables e below (T6.setTop (mkF m 23 #[.val (.int p1), .val (.int p2), .val (.int p3), .val (.int p4), .val (.int p5), .val (.int (2 : Int32)), .val (.ref b6), .unset, .unset, .unset, .unset, .unset] [(.int p2), (.int (0 : Int32)), (.ref b6)])) _
    refine st7 _ ?_
    show Steps p.tables e below (T7.setTop (mkF m 24 #[.val (.int p1), .val (.int p2), .val (.int p3), .val (.int p4), .val (.int p5), .val (.int (2 : Int32)), .val (.ref b6), .unset, .unset, .unset, .unset, .unset] [])) _
    refine XS.iload X7.here hx rfl (hb hby at_24) rfl ?_
    show Steps p.tables e below (T7.setTop (mkF m 26 #[.val (.int p1), .val (.int p2), .val (.int p3), .val (.int p4), .val (.int p5), .val (.int (2 : Int32)), .val (.ref b6), .unset, .unset, .unset, .unset, .unset] [(.int (2 : Int32))])) _
    refine XS.iconst X7.here hx rfl (hb hby at_26) ?_
    show Steps p.tables e below (T7.setTop (mkF m 27 #[.val (.int p1), .val (.int p2), .val (.int p3), .val (.int p4), .val (.int p5), .val (.int (2 : Int32)), .val (.ref b6), .unset, .unset, .unset, .unset, .unset] [(.int (1 : Int32)), (.int (2 : Int32))])) _
    refine XS.icmpNo X7.here hx rfl (hb hby at_27) rfl (tlt (by decide : (1 : Int32) < (2 : Int32))).2.2.2 ?_
    show Steps p.tables e below (T7.setTop (mkF m 30 #[.val (.int p1), .val (.int p2), .val (.int p3), .val (.int p4), .val (.int p5), .val (.int (2 : Int32)), .val (.ref b6), .unset, .unset, .unset, .unset, .unset] [])) _
    refine XS.aload X7.here hx rfl (hb hby at_30) rfl rfl ?_
    show Steps p.tables e below (T7.setTop (mkF m 32 #[.val (.int p1), .val (.int p2), .val (.int p3), .val (.int p4), .val (.int p5), .val (.int (2 : Int32)), .val (.ref b6), .unset, .unset, .unset, .unset, .unset] [(.ref b6)])) _
    refine XS.iconst X7.here hx rfl (hb hby at_32) ?_
    show Steps p.tables e below (T7.setTop (mkF m 33 #[.val (.int p1), .val (.int p2), .val (.int p3), .val (.int p4), .val (.int p5), .val (.int (2 : Int32)), .val (.ref b6), .unset, .unset, .unset, .unset, .unset] [(.int (1 : Int32)), (.ref b6)])) _
    refine XS.iloadN X7.here hx rfl (hb hby at_33) rfl ?_
    show Steps p.tables e below (T7.setTop (mkF m 34 #[.val (.int p1), .val (.int p2), .val (.int p3), .val (.int p4), .val (.int p5), .val (.int (2 : Int32)), .val (.ref b6), .unset, .unset, .unset, .unset, .unset] [(.int p3), (.int (1 : Int32)), (.ref b6)])) _
    refine st8 _ ?_
    show Steps p.tables e below (T8.setTop (mkF m 35 #[.val (.int p1), .val (.int p2), .val (.int p3), .val (.int p4), .val (.int p5), .val (.int (2 : Int32)), .val (.ref b6), .unset, .unset, .unset, .unset, .unset] [])) _
    refine XS.iload X8.here hx rfl (hb hby at_35) rfl ?_
    show Steps p.tables e below (T8.setTop (mkF m 37 #[.val (.int p1), .val (.int p2), .val (.int p3), .val (.int p4), .val (.int p5), .val (.int (2 : Int32)), .val (.ref b6), .unset, .unset, .unset, .unset, .unset] [(.int (2 : Int32))])) _
    refine XS.iconst X8.here hx rfl (hb hby at_37) ?_
    show Steps p.tables e below (T8.setTop (mkF m 38 #[.val (.int p1), .val (.int p2), .val (.int p3), .val (.int p4), .val (.int p5), .val (.int (2 : Int32)), .val (.ref b6), .unset, .unset, .unset, .unset, .unset] [(.int (2 : Int32)), (.int (2 : Int32))])) _
    refine XS.icmpYes X8.here hx rfl (pc0 := 38) (pc' := 46) rfl (hb hby at_38) rfl (flt (by decide : ¬ ((2 : Int32) < (2 : Int32)))).2.2.2 (by decide) (by decide) ?_
    show Steps p.tables e below (T8.setTop (mkF m 46 #[.val (.int p1), .val (.int p2), .val (.int p3), .val (.int p4), .val (.int p5), .val (.int (2 : Int32)), .val (.ref b6), .unset, .unset, .unset, .unset, .unset] [])) _
    refine XS.iload X8.here hx rfl (hb hby at_46) rfl ?_
    show Steps p.tables e below (T8.setTop (mkF m 48 #[.val (.int p1), .val (.int p2), .val (.int p3), .val (.int p4), .val (.int p5), .val (.int (2 : Int32)), .val (.ref b6), .unset, .unset, .unset, .unset, .unset] [(.int (2 : Int32))])) _
    refine XS.iconst X8.here hx rfl (hb hby at_48) ?_
    show Steps p.tables e below (T8.setTop (mkF m 49 #[.val (.int p1), .val (.int p2), .val (.int p3), .val (.int p4), .val (.int p5), .val (.int (2 : Int32)), .val (.ref b6), .unset, .unset, .unset, .unset, .unset] [(.int (3 : Int32)), (.int (2 : Int32))])) _
    refine XS.icmpYes X8.here hx rfl (pc0 := 49) (pc' := 58) rfl (hb hby at_49) rfl (flt (by decide : ¬ ((3 : Int32) < (2 : Int32)))).2.2.2 (by decide) (by decide) ?_
    show Steps p.tables e below (T8.setTop (mkF m 58 #[.val (.int p1), .val (.int p2), .val (.int p3), .val (.int p4), .val (.int p5), .val (.int (2 : Int32)), .val (.ref b6), .unset, .unset, .unset, .unset, .unset] [])) _
    refine st9 _ ?_
    show Steps p.tables e below (T9.setTop (mkF m 61 #[.val (.int p1), .val (.int p2), .val (.int p3), .val (.int p4), .val (.int p5), .val (.int (2 : Int32)), .val (.ref b6), .unset, .unset, .unset, .unset, .unset] [(.ref b9)])) _
    refine XS.dup X9.here hx rfl (hb hby at_61) rfl rfl ?_
    show Steps p.tables e below (T9.setTop (mkF m 62 #[.val (.int p1), .val (.int p2), .val (.int p3), .val (.int p4), .val (.int p5), .val (.int (2 : Int32)), .val (.ref b6), .unset, .unset, .unset, .unset, .unset] [(.ref b9), (.ref b9)])) _
    refine XS.aload X9.here hx rfl (hb hby at_62) rfl rfl ?_
    show Steps p.tables e below (T9.setTop (mkF m 64 #[.val (.int p1), .val (.int p2), .val (.int p3), .val (.int p4), .val (.int p5), .val (.int (2 : Int32)), .val (.ref b6), .unset, .unset, .unset, .unset, .unset] [(.ref b6), (.ref b9), (.ref b9)])) _
    refine st10.trans ?_
    show Steps p.tables e below (T10.setTop (mkF m 67 #[.val (.int p1), .val (.int p2), .val (.int p3), .val (.int p4), .val (.int p5), .val (.int (2 : Int32)), .val (.ref b6), .unset, .unset, .unset, .unset, .unset] [(.ref b9)])) _
    refine XS.astore X10.here hx rfl (hb hby at_67) rfl rfl (l' := #[.val (.int p1), .val (.int p2), .val (.int p3), .val (.int p4), .val (.int p5), .val (.int (2 : Int32)), .val (.ref b6), .val (.ref b9), .unset, .unset, .unset, .unset]) rfl ?_
    show Steps p.tables e below (T10.setTop (mkF m 69 #[.val (.int p1), .val (.int p2), .val (.int p3), .val (.int p4), .val (.int p5), .val (.int (2 : Int32)), .val (.ref b6), .val (.ref b9), .unset, .unset, .unset, .unset] [])) _
    refine XS.iload X10.here hx rfl (hb hby at_69) rfl ?_
    show Steps p.tables e below (T10.setTop (mkF m 71 #[.val (.int p1), .val (.int p2), .val (.int p3), .val (.int p4), .val (.int p5), .val (.int (2 : Int32)), .val (.ref b6), .val (.ref b9), .unset, .unset, .unset, .unset] [(.int (2 : Int32))])) _
    refine XS.iconst X10.here hx rfl (hb hby at_71) ?_
    show Steps p.tables e below (T10.setTop (mkF m 72 #[.val (.int p1), .val (.int p2), .val (.int p3), .val (.int p4), .val (.int p5), .val (.int (2 : Int32)), .val (.ref b6), .val (.ref b9), .unset, .unset, .unset, .unset] [(.int (0 : Int32)), (.int (2 : Int32))])) _
    refine XS.iloadN X10.here hx rfl (hb hby at_72) rfl ?_
    show Steps p.tables e below (T10.setTop (mkF m 73 #[.val (.int p1), .val (.int p2), .val (.int p3), .val (.int p4), .val (.int p5), .val (.int (2 : Int32)), .val (.ref b6), .val (.ref b9), .unset, .unset, .unset, .unset] [(.int p2), (.int (0 : Int32)), (.int (2 : Int32))])) _
    refine st11 _ ?_
    show Steps p.tables e below (T11.setTop (mkF m 76 #[.val (.int p1), .val (.int p2), .val (.int p3), .val (.int p4), .val (.int p5), .val (.int (2 : Int32)), .val (.ref b6), .val (.ref b9), .unset, .unset, .unset, .unset] [(.int (1 : Int32))])) _
    refine XS.ifYes X11.here hx rfl (pc0 := 76) (pc' := 110) rfl (hb hby at_76) rfl ((if0 _ _).trans (feq (by decide : ¬ ((1 : Int32) = (0 : Int32)))).2) (by decide) (by decide) ?_
    show Steps p.tables e below (T11.setTop (mkF m 110 #[.val (.int p1), .val (.int p2), .val (.int p3), .val (.int p4), .val (.int p5), .val (.int (2 : Int32)), .val (.ref b6), .val (.ref b9), .unset, .unset, .unset, .unset] [])) _
    refine XS.iconst X11.here hx rfl (hb hby at_110) ?_
    show Steps p.tables e below (T11.setTop (mkF m 111 #[.val (.int p1), .val (.int p2), .val (.int p3), .val (.int p4), .val (.int p5), .val (.int (2 : Int32)), .val (.ref b6), .val (.ref b9), .unset, .unset, .unset, .unset] [(.int (1 : Int32))])) _
    refine XS.goto X11.here hx rfl (pc0 := 111) (pc' := 115) rfl (hb hby at_111) (by decide) (by decide) ?_
    show Steps p.tables e below (T11.setTop (mkF m 115 #[.val (.int p1), .val (.int p2), .val (.int p3), .val (.int p4), .val (.int p5), .val (.int (2 : Int32)), .val (.ref b6), .val (.ref b9), .unset, .unset, .unset, .unset] [(.int (1 : Int32))])) _
    refine XS.istore X11.here hx rfl (hb hby at_115) rfl (l' := #[.val (.int p1), .val (.int p2), .val (.int p3), .val (.int p4), .val (.int p5), .val (.int (2 : Int32)), .val (.ref b6), .val (.ref b9), .val (.int (1 : Int32)), .unset, .unset, .unset]) rfl ?_
    show Steps p.tables e below (T11.setTop (mkF m 117 #[.val (.int p1), .val (.int p2), .val (.int p3), .val (.int p4), .val (.int p5), .val (.int (2 : Int32)), .val (.ref b6), .val (.ref b9), .val (.int (1 : Int32)), .unset, .unset, .unset] [])) _
    refine XS.aload X11.here hx rfl (hb hby at_117) rfl rfl ?_
    show Steps p.tables e below (T11.setTop (mkF m 119 #[.val (.int p1), .val (.int p2), .val (.int p3), .val (.int p4), .val (.int p5), .val (.int (2 : Int32)), .val (.ref b6), .val (.ref b9), .val (.int (1 : Int32)), .unset, .unset, .unset] [(.ref b9)])) _
    refine st12.trans ?_
    show Steps p.tables e below (T12.setTop (mkF m 122 #[.val (.int p1), .val (.int p2), .val (.int p3), .val (.int p4), .val (.int p5), .val (.int (2 : Int32)), .val (.ref b6), .val (.ref b9), .val (.int (1 : Int32)), .unset, .unset, .unset] [(.int (own_anyf (own_at [p2, p3]) 2 0 0))])) _
    refine XS.istore X12.here hx rfl (hb hby at_122) rfl (l' := #[.val (.int p1), .val (.int p2), .val (.int p3), .val (.int p4), .val (.int p5), .val (.int (2 : Int32)), .val (.ref b6), .val (.ref b9), .val (.int (1 : Int32)), .val (.int (own_anyf (own_at [p2, p3]) 2 0 0)), .unset, .unset]) rfl ?_
    show Steps p.tables e below (T12.setTop (mkF m 124 #[.val (.int p1), .val (.int p2), .val (.int p3), .val (.int p4), .val (.int p5), .val (.int (2 : Int32)), .val (.ref b6), .val (.ref b9), .val (.int (1 : Int32)), .val (.int (own_anyf (own_at [p2, p3]) 2 0 0)), .unset, .unset] [])) _
    refine XS.iload X12.here hx rfl (hb hby at_124) rfl ?_
    show Steps p.tables e below (T12.setTop (mkF m 126 #[.val (.int p1), .val (.int p2), .val (.int p3), .val (.int p4), .val (.int p5), .val (.int (2 : Int32)), .val (.ref b6), .val (.ref b9), .val (.int (1 : Int32)), .val (.int (own_anyf (own_at [p2, p3]) 2 0 0)), .unset, .unset] [(.int (1 : Int32))])) _
    refine XS.ifNo X12.here hx rfl (hb hby at_126) rfl ((if0 _ _).trans (feq (by decide : ¬ ((1 : Int32) = (0 : Int32)))).1) ?_
    show Steps p.tables e below (T12.setTop (mkF m 129 #[.val (.int p1), .val (.int p2), .val (.int p3), .val (.int p4), .val (.int p5), .val (.int (2 : Int32)), .val (.ref b6), .val (.ref b9), .val (.int (1 : Int32)), .val (.int (own_anyf (own_at [p2, p3]) 2 0 0)), .unset, .unset] [])) _
    refine XS.iconst X12.here hx rfl (hb hby at_129) ?_
    show Steps p.tables e below (T12.setTop (mkF m 130 #[.val (.int p1), .val (.int p2), .val (.int p3), .val (.int p4), .val (.int p5), .val (.int (2 : Int32)), .val (.ref b6), .val (.ref b9), .val (.int (1 : Int32)), .val (.int (own_anyf (own_at [p2, p3]) 2 0 0)), .unset, .unset] [(.int (0 : Int32))])) _
    refine XS.goto X12.here hx rfl (pc0 := 130) (pc' := 134) rfl (hb hby at_130) (by decide) (by decide) ?_
    show Steps p.tables e below (T12.setTop (mkF m 134 #[.val (.int p1), .val (.int p2), .val (.int p3), .val (.int p4), .val (.int p5), .val (.int (2 : Int32)), .val (.ref b6), .val (.ref b9), .val (.int (1 : Int32)), .val (.int (own_anyf (own_at [p2, p3]) 2 0 0)), .unset, .unset] [(.int (0 : Int32))])) _
    refine XS.istore X12.here hx rfl (hb hby at_134) rfl (l' := #[.val (.int p1), .val (.int p2), .val (.int p3), .val (.int p4), .val (.int p5), .val (.int (2 : Int32)), .val (.ref b6), .val (.ref b9), .val (.int (1 : Int32)), .val (.int (own_anyf (own_at [p2, p3]) 2 0 0)), .val (.int (0 : Int32)), .unset]) rfl ?_
    show Steps p.tables e below (T12.setTop (mkF m 136 #[.val (.int p1), .val (.int p2), .val (.int p3), .val (.int p4), .val (.int p5), .val (.int (2 : Int32)), .val (.ref b6), .val (.ref b9), .val (.int (1 : Int32)), .val (.int (own_anyf (own_at [p2, p3]) 2 0 0)), .val (.int (0 : Int32)), .unset] [])) _
    refine XS.iload X12.here hx rfl (hb hby at_136) rfl ?_
    show Steps p.tables e below (T12.setTop (mkF m 138 #[.val (.int p1), .val (.int p2), .val (.int p3), .val (.int p4), .val (.int p5), .val (.int (2 : Int32)), .val (.ref b6), .val (.ref b9), .val (.int (1 : Int32)), .val (.int (own_anyf (own_at [p2, p3]) 2 0 0)), .val (.int (0 : Int32)), .unset] [(.int (2 : Int32))])) _
    refine XS.ifNo X12.here hx rfl (hb hby at_138) rfl ((if0 _ _).trans (tlt (by decide : (0 : Int32) < (2 : Int32))).2.2.2) ?_
    show Steps p.tables e below (T12.setTop (mkF m 141 #[.val (.int p1), .val (.int p2), .val (.int p3), .val (.int p4), .val (.int p5), .val (.int (2 : Int32)), .val (.ref b6), .val (.ref b9), .val (.int (1 : Int32)), .val (.int (own_anyf (own_at [p2, p3]) 2 0 0)), .val (.int (0 : Int32)), .unset] [])) _
    refine XS.aload X12.here hx rfl (hb hby at_141) rfl rfl ?_
    show Steps p.tables e below (T12.setTop (mkF m 143 #[.val (.int p1), .val (.int p2), .val (.int p3), .val (.int p4), .val (.int p5), .val (.int (2 : Int32)), .val (.ref b6), .val (.ref b9), .val (.int (1 : Int32)), .val (.int (own_anyf (own_at [p2, p3]) 2 0 0)), .val (.int (0 : Int32)), .unset] [(.ref b6)])) _
    refine XS.iconst X12.here hx rfl (hb hby at_143) ?_
    show Steps p.tables e below (T12.setTop (mkF m 144 #[.val (.int p1), .val (.int p2), .val (.int p3), .val (.int p4), .val (.int p5), .val (.int (2 : Int32)), .val (.ref b6), .val (.ref b9), .val (.int (1 : Int32)), .val (.int (own_anyf (own_at [p2, p3]) 2 0 0)), .val (.int (0 : Int32)), .unset] [(.int (0 : Int32)), (.ref b6)])) _
    refine XS.iload X12.here hx rfl (hb hby at_144) rfl ?_
    show Steps p.tables e below (T12.setTop (mkF m 146 #[.val (.int p1), .val (.int p2), .val (.int p3), .val (.int p4), .val (.int p5), .val (.int (2 : Int32)), .val (.ref b6), .val (.ref b9), .val (.int (1 : Int32)), .val (.int (own_anyf (own_at [p2, p3]) 2 0 0)), .val (.int (0 : Int32)), .unset] [(.int (0 : Int32)), (.int (0 : Int32)), (.ref b6)])) _
    refine st13 _ ?_
    show Steps p.tables e below (T13.setTop (mkF m 147 #[.val (.int p1), .val (.int p2), .val (.int p3), .val (.int p4), .val (.int p5), .val (.int (2 : Int32)), .val (.ref b6), .val (.ref b9), .val (.int (1 : Int32)), .val (.int (own_anyf (own_at [p2, p3]) 2 0 0)), .val (.int (0 : Int32)), .unset] [])) _
    refine XS.iload X13.here hx rfl (hb hby at_147) rfl ?_
    show Steps p.tables e below (T13.setTop (mkF m 149 #[.val (.int p1), .val (.int p2), .val (.int p3), .val (.int p4), .val (.int p5), .val (.int (2 : Int32)), .val (.ref b6), .val (.ref b9), .val (.int (1 : Int32)), .val (.int (own_anyf (own_at [p2, p3]) 2 0 0)), .val (.int (0 : Int32)), .unset] [(.int (2 : Int32))])) _
    refine XS.iconst X13.here hx rfl (hb hby at_149) ?_
    show Steps p.tables e below (T13.setTop (mkF m 150 #[.val (.int p1), .val (.int p2), .val (.int p3), .val (.int p4), .val (.int p5), .val (.int (2 : Int32)), .val (.ref b6), .val (.ref b9), .val (.int (1 : Int32)), .val (.int (own_anyf (own_at [p2, p3]) 2 0 0)), .val (.int (0 : Int32)), .unset] [(.int (1 : Int32)), (.int (2 : Int32))])) _
    refine XS.icmpNo X13.here hx rfl (hb hby at_150) rfl (tlt (by decide : (1 : Int32) < (2 : Int32))).2.2.2 ?_
    show Steps p.tables e below (T13.setTop (mkF m 153 #[.val (.int p1), .val (.int p2), .val (.int p3), .val (.int p4), .val (.int p5), .val (.int (2 : Int32)), .val (.ref b6), .val (.ref b9), .val (.int (1 : Int32)), .val (.int (own_anyf (own_at [p2, p3]) 2 0 0)), .val (.int (0 : Int32)), .unset] [])) _
    refine XS.aload X13.here hx rfl (hb hby at_153) rfl rfl ?_
    show Steps p.tables e below (T13.setTop (mkF m 155 #[.val (.int p1), .val (.int p2), .val (.int p3), .val (.int p4), .val (.int p5), .val (.int (2 : Int32)), .val (.ref b6), .val (.ref b9), .val (.int (1 : Int32)), .val (.int (own_anyf (own_at [p2, p3]) 2 0 0)), .val (.int (0 : Int32)), .unset] [(.ref b6)])) _
    refine XS.iconst X13.here hx rfl (hb hby at_155) ?_
    show Steps p.tables e below (T13.setTop (mkF m 156 #[.val (.int p1), .val (.int p2), .val (.int p3), .val (.int p4), .val (.int p5), .val (.int (2 : Int32)), .val (.ref b6), .val (.ref b9), .val (.int (1 : Int32)), .val (.int (own_anyf (own_at [p2, p3]) 2 0 0)), .val (.int (0 : Int32)), .unset] [(.int (1 : Int32)), (.ref b6)])) _
    refine XS.iload X13.here hx rfl (hb hby at_156) rfl ?_
    show Steps p.tables e below (T13.setTop (mkF m 158 #[.val (.int p1), .val (.int p2), .val (.int p3), .val (.int p4), .val (.int p5), .val (.int (2 : Int32)), .val (.ref b6), .val (.ref b9), .val (.int (1 : Int32)), .val (.int (own_anyf (own_at [p2, p3]) 2 0 0)), .val (.int (0 : Int32)), .unset] [(.int (0 : Int32)), (.int (1 : Int32)), (.ref b6)])) _
    refine st14 _ ?_
    show Steps p.tables e below (T14.setTop (mkF m 159 #[.val (.int p1), .val (.int p2), .val (.int p3), .val (.int p4), .val (.int p5), .val (.int (2 : Int32)), .val (.ref b6), .val (.ref b9), .val (.int (1 : Int32)), .val (.int (own_anyf (own_at [p2, p3]) 2 0 0)), .val (.int (0 : Int32)), .unset] [])) _
    refine XS.iload X14.here hx rfl (hb hby at_159) rfl ?_
    show Steps p.tables e below (T14.setTop (mkF m 161 #[.val (.int p1), .val (.int p2), .val (.int p3), .val (.int p4), .val (.int p5), .val (.int (2 : Int32)), .val (.ref b6), .val (.ref b9), .val (.int (1 : Int32)), .val (.int (own_anyf (own_at [p2, p3]) 2 0 0)), .val (.int (0 : Int32)), .unset] [(.int (2 : Int32))])) _
    refine XS.iconst X14.here hx rfl (hb hby at_161) ?_
    show Steps p.tables e below (T14.setTop (mkF m 162 #[.val (.int p1), .val (.int p2), .val (.int p3), .val (.int p4), .val (.int p5), .val (.int (2 : Int32)), .val (.ref b6), .val (.ref b9), .val (.int (1 : Int32)), .val (.int (own_anyf (own_at [p2, p3]) 2 0 0)), .val (.int (0 : Int32)), .unset] [(.int (2 : Int32)), (.int (2 : Int32))])) _
    refine XS.icmpYes X14.here hx rfl (pc0 := 162) (pc' := 171) rfl (hb hby at_162) rfl (flt (by decide : ¬ ((2 : Int32) < (2 : Int32)))).2.2.2 (by decide) (by decide) ?_
    show Steps p.tables e below (T14.setTop (mkF m 171 #[.val (.int p1), .val (.int p2), .val (.int p3), .val (.int p4), .val (.int p5), .val (.int (2 : Int32)), .val (.ref b6), .val (.ref b9), .val (.int (1 : Int32)), .val (.int (own_anyf (own_at [p2, p3]) 2 0 0)), .val (.int (0 : Int32)), .unset] [])) _
    refine XS.iload X14.here hx rfl (hb hby at_171) rfl ?_
    show Steps p.tables e below (T14.setTop (mkF m 173 #[.val (.int p1), .val (.int p2), .val (.int p3), .val (.int p4), .val (.int p5), .val (.int (2 : Int32)), .val (.ref b6), .val (.ref b9), .val (.int (1 : Int32)), .val (.int (own_anyf (own_at [p2, p3]) 2 0 0)), .val (.int (0 : Int32)), .unset] [(.int (2 : Int32))])) _
    refine XS.iconst X14.here hx rfl (hb hby at_173) ?_
    show Steps p.tables e below (T14.setTop (mkF m 174 #[.val (.int p1), .val (.int p2), .val (.int p3), .val (.int p4), .val (.int p5), .val (.int (2 : Int32)), .val (.ref b6), .val (.ref b9), .val (.int (1 : Int32)), .val (.int (own_anyf (own_at [p2, p3]) 2 0 0)), .val (.int (0 : Int32)), .unset] [(.int (3 : Int32)), (.int (2 : Int32))])) _
    refine XS.icmpYes X14.here hx rfl (pc0 := 174) (pc' := 183) rfl (hb hby at_174) rfl (flt (by decide : ¬ ((3 : Int32) < (2 : Int32)))).2.2.2 (by decide) (by decide) ?_
    show Steps p.tables e below (T14.setTop (mkF m 183 #[.val (.int p1), .val (.int p2), .val (.int p3), .val (.int p4), .val (.int p5), .val (.int (2 : Int32)), .val (.ref b6), .val (.ref b9), .val (.int (1 : Int32)), .val (.int (own_anyf (own_at [p2, p3]) 2 0 0)), .val (.int (0 : Int32)), .unset] [])) _
    refine XS.aload X14.here hx rfl (hb hby at_183) rfl rfl ?_
    show Steps p.tables e below (T14.setTop (mkF m 185 #[.val (.int p1), .val (.int p2), .val (.int p3), .val (.int p4), .val (.int p5), .val (.int (2 : Int32)), .val (.ref b6), .val (.ref b9), .val (.int (1 : Int32)), .val (.int (own_anyf (own_at [p2, p3]) 2 0 0)), .val (.int (0 : Int32)), .unset] [(.ref b9)])) _
    refine st15.trans ?_
    show Steps p.tables e below (T15.setTop (mkF m 188 #[.val (.int p1), .val (.int p2), .val (.int p3), .val (.int p4), .val (.int p5), .val (.int (2 : Int32)), .val (.ref b6), .val (.ref b9), .val (.int (1 : Int32)), .val (.int (own_anyf (own_at [p2, p3]) 2 0 0)), .val (.int (0 : Int32)), .unset] [(.int (own_anyf (own_at [p2, p3]) 2 0 0))])) _
    refine XS.istore X15.here hx rfl (hb hby at_188) rfl (l' := #[.val (.int p1), .val (.int p2), .val (.int p3), .val (.int p4), .val (.int p5), .val (.int (2 : Int32)), .val (.ref b6), .val (.ref b9), .val (.int (1 : Int32)), .val (.int (own_anyf (own_at [p2, p3]) 2 0 0)), .val (.int (0 : Int32)), .val (.int (own_anyf (own_at [p2, p3]) 2 0 0))]) rfl ?_
    show Steps p.tables e below (T15.setTop (mkF m 190 #[.val (.int p1), .val (.int p2), .val (.int p3), .val (.int p4), .val (.int p5), .val (.int (2 : Int32)), .val (.ref b6), .val (.ref b9), .val (.int (1 : Int32)), .val (.int (own_anyf (own_at [p2, p3]) 2 0 0)), .val (.int (0 : Int32)), .val (.int (own_anyf (own_at [p2, p3]) 2 0 0))] [])) _
    refine XS.iload X15.here hx rfl (hb hby at_190) rfl ?_
    show Steps p.tables e below (T15.setTop (mkF m 192 #[.val (.int p1), .val (.int p2), .val (.int p3), .val (.int p4), .val (.int p5), .val (.int (2 : Int32)), .val (.ref b6), .val (.ref b9), .val (.int (1 : Int32)), .val (.int (own_anyf (own_at [p2, p3]) 2 0 0)), .val (.int (0 : Int32)), .val (.int (own_anyf (own_at [p2, p3]) 2 0 0))] [(.int (own_anyf (own_at [p2, p3]) 2 0 0))])) _
    refine XS.iload X15.here hx rfl (hb hby at_192) rfl ?_
    show Steps p.tables e below (T15.setTop (mkF m 194 #[.val (.int p1), .val (.int p2), .val (.int p3), .val (.int p4), .val (.int p5), .val (.int (2 : Int32)), .val (.ref b6), .val (.ref b9), .val (.int (1 : Int32)), .val (.int (own_anyf (own_at [p2, p3]) 2 0 0)), .val (.int (0 : Int32)), .val (.int (own_anyf (own_at [p2, p3]) 2 0 0))] [(.int (1 : Int32)), (.int (own_anyf (own_at [p2, p3]) 2 0 0))])) _
    refine XS.icmpNo X15.here hx rfl (hb hby at_194) rfl (teq (own_ok : (own_anyf (own_at [p2, p3]) 2 0 0) = (1 : Int32))).2 ?_
    show Steps p.tables e below (T15.setTop (mkF m 197 #[.val (.int p1), .val (.int p2), .val (.int p3), .val (.int p4), .val (.int p5), .val (.int (2 : Int32)), .val (.ref b6), .val (.ref b9), .val (.int (1 : Int32)), .val (.int (own_anyf (own_at [p2, p3]) 2 0 0)), .val (.int (0 : Int32)), .val (.int (own_anyf (own_at [p2, p3]) 2 0 0))] [])) _
    refine XS.iload X15.here hx rfl (hb hby at_197) rfl ?_
    show Steps p.tables e below (T15.setTop (mkF m 199 #[.val (.int p1), .val (.int p2), .val (.int p3), .val (.int p4), .val (.int p5), .val (.int (2 : Int32)), .val (.ref b6), .val (.ref b9), .val (.int (1 : Int32)), .val (.int (own_anyf (own_at [p2, p3]) 2 0 0)), .val (.int (0 : Int32)), .val (.int (own_anyf (own_at [p2, p3]) 2 0 0))] [(.int (own_anyf (own_at [p2, p3]) 2 0 0))])) _
    refine XS.iload X15.here hx rfl (hb hby at_199) rfl ?_
    show Steps p.tables e below (T15.setTop (mkF m 201 #[.val (.int p1), .val (.int p2), .val (.int p3), .val (.int p4), .val (.int p5), .val (.int (2 : Int32)), .val (.ref b6), .val (.ref b9), .val (.int (1 : Int32)), .val (.int (own_anyf (own_at [p2, p3]) 2 0 0)), .val (.int (0 : Int32)), .val (.int (own_anyf (own_at [p2, p3]) 2 0 0))] [(.int (1 : Int32)), (.int (own_anyf (own_at [p2, p3]) 2 0 0))])) _
    refine XS.icmpNo X15.here hx rfl (hb hby at_201) rfl (teq (own_ok : (own_anyf (own_at [p2, p3]) 2 0 0) = (1 : Int32))).2 ?_
    show Steps p.tables e below (T15.setTop (mkF m 204 #[.val (.int p1), .val (.int p2), .val (.int p3), .val (.int p4), .val (.int p5), .val (.int (2 : Int32)), .val (.ref b6), .val (.ref b9), .val (.int (1 : Int32)), .val (.int (own_anyf (own_at [p2, p3]) 2 0 0)), .val (.int (0 : Int32)), .val (.int (own_anyf (own_at [p2, p3]) 2 0 0))] [])) _
    refine XS.iconst X15.here hx rfl (hb hby at_204) ?_
    show Steps p.tables e below (T15.setTop (mkF m 205 #[.val (.int p1), .val (.int p2), .val (.int p3), .val (.int p4), .val (.int p5), .val (.int (2 : Int32)), .val (.ref b6), .val (.ref b9), .val (.int (1 : Int32)), .val (.int (own_anyf (own_at [p2, p3]) 2 0 0)), .val (.int (0 : Int32)), .val (.int (own_anyf (own_at [p2, p3]) 2 0 0))] [(.int (1 : Int32))])) _
    refine XS.goto X15.here hx rfl (pc0 := 205) (pc' := 209) rfl (hb hby at_205) (by decide) (by decide) ?_
    show Steps p.tables e below (T15.setTop (mkF m 209 #[.val (.int p1), .val (.int p2), .val (.int p3), .val (.int p4), .val (.int p5), .val (.int (2 : Int32)), .val (.ref b6), .val (.ref b9), .val (.int (1 : Int32)), .val (.int (own_anyf (own_at [p2, p3]) 2 0 0)), .val (.int (0 : Int32)), .val (.int (own_anyf (own_at [p2, p3]) 2 0 0))] [(.int (1 : Int32))])) _
    exact retN X15 hx (t := .boolean) Bd.returns (by simp) (hb hby at_209) hr
  · show Q0_20 Z p1 p2 p3 p4 p5 h0 n0 _ T15.heap _
    exact ⟨rfl, N15⟩
def Q0_21 (Z : State) (p1 : Int32) (p2 : Int32) (p3 : Int32) (p4 : Int32) (p5 : Int32) (h0 : Heap) (n0 : Nat) (v : Option Value) (h : Heap) (L : List Loc) : Prop := v = some (.int (1 : Int32)) ∧ Fr n0 L
set_option maxRecDepth 65536 in
set_option maxHeartbeats 40000000 in
theorem rm0_21 (l : Launch) (Z : State) (a0 : Array Value) (hw : ∀ d ∈ tables_1, d.before a0 Z = true) (ws : List Jvm.Cond) (p1 : Int32) (p2 : Int32) (p3 : Int32) (p4 : Int32) (p5 : Int32) (h0 : Heap) (n0 : Nat) (Z0 : n0 ≤ h0.size) (hp5 : ((p1 &&& (2147483647 : Int32)) % (5 : Int32)) = (2 : Int32)) (ch0 : ¬ (p2 = (1 : Int32))) (ch1 : p3 = (1 : Int32)) :
    MetFree l x (head1 (Jvm.Cond.code x code maxLocals ret :: ws) room_1) (fun a U => a = #[(.int p1), (.int p2), (.int p3), (.int p4), (.int p5)] ∧ Z.Warmed39 U.vm ∧ U.heap = h0) (fun _ _ _ _ _ => True) (fun _ U o U' => ∃ v L, o = .returned v ∧ Q0_21 Z p1 p2 p3 p4 p5 h0 n0 v U'.heap L ∧ FrameEnd U o U' L room_1.cells room_1.slots) := by
  refine MetFree.of_bodySF (plainFor_of_name pn_0) hisR ?_
  intro p e s m args below meth c s₁ Bd hml0 hP hK
  obtain ⟨rfl, hZ, hh⟩ := hP
  have own_ok : (own_anyf (own_at [p2, p3]) 2 0 0) = (1 : Int32) := by
    simp [own_anyf, own_or, own_at, ch0, ch1]
  have hx := Bd.exec
  have hby := Bd.bytes
  have hml : c.maxLocals = 12 := hml0
  have hown : s.vm.findClass "com/example/tendril/tendril/FormatsAnyBinaryPinLaw" = some m.cls := findClass_of_methodNamed Bd.named
  have hnm := (name_of_methodNamed Bd.named Bd.method).1
  have X0 : Stand p l e room_1 s m #[(.int p1), (.int p2), (.int p3), (.int p4), (.int p5)] below meth c s₁ [] 0 0 := Stand.of_body Bd
  have e0 : s₁.heap = h0 := by rw [← hh, Bd.state]; rfl
  have N0 := Fr.nil n0
  have pre0 : ∀ t, Steps p.tables e below (s₁.setTop (mkF m 0 #[.val (.int p1), .val (.int p2), .val (.int p3), .val (.int p4), .val (.int p5), .unset, .unset, .unset, .unset, .unset, .unset, .unset] [])) t → Steps p.tables e below (s₁.setTop (entryFrame m #[(.int p1), (.int p2), (.int p3), (.int p4), (.int p5)] maxLocals)) t := fun t k => castTop (ef_0 m p1 p2 p3 p4 p5) k
  obtain ⟨T6, h6, k6, X6, e6, E6, A6, Ea6, st6⟩ := newPE X0 hx hZ (hw _ (List.mem_of_getElem? (i := 1) rfl)) e0 (g := (mkF m 10 #[.val (.int p1), .val (.int p2), .val (.int p3), .val (.int p4), .val (.int p5), .val (.int (2 : Int32)), .unset, .unset, .unset, .unset, .unset, .unset] [(.int (2 : Int32))])) rfl (hb hby at_10) rfl (by decide) (cap := 2) (by decide) (by decide) (by decide) (by decide) (ad := "[I") rfl
  obtain ⟨b6, g6⟩ : ∃ z, z = h0.size := ⟨_, rfl⟩
  rw [← g6] at A6 Ea6 st6
  have V_b6 : Arv Z h6 b6 k6 .int (2 : Int32) [(.int (0 : Int32)), (.int (0 : Int32))] (.int (0 : Int32)) := (Arv.new A6 (by decide)).pad (pad_rep [] (.int (0 : Int32)) 2)
  have g_b6 : n0 ≤ b6 := Nat.le_trans Z0 (Nat.le_of_eq g6.symm)
  have sz_b6 : h0.size ≤ b6 := (Nat.le_trans (Keep.refl h0 []).1 (Nat.le_of_eq g6.symm))
  have K6 : Keep h0 h6 [] := (Keep.refl h0 []).ext E6
  obtain ⟨cl_b6_23, Ar_b6, q_b6, S_b6, N_b6, H_b6, G_b6⟩ := V_b6
  have hin23 : ¬ ((0 : Int32) < 0 ∨ cl_b6_23.slots.size ≤ ((0 : Int32)).toNatClampNeg) := inb_of S_b6 ⟨by decide, by decide⟩
  obtain ⟨T7, h7, X7, e7, W7, st7⟩ := stI X6 hx hZ e6 Ar_b6 (j := (0 : Int32)) hin23 (g := (mkF m 23 #[.val (.int p1), .val (.int p2), .val (.int p3), .val (.int p4), .val (.int p5), .val (.int (2 : Int32)), .val (.ref b6), .unset, .unset, .unset, .unset, .unset] [(.int p2), (.int (0 : Int32)), (.ref b6)])) rfl rfl (hb hby at_23)
  have V_b6_7 := Arv.set Ar_b6 q_b6 S_b6 N_b6 H_b6 G_b6 rfl W7 0 rfl (Nat.le_of_ble_eq_true rfl)
  have K7 : Keep h0 h7 [] := K6.wr W7 (Or.inr sz_b6)
  have N7 := Fr.snoc X7 N0 g_b6
  obtain ⟨cl_b6_34, Ar_b6, q_b6, S_b6, N_b6, H_b6, G_b6⟩ := V_b6_7
  have hin34 : ¬ ((1 : Int32) < 0 ∨ cl_b6_34.slots.size ≤ ((1 : Int32)).toNatClampNeg) := inb_of S_b6 ⟨by decide, by decide⟩
  obtain ⟨T8, h8, X8, e8, W8, st8⟩ := stI X7 hx hZ e7 Ar_b6 (j := (1 : Int32)) hin34 (g := (mkF m 34 #[.val (.int p1), .val (.int p2), .val (.int p3), .val (.int p4), .val (.int p5), .val (.int (2 : Int32)), .val (.ref b6), .unset, .unset, .unset, .unset, .unset] [(.int p3), (.int (1 : Int32)), (.ref b6)])) rfl rfl (hb hby at_34)
  have V_b6_8 := Arv.set Ar_b6 q_b6 S_b6 N_b6 H_b6 G_b6 rfl W8 1 rfl (Nat.le_of_ble_eq_true rfl)
  have K8 : Keep h0 h8 [] := K7.wr W8 (Or.inr sz_b6)
  have N8 := Fr.snoc X8 N7 g_b6
  obtain ⟨T9, h9, X9, e9, E9, A9, D9, -, st9⟩ := newO X8 hx hZ hown (hw _ (List.mem_of_getElem? (i := 2) rfl)) (hw _ (List.mem_of_getElem? (i := 3) rfl)) (hw _ (List.mem_of_getElem? (i := 4) rfl)) e8 (g := (mkF m 58 #[.val (.int p1), .val (.int p2), .val (.int p3), .val (.int p4), .val (.int p5), .val (.int (2 : Int32)), .val (.ref b6), .unset, .unset, .unset, .unset, .unset] [])) rfl (hb hby at_58) (by decide) (by decide)
  obtain ⟨b9, g9⟩ : ∃ z, z = h8.size := ⟨_, rfl⟩
  rw [← g9] at A9 D9 st9
  have F_codes_b9 : Fld Z h9 b9 "com/example/tendril/tendril/WireColumns$Formats" "codes" "[I" .null := D9 (Or.inr (hw _ (List.mem_of_getElem? (i := 21) rfl))) (ty := (.array .int)) (by decide)
  have E_b9 := A9
  have g_b9 : n0 ≤ b9 := Nat.le_trans (Nat.le_trans (Nat.le_trans (Nat.le_trans Z0 E6.1) (Keep.of_wr W7).1) (Keep.of_wr W8).1) (Nat.le_of_eq g9.symm)
  have sz_b9 : h0.size ≤ b9 := (Nat.le_trans K8.1 (Nat.le_of_eq g9.symm))
  have K9 : Keep h0 h9 [] := K8.ext E9
  obtain ⟨_, _, ⟨T10, L10, k10, n10⟩, -, X10, ⟨Lc10, hQ10, l10, y10, z10⟩, st10⟩ := X9.specialBack hx (y := (⟨"com/example/tendril/tendril/WireColumns$Formats", "<init>", "([I)V"⟩ : MethodName)) rfl hown (mvT hZ (hw _ (List.mem_of_getElem? (i := 5) rfl))) (mvT hZ (hw _ (List.mem_of_getElem? (i := 6) rfl))) (mvT hZ (hw _ (List.mem_of_getElem? (i := 7) rfl))) (by decide) (backOf (W := 1) (rm1 l Z a0 hw [] b9 b6 .null _ _ _ _ h9 n0 (Nat.le_trans Z0 K9.1) (((Ea6.wr W7).wr W8).ext E9) (V_b6_8.ext E9) (by decide) E_b9 F_codes_b9 g_b9) hZ (hw _ (List.mem_of_getElem? (i := 7) rfl)) (hw _ (List.mem_of_getElem? (i := 4) rfl)) (by decide) (by decide)) (g := (mkF m 64 #[.val (.int p1), .val (.int p2), .val (.int p3), .val (.int p4), .val (.int p5), .val (.int (2 : Int32)), .val (.ref b6), .unset, .unset, .unset, .unset, .unset] [(.ref b6), (.ref b9), (.ref b9)])) rfl (by rw [hml]; rfl) (Steps.refl _) (a := b9) (argsL := [(.ref b6)]) (rest := [(.ref b9)]) (lenOf pd_0_0 rfl) rfl (by show 2 * 0 + _ ≤ _; exact Nat.le_of_eq rfl) (hb hby at_64) (fun _ _ => ⟨rfl, e9, (Nat.le_of_ble_eq_true rfl), (Nat.le_of_ble_eq_true rfl)⟩)
  dsimp only [Pt.U, Pt.locs, Pt.cells, Pt.slots] at X10 l10 y10 z10 st10 hQ10
  subst l10 y10 z10
  obtain ⟨rfl, N10q, K10c, E10c, bC, szC, FC, VC⟩ := hQ10
  have ne_ao : b6 ≠ b9 := Nat.ne_of_lt (Nat.lt_of_lt_of_le V_b6_8.lt (Nat.le_of_eq g9.symm))
  have ne_Ca : bC ≠ b6 := Ne.symm (Nat.ne_of_lt (Nat.lt_of_lt_of_le (V_b6_8.ext E9).lt szC))
  have K10 : Keep h0 T10.heap [] := K9.trans K10c (allS (Or.inr sz_b9) all0)
  have N10 := Fr.app N8 N10q
  obtain ⟨_, _, ⟨T11, L11, k11, n11⟩, -, X11, ⟨Lc11, hQ11, l11, y11, z11⟩, st11⟩ := Jvm.LawKit.callS X10 hx (y := (⟨"com/example/tendril/tendril/FormatsAnyBinaryPinLaw", "hit", "(III)Z"⟩ : MethodName)) hown (mvT hZ (hw _ (List.mem_of_getElem? (i := 22) rfl))) (mvT hZ (hw _ (List.mem_of_getElem? (i := 23) rfl))) (mvT hZ (hw _ (List.mem_of_getElem? (i := 24) rfl))) (mvT hZ (hw _ (List.mem_of_getElem? (i := 25) rfl))) (by decide) (backOf (W := 0) (rm3ft l Z a0 hw [] (2 : Int32) (0 : Int32) p2 T10.heap n0 (Nat.le_trans Z0 K10.1) (by decide) ch0) hZ (hw _ (List.mem_of_getElem? (i := 25) rfl)) (hw _ (List.mem_of_getElem? (i := 24) rfl)) (by decide) (by decide)) (g := (mkF m 73 #[.val (.int p1), .val (.int p2), .val (.int p3), .val (.int p4), .val (.int p5), .val (.int (2 : Int32)), .val (.ref b6), .val (.ref b9), .unset, .unset, .unset, .unset] [(.int p2), (.int (0 : Int32)), (.int (2 : Int32))])) rfl (by rw [hml]; rfl) (argsL := [(.int (2 : Int32)), (.int (0 : Int32)), (.int p2)]) (rest := []) (lenOf pd_0_3 rfl) rfl (by show 2 * 0 + _ ≤ _; exact Nat.le_of_eq rfl) (hb hby at_73) (fun _ _ => ⟨rfl, rfl, (Nat.le_of_ble_eq_true rfl), (Nat.le_of_ble_eq_true rfl)⟩)
  dsimp only [Pt.U, Pt.locs, Pt.cells, Pt.slots] at X11 l11 y11 z11 st11 hQ11
  subst l11 y11 z11
  obtain ⟨rfl, N11q, e11⟩ := hQ11
  have K11 : Keep h0 T11.heap [] := K10.trans (own_keq e11) all0
  have N11 := Fr.app N10 N11q
  obtain ⟨_, _, ⟨T12, L12, k12, n12⟩, -, X12, ⟨Lc12, hQ12, l12, y12, z12⟩, st12⟩ := Jvm.LawKit.callS X11 hx (y := (⟨"com/example/tendril/tendril/FormatsAnyBinaryPinLaw", "hit", "(III)Z"⟩ : MethodName)) hown (mvT hZ (hw _ (List.mem_of_getElem? (i := 22) rfl))) (mvT hZ (hw _ (List.mem_of_getElem? (i := 23) rfl))) (mvT hZ (hw _ (List.mem_of_getElem? (i := 24) rfl))) (mvT hZ (hw _ (List.mem_of_getElem? (i := 25) rfl))) (by decide) (backOf (W := 0) (rm3ff l Z a0 hw [] (2 : Int32) (1 : Int32) p3 T11.heap n0 (Nat.le_trans Z0 K11.1) (by decide) ch1) hZ (hw _ (List.mem_of_getElem? (i := 25) rfl)) (hw _ (List.mem_of_getElem? (i := 24) rfl)) (by decide) (by decide)) (g := (mkF m 83 #[.val (.int p1), .val (.int p2), .val (.int p3), .val (.int p4), .val (.int p5), .val (.int (2 : Int32)), .val (.ref b6), .val (.ref b9), .unset, .unset, .unset, .unset] [(.int p3), (.int (1 : Int32)), (.int (2 : Int32))])) rfl (by rw [hml]; rfl) (argsL := [(.int (2 : Int32)), (.int (1 : Int32)), (.int p3)]) (rest := []) (lenOf pd_0_3 rfl) rfl (by show 2 * 0 + _ ≤ _; exact Nat.le_of_eq rfl) (hb hby at_83) (fun _ _ => ⟨rfl, rfl, (Nat.le_of_ble_eq_true rfl), (Nat.le_of_ble_eq_true rfl)⟩)
  dsimp only [Pt.U, Pt.locs, Pt.cells, Pt.slots] at X12 l12 y12 z12 st12 hQ12
  subst l12 y12 z12
  obtain ⟨rfl, N12q, e12⟩ := hQ12
  have K12 : Keep h0 T12.heap [] := K11.trans (own_keq e12) all0
  have N12 := Fr.app N11 N12q
  obtain ⟨clC1, ArC1, -, SC1, NC1, HC1, -⟩ := ((VC.keep (own_keq e11) nin0).keep (own_keq e12) nin0)
  have HV1 : ∀ j, j < 2 → clC1.slots[j]? = some (.int (own_at [p2, p3] j)) := by
    intro j hj
    match j, hj with
    | 0, _ => exact HC1 0 (by rw [SC1]; decide)
    | 1, _ => exact HC1 1 (by rw [SC1]; decide)
  obtain ⟨cq13, kq13, q13a, q13b, q13c⟩ := isOf hZ rfl (((E_b9.keep K10c).keep (own_keq e11)).keep (own_keq e12))
  obtain ⟨_, _, ⟨T13, L13, k13, n13⟩, -, X13, ⟨Lc13, hQ13, l13, y13, z13⟩, st13⟩ := X12.virtualBack hx (y := (⟨"com/example/tendril/tendril/WireColumns$Formats", "anyBinary", "()Z"⟩ : MethodName)) (z := (⟨"com/example/tendril/tendril/WireColumns$Formats", "anyBinary", "()Z"⟩ : MethodName)) hown (mvT hZ (hw _ (List.mem_of_getElem? (i := 26) rfl))) (mvT hZ (hw _ (List.mem_of_getElem? (i := 27) rfl))) (notFace_of_selects (args := #[]) (mvT hZ (hw _ (List.mem_of_getElem? (i := 29) rfl)))) (mvT hZ (hw _ (List.mem_of_getElem? (i := 29) rfl))) (mvT hZ (hw _ (List.mem_of_getElem? (i := 28) rfl))) (by decide) (backOf (W := 0) (rm4 l Z a0 hw [] b9 bC clC1 2 (own_at [p2, p3]) T12.heap n0 (Nat.le_trans Z0 K12.1) ((FC.keep (own_keq e11) nin0).keep (own_keq e12) nin0) ArC1 (SC1.trans (by decide)) HV1 (by decide)) hZ (hw _ (List.mem_of_getElem? (i := 30) rfl)) (hw _ (List.mem_of_getElem? (i := 4) rfl)) (by decide) (by decide)) q13a q13c (g := (mkF m 119 #[.val (.int p1), .val (.int p2), .val (.int p3), .val (.int p4), .val (.int p5), .val (.int (2 : Int32)), .val (.ref b6), .val (.ref b9), .val (.int (1 : Int32)), .unset, .unset, .unset] [(.ref b9)])) rfl (by rw [hml]; rfl) (Steps.refl _) (argsL := []) (rest := []) (lenOf pd_0_4 rfl) rfl (by show 2 * 0 + _ ≤ _; exact Nat.le_of_eq rfl) (hb hby at_119) (fun _ _ => ⟨rfl, rfl, (Nat.le_of_ble_eq_true rfl), (Nat.le_of_ble_eq_true rfl)⟩)
  dsimp only [Pt.U, Pt.locs, Pt.cells, Pt.slots] at X13 l13 y13 z13 st13 hQ13
  subst l13 y13 z13
  obtain ⟨rfl, N13q, e13⟩ := hQ13
  have K13 : Keep h0 T13.heap [] := K12.trans (own_keq e13) all0
  have N13 := Fr.app N12 N13q
  obtain ⟨cl_b6_146, Ar_b6, q_b6, S_b6, N_b6, H_b6, G_b6⟩ := (((((V_b6_8.ext E9).keep K10c (ninS ne_ao nin0)).keep (own_keq e11) nin0).keep (own_keq e12) nin0).keep (own_keq e13) nin0)
  have hin146 : ¬ ((0 : Int32) < 0 ∨ cl_b6_146.slots.size ≤ ((0 : Int32)).toNatClampNeg) := inb_of S_b6 ⟨by decide, by decide⟩
  obtain ⟨T14, h14, X14, e14, W14, st14⟩ := stI X13 hx hZ rfl Ar_b6 (j := (0 : Int32)) hin146 (g := (mkF m 146 #[.val (.int p1), .val (.int p2), .val (.int p3), .val (.int p4), .val (.int p5), .val (.int (2 : Int32)), .val (.ref b6), .val (.ref b9), .val (.int (1 : Int32)), .val (.int (own_anyf (own_at [p2, p3]) 2 0 0)), .val (.int (0 : Int32)), .unset] [(.int (0 : Int32)), (.int (0 : Int32)), (.ref b6)])) rfl rfl (hb hby at_146)
  have V_b6_14 := Arv.set Ar_b6 q_b6 S_b6 N_b6 H_b6 G_b6 rfl W14 0 rfl (Nat.le_of_ble_eq_true rfl)
  have K14 : Keep h0 h14 [] := K13.wr W14 (Or.inr sz_b6)
  have N14 := Fr.snoc X14 N13 g_b6
  obtain ⟨cl_b6_158, Ar_b6, q_b6, S_b6, N_b6, H_b6, G_b6⟩ := V_b6_14
  have hin158 : ¬ ((1 : Int32) < 0 ∨ cl_b6_158.slots.size ≤ ((1 : Int32)).toNatClampNeg) := inb_of S_b6 ⟨by decide, by decide⟩
  obtain ⟨T15, h15, X15, e15, W15, st15⟩ := stI X14 hx hZ e14 Ar_b6 (j := (1 : Int32)) hin158 (g := (mkF m 158 #[.val (.int p1), .val (.int p2), .val (.int p3), .val (.int p4), .val (.int p5), .val (.int (2 : Int32)), .val (.ref b6), .val (.ref b9), .val (.int (1 : Int32)), .val (.int (own_anyf (own_at [p2, p3]) 2 0 0)), .val (.int (0 : Int32)), .unset] [(.int (0 : Int32)), (.int (1 : Int32)), (.ref b6)])) rfl rfl (hb hby at_158)
  have V_b6_15 := Arv.set Ar_b6 q_b6 S_b6 N_b6 H_b6 G_b6 rfl W15 1 rfl (Nat.le_of_ble_eq_true rfl)
  have K15 : Keep h0 h15 [] := K14.wr W15 (Or.inr sz_b6)
  have N15 := Fr.snoc X15 N14 g_b6
  obtain ⟨clC2, ArC2, -, SC2, NC2, HC2, -⟩ := (((((VC.keep (own_keq e11) nin0).keep (own_keq e12) nin0).keep (own_keq e13) nin0).other W14 ne_Ca).other W15 ne_Ca)
  have HV2 : ∀ j, j < 2 → clC2.slots[j]? = some (.int (own_at [p2, p3] j)) := by
    intro j hj
    match j, hj with
    | 0, _ => exact HC2 0 (by rw [SC2]; decide)
    | 1, _ => exact HC2 1 (by rw [SC2]; decide)
  obtain ⟨cq16, kq16, q16a, q16b, q16c⟩ := isOf hZ e15 ((((((E_b9.keep K10c).keep (own_keq e11)).keep (own_keq e12)).keep (own_keq e13)).wr W14).wr W15)
  obtain ⟨_, _, ⟨T16, L16, k16, n16⟩, -, X16, ⟨Lc16, hQ16, l16, y16, z16⟩, st16⟩ := X15.virtualBack hx (y := (⟨"com/example/tendril/tendril/WireColumns$Formats", "anyBinary", "()Z"⟩ : MethodName)) (z := (⟨"com/example/tendril/tendril/WireColumns$Formats", "anyBinary", "()Z"⟩ : MethodName)) hown (mvT hZ (hw _ (List.mem_of_getElem? (i := 26) rfl))) (mvT hZ (hw _ (List.mem_of_getElem? (i := 27) rfl))) (notFace_of_selects (args := #[]) (mvT hZ (hw _ (List.mem_of_getElem? (i := 29) rfl)))) (mvT hZ (hw _ (List.mem_of_getElem? (i := 29) rfl))) (mvT hZ (hw _ (List.mem_of_getElem? (i := 28) rfl))) (by decide) (backOf (W := 0) (rm4 l Z a0 hw [] b9 bC clC2 2 (own_at [p2, p3]) h15 n0 (Nat.le_trans Z0 K15.1) (((((FC.keep (own_keq e11) nin0).keep (own_keq e12) nin0).keep (own_keq e13) nin0).other W14 (Or.inl (Ne.symm ne_ao))).other W15 (Or.inl (Ne.symm ne_ao))) ArC2 (SC2.trans (by decide)) HV2 (by decide)) hZ (hw _ (List.mem_of_getElem? (i := 30) rfl)) (hw _ (List.mem_of_getElem? (i := 4) rfl)) (by decide) (by decide)) q16a q16c (g := (mkF m 185 #[.val (.int p1), .val (.int p2), .val (.int p3), .val (.int p4), .val (.int p5), .val (.int (2 : Int32)), .val (.ref b6), .val (.ref b9), .val (.int (1 : Int32)), .val (.int (own_anyf (own_at [p2, p3]) 2 0 0)), .val (.int (0 : Int32)), .unset] [(.ref b9)])) rfl (by rw [hml]; rfl) (Steps.refl _) (argsL := []) (rest := []) (lenOf pd_0_4 rfl) rfl (by show 2 * 0 + _ ≤ _; exact Nat.le_of_eq rfl) (hb hby at_185) (fun _ _ => ⟨rfl, e15, (Nat.le_of_ble_eq_true rfl), (Nat.le_of_ble_eq_true rfl)⟩)
  dsimp only [Pt.U, Pt.locs, Pt.cells, Pt.slots] at X16 l16 y16 z16 st16 hQ16
  subst l16 y16 z16
  obtain ⟨rfl, N16q, e16⟩ := hQ16
  have K16 : Keep h0 T16.heap [] := K15.trans (own_keq e16) all0
  have N16 := Fr.app N15 N16q
  obtain ⟨fs, hr, hrun, hended, hW, hsame⟩ := X16.leave (v := some (.int (1 : Int32))) (fun h => by rw [Bd.returns] at h; cases h)
  refine ⟨_, _, pre0 _ ?_, hrun, hended, _, _, rfl, ?_, ⟨_, rfl⟩, hW, hsame.mono (by decide) (by decide)⟩
  · show Steps p.tables e below (s₁.setTop (mkF m 0 #[.val (.int p1), .val (.int p2), .val (.int p3), .val (.int p4), .val (.int p5), .unset, .unset, .unset, .unset, .unset, .unset, .unset] [])) _
    refine XS.iloadN X0.here hx rfl (hb hby at_0) rfl ?_
    show Steps p.tables e below (s₁.setTop (mkF m 1 #[.val (.int p1), .val (.int p2), .val (.int p3), .val (.int p4), .val (.int p5), .unset, .unset, .unset, .unset, .unset, .unset, .unset] [(.int p1)])) _
    refine X0.ldcInt hx hown (mvT hZ (hw _ (List.mem_of_getElem? (i := 0) rfl))) (g := (mkF m 1 #[.val (.int p1), .val (.int p2), .val (.int p3), .val (.int p4), .val (.int p5), .unset, .unset, .unset, .unset, .unset, .unset, .unset] [(.int p1)])) rfl (hb hby at_1) _ ?_
    show Steps p.tables e below (s₁.setTop (mkF m 3 #[.val (.int p1), .val (.int p2), .val (.int p3), .val (.int p4), .val (.int p5), .unset, .unset, .unset, .unset, .unset, .unset, .unset] [(.int (2147483647 : Int32)), (.int p1)])) _
    refine XS.iand X0.here hx rfl (hb hby at_3) rfl ?_
    show Steps p.tables e below (s₁.setTop (mkF m 4 #[.val (.int p1), .val (.int p2), .val (.int p3), .val (.int p4), .val (.int p5), .unset, .unset, .unset, .unset, .unset, .unset, .unset] [(.int (p1 &&& (2147483647 : Int32)))])) _
    refine XS.iconst X0.here hx rfl (hb hby at_4) ?_
    show Steps p.tables e below (s₁.setTop (mkF m 5 #[.val (.int p1), .val (.int p2), .val (.int p3), .val (.int p4), .val (.int p5), .unset, .unset, .unset, .unset, .unset, .unset, .unset] [(.int (5 : Int32)), (.int (p1 &&& (2147483647 : Int32)))])) _
    refine iremM X0 hx rfl (hb hby at_5) rfl (by decide) ?_
    rw [hp5]
    show Steps p.tables e below (s₁.setTop (mkF m 6 #[.val (.int p1), .val (.int p2), .val (.int p3), .val (.int p4), .val (.int p5), .unset, .unset, .unset, .unset, .unset, .unset, .unset] [(.int (2 : Int32))])) _
    refine XS.istore X0.here hx rfl (hb hby at_6) rfl (l' := #[.val (.int p1), .val (.int p2), .val (.int p3), .val (.int p4), .val (.int p5), .val (.int (2 : Int32)), .unset, .unset, .unset, .unset, .unset, .unset]) rfl ?_
    show Steps p.tables e below (s₁.setTop (mkF m 8 #[.val (.int p1), .val (.int p2), .val (.int p3), .val (.int p4), .val (.int p5), .val (.int (2 : Int32)), .unset, .unset, .unset, .unset, .unset, .unset] [])) _
    refine XS.iload X0.here hx rfl (hb hby at_8) rfl ?_
    show Steps p.tables e below (s₁.setTop (mkF m 10 #[.val (.int p1), .val (.int p2), .val (.int p3), .val (.int p4), .val (.int p5), .val (.int (2 : Int32)), .unset, .unset, .unset, .unset, .unset, .unset] [(.int (2 : Int32))])) _
    refine st6 _ ?_
    show Steps p.tables e below (T6.setTop (mkF m 12 #[.val (.int p1), .val (.int p2), .val (.int p3), .val (.int p4), .val (.int p5), .val (.int (2 : Int32)), .unset, .unset, .unset, .unset, .unset, .unset] [(.ref b6)])) _
    refine XS.astore X6.here hx rfl (hb hby at_12) rfl rfl (l' := #[.val (.int p1), .val (.int p2), .val (.int p3), .val (.int p4), .val (.int p5), .val (.int (2 : Int32)), .val (.ref b6), .unset, .unset, .unset, .unset, .unset]) rfl ?_
    show Steps p.tables e below (T6.setTop (mkF m 14 #[.val (.int p1), .val (.int p2), .val (.int p3), .val (.int p4), .val (.int p5), .val (.int (2 : Int32)), .val (.ref b6), .unset, .unset, .unset, .unset, .unset] [])) _
    refine XS.iload X6.here hx rfl (hb hby at_14) rfl ?_
    show Steps p.tables e below (T6.setTop (mkF m 16 #[.val (.int p1), .val (.int p2), .val (.int p3), .val (.int p4), .val (.int p5), .val (.int (2 : Int32)), .val (.ref b6), .unset, .unset, .unset, .unset, .unset] [(.int (2 : Int32))])) _
    refine XS.ifNo X6.here hx rfl (hb hby at_16) rfl ((if0 _ _).trans (tlt (by decide : (0 : Int32) < (2 : Int32))).2.2.2) ?_
    show Steps p.tables e below (T6.setTop (mkF m 19 #[.val (.int p1), .val (.int p2), .val (.int p3), .val (.int p4), .val (.int p5), .val (.int (2 : Int32)), .val (.ref b6), .unset, .unset, .unset, .unset, .unset] [])) _
    refine XS.aload X6.here hx rfl (hb hby at_19) rfl rfl ?_
    show Steps p.tables e below (T6.setTop (mkF m 21 #[.val (.int p1), .val (.int p2), .val (.int p3), .val (.int p4), .val (.int p5), .val (.int (2 : Int32)), .val (.ref b6), .unset, .unset, .unset, .unset, .unset] [(.ref b6)])) _
    refine XS.iconst X6.here hx rfl (hb hby at_21) ?_
    show Steps p.tables e below (T6.setTop (mkF m 22 #[.val (.int p1), .val (.int p2), .val (.int p3), .val (.int p4), .val (.int p5), .val (.int (2 : Int32)), .val (.ref b6), .unset, .unset, .unset, .unset, .unset] [(.int (0 : Int32)), (.ref b6)])) _
    refine XS.iloadN X6.here hx rfl (hb hby at_22) rfl ?_
    show Steps p.tables e below (T6.setTop (mkF m 23 #[.val (.int p1), .val (.int p2), .val (.int p3), .val (.int p4), .val (.int p5), .val (.int (2 : Int32)), .val (.ref b6), .unset, .unset, .unset, .unset, .unset] [(.int p2), (.int (0 : Int32)), (.ref b6)])) _
    refine st7 _ ?_
    show Steps p.tables e below (T7.setTop (mkF m 24 #[.val (.int p1), .val (.int p2), .val (.int p3), .val (.int p4), .val (.int p5), .val (.int (2 : Int32)), .val (.ref b6), .unset, .unset, .unset, .unset, .unset] [])) _
    refine XS.iload X7.here hx rfl (hb hby at_24) rfl ?_
    show Steps p.tables e below (T7.setTop (mkF m 26 #[.val (.int p1), .val (.int p2), .val (.int p3), .val (.int p4), .val (.int p5), .val (.int (2 : Int32)), .val (.ref b6), .unset, .unset, .unset, .unset, .unset] [(.int (2 : Int32))])) _
    refine XS.iconst X7.here hx rfl (hb hby at_26) ?_
    show Steps p.tables e below (T7.setTop (mkF m 27 #[.val (.int p1), .val (.int p2), .val (.int p3), .val (.int p4), .val (.int p5), .val (.int (2 : Int32)), .val (.ref b6), .unset, .unset, .unset, .unset, .unset] [(.int (1 : Int32)), (.int (2 : Int32))])) _
    refine XS.icmpNo X7.here hx rfl (hb hby at_27) rfl (tlt (by decide : (1 : Int32) < (2 : Int32))).2.2.2 ?_
    show Steps p.tables e below (T7.setTop (mkF m 30 #[.val (.int p1), .val (.int p2), .val (.int p3), .val (.int p4), .val (.int p5), .val (.int (2 : Int32)), .val (.ref b6), .unset, .unset, .unset, .unset, .unset] [])) _
    refine XS.aload X7.here hx rfl (hb hby at_30) rfl rfl ?_
    show Steps p.tables e below (T7.setTop (mkF m 32 #[.val (.int p1), .val (.int p2), .val (.int p3), .val (.int p4), .val (.int p5), .val (.int (2 : Int32)), .val (.ref b6), .unset, .unset, .unset, .unset, .unset] [(.ref b6)])) _
    refine XS.iconst X7.here hx rfl (hb hby at_32) ?_
    show Steps p.tables e below (T7.setTop (mkF m 33 #[.val (.int p1), .val (.int p2), .val (.int p3), .val (.int p4), .val (.int p5), .val (.int (2 : Int32)), .val (.ref b6), .unset, .unset, .unset, .unset, .unset] [(.int (1 : Int32)), (.ref b6)])) _
    refine XS.iloadN X7.here hx rfl (hb hby at_33) rfl ?_
    show Steps p.tables e below (T7.setTop (mkF m 34 #[.val (.int p1), .val (.int p2), .val (.int p3), .val (.int p4), .val (.int p5), .val (.int (2 : Int32)), .val (.ref b6), .unset, .unset, .unset, .unset, .unset] [(.int p3), (.int (1 : Int32)), (.ref b6)])) _
    refine st8 _ ?_
    show Steps p.tables e below (T8.setTop (mkF m 35 #[.val (.int p1), .val (.int p2), .val (.int p3), .val (.int p4), .val (.int p5), .val (.int (2 : Int32)), .val (.ref b6), .unset, .unset, .unset, .unset, .unset] [])) _
    refine XS.iload X8.here hx rfl (hb hby at_35) rfl ?_
    show Steps p.tables e below (T8.setTop (mkF m 37 #[.val (.int p1), .val (.int p2), .val (.int p3), .val (.int p4), .val (.int p5), .val (.int (2 : Int32)), .val (.ref b6), .unset, .unset, .unset, .unset, .unset] [(.int (2 : Int32))])) _
    refine XS.iconst X8.here hx rfl (hb hby at_37) ?_
    show Steps p.tables e below (T8.setTop (mkF m 38 #[.val (.int p1), .val (.int p2), .val (.int p3), .val (.int p4), .val (.int p5), .val (.int (2 : Int32)), .val (.ref b6), .unset, .unset, .unset, .unset, .unset] [(.int (2 : Int32)), (.int (2 : Int32))])) _
    refine XS.icmpYes X8.here hx rfl (pc0 := 38) (pc' := 46) rfl (hb hby at_38) rfl (flt (by decide : ¬ ((2 : Int32) < (2 : Int32)))).2.2.2 (by decide) (by decide) ?_
    show Steps p.tables e below (T8.setTop (mkF m 46 #[.val (.int p1), .val (.int p2), .val (.int p3), .val (.int p4), .val (.int p5), .val (.int (2 : Int32)), .val (.ref b6), .unset, .unset, .unset, .unset, .unset] [])) _
    refine XS.iload X8.here hx rfl (hb hby at_46) rfl ?_
    show Steps p.tables e below (T8.setTop (mkF m 48 #[.val (.int p1), .val (.int p2), .val (.int p3), .val (.int p4), .val (.int p5), .val (.int (2 : Int32)), .val (.ref b6), .unset, .unset, .unset, .unset, .unset] [(.int (2 : Int32))])) _
    refine XS.iconst X8.here hx rfl (hb hby at_48) ?_
    show Steps p.tables e below (T8.setTop (mkF m 49 #[.val (.int p1), .val (.int p2), .val (.int p3), .val (.int p4), .val (.int p5), .val (.int (2 : Int32)), .val (.ref b6), .unset, .unset, .unset, .unset, .unset] [(.int (3 : Int32)), (.int (2 : Int32))])) _
    refine XS.icmpYes X8.here hx rfl (pc0 := 49) (pc' := 58) rfl (hb hby at_49) rfl (flt (by decide : ¬ ((3 : Int32) < (2 : Int32)))).2.2.2 (by decide) (by decide) ?_
    show Steps p.tables e below (T8.setTop (mkF m 58 #[.val (.int p1), .val (.int p2), .val (.int p3), .val (.int p4), .val (.int p5), .val (.int (2 : Int32)), .val (.ref b6), .unset, .unset, .unset, .unset, .unset] [])) _
    refine st9 _ ?_
    show Steps p.tables e below (T9.setTop (mkF m 61 #[.val (.int p1), .val (.int p2), .val (.int p3), .val (.int p4), .val (.int p5), .val (.int (2 : Int32)), .val (.ref b6), .unset, .unset, .unset, .unset, .unset] [(.ref b9)])) _
    refine XS.dup X9.here hx rfl (hb hby at_61) rfl rfl ?_
    show Steps p.tables e below (T9.setTop (mkF m 62 #[.val (.int p1), .val (.int p2), .val (.int p3), .val (.int p4), .val (.int p5), .val (.int (2 : Int32)), .val (.ref b6), .unset, .unset, .unset, .unset, .unset] [(.ref b9), (.ref b9)])) _
    refine XS.aload X9.here hx rfl (hb hby at_62) rfl rfl ?_
    show Steps p.tables e below (T9.setTop (mkF m 64 #[.val (.int p1), .val (.int p2), .val (.int p3), .val (.int p4), .val (.int p5), .val (.int (2 : Int32)), .val (.ref b6), .unset, .unset, .unset, .unset, .unset] [(.ref b6), (.ref b9), (.ref b9)])) _
    refine st10.trans ?_
    show Steps p.tables e below (T10.setTop (mkF m 67 #[.val (.int p1), .val (.int p2), .val (.int p3), .val (.int p4), .val (.int p5), .val (.int (2 : Int32)), .val (.ref b6), .unset, .unset, .unset, .unset, .unset] [(.ref b9)])) _
    refine XS.astore X10.here hx rfl (hb hby at_67) rfl rfl (l' := #[.val (.int p1), .val (.int p2), .val (.int p3), .val (.int p4), .val (.int p5), .val (.int (2 : Int32)), .val (.ref b6), .val (.ref b9), .unset, .unset, .unset, .unset]) rfl ?_
    show Steps p.tables e below (T10.setTop (mkF m 69 #[.val (.int p1), .val (.int p2), .val (.int p3), .val (.int p4), .val (.int p5), .val (.int (2 : Int32)), .val (.ref b6), .val (.ref b9), .unset, .unset, .unset, .unset] [])) _
    refine XS.iload X10.here hx rfl (hb hby at_69) rfl ?_
    show Steps p.tables e below (T10.setTop (mkF m 71 #[.val (.int p1), .val (.int p2), .val (.int p3), .val (.int p4), .val (.int p5), .val (.int (2 : Int32)), .val (.ref b6), .val (.ref b9), .unset, .unset, .unset, .unset] [(.int (2 : Int32))])) _
    refine XS.iconst X10.here hx rfl (hb hby at_71) ?_
    show Steps p.tables e below (T10.setTop (mkF m 72 #[.val (.int p1), .val (.int p2), .val (.int p3), .val (.int p4), .val (.int p5), .val (.int (2 : Int32)), .val (.ref b6), .val (.ref b9), .unset, .unset, .unset, .unset] [(.int (0 : Int32)), (.int (2 : Int32))])) _
    refine XS.iloadN X10.here hx rfl (hb hby at_72) rfl ?_
    show Steps p.tables e below (T10.setTop (mkF m 73 #[.val (.int p1), .val (.int p2), .val (.int p3), .val (.int p4), .val (.int p5), .val (.int (2 : Int32)), .val (.ref b6), .val (.ref b9), .unset, .unset, .unset, .unset] [(.int p2), (.int (0 : Int32)), (.int (2 : Int32))])) _
    refine st11 _ ?_
    show Steps p.tables e below (T11.setTop (mkF m 76 #[.val (.int p1), .val (.int p2), .val (.int p3), .val (.int p4), .val (.int p5), .val (.int (2 : Int32)), .val (.ref b6), .val (.ref b9), .unset, .unset, .unset, .unset] [(.int (0 : Int32))])) _
    refine XS.ifNo X11.here hx rfl (hb hby at_76) rfl ((if0 _ _).trans (teq (by decide : (0 : Int32) = (0 : Int32))).2) ?_
    show Steps p.tables e below (T11.setTop (mkF m 79 #[.val (.int p1), .val (.int p2), .val (.int p3), .val (.int p4), .val (.int p5), .val (.int (2 : Int32)), .val (.ref b6), .val (.ref b9), .unset, .unset, .unset, .unset] [])) _
    refine XS.iload X11.here hx rfl (hb hby at_79) rfl ?_
    show Steps p.tables e below (T11.setTop (mkF m 81 #[.val (.int p1), .val (.int p2), .val (.int p3), .val (.int p4), .val (.int p5), .val (.int (2 : Int32)), .val (.ref b6), .val (.ref b9), .unset, .unset, .unset, .unset] [(.int (2 : Int32))])) _
    refine XS.iconst X11.here hx rfl (hb hby at_81) ?_
    show Steps p.tables e below (T11.setTop (mkF m 82 #[.val (.int p1), .val (.int p2), .val (.int p3), .val (.int p4), .val (.int p5), .val (.int (2 : Int32)), .val (.ref b6), .val (.ref b9), .unset, .unset, .unset, .unset] [(.int (1 : Int32)), (.int (2 : Int32))])) _
    refine XS.iloadN X11.here hx rfl (hb hby at_82) rfl ?_
    show Steps p.tables e below (T11.setTop (mkF m 83 #[.val (.int p1), .val (.int p2), .val (.int p3), .val (.int p4), .val (.int p5), .val (.int (2 : Int32)), .val (.ref b6), .val (.ref b9), .unset, .unset, .unset, .unset] [(.int p3), (.int (1 : Int32)), (.int (2 : Int32))])) _
    refine st12 _ ?_
    show Steps p.tables e below (T12.setTop (mkF m 86 #[.val (.int p1), .val (.int p2), .val (.int p3), .val (.int p4), .val (.int p5), .val (.int (2 : Int32)), .val (.ref b6), .val (.ref b9), .unset, .unset, .unset, .unset] [(.int (1 : Int32))])) _
    refine XS.ifYes X12.here hx rfl (pc0 := 86) (pc' := 110) rfl (hb hby at_86) rfl ((if0 _ _).trans (feq (by decide : ¬ ((1 : Int32) = (0 : Int32)))).2) (by decide) (by decide) ?_
    show Steps p.tables e below (T12.setTop (mkF m 110 #[.val (.int p1), .val (.int p2), .val (.int p3), .val (.int p4), .val (.int p5), .val (.int (2 : Int32)), .val (.ref b6), .val (.ref b9), .unset, .unset, .unset, .unset] [])) _
    refine XS.iconst X12.here hx rfl (hb hby at_110) ?_
    show Steps p.tables e below (T12.setTop (mkF m 111 #[.val (.int p1), .val (.int p2), .val (.int p3), .val (.int p4), .val (.int p5), .val (.int (2 : Int32)), .val (.ref b6), .val (.ref b9), .unset, .unset, .unset, .unset] [(.int (1 : Int32))])) _
    refine XS.goto X12.here hx rfl (pc0 := 111) (pc' := 115) rfl (hb hby at_111) (by decide) (by decide) ?_
    show Steps p.tables e below (T12.setTop (mkF m 115 #[.val (.int p1), .val (.int p2), .val (.int p3), .val (.int p4), .val (.int p5), .val (.int (2 : Int32)), .val (.ref b6), .val (.ref b9), .unset, .unset, .unset, .unset] [(.int (1 : Int32))])) _
    refine XS.istore X12.here hx rfl (hb hby at_115) rfl (l' := #[.val (.int p1), .val (.int p2), .val (.int p3), .val (.int p4), .val (.int p5), .val (.int (2 : Int32)), .val (.ref b6), .val (.ref b9), .val (.int (1 : Int32)), .unset, .unset, .unset]) rfl ?_
    show Steps p.tables e below (T12.setTop (mkF m 117 #[.val (.int p1), .val (.int p2), .val (.int p3), .val (.int p4), .val (.int p5), .val (.int (2 : Int32)), .val (.ref b6), .val (.ref b9), .val (.int (1 : Int32)), .unset, .unset, .unset] [])) _
    refine XS.aload X12.here hx rfl (hb hby at_117) rfl rfl ?_
    show Steps p.tables e below (T12.setTop (mkF m 119 #[.val (.int p1), .val (.int p2), .val (.int p3), .val (.int p4), .val (.int p5), .val (.int (2 : Int32)), .val (.ref b6), .val (.ref b9), .val (.int (1 : Int32)), .unset, .unset, .unset] [(.ref b9)])) _
    refine st13.trans ?_
    show Steps p.tables e below (T13.setTop (mkF m 122 #[.val (.int p1), .val (.int p2), .val (.int p3), .val (.int p4), .val (.int p5), .val (.int (2 : Int32)), .val (.ref b6), .val (.ref b9), .val (.int (1 : Int32)), .unset, .unset, .unset] [(.int (own_anyf (own_at [p2, p3]) 2 0 0))])) _
    refine XS.istore X13.here hx rfl (hb hby at_122) rfl (l' := #[.val (.int p1), .val (.int p2), .val (.int p3), .val (.int p4), .val (.int p5), .val (.int (2 : Int32)), .val (.ref b6), .val (.ref b9), .val (.int (1 : Int32)), .val (.int (own_anyf (own_at [p2, p3]) 2 0 0)), .unset, .unset]) rfl ?_
    show Steps p.tables e below (T13.setTop (mkF m 124 #[.val (.int p1), .val (.int p2), .val (.int p3), .val (.int p4), .val (.int p5), .val (.int (2 : Int32)), .val (.ref b6), .val (.ref b9), .val (.int (1 : Int32)), .val (.int (own_anyf (own_at [p2, p3]) 2 0 0)), .unset, .unset] [])) _
    refine XS.iload X13.here hx rfl (hb hby at_124) rfl ?_
    show Steps p.tables e below (T13.setTop (mkF m 126 #[.val (.int p1), .val (.int p2), .val (.int p3), .val (.int p4), .val (.int p5), .val (.int (2 : Int32)), .val (.ref b6), .val (.ref b9), .val (.int (1 : Int32)), .val (.int (own_anyf (own_at [p2, p3]) 2 0 0)), .unset, .unset] [(.int (1 : Int32))])) _
    refine XS.ifNo X13.here hx rfl (hb hby at_126) rfl ((if0 _ _).trans (feq (by decide : ¬ ((1 : Int32) = (0 : Int32)))).1) ?_
    show Steps p.tables e below (T13.setTop (mkF m 129 #[.val (.int p1), .val (.int p2), .val (.int p3), .val (.int p4), .val (.int p5), .val (.int (2 : Int32)), .val (.ref b6), .val (.ref b9), .val (.int (1 : Int32)), .val (.int (own_anyf (own_at [p2, p3]) 2 0 0)), .unset, .unset] [])) _
    refine XS.iconst X13.here hx rfl (hb hby at_129) ?_
    show Steps p.tables e below (T13.setTop (mkF m 130 #[.val (.int p1), .val (.int p2), .val (.int p3), .val (.int p4), .val (.int p5), .val (.int (2 : Int32)), .val (.ref b6), .val (.ref b9), .val (.int (1 : Int32)), .val (.int (own_anyf (own_at [p2, p3]) 2 0 0)), .unset, .unset] [(.int (0 : Int32))])) _
    refine XS.goto X13.here hx rfl (pc0 := 130) (pc' := 134) rfl (hb hby at_130) (by decide) (by decide) ?_
    show Steps p.tables e below (T13.setTop (mkF m 134 #[.val (.int p1), .val (.int p2), .val (.int p3), .val (.int p4), .val (.int p5), .val (.int (2 : Int32)), .val (.ref b6), .val (.ref b9), .val (.int (1 : Int32)), .val (.int (own_anyf (own_at [p2, p3]) 2 0 0)), .unset, .unset] [(.int (0 : Int32))])) _
    refine XS.istore X13.here hx rfl (hb hby at_134) rfl (l' := #[.val (.int p1), .val (.int p2), .val (.int p3), .val (.int p4), .val (.int p5), .val (.int (2 : Int32)), .val (.ref b6), .val (.ref b9), .val (.int (1 : Int32)), .val (.int (own_anyf (own_at [p2, p3]) 2 0 0)), .val (.int (0 : Int32)), .unset]) rfl ?_
    show Steps p.tables e below (T13.setTop (mkF m 136 #[.val (.int p1), .val (.int p2), .val (.int p3), .val (.int p4), .val (.int p5), .val (.int (2 : Int32)), .val (.ref b6), .val (.ref b9), .val (.int (1 : Int32)), .val (.int (own_anyf (own_at [p2, p3]) 2 0 0)), .val (.int (0 : Int32)), .unset] [])) _
    refine XS.iload X13.here hx rfl (hb hby at_136) rfl ?_
    show Steps p.tables e below (T13.setTop (mkF m 138 #[.val (.int p1), .val (.int p2), .val (.int p3), .val (.int p4), .val (.int p5), .val (.int (2 : Int32)), .val (.ref b6), .val (.ref b9), .val (.int (1 : Int32)), .val (.int (own_anyf (own_at [p2, p3]) 2 0 0)), .val (.int (0 : Int32)), .unset] [(.int (2 : Int32))])) _
    refine XS.ifNo X13.here hx rfl (hb hby at_138) rfl ((if0 _ _).trans (tlt (by decide : (0 : Int32) < (2 : Int32))).2.2.2) ?_
    show Steps p.tables e below (T13.setTop (mkF m 141 #[.val (.int p1), .val (.int p2), .val (.int p3), .val (.int p4), .val (.int p5), .val (.int (2 : Int32)), .val (.ref b6), .val (.ref b9), .val (.int (1 : Int32)), .val (.int (own_anyf (own_at [p2, p3]) 2 0 0)), .val (.int (0 : Int32)), .unset] [])) _
    refine XS.aload X13.here hx rfl (hb hby at_141) rfl rfl ?_
    show Steps p.tables e below (T13.setTop (mkF m 143 #[.val (.int p1), .val (.int p2), .val (.int p3), .val (.int p4), .val (.int p5), .val (.int (2 : Int32)), .val (.ref b6), .val (.ref b9), .val (.int (1 : Int32)), .val (.int (own_anyf (own_at [p2, p3]) 2 0 0)), .val (.int (0 : Int32)), .unset] [(.ref b6)])) _
    refine XS.iconst X13.here hx rfl (hb hby at_143) ?_
    show Steps p.tables e below (T13.setTop (mkF m 144 #[.val (.int p1), .val (.int p2), .val (.int p3), .val (.int p4), .val (.int p5), .val (.int (2 : Int32)), .val (.ref b6), .val (.ref b9), .val (.int (1 : Int32)), .val (.int (own_anyf (own_at [p2, p3]) 2 0 0)), .val (.int (0 : Int32)), .unset] [(.int (0 : Int32)), (.ref b6)])) _
    refine XS.iload X13.here hx rfl (hb hby at_144) rfl ?_
    show Steps p.tables e below (T13.setTop (mkF m 146 #[.val (.int p1), .val (.int p2), .val (.int p3), .val (.int p4), .val (.int p5), .val (.int (2 : Int32)), .val (.ref b6), .val (.ref b9), .val (.int (1 : Int32)), .val (.int (own_anyf (own_at [p2, p3]) 2 0 0)), .val (.int (0 : Int32)), .unset] [(.int (0 : Int32)), (.int (0 : Int32)), (.ref b6)])) _
    refine st14 _ ?_
    show Steps p.tables e below (T14.setTop (mkF m 147 #[.val (.int p1), .val (.int p2), .val (.int p3), .val (.int p4), .val (.int p5), .val (.int (2 : Int32)), .val (.ref b6), .val (.ref b9), .val (.int (1 : Int32)), .val (.int (own_anyf (own_at [p2, p3]) 2 0 0)), .val (.int (0 : Int32)), .unset] [])) _
    refine XS.iload X14.here hx rfl (hb hby at_147) rfl ?_
    show Steps p.tables e below (T14.setTop (mkF m 149 #[.val (.int p1), .val (.int p2), .val (.int p3), .val (.int p4), .val (.int p5), .val (.int (2 : Int32)), .val (.ref b6), .val (.ref b9), .val (.int (1 : Int32)), .val (.int (own_anyf (own_at [p2, p3]) 2 0 0)), .val (.int (0 : Int32)), .unset] [(.int (2 : Int32))])) _
    refine XS.iconst X14.here hx rfl (hb hby at_149) ?_
    show Steps p.tables e below (T14.setTop (mkF m 150 #[.val (.int p1), .val (.int p2), .val (.int p3), .val (.int p4), .val (.int p5), .val (.int (2 : Int32)), .val (.ref b6), .val (.ref b9), .val (.int (1 : Int32)), .val (.int (own_anyf (own_at [p2, p3]) 2 0 0)), .val (.int (0 : Int32)), .unset] [(.int (1 : Int32)), (.int (2 : Int32))])) _
    refine XS.icmpNo X14.here hx rfl (hb hby at_150) rfl (tlt (by decide : (1 : Int32) < (2 : Int32))).2.2.2 ?_
    show Steps p.tables e below (T14.setTop (mkF m 153 #[.val (.int p1), .val (.int p2), .val (.int p3), .val (.int p4), .val (.int p5), .val (.int (2 : Int32)), .val (.ref b6), .val (.ref b9), .val (.int (1 : Int32)), .val (.int (own_anyf (own_at [p2, p3]) 2 0 0)), .val (.int (0 : Int32)), .unset] [])) _
    refine XS.aload X14.here hx rfl (hb hby at_153) rfl rfl ?_
    show Steps p.tables e below (T14.setTop (mkF m 155 #[.val (.int p1), .val (.int p2), .val (.int p3), .val (.int p4), .val (.int p5), .val (.int (2 : Int32)), .val (.ref b6), .val (.ref b9), .val (.int (1 : Int32)), .val (.int (own_anyf (own_at [p2, p3]) 2 0 0)), .val (.int (0 : Int32)), .unset] [(.ref b6)])) _
    refine XS.iconst X14.here hx rfl (hb hby at_155) ?_
    show Steps p.tables e below (T14.setTop (mkF m 156 #[.val (.int p1), .val (.int p2), .val (.int p3), .val (.int p4), .val (.int p5), .val (.int (2 : Int32)), .val (.ref b6), .val (.ref b9), .val (.int (1 : Int32)), .val (.int (own_anyf (own_at [p2, p3]) 2 0 0)), .val (.int (0 : Int32)), .unset] [(.int (1 : Int32)), (.ref b6)])) _
    refine XS.iload X14.here hx rfl (hb hby at_156) rfl ?_
    show Steps p.tables e below (T14.setTop (mkF m 158 #[.val (.int p1), .val (.int p2), .val (.int p3), .val (.int p4), .val (.int p5), .val (.int (2 : Int32)), .val (.ref b6), .val (.ref b9), .val (.int (1 : Int32)), .val (.int (own_anyf (own_at [p2, p3]) 2 0 0)), .val (.int (0 : Int32)), .unset] [(.int (0 : Int32)), (.int (1 : Int32)), (.ref b6)])) _
    refine st15 _ ?_
    show Steps p.tables e below (T15.setTop (mkF m 159 #[.val (.int p1), .val (.int p2), .val (.int p3), .val (.int p4), .val (.int p5), .val (.int (2 : Int32)), .val (.ref b6), .val (.ref b9), .val (.int (1 : Int32)), .val (.int (own_anyf (own_at [p2, p3]) 2 0 0)), .val (.int (0 : Int32)), .unset] [])) _
    refine XS.iload X15.here hx rfl (hb hby at_159) rfl ?_
    show Steps p.tables e below (T15.setTop (mkF m 161 #[.val (.int p1), .val (.int p2), .val (.int p3), .val (.int p4), .val (.int p5), .val (.int (2 : Int32)), .val (.ref b6), .val (.ref b9), .val (.int (1 : Int32)), .val (.int (own_anyf (own_at [p2, p3]) 2 0 0)), .val (.int (0 : Int32)), .unset] [(.int (2 : Int32))])) _
    refine XS.iconst X15.here hx rfl (hb hby at_161) ?_
    show Steps p.tables e below (T15.setTop (mkF m 162 #[.val (.int p1), .val (.int p2), .val (.int p3), .val (.int p4), .val (.int p5), .val (.int (2 : Int32)), .val (.ref b6), .val (.ref b9), .val (.int (1 : Int32)), .val (.int (own_anyf (own_at [p2, p3]) 2 0 0)), .val (.int (0 : Int32)), .unset] [(.int (2 : Int32)), (.int (2 : Int32))])) _
    refine XS.icmpYes X15.here hx rfl (pc0 := 162) (pc' := 171) rfl (hb hby at_162) rfl (flt (by decide : ¬ ((2 : Int32) < (2 : Int32)))).2.2.2 (by decide) (by decide) ?_
    show Steps p.tables e below (T15.setTop (mkF m 171 #[.val (.int p1), .val (.int p2), .val (.int p3), .val (.int p4), .val (.int p5), .val (.int (2 : Int32)), .val (.ref b6), .val (.ref b9), .val (.int (1 : Int32)), .val (.int (own_anyf (own_at [p2, p3]) 2 0 0)), .val (.int (0 : Int32)), .unset] [])) _
    refine XS.iload X15.here hx rfl (hb hby at_171) rfl ?_
    show Steps p.tables e below (T15.setTop (mkF m 173 #[.val (.int p1), .val (.int p2), .val (.int p3), .val (.int p4), .val (.int p5), .val (.int (2 : Int32)), .val (.ref b6), .val (.ref b9), .val (.int (1 : Int32)), .val (.int (own_anyf (own_at [p2, p3]) 2 0 0)), .val (.int (0 : Int32)), .unset] [(.int (2 : Int32))])) _
    refine XS.iconst X15.here hx rfl (hb hby at_173) ?_
    show Steps p.tables e below (T15.setTop (mkF m 174 #[.val (.int p1), .val (.int p2), .val (.int p3), .val (.int p4), .val (.int p5), .val (.int (2 : Int32)), .val (.ref b6), .val (.ref b9), .val (.int (1 : Int32)), .val (.int (own_anyf (own_at [p2, p3]) 2 0 0)), .val (.int (0 : Int32)), .unset] [(.int (3 : Int32)), (.int (2 : Int32))])) _
    refine XS.icmpYes X15.here hx rfl (pc0 := 174) (pc' := 183) rfl (hb hby at_174) rfl (flt (by decide : ¬ ((3 : Int32) < (2 : Int32)))).2.2.2 (by decide) (by decide) ?_
    show Steps p.tables e below (T15.setTop (mkF m 183 #[.val (.int p1), .val (.int p2), .val (.int p3), .val (.int p4), .val (.int p5), .val (.int (2 : Int32)), .val (.ref b6), .val (.ref b9), .val (.int (1 : Int32)), .val (.int (own_anyf (own_at [p2, p3]) 2 0 0)), .val (.int (0 : Int32)), .unset] [])) _
    refine XS.aload X15.here hx rfl (hb hby at_183) rfl rfl ?_
    show Steps p.tables e below (T15.setTop (mkF m 185 #[.val (.int p1), .val (.int p2), .val (.int p3), .val (.int p4), .val (.int p5), .val (.int (2 : Int32)), .val (.ref b6), .val (.ref b9), .val (.int (1 : Int32)), .val (.int (own_anyf (own_at [p2, p3]) 2 0 0)), .val (.int (0 : Int32)), .unset] [(.ref b9)])) _
    refine st16.trans ?_
    show Steps p.tables e below (T16.setTop (mkF m 188 #[.val (.int p1), .val (.int p2), .val (.int p3), .val (.int p4), .val (.int p5), .val (.int (2 : Int32)), .val (.ref b6), .val (.ref b9), .val (.int (1 : Int32)), .val (.int (own_anyf (own_at [p2, p3]) 2 0 0)), .val (.int (0 : Int32)), .unset] [(.int (own_anyf (own_at [p2, p3]) 2 0 0))])) _
    refine XS.istore X16.here hx rfl (hb hby at_188) rfl (l' := #[.val (.int p1), .val (.int p2), .val (.int p3), .val (.int p4), .val (.int p5), .val (.int (2 : Int32)), .val (.ref b6), .val (.ref b9), .val (.int (1 : Int32)), .val (.int (own_anyf (own_at [p2, p3]) 2 0 0)), .val (.int (0 : Int32)), .val (.int (own_anyf (own_at [p2, p3]) 2 0 0))]) rfl ?_
    show Steps p.tables e below (T16.setTop (mkF m 190 #[.val (.int p1), .val (.int p2), .val (.int p3), .val (.int p4), .val (.int p5), .val (.int (2 : Int32)), .val (.ref b6), .val (.ref b9), .val (.int (1 : Int32)), .val (.int (own_anyf (own_at [p2, p3]) 2 0 0)), .val (.int (0 : Int32)), .val (.int (own_anyf (own_at [p2, p3]) 2 0 0))] [])) _
    refine XS.iload X16.here hx rfl (hb hby at_190) rfl ?_
    show Steps p.tables e below (T16.setTop (mkF m 192 #[.val (.int p1), .val (.int p2), .val (.int p3), .val (.int p4), .val (.int p5), .val (.int (2 : Int32)), .val (.ref b6), .val (.ref b9), .val (.int (1 : Int32)), .val (.int (own_anyf (own_at [p2, p3]) 2 0 0)), .val (.int (0 : Int32)), .val (.int (own_anyf (own_at [p2, p3]) 2 0 0))] [(.int (own_anyf (own_at [p2, p3]) 2 0 0))])) _
    refine XS.iload X16.here hx rfl (hb hby at_192) rfl ?_
    show Steps p.tables e below (T16.setTop (mkF m 194 #[.val (.int p1), .val (.int p2), .val (.int p3), .val (.int p4), .val (.int p5), .val (.int (2 : Int32)), .val (.ref b6), .val (.ref b9), .val (.int (1 : Int32)), .val (.int (own_anyf (own_at [p2, p3]) 2 0 0)), .val (.int (0 : Int32)), .val (.int (own_anyf (own_at [p2, p3]) 2 0 0))] [(.int (1 : Int32)), (.int (own_anyf (own_at [p2, p3]) 2 0 0))])) _
    refine XS.icmpNo X16.here hx rfl (hb hby at_194) rfl (teq (own_ok : (own_anyf (own_at [p2, p3]) 2 0 0) = (1 : Int32))).2 ?_
    show Steps p.tables e below (T16.setTop (mkF m 197 #[.val (.int p1), .val (.int p2), .val (.int p3), .val (.int p4), .val (.int p5), .val (.int (2 : Int32)), .val (.ref b6), .val (.ref b9), .val (.int (1 : Int32)), .val (.int (own_anyf (own_at [p2, p3]) 2 0 0)), .val (.int (0 : Int32)), .val (.int (own_anyf (own_at [p2, p3]) 2 0 0))] [])) _
    refine XS.iload X16.here hx rfl (hb hby at_197) rfl ?_
    show Steps p.tables e below (T16.setTop (mkF m 199 #[.val (.int p1), .val (.int p2), .val (.int p3), .val (.int p4), .val (.int p5), .val (.int (2 : Int32)), .val (.ref b6), .val (.ref b9), .val (.int (1 : Int32)), .val (.int (own_anyf (own_at [p2, p3]) 2 0 0)), .val (.int (0 : Int32)), .val (.int (own_anyf (own_at [p2, p3]) 2 0 0))] [(.int (own_anyf (own_at [p2, p3]) 2 0 0))])) _
    refine XS.iload X16.here hx rfl (hb hby at_199) rfl ?_
    show Steps p.tables e below (T16.setTop (mkF m 201 #[.val (.int p1), .val (.int p2), .val (.int p3), .val (.int p4), .val (.int p5), .val (.int (2 : Int32)), .val (.ref b6), .val (.ref b9), .val (.int (1 : Int32)), .val (.int (own_anyf (own_at [p2, p3]) 2 0 0)), .val (.int (0 : Int32)), .val (.int (own_anyf (own_at [p2, p3]) 2 0 0))] [(.int (1 : Int32)), (.int (own_anyf (own_at [p2, p3]) 2 0 0))])) _
    refine XS.icmpNo X16.here hx rfl (hb hby at_201) rfl (teq (own_ok : (own_anyf (own_at [p2, p3]) 2 0 0) = (1 : Int32))).2 ?_
    show Steps p.tables e below (T16.setTop (mkF m 204 #[.val (.int p1), .val (.int p2), .val (.int p3), .val (.int p4), .val (.int p5), .val (.int (2 : Int32)), .val (.ref b6), .val (.ref b9), .val (.int (1 : Int32)), .val (.int (own_anyf (own_at [p2, p3]) 2 0 0)), .val (.int (0 : Int32)), .val (.int (own_anyf (own_at [p2, p3]) 2 0 0))] [])) _
    refine XS.iconst X16.here hx rfl (hb hby at_204) ?_
    show Steps p.tables e below (T16.setTop (mkF m 205 #[.val (.int p1), .val (.int p2), .val (.int p3), .val (.int p4), .val (.int p5), .val (.int (2 : Int32)), .val (.ref b6), .val (.ref b9), .val (.int (1 : Int32)), .val (.int (own_anyf (own_at [p2, p3]) 2 0 0)), .val (.int (0 : Int32)), .val (.int (own_anyf (own_at [p2, p3]) 2 0 0))] [(.int (1 : Int32))])) _
    refine XS.goto X16.here hx rfl (pc0 := 205) (pc' := 209) rfl (hb hby at_205) (by decide) (by decide) ?_
    show Steps p.tables e below (T16.setTop (mkF m 209 #[.val (.int p1), .val (.int p2), .val (.int p3), .val (.int p4), .val (.int p5), .val (.int (2 : Int32)), .val (.ref b6), .val (.ref b9), .val (.int (1 : Int32)), .val (.int (own_anyf (own_at [p2, p3]) 2 0 0)), .val (.int (0 : Int32)), .val (.int (own_anyf (own_at [p2, p3]) 2 0 0))] [(.int (1 : Int32))])) _
    exact retN X16 hx (t := .boolean) Bd.returns (by simp) (hb hby at_209) hr
  · show Q0_21 Z p1 p2 p3 p4 p5 h0 n0 _ T16.heap _
    exact ⟨rfl, N16⟩
def Q0_22 (Z : State) (p1 : Int32) (p2 : Int32) (p3 : Int32) (p4 : Int32) (p5 : Int32) (h0 : Heap) (n0 : Nat) (v : Option Value) (h : Heap) (L : List Loc) : Prop := v = some (.int (1 : Int32)) ∧ Fr n0 L
set_option maxRecDepth 65536 in
set_option maxHeartbeats 40000000 in
theorem rm0_22 (l : Launch) (Z : State) (a0 : Array Value) (hw : ∀ d ∈ tables_1, d.before a0 Z = true) (ws : List Jvm.Cond) (p1 : Int32) (p2 : Int32) (p3 : Int32) (p4 : Int32) (p5 : Int32) (h0 : Heap) (n0 : Nat) (Z0 : n0 ≤ h0.size) (hp5 : ((p1 &&& (2147483647 : Int32)) % (5 : Int32)) = (2 : Int32)) (ch0 : ¬ (p2 = (1 : Int32))) (ch1 : ¬ (p3 = (1 : Int32))) :
    MetFree l x (head1 (Jvm.Cond.code x code maxLocals ret :: ws) room_1) (fun a U => a = #[(.int p1), (.int p2), (.int p3), (.int p4), (.int p5)] ∧ Z.Warmed39 U.vm ∧ U.heap = h0) (fun _ _ _ _ _ => True) (fun _ U o U' => ∃ v L, o = .returned v ∧ Q0_22 Z p1 p2 p3 p4 p5 h0 n0 v U'.heap L ∧ FrameEnd U o U' L room_1.cells room_1.slots) := by
  refine MetFree.of_bodySF (plainFor_of_name pn_0) hisR ?_
  intro p e s m args below meth c s₁ Bd hml0 hP hK
  obtain ⟨rfl, hZ, hh⟩ := hP
  have own_ok : (own_anyf (own_at [p2, p3]) 2 0 0) = (0 : Int32) := by
    simp [own_anyf, own_or, own_at, ch0, ch1]
  have hx := Bd.exec
  have hby := Bd.bytes
  have hml : c.maxLocals = 12 := hml0
  have hown : s.vm.findClass "com/example/tendril/tendril/FormatsAnyBinaryPinLaw" = some m.cls := findClass_of_methodNamed Bd.named
  have hnm := (name_of_methodNamed Bd.named Bd.method).1
  have X0 : Stand p l e room_1 s m #[(.int p1), (.int p2), (.int p3), (.int p4), (.int p5)] below meth c s₁ [] 0 0 := Stand.of_body Bd
  have e0 : s₁.heap = h0 := by rw [← hh, Bd.state]; rfl
  have N0 := Fr.nil n0
  have pre0 : ∀ t, Steps p.tables e below (s₁.setTop (mkF m 0 #[.val (.int p1), .val (.int p2), .val (.int p3), .val (.int p4), .val (.int p5), .unset, .unset, .unset, .unset, .unset, .unset, .unset] [])) t → Steps p.tables e below (s₁.setTop (entryFrame m #[(.int p1), (.int p2), (.int p3), (.int p4), (.int p5)] maxLocals)) t := fun t k => castTop (ef_0 m p1 p2 p3 p4 p5) k
  obtain ⟨T6, h6, k6, X6, e6, E6, A6, Ea6, st6⟩ := newPE X0 hx hZ (hw _ (List.mem_of_getElem? (i := 1) rfl)) e0 (g := (mkF m 10 #[.val (.int p1), .val (.int p2), .val (.int p3), .val (.int p4), .val (.int p5), .val (.int (2 : Int32)), .unset, .unset, .unset, .unset, .unset, .unset] [(.int (2 : Int32))])) rfl (hb hby at_10) rfl (by decide) (cap := 2) (by decide) (by decide) (by decide) (by decide) (ad := "[I") rfl
  obtain ⟨b6, g6⟩ : ∃ z, z = h0.size := ⟨_, rfl⟩
  rw [← g6] at A6 Ea6 st6
  have V_b6 : Arv Z h6 b6 k6 .int (2 : Int32) [(.int (0 : Int32)), (.int (0 : Int32))] (.int (0 : Int32)) := (Arv.new A6 (by decide)).pad (pad_rep [] (.int (0 : Int32)) 2)
  have g_b6 : n0 ≤ b6 := Nat.le_trans Z0 (Nat.le_of_eq g6.symm)
  have sz_b6 : h0.size ≤ b6 := (Nat.le_trans (Keep.refl h0 []).1 (Nat.le_of_eq g6.symm))
  have K6 : Keep h0 h6 [] := (Keep.refl h0 []).ext E6
  obtain ⟨cl_b6_23, Ar_b6, q_b6, S_b6, N_b6, H_b6, G_b6⟩ := V_b6
  have hin23 : ¬ ((0 : Int32) < 0 ∨ cl_b6_23.slots.size ≤ ((0 : Int32)).toNatClampNeg) := inb_of S_b6 ⟨by decide, by decide⟩
  obtain ⟨T7, h7, X7, e7, W7, st7⟩ := stI X6 hx hZ e6 Ar_b6 (j := (0 : Int32)) hin23 (g := (mkF m 23 #[.val (.int p1), .val (.int p2), .val (.int p3), .val (.int p4), .val (.int p5), .val (.int (2 : Int32)), .val (.ref b6), .unset, .unset, .unset, .unset, .unset] [(.int p2), (.int (0 : Int32)), (.ref b6)])) rfl rfl (hb hby at_23)
  have V_b6_7 := Arv.set Ar_b6 q_b6 S_b6 N_b6 H_b6 G_b6 rfl W7 0 rfl (Nat.le_of_ble_eq_true rfl)
  have K7 : Keep h0 h7 [] := K6.wr W7 (Or.inr sz_b6)
  have N7 := Fr.snoc X7 N0 g_b6
  obtain ⟨cl_b6_34, Ar_b6, q_b6, S_b6, N_b6, H_b6, G_b6⟩ := V_b6_7
  have hin34 : ¬ ((1 : Int32) < 0 ∨ cl_b6_34.slots.size ≤ ((1 : Int32)).toNatClampNeg) := inb_of S_b6 ⟨by decide, by decide⟩
  obtain ⟨T8, h8, X8, e8, W8, st8⟩ := stI X7 hx hZ e7 Ar_b6 (j := (1 : Int32)) hin34 (g := (mkF m 34 #[.val (.int p1), .val (.int p2), .val (.int p3), .val (.int p4), .val (.int p5), .val (.int (2 : Int32)), .val (.ref b6), .unset, .unset, .unset, .unset, .unset] [(.int p3), (.int (1 : Int32)), (.ref b6)])) rfl rfl (hb hby at_34)
  have V_b6_8 := Arv.set Ar_b6 q_b6 S_b6 N_b6 H_b6 G_b6 rfl W8 1 rfl (Nat.le_of_ble_eq_true rfl)
  have K8 : Keep h0 h8 [] := K7.wr W8 (Or.inr sz_b6)
  have N8 := Fr.snoc X8 N7 g_b6
  obtain ⟨T9, h9, X9, e9, E9, A9, D9, -, st9⟩ := newO X8 hx hZ hown (hw _ (List.mem_of_getElem? (i := 2) rfl)) (hw _ (List.mem_of_getElem? (i := 3) rfl)) (hw _ (List.mem_of_getElem? (i := 4) rfl)) e8 (g := (mkF m 58 #[.val (.int p1), .val (.int p2), .val (.int p3), .val (.int p4), .val (.int p5), .val (.int (2 : Int32)), .val (.ref b6), .unset, .unset, .unset, .unset, .unset] [])) rfl (hb hby at_58) (by decide) (by decide)
  obtain ⟨b9, g9⟩ : ∃ z, z = h8.size := ⟨_, rfl⟩
  rw [← g9] at A9 D9 st9
  have F_codes_b9 : Fld Z h9 b9 "com/example/tendril/tendril/WireColumns$Formats" "codes" "[I" .null := D9 (Or.inr (hw _ (List.mem_of_getElem? (i := 21) rfl))) (ty := (.array .int)) (by decide)
  have E_b9 := A9
  have g_b9 : n0 ≤ b9 := Nat.le_trans (Nat.le_trans (Nat.le_trans (Nat.le_trans Z0 E6.1) (Keep.of_wr W7).1) (Keep.of_wr W8).1) (Nat.le_of_eq g9.symm)
  have sz_b9 : h0.size ≤ b9 := (Nat.le_trans K8.1 (Nat.le_of_eq g9.symm))
  have K9 : Keep h0 h9 [] := K8.ext E9
  obtain ⟨_, _, ⟨T10, L10, k10, n10⟩, -, X10, ⟨Lc10, hQ10, l10, y10, z10⟩, st10⟩ := X9.specialBack hx (y := (⟨"com/example/tendril/tendril/WireColumns$Formats", "<init>", "([I)V"⟩ : MethodName)) rfl hown (mvT hZ (hw _ (List.mem_of_getElem? (i := 5) rfl))) (mvT hZ (hw _ (List.mem_of_getElem? (i := 6) rfl))) (mvT hZ (hw _ (List.mem_of_getElem? (i := 7) rfl))) (by decide) (backOf (W := 1) (rm1 l Z a0 hw [] b9 b6 .null _ _ _ _ h9 n0 (Nat.le_trans Z0 K9.1) (((Ea6.wr W7).wr W8).ext E9) (V_b6_8.ext E9) (by decide) E_b9 F_codes_b9 g_b9) hZ (hw _ (List.mem_of_getElem? (i := 7) rfl)) (hw _ (List.mem_of_getElem? (i := 4) rfl)) (by decide) (by decide)) (g := (mkF m 64 #[.val (.int p1), .val (.int p2), .val (.int p3), .val (.int p4), .val (.int p5), .val (.int (2 : Int32)), .val (.ref b6), .unset, .unset, .unset, .unset, .unset] [(.ref b6), (.ref b9), (.ref b9)])) rfl (by rw [hml]; rfl) (Steps.refl _) (a := b9) (argsL := [(.ref b6)]) (rest := [(.ref b9)]) (lenOf pd_0_0 rfl) rfl (by show 2 * 0 + _ ≤ _; exact Nat.le_of_eq rfl) (hb hby at_64) (fun _ _ => ⟨rfl, e9, (Nat.le_of_ble_eq_true rfl), (Nat.le_of_ble_eq_true rfl)⟩)
  dsimp only [Pt.U, Pt.locs, Pt.cells, Pt.slots] at X10 l10 y10 z10 st10 hQ10
  subst l10 y10 z10
  obtain ⟨rfl, N10q, K10c, E10c, bC, szC, FC, VC⟩ := hQ10
  have ne_ao : b6 ≠ b9 := Nat.ne_of_lt (Nat.lt_of_lt_of_le V_b6_8.lt (Nat.le_of_eq g9.symm))
  have ne_Ca : bC ≠ b6 := Ne.symm (Nat.ne_of_lt (Nat.lt_of_lt_of_le (V_b6_8.ext E9).lt szC))
  have K10 : Keep h0 T10.heap [] := K9.trans K10c (allS (Or.inr sz_b9) all0)
  have N10 := Fr.app N8 N10q
  obtain ⟨_, _, ⟨T11, L11, k11, n11⟩, -, X11, ⟨Lc11, hQ11, l11, y11, z11⟩, st11⟩ := Jvm.LawKit.callS X10 hx (y := (⟨"com/example/tendril/tendril/FormatsAnyBinaryPinLaw", "hit", "(III)Z"⟩ : MethodName)) hown (mvT hZ (hw _ (List.mem_of_getElem? (i := 22) rfl))) (mvT hZ (hw _ (List.mem_of_getElem? (i := 23) rfl))) (mvT hZ (hw _ (List.mem_of_getElem? (i := 24) rfl))) (mvT hZ (hw _ (List.mem_of_getElem? (i := 25) rfl))) (by decide) (backOf (W := 0) (rm3ft l Z a0 hw [] (2 : Int32) (0 : Int32) p2 T10.heap n0 (Nat.le_trans Z0 K10.1) (by decide) ch0) hZ (hw _ (List.mem_of_getElem? (i := 25) rfl)) (hw _ (List.mem_of_getElem? (i := 24) rfl)) (by decide) (by decide)) (g := (mkF m 73 #[.val (.int p1), .val (.int p2), .val (.int p3), .val (.int p4), .val (.int p5), .val (.int (2 : Int32)), .val (.ref b6), .val (.ref b9), .unset, .unset, .unset, .unset] [(.int p2), (.int (0 : Int32)), (.int (2 : Int32))])) rfl (by rw [hml]; rfl) (argsL := [(.int (2 : Int32)), (.int (0 : Int32)), (.int p2)]) (rest := []) (lenOf pd_0_3 rfl) rfl (by show 2 * 0 + _ ≤ _; exact Nat.le_of_eq rfl) (hb hby at_73) (fun _ _ => ⟨rfl, rfl, (Nat.le_of_ble_eq_true rfl), (Nat.le_of_ble_eq_true rfl)⟩)
  dsimp only [Pt.U, Pt.locs, Pt.cells, Pt.slots] at X11 l11 y11 z11 st11 hQ11
  subst l11 y11 z11
  obtain ⟨rfl, N11q, e11⟩ := hQ11
  have K11 : Keep h0 T11.heap [] := K10.trans (own_keq e11) all0
  have N11 := Fr.app N10 N11q
  obtain ⟨_, _, ⟨T12, L12, k12, n12⟩, -, X12, ⟨Lc12, hQ12, l12, y12, z12⟩, st12⟩ := Jvm.LawKit.callS X11 hx (y := (⟨"com/example/tendril/tendril/FormatsAnyBinaryPinLaw", "hit", "(III)Z"⟩ : MethodName)) hown (mvT hZ (hw _ (List.mem_of_getElem? (i := 22) rfl))) (mvT hZ (hw _ (List.mem_of_getElem? (i := 23) rfl))) (mvT hZ (hw _ (List.mem_of_getElem? (i := 24) rfl))) (mvT hZ (hw _ (List.mem_of_getElem? (i := 25) rfl))) (by decide) (backOf (W := 0) (rm3ft l Z a0 hw [] (2 : Int32) (1 : Int32) p3 T11.heap n0 (Nat.le_trans Z0 K11.1) (by decide) ch1) hZ (hw _ (List.mem_of_getElem? (i := 25) rfl)) (hw _ (List.mem_of_getElem? (i := 24) rfl)) (by decide) (by decide)) (g := (mkF m 83 #[.val (.int p1), .val (.int p2), .val (.int p3), .val (.int p4), .val (.int p5), .val (.int (2 : Int32)), .val (.ref b6), .val (.ref b9), .unset, .unset, .unset, .unset] [(.int p3), (.int (1 : Int32)), (.int (2 : Int32))])) rfl (by rw [hml]; rfl) (argsL := [(.int (2 : Int32)), (.int (1 : Int32)), (.int p3)]) (rest := []) (lenOf pd_0_3 rfl) rfl (by show 2 * 0 + _ ≤ _; exact Nat.le_of_eq rfl) (hb hby at_83) (fun _ _ => ⟨rfl, rfl, (Nat.le_of_ble_eq_true rfl), (Nat.le_of_ble_eq_true rfl)⟩)
  dsimp only [Pt.U, Pt.locs, Pt.cells, Pt.slots] at X12 l12 y12 z12 st12 hQ12
  subst l12 y12 z12
  obtain ⟨rfl, N12q, e12⟩ := hQ12
  have K12 : Keep h0 T12.heap [] := K11.trans (own_keq e12) all0
  have N12 := Fr.app N11 N12q
  obtain ⟨_, _, ⟨T13, L13, k13, n13⟩, -, X13, ⟨Lc13, hQ13, l13, y13, z13⟩, st13⟩ := Jvm.LawKit.callS X12 hx (y := (⟨"com/example/tendril/tendril/FormatsAnyBinaryPinLaw", "hit", "(III)Z"⟩ : MethodName)) hown (mvT hZ (hw _ (List.mem_of_getElem? (i := 22) rfl))) (mvT hZ (hw _ (List.mem_of_getElem? (i := 23) rfl))) (mvT hZ (hw _ (List.mem_of_getElem? (i := 24) rfl))) (mvT hZ (hw _ (List.mem_of_getElem? (i := 25) rfl))) (by decide) (backOf (W := 0) (rm3t l Z a0 hw [] (2 : Int32) (2 : Int32) p4 T12.heap n0 (Nat.le_trans Z0 K12.1) (by decide)) hZ (hw _ (List.mem_of_getElem? (i := 25) rfl)) (hw _ (List.mem_of_getElem? (i := 24) rfl)) (by decide) (by decide)) (g := (mkF m 93 #[.val (.int p1), .val (.int p2), .val (.int p3), .val (.int p4), .val (.int p5), .val (.int (2 : Int32)), .val (.ref b6), .val (.ref b9), .unset, .unset, .unset, .unset] [(.int p4), (.int (2 : Int32)), (.int (2 : Int32))])) rfl (by rw [hml]; rfl) (argsL := [(.int (2 : Int32)), (.int (2 : Int32)), (.int p4)]) (rest := []) (lenOf pd_0_3 rfl) rfl (by show 2 * 0 + _ ≤ _; exact Nat.le_of_eq rfl) (hb hby at_93) (fun _ _ => ⟨rfl, rfl, (Nat.le_of_ble_eq_true rfl), (Nat.le_of_ble_eq_true rfl)⟩)
  dsimp only [Pt.U, Pt.locs, Pt.cells, Pt.slots] at X13 l13 y13 z13 st13 hQ13
  subst l13 y13 z13
  obtain ⟨rfl, N13q, e13⟩ := hQ13
  have K13 : Keep h0 T13.heap [] := K12.trans (own_keq e13) all0
  have N13 := Fr.app N12 N13q
  obtain ⟨_, _, ⟨T14, L14, k14, n14⟩, -, X14, ⟨Lc14, hQ14, l14, y14, z14⟩, st14⟩ := Jvm.LawKit.callS X13 hx (y := (⟨"com/example/tendril/tendril/FormatsAnyBinaryPinLaw", "hit", "(III)Z"⟩ : MethodName)) hown (mvT hZ (hw _ (List.mem_of_getElem? (i := 22) rfl))) (mvT hZ (hw _ (List.mem_of_getElem? (i := 23) rfl))) (mvT hZ (hw _ (List.mem_of_getElem? (i := 24) rfl))) (mvT hZ (hw _ (List.mem_of_getElem? (i := 25) rfl))) (by decide) (backOf (W := 0) (rm3t l Z a0 hw [] (2 : Int32) (3 : Int32) p5 T13.heap n0 (Nat.le_trans Z0 K13.1) (by decide)) hZ (hw _ (List.mem_of_getElem? (i := 25) rfl)) (hw _ (List.mem_of_getElem? (i := 24) rfl)) (by decide) (by decide)) (g := (mkF m 104 #[.val (.int p1), .val (.int p2), .val (.int p3), .val (.int p4), .val (.int p5), .val (.int (2 : Int32)), .val (.ref b6), .val (.ref b9), .unset, .unset, .unset, .unset] [(.int p5), (.int (3 : Int32)), (.int (2 : Int32))])) rfl (by rw [hml]; rfl) (argsL := [(.int (2 : Int32)), (.int (3 : Int32)), (.int p5)]) (rest := []) (lenOf pd_0_3 rfl) rfl (by show 2 * 0 + _ ≤ _; exact Nat.le_of_eq rfl) (hb hby at_104) (fun _ _ => ⟨rfl, rfl, (Nat.le_of_ble_eq_true rfl), (Nat.le_of_ble_eq_true rfl)⟩)
  dsimp only [Pt.U, Pt.locs, Pt.cells, Pt.slots] at X14 l14 y14 z14 st14 hQ14
  subst l14 y14 z14
  obtain ⟨rfl, N14q, e14⟩ := hQ14
  have K14 : Keep h0 T14.heap [] := K13.trans (own_keq e14) all0
  have N14 := Fr.app N13 N14q
  obtain ⟨clC1, ArC1, -, SC1, NC1, HC1, -⟩ := ((((VC.keep (own_keq e11) nin0).keep (own_keq e12) nin0).keep (own_keq e13) nin0).keep (own_keq e14) nin0)
  have HV1 : ∀ j, j < 2 → clC1.slots[j]? = some (.int (own_at [p2, p3] j)) := by
    intro j hj
    match j, hj with
    | 0, _ => exact HC1 0 (by rw [SC1]; decide)
    | 1, _ => exact HC1 1 (by rw [SC1]; decide)
  obtain ⟨cq15, kq15, q15a, q15b, q15c⟩ := isOf hZ rfl (((((E_b9.keep K10c).keep (own_keq e11)).keep (own_keq e12)).keep (own_keq e13)).keep (own_keq e14))
  obtain ⟨_, _, ⟨T15, L15, k15, n15⟩, -, X15, ⟨Lc15, hQ15, l15, y15, z15⟩, st15⟩ := X14.virtualBack hx (y := (⟨"com/example/tendril/tendril/WireColumns$Formats", "anyBinary", "()Z"⟩ : MethodName)) (z := (⟨"com/example/tendril/tendril/WireColumns$Formats", "anyBinary", "()Z"⟩ : MethodName)) hown (mvT hZ (hw _ (List.mem_of_getElem? (i := 26) rfl))) (mvT hZ (hw _ (List.mem_of_getElem? (i := 27) rfl))) (notFace_of_selects (args := #[]) (mvT hZ (hw _ (List.mem_of_getElem? (i := 29) rfl)))) (mvT hZ (hw _ (List.mem_of_getElem? (i := 29) rfl))) (mvT hZ (hw _ (List.mem_of_getElem? (i := 28) rfl))) (by decide) (backOf (W := 0) (rm4 l Z a0 hw [] b9 bC clC1 2 (own_at [p2, p3]) T14.heap n0 (Nat.le_trans Z0 K14.1) ((((FC.keep (own_keq e11) nin0).keep (own_keq e12) nin0).keep (own_keq e13) nin0).keep (own_keq e14) nin0) ArC1 (SC1.trans (by decide)) HV1 (by decide)) hZ (hw _ (List.mem_of_getElem? (i := 30) rfl)) (hw _ (List.mem_of_getElem? (i := 4) rfl)) (by decide) (by decide)) q15a q15c (g := (mkF m 119 #[.val (.int p1), .val (.int p2), .val (.int p3), .val (.int p4), .val (.int p5), .val (.int (2 : Int32)), .val (.ref b6), .val (.ref b9), .val (.int (0 : Int32)), .unset, .unset, .unset] [(.ref b9)])) rfl (by rw [hml]; rfl) (Steps.refl _) (argsL := []) (rest := []) (lenOf pd_0_4 rfl) rfl (by show 2 * 0 + _ ≤ _; exact Nat.le_of_eq rfl) (hb hby at_119) (fun _ _ => ⟨rfl, rfl, (Nat.le_of_ble_eq_true rfl), (Nat.le_of_ble_eq_true rfl)⟩)
  dsimp only [Pt.U, Pt.locs, Pt.cells, Pt.slots] at X15 l15 y15 z15 st15 hQ15
  subst l15 y15 z15
  obtain ⟨rfl, N15q, e15⟩ := hQ15
  have K15 : Keep h0 T15.heap [] := K14.trans (own_keq e15) all0
  have N15 := Fr.app N14 N15q
  obtain ⟨cl_b6_146, Ar_b6, q_b6, S_b6, N_b6, H_b6, G_b6⟩ := (((((((V_b6_8.ext E9).keep K10c (ninS ne_ao nin0)).keep (own_keq e11) nin0).keep (own_keq e12) nin0).keep (own_keq e13) nin0).keep (own_keq e14) nin0).keep (own_keq e15) nin0)
  have hin146 : ¬ ((0 : Int32) < 0 ∨ cl_b6_146.slots.size ≤ ((0 : Int32)).toNatClampNeg) := inb_of S_b6 ⟨by decide, by decide⟩
  obtain ⟨T16, h16, X16, e16, W16, st16⟩ := stI X15 hx hZ rfl Ar_b6 (j := (0 : Int32)) hin146 (g := (mkF m 146 #[.val (.int p1), .val (.int p2), .val (.int p3), .val (.int p4), .val (.int p5), .val (.int (2 : Int32)), .val (.ref b6), .val (.ref b9), .val (.int (0 : Int32)), .val (.int (own_anyf (own_at [p2, p3]) 2 0 0)), .val (.int (1 : Int32)), .unset] [(.int (1 : Int32)), (.int (0 : Int32)), (.ref b6)])) rfl rfl (hb hby at_146)
  have V_b6_16 := Arv.set Ar_b6 q_b6 S_b6 N_b6 H_b6 G_b6 rfl W16 0 rfl (Nat.le_of_ble_eq_true rfl)
  have K16 : Keep h0 h16 [] := K15.wr W16 (Or.inr sz_b6)
  have N16 := Fr.snoc X16 N15 g_b6
  obtain ⟨cl_b6_158, Ar_b6, q_b6, S_b6, N_b6, H_b6, G_b6⟩ := V_b6_16
  have hin158 : ¬ ((1 : Int32) < 0 ∨ cl_b6_158.slots.size ≤ ((1 : Int32)).toNatClampNeg) := inb_of S_b6 ⟨by decide, by decide⟩
  obtain ⟨T17, h17, X17, e17, W17, st17⟩ := stI X16 hx hZ e16 Ar_b6 (j := (1 : Int32)) hin158 (g := (mkF m 158 #[.val (.int p1), .val (.int p2), .val (.int p3), .val (.int p4), .val (.int p5), .val (.int (2 : Int32)), .val (.ref b6), .val (.ref b9), .val (.int (0 : Int32)), .val (.int (own_anyf (own_at [p2, p3]) 2 0 0)), .val (.int (1 : Int32)), .unset] [(.int (1 : Int32)), (.int (1 : Int32)), (.ref b6)])) rfl rfl (hb hby at_158)
  have V_b6_17 := Arv.set Ar_b6 q_b6 S_b6 N_b6 H_b6 G_b6 rfl W17 1 rfl (Nat.le_of_ble_eq_true rfl)
  have K17 : Keep h0 h17 [] := K16.wr W17 (Or.inr sz_b6)
  have N17 := Fr.snoc X17 N16 g_b6
  obtain ⟨clC2, ArC2, -, SC2, NC2, HC2, -⟩ := (((((((VC.keep (own_keq e11) nin0).keep (own_keq e12) nin0).keep (own_keq e13) nin0).keep (own_keq e14) nin0).keep (own_keq e15) nin0).other W16 ne_Ca).other W17 ne_Ca)
  have HV2 : ∀ j, j < 2 → clC2.slots[j]? = some (.int (own_at [p2, p3] j)) := by
    intro j hj
    match j, hj with
    | 0, _ => exact HC2 0 (by rw [SC2]; decide)
    | 1, _ => exact HC2 1 (by rw [SC2]; decide)
  obtain ⟨cq18, kq18, q18a, q18b, q18c⟩ := isOf hZ e17 ((((((((E_b9.keep K10c).keep (own_keq e11)).keep (own_keq e12)).keep (own_keq e13)).keep (own_keq e14)).keep (own_keq e15)).wr W16).wr W17)
  obtain ⟨_, _, ⟨T18, L18, k18, n18⟩, -, X18, ⟨Lc18, hQ18, l18, y18, z18⟩, st18⟩ := X17.virtualBack hx (y := (⟨"com/example/tendril/tendril/WireColumns$Formats", "anyBinary", "()Z"⟩ : MethodName)) (z := (⟨"com/example/tendril/tendril/WireColumns$Formats", "anyBinary", "()Z"⟩ : MethodName)) hown (mvT hZ (hw _ (List.mem_of_getElem? (i := 26) rfl))) (mvT hZ (hw _ (List.mem_of_getElem? (i := 27) rfl))) (notFace_of_selects (args := #[]) (mvT hZ (hw _ (List.mem_of_getElem? (i := 29) rfl)))) (mvT hZ (hw _ (List.mem_of_getElem? (i := 29) rfl))) (mvT hZ (hw _ (List.mem_of_getElem? (i := 28) rfl))) (by decide) (backOf (W := 0) (rm4 l Z a0 hw [] b9 bC clC2 2 (own_at [p2, p3]) h17 n0 (Nat.le_trans Z0 K17.1) (((((((FC.keep (own_keq e11) nin0).keep (own_keq e12) nin0).keep (own_keq e13) nin0).keep (own_keq e14) nin0).keep (own_keq e15) nin0).other W16 (Or.inl (Ne.symm ne_ao))).other W17 (Or.inl (Ne.symm ne_ao))) ArC2 (SC2.trans (by decide)) HV2 (by decide)) hZ (hw _ (List.mem_of_getElem? (i := 30) rfl)) (hw _ (List.mem_of_getElem? (i := 4) rfl)) (by decide) (by decide)) q18a q18c (g := (mkF m 185 #[.val (.int p1), .val (.int p2), .val (.int p3), .val (.int p4), .val (.int p5), .val (.int (2 : Int32)), .val (.ref b6), .val (.ref b9), .val (.int (0 : Int32)), .val (.int (own_anyf (own_at [p2, p3]) 2 0 0)), .val (.int (1 : Int32)), .unset] [(.ref b9)])) rfl (by rw [hml]; rfl) (Steps.refl _) (argsL := []) (rest := []) (lenOf pd_0_4 rfl) rfl (by show 2 * 0 + _ ≤ _; exact Nat.le_of_eq rfl) (hb hby at_185) (fun _ _ => ⟨rfl, e17, (Nat.le_of_ble_eq_true rfl), (Nat.le_of_ble_eq_true rfl)⟩)
  dsimp only [Pt.U, Pt.locs, Pt.cells, Pt.slots] at X18 l18 y18 z18 st18 hQ18
  subst l18 y18 z18
  obtain ⟨rfl, N18q, e18⟩ := hQ18
  have K18 : Keep h0 T18.heap [] := K17.trans (own_keq e18) all0
  have N18 := Fr.app N17 N18q
  obtain ⟨fs, hr, hrun, hended, hW, hsame⟩ := X18.leave (v := some (.int (1 : Int32))) (fun h => by rw [Bd.returns] at h; cases h)
  refine ⟨_, _, pre0 _ ?_, hrun, hended, _, _, rfl, ?_, ⟨_, rfl⟩, hW, hsame.mono (by decide) (by decide)⟩
  · show Steps p.tables e below (s₁.setTop (mkF m 0 #[.val (.int p1), .val (.int p2), .val (.int p3), .val (.int p4), .val (.int p5), .unset, .unset, .unset, .unset, .unset, .unset, .unset] [])) _
    refine XS.iloadN X0.here hx rfl (hb hby at_0) rfl ?_
    show Steps p.tables e below (s₁.setTop (mkF m 1 #[.val (.int p1), .val (.int p2), .val (.int p3), .val (.int p4), .val (.int p5), .unset, .unset, .unset, .unset, .unset, .unset, .unset] [(.int p1)])) _
    refine X0.ldcInt hx hown (mvT hZ (hw _ (List.mem_of_getElem? (i := 0) rfl))) (g := (mkF m 1 #[.val (.int p1), .val (.int p2), .val (.int p3), .val (.int p4), .val (.int p5), .unset, .unset, .unset, .unset, .unset, .unset, .unset] [(.int p1)])) rfl (hb hby at_1) _ ?_
    show Steps p.tables e below (s₁.setTop (mkF m 3 #[.val (.int p1), .val (.int p2), .val (.int p3), .val (.int p4), .val (.int p5), .unset, .unset, .unset, .unset, .unset, .unset, .unset] [(.int (2147483647 : Int32)), (.int p1)])) _
    refine XS.iand X0.here hx rfl (hb hby at_3) rfl ?_
    show Steps p.tables e below (s₁.setTop (mkF m 4 #[.val (.int p1), .val (.int p2), .val (.int p3), .val (.int p4), .val (.int p5), .unset, .unset, .unset, .unset, .unset, .unset, .unset] [(.int (p1 &&& (2147483647 : Int32)))])) _
    refine XS.iconst X0.here hx rfl (hb hby at_4) ?_
    show Steps p.tables e below (s₁.setTop (mkF m 5 #[.val (.int p1), .val (.int p2), .val (.int p3), .val (.int p4), .val (.int p5), .unset, .unset, .unset, .unset, .unset, .unset, .unset] [(.int (5 : Int32)), (.int (p1 &&& (2147483647 : Int32)))])) _
    refine iremM X0 hx rfl (hb hby at_5) rfl (by decide) ?_
    rw [hp5]
    show Steps p.tables e below (s₁.setTop (mkF m 6 #[.val (.int p1), .val (.int p2), .val (.int p3), .val (.int p4), .val (.int p5), .unset, .unset, .unset, .unset, .unset, .unset, .unset] [(.int (2 : Int32))])) _
    refine XS.istore X0.here hx rfl (hb hby at_6) rfl (l' := #[.val (.int p1), .val (.int p2), .val (.int p3), .val (.int p4), .val (.int p5), .val (.int (2 : Int32)), .unset, .unset, .unset, .unset, .unset, .unset]) rfl ?_
    show Steps p.tables e below (s₁.setTop (mkF m 8 #[.val (.int p1), .val (.int p2), .val (.int p3), .val (.int p4), .val (.int p5), .val (.int (2 : Int32)), .unset, .unset, .unset, .unset, .unset, .unset] [])) _
    refine XS.iload X0.here hx rfl (hb hby at_8) rfl ?_
    show Steps p.tables e below (s₁.setTop (mkF m 10 #[.val (.int p1), .val (.int p2), .val (.int p3), .val (.int p4), .val (.int p5), .val (.int (2 : Int32)), .unset, .unset, .unset, .unset, .unset, .unset] [(.int (2 : Int32))])) _
    refine st6 _ ?_
    show Steps p.tables e below (T6.setTop (mkF m 12 #[.val (.int p1), .val (.int p2), .val (.int p3), .val (.int p4), .val (.int p5), .val (.int (2 : Int32)), .unset, .unset, .unset, .unset, .unset, .unset] [(.ref b6)])) _
    refine XS.astore X6.here hx rfl (hb hby at_12) rfl rfl (l' := #[.val (.int p1), .val (.int p2), .val (.int p3), .val (.int p4), .val (.int p5), .val (.int (2 : Int32)), .val (.ref b6), .unset, .unset, .unset, .unset, .unset]) rfl ?_
    show Steps p.tables e below (T6.setTop (mkF m 14 #[.val (.int p1), .val (.int p2), .val (.int p3), .val (.int p4), .val (.int p5), .val (.int (2 : Int32)), .val (.ref b6), .unset, .unset, .unset, .unset, .unset] [])) _
    refine XS.iload X6.here hx rfl (hb hby at_14) rfl ?_
    show Steps p.tables e below (T6.setTop (mkF m 16 #[.val (.int p1), .val (.int p2), .val (.int p3), .val (.int p4), .val (.int p5), .val (.int (2 : Int32)), .val (.ref b6), .unset, .unset, .unset, .unset, .unset] [(.int (2 : Int32))])) _
    refine XS.ifNo X6.here hx rfl (hb hby at_16) rfl ((if0 _ _).trans (tlt (by decide : (0 : Int32) < (2 : Int32))).2.2.2) ?_
    show Steps p.tables e below (T6.setTop (mkF m 19 #[.val (.int p1), .val (.int p2), .val (.int p3), .val (.int p4), .val (.int p5), .val (.int (2 : Int32)), .val (.ref b6), .unset, .unset, .unset, .unset, .unset] [])) _
    refine XS.aload X6.here hx rfl (hb hby at_19) rfl rfl ?_
    show Steps p.tables e below (T6.setTop (mkF m 21 #[.val (.int p1), .val (.int p2), .val (.int p3), .val (.int p4), .val (.int p5), .val (.int (2 : Int32)), .val (.ref b6), .unset, .unset, .unset, .unset, .unset] [(.ref b6)])) _
    refine XS.iconst X6.here hx rfl (hb hby at_21) ?_
    show Steps p.tables e below (T6.setTop (mkF m 22 #[.val (.int p1), .val (.int p2), .val (.int p3), .val (.int p4), .val (.int p5), .val (.int (2 : Int32)), .val (.ref b6), .unset, .unset, .unset, .unset, .unset] [(.int (0 : Int32)), (.ref b6)])) _
    refine XS.iloadN X6.here hx rfl (hb hby at_22) rfl ?_
    show Steps p.tables e below (T6.setTop (mkF m 23 #[.val (.int p1), .val (.int p2), .val (.int p3), .val (.int p4), .val (.int p5), .val (.int (2 : Int32)), .val (.ref b6), .unset, .unset, .unset, .unset, .unset] [(.int p2), (.int (0 : Int32)), (.ref b6)])) _
    refine st7 _ ?_
    show Steps p.tables e below (T7.setTop (mkF m 24 #[.val (.int p1), .val (.int p2), .val (.int p3), .val (.int p4), .val (.int p5), .val (.int (2 : Int32)), .val (.ref b6), .unset, .unset, .unset, .unset, .unset] [])) _
    refine XS.iload X7.here hx rfl (hb hby at_24) rfl ?_
    show Steps p.tables e below (T7.setTop (mkF m 26 #[.val (.int p1), .val (.int p2), .val (.int p3), .val (.int p4), .val (.int p5), .val (.int (2 : Int32)), .val (.ref b6), .unset, .unset, .unset, .unset, .unset] [(.int (2 : Int32))])) _
    refine XS.iconst X7.here hx rfl (hb hby at_26) ?_
    show Steps p.tables e below (T7.setTop (mkF m 27 #[.val (.int p1), .val (.int p2), .val (.int p3), .val (.int p4), .val (.int p5), .val (.int (2 : Int32)), .val (.ref b6), .unset, .unset, .unset, .unset, .unset] [(.int (1 : Int32)), (.int (2 : Int32))])) _
    refine XS.icmpNo X7.here hx rfl (hb hby at_27) rfl (tlt (by decide : (1 : Int32) < (2 : Int32))).2.2.2 ?_
    show Steps p.tables e below (T7.setTop (mkF m 30 #[.val (.int p1), .val (.int p2), .val (.int p3), .val (.int p4), .val (.int p5), .val (.int (2 : Int32)), .val (.ref b6), .unset, .unset, .unset, .unset, .unset] [])) _
    refine XS.aload X7.here hx rfl (hb hby at_30) rfl rfl ?_
    show Steps p.tables e below (T7.setTop (mkF m 32 #[.val (.int p1), .val (.int p2), .val (.int p3), .val (.int p4), .val (.int p5), .val (.int (2 : Int32)), .val (.ref b6), .unset, .unset, .unset, .unset, .unset] [(.ref b6)])) _
    refine XS.iconst X7.here hx rfl (hb hby at_32) ?_
    show Steps p.tables e below (T7.setTop (mkF m 33 #[.val (.int p1), .val (.int p2), .val (.int p3), .val (.int p4), .val (.int p5), .val (.int (2 : Int32)), .val (.ref b6), .unset, .unset, .unset, .unset, .unset] [(.int (1 : Int32)), (.ref b6)])) _
    refine XS.iloadN X7.here hx rfl (hb hby at_33) rfl ?_
    show Steps p.tables e below (T7.setTop (mkF m 34 #[.val (.int p1), .val (.int p2), .val (.int p3), .val (.int p4), .val (.int p5), .val (.int (2 : Int32)), .val (.ref b6), .unset, .unset, .unset, .unset, .unset] [(.int p3), (.int (1 : Int32)), (.ref b6)])) _
    refine st8 _ ?_
    show Steps p.tables e below (T8.setTop (mkF m 35 #[.val (.int p1), .val (.int p2), .val (.int p3), .val (.int p4), .val (.int p5), .val (.int (2 : Int32)), .val (.ref b6), .unset, .unset, .unset, .unset, .unset] [])) _
    refine XS.iload X8.here hx rfl (hb hby at_35) rfl ?_
    show Steps p.tables e below (T8.setTop (mkF m 37 #[.val (.int p1), .val (.int p2), .val (.int p3), .val (.int p4), .val (.int p5), .val (.int (2 : Int32)), .val (.ref b6), .unset, .unset, .unset, .unset, .unset] [(.int (2 : Int32))])) _
    refine XS.iconst X8.here hx rfl (hb hby at_37) ?_
    show Steps p.tables e below (T8.setTop (mkF m 38 #[.val (.int p1), .val (.int p2), .val (.int p3), .val (.int p4), .val (.int p5), .val (.int (2 : Int32)), .val (.ref b6), .unset, .unset, .unset, .unset, .unset] [(.int (2 : Int32)), (.int (2 : Int32))])) _
    refine XS.icmpYes X8.here hx rfl (pc0 := 38) (pc' := 46) rfl (hb hby at_38) rfl (flt (by decide : ¬ ((2 : Int32) < (2 : Int32)))).2.2.2 (by decide) (by decide) ?_
    show Steps p.tables e below (T8.setTop (mkF m 46 #[.val (.int p1), .val (.int p2), .val (.int p3), .val (.int p4), .val (.int p5), .val (.int (2 : Int32)), .val (.ref b6), .unset, .unset, .unset, .unset, .unset] [])) _
    refine XS.iload X8.here hx rfl (hb hby at_46) rfl ?_
    show Steps p.tables e below (T8.setTop (mkF m 48 #[.val (.int p1), .val (.int p2), .val (.int p3), .val (.int p4), .val (.int p5), .val (.int (2 : Int32)), .val (.ref b6), .unset, .unset, .unset, .unset, .unset] [(.int (2 : Int32))])) _
    refine XS.iconst X8.here hx rfl (hb hby at_48) ?_
    show Steps p.tables e below (T8.setTop (mkF m 49 #[.val (.int p1), .val (.int p2), .val (.int p3), .val (.int p4), .val (.int p5), .val (.int (2 : Int32)), .val (.ref b6), .unset, .unset, .unset, .unset, .unset] [(.int (3 : Int32)), (.int (2 : Int32))])) _
    refine XS.icmpYes X8.here hx rfl (pc0 := 49) (pc' := 58) rfl (hb hby at_49) rfl (flt (by decide : ¬ ((3 : Int32) < (2 : Int32)))).2.2.2 (by decide) (by decide) ?_
    show Steps p.tables e below (T8.setTop (mkF m 58 #[.val (.int p1), .val (.int p2), .val (.int p3), .val (.int p4), .val (.int p5), .val (.int (2 : Int32)), .val (.ref b6), .unset, .unset, .unset, .unset, .unset] [])) _
    refine st9 _ ?_
    show Steps p.tables e below (T9.setTop (mkF m 61 #[.val (.int p1), .val (.int p2), .val (.int p3), .val (.int p4), .val (.int p5), .val (.int (2 : Int32)), .val (.ref b6), .unset, .unset, .unset, .unset, .unset] [(.ref b9)])) _
    refine XS.dup X9.here hx rfl (hb hby at_61) rfl rfl ?_
    show Steps p.tables e below (T9.setTop (mkF m 62 #[.val (.int p1), .val (.int p2), .val (.int p3), .val (.int p4), .val (.int p5), .val (.int (2 : Int32)), .val (.ref b6), .unset, .unset, .unset, .unset, .unset] [(.ref b9), (.ref b9)])) _
    refine XS.aload X9.here hx rfl (hb hby at_62) rfl rfl ?_
    show Steps p.tables e below (T9.setTop (mkF m 64 #[.val (.int p1), .val (.int p2), .val (.int p3), .val (.int p4), .val (.int p5), .val (.int (2 : Int32)), .val (.ref b6), .unset, .unset, .unset, .unset, .unset] [(.ref b6), (.ref b9), (.ref b9)])) _
    refine st10.trans ?_
    show Steps p.tables e below (T10.setTop (mkF m 67 #[.val (.int p1), .val (.int p2), .val (.int p3), .val (.int p4), .val (.int p5), .val (.int (2 : Int32)), .val (.ref b6), .unset, .unset, .unset, .unset, .unset] [(.ref b9)])) _
    refine XS.astore X10.here hx rfl (hb hby at_67) rfl rfl (l' := #[.val (.int p1), .val (.int p2), .val (.int p3), .val (.int p4), .val (.int p5), .val (.int (2 : Int32)), .val (.ref b6), .val (.ref b9), .unset, .unset, .unset, .unset]) rfl ?_
    show Steps p.tables e below (T10.setTop (mkF m 69 #[.val (.int p1), .val (.int p2), .val (.int p3), .val (.int p4), .val (.int p5), .val (.int (2 : Int32)), .val (.ref b6), .val (.ref b9), .unset, .unset, .unset, .unset] [])) _
    refine XS.iload X10.here hx rfl (hb hby at_69) rfl ?_
    show Steps p.tables e below (T10.setTop (mkF m 71 #[.val (.int p1), .val (.int p2), .val (.int p3), .val (.int p4), .val (.int p5), .val (.int (2 : Int32)), .val (.ref b6), .val (.ref b9), .unset, .unset, .unset, .unset] [(.int (2 : Int32))])) _
    refine XS.iconst X10.here hx rfl (hb hby at_71) ?_
    show Steps p.tables e below (T10.setTop (mkF m 72 #[.val (.int p1), .val (.int p2), .val (.int p3), .val (.int p4), .val (.int p5), .val (.int (2 : Int32)), .val (.ref b6), .val (.ref b9), .unset, .unset, .unset, .unset] [(.int (0 : Int32)), (.int (2 : Int32))])) _
    refine XS.iloadN X10.here hx rfl (hb hby at_72) rfl ?_
    show Steps p.tables e below (T10.setTop (mkF m 73 #[.val (.int p1), .val (.int p2), .val (.int p3), .val (.int p4), .val (.int p5), .val (.int (2 : Int32)), .val (.ref b6), .val (.ref b9), .unset, .unset, .unset, .unset] [(.int p2), (.int (0 : Int32)), (.int (2 : Int32))])) _
    refine st11 _ ?_
    show Steps p.tables e below (T11.setTop (mkF m 76 #[.val (.int p1), .val (.int p2), .val (.int p3), .val (.int p4), .val (.int p5), .val (.int (2 : Int32)), .val (.ref b6), .val (.ref b9), .unset, .unset, .unset, .unset] [(.int (0 : Int32))])) _
    refine XS.ifNo X11.here hx rfl (hb hby at_76) rfl ((if0 _ _).trans (teq (by decide : (0 : Int32) = (0 : Int32))).2) ?_
    show Steps p.tables e below (T11.setTop (mkF m 79 #[.val (.int p1), .val (.int p2), .val (.int p3), .val (.int p4), .val (.int p5), .val (.int (2 : Int32)), .val (.ref b6), .val (.ref b9), .unset, .unset, .unset, .unset] [])) _
    refine XS.iload X11.here hx rfl (hb hby at_79) rfl ?_
    show Steps p.tables e below (T11.setTop (mkF m 81 #[.val (.int p1), .val (.int p2), .val (.int p3), .val (.int p4), .val (.int p5), .val (.int (2 : Int32)), .val (.ref b6), .val (.ref b9), .unset, .unset, .unset, .unset] [(.int (2 : Int32))])) _
    refine XS.iconst X11.here hx rfl (hb hby at_81) ?_
    show Steps p.tables e below (T11.setTop (mkF m 82 #[.val (.int p1), .val (.int p2), .val (.int p3), .val (.int p4), .val (.int p5), .val (.int (2 : Int32)), .val (.ref b6), .val (.ref b9), .unset, .unset, .unset, .unset] [(.int (1 : Int32)), (.int (2 : Int32))])) _
    refine XS.iloadN X11.here hx rfl (hb hby at_82) rfl ?_
    show Steps p.tables e below (T11.setTop (mkF m 83 #[.val (.int p1), .val (.int p2), .val (.int p3), .val (.int p4), .val (.int p5), .val (.int (2 : Int32)), .val (.ref b6), .val (.ref b9), .unset, .unset, .unset, .unset] [(.int p3), (.int (1 : Int32)), (.int (2 : Int32))])) _
    refine st12 _ ?_
    show Steps p.tables e below (T12.setTop (mkF m 86 #[.val (.int p1), .val (.int p2), .val (.int p3), .val (.int p4), .val (.int p5), .val (.int (2 : Int32)), .val (.ref b6), .val (.ref b9), .unset, .unset, .unset, .unset] [(.int (0 : Int32))])) _
    refine XS.ifNo X12.here hx rfl (hb hby at_86) rfl ((if0 _ _).trans (teq (by decide : (0 : Int32) = (0 : Int32))).2) ?_
    show Steps p.tables e below (T12.setTop (mkF m 89 #[.val (.int p1), .val (.int p2), .val (.int p3), .val (.int p4), .val (.int p5), .val (.int (2 : Int32)), .val (.ref b6), .val (.ref b9), .unset, .unset, .unset, .unset] [])) _
    refine XS.iload X12.here hx rfl (hb hby at_89) rfl ?_
    show Steps p.tables e below (T12.setTop (mkF m 91 #[.val (.int p1), .val (.int p2), .val (.int p3), .val (.int p4), .val (.int p5), .val (.int (2 : Int32)), .val (.ref b6), .val (.ref b9), .unset, .unset, .unset, .unset] [(.int (2 : Int32))])) _
    refine XS.iconst X12.here hx rfl (hb hby at_91) ?_
    show Steps p.tables e below (T12.setTop (mkF m 92 #[.val (.int p1), .val (.int p2), .val (.int p3), .val (.int p4), .val (.int p5), .val (.int (2 : Int32)), .val (.ref b6), .val (.ref b9), .unset, .unset, .unset, .unset] [(.int (2 : Int32)), (.int (2 : Int32))])) _
    refine XS.iloadN X12.here hx rfl (hb hby at_92) rfl ?_
    show Steps p.tables e below (T12.setTop (mkF m 93 #[.val (.int p1), .val (.int p2), .val (.int p3), .val (.int p4), .val (.int p5), .val (.int (2 : Int32)), .val (.ref b6), .val (.ref b9), .unset, .unset, .unset, .unset] [(.int p4), (.int (2 : Int32)), (.int (2 : Int32))])) _
    refine st13 _ ?_
    show Steps p.tables e below (T13.setTop (mkF m 96 #[.val (.int p1), .val (.int p2), .val (.int p3), .val (.int p4), .val (.int p5), .val (.int (2 : Int32)), .val (.ref b6), .val (.ref b9), .unset, .unset, .unset, .unset] [(.int (0 : Int32))])) _
    refine XS.ifNo X13.here hx rfl (hb hby at_96) rfl ((if0 _ _).trans (teq (by decide : (0 : Int32) = (0 : Int32))).2) ?_
    show Steps p.tables e below (T13.setTop (mkF m 99 #[.val (.int p1), .val (.int p2), .val (.int p3), .val (.int p4), .val (.int p5), .val (.int (2 : Int32)), .val (.ref b6), .val (.ref b9), .unset, .unset, .unset, .unset] [])) _
    refine XS.iload X13.here hx rfl (hb hby at_99) rfl ?_
    show Steps p.tables e below (T13.setTop (mkF m 101 #[.val (.int p1), .val (.int p2), .val (.int p3), .val (.int p4), .val (.int p5), .val (.int (2 : Int32)), .val (.ref b6), .val (.ref b9), .unset, .unset, .unset, .unset] [(.int (2 : Int32))])) _
    refine XS.iconst X13.here hx rfl (hb hby at_101) ?_
    show Steps p.tables e below (T13.setTop (mkF m 102 #[.val (.int p1), .val (.int p2), .val (.int p3), .val (.int p4), .val (.int p5), .val (.int (2 : Int32)), .val (.ref b6), .val (.ref b9), .unset, .unset, .unset, .unset] [(.int (3 : Int32)), (.int (2 : Int32))])) _
    refine XS.iload X13.here hx rfl (hb hby at_102) rfl ?_
    show Steps p.tables e below (T13.setTop (mkF m 104 #[.val (.int p1), .val (.int p2), .val (.int p3), .val (.int p4), .val (.int p5), .val (.int (2 : Int32)), .val (.ref b6), .val (.ref b9), .unset, .unset, .unset, .unset] [(.int p5), (.int (3 : Int32)), (.int (2 : Int32))])) _
    refine st14 _ ?_
    show Steps p.tables e below (T14.setTop (mkF m 107 #[.val (.int p1), .val (.int p2), .val (.int p3), .val (.int p4), .val (.int p5), .val (.int (2 : Int32)), .val (.ref b6), .val (.ref b9), .unset, .unset, .unset, .unset] [(.int (0 : Int32))])) _
    refine XS.ifYes X14.here hx rfl (pc0 := 107) (pc' := 114) rfl (hb hby at_107) rfl ((if0 _ _).trans (teq (by decide : (0 : Int32) = (0 : Int32))).1) (by decide) (by decide) ?_
    show Steps p.tables e below (T14.setTop (mkF m 114 #[.val (.int p1), .val (.int p2), .val (.int p3), .val (.int p4), .val (.int p5), .val (.int (2 : Int32)), .val (.ref b6), .val (.ref b9), .unset, .unset, .unset, .unset] [])) _
    refine XS.iconst X14.here hx rfl (hb hby at_114) ?_
    show Steps p.tables e below (T14.setTop (mkF m 115 #[.val (.int p1), .val (.int p2), .val (.int p3), .val (.int p4), .val (.int p5), .val (.int (2 : Int32)), .val (.ref b6), .val (.ref b9), .unset, .unset, .unset, .unset] [(.int (0 : Int32))])) _
    refine XS.istore X14.here hx rfl (hb hby at_115) rfl (l' := #[.val (.int p1), .val (.int p2), .val (.int p3), .val (.int p4), .val (.int p5), .val (.int (2 : Int32)), .val (.ref b6), .val (.ref b9), .val (.int (0 : Int32)), .unset, .unset, .unset]) rfl ?_
    show Steps p.tables e below (T14.setTop (mkF m 117 #[.val (.int p1), .val (.int p2), .val (.int p3), .val (.int p4), .val (.int p5), .val (.int (2 : Int32)), .val (.ref b6), .val (.ref b9), .val (.int (0 : Int32)), .unset, .unset, .unset] [])) _
    refine XS.aload X14.here hx rfl (hb hby at_117) rfl rfl ?_
    show Steps p.tables e below (T14.setTop (mkF m 119 #[.val (.int p1), .val (.int p2), .val (.int p3), .val (.int p4), .val (.int p5), .val (.int (2 : Int32)), .val (.ref b6), .val (.ref b9), .val (.int (0 : Int32)), .unset, .unset, .unset] [(.ref b9)])) _
    refine st15.trans ?_
    show Steps p.tables e below (T15.setTop (mkF m 122 #[.val (.int p1), .val (.int p2), .val (.int p3), .val (.int p4), .val (.int p5), .val (.int (2 : Int32)), .val (.ref b6), .val (.ref b9), .val (.int (0 : Int32)), .unset, .unset, .unset] [(.int (own_anyf (own_at [p2, p3]) 2 0 0))])) _
    refine XS.istore X15.here hx rfl (hb hby at_122) rfl (l' := #[.val (.int p1), .val (.int p2), .val (.int p3), .val (.int p4), .val (.int p5), .val (.int (2 : Int32)), .val (.ref b6), .val (.ref b9), .val (.int (0 : Int32)), .val (.int (own_anyf (own_at [p2, p3]) 2 0 0)), .unset, .unset]) rfl ?_
    show Steps p.tables e below (T15.setTop (mkF m 124 #[.val (.int p1), .val (.int p2), .val (.int p3), .val (.int p4), .val (.int p5), .val (.int (2 : Int32)), .val (.ref b6), .val (.ref b9), .val (.int (0 : Int32)), .val (.int (own_anyf (own_at [p2, p3]) 2 0 0)), .unset, .unset] [])) _
    refine XS.iload X15.here hx rfl (hb hby at_124) rfl ?_
    show Steps p.tables e below (T15.setTop (mkF m 126 #[.val (.int p1), .val (.int p2), .val (.int p3), .val (.int p4), .val (.int p5), .val (.int (2 : Int32)), .val (.ref b6), .val (.ref b9), .val (.int (0 : Int32)), .val (.int (own_anyf (own_at [p2, p3]) 2 0 0)), .unset, .unset] [(.int (0 : Int32))])) _
    refine XS.ifYes X15.here hx rfl (pc0 := 126) (pc' := 133) rfl (hb hby at_126) rfl ((if0 _ _).trans (teq (by decide : (0 : Int32) = (0 : Int32))).1) (by decide) (by decide) ?_
    show Steps p.tables e below (T15.setTop (mkF m 133 #[.val (.int p1), .val (.int p2), .val (.int p3), .val (.int p4), .val (.int p5), .val (.int (2 : Int32)), .val (.ref b6), .val (.ref b9), .val (.int (0 : Int32)), .val (.int (own_anyf (own_at [p2, p3]) 2 0 0)), .unset, .unset] [])) _
    refine XS.iconst X15.here hx rfl (hb hby at_133) ?_
    show Steps p.tables e below (T15.setTop (mkF m 134 #[.val (.int p1), .val (.int p2), .val (.int p3), .val (.int p4), .val (.int p5), .val (.int (2 : Int32)), .val (.ref b6), .val (.ref b9), .val (.int (0 : Int32)), .val (.int (own_anyf (own_at [p2, p3]) 2 0 0)), .unset, .unset] [(.int (1 : Int32))])) _
    refine XS.istore X15.here hx rfl (hb hby at_134) rfl (l' := #[.val (.int p1), .val (.int p2), .val (.int p3), .val (.int p4), .val (.int p5), .val (.int (2 : Int32)), .val (.ref b6), .val (.ref b9), .val (.int (0 : Int32)), .val (.int (own_anyf (own_at [p2, p3]) 2 0 0)), .val (.int (1 : Int32)), .unset]) rfl ?_
    show Steps p.tables e below (T15.setTop (mkF m 136 #[.val (.int p1), .val (.int p2), .val (.int p3), .val (.int p4), .val (.int p5), .val (.int (2 : Int32)), .val (.ref b6), .val (.ref b9), .val (.int (0 : Int32)), .val (.int (own_anyf (own_at [p2, p3]) 2 0 0)), .val (.int (1 : Int32)), .unset] [])) _
    refine XS.iload X15.here hx rfl (hb hby at_136) rfl ?_
    show Steps p.tables e below (T15.setTop (mkF m 138 #[.val (.int p1), .val (.int p2), .val (.int p3), .val (.int p4), .val (.int p5), .val (.int (2 : Int32)), .val (.ref b6), .val (.ref b9), .val (.int (0 : Int32)), .val (.int (own_anyf (own_at [p2, p3]) 2 0 0)), .val (.int (1 : Int32)), .unset] [(.int (2 : Int32))])) _
    refine XS.ifNo X15.here hx rfl (hb hby at_138) rfl ((if0 _ _).trans (tlt (by decide : (0 : Int32) < (2 : Int32))).2.2.2) ?_
    show Steps p.tables e below (T15.setTop (mkF m 141 #[.val (.int p1), .val (.int p2), .val (.int p3), .val (.int p4), .val (.int p5), .val (.int (2 : Int32)), .val (.ref b6), .val (.ref b9), .val (.int (0 : Int32)), .val (.int (own_anyf (own_at [p2, p3]) 2 0 0)), .val (.int (1 : Int32)), .unset] [])) _
    refine XS.aload X15.here hx rfl (hb hby at_141) rfl rfl ?_
    show Steps p.tables e below (T15.setTop (mkF m 143 #[.val (.int p1), .val (.int p2), .val (.int p3), .val (.int p4), .val (.int p5), .val (.int (2 : Int32)), .val (.ref b6), .val (.ref b9), .val (.int (0 : Int32)), .val (.int (own_anyf (own_at [p2, p3]) 2 0 0)), .val (.int (1 : Int32)), .unset] [(.ref b6)])) _
    refine XS.iconst X15.here hx rfl (hb hby at_143) ?_
    show Steps p.tables e below (T15.setTop (mkF m 144 #[.val (.int p1), .val (.int p2), .val (.int p3), .val (.int p4), .val (.int p5), .val (.int (2 : Int32)), .val (.ref b6), .val (.ref b9), .val (.int (0 : Int32)), .val (.int (own_anyf (own_at [p2, p3]) 2 0 0)), .val (.int (1 : Int32)), .unset] [(.int (0 : Int32)), (.ref b6)])) _
    refine XS.iload X15.here hx rfl (hb hby at_144) rfl ?_
    show Steps p.tables e below (T15.setTop (mkF m 146 #[.val (.int p1), .val (.int p2), .val (.int p3), .val (.int p4), .val (.int p5), .val (.int (2 : Int32)), .val (.ref b6), .val (.ref b9), .val (.int (0 : Int32)), .val (.int (own_anyf (own_at [p2, p3]) 2 0 0)), .val (.int (1 : Int32)), .unset] [(.int (1 : Int32)), (.int (0 : Int32)), (.ref b6)])) _
    refine st16 _ ?_
    show Steps p.tables e below (T16.setTop (mkF m 147 #[.val (.int p1), .val (.int p2), .val (.int p3), .val (.int p4), .val (.int p5), .val (.int (2 : Int32)), .val (.ref b6), .val (.ref b9), .val (.int (0 : Int32)), .val (.int (own_anyf (own_at [p2, p3]) 2 0 0)), .val (.int (1 : Int32)), .unset] [])) _
    refine XS.iload X16.here hx rfl (hb hby at_147) rfl ?_
    show Steps p.tables e below (T16.setTop (mkF m 149 #[.val (.int p1), .val (.int p2), .val (.int p3), .val (.int p4), .val (.int p5), .val (.int (2 : Int32)), .val (.ref b6), .val (.ref b9), .val (.int (0 : Int32)), .val (.int (own_anyf (own_at [p2, p3]) 2 0 0)), .val (.int (1 : Int32)), .unset] [(.int (2 : Int32))])) _
    refine XS.iconst X16.here hx rfl (hb hby at_149) ?_
    show Steps p.tables e below (T16.setTop (mkF m 150 #[.val (.int p1), .val (.int p2), .val (.int p3), .val (.int p4), .val (.int p5), .val (.int (2 : Int32)), .val (.ref b6), .val (.ref b9), .val (.int (0 : Int32)), .val (.int (own_anyf (own_at [p2, p3]) 2 0 0)), .val (.int (1 : Int32)), .unset] [(.int (1 : Int32)), (.int (2 : Int32))])) _
    refine XS.icmpNo X16.here hx rfl (hb hby at_150) rfl (tlt (by decide : (1 : Int32) < (2 : Int32))).2.2.2 ?_
    show Steps p.tables e below (T16.setTop (mkF m 153 #[.val (.int p1), .val (.int p2), .val (.int p3), .val (.int p4), .val (.int p5), .val (.int (2 : Int32)), .val (.ref b6), .val (.ref b9), .val (.int (0 : Int32)), .val (.int (own_anyf (own_at [p2, p3]) 2 0 0)), .val (.int (1 : Int32)), .unset] [])) _
    refine XS.aload X16.here hx rfl (hb hby at_153) rfl rfl ?_
    show Steps p.tables e below (T16.setTop (mkF m 155 #[.val (.int p1), .val (.int p2), .val (.int p3), .val (.int p4), .val (.int p5), .val (.int (2 : Int32)), .val (.ref b6), .val (.ref b9), .val (.int (0 : Int32)), .val (.int (own_anyf (own_at [p2, p3]) 2 0 0)), .val (.int (1 : Int32)), .unset] [(.ref b6)])) _
    refine XS.iconst X16.here hx rfl (hb hby at_155) ?_
    show Steps p.tables e below (T16.setTop (mkF m 156 #[.val (.int p1), .val (.int p2), .val (.int p3), .val (.int p4), .val (.int p5), .val (.int (2 : Int32)), .val (.ref b6), .val (.ref b9), .val (.int (0 : Int32)), .val (.int (own_anyf (own_at [p2, p3]) 2 0 0)), .val (.int (1 : Int32)), .unset] [(.int (1 : Int32)), (.ref b6)])) _
    refine XS.iload X16.here hx rfl (hb hby at_156) rfl ?_
    show Steps p.tables e below (T16.setTop (mkF m 158 #[.val (.int p1), .val (.int p2), .val (.int p3), .val (.int p4), .val (.int p5), .val (.int (2 : Int32)), .val (.ref b6), .val (.ref b9), .val (.int (0 : Int32)), .val (.int (own_anyf (own_at [p2, p3]) 2 0 0)), .val (.int (1 : Int32)), .unset] [(.int (1 : Int32)), (.int (1 : Int32)), (.ref b6)])) _
    refine st17 _ ?_
    show Steps p.tables e below (T17.setTop (mkF m 159 #[.val (.int p1), .val (.int p2), .val (.int p3), .val (.int p4), .val (.int p5), .val (.int (2 : Int32)), .val (.ref b6), .val (.ref b9), .val (.int (0 : Int32)), .val (.int (own_anyf (own_at [p2, p3]) 2 0 0)), .val (.int (1 : Int32)), .unset] [])) _
    refine XS.iload X17.here hx rfl (hb hby at_159) rfl ?_
    show Steps p.tables e below (T17.setTop (mkF m 161 #[.val (.int p1), .val (.int p2), .val (.int p3), .val (.int p4), .val (.int p5), .val (.int (2 : Int32)), .val (.ref b6), .val (.ref b9), .val (.int (0 : Int32)), .val (.int (own_anyf (own_at [p2, p3]) 2 0 0)), .val (.int (1 : Int32)), .unset] [(.int (2 : Int32))])) _
    refine XS.iconst X17.here hx rfl (hb hby at_161) ?_
    show Steps p.tables e below (T17.setTop (mkF m 162 #[.val (.int p1), .val (.int p2), .val (.int p3), .val (.int p4), .val (.int p5), .val (.int (2 : Int32)), .val (.ref b6), .val (.ref b9), .val (.int (0 : Int32)), .val (.int (own_anyf (own_at [p2, p3]) 2 0 0)), .val (.int (1 : Int32)), .unset] [(.int (2 : Int32)), (.int (2 : Int32))])) _
    refine XS.icmpYes X17.here hx rfl (pc0 := 162) (pc' := 171) rfl (hb hby at_162) rfl (flt (by decide : ¬ ((2 : Int32) < (2 : Int32)))).2.2.2 (by decide) (by decide) ?_
    show Steps p.tables e below (T17.setTop (mkF m 171 #[.val (.int p1), .val (.int p2), .val (.int p3), .val (.int p4), .val (.int p5), .val (.int (2 : Int32)), .val (.ref b6), .val (.ref b9), .val (.int (0 : Int32)), .val (.int (own_anyf (own_at [p2, p3]) 2 0 0)), .val (.int (1 : Int32)), .unset] [])) _
    refine XS.iload X17.here hx rfl (hb hby at_171) rfl ?_
    show Steps p.tables e below (T17.setTop (mkF m 173 #[.val (.int p1), .val (.int p2), .val (.int p3), .val (.int p4), .val (.int p5), .val (.int (2 : Int32)), .val (.ref b6), .val (.ref b9), .val (.int (0 : Int32)), .val (.int (own_anyf (own_at [p2, p3]) 2 0 0)), .val (.int (1 : Int32)), .unset] [(.int (2 : Int32))])) _
    refine XS.iconst X17.here hx rfl (hb hby at_173) ?_
    show Steps p.tables e below (T17.setTop (mkF m 174 #[.val (.int p1), .val (.int p2), .val (.int p3), .val (.int p4), .val (.int p5), .val (.int (2 : Int32)), .val (.ref b6), .val (.ref b9), .val (.int (0 : Int32)), .val (.int (own_anyf (own_at [p2, p3]) 2 0 0)), .val (.int (1 : Int32)), .unset] [(.int (3 : Int32)), (.int (2 : Int32))])) _
    refine XS.icmpYes X17.here hx rfl (pc0 := 174) (pc' := 183) rfl (hb hby at_174) rfl (flt (by decide : ¬ ((3 : Int32) < (2 : Int32)))).2.2.2 (by decide) (by decide) ?_
    show Steps p.tables e below (T17.setTop (mkF m 183 #[.val (.int p1), .val (.int p2), .val (.int p3), .val (.int p4), .val (.int p5), .val (.int (2 : Int32)), .val (.ref b6), .val (.ref b9), .val (.int (0 : Int32)), .val (.int (own_anyf (own_at [p2, p3]) 2 0 0)), .val (.int (1 : Int32)), .unset] [])) _
    refine XS.aload X17.here hx rfl (hb hby at_183) rfl rfl ?_
    show Steps p.tables e below (T17.setTop (mkF m 185 #[.val (.int p1), .val (.int p2), .val (.int p3), .val (.int p4), .val (.int p5), .val (.int (2 : Int32)), .val (.ref b6), .val (.ref b9), .val (.int (0 : Int32)), .val (.int (own_anyf (own_at [p2, p3]) 2 0 0)), .val (.int (1 : Int32)), .unset] [(.ref b9)])) _
    refine st18.trans ?_
    show Steps p.tables e below (T18.setTop (mkF m 188 #[.val (.int p1), .val (.int p2), .val (.int p3), .val (.int p4), .val (.int p5), .val (.int (2 : Int32)), .val (.ref b6), .val (.ref b9), .val (.int (0 : Int32)), .val (.int (own_anyf (own_at [p2, p3]) 2 0 0)), .val (.int (1 : Int32)), .unset] [(.int (own_anyf (own_at [p2, p3]) 2 0 0))])) _
    refine XS.istore X18.here hx rfl (hb hby at_188) rfl (l' := #[.val (.int p1), .val (.int p2), .val (.int p3), .val (.int p4), .val (.int p5), .val (.int (2 : Int32)), .val (.ref b6), .val (.ref b9), .val (.int (0 : Int32)), .val (.int (own_anyf (own_at [p2, p3]) 2 0 0)), .val (.int (1 : Int32)), .val (.int (own_anyf (own_at [p2, p3]) 2 0 0))]) rfl ?_
    show Steps p.tables e below (T18.setTop (mkF m 190 #[.val (.int p1), .val (.int p2), .val (.int p3), .val (.int p4), .val (.int p5), .val (.int (2 : Int32)), .val (.ref b6), .val (.ref b9), .val (.int (0 : Int32)), .val (.int (own_anyf (own_at [p2, p3]) 2 0 0)), .val (.int (1 : Int32)), .val (.int (own_anyf (own_at [p2, p3]) 2 0 0))] [])) _
    refine XS.iload X18.here hx rfl (hb hby at_190) rfl ?_
    show Steps p.tables e below (T18.setTop (mkF m 192 #[.val (.int p1), .val (.int p2), .val (.int p3), .val (.int p4), .val (.int p5), .val (.int (2 : Int32)), .val (.ref b6), .val (.ref b9), .val (.int (0 : Int32)), .val (.int (own_anyf (own_at [p2, p3]) 2 0 0)), .val (.int (1 : Int32)), .val (.int (own_anyf (own_at [p2, p3]) 2 0 0))] [(.int (own_anyf (own_at [p2, p3]) 2 0 0))])) _
    refine XS.iload X18.here hx rfl (hb hby at_192) rfl ?_
    show Steps p.tables e below (T18.setTop (mkF m 194 #[.val (.int p1), .val (.int p2), .val (.int p3), .val (.int p4), .val (.int p5), .val (.int (2 : Int32)), .val (.ref b6), .val (.ref b9), .val (.int (0 : Int32)), .val (.int (own_anyf (own_at [p2, p3]) 2 0 0)), .val (.int (1 : Int32)), .val (.int (own_anyf (own_at [p2, p3]) 2 0 0))] [(.int (0 : Int32)), (.int (own_anyf (own_at [p2, p3]) 2 0 0))])) _
    refine XS.icmpNo X18.here hx rfl (hb hby at_194) rfl (teq (own_ok : (own_anyf (own_at [p2, p3]) 2 0 0) = (0 : Int32))).2 ?_
    show Steps p.tables e below (T18.setTop (mkF m 197 #[.val (.int p1), .val (.int p2), .val (.int p3), .val (.int p4), .val (.int p5), .val (.int (2 : Int32)), .val (.ref b6), .val (.ref b9), .val (.int (0 : Int32)), .val (.int (own_anyf (own_at [p2, p3]) 2 0 0)), .val (.int (1 : Int32)), .val (.int (own_anyf (own_at [p2, p3]) 2 0 0))] [])) _
    refine XS.iload X18.here hx rfl (hb hby at_197) rfl ?_
    show Steps p.tables e below (T18.setTop (mkF m 199 #[.val (.int p1), .val (.int p2), .val (.int p3), .val (.int p4), .val (.int p5), .val (.int (2 : Int32)), .val (.ref b6), .val (.ref b9), .val (.int (0 : Int32)), .val (.int (own_anyf (own_at [p2, p3]) 2 0 0)), .val (.int (1 : Int32)), .val (.int (own_anyf (own_at [p2, p3]) 2 0 0))] [(.int (own_anyf (own_at [p2, p3]) 2 0 0))])) _
    refine XS.iload X18.here hx rfl (hb hby at_199) rfl ?_
    show Steps p.tables e below (T18.setTop (mkF m 201 #[.val (.int p1), .val (.int p2), .val (.int p3), .val (.int p4), .val (.int p5), .val (.int (2 : Int32)), .val (.ref b6), .val (.ref b9), .val (.int (0 : Int32)), .val (.int (own_anyf (own_at [p2, p3]) 2 0 0)), .val (.int (1 : Int32)), .val (.int (own_anyf (own_at [p2, p3]) 2 0 0))] [(.int (0 : Int32)), (.int (own_anyf (own_at [p2, p3]) 2 0 0))])) _
    refine XS.icmpNo X18.here hx rfl (hb hby at_201) rfl (teq (own_ok : (own_anyf (own_at [p2, p3]) 2 0 0) = (0 : Int32))).2 ?_
    show Steps p.tables e below (T18.setTop (mkF m 204 #[.val (.int p1), .val (.int p2), .val (.int p3), .val (.int p4), .val (.int p5), .val (.int (2 : Int32)), .val (.ref b6), .val (.ref b9), .val (.int (0 : Int32)), .val (.int (own_anyf (own_at [p2, p3]) 2 0 0)), .val (.int (1 : Int32)), .val (.int (own_anyf (own_at [p2, p3]) 2 0 0))] [])) _
    refine XS.iconst X18.here hx rfl (hb hby at_204) ?_
    show Steps p.tables e below (T18.setTop (mkF m 205 #[.val (.int p1), .val (.int p2), .val (.int p3), .val (.int p4), .val (.int p5), .val (.int (2 : Int32)), .val (.ref b6), .val (.ref b9), .val (.int (0 : Int32)), .val (.int (own_anyf (own_at [p2, p3]) 2 0 0)), .val (.int (1 : Int32)), .val (.int (own_anyf (own_at [p2, p3]) 2 0 0))] [(.int (1 : Int32))])) _
    refine XS.goto X18.here hx rfl (pc0 := 205) (pc' := 209) rfl (hb hby at_205) (by decide) (by decide) ?_
    show Steps p.tables e below (T18.setTop (mkF m 209 #[.val (.int p1), .val (.int p2), .val (.int p3), .val (.int p4), .val (.int p5), .val (.int (2 : Int32)), .val (.ref b6), .val (.ref b9), .val (.int (0 : Int32)), .val (.int (own_anyf (own_at [p2, p3]) 2 0 0)), .val (.int (1 : Int32)), .val (.int (own_anyf (own_at [p2, p3]) 2 0 0))] [(.int (1 : Int32))])) _
    exact retN X18 hx (t := .boolean) Bd.returns (by simp) (hb hby at_209) hr
  · show Q0_22 Z p1 p2 p3 p4 p5 h0 n0 _ T18.heap _
    exact ⟨rfl, N18⟩
def Q0_30 (Z : State) (p1 : Int32) (p2 : Int32) (p3 : Int32) (p4 : Int32) (p5 : Int32) (h0 : Heap) (n0 : Nat) (v : Option Value) (h : Heap) (L : List Loc) : Prop := v = some (.int (1 : Int32)) ∧ Fr n0 L
set_option maxRecDepth 65536 in
set_option maxHeartbeats 40000000 in
theorem rm0_30 (l : Launch) (Z : State) (a0 : Array Value) (hw : ∀ d ∈ tables_1, d.before a0 Z = true) (ws : List Jvm.Cond) (p1 : Int32) (p2 : Int32) (p3 : Int32) (p4 : Int32) (p5 : Int32) (h0 : Heap) (n0 : Nat) (Z0 : n0 ≤ h0.size) (hp5 : ((p1 &&& (2147483647 : Int32)) % (5 : Int32)) = (3 : Int32)) (ch0 : p2 = (1 : Int32)) :
    MetFree l x (head1 (Jvm.Cond.code x code maxLocals ret :: ws) room_1) (fun a U => a = #[(.int p1), (.int p2), (.int p3), (.int p4), (.int p5)] ∧ Z.Warmed39 U.vm ∧ U.heap = h0) (fun _ _ _ _ _ => True) (fun _ U o U' => ∃ v L, o = .returned v ∧ Q0_30 Z p1 p2 p3 p4 p5 h0 n0 v U'.heap L ∧ FrameEnd U o U' L room_1.cells room_1.slots) := by
  refine MetFree.of_bodySF (plainFor_of_name pn_0) hisR ?_
  intro p e s m args below meth c s₁ Bd hml0 hP hK
  obtain ⟨rfl, hZ, hh⟩ := hP
  have own_ok : (own_anyf (own_at [p2, p3, p4]) 3 0 0) = (1 : Int32) := by
    simp [own_anyf, own_or, own_at, ch0]
  have hx := Bd.exec
  have hby := Bd.bytes
  have hml : c.maxLocals = 12 := hml0
  have hown : s.vm.findClass "com/example/tendril/tendril/FormatsAnyBinaryPinLaw" = some m.cls := findClass_of_methodNamed Bd.named
  have hnm := (name_of_methodNamed Bd.named Bd.method).1
  have X0 : Stand p l e room_1 s m #[(.int p1), (.int p2), (.int p3), (.int p4), (.int p5)] below meth c s₁ [] 0 0 := Stand.of_body Bd
  have e0 : s₁.heap = h0 := by rw [← hh, Bd.state]; rfl
  have N0 := Fr.nil n0
  have pre0 : ∀ t, Steps p.tables e below (s₁.setTop (mkF m 0 #[.val (.int p1), .val (.int p2), .val (.int p3), .val (.int p4), .val (.int p5), .unset, .unset, .unset, .unset, .unset, .unset, .unset] [])) t → Steps p.tables e below (s₁.setTop (entryFrame m #[(.int p1), (.int p2), (.int p3), (.int p4), (.int p5)] maxLocals)) t := fun t k => castTop (ef_0 m p1 p2 p3 p4 p5) k
  obtain ⟨T6, h6, k6, X6, e6, E6, A6, Ea6, st6⟩ := newPE X0 hx hZ (hw _ (List.mem_of_getElem? (i := 1) rfl)) e0 (g := (mkF m 10 #[.val (.int p1), .val (.int p2), .val (.int p3), .val (.int p4), .val (.int p5), .val (.int (3 : Int32)), .unset, .unset, .unset, .unset, .unset, .unset] [(.int (3 : Int32))])) rfl (hb hby at_10) rfl (by decide) (cap := 3) (by decide) (by decide) (by decide) (by decide) (ad := "[I") rfl
  obtain ⟨b6, g6⟩ : ∃ z, z = h0.size := ⟨_, rfl⟩
  rw [← g6] at A6 Ea6 st6
  have V_b6 : Arv Z h6 b6 k6 .int (3 : Int32) [(.int (0 : Int32)), (.int (0 : Int32)), (.int (0 : Int32))] (.int (0 : Int32)) := (Arv.new A6 (by decide)).pad (pad_rep [] (.int (0 : Int32)) 3)
  have g_b6 : n0 ≤ b6 := Nat.le_trans Z0 (Nat.le_of_eq g6.symm)
  have sz_b6 : h0.size ≤ b6 := (Nat.le_trans (Keep.refl h0 []).1 (Nat.le_of_eq g6.symm))
  have K6 : Keep h0 h6 [] := (Keep.refl h0 []).ext E6
  obtain ⟨cl_b6_23, Ar_b6, q_b6, S_b6, N_b6, H_b6, G_b6⟩ := V_b6
  have hin23 : ¬ ((0 : Int32) < 0 ∨ cl_b6_23.slots.size ≤ ((0 : Int32)).toNatClampNeg) := inb_of S_b6 ⟨by decide, by decide⟩
  obtain ⟨T7, h7, X7, e7, W7, st7⟩ := stI X6 hx hZ e6 Ar_b6 (j := (0 : Int32)) hin23 (g := (mkF m 23 #[.val (.int p1), .val (.int p2), .val (.int p3), .val (.int p4), .val (.int p5), .val (.int (3 : Int32)), .val (.ref b6), .unset, .unset, .unset, .unset, .unset] [(.int p2), (.int (0 : Int32)), (.ref b6)])) rfl rfl (hb hby at_23)
  have V_b6_7 := Arv.set Ar_b6 q_b6 S_b6 N_b6 H_b6 G_b6 rfl W7 0 rfl (Nat.le_of_ble_eq_true rfl)
  have K7 : Keep h0 h7 [] := K6.wr W7 (Or.inr sz_b6)
  have N7 := Fr.snoc X7 N0 g_b6
  obtain ⟨cl_b6_34, Ar_b6, q_b6, S_b6, N_b6, H_b6, G_b6⟩ := V_b6_7
  have hin34 : ¬ ((1 : Int32) < 0 ∨ cl_b6_34.slots.size ≤ ((1 : Int32)).toNatClampNeg) := inb_of S_b6 ⟨by decide, by decide⟩
  obtain ⟨T8, h8, X8, e8, W8, st8⟩ := stI X7 hx hZ e7 Ar_b6 (j := (1 : Int32)) hin34 (g := (mkF m 34 #[.val (.int p1), .val (.int p2), .val (.int p3), .val (.int p4), .val (.int p5), .val (.int (3 : Int32)), .val (.ref b6), .unset, .unset, .unset, .unset, .unset] [(.int p3), (.int (1 : Int32)), (.ref b6)])) rfl rfl (hb hby at_34)
  have V_b6_8 := Arv.set Ar_b6 q_b6 S_b6 N_b6 H_b6 G_b6 rfl W8 1 rfl (Nat.le_of_ble_eq_true rfl)
  have K8 : Keep h0 h8 [] := K7.wr W8 (Or.inr sz_b6)
  have N8 := Fr.snoc X8 N7 g_b6
  obtain ⟨cl_b6_45, Ar_b6, q_b6, S_b6, N_b6, H_b6, G_b6⟩ := V_b6_8
  have hin45 : ¬ ((2 : Int32) < 0 ∨ cl_b6_45.slots.size ≤ ((2 : Int32)).toNatClampNeg) := inb_of S_b6 ⟨by decide, by decide⟩
  obtain ⟨T9, h9, X9, e9, W9, st9⟩ := stI X8 hx hZ e8 Ar_b6 (j := (2 : Int32)) hin45 (g := (mkF m 45 #[.val (.int p1), .val (.int p2), .val (.int p3), .val (.int p4), .val (.int p5), .val (.int (3 : Int32)), .val (.ref b6), .unset, .unset, .unset, .unset, .unset] [(.int p4), (.int (2 : Int32)), (.ref b6)])) rfl rfl (hb hby at_45)
  have V_b6_9 := Arv.set Ar_b6 q_b6 S_b6 N_b6 H_b6 G_b6 rfl W9 2 rfl (Nat.le_of_ble_eq_true rfl)
  have K9 : Keep h0 h9 [] := K8.wr W9 (Or.inr sz_b6)
  have N9 := Fr.snoc X9 N8 g_b6
  obtain ⟨T10, h10, X10, e10, E10, A10, D10, -, st10⟩ := newO X9 hx hZ hown (hw _ (List.mem_of_getElem? (i := 2) rfl)) (hw _ (List.mem_of_getElem? (i := 3) rfl)) (hw _ (List.mem_of_getElem? (i := 4) rfl)) e9 (g := (mkF m 58 #[.val (.int p1), .val (.int p2), .val (.int p3), .val (.int p4), .val (.int p5), .val (.int (3 : Int32)), .val (.ref b6), .unset, .unset, .unset, .unset, .unset] [])) rfl (hb hby at_58) (by decide) (by decide)
  obtain ⟨b10, g10⟩ : ∃ z, z = h9.size := ⟨_, rfl⟩
  rw [← g10] at A10 D10 st10
  have F_codes_b10 : Fld Z h10 b10 "com/example/tendril/tendril/WireColumns$Formats" "codes" "[I" .null := D10 (Or.inr (hw _ (List.mem_of_getElem? (i := 21) rfl))) (ty := (.array .int)) (by decide)
  have E_b10 := A10
  have g_b10 : n0 ≤ b10 := Nat.le_trans (Nat.le_trans (Nat.le_trans (Nat.le_trans (Nat.le_trans Z0 E6.1) (Keep.of_wr W7).1) (Keep.of_wr W8).1) (Keep.of_wr W9).1) (Nat.le_of_eq g10.symm)
  have sz_b10 : h0.size ≤ b10 := (Nat.le_trans K9.1 (Nat.le_of_eq g10.symm))
  have K10 : Keep h0 h10 [] := K9.ext E10
  obtain ⟨_, _, ⟨T11, L11, k11, n11⟩, -, X11, ⟨Lc11, hQ11, l11, y11, z11⟩, st11⟩ := X10.specialBack hx (y := (⟨"com/example/tendril/tendril/WireColumns$Formats", "<init>", "([I)V"⟩ : MethodName)) rfl hown (mvT hZ (hw _ (List.mem_of_getElem? (i := 5) rfl))) (mvT hZ (hw _ (List.mem_of_getElem? (i := 6) rfl))) (mvT hZ (hw _ (List.mem_of_getElem? (i := 7) rfl))) (by decide) (backOf (W := 1) (rm1 l Z a0 hw [] b10 b6 .null _ _ _ _ h10 n0 (Nat.le_trans Z0 K10.1) ((((Ea6.wr W7).wr W8).wr W9).ext E10) (V_b6_9.ext E10) (by decide) E_b10 F_codes_b10 g_b10) hZ (hw _ (List.mem_of_getElem? (i := 7) rfl)) (hw _ (List.mem_of_getElem? (i := 4) rfl)) (by decide) (by decide)) (g := (mkF m 64 #[.val (.int p1), .val (.int p2), .val (.int p3), .val (.int p4), .val (.int p5), .val (.int (3 : Int32)), .val (.ref b6), .unset, .unset, .unset, .unset, .unset] [(.ref b6), (.ref b10), (.ref b10)])) rfl (by rw [hml]; rfl) (Steps.refl _) (a := b10) (argsL := [(.ref b6)]) (rest := [(.ref b10)]) (lenOf pd_0_0 rfl) rfl (by show 2 * 0 + _ ≤ _; exact Nat.le_of_eq rfl) (hb hby at_64) (fun _ _ => ⟨rfl, e10, (Nat.le_of_ble_eq_true rfl), (Nat.le_of_ble_eq_true rfl)⟩)
  dsimp only [Pt.U, Pt.locs, Pt.cells, Pt.slots] at X11 l11 y11 z11 st11 hQ11
  subst l11 y11 z11
  obtain ⟨rfl, N11q, K11c, E11c, bC, szC, FC, VC⟩ := hQ11
  have ne_ao : b6 ≠ b10 := Nat.ne_of_lt (Nat.lt_of_lt_of_le V_b6_9.lt (Nat.le_of_eq g10.symm))
  have ne_Ca : bC ≠ b6 := Ne.symm (Nat.ne_of_lt (Nat.lt_of_lt_of_le (V_b6_9.ext E10).lt szC))
  have K11 : Keep h0 T11.heap [] := K10.trans K11c (allS (Or.inr sz_b10) all0)
  have N11 := Fr.app N9 N11q
  obtain ⟨_, _, ⟨T12, L12, k12, n12⟩, -, X12, ⟨Lc12, hQ12, l12, y12, z12⟩, st12⟩ := Jvm.LawKit.callS X11 hx (y := (⟨"com/example/tendril/tendril/FormatsAnyBinaryPinLaw", "hit", "(III)Z"⟩ : MethodName)) hown (mvT hZ (hw _ (List.mem_of_getElem? (i := 22) rfl))) (mvT hZ (hw _ (List.mem_of_getElem? (i := 23) rfl))) (mvT hZ (hw _ (List.mem_of_getElem? (i := 24) rfl))) (mvT hZ (hw _ (List.mem_of_getElem? (i := 25) rfl))) (by decide) (backOf (W := 0) (rm3ff l Z a0 hw [] (3 : Int32) (0 : Int32) p2 T11.heap n0 (Nat.le_trans Z0 K11.1) (by decide) ch0) hZ (hw _ (List.mem_of_getElem? (i := 25) rfl)) (hw _ (List.mem_of_getElem? (i := 24) rfl)) (by decide) (by decide)) (g := (mkF m 73 #[.val (.int p1), .val (.int p2), .val (.int p3), .val (.int p4), .val (.int p5), .val (.int (3 : Int32)), .val (.ref b6), .val (.ref b10), .unset, .unset, .unset, .unset] [(.int p2), (.int (0 : Int32)), (.int (3 : Int32))])) rfl (by rw [hml]; rfl) (argsL := [(.int (3 : Int32)), (.int (0 : Int32)), (.int p2)]) (rest := []) (lenOf pd_0_3 rfl) rfl (by show 2 * 0 + _ ≤ _; exact Nat.le_of_eq rfl) (hb hby at_73) (fun _ _ => ⟨rfl, rfl, (Nat.le_of_ble_eq_true rfl), (Nat.le_of_ble_eq_true rfl)⟩)
  dsimp only [Pt.U, Pt.locs, Pt.cells, Pt.slots] at X12 l12 y12 z12 st12 hQ12
  subst l12 y12 z12
  obtain ⟨rfl, N12q, e12⟩ := hQ12
  have K12 : Keep h0 T12.heap [] := K11.trans (own_keq e12) all0
  have N12 := Fr.app N11 N12q
  obtain ⟨clC1, ArC1, -, SC1, NC1, HC1, -⟩ := (VC.keep (own_keq e12) nin0)
  have HV1 : ∀ j, j < 3 → clC1.slots[j]? = some (.int (own_at [p2, p3, p4] j)) := by
    intro j hj
    match j, hj with
    | 0, _ => exact HC1 0 (by rw [SC1]; decide)
    | 1, _ => exact HC1 1 (by rw [SC1]; decide)
    | 2, _ => exact HC1 2 (by rw [SC1]; decide)
  obtain ⟨cq13, kq13, q13a, q13b, q13c⟩ := isOf hZ rfl ((E_b10.keep K11c).keep (own_keq e12))
  obtain ⟨_, _, ⟨T13, L13, k13, n13⟩, -, X13, ⟨Lc13, hQ13, l13, y13, z13⟩, st13⟩ := X12.virtualBack hx (y := (⟨"com/example/tendril/tendril/WireColumns$Formats", "anyBinary", "()Z"⟩ : MethodName)) (z := (⟨"com/example/tendril/tendril/WireColumns$Formats", "anyBinary", "()Z"⟩ : MethodName)) hown (mvT hZ (hw _ (List.mem_of_getElem? (i := 26) rfl))) (mvT hZ (hw _ (List.mem_of_getElem? (i := 27) rfl))) (notFace_of_selects (args := #[]) (mvT hZ (hw _ (List.mem_of_getElem? (i := 29) rfl)))) (mvT hZ (hw _ (List.mem_of_getElem? (i := 29) rfl))) (mvT hZ (hw _ (List.mem_of_getElem? (i := 28) rfl))) (by decide) (backOf (W := 0) (rm4 l Z a0 hw [] b10 bC clC1 3 (own_at [p2, p3, p4]) T12.heap n0 (Nat.le_trans Z0 K12.1) (FC.keep (own_keq e12) nin0) ArC1 (SC1.trans (by decide)) HV1 (by decide)) hZ (hw _ (List.mem_of_getElem? (i := 30) rfl)) (hw _ (List.mem_of_getElem? (i := 4) rfl)) (by decide) (by decide)) q13a q13c (g := (mkF m 119 #[.val (.int p1), .val (.int p2), .val (.int p3), .val (.int p4), .val (.int p5), .val (.int (3 : Int32)), .val (.ref b6), .val (.ref b10), .val (.int (1 : Int32)), .unset, .unset, .unset] [(.ref b10)])) rfl (by rw [hml]; rfl) (Steps.refl _) (argsL := []) (rest := []) (lenOf pd_0_4 rfl) rfl (by show 2 * 0 + _ ≤ _; exact Nat.le_of_eq rfl) (hb hby at_119) (fun _ _ => ⟨rfl, rfl, (Nat.le_of_ble_eq_true rfl), (Nat.le_of_ble_eq_true rfl)⟩)
  dsimp only [Pt.U, Pt.locs, Pt.cells, Pt.slots] at X13 l13 y13 z13 st13 hQ13
  subst l13 y13 z13
  obtain ⟨rfl, N13q, e13⟩ := hQ13
  have K13 : Keep h0 T13.heap [] := K12.trans (own_keq e13) all0
  have N13 := Fr.app N12 N13q
  obtain ⟨cl_b6_146, Ar_b6, q_b6, S_b6, N_b6, H_b6, G_b6⟩ := ((((V_b6_9.ext E10).keep K11c (ninS ne_ao nin0)).keep (own_keq e12) nin0).keep (own_keq e13) nin0)
  have hin146 : ¬ ((0 : Int32) < 0 ∨ cl_b6_146.slots.size ≤ ((0 : Int32)).toNatClampNeg) := inb_of S_b6 ⟨by decide, by decide⟩
  obtain ⟨T14, h14, X14, e14, W14, st14⟩ := stI X13 hx hZ rfl Ar_b6 (j := (0 : Int32)) hin146 (g := (mkF m 146 #[.val (.int p1), .val (.int p2), .val (.int p3), .val (.int p4), .val (.int p5), .val (.int (3 : Int32)), .val (.ref b6), .val (.ref b10), .val (.int (1 : Int32)), .val (.int (own_anyf (own_at [p2, p3, p4]) 3 0 0)), .val (.int (0 : Int32)), .unset] [(.int (0 : Int32)), (.int (0 : Int32)), (.ref b6)])) rfl rfl (hb hby at_146)
  have V_b6_14 := Arv.set Ar_b6 q_b6 S_b6 N_b6 H_b6 G_b6 rfl W14 0 rfl (Nat.le_of_ble_eq_true rfl)
  have K14 : Keep h0 h14 [] := K13.wr W14 (Or.inr sz_b6)
  have N14 := Fr.snoc X14 N13 g_b6
  obtain ⟨cl_b6_158, Ar_b6, q_b6, S_b6, N_b6, H_b6, G_b6⟩ := V_b6_14
  have hin158 : ¬ ((1 : Int32) < 0 ∨ cl_b6_158.slots.size ≤ ((1 : Int32)).toNatClampNeg) := inb_of S_b6 ⟨by decide, by decide⟩
  obtain ⟨T15, h15, X15, e15, W15, st15⟩ := stI X14 hx hZ e14 Ar_b6 (j := (1 : Int32)) hin158 (g := (mkF m 158 #[.val (.int p1), .val (.int p2), .val (.int p3), .val (.int p4), .val (.int p5), .val (.int (3 : Int32)), .val (.ref b6), .val (.ref b10), .val (.int (1 : Int32)), .val (.int (own_anyf (own_at [p2, p3, p4]) 3 0 0)), .val (.int (0 : Int32)), .unset] [(.int (0 : Int32)), (.int (1 : Int32)), (.ref b6)])) rfl rfl (hb hby at_158)
  have V_b6_15 := Arv.set Ar_b6 q_b6 S_b6 N_b6 H_b6 G_b6 rfl W15 1 rfl (Nat.le_of_ble_eq_true rfl)
  have K15 : Keep h0 h15 [] := K14.wr W15 (Or.inr sz_b6)
  have N15 := Fr.snoc X15 N14 g_b6
  obtain ⟨cl_b6_170, Ar_b6, q_b6, S_b6, N_b6, H_b6, G_b6⟩ := V_b6_15
  have hin170 : ¬ ((2 : Int32) < 0 ∨ cl_b6_170.slots.size ≤ ((2 : Int32)).toNatClampNeg) := inb_of S_b6 ⟨by decide, by decide⟩
  obtain ⟨T16, h16, X16, e16, W16, st16⟩ := stI X15 hx hZ e15 Ar_b6 (j := (2 : Int32)) hin170 (g := (mkF m 170 #[.val (.int p1), .val (.int p2), .val (.int p3), .val (.int p4), .val (.int p5), .val (.int (3 : Int32)), .val (.ref b6), .val (.ref b10), .val (.int (1 : Int32)), .val (.int (own_anyf (own_at [p2, p3, p4]) 3 0 0)), .val (.int (0 : Int32)), .unset] [(.int (0 : Int32)), (.int (2 : Int32)), (.ref b6)])) rfl rfl (hb hby at_170)
  have V_b6_16 := Arv.set Ar_b6 q_b6 S_b6 N_b6 H_b6 G_b6 rfl W16 2 rfl (Nat.le_of_ble_eq_true rfl)
  have K16 : Keep h0 h16 [] := K15.wr W16 (Or.inr sz_b6)
  have N16 := Fr.snoc X16 N15 g_b6
  obtain ⟨clC2, ArC2, -, SC2, NC2, HC2, -⟩ := (((((VC.keep (own_keq e12) nin0).keep (own_keq e13) nin0).other W14 ne_Ca).other W15 ne_Ca).other W16 ne_Ca)
  have HV2 : ∀ j, j < 3 → clC2.slots[j]? = some (.int (own_at [p2, p3, p4] j)) := by
    intro j hj
    match j, hj with
    | 0, _ => exact HC2 0 (by rw [SC2]; decide)
    | 1, _ => exact HC2 1 (by rw [SC2]; decide)
    | 2, _ => exact HC2 2 (by rw [SC2]; decide)
  obtain ⟨cq17, kq17, q17a, q17b, q17c⟩ := isOf hZ e16 ((((((E_b10.keep K11c).keep (own_keq e12)).keep (own_keq e13)).wr W14).wr W15).wr W16)
  obtain ⟨_, _, ⟨T17, L17, k17, n17⟩, -, X17, ⟨Lc17, hQ17, l17, y17, z17⟩, st17⟩ := X16.virtualBack hx (y := (⟨"com/example/tendril/tendril/WireColumns$Formats", "anyBinary", "()Z"⟩ : MethodName)) (z := (⟨"com/example/tendril/tendril/WireColumns$Formats", "anyBinary", "()Z"⟩ : MethodName)) hown (mvT hZ (hw _ (List.mem_of_getElem? (i := 26) rfl))) (mvT hZ (hw _ (List.mem_of_getElem? (i := 27) rfl))) (notFace_of_selects (args := #[]) (mvT hZ (hw _ (List.mem_of_getElem? (i := 29) rfl)))) (mvT hZ (hw _ (List.mem_of_getElem? (i := 29) rfl))) (mvT hZ (hw _ (List.mem_of_getElem? (i := 28) rfl))) (by decide) (backOf (W := 0) (rm4 l Z a0 hw [] b10 bC clC2 3 (own_at [p2, p3, p4]) h16 n0 (Nat.le_trans Z0 K16.1) (((((FC.keep (own_keq e12) nin0).keep (own_keq e13) nin0).other W14 (Or.inl (Ne.symm ne_ao))).other W15 (Or.inl (Ne.symm ne_ao))).other W16 (Or.inl (Ne.symm ne_ao))) ArC2 (SC2.trans (by decide)) HV2 (by decide)) hZ (hw _ (List.mem_of_getElem? (i := 30) rfl)) (hw _ (List.mem_of_getElem? (i := 4) rfl)) (by decide) (by decide)) q17a q17c (g := (mkF m 185 #[.val (.int p1), .val (.int p2), .val (.int p3), .val (.int p4), .val (.int p5), .val (.int (3 : Int32)), .val (.ref b6), .val (.ref b10), .val (.int (1 : Int32)), .val (.int (own_anyf (own_at [p2, p3, p4]) 3 0 0)), .val (.int (0 : Int32)), .unset] [(.ref b10)])) rfl (by rw [hml]; rfl) (Steps.refl _) (argsL := []) (rest := []) (lenOf pd_0_4 rfl) rfl (by show 2 * 0 + _ ≤ _; exact Nat.le_of_eq rfl) (hb hby at_185) (fun _ _ => ⟨rfl, e16, (Nat.le_of_ble_eq_true rfl), (Nat.le_of_ble_eq_true rfl)⟩)
  dsimp only [Pt.U, Pt.locs, Pt.cells, Pt.slots] at X17 l17 y17 z17 st17 hQ17
  subst l17 y17 z17
  obtain ⟨rfl, N17q, e17⟩ := hQ17
  have K17 : Keep h0 T17.heap [] := K16.trans (own_keq e17) all0
  have N17 := Fr.app N16 N17q
  obtain ⟨fs, hr, hrun, hended, hW, hsame⟩ := X17.leave (v := some (.int (1 : Int32))) (fun h => by rw [Bd.returns] at h; cases h)
  refine ⟨_, _, pre0 _ ?_, hrun, hended, _, _, rfl, ?_, ⟨_, rfl⟩, hW, hsame.mono (by decide) (by decide)⟩
  · show Steps p.tables e below (s₁.setTop (mkF m 0 #[.val (.int p1), .val (.int p2), .val (.int p3), .val (.int p4), .val (.int p5), .unset, .unset, .unset, .unset, .unset, .unset, .unset] [])) _
    refine XS.iloadN X0.here hx rfl (hb hby at_0) rfl ?_
    show Steps p.tables e below (s₁.setTop (mkF m 1 #[.val (.int p1), .val (.int p2), .val (.int p3), .val (.int p4), .val (.int p5), .unset, .unset, .unset, .unset, .unset, .unset, .unset] [(.int p1)])) _
    refine X0.ldcInt hx hown (mvT hZ (hw _ (List.mem_of_getElem? (i := 0) rfl))) (g := (mkF m 1 #[.val (.int p1), .val (.int p2), .val (.int p3), .val (.int p4), .val (.int p5), .unset, .unset, .unset, .unset, .unset, .unset, .unset] [(.int p1)])) rfl (hb hby at_1) _ ?_
    show Steps p.tables e below (s₁.setTop (mkF m 3 #[.val (.int p1), .val (.int p2), .val (.int p3), .val (.int p4), .val (.int p5), .unset, .unset, .unset, .unset, .unset, .unset, .unset] [(.int (2147483647 : Int32)), (.int p1)])) _
    refine XS.iand X0.here hx rfl (hb hby at_3) rfl ?_
    show Steps p.tables e below (s₁.setTop (mkF m 4 #[.val (.int p1), .val (.int p2), .val (.int p3), .val (.int p4), .val (.int p5), .unset, .unset, .unset, .unset, .unset, .unset, .unset] [(.int (p1 &&& (2147483647 : Int32)))])) _
    refine XS.iconst X0.here hx rfl (hb hby at_4) ?_
    show Steps p.tables e below (s₁.setTop (mkF m 5 #[.val (.int p1), .val (.int p2), .val (.int p3), .val (.int p4), .val (.int p5), .unset, .unset, .unset, .unset, .unset, .unset, .unset] [(.int (5 : Int32)), (.int (p1 &&& (2147483647 : Int32)))])) _
    refine iremM X0 hx rfl (hb hby at_5) rfl (by decide) ?_
    rw [hp5]
    show Steps p.tables e below (s₁.setTop (mkF m 6 #[.val (.int p1), .val (.int p2), .val (.int p3), .val (.int p4), .val (.int p5), .unset, .unset, .unset, .unset, .unset, .unset, .unset] [(.int (3 : Int32))])) _
    refine XS.istore X0.here hx rfl (hb hby at_6) rfl (l' := #[.val (.int p1), .val (.int p2), .val (.int p3), .val (.int p4), .val (.int p5), .val (.int (3 : Int32)), .unset, .unset, .unset, .unset, .unset, .unset]) rfl ?_
    show Steps p.tables e below (s₁.setTop (mkF m 8 #[.val (.int p1), .val (.int p2), .val (.int p3), .val (.int p4), .val (.int p5), .val (.int (3 : Int32)), .unset, .unset, .unset, .unset, .unset, .unset] [])) _
    refine XS.iload X0.here hx rfl (hb hby at_8) rfl ?_
    show Steps p.tables e below (s₁.setTop (mkF m 10 #[.val (.int p1), .val (.int p2), .val (.int p3), .val (.int p4), .val (.int p5), .val (.int (3 : Int32)), .unset, .unset, .unset, .unset, .unset, .unset] [(.int (3 : Int32))])) _
    refine st6 _ ?_
    show Steps p.tables e below (T6.setTop (mkF m 12 #[.val (.int p1), .val (.int p2), .val (.int p3), .val (.int p4), .val (.int p5), .val (.int (3 : Int32)), .unset, .unset, .unset, .unset, .unset, .unset] [(.ref b6)])) _
    refine XS.astore X6.here hx rfl (hb hby at_12) rfl rfl (l' := #[.val (.int p1), .val (.int p2), .val (.int p3), .val (.int p4), .val (.int p5), .val (.int (3 : Int32)), .val (.ref b6), .unset, .unset, .unset, .unset, .unset]) rfl ?_
    show Steps p.tables e below (T6.setTop (mkF m 14 #[.val (.int p1), .val (.int p2), .val (.int p3), .val (.int p4), .val (.int p5), .val (.int (3 : Int32)), .val (.ref b6), .unset, .unset, .unset, .unset, .unset] [])) _
    refine XS.iload X6.here hx rfl (hb hby at_14) rfl ?_
    show Steps p.tables e below (T6.setTop (mkF m 16 #[.val (.int p1), .val (.int p2), .val (.int p3), .val (.int p4), .val (.int p5), .val (.int (3 : Int32)), .val (.ref b6), .unset, .unset, .unset, .unset, .unset] [(.int (3 : Int32))])) _
    refine XS.ifNo X6.here hx rfl (hb hby at_16) rfl ((if0 _ _).trans (tlt (by decide : (0 : Int32) < (3 : Int32))).2.2.2) ?_
    show Steps p.tables e below (T6.setTop (mkF m 19 #[.val (.int p1), .val (.int p2), .val (.int p3), .val (.int p4), .val (.int p5), .val (.int (3 : Int32)), .val (.ref b6), .unset, .unset, .unset, .unset, .unset] [])) _
    refine XS.aload X6.here hx rfl (hb hby at_19) rfl rfl ?_
    show Steps p.tables e below (T6.setTop (mkF m 21 #[.val (.int p1), .val (.int p2), .val (.int p3), .val (.int p4), .val (.int p5), .val (.int (3 : Int32)), .val (.ref b6), .unset, .unset, .unset, .unset, .unset] [(.ref b6)])) _
    refine XS.iconst X6.here hx rfl (hb hby at_21) ?_
    show Steps p.tables e below (T6.setTop (mkF m 22 #[.val (.int p1), .val (.int p2), .val (.int p3), .val (.int p4), .val (.int p5), .val (.int (3 : Int32)), .val (.ref b6), .unset, .unset, .unset, .unset, .unset] [(.int (0 : Int32)), (.ref b6)])) _
    refine XS.iloadN X6.here hx rfl (hb hby at_22) rfl ?_
    show Steps p.tables e below (T6.setTop (mkF m 23 #[.val (.int p1), .val (.int p2), .val (.int p3), .val (.int p4), .val (.int p5), .val (.int (3 : Int32)), .val (.ref b6), .unset, .unset, .unset, .unset, .unset] [(.int p2), (.int (0 : Int32)), (.ref b6)])) _
    refine st7 _ ?_
    show Steps p.tables e below (T7.setTop (mkF m 24 #[.val (.int p1), .val (.int p2), .val (.int p3), .val (.int p4), .val (.int p5), .val (.int (3 : Int32)), .val (.ref b6), .unset, .unset, .unset, .unset, .unset] [])) _
    refine XS.iload X7.here hx rfl (hb hby at_24) rfl ?_
    show Steps p.tables e below (T7.setTop (mkF m 26 #[.val (.int p1), .val (.int p2), .val (.int p3), .val (.int p4), .val (.int p5), .val (.int (3 : Int32)), .val (.ref b6), .unset, .unset, .unset, .unset, .unset] [(.int (3 : Int32))])) _
    refine XS.iconst X7.here hx rfl (hb hby at_26) ?_
    show Steps p.tables e below (T7.setTop (mkF m 27 #[.val (.int p1), .val (.int p2), .val (.int p3), .val (.int p4), .val (.int p5), .val (.int (3 : Int32)), .val (.ref b6), .unset, .unset, .unset, .unset, .unset] [(.int (1 : Int32)), (.int (3 : Int32))])) _
    refine XS.icmpNo X7.here hx rfl (hb hby at_27) rfl (tlt (by decide : (1 : Int32) < (3 : Int32))).2.2.2 ?_
    show Steps p.tables e below (T7.setTop (mkF m 30 #[.val (.int p1), .val (.int p2), .val (.int p3), .val (.int p4), .val (.int p5), .val (.int (3 : Int32)), .val (.ref b6), .unset, .unset, .unset, .unset, .unset] [])) _
    refine XS.aload X7.here hx rfl (hb hby at_30) rfl rfl ?_
    show Steps p.tables e below (T7.setTop (mkF m 32 #[.val (.int p1), .val (.int p2), .val (.int p3), .val (.int p4), .val (.int p5), .val (.int (3 : Int32)), .val (.ref b6), .unset, .unset, .unset, .unset, .unset] [(.ref b6)])) _
    refine XS.iconst X7.here hx rfl (hb hby at_32) ?_
    show Steps p.tables e below (T7.setTop (mkF m 33 #[.val (.int p1), .val (.int p2), .val (.int p3), .val (.int p4), .val (.int p5), .val (.int (3 : Int32)), .val (.ref b6), .unset, .unset, .unset, .unset, .unset] [(.int (1 : Int32)), (.ref b6)])) _
    refine XS.iloadN X7.here hx rfl (hb hby at_33) rfl ?_
    show Steps p.tables e below (T7.setTop (mkF m 34 #[.val (.int p1), .val (.int p2), .val (.int p3), .val (.int p4), .val (.int p5), .val (.int (3 : Int32)), .val (.ref b6), .unset, .unset, .unset, .unset, .unset] [(.int p3), (.int (1 : Int32)), (.ref b6)])) _
    refine st8 _ ?_
    show Steps p.tables e below (T8.setTop (mkF m 35 #[.val (.int p1), .val (.int p2), .val (.int p3), .val (.int p4), .val (.int p5), .val (.int (3 : Int32)), .val (.ref b6), .unset, .unset, .unset, .unset, .unset] [])) _
    refine XS.iload X8.here hx rfl (hb hby at_35) rfl ?_
    show Steps p.tables e below (T8.setTop (mkF m 37 #[.val (.int p1), .val (.int p2), .val (.int p3), .val (.int p4), .val (.int p5), .val (.int (3 : Int32)), .val (.ref b6), .unset, .unset, .unset, .unset, .unset] [(.int (3 : Int32))])) _
    refine XS.iconst X8.here hx rfl (hb hby at_37) ?_
    show Steps p.tables e below (T8.setTop (mkF m 38 #[.val (.int p1), .val (.int p2), .val (.int p3), .val (.int p4), .val (.int p5), .val (.int (3 : Int32)), .val (.ref b6), .unset, .unset, .unset, .unset, .unset] [(.int (2 : Int32)), (.int (3 : Int32))])) _
    refine XS.icmpNo X8.here hx rfl (hb hby at_38) rfl (tlt (by decide : (2 : Int32) < (3 : Int32))).2.2.2 ?_
    show Steps p.tables e below (T8.setTop (mkF m 41 #[.val (.int p1), .val (.int p2), .val (.int p3), .val (.int p4), .val (.int p5), .val (.int (3 : Int32)), .val (.ref b6), .unset, .unset, .unset, .unset, .unset] [])) _
    refine XS.aload X8.here hx rfl (hb hby at_41) rfl rfl ?_
    show Steps p.tables e below (T8.setTop (mkF m 43 #[.val (.int p1), .val (.int p2), .val (.int p3), .val (.int p4), .val (.int p5), .val (.int (3 : Int32)), .val (.ref b6), .unset, .unset, .unset, .unset, .unset] [(.ref b6)])) _
    refine XS.iconst X8.here hx rfl (hb hby at_43) ?_
    show Steps p.tables e below (T8.setTop (mkF m 44 #[.val (.int p1), .val (.int p2), .val (.int p3), .val (.int p4), .val (.int p5), .val (.int (3 : Int32)), .val (.ref b6), .unset, .unset, .unset, .unset, .unset] [(.int (2 : Int32)), (.ref b6)])) _
    refine XS.iloadN X8.here hx rfl (hb hby at_44) rfl ?_
    show Steps p.tables e below (T8.setTop (mkF m 45 #[.val (.int p1), .val (.int p2), .val (.int p3), .val (.int p4), .val (.int p5), .val (.int (3 : Int32)), .val (.ref b6), .unset, .unset, .unset, .unset, .unset] [(.int p4), (.int (2 : Int32)), (.ref b6)])) _
    refine st9 _ ?_
    show Steps p.tables e below (T9.setTop (mkF m 46 #[.val (.int p1), .val (.int p2), .val (.int p3), .val (.int p4), .val (.int p5), .val (.int (3 : Int32)), .val (.ref b6), .unset, .unset, .unset, .unset, .unset] [])) _
    refine XS.iload X9.here hx rfl (hb hby at_46) rfl ?_
    show Steps p.tables e below (T9.setTop (mkF m 48 #[.val (.int p1), .val (.int p2), .val (.int p3), .val (.int p4), .val (.int p5), .val (.int (3 : Int32)), .val (.ref b6), .unset, .unset, .unset, .unset, .unset] [(.int (3 : Int32))])) _
    refine XS.iconst X9.here hx rfl (hb hby at_48) ?_
    show Steps p.tables e below (T9.setTop (mkF m 49 #[.val (.int p1), .val (.int p2), .val (.int p3), .val (.int p4), .val (.int p5), .val (.int (3 : Int32)), .val (.ref b6), .unset, .unset, .unset, .unset, .unset] [(.int (3 : Int32)), (.int (3 : Int32))])) _
    refine XS.icmpYes X9.here hx rfl (pc0 := 49) (pc' := 58) rfl (hb hby at_49) rfl (flt (by decide : ¬ ((3 : Int32) < (3 : Int32)))).2.2.2 (by decide) (by decide) ?_
    show Steps p.tables e below (T9.setTop (mkF m 58 #[.val (.int p1), .val (.int p2), .val (.int p3), .val (.int p4), .val (.int p5), .val (.int (3 : Int32)), .val (.ref b6), .unset, .unset, .unset, .unset, .unset] [])) _
    refine st10 _ ?_
    show Steps p.tables e below (T10.setTop (mkF m 61 #[.val (.int p1), .val (.int p2), .val (.int p3), .val (.int p4), .val (.int p5), .val (.int (3 : Int32)), .val (.ref b6), .unset, .unset, .unset, .unset, .unset] [(.ref b10)])) _
    refine XS.dup X10.here hx rfl (hb hby at_61) rfl rfl ?_
    show Steps p.tables e below (T10.setTop (mkF m 62 #[.val (.int p1), .val (.int p2), .val (.int p3), .val (.int p4), .val (.int p5), .val (.int (3 : Int32)), .val (.ref b6), .unset, .unset, .unset, .unset, .unset] [(.ref b10), (.ref b10)])) _
    refine XS.aload X10.here hx rfl (hb hby at_62) rfl rfl ?_
    show Steps p.tables e below (T10.setTop (mkF m 64 #[.val (.int p1), .val (.int p2), .val (.int p3), .val (.int p4), .val (.int p5), .val (.int (3 : Int32)), .val (.ref b6), .unset, .unset, .unset, .unset, .unset] [(.ref b6), (.ref b10), (.ref b10)])) _
    refine st11.trans ?_
    show Steps p.tables e below (T11.setTop (mkF m 67 #[.val (.int p1), .val (.int p2), .val (.int p3), .val (.int p4), .val (.int p5), .val (.int (3 : Int32)), .val (.ref b6), .unset, .unset, .unset, .unset, .unset] [(.ref b10)])) _
    refine XS.astore X11.here hx rfl (hb hby at_67) rfl rfl (l' := #[.val (.int p1), .val (.int p2), .val (.int p3), .val (.int p4), .val (.int p5), .val (.int (3 : Int32)), .val (.ref b6), .val (.ref b10), .unset, .unset, .unset, .unset]) rfl ?_
    show Steps p.tables e below (T11.setTop (mkF m 69 #[.val (.int p1), .val (.int p2), .val (.int p3), .val (.int p4), .val (.int p5), .val (.int (3 : Int32)), .val (.ref b6), .val (.ref b10), .unset, .unset, .unset, .unset] [])) _
    refine XS.iload X11.here hx rfl (hb hby at_69) rfl ?_
    show Steps p.tables e below (T11.setTop (mkF m 71 #[.val (.int p1), .val (.int p2), .val (.int p3), .val (.int p4), .val (.int p5), .val (.int (3 : Int32)), .val (.ref b6), .val (.ref b10), .unset, .unset, .unset, .unset] [(.int (3 : Int32))])) _
    refine XS.iconst X11.here hx rfl (hb hby at_71) ?_
    show Steps p.tables e below (T11.setTop (mkF m 72 #[.val (.int p1), .val (.int p2), .val (.int p3), .val (.int p4), .val (.int p5), .val (.int (3 : Int32)), .val (.ref b6), .val (.ref b10), .unset, .unset, .unset, .unset] [(.int (0 : Int32)), (.int (3 : Int32))])) _
    refine XS.iloadN X11.here hx rfl (hb hby at_72) rfl ?_
    show Steps p.tables e below (T11.setTop (mkF m 73 #[.val (.int p1), .val (.int p2), .val (.int p3), .val (.int p4), .val (.int p5), .val (.int (3 : Int32)), .val (.ref b6), .val (.ref b10), .unset, .unset, .unset, .unset] [(.int p2), (.int (0 : Int32)), (.int (3 : Int32))])) _
    refine st12 _ ?_
    show Steps p.tables e below (T12.setTop (mkF m 76 #[.val (.int p1), .val (.int p2), .val (.int p3), .val (.int p4), .val (.int p5), .val (.int (3 : Int32)), .val (.ref b6), .val (.ref b10), .unset, .unset, .unset, .unset] [(.int (1 : Int32))])) _
    refine XS.ifYes X12.here hx rfl (pc0 := 76) (pc' := 110) rfl (hb hby at_76) rfl ((if0 _ _).trans (feq (by decide : ¬ ((1 : Int32) = (0 : Int32)))).2) (by decide) (by decide) ?_
    show Steps p.tables e below (T12.setTop (mkF m 110 #[.val (.int p1), .val (.int p2), .val (.int p3), .val (.int p4), .val (.int p5), .val (.int (3 : Int32)), .val (.ref b6), .val (.ref b10), .unset, .unset, .unset, .unset] [])) _
    refine XS.iconst X12.here hx rfl (hb hby at_110) ?_
    show Steps p.tables e below (T12.setTop (mkF m 111 #[.val (.int p1), .val (.int p2), .val (.int p3), .val (.int p4), .val (.int p5), .val (.int (3 : Int32)), .val (.ref b6), .val (.ref b10), .unset, .unset, .unset, .unset] [(.int (1 : Int32))])) _
    refine XS.goto X12.here hx rfl (pc0 := 111) (pc' := 115) rfl (hb hby at_111) (by decide) (by decide) ?_
    show Steps p.tables e below (T12.setTop (mkF m 115 #[.val (.int p1), .val (.int p2), .val (.int p3), .val (.int p4), .val (.int p5), .val (.int (3 : Int32)), .val (.ref b6), .val (.ref b10), .unset, .unset, .unset, .unset] [(.int (1 : Int32))])) _
    refine XS.istore X12.here hx rfl (hb hby at_115) rfl (l' := #[.val (.int p1), .val (.int p2), .val (.int p3), .val (.int p4), .val (.int p5), .val (.int (3 : Int32)), .val (.ref b6), .val (.ref b10), .val (.int (1 : Int32)), .unset, .unset, .unset]) rfl ?_
    show Steps p.tables e below (T12.setTop (mkF m 117 #[.val (.int p1), .val (.int p2), .val (.int p3), .val (.int p4), .val (.int p5), .val (.int (3 : Int32)), .val (.ref b6), .val (.ref b10), .val (.int (1 : Int32)), .unset, .unset, .unset] [])) _
    refine XS.aload X12.here hx rfl (hb hby at_117) rfl rfl ?_
    show Steps p.tables e below (T12.setTop (mkF m 119 #[.val (.int p1), .val (.int p2), .val (.int p3), .val (.int p4), .val (.int p5), .val (.int (3 : Int32)), .val (.ref b6), .val (.ref b10), .val (.int (1 : Int32)), .unset, .unset, .unset] [(.ref b10)])) _
    refine st13.trans ?_
    show Steps p.tables e below (T13.setTop (mkF m 122 #[.val (.int p1), .val (.int p2), .val (.int p3), .val (.int p4), .val (.int p5), .val (.int (3 : Int32)), .val (.ref b6), .val (.ref b10), .val (.int (1 : Int32)), .unset, .unset, .unset] [(.int (own_anyf (own_at [p2, p3, p4]) 3 0 0))])) _
    refine XS.istore X13.here hx rfl (hb hby at_122) rfl (l' := #[.val (.int p1), .val (.int p2), .val (.int p3), .val (.int p4), .val (.int p5), .val (.int (3 : Int32)), .val (.ref b6), .val (.ref b10), .val (.int (1 : Int32)), .val (.int (own_anyf (own_at [p2, p3, p4]) 3 0 0)), .unset, .unset]) rfl ?_
    show Steps p.tables e below (T13.setTop (mkF m 124 #[.val (.int p1), .val (.int p2), .val (.int p3), .val (.int p4), .val (.int p5), .val (.int (3 : Int32)), .val (.ref b6), .val (.ref b10), .val (.int (1 : Int32)), .val (.int (own_anyf (own_at [p2, p3, p4]) 3 0 0)), .unset, .unset] [])) _
    refine XS.iload X13.here hx rfl (hb hby at_124) rfl ?_
    show Steps p.tables e below (T13.setTop (mkF m 126 #[.val (.int p1), .val (.int p2), .val (.int p3), .val (.int p4), .val (.int p5), .val (.int (3 : Int32)), .val (.ref b6), .val (.ref b10), .val (.int (1 : Int32)), .val (.int (own_anyf (own_at [p2, p3, p4]) 3 0 0)), .unset, .unset] [(.int (1 : Int32))])) _
    refine XS.ifNo X13.here hx rfl (hb hby at_126) rfl ((if0 _ _).trans (feq (by decide : ¬ ((1 : Int32) = (0 : Int32)))).1) ?_
    show Steps p.tables e below (T13.setTop (mkF m 129 #[.val (.int p1), .val (.int p2), .val (.int p3), .val (.int p4), .val (.int p5), .val (.int (3 : Int32)), .val (.ref b6), .val (.ref b10), .val (.int (1 : Int32)), .val (.int (own_anyf (own_at [p2, p3, p4]) 3 0 0)), .unset, .unset] [])) _
    refine XS.iconst X13.here hx rfl (hb hby at_129) ?_
    show Steps p.tables e below (T13.setTop (mkF m 130 #[.val (.int p1), .val (.int p2), .val (.int p3), .val (.int p4), .val (.int p5), .val (.int (3 : Int32)), .val (.ref b6), .val (.ref b10), .val (.int (1 : Int32)), .val (.int (own_anyf (own_at [p2, p3, p4]) 3 0 0)), .unset, .unset] [(.int (0 : Int32))])) _
    refine XS.goto X13.here hx rfl (pc0 := 130) (pc' := 134) rfl (hb hby at_130) (by decide) (by decide) ?_
    show Steps p.tables e below (T13.setTop (mkF m 134 #[.val (.int p1), .val (.int p2), .val (.int p3), .val (.int p4), .val (.int p5), .val (.int (3 : Int32)), .val (.ref b6), .val (.ref b10), .val (.int (1 : Int32)), .val (.int (own_anyf (own_at [p2, p3, p4]) 3 0 0)), .unset, .unset] [(.int (0 : Int32))])) _
    refine XS.istore X13.here hx rfl (hb hby at_134) rfl (l' := #[.val (.int p1), .val (.int p2), .val (.int p3), .val (.int p4), .val (.int p5), .val (.int (3 : Int32)), .val (.ref b6), .val (.ref b10), .val (.int (1 : Int32)), .val (.int (own_anyf (own_at [p2, p3, p4]) 3 0 0)), .val (.int (0 : Int32)), .unset]) rfl ?_
    show Steps p.tables e below (T13.setTop (mkF m 136 #[.val (.int p1), .val (.int p2), .val (.int p3), .val (.int p4), .val (.int p5), .val (.int (3 : Int32)), .val (.ref b6), .val (.ref b10), .val (.int (1 : Int32)), .val (.int (own_anyf (own_at [p2, p3, p4]) 3 0 0)), .val (.int (0 : Int32)), .unset] [])) _
    refine XS.iload X13.here hx rfl (hb hby at_136) rfl ?_
    show Steps p.tables e below (T13.setTop (mkF m 138 #[.val (.int p1), .val (.int p2), .val (.int p3), .val (.int p4), .val (.int p5), .val (.int (3 : Int32)), .val (.ref b6), .val (.ref b10), .val (.int (1 : Int32)), .val (.int (own_anyf (own_at [p2, p3, p4]) 3 0 0)), .val (.int (0 : Int32)), .unset] [(.int (3 : Int32))])) _
    refine XS.ifNo X13.here hx rfl (hb hby at_138) rfl ((if0 _ _).trans (tlt (by decide : (0 : Int32) < (3 : Int32))).2.2.2) ?_
    show Steps p.tables e below (T13.setTop (mkF m 141 #[.val (.int p1), .val (.int p2), .val (.int p3), .val (.int p4), .val (.int p5), .val (.int (3 : Int32)), .val (.ref b6), .val (.ref b10), .val (.int (1 : Int32)), .val (.int (own_anyf (own_at [p2, p3, p4]) 3 0 0)), .val (.int (0 : Int32)), .unset] [])) _
    refine XS.aload X13.here hx rfl (hb hby at_141) rfl rfl ?_
    show Steps p.tables e below (T13.setTop (mkF m 143 #[.val (.int p1), .val (.int p2), .val (.int p3), .val (.int p4), .val (.int p5), .val (.int (3 : Int32)), .val (.ref b6), .val (.ref b10), .val (.int (1 : Int32)), .val (.int (own_anyf (own_at [p2, p3, p4]) 3 0 0)), .val (.int (0 : Int32)), .unset] [(.ref b6)])) _
    refine XS.iconst X13.here hx rfl (hb hby at_143) ?_
    show Steps p.tables e below (T13.setTop (mkF m 144 #[.val (.int p1), .val (.int p2), .val (.int p3), .val (.int p4), .val (.int p5), .val (.int (3 : Int32)), .val (.ref b6), .val (.ref b10), .val (.int (1 : Int32)), .val (.int (own_anyf (own_at [p2, p3, p4]) 3 0 0)), .val (.int (0 : Int32)), .unset] [(.int (0 : Int32)), (.ref b6)])) _
    refine XS.iload X13.here hx rfl (hb hby at_144) rfl ?_
    show Steps p.tables e below (T13.setTop (mkF m 146 #[.val (.int p1), .val (.int p2), .val (.int p3), .val (.int p4), .val (.int p5), .val (.int (3 : Int32)), .val (.ref b6), .val (.ref b10), .val (.int (1 : Int32)), .val (.int (own_anyf (own_at [p2, p3, p4]) 3 0 0)), .val (.int (0 : Int32)), .unset] [(.int (0 : Int32)), (.int (0 : Int32)), (.ref b6)])) _
    refine st14 _ ?_
    show Steps p.tables e below (T14.setTop (mkF m 147 #[.val (.int p1), .val (.int p2), .val (.int p3), .val (.int p4), .val (.int p5), .val (.int (3 : Int32)), .val (.ref b6), .val (.ref b10), .val (.int (1 : Int32)), .val (.int (own_anyf (own_at [p2, p3, p4]) 3 0 0)), .val (.int (0 : Int32)), .unset] [])) _
    refine XS.iload X14.here hx rfl (hb hby at_147) rfl ?_
    show Steps p.tables e below (T14.setTop (mkF m 149 #[.val (.int p1), .val (.int p2), .val (.int p3), .val (.int p4), .val (.int p5), .val (.int (3 : Int32)), .val (.ref b6), .val (.ref b10), .val (.int (1 : Int32)), .val (.int (own_anyf (own_at [p2, p3, p4]) 3 0 0)), .val (.int (0 : Int32)), .unset] [(.int (3 : Int32))])) _
    refine XS.iconst X14.here hx rfl (hb hby at_149) ?_
    show Steps p.tables e below (T14.setTop (mkF m 150 #[.val (.int p1), .val (.int p2), .val (.int p3), .val (.int p4), .val (.int p5), .val (.int (3 : Int32)), .val (.ref b6), .val (.ref b10), .val (.int (1 : Int32)), .val (.int (own_anyf (own_at [p2, p3, p4]) 3 0 0)), .val (.int (0 : Int32)), .unset] [(.int (1 : Int32)), (.int (3 : Int32))])) _
    refine XS.icmpNo X14.here hx rfl (hb hby at_150) rfl (tlt (by decide : (1 : Int32) < (3 : Int32))).2.2.2 ?_
    show Steps p.tables e below (T14.setTop (mkF m 153 #[.val (.int p1), .val (.int p2), .val (.int p3), .val (.int p4), .val (.int p5), .val (.int (3 : Int32)), .val (.ref b6), .val (.ref b10), .val (.int (1 : Int32)), .val (.int (own_anyf (own_at [p2, p3, p4]) 3 0 0)), .val (.int (0 : Int32)), .unset] [])) _
    refine XS.aload X14.here hx rfl (hb hby at_153) rfl rfl ?_
    show Steps p.tables e below (T14.setTop (mkF m 155 #[.val (.int p1), .val (.int p2), .val (.int p3), .val (.int p4), .val (.int p5), .val (.int (3 : Int32)), .val (.ref b6), .val (.ref b10), .val (.int (1 : Int32)), .val (.int (own_anyf (own_at [p2, p3, p4]) 3 0 0)), .val (.int (0 : Int32)), .unset] [(.ref b6)])) _
    refine XS.iconst X14.here hx rfl (hb hby at_155) ?_
    show Steps p.tables e below (T14.setTop (mkF m 156 #[.val (.int p1), .val (.int p2), .val (.int p3), .val (.int p4), .val (.int p5), .val (.int (3 : Int32)), .val (.ref b6), .val (.ref b10), .val (.int (1 : Int32)), .val (.int (own_anyf (own_at [p2, p3, p4]) 3 0 0)), .val (.int (0 : Int32)), .unset] [(.int (1 : Int32)), (.ref b6)])) _
    refine XS.iload X14.here hx rfl (hb hby at_156) rfl ?_
    show Steps p.tables e below (T14.setTop (mkF m 158 #[.val (.int p1), .val (.int p2), .val (.int p3), .val (.int p4), .val (.int p5), .val (.int (3 : Int32)), .val (.ref b6), .val (.ref b10), .val (.int (1 : Int32)), .val (.int (own_anyf (own_at [p2, p3, p4]) 3 0 0)), .val (.int (0 : Int32)), .unset] [(.int (0 : Int32)), (.int (1 : Int32)), (.ref b6)])) _
    refine st15 _ ?_
    show Steps p.tables e below (T15.setTop (mkF m 159 #[.val (.int p1), .val (.int p2), .val (.int p3), .val (.int p4), .val (.int p5), .val (.int (3 : Int32)), .val (.ref b6), .val (.ref b10), .val (.int (1 : Int32)), .val (.int (own_anyf (own_at [p2, p3, p4]) 3 0 0)), .val (.int (0 : Int32)), .unset] [])) _
    refine XS.iload X15.here hx rfl (hb hby at_159) rfl ?_
    show Steps p.tables e below (T15.setTop (mkF m 161 #[.val (.int p1), .val (.int p2), .val (.int p3), .val (.int p4), .val (.int p5), .val (.int (3 : Int32)), .val (.ref b6), .val (.ref b10), .val (.int (1 : Int32)), .val (.int (own_anyf (own_at [p2, p3, p4]) 3 0 0)), .val (.int (0 : Int32)), .unset] [(.int (3 : Int32))])) _
    refine XS.iconst X15.here hx rfl (hb hby at_161) ?_
    show Steps p.tables e below (T15.setTop (mkF m 162 #[.val (.int p1), .val (.int p2), .val (.int p3), .val (.int p4), .val (.int p5), .val (.int (3 : Int32)), .val (.ref b6), .val (.ref b10), .val (.int (1 : Int32)), .val (.int (own_anyf (own_at [p2, p3, p4]) 3 0 0)), .val (.int (0 : Int32)), .unset] [(.int (2 : Int32)), (.int (3 : Int32))])) _
    refine XS.icmpNo X15.here hx rfl (hb hby at_162) rfl (tlt (by decide : (2 : Int32) < (3 : Int32))).2.2.2 ?_
    show Steps p.tables e below (T15.setTop (mkF m 165 #[.val (.int p1), .val (.int p2), .val (.int p3), .val (.int p4), .val (.int p5), .val (.int (3 : Int32)), .val (.ref b6), .val (.ref b10), .val (.int (1 : Int32)), .val (.int (own_anyf (own_at [p2, p3, p4]) 3 0 0)), .val (.int (0 : Int32)), .unset] [])) _
    refine XS.aload X15.here hx rfl (hb hby at_165) rfl rfl ?_
    show Steps p.tables e below (T15.setTop (mkF m 167 #[.val (.int p1), .val (.int p2), .val (.int p3), .val (.int p4), .val (.int p5), .val (.int (3 : Int32)), .val (.ref b6), .val (.ref b10), .val (.int (1 : Int32)), .val (.int (own_anyf (own_at [p2, p3, p4]) 3 0 0)), .val (.int (0 : Int32)), .unset] [(.ref b6)])) _
    refine XS.iconst X15.here hx rfl (hb hby at_167) ?_
    show Steps p.tables e below (T15.setTop (mkF m 168 #[.val (.int p1), .val (.int p2), .val (.int p3), .val (.int p4), .val (.int p5), .val (.int (3 : Int32)), .val (.ref b6), .val (.ref b10), .val (.int (1 : Int32)), .val (.int (own_anyf (own_at [p2, p3, p4]) 3 0 0)), .val (.int (0 : Int32)), .unset] [(.int (2 : Int32)), (.ref b6)])) _
    refine XS.iload X15.here hx rfl (hb hby at_168) rfl ?_
    show Steps p.tables e below (T15.setTop (mkF m 170 #[.val (.int p1), .val (.int p2), .val (.int p3), .val (.int p4), .val (.int p5), .val (.int (3 : Int32)), .val (.ref b6), .val (.ref b10), .val (.int (1 : Int32)), .val (.int (own_anyf (own_at [p2, p3, p4]) 3 0 0)), .val (.int (0 : Int32)), .unset] [(.int (0 : Int32)), (.int (2 : Int32)), (.ref b6)])) _
    refine st16 _ ?_
    show Steps p.tables e below (T16.setTop (mkF m 171 #[.val (.int p1), .val (.int p2), .val (.int p3), .val (.int p4), .val (.int p5), .val (.int (3 : Int32)), .val (.ref b6), .val (.ref b10), .val (.int (1 : Int32)), .val (.int (own_anyf (own_at [p2, p3, p4]) 3 0 0)), .val (.int (0 : Int32)), .unset] [])) _
    refine XS.iload X16.here hx rfl (hb hby at_171) rfl ?_
    show Steps p.tables e below (T16.setTop (mkF m 173 #[.val (.int p1), .val (.int p2), .val (.int p3), .val (.int p4), .val (.int p5), .val (.int (3 : Int32)), .val (.ref b6), .val (.ref b10), .val (.int (1 : Int32)), .val (.int (own_anyf (own_at [p2, p3, p4]) 3 0 0)), .val (.int (0 : Int32)), .unset] [(.int (3 : Int32))])) _
    refine XS.iconst X16.here hx rfl (hb hby at_173) ?_
    show Steps p.tables e below (T16.setTop (mkF m 174 #[.val (.int p1), .val (.int p2), .val (.int p3), .val (.int p4), .val (.int p5), .val (.int (3 : Int32)), .val (.ref b6), .val (.ref b10), .val (.int (1 : Int32)), .val (.int (own_anyf (own_at [p2, p3, p4]) 3 0 0)), .val (.int (0 : Int32)), .unset] [(.int (3 : Int32)), (.int (3 : Int32))])) _
    refine XS.icmpYes X16.here hx rfl (pc0 := 174) (pc' := 183) rfl (hb hby at_174) rfl (flt (by decide : ¬ ((3 : Int32) < (3 : Int32)))).2.2.2 (by decide) (by decide) ?_
    show Steps p.tables e below (T16.setTop (mkF m 183 #[.val (.int p1), .val (.int p2), .val (.int p3), .val (.int p4), .val (.int p5), .val (.int (3 : Int32)), .val (.ref b6), .val (.ref b10), .val (.int (1 : Int32)), .val (.int (own_anyf (own_at [p2, p3, p4]) 3 0 0)), .val (.int (0 : Int32)), .unset] [])) _
    refine XS.aload X16.here hx rfl (hb hby at_183) rfl rfl ?_
    show Steps p.tables e below (T16.setTop (mkF m 185 #[.val (.int p1), .val (.int p2), .val (.int p3), .val (.int p4), .val (.int p5), .val (.int (3 : Int32)), .val (.ref b6), .val (.ref b10), .val (.int (1 : Int32)), .val (.int (own_anyf (own_at [p2, p3, p4]) 3 0 0)), .val (.int (0 : Int32)), .unset] [(.ref b10)])) _
    refine st17.trans ?_
    show Steps p.tables e below (T17.setTop (mkF m 188 #[.val (.int p1), .val (.int p2), .val (.int p3), .val (.int p4), .val (.int p5), .val (.int (3 : Int32)), .val (.ref b6), .val (.ref b10), .val (.int (1 : Int32)), .val (.int (own_anyf (own_at [p2, p3, p4]) 3 0 0)), .val (.int (0 : Int32)), .unset] [(.int (own_anyf (own_at [p2, p3, p4]) 3 0 0))])) _
    refine XS.istore X17.here hx rfl (hb hby at_188) rfl (l' := #[.val (.int p1), .val (.int p2), .val (.int p3), .val (.int p4), .val (.int p5), .val (.int (3 : Int32)), .val (.ref b6), .val (.ref b10), .val (.int (1 : Int32)), .val (.int (own_anyf (own_at [p2, p3, p4]) 3 0 0)), .val (.int (0 : Int32)), .val (.int (own_anyf (own_at [p2, p3, p4]) 3 0 0))]) rfl ?_
    show Steps p.tables e below (T17.setTop (mkF m 190 #[.val (.int p1), .val (.int p2), .val (.int p3), .val (.int p4), .val (.int p5), .val (.int (3 : Int32)), .val (.ref b6), .val (.ref b10), .val (.int (1 : Int32)), .val (.int (own_anyf (own_at [p2, p3, p4]) 3 0 0)), .val (.int (0 : Int32)), .val (.int (own_anyf (own_at [p2, p3, p4]) 3 0 0))] [])) _
    refine XS.iload X17.here hx rfl (hb hby at_190) rfl ?_
    show Steps p.tables e below (T17.setTop (mkF m 192 #[.val (.int p1), .val (.int p2), .val (.int p3), .val (.int p4), .val (.int p5), .val (.int (3 : Int32)), .val (.ref b6), .val (.ref b10), .val (.int (1 : Int32)), .val (.int (own_anyf (own_at [p2, p3, p4]) 3 0 0)), .val (.int (0 : Int32)), .val (.int (own_anyf (own_at [p2, p3, p4]) 3 0 0))] [(.int (own_anyf (own_at [p2, p3, p4]) 3 0 0))])) _
    refine XS.iload X17.here hx rfl (hb hby at_192) rfl ?_
    show Steps p.tables e below (T17.setTop (mkF m 194 #[.val (.int p1), .val (.int p2), .val (.int p3), .val (.int p4), .val (.int p5), .val (.int (3 : Int32)), .val (.ref b6), .val (.ref b10), .val (.int (1 : Int32)), .val (.int (own_anyf (own_at [p2, p3, p4]) 3 0 0)), .val (.int (0 : Int32)), .val (.int (own_anyf (own_at [p2, p3, p4]) 3 0 0))] [(.int (1 : Int32)), (.int (own_anyf (own_at [p2, p3, p4]) 3 0 0))])) _
    refine XS.icmpNo X17.here hx rfl (hb hby at_194) rfl (teq (own_ok : (own_anyf (own_at [p2, p3, p4]) 3 0 0) = (1 : Int32))).2 ?_
    show Steps p.tables e below (T17.setTop (mkF m 197 #[.val (.int p1), .val (.int p2), .val (.int p3), .val (.int p4), .val (.int p5), .val (.int (3 : Int32)), .val (.ref b6), .val (.ref b10), .val (.int (1 : Int32)), .val (.int (own_anyf (own_at [p2, p3, p4]) 3 0 0)), .val (.int (0 : Int32)), .val (.int (own_anyf (own_at [p2, p3, p4]) 3 0 0))] [])) _
    refine XS.iload X17.here hx rfl (hb hby at_197) rfl ?_
    show Steps p.tables e below (T17.setTop (mkF m 199 #[.val (.int p1), .val (.int p2), .val (.int p3), .val (.int p4), .val (.int p5), .val (.int (3 : Int32)), .val (.ref b6), .val (.ref b10), .val (.int (1 : Int32)), .val (.int (own_anyf (own_at [p2, p3, p4]) 3 0 0)), .val (.int (0 : Int32)), .val (.int (own_anyf (own_at [p2, p3, p4]) 3 0 0))] [(.int (own_anyf (own_at [p2, p3, p4]) 3 0 0))])) _
    refine XS.iload X17.here hx rfl (hb hby at_199) rfl ?_
    show Steps p.tables e below (T17.setTop (mkF m 201 #[.val (.int p1), .val (.int p2), .val (.int p3), .val (.int p4), .val (.int p5), .val (.int (3 : Int32)), .val (.ref b6), .val (.ref b10), .val (.int (1 : Int32)), .val (.int (own_anyf (own_at [p2, p3, p4]) 3 0 0)), .val (.int (0 : Int32)), .val (.int (own_anyf (own_at [p2, p3, p4]) 3 0 0))] [(.int (1 : Int32)), (.int (own_anyf (own_at [p2, p3, p4]) 3 0 0))])) _
    refine XS.icmpNo X17.here hx rfl (hb hby at_201) rfl (teq (own_ok : (own_anyf (own_at [p2, p3, p4]) 3 0 0) = (1 : Int32))).2 ?_
    show Steps p.tables e below (T17.setTop (mkF m 204 #[.val (.int p1), .val (.int p2), .val (.int p3), .val (.int p4), .val (.int p5), .val (.int (3 : Int32)), .val (.ref b6), .val (.ref b10), .val (.int (1 : Int32)), .val (.int (own_anyf (own_at [p2, p3, p4]) 3 0 0)), .val (.int (0 : Int32)), .val (.int (own_anyf (own_at [p2, p3, p4]) 3 0 0))] [])) _
    refine XS.iconst X17.here hx rfl (hb hby at_204) ?_
    show Steps p.tables e below (T17.setTop (mkF m 205 #[.val (.int p1), .val (.int p2), .val (.int p3), .val (.int p4), .val (.int p5), .val (.int (3 : Int32)), .val (.ref b6), .val (.ref b10), .val (.int (1 : Int32)), .val (.int (own_anyf (own_at [p2, p3, p4]) 3 0 0)), .val (.int (0 : Int32)), .val (.int (own_anyf (own_at [p2, p3, p4]) 3 0 0))] [(.int (1 : Int32))])) _
    refine XS.goto X17.here hx rfl (pc0 := 205) (pc' := 209) rfl (hb hby at_205) (by decide) (by decide) ?_
    show Steps p.tables e below (T17.setTop (mkF m 209 #[.val (.int p1), .val (.int p2), .val (.int p3), .val (.int p4), .val (.int p5), .val (.int (3 : Int32)), .val (.ref b6), .val (.ref b10), .val (.int (1 : Int32)), .val (.int (own_anyf (own_at [p2, p3, p4]) 3 0 0)), .val (.int (0 : Int32)), .val (.int (own_anyf (own_at [p2, p3, p4]) 3 0 0))] [(.int (1 : Int32))])) _
    exact retN X17 hx (t := .boolean) Bd.returns (by simp) (hb hby at_209) hr
  · show Q0_30 Z p1 p2 p3 p4 p5 h0 n0 _ T17.heap _
    exact ⟨rfl, N17⟩
def Q0_31 (Z : State) (p1 : Int32) (p2 : Int32) (p3 : Int32) (p4 : Int32) (p5 : Int32) (h0 : Heap) (n0 : Nat) (v : Option Value) (h : Heap) (L : List Loc) : Prop := v = some (.int (1 : Int32)) ∧ Fr n0 L
set_option maxRecDepth 65536 in
set_option maxHeartbeats 40000000 in
theorem rm0_31 (l : Launch) (Z : State) (a0 : Array Value) (hw : ∀ d ∈ tables_1, d.before a0 Z = true) (ws : List Jvm.Cond) (p1 : Int32) (p2 : Int32) (p3 : Int32) (p4 : Int32) (p5 : Int32) (h0 : Heap) (n0 : Nat) (Z0 : n0 ≤ h0.size) (hp5 : ((p1 &&& (2147483647 : Int32)) % (5 : Int32)) = (3 : Int32)) (ch0 : ¬ (p2 = (1 : Int32))) (ch1 : p3 = (1 : Int32)) :
    MetFree l x (head1 (Jvm.Cond.code x code maxLocals ret :: ws) room_1) (fun a U => a = #[(.int p1), (.int p2), (.int p3), (.int p4), (.int p5)] ∧ Z.Warmed39 U.vm ∧ U.heap = h0) (fun _ _ _ _ _ => True) (fun _ U o U' => ∃ v L, o = .returned v ∧ Q0_31 Z p1 p2 p3 p4 p5 h0 n0 v U'.heap L ∧ FrameEnd U o U' L room_1.cells room_1.slots) := by
  refine MetFree.of_bodySF (plainFor_of_name pn_0) hisR ?_
  intro p e s m args below meth c s₁ Bd hml0 hP hK
  obtain ⟨rfl, hZ, hh⟩ := hP
  have own_ok : (own_anyf (own_at [p2, p3, p4]) 3 0 0) = (1 : Int32) := by
    simp [own_anyf, own_or, own_at, ch0, ch1]
  have hx := Bd.exec
  have hby := Bd.bytes
  have hml : c.maxLocals = 12 := hml0
  have hown : s.vm.findClass "com/example/tendril/tendril/FormatsAnyBinaryPinLaw" = some m.cls := findClass_of_methodNamed Bd.named
  have hnm := (name_of_methodNamed Bd.named Bd.method).1
  have X0 : Stand p l e room_1 s m #[(.int p1), (.int p2), (.int p3), (.int p4), (.int p5)] below meth c s₁ [] 0 0 := Stand.of_body Bd
  have e0 : s₁.heap = h0 := by rw [← hh, Bd.state]; rfl
  have N0 := Fr.nil n0
  have pre0 : ∀ t, Steps p.tables e below (s₁.setTop (mkF m 0 #[.val (.int p1), .val (.int p2), .val (.int p3), .val (.int p4), .val (.int p5), .unset, .unset, .unset, .unset, .unset, .unset, .unset] [])) t → Steps p.tables e below (s₁.setTop (entryFrame m #[(.int p1), (.int p2), (.int p3), (.int p4), (.int p5)] maxLocals)) t := fun t k => castTop (ef_0 m p1 p2 p3 p4 p5) k
  obtain ⟨T6, h6, k6, X6, e6, E6, A6, Ea6, st6⟩ := newPE X0 hx hZ (hw _ (List.mem_of_getElem? (i := 1) rfl)) e0 (g := (mkF m 10 #[.val (.int p1), .val (.int p2), .val (.int p3), .val (.int p4), .val (.int p5), .val (.int (3 : Int32)), .unset, .unset, .unset, .unset, .unset, .unset] [(.int (3 : Int32))])) rfl (hb hby at_10) rfl (by decide) (cap := 3) (by decide) (by decide) (by decide) (by decide) (ad := "[I") rfl
  obtain ⟨b6, g6⟩ : ∃ z, z = h0.size := ⟨_, rfl⟩
  rw [← g6] at A6 Ea6 st6
  have V_b6 : Arv Z h6 b6 k6 .int (3 : Int32) [(.int (0 : Int32)), (.int (0 : Int32)), (.int (0 : Int32))] (.int (0 : Int32)) := (Arv.new A6 (by decide)).pad (pad_rep [] (.int (0 : Int32)) 3)
  have g_b6 : n0 ≤ b6 := Nat.le_trans Z0 (Nat.le_of_eq g6.symm)
  have sz_b6 : h0.size ≤ b6 := (Nat.le_trans (Keep.refl h0 []).1 (Nat.le_of_eq g6.symm))
  have K6 : Keep h0 h6 [] := (Keep.refl h0 []).ext E6
  obtain ⟨cl_b6_23, Ar_b6, q_b6, S_b6, N_b6, H_b6, G_b6⟩ := V_b6
  have hin23 : ¬ ((0 : Int32) < 0 ∨ cl_b6_23.slots.size ≤ ((0 : Int32)).toNatClampNeg) := inb_of S_b6 ⟨by decide, by decide⟩
  obtain ⟨T7, h7, X7, e7, W7, st7⟩ := stI X6 hx hZ e6 Ar_b6 (j := (0 : Int32)) hin23 (g := (mkF m 23 #[.val (.int p1), .val (.int p2), .val (.int p3), .val (.int p4), .val (.int p5), .val (.int (3 : Int32)), .val (.ref b6), .unset, .unset, .unset, .unset, .unset] [(.int p2), (.int (0 : Int32)), (.ref b6)])) rfl rfl (hb hby at_23)
  have V_b6_7 := Arv.set Ar_b6 q_b6 S_b6 N_b6 H_b6 G_b6 rfl W7 0 rfl (Nat.le_of_ble_eq_true rfl)
  have K7 : Keep h0 h7 [] := K6.wr W7 (Or.inr sz_b6)
  have N7 := Fr.snoc X7 N0 g_b6
  obtain ⟨cl_b6_34, Ar_b6, q_b6, S_b6, N_b6, H_b6, G_b6⟩ := V_b6_7
  have hin34 : ¬ ((1 : Int32) < 0 ∨ cl_b6_34.slots.size ≤ ((1 : Int32)).toNatClampNeg) := inb_of S_b6 ⟨by decide, by decide⟩
  obtain ⟨T8, h8, X8, e8, W8, st8⟩ := stI X7 hx hZ e7 Ar_b6 (j := (1 : Int32)) hin34 (g := (mkF m 34 #[.val (.int p1), .val (.int p2), .val (.int p3), .val (.int p4), .val (.int p5), .val (.int (3 : Int32)), .val (.ref b6), .unset, .unset, .unset, .unset, .unset] [(.int p3), (.int (1 : Int32)), (.ref b6)])) rfl rfl (hb hby at_34)
  have V_b6_8 := Arv.set Ar_b6 q_b6 S_b6 N_b6 H_b6 G_b6 rfl W8 1 rfl (Nat.le_of_ble_eq_true rfl)
  have K8 : Keep h0 h8 [] := K7.wr W8 (Or.inr sz_b6)
  have N8 := Fr.snoc X8 N7 g_b6
  obtain ⟨cl_b6_45, Ar_b6, q_b6, S_b6, N_b6, H_b6, G_b6⟩ := V_b6_8
  have hin45 : ¬ ((2 : Int32) < 0 ∨ cl_b6_45.slots.size ≤ ((2 : Int32)).toNatClampNeg) := inb_of S_b6 ⟨by decide, by decide⟩
  obtain ⟨T9, h9, X9, e9, W9, st9⟩ := stI X8 hx hZ e8 Ar_b6 (j := (2 : Int32)) hin45 (g := (mkF m 45 #[.val (.int p1), .val (.int p2), .val (.int p3), .val (.int p4), .val (.int p5), .val (.int (3 : Int32)), .val (.ref b6), .unset, .unset, .unset, .unset, .unset] [(.int p4), (.int (2 : Int32)), (.ref b6)])) rfl rfl (hb hby at_45)
  have V_b6_9 := Arv.set Ar_b6 q_b6 S_b6 N_b6 H_b6 G_b6 rfl W9 2 rfl (Nat.le_of_ble_eq_true rfl)
  have K9 : Keep h0 h9 [] := K8.wr W9 (Or.inr sz_b6)
  have N9 := Fr.snoc X9 N8 g_b6
  obtain ⟨T10, h10, X10, e10, E10, A10, D10, -, st10⟩ := newO X9 hx hZ hown (hw _ (List.mem_of_getElem? (i := 2) rfl)) (hw _ (List.mem_of_getElem? (i := 3) rfl)) (hw _ (List.mem_of_getElem? (i := 4) rfl)) e9 (g := (mkF m 58 #[.val (.int p1), .val (.int p2), .val (.int p3), .val (.int p4), .val (.int p5), .val (.int (3 : Int32)), .val (.ref b6), .unset, .unset, .unset, .unset, .unset] [])) rfl (hb hby at_58) (by decide) (by decide)
  obtain ⟨b10, g10⟩ : ∃ z, z = h9.size := ⟨_, rfl⟩
  rw [← g10] at A10 D10 st10
  have F_codes_b10 : Fld Z h10 b10 "com/example/tendril/tendril/WireColumns$Formats" "codes" "[I" .null := D10 (Or.inr (hw _ (List.mem_of_getElem? (i := 21) rfl))) (ty := (.array .int)) (by decide)
  have E_b10 := A10
  have g_b10 : n0 ≤ b10 := Nat.le_trans (Nat.le_trans (Nat.le_trans (Nat.le_trans (Nat.le_trans Z0 E6.1) (Keep.of_wr W7).1) (Keep.of_wr W8).1) (Keep.of_wr W9).1) (Nat.le_of_eq g10.symm)
  have sz_b10 : h0.size ≤ b10 := (Nat.le_trans K9.1 (Nat.le_of_eq g10.symm))
  have K10 : Keep h0 h10 [] := K9.ext E10
  obtain ⟨_, _, ⟨T11, L11, k11, n11⟩, -, X11, ⟨Lc11, hQ11, l11, y11, z11⟩, st11⟩ := X10.specialBack hx (y := (⟨"com/example/tendril/tendril/WireColumns$Formats", "<init>", "([I)V"⟩ : MethodName)) rfl hown (mvT hZ (hw _ (List.mem_of_getElem? (i := 5) rfl))) (mvT hZ (hw _ (List.mem_of_getElem? (i := 6) rfl))) (mvT hZ (hw _ (List.mem_of_getElem? (i := 7) rfl))) (by decide) (backOf (W := 1) (rm1 l Z a0 hw [] b10 b6 .null _ _ _ _ h10 n0 (Nat.le_trans Z0 K10.1) ((((Ea6.wr W7).wr W8).wr W9).ext E10) (V_b6_9.ext E10) (by decide) E_b10 F_codes_b10 g_b10) hZ (hw _ (List.mem_of_getElem? (i := 7) rfl)) (hw _ (List.mem_of_getElem? (i := 4) rfl)) (by decide) (by decide)) (g := (mkF m 64 #[.val (.int p1), .val (.int p2), .val (.int p3), .val (.int p4), .val (.int p5), .val (.int (3 : Int32)), .val (.ref b6), .unset, .unset, .unset, .unset, .unset] [(.ref b6), (.ref b10), (.ref b10)])) rfl (by rw [hml]; rfl) (Steps.refl _) (a := b10) (argsL := [(.ref b6)]) (rest := [(.ref b10)]) (lenOf pd_0_0 rfl) rfl (by show 2 * 0 + _ ≤ _; exact Nat.le_of_eq rfl) (hb hby at_64) (fun _ _ => ⟨rfl, e10, (Nat.le_of_ble_eq_true rfl), (Nat.le_of_ble_eq_true rfl)⟩)
  dsimp only [Pt.U, Pt.locs, Pt.cells, Pt.slots] at X11 l11 y11 z11 st11 hQ11
  subst l11 y11 z11
  obtain ⟨rfl, N11q, K11c, E11c, bC, szC, FC, VC⟩ := hQ11
  have ne_ao : b6 ≠ b10 := Nat.ne_of_lt (Nat.lt_of_lt_of_le V_b6_9.lt (Nat.le_of_eq g10.symm))
  have ne_Ca : bC ≠ b6 := Ne.symm (Nat.ne_of_lt (Nat.lt_of_lt_of_le (V_b6_9.ext E10).lt szC))
  have K11 : Keep h0 T11.heap [] := K10.trans K11c (allS (Or.inr sz_b10) all0)
  have N11 := Fr.app N9 N11q
  obtain ⟨_, _, ⟨T12, L12, k12, n12⟩, -, X12, ⟨Lc12, hQ12, l12, y12, z12⟩, st12⟩ := Jvm.LawKit.callS X11 hx (y := (⟨"com/example/tendril/tendril/FormatsAnyBinaryPinLaw", "hit", "(III)Z"⟩ : MethodName)) hown (mvT hZ (hw _ (List.mem_of_getElem? (i := 22) rfl))) (mvT hZ (hw _ (List.mem_of_getElem? (i := 23) rfl))) (mvT hZ (hw _ (List.mem_of_getElem? (i := 24) rfl))) (mvT hZ (hw _ (List.mem_of_getElem? (i := 25) rfl))) (by decide) (backOf (W := 0) (rm3ft l Z a0 hw [] (3 : Int32) (0 : Int32) p2 T11.heap n0 (Nat.le_trans Z0 K11.1) (by decide) ch0) hZ (hw _ (List.mem_of_getElem? (i := 25) rfl)) (hw _ (List.mem_of_getElem? (i := 24) rfl)) (by decide) (by decide)) (g := (mkF m 73 #[.val (.int p1), .val (.int p2), .val (.int p3), .val (.int p4), .val (.int p5), .val (.int (3 : Int32)), .val (.ref b6), .val (.ref b10), .unset, .unset, .unset, .unset] [(.int p2), (.int (0 : Int32)), (.int (3 : Int32))])) rfl (by rw [hml]; rfl) (argsL := [(.int (3 : Int32)), (.int (0 : Int32)), (.int p2)]) (rest := []) (lenOf pd_0_3 rfl) rfl (by show 2 * 0 + _ ≤ _; exact Nat.le_of_eq rfl) (hb hby at_73) (fun _ _ => ⟨rfl, rfl, (Nat.le_of_ble_eq_true rfl), (Nat.le_of_ble_eq_true rfl)⟩)
  dsimp only [Pt.U, Pt.locs, Pt.cells, Pt.slots] at X12 l12 y12 z12 st12 hQ12
  subst l12 y12 z12
  obtain ⟨rfl, N12q, e12⟩ := hQ12
  have K12 : Keep h0 T12.heap [] := K11.trans (own_keq e12) all0
  have N12 := Fr.app N11 N12q
  obtain ⟨_, _, ⟨T13, L13, k13, n13⟩, -, X13, ⟨Lc13, hQ13, l13, y13, z13⟩, st13⟩ := Jvm.LawKit.callS X12 hx (y := (⟨"com/example/tendril/tendril/FormatsAnyBinaryPinLaw", "hit", "(III)Z"⟩ : MethodName)) hown (mvT hZ (hw _ (List.mem_of_getElem? (i := 22) rfl))) (mvT hZ (hw _ (List.mem_of_getElem? (i := 23) rfl))) (mvT hZ (hw _ (List.mem_of_getElem? (i := 24) rfl))) (mvT hZ (hw _ (List.mem_of_getElem? (i := 25) rfl))) (by decide) (backOf (W := 0) (rm3ff l Z a0 hw [] (3 : Int32) (1 : Int32) p3 T12.heap n0 (Nat.le_trans Z0 K12.1) (by decide) ch1) hZ (hw _ (List.mem_of_getElem? (i := 25) rfl)) (hw _ (List.mem_of_getElem? (i := 24) rfl)) (by decide) (by decide)) (g := (mkF m 83 #[.val (.int p1), .val (.int p2), .val (.int p3), .val (.int p4), .val (.int p5), .val (.int (3 : Int32)), .val (.ref b6), .val (.ref b10), .unset, .unset, .unset, .unset] [(.int p3), (.int (1 : Int32)), (.int (3 : Int32))])) rfl (by rw [hml]; rfl) (argsL := [(.int (3 : Int32)), (.int (1 : Int32)), (.int p3)]) (rest := []) (lenOf pd_0_3 rfl) rfl (by show 2 * 0 + _ ≤ _; exact Nat.le_of_eq rfl) (hb hby at_83) (fun _ _ => ⟨rfl, rfl, (Nat.le_of_ble_eq_true rfl), (Nat.le_of_ble_eq_true rfl)⟩)
  dsimp only [Pt.U, Pt.locs, Pt.cells, Pt.slots] at X13 l13 y13 z13 st13 hQ13
  subst l13 y13 z13
  obtain ⟨rfl, N13q, e13⟩ := hQ13
  have K13 : Keep h0 T13.heap [] := K12.trans (own_keq e13) all0
  have N13 := Fr.app N12 N13q
  obtain ⟨clC1, ArC1, -, SC1, NC1, HC1, -⟩ := ((VC.keep (own_keq e12) nin0).keep (own_keq e13) nin0)
  have HV1 : ∀ j, j < 3 → clC1.slots[j]? = some (.int (own_at [p2, p3, p4] j)) := by
    intro j hj
    match j, hj with
    | 0, _ => exact HC1 0 (by rw [SC1]; decide)
    | 1, _ => exact HC1 1 (by rw [SC1]; decide)
    | 2, _ => exact HC1 2 (by rw [SC1]; decide)
  obtain ⟨cq14, kq14, q14a, q14b, q14c⟩ := isOf hZ rfl (((E_b10.keep K11c).keep (own_keq e12)).keep (own_keq e13))
  obtain ⟨_, _, ⟨T14, L14, k14, n14⟩, -, X14, ⟨Lc14, hQ14, l14, y14, z14⟩, st14⟩ := X13.virtualBack hx (y := (⟨"com/example/tendril/tendril/WireColumns$Formats", "anyBinary", "()Z"⟩ : MethodName)) (z := (⟨"com/example/tendril/tendril/WireColumns$Formats", "anyBinary", "()Z"⟩ : MethodName)) hown (mvT hZ (hw _ (List.mem_of_getElem? (i := 26) rfl))) (mvT hZ (hw _ (List.mem_of_getElem? (i := 27) rfl))) (notFace_of_selects (args := #[]) (mvT hZ (hw _ (List.mem_of_getElem? (i := 29) rfl)))) (mvT hZ (hw _ (List.mem_of_getElem? (i := 29) rfl))) (mvT hZ (hw _ (List.mem_of_getElem? (i := 28) rfl))) (by decide) (backOf (W := 0) (rm4 l Z a0 hw [] b10 bC clC1 3 (own_at [p2, p3, p4]) T13.heap n0 (Nat.le_trans Z0 K13.1) ((FC.keep (own_keq e12) nin0).keep (own_keq e13) nin0) ArC1 (SC1.trans (by decide)) HV1 (by decide)) hZ (hw _ (List.mem_of_getElem? (i := 30) rfl)) (hw _ (List.mem_of_getElem? (i := 4) rfl)) (by decide) (by decide)) q14a q14c (g := (mkF m 119 #[.val (.int p1), .val (.int p2), .val (.int p3), .val (.int p4), .val (.int p5), .val (.int (3 : Int32)), .val (.ref b6), .val (.ref b10), .val (.int (1 : Int32)), .unset, .unset, .unset] [(.ref b10)])) rfl (by rw [hml]; rfl) (Steps.refl _) (argsL := []) (rest := []) (lenOf pd_0_4 rfl) rfl (by show 2 * 0 + _ ≤ _; exact Nat.le_of_eq rfl) (hb hby at_119) (fun _ _ => ⟨rfl, rfl, (Nat.le_of_ble_eq_true rfl), (Nat.le_of_ble_eq_true rfl)⟩)
  dsimp only [Pt.U, Pt.locs, Pt.cells, Pt.slots] at X14 l14 y14 z14 st14 hQ14
  subst l14 y14 z14
  obtain ⟨rfl, N14q, e14⟩ := hQ14
  have K14 : Keep h0 T14.heap [] := K13.trans (own_keq e14) all0
  have N14 := Fr.app N13 N14q
  obtain ⟨cl_b6_146, Ar_b6, q_b6, S_b6, N_b6, H_b6, G_b6⟩ := (((((V_b6_9.ext E10).keep K11c (ninS ne_ao nin0)).keep (own_keq e12) nin0).keep (own_keq e13) nin0).keep (own_keq e14) nin0)
  have hin146 : ¬ ((0 : Int32) < 0 ∨ cl_b6_146.slots.size ≤ ((0 : Int32)).toNatClampNeg) := inb_of S_b6 ⟨by decide, by decide⟩
  obtain ⟨T15, h15, X15, e15, W15, st15⟩ := stI X14 hx hZ rfl Ar_b6 (j := (0 : Int32)) hin146 (g := (mkF m 146 #[.val (.int p1), .val (.int p2), .val (.int p3), .val (.int p4), .val (.int p5), .val (.int (3 : Int32)), .val (.ref b6), .val (.ref b10), .val (.int (1 : Int32)), .val (.int (own_anyf (own_at [p2, p3, p4]) 3 0 0)), .val (.int (0 : Int32)), .unset] [(.int (0 : Int32)), (.int (0 : Int32)), (.ref b6)])) rfl rfl (hb hby at_146)
  have V_b6_15 := Arv.set Ar_b6 q_b6 S_b6 N_b6 H_b6 G_b6 rfl W15 0 rfl (Nat.le_of_ble_eq_true rfl)
  have K15 : Keep h0 h15 [] := K14.wr W15 (Or.inr sz_b6)
  have N15 := Fr.snoc X15 N14 g_b6
  obtain ⟨cl_b6_158, Ar_b6, q_b6, S_b6, N_b6, H_b6, G_b6⟩ := V_b6_15
  have hin158 : ¬ ((1 : Int32) < 0 ∨ cl_b6_158.slots.size ≤ ((1 : Int32)).toNatClampNeg) := inb_of S_b6 ⟨by decide, by decide⟩
  obtain ⟨T16, h16, X16, e16, W16, st16⟩ := stI X15 hx hZ e15 Ar_b6 (j := (1 : Int32)) hin158 (g := (mkF m 158 #[.val (.int p1), .val (.int p2), .val (.int p3), .val (.int p4), .val (.int p5), .val (.int (3 : Int32)), .val (.ref b6), .val (.ref b10), .val (.int (1 : Int32)), .val (.int (own_anyf (own_at [p2, p3, p4]) 3 0 0)), .val (.int (0 : Int32)), .unset] [(.int (0 : Int32)), (.int (1 : Int32)), (.ref b6)])) rfl rfl (hb hby at_158)
  have V_b6_16 := Arv.set Ar_b6 q_b6 S_b6 N_b6 H_b6 G_b6 rfl W16 1 rfl (Nat.le_of_ble_eq_true rfl)
  have K16 : Keep h0 h16 [] := K15.wr W16 (Or.inr sz_b6)
  have N16 := Fr.snoc X16 N15 g_b6
  obtain ⟨cl_b6_170, Ar_b6, q_b6, S_b6, N_b6, H_b6, G_b6⟩ := V_b6_16
  have hin170 : ¬ ((2 : Int32) < 0 ∨ cl_b6_170.slots.size ≤ ((2 : Int32)).toNatClampNeg) := inb_of S_b6 ⟨by decide, by decide⟩
  obtain ⟨T17, h17, X17, e17, W17, st17⟩ := stI X16 hx hZ e16 Ar_b6 (j := (2 : Int32)) hin170 (g := (mkF m 170 #[.val (.int p1), .val (.int p2), .val (.int p3), .val (.int p4), .val (.int p5), .val (.int (3 : Int32)), .val (.ref b6), .val (.ref b10), .val (.int (1 : Int32)), .val (.int (own_anyf (own_at [p2, p3, p4]) 3 0 0)), .val (.int (0 : Int32)), .unset] [(.int (0 : Int32)), (.int (2 : Int32)), (.ref b6)])) rfl rfl (hb hby at_170)
  have V_b6_17 := Arv.set Ar_b6 q_b6 S_b6 N_b6 H_b6 G_b6 rfl W17 2 rfl (Nat.le_of_ble_eq_true rfl)
  have K17 : Keep h0 h17 [] := K16.wr W17 (Or.inr sz_b6)
  have N17 := Fr.snoc X17 N16 g_b6
  obtain ⟨clC2, ArC2, -, SC2, NC2, HC2, -⟩ := ((((((VC.keep (own_keq e12) nin0).keep (own_keq e13) nin0).keep (own_keq e14) nin0).other W15 ne_Ca).other W16 ne_Ca).other W17 ne_Ca)
  have HV2 : ∀ j, j < 3 → clC2.slots[j]? = some (.int (own_at [p2, p3, p4] j)) := by
    intro j hj
    match j, hj with
    | 0, _ => exact HC2 0 (by rw [SC2]; decide)
    | 1, _ => exact HC2 1 (by rw [SC2]; decide)
    | 2, _ => exact HC2 2 (by rw [SC2]; decide)
  obtain ⟨cq18, kq18, q18a, q18b, q18c⟩ := isOf hZ e17 (((((((E_b10.keep K11c).keep (own_keq e12)).keep (own_keq e13)).keep (own_keq e14)).wr W15).wr W16).wr W17)
  obtain ⟨_, _, ⟨T18, L18, k18, n18⟩, -, X18, ⟨Lc18, hQ18, l18, y18, z18⟩, st18⟩ := X17.virtualBack hx (y := (⟨"com/example/tendril/tendril/WireColumns$Formats", "anyBinary", "()Z"⟩ : MethodName)) (z := (⟨"com/example/tendril/tendril/WireColumns$Formats", "anyBinary", "()Z"⟩ : MethodName)) hown (mvT hZ (hw _ (List.mem_of_getElem? (i := 26) rfl))) (mvT hZ (hw _ (List.mem_of_getElem? (i := 27) rfl))) (notFace_of_selects (args := #[]) (mvT hZ (hw _ (List.mem_of_getElem? (i := 29) rfl)))) (mvT hZ (hw _ (List.mem_of_getElem? (i := 29) rfl))) (mvT hZ (hw _ (List.mem_of_getElem? (i := 28) rfl))) (by decide) (backOf (W := 0) (rm4 l Z a0 hw [] b10 bC clC2 3 (own_at [p2, p3, p4]) h17 n0 (Nat.le_trans Z0 K17.1) ((((((FC.keep (own_keq e12) nin0).keep (own_keq e13) nin0).keep (own_keq e14) nin0).other W15 (Or.inl (Ne.symm ne_ao))).other W16 (Or.inl (Ne.symm ne_ao))).other W17 (Or.inl (Ne.symm ne_ao))) ArC2 (SC2.trans (by decide)) HV2 (by decide)) hZ (hw _ (List.mem_of_getElem? (i := 30) rfl)) (hw _ (List.mem_of_getElem? (i := 4) rfl)) (by decide) (by decide)) q18a q18c (g := (mkF m 185 #[.val (.int p1), .val (.int p2), .val (.int p3), .val (.int p4), .val (.int p5), .val (.int (3 : Int32)), .val (.ref b6), .val (.ref b10), .val (.int (1 : Int32)), .val (.int (own_anyf (own_at [p2, p3, p4]) 3 0 0)), .val (.int (0 : Int32)), .unset] [(.ref b10)])) rfl (by rw [hml]; rfl) (Steps.refl _) (argsL := []) (rest := []) (lenOf pd_0_4 rfl) rfl (by show 2 * 0 + _ ≤ _; exact Nat.le_of_eq rfl) (hb hby at_185) (fun _ _ => ⟨rfl, e17, (Nat.le_of_ble_eq_true rfl), (Nat.le_of_ble_eq_true rfl)⟩)
  dsimp only [Pt.U, Pt.locs, Pt.cells, Pt.slots] at X18 l18 y18 z18 st18 hQ18
  subst l18 y18 z18
  obtain ⟨rfl, N18q, e18⟩ := hQ18
  have K18 : Keep h0 T18.heap [] := K17.trans (own_keq e18) all0
  have N18 := Fr.app N17 N18q
  obtain ⟨fs, hr, hrun, hended, hW, hsame⟩ := X18.leave (v := some (.int (1 : Int32))) (fun h => by rw [Bd.returns] at h; cases h)
  refine ⟨_, _, pre0 _ ?_, hrun, hended, _, _, rfl, ?_, ⟨_, rfl⟩, hW, hsame.mono (by decide) (by decide)⟩
  · show Steps p.tables e below (s₁.setTop (mkF m 0 #[.val (.int p1), .val (.int p2), .val (.int p3), .val (.int p4), .val (.int p5), .unset, .unset, .unset, .unset, .unset, .unset, .unset] [])) _
    refine XS.iloadN X0.here hx rfl (hb hby at_0) rfl ?_
    show Steps p.tables e below (s₁.setTop (mkF m 1 #[.val (.int p1), .val (.int p2), .val (.int p3), .val (.int p4), .val (.int p5), .unset, .unset, .unset, .unset, .unset, .unset, .unset] [(.int p1)])) _
    refine X0.ldcInt hx hown (mvT hZ (hw _ (List.mem_of_getElem? (i := 0) rfl))) (g := (mkF m 1 #[.val (.int p1), .val (.int p2), .val (.int p3), .val (.int p4), .val (.int p5), .unset, .unset, .unset, .unset, .unset, .unset, .unset] [(.int p1)])) rfl (hb hby at_1) _ ?_
    show Steps p.tables e below (s₁.setTop (mkF m 3 #[.val (.int p1), .val (.int p2), .val (.int p3), .val (.int p4), .val (.int p5), .unset, .unset, .unset, .unset, .unset, .unset, .unset] [(.int (2147483647 : Int32)), (.int p1)])) _
    refine XS.iand X0.here hx rfl (hb hby at_3) rfl ?_
    show Steps p.tables e below (s₁.setTop (mkF m 4 #[.val (.int p1), .val (.int p2), .val (.int p3), .val (.int p4), .val (.int p5), .unset, .unset, .unset, .unset, .unset, .unset, .unset] [(.int (p1 &&& (2147483647 : Int32)))])) _
    refine XS.iconst X0.here hx rfl (hb hby at_4) ?_
    show Steps p.tables e below (s₁.setTop (mkF m 5 #[.val (.int p1), .val (.int p2), .val (.int p3), .val (.int p4), .val (.int p5), .unset, .unset, .unset, .unset, .unset, .unset, .unset] [(.int (5 : Int32)), (.int (p1 &&& (2147483647 : Int32)))])) _
    refine iremM X0 hx rfl (hb hby at_5) rfl (by decide) ?_
    rw [hp5]
    show Steps p.tables e below (s₁.setTop (mkF m 6 #[.val (.int p1), .val (.int p2), .val (.int p3), .val (.int p4), .val (.int p5), .unset, .unset, .unset, .unset, .unset, .unset, .unset] [(.int (3 : Int32))])) _
    refine XS.istore X0.here hx rfl (hb hby at_6) rfl (l' := #[.val (.int p1), .val (.int p2), .val (.int p3), .val (.int p4), .val (.int p5), .val (.int (3 : Int32)), .unset, .unset, .unset, .unset, .unset, .unset]) rfl ?_
    show Steps p.tables e below (s₁.setTop (mkF m 8 #[.val (.int p1), .val (.int p2), .val (.int p3), .val (.int p4), .val (.int p5), .val (.int (3 : Int32)), .unset, .unset, .unset, .unset, .unset, .unset] [])) _
    refine XS.iload X0.here hx rfl (hb hby at_8) rfl ?_
    show Steps p.tables e below (s₁.setTop (mkF m 10 #[.val (.int p1), .val (.int p2), .val (.int p3), .val (.int p4), .val (.int p5), .val (.int (3 : Int32)), .unset, .unset, .unset, .unset, .unset, .unset] [(.int (3 : Int32))])) _
    refine st6 _ ?_
    show Steps p.tables e below (T6.setTop (mkF m 12 #[.val (.int p1), .val (.int p2), .val (.int p3), .val (.int p4), .val (.int p5), .val (.int (3 : Int32)), .unset, .unset, .unset, .unset, .unset, .unset] [(.ref b6)])) _
    refine XS.astore X6.here hx rfl (hb hby at_12) rfl rfl (l' := #[.val (.int p1), .val (.int p2), .val (.int p3), .val (.int p4), .val (.int p5), .val (.int (3 : Int32)), .val (.ref b6), .unset, .unset, .unset, .unset, .unset]) rfl ?_
    show Steps p.tables e below (T6.setTop (mkF m 14 #[.val (.int p1), .val (.int p2), .val (.int p3), .val (.int p4), .val (.int p5), .val (.int (3 : Int32)), .val (.ref b6), .unset, .unset, .unset, .unset, .unset] [])) _
    refine XS.iload X6.here hx rfl (hb hby at_14) rfl ?_
    show Steps p.tables e below (T6.setTop (mkF m 16 #[.val (.int p1), .val (.int p2), .val (.int p3), .val (.int p4), .val (.int p5), .val (.int (3 : Int32)), .val (.ref b6), .unset, .unset, .unset, .unset, .unset] [(.int (3 : Int32))])) _
    refine XS.ifNo X6.here hx rfl (hb hby at_16) rfl ((if0 _ _).trans (tlt (by decide : (0 : Int32) < (3 : Int32))).2.2.2) ?_
    show Steps p.tables e below (T6.setTop (mkF m 19 #[.val (.int p1), .val (.int p2), .val (.int p3), .val (.int p4), .val (.int p5), .val (.int (3 : Int32)), .val (.ref b6), .unset, .unset, .unset, .unset, .unset] [])) _
    refine XS.aload X6.here hx rfl (hb hby at_19) rfl rfl ?_
    show Steps p.tables e below (T6.setTop (mkF m 21 #[.val (.int p1), .val (.int p2), .val (.int p3), .val (.int p4), .val (.int p5), .val (.int (3 : Int32)), .val (.ref b6), .unset, .unset, .unset, .unset, .unset] [(.ref b6)])) _
    refine XS.iconst X6.here hx rfl (hb hby at_21) ?_
    show Steps p.tables e below (T6.setTop (mkF m 22 #[.val (.int p1), .val (.int p2), .val (.int p3), .val (.int p4), .val (.int p5), .val (.int (3 : Int32)), .val (.ref b6), .unset, .unset, .unset, .unset, .unset] [(.int (0 : Int32)), (.ref b6)])) _
    refine XS.iloadN X6.here hx rfl (hb hby at_22) rfl ?_
    show Steps p.tables e below (T6.setTop (mkF m 23 #[.val (.int p1), .val (.int p2), .val (.int p3), .val (.int p4), .val (.int p5), .val (.int (3 : Int32)), .val (.ref b6), .unset, .unset, .unset, .unset, .unset] [(.int p2), (.int (0 : Int32)), (.ref b6)])) _
    refine st7 _ ?_
    show Steps p.tables e below (T7.setTop (mkF m 24 #[.val (.int p1), .val (.int p2), .val (.int p3), .val (.int p4), .val (.int p5), .val (.int (3 : Int32)), .val (.ref b6), .unset, .unset, .unset, .unset, .unset] [])) _
    refine XS.iload X7.here hx rfl (hb hby at_24) rfl ?_
    show Steps p.tables e below (T7.setTop (mkF m 26 #[.val (.int p1), .val (.int p2), .val (.int p3), .val (.int p4), .val (.int p5), .val (.int (3 : Int32)), .val (.ref b6), .unset, .unset, .unset, .unset, .unset] [(.int (3 : Int32))])) _
    refine XS.iconst X7.here hx rfl (hb hby at_26) ?_
    show Steps p.tables e below (T7.setTop (mkF m 27 #[.val (.int p1), .val (.int p2), .val (.int p3), .val (.int p4), .val (.int p5), .val (.int (3 : Int32)), .val (.ref b6), .unset, .unset, .unset, .unset, .unset] [(.int (1 : Int32)), (.int (3 : Int32))])) _
    refine XS.icmpNo X7.here hx rfl (hb hby at_27) rfl (tlt (by decide : (1 : Int32) < (3 : Int32))).2.2.2 ?_
    show Steps p.tables e below (T7.setTop (mkF m 30 #[.val (.int p1), .val (.int p2), .val (.int p3), .val (.int p4), .val (.int p5), .val (.int (3 : Int32)), .val (.ref b6), .unset, .unset, .unset, .unset, .unset] [])) _
    refine XS.aload X7.here hx rfl (hb hby at_30) rfl rfl ?_
    show Steps p.tables e below (T7.setTop (mkF m 32 #[.val (.int p1), .val (.int p2), .val (.int p3), .val (.int p4), .val (.int p5), .val (.int (3 : Int32)), .val (.ref b6), .unset, .unset, .unset, .unset, .unset] [(.ref b6)])) _
    refine XS.iconst X7.here hx rfl (hb hby at_32) ?_
    show Steps p.tables e below (T7.setTop (mkF m 33 #[.val (.int p1), .val (.int p2), .val (.int p3), .val (.int p4), .val (.int p5), .val (.int (3 : Int32)), .val (.ref b6), .unset, .unset, .unset, .unset, .unset] [(.int (1 : Int32)), (.ref b6)])) _
    refine XS.iloadN X7.here hx rfl (hb hby at_33) rfl ?_
    show Steps p.tables e below (T7.setTop (mkF m 34 #[.val (.int p1), .val (.int p2), .val (.int p3), .val (.int p4), .val (.int p5), .val (.int (3 : Int32)), .val (.ref b6), .unset, .unset, .unset, .unset, .unset] [(.int p3), (.int (1 : Int32)), (.ref b6)])) _
    refine st8 _ ?_
    show Steps p.tables e below (T8.setTop (mkF m 35 #[.val (.int p1), .val (.int p2), .val (.int p3), .val (.int p4), .val (.int p5), .val (.int (3 : Int32)), .val (.ref b6), .unset, .unset, .unset, .unset, .unset] [])) _
    refine XS.iload X8.here hx rfl (hb hby at_35) rfl ?_
    show Steps p.tables e below (T8.setTop (mkF m 37 #[.val (.int p1), .val (.int p2), .val (.int p3), .val (.int p4), .val (.int p5), .val (.int (3 : Int32)), .val (.ref b6), .unset, .unset, .unset, .unset, .unset] [(.int (3 : Int32))])) _
    refine XS.iconst X8.here hx rfl (hb hby at_37) ?_
    show Steps p.tables e below (T8.setTop (mkF m 38 #[.val (.int p1), .val (.int p2), .val (.int p3), .val (.int p4), .val (.int p5), .val (.int (3 : Int32)), .val (.ref b6), .unset, .unset, .unset, .unset, .unset] [(.int (2 : Int32)), (.int (3 : Int32))])) _
    refine XS.icmpNo X8.here hx rfl (hb hby at_38) rfl (tlt (by decide : (2 : Int32) < (3 : Int32))).2.2.2 ?_
    show Steps p.tables e below (T8.setTop (mkF m 41 #[.val (.int p1), .val (.int p2), .val (.int p3), .val (.int p4), .val (.int p5), .val (.int (3 : Int32)), .val (.ref b6), .unset, .unset, .unset, .unset, .unset] [])) _
    refine XS.aload X8.here hx rfl (hb hby at_41) rfl rfl ?_
    show Steps p.tables e below (T8.setTop (mkF m 43 #[.val (.int p1), .val (.int p2), .val (.int p3), .val (.int p4), .val (.int p5), .val (.int (3 : Int32)), .val (.ref b6), .unset, .unset, .unset, .unset, .unset] [(.ref b6)])) _
    refine XS.iconst X8.here hx rfl (hb hby at_43) ?_
    show Steps p.tables e below (T8.setTop (mkF m 44 #[.val (.int p1), .val (.int p2), .val (.int p3), .val (.int p4), .val (.int p5), .val (.int (3 : Int32)), .val (.ref b6), .unset, .unset, .unset, .unset, .unset] [(.int (2 : Int32)), (.ref b6)])) _
    refine XS.iloadN X8.here hx rfl (hb hby at_44) rfl ?_
    show Steps p.tables e below (T8.setTop (mkF m 45 #[.val (.int p1), .val (.int p2), .val (.int p3), .val (.int p4), .val (.int p5), .val (.int (3 : Int32)), .val (.ref b6), .unset, .unset, .unset, .unset, .unset] [(.int p4), (.int (2 : Int32)), (.ref b6)])) _
    refine st9 _ ?_
    show Steps p.tables e below (T9.setTop (mkF m 46 #[.val (.int p1), .val (.int p2), .val (.int p3), .val (.int p4), .val (.int p5), .val (.int (3 : Int32)), .val (.ref b6), .unset, .unset, .unset, .unset, .unset] [])) _
    refine XS.iload X9.here hx rfl (hb hby at_46) rfl ?_
    show Steps p.tables e below (T9.setTop (mkF m 48 #[.val (.int p1), .val (.int p2), .val (.int p3), .val (.int p4), .val (.int p5), .val (.int (3 : Int32)), .val (.ref b6), .unset, .unset, .unset, .unset, .unset] [(.int (3 : Int32))])) _
    refine XS.iconst X9.here hx rfl (hb hby at_48) ?_
    show Steps p.tables e below (T9.setTop (mkF m 49 #[.val (.int p1), .val (.int p2), .val (.int p3), .val (.int p4), .val (.int p5), .val (.int (3 : Int32)), .val (.ref b6), .unset, .unset, .unset, .unset, .unset] [(.int (3 : Int32)), (.int (3 : Int32))])) _
    refine XS.icmpYes X9.here hx rfl (pc0 := 49) (pc' := 58) rfl (hb hby at_49) rfl (flt (by decide : ¬ ((3 : Int32) < (3 : Int32)))).2.2.2 (by decide) (by decide) ?_
    show Steps p.tables e below (T9.setTop (mkF m 58 #[.val (.int p1), .val (.int p2), .val (.int p3), .val (.int p4), .val (.int p5), .val (.int (3 : Int32)), .val (.ref b6), .unset, .unset, .unset, .unset, .unset] [])) _
    refine st10 _ ?_
    show Steps p.tables e below (T10.setTop (mkF m 61 #[.val (.int p1), .val (.int p2), .val (.int p3), .val (.int p4), .val (.int p5), .val (.int (3 : Int32)), .val (.ref b6), .unset, .unset, .unset, .unset, .unset] [(.ref b10)])) _
    refine XS.dup X10.here hx rfl (hb hby at_61) rfl rfl ?_
    show Steps p.tables e below (T10.setTop (mkF m 62 #[.val (.int p1), .val (.int p2), .val (.int p3), .val (.int p4), .val (.int p5), .val (.int (3 : Int32)), .val (.ref b6), .unset, .unset, .unset, .unset, .unset] [(.ref b10), (.ref b10)])) _
    refine XS.aload X10.here hx rfl (hb hby at_62) rfl rfl ?_
    show Steps p.tables e below (T10.setTop (mkF m 64 #[.val (.int p1), .val (.int p2), .val (.int p3), .val (.int p4), .val (.int p5), .val (.int (3 : Int32)), .val (.ref b6), .unset, .unset, .unset, .unset, .unset] [(.ref b6), (.ref b10), (.ref b10)])) _
    refine st11.trans ?_
    show Steps p.tables e below (T11.setTop (mkF m 67 #[.val (.int p1), .val (.int p2), .val (.int p3), .val (.int p4), .val (.int p5), .val (.int (3 : Int32)), .val (.ref b6), .unset, .unset, .unset, .unset, .unset] [(.ref b10)])) _
    refine XS.astore X11.here hx rfl (hb hby at_67) rfl rfl (l' := #[.val (.int p1), .val (.int p2), .val (.int p3), .val (.int p4), .val (.int p5), .val (.int (3 : Int32)), .val (.ref b6), .val (.ref b10), .unset, .unset, .unset, .unset]) rfl ?_
    show Steps p.tables e below (T11.setTop (mkF m 69 #[.val (.int p1), .val (.int p2), .val (.int p3), .val (.int p4), .val (.int p5), .val (.int (3 : Int32)), .val (.ref b6), .val (.ref b10), .unset, .unset, .unset, .unset] [])) _
    refine XS.iload X11.here hx rfl (hb hby at_69) rfl ?_
    show Steps p.tables e below (T11.setTop (mkF m 71 #[.val (.int p1), .val (.int p2), .val (.int p3), .val (.int p4), .val (.int p5), .val (.int (3 : Int32)), .val (.ref b6), .val (.ref b10), .unset, .unset, .unset, .unset] [(.int (3 : Int32))])) _
    refine XS.iconst X11.here hx rfl (hb hby at_71) ?_
    show Steps p.tables e below (T11.setTop (mkF m 72 #[.val (.int p1), .val (.int p2), .val (.int p3), .val (.int p4), .val (.int p5), .val (.int (3 : Int32)), .val (.ref b6), .val (.ref b10), .unset, .unset, .unset, .unset] [(.int (0 : Int32)), (.int (3 : Int32))])) _
    refine XS.iloadN X11.here hx rfl (hb hby at_72) rfl ?_
    show Steps p.tables e below (T11.setTop (mkF m 73 #[.val (.int p1), .val (.int p2), .val (.int p3), .val (.int p4), .val (.int p5), .val (.int (3 : Int32)), .val (.ref b6), .val (.ref b10), .unset, .unset, .unset, .unset] [(.int p2), (.int (0 : Int32)), (.int (3 : Int32))])) _
    refine st12 _ ?_
    show Steps p.tables e below (T12.setTop (mkF m 76 #[.val (.int p1), .val (.int p2), .val (.int p3), .val (.int p4), .val (.int p5), .val (.int (3 : Int32)), .val (.ref b6), .val (.ref b10), .unset, .unset, .unset, .unset] [(.int (0 : Int32))])) _
    refine XS.ifNo X12.here hx rfl (hb hby at_76) rfl ((if0 _ _).trans (teq (by decide : (0 : Int32) = (0 : Int32))).2) ?_
    show Steps p.tables e below (T12.setTop (mkF m 79 #[.val (.int p1), .val (.int p2), .val (.int p3), .val (.int p4), .val (.int p5), .val (.int (3 : Int32)), .val (.ref b6), .val (.ref b10), .unset, .unset, .unset, .unset] [])) _
    refine XS.iload X12.here hx rfl (hb hby at_79) rfl ?_
    show Steps p.tables e below (T12.setTop (mkF m 81 #[.val (.int p1), .val (.int p2), .val (.int p3), .val (.int p4), .val (.int p5), .val (.int (3 : Int32)), .val (.ref b6), .val (.ref b10), .unset, .unset, .unset, .unset] [(.int (3 : Int32))])) _
    refine XS.iconst X12.here hx rfl (hb hby at_81) ?_
    show Steps p.tables e below (T12.setTop (mkF m 82 #[.val (.int p1), .val (.int p2), .val (.int p3), .val (.int p4), .val (.int p5), .val (.int (3 : Int32)), .val (.ref b6), .val (.ref b10), .unset, .unset, .unset, .unset] [(.int (1 : Int32)), (.int (3 : Int32))])) _
    refine XS.iloadN X12.here hx rfl (hb hby at_82) rfl ?_
    show Steps p.tables e below (T12.setTop (mkF m 83 #[.val (.int p1), .val (.int p2), .val (.int p3), .val (.int p4), .val (.int p5), .val (.int (3 : Int32)), .val (.ref b6), .val (.ref b10), .unset, .unset, .unset, .unset] [(.int p3), (.int (1 : Int32)), (.int (3 : Int32))])) _
    refine st13 _ ?_
    show Steps p.tables e below (T13.setTop (mkF m 86 #[.val (.int p1), .val (.int p2), .val (.int p3), .val (.int p4), .val (.int p5), .val (.int (3 : Int32)), .val (.ref b6), .val (.ref b10), .unset, .unset, .unset, .unset] [(.int (1 : Int32))])) _
    refine XS.ifYes X13.here hx rfl (pc0 := 86) (pc' := 110) rfl (hb hby at_86) rfl ((if0 _ _).trans (feq (by decide : ¬ ((1 : Int32) = (0 : Int32)))).2) (by decide) (by decide) ?_
    show Steps p.tables e below (T13.setTop (mkF m 110 #[.val (.int p1), .val (.int p2), .val (.int p3), .val (.int p4), .val (.int p5), .val (.int (3 : Int32)), .val (.ref b6), .val (.ref b10), .unset, .unset, .unset, .unset] [])) _
    refine XS.iconst X13.here hx rfl (hb hby at_110) ?_
    show Steps p.tables e below (T13.setTop (mkF m 111 #[.val (.int p1), .val (.int p2), .val (.int p3), .val (.int p4), .val (.int p5), .val (.int (3 : Int32)), .val (.ref b6), .val (.ref b10), .unset, .unset, .unset, .unset] [(.int (1 : Int32))])) _
    refine XS.goto X13.here hx rfl (pc0 := 111) (pc' := 115) rfl (hb hby at_111) (by decide) (by decide) ?_
    show Steps p.tables e below (T13.setTop (mkF m 115 #[.val (.int p1), .val (.int p2), .val (.int p3), .val (.int p4), .val (.int p5), .val (.int (3 : Int32)), .val (.ref b6), .val (.ref b10), .unset, .unset, .unset, .unset] [(.int (1 : Int32))])) _
    refine XS.istore X13.here hx rfl (hb hby at_115) rfl (l' := #[.val (.int p1), .val (.int p2), .val (.int p3), .val (.int p4), .val (.int p5), .val (.int (3 : Int32)), .val (.ref b6), .val (.ref b10), .val (.int (1 : Int32)), .unset, .unset, .unset]) rfl ?_
    show Steps p.tables e below (T13.setTop (mkF m 117 #[.val (.int p1), .val (.int p2), .val (.int p3), .val (.int p4), .val (.int p5), .val (.int (3 : Int32)), .val (.ref b6), .val (.ref b10), .val (.int (1 : Int32)), .unset, .unset, .unset] [])) _
    refine XS.aload X13.here hx rfl (hb hby at_117) rfl rfl ?_
    show Steps p.tables e below (T13.setTop (mkF m 119 #[.val (.int p1), .val (.int p2), .val (.int p3), .val (.int p4), .val (.int p5), .val (.int (3 : Int32)), .val (.ref b6), .val (.ref b10), .val (.int (1 : Int32)), .unset, .unset, .unset] [(.ref b10)])) _
    refine st14.trans ?_
    show Steps p.tables e below (T14.setTop (mkF m 122 #[.val (.int p1), .val (.int p2), .val (.int p3), .val (.int p4), .val (.int p5), .val (.int (3 : Int32)), .val (.ref b6), .val (.ref b10), .val (.int (1 : Int32)), .unset, .unset, .unset] [(.int (own_anyf (own_at [p2, p3, p4]) 3 0 0))])) _
    refine XS.istore X14.here hx rfl (hb hby at_122) rfl (l' := #[.val (.int p1), .val (.int p2), .val (.int p3), .val (.int p4), .val (.int p5), .val (.int (3 : Int32)), .val (.ref b6), .val (.ref b10), .val (.int (1 : Int32)), .val (.int (own_anyf (own_at [p2, p3, p4]) 3 0 0)), .unset, .unset]) rfl ?_
    show Steps p.tables e below (T14.setTop (mkF m 124 #[.val (.int p1), .val (.int p2), .val (.int p3), .val (.int p4), .val (.int p5), .val (.int (3 : Int32)), .val (.ref b6), .val (.ref b10), .val (.int (1 : Int32)), .val (.int (own_anyf (own_at [p2, p3, p4]) 3 0 0)), .unset, .unset] [])) _
    refine XS.iload X14.here hx rfl (hb hby at_124) rfl ?_
    show Steps p.tables e below (T14.setTop (mkF m 126 #[.val (.int p1), .val (.int p2), .val (.int p3), .val (.int p4), .val (.int p5), .val (.int (3 : Int32)), .val (.ref b6), .val (.ref b10), .val (.int (1 : Int32)), .val (.int (own_anyf (own_at [p2, p3, p4]) 3 0 0)), .unset, .unset] [(.int (1 : Int32))])) _
    refine XS.ifNo X14.here hx rfl (hb hby at_126) rfl ((if0 _ _).trans (feq (by decide : ¬ ((1 : Int32) = (0 : Int32)))).1) ?_
    show Steps p.tables e below (T14.setTop (mkF m 129 #[.val (.int p1), .val (.int p2), .val (.int p3), .val (.int p4), .val (.int p5), .val (.int (3 : Int32)), .val (.ref b6), .val (.ref b10), .val (.int (1 : Int32)), .val (.int (own_anyf (own_at [p2, p3, p4]) 3 0 0)), .unset, .unset] [])) _
    refine XS.iconst X14.here hx rfl (hb hby at_129) ?_
    show Steps p.tables e below (T14.setTop (mkF m 130 #[.val (.int p1), .val (.int p2), .val (.int p3), .val (.int p4), .val (.int p5), .val (.int (3 : Int32)), .val (.ref b6), .val (.ref b10), .val (.int (1 : Int32)), .val (.int (own_anyf (own_at [p2, p3, p4]) 3 0 0)), .unset, .unset] [(.int (0 : Int32))])) _
    refine XS.goto X14.here hx rfl (pc0 := 130) (pc' := 134) rfl (hb hby at_130) (by decide) (by decide) ?_
    show Steps p.tables e below (T14.setTop (mkF m 134 #[.val (.int p1), .val (.int p2), .val (.int p3), .val (.int p4), .val (.int p5), .val (.int (3 : Int32)), .val (.ref b6), .val (.ref b10), .val (.int (1 : Int32)), .val (.int (own_anyf (own_at [p2, p3, p4]) 3 0 0)), .unset, .unset] [(.int (0 : Int32))])) _
    refine XS.istore X14.here hx rfl (hb hby at_134) rfl (l' := #[.val (.int p1), .val (.int p2), .val (.int p3), .val (.int p4), .val (.int p5), .val (.int (3 : Int32)), .val (.ref b6), .val (.ref b10), .val (.int (1 : Int32)), .val (.int (own_anyf (own_at [p2, p3, p4]) 3 0 0)), .val (.int (0 : Int32)), .unset]) rfl ?_
    show Steps p.tables e below (T14.setTop (mkF m 136 #[.val (.int p1), .val (.int p2), .val (.int p3), .val (.int p4), .val (.int p5), .val (.int (3 : Int32)), .val (.ref b6), .val (.ref b10), .val (.int (1 : Int32)), .val (.int (own_anyf (own_at [p2, p3, p4]) 3 0 0)), .val (.int (0 : Int32)), .unset] [])) _
    refine XS.iload X14.here hx rfl (hb hby at_136) rfl ?_
    show Steps p.tables e below (T14.setTop (mkF m 138 #[.val (.int p1), .val (.int p2), .val (.int p3), .val (.int p4), .val (.int p5), .val (.int (3 : Int32)), .val (.ref b6), .val (.ref b10), .val (.int (1 : Int32)), .val (.int (own_anyf (own_at [p2, p3, p4]) 3 0 0)), .val (.int (0 : Int32)), .unset] [(.int (3 : Int32))])) _
    refine XS.ifNo X14.here hx rfl (hb hby at_138) rfl ((if0 _ _).trans (tlt (by decide : (0 : Int32) < (3 : Int32))).2.2.2) ?_
    show Steps p.tables e below (T14.setTop (mkF m 141 #[.val (.int p1), .val (.int p2), .val (.int p3), .val (.int p4), .val (.int p5), .val (.int (3 : Int32)), .val (.ref b6), .val (.ref b10), .val (.int (1 : Int32)), .val (.int (own_anyf (own_at [p2, p3, p4]) 3 0 0)), .val (.int (0 : Int32)), .unset] [])) _
    refine XS.aload X14.here hx rfl (hb hby at_141) rfl rfl ?_
    show Steps p.tables e below (T14.setTop (mkF m 143 #[.val (.int p1), .val (.int p2), .val (.int p3), .val (.int p4), .val (.int p5), .val (.int (3 : Int32)), .val (.ref b6), .val (.ref b10), .val (.int (1 : Int32)), .val (.int (own_anyf (own_at [p2, p3, p4]) 3 0 0)), .val (.int (0 : Int32)), .unset] [(.ref b6)])) _
    refine XS.iconst X14.here hx rfl (hb hby at_143) ?_
    show Steps p.tables e below (T14.setTop (mkF m 144 #[.val (.int p1), .val (.int p2), .val (.int p3), .val (.int p4), .val (.int p5), .val (.int (3 : Int32)), .val (.ref b6), .val (.ref b10), .val (.int (1 : Int32)), .val (.int (own_anyf (own_at [p2, p3, p4]) 3 0 0)), .val (.int (0 : Int32)), .unset] [(.int (0 : Int32)), (.ref b6)])) _
    refine XS.iload X14.here hx rfl (hb hby at_144) rfl ?_
    show Steps p.tables e below (T14.setTop (mkF m 146 #[.val (.int p1), .val (.int p2), .val (.int p3), .val (.int p4), .val (.int p5), .val (.int (3 : Int32)), .val (.ref b6), .val (.ref b10), .val (.int (1 : Int32)), .val (.int (own_anyf (own_at [p2, p3, p4]) 3 0 0)), .val (.int (0 : Int32)), .unset] [(.int (0 : Int32)), (.int (0 : Int32)), (.ref b6)])) _
    refine st15 _ ?_
    show Steps p.tables e below (T15.setTop (mkF m 147 #[.val (.int p1), .val (.int p2), .val (.int p3), .val (.int p4), .val (.int p5), .val (.int (3 : Int32)), .val (.ref b6), .val (.ref b10), .val (.int (1 : Int32)), .val (.int (own_anyf (own_at [p2, p3, p4]) 3 0 0)), .val (.int (0 : Int32)), .unset] [])) _
    refine XS.iload X15.here hx rfl (hb hby at_147) rfl ?_
    show Steps p.tables e below (T15.setTop (mkF m 149 #[.val (.int p1), .val (.int p2), .val (.int p3), .val (.int p4), .val (.int p5), .val (.int (3 : Int32)), .val (.ref b6), .val (.ref b10), .val (.int (1 : Int32)), .val (.int (own_anyf (own_at [p2, p3, p4]) 3 0 0)), .val (.int (0 : Int32)), .unset] [(.int (3 : Int32))])) _
    refine XS.iconst X15.here hx rfl (hb hby at_149) ?_
    show Steps p.tables e below (T15.setTop (mkF m 150 #[.val (.int p1), .val (.int p2), .val (.int p3), .val (.int p4), .val (.int p5), .val (.int (3 : Int32)), .val (.ref b6), .val (.ref b10), .val (.int (1 : Int32)), .val (.int (own_anyf (own_at [p2, p3, p4]) 3 0 0)), .val (.int (0 : Int32)), .unset] [(.int (1 : Int32)), (.int (3 : Int32))])) _
    refine XS.icmpNo X15.here hx rfl (hb hby at_150) rfl (tlt (by decide : (1 : Int32) < (3 : Int32))).2.2.2 ?_
    show Steps p.tables e below (T15.setTop (mkF m 153 #[.val (.int p1), .val (.int p2), .val (.int p3), .val (.int p4), .val (.int p5), .val (.int (3 : Int32)), .val (.ref b6), .val (.ref b10), .val (.int (1 : Int32)), .val (.int (own_anyf (own_at [p2, p3, p4]) 3 0 0)), .val (.int (0 : Int32)), .unset] [])) _
    refine XS.aload X15.here hx rfl (hb hby at_153) rfl rfl ?_
    show Steps p.tables e below (T15.setTop (mkF m 155 #[.val (.int p1), .val (.int p2), .val (.int p3), .val (.int p4), .val (.int p5), .val (.int (3 : Int32)), .val (.ref b6), .val (.ref b10), .val (.int (1 : Int32)), .val (.int (own_anyf (own_at [p2, p3, p4]) 3 0 0)), .val (.int (0 : Int32)), .unset] [(.ref b6)])) _
    refine XS.iconst X15.here hx rfl (hb hby at_155) ?_
    show Steps p.tables e below (T15.setTop (mkF m 156 #[.val (.int p1), .val (.int p2), .val (.int p3), .val (.int p4), .val (.int p5), .val (.int (3 : Int32)), .val (.ref b6), .val (.ref b10), .val (.int (1 : Int32)), .val (.int (own_anyf (own_at [p2, p3, p4]) 3 0 0)), .val (.int (0 : Int32)), .unset] [(.int (1 : Int32)), (.ref b6)])) _
    refine XS.iload X15.here hx rfl (hb hby at_156) rfl ?_
    show Steps p.tables e below (T15.setTop (mkF m 158 #[.val (.int p1), .val (.int p2), .val (.int p3), .val (.int p4), .val (.int p5), .val (.int (3 : Int32)), .val (.ref b6), .val (.ref b10), .val (.int (1 : Int32)), .val (.int (own_anyf (own_at [p2, p3, p4]) 3 0 0)), .val (.int (0 : Int32)), .unset] [(.int (0 : Int32)), (.int (1 : Int32)), (.ref b6)])) _
    refine st16 _ ?_
    show Steps p.tables e below (T16.setTop (mkF m 159 #[.val (.int p1), .val (.int p2), .val (.int p3), .val (.int p4), .val (.int p5), .val (.int (3 : Int32)), .val (.ref b6), .val (.ref b10), .val (.int (1 : Int32)), .val (.int (own_anyf (own_at [p2, p3, p4]) 3 0 0)), .val (.int (0 : Int32)), .unset] [])) _
    refine XS.iload X16.here hx rfl (hb hby at_159) rfl ?_
    show Steps p.tables e below (T16.setTop (mkF m 161 #[.val (.int p1), .val (.int p2), .val (.int p3), .val (.int p4), .val (.int p5), .val (.int (3 : Int32)), .val (.ref b6), .val (.ref b10), .val (.int (1 : Int32)), .val (.int (own_anyf (own_at [p2, p3, p4]) 3 0 0)), .val (.int (0 : Int32)), .unset] [(.int (3 : Int32))])) _
    refine XS.iconst X16.here hx rfl (hb hby at_161) ?_
    show Steps p.tables e below (T16.setTop (mkF m 162 #[.val (.int p1), .val (.int p2), .val (.int p3), .val (.int p4), .val (.int p5), .val (.int (3 : Int32)), .val (.ref b6), .val (.ref b10), .val (.int (1 : Int32)), .val (.int (own_anyf (own_at [p2, p3, p4]) 3 0 0)), .val (.int (0 : Int32)), .unset] [(.int (2 : Int32)), (.int (3 : Int32))])) _
    refine XS.icmpNo X16.here hx rfl (hb hby at_162) rfl (tlt (by decide : (2 : Int32) < (3 : Int32))).2.2.2 ?_
    show Steps p.tables e below (T16.setTop (mkF m 165 #[.val (.int p1), .val (.int p2), .val (.int p3), .val (.int p4), .val (.int p5), .val (.int (3 : Int32)), .val (.ref b6), .val (.ref b10), .val (.int (1 : Int32)), .val (.int (own_anyf (own_at [p2, p3, p4]) 3 0 0)), .val (.int (0 : Int32)), .unset] [])) _
    refine XS.aload X16.here hx rfl (hb hby at_165) rfl rfl ?_
    show Steps p.tables e below (T16.setTop (mkF m 167 #[.val (.int p1), .val (.int p2), .val (.int p3), .val (.int p4), .val (.int p5), .val (.int (3 : Int32)), .val (.ref b6), .val (.ref b10), .val (.int (1 : Int32)), .val (.int (own_anyf (own_at [p2, p3, p4]) 3 0 0)), .val (.int (0 : Int32)), .unset] [(.ref b6)])) _
    refine XS.iconst X16.here hx rfl (hb hby at_167) ?_
    show Steps p.tables e below (T16.setTop (mkF m 168 #[.val (.int p1), .val (.int p2), .val (.int p3), .val (.int p4), .val (.int p5), .val (.int (3 : Int32)), .val (.ref b6), .val (.ref b10), .val (.int (1 : Int32)), .val (.int (own_anyf (own_at [p2, p3, p4]) 3 0 0)), .val (.int (0 : Int32)), .unset] [(.int (2 : Int32)), (.ref b6)])) _
    refine XS.iload X16.here hx rfl (hb hby at_168) rfl ?_
    show Steps p.tables e below (T16.setTop (mkF m 170 #[.val (.int p1), .val (.int p2), .val (.int p3), .val (.int p4), .val (.int p5), .val (.int (3 : Int32)), .val (.ref b6), .val (.ref b10), .val (.int (1 : Int32)), .val (.int (own_anyf (own_at [p2, p3, p4]) 3 0 0)), .val (.int (0 : Int32)), .unset] [(.int (0 : Int32)), (.int (2 : Int32)), (.ref b6)])) _
    refine st17 _ ?_
    show Steps p.tables e below (T17.setTop (mkF m 171 #[.val (.int p1), .val (.int p2), .val (.int p3), .val (.int p4), .val (.int p5), .val (.int (3 : Int32)), .val (.ref b6), .val (.ref b10), .val (.int (1 : Int32)), .val (.int (own_anyf (own_at [p2, p3, p4]) 3 0 0)), .val (.int (0 : Int32)), .unset] [])) _
    refine XS.iload X17.here hx rfl (hb hby at_171) rfl ?_
    show Steps p.tables e below (T17.setTop (mkF m 173 #[.val (.int p1), .val (.int p2), .val (.int p3), .val (.int p4), .val (.int p5), .val (.int (3 : Int32)), .val (.ref b6), .val (.ref b10), .val (.int (1 : Int32)), .val (.int (own_anyf (own_at [p2, p3, p4]) 3 0 0)), .val (.int (0 : Int32)), .unset] [(.int (3 : Int32))])) _
    refine XS.iconst X17.here hx rfl (hb hby at_173) ?_
    show Steps p.tables e below (T17.setTop (mkF m 174 #[.val (.int p1), .val (.int p2), .val (.int p3), .val (.int p4), .val (.int p5), .val (.int (3 : Int32)), .val (.ref b6), .val (.ref b10), .val (.int (1 : Int32)), .val (.int (own_anyf (own_at [p2, p3, p4]) 3 0 0)), .val (.int (0 : Int32)), .unset] [(.int (3 : Int32)), (.int (3 : Int32))])) _
    refine XS.icmpYes X17.here hx rfl (pc0 := 174) (pc' := 183) rfl (hb hby at_174) rfl (flt (by decide : ¬ ((3 : Int32) < (3 : Int32)))).2.2.2 (by decide) (by decide) ?_
    show Steps p.tables e below (T17.setTop (mkF m 183 #[.val (.int p1), .val (.int p2), .val (.int p3), .val (.int p4), .val (.int p5), .val (.int (3 : Int32)), .val (.ref b6), .val (.ref b10), .val (.int (1 : Int32)), .val (.int (own_anyf (own_at [p2, p3, p4]) 3 0 0)), .val (.int (0 : Int32)), .unset] [])) _
    refine XS.aload X17.here hx rfl (hb hby at_183) rfl rfl ?_
    show Steps p.tables e below (T17.setTop (mkF m 185 #[.val (.int p1), .val (.int p2), .val (.int p3), .val (.int p4), .val (.int p5), .val (.int (3 : Int32)), .val (.ref b6), .val (.ref b10), .val (.int (1 : Int32)), .val (.int (own_anyf (own_at [p2, p3, p4]) 3 0 0)), .val (.int (0 : Int32)), .unset] [(.ref b10)])) _
    refine st18.trans ?_
    show Steps p.tables e below (T18.setTop (mkF m 188 #[.val (.int p1), .val (.int p2), .val (.int p3), .val (.int p4), .val (.int p5), .val (.int (3 : Int32)), .val (.ref b6), .val (.ref b10), .val (.int (1 : Int32)), .val (.int (own_anyf (own_at [p2, p3, p4]) 3 0 0)), .val (.int (0 : Int32)), .unset] [(.int (own_anyf (own_at [p2, p3, p4]) 3 0 0))])) _
    refine XS.istore X18.here hx rfl (hb hby at_188) rfl (l' := #[.val (.int p1), .val (.int p2), .val (.int p3), .val (.int p4), .val (.int p5), .val (.int (3 : Int32)), .val (.ref b6), .val (.ref b10), .val (.int (1 : Int32)), .val (.int (own_anyf (own_at [p2, p3, p4]) 3 0 0)), .val (.int (0 : Int32)), .val (.int (own_anyf (own_at [p2, p3, p4]) 3 0 0))]) rfl ?_
    show Steps p.tables e below (T18.setTop (mkF m 190 #[.val (.int p1), .val (.int p2), .val (.int p3), .val (.int p4), .val (.int p5), .val (.int (3 : Int32)), .val (.ref b6), .val (.ref b10), .val (.int (1 : Int32)), .val (.int (own_anyf (own_at [p2, p3, p4]) 3 0 0)), .val (.int (0 : Int32)), .val (.int (own_anyf (own_at [p2, p3, p4]) 3 0 0))] [])) _
    refine XS.iload X18.here hx rfl (hb hby at_190) rfl ?_
    show Steps p.tables e below (T18.setTop (mkF m 192 #[.val (.int p1), .val (.int p2), .val (.int p3), .val (.int p4), .val (.int p5), .val (.int (3 : Int32)), .val (.ref b6), .val (.ref b10), .val (.int (1 : Int32)), .val (.int (own_anyf (own_at [p2, p3, p4]) 3 0 0)), .val (.int (0 : Int32)), .val (.int (own_anyf (own_at [p2, p3, p4]) 3 0 0))] [(.int (own_anyf (own_at [p2, p3, p4]) 3 0 0))])) _
    refine XS.iload X18.here hx rfl (hb hby at_192) rfl ?_
    show Steps p.tables e below (T18.setTop (mkF m 194 #[.val (.int p1), .val (.int p2), .val (.int p3), .val (.int p4), .val (.int p5), .val (.int (3 : Int32)), .val (.ref b6), .val (.ref b10), .val (.int (1 : Int32)), .val (.int (own_anyf (own_at [p2, p3, p4]) 3 0 0)), .val (.int (0 : Int32)), .val (.int (own_anyf (own_at [p2, p3, p4]) 3 0 0))] [(.int (1 : Int32)), (.int (own_anyf (own_at [p2, p3, p4]) 3 0 0))])) _
    refine XS.icmpNo X18.here hx rfl (hb hby at_194) rfl (teq (own_ok : (own_anyf (own_at [p2, p3, p4]) 3 0 0) = (1 : Int32))).2 ?_
    show Steps p.tables e below (T18.setTop (mkF m 197 #[.val (.int p1), .val (.int p2), .val (.int p3), .val (.int p4), .val (.int p5), .val (.int (3 : Int32)), .val (.ref b6), .val (.ref b10), .val (.int (1 : Int32)), .val (.int (own_anyf (own_at [p2, p3, p4]) 3 0 0)), .val (.int (0 : Int32)), .val (.int (own_anyf (own_at [p2, p3, p4]) 3 0 0))] [])) _
    refine XS.iload X18.here hx rfl (hb hby at_197) rfl ?_
    show Steps p.tables e below (T18.setTop (mkF m 199 #[.val (.int p1), .val (.int p2), .val (.int p3), .val (.int p4), .val (.int p5), .val (.int (3 : Int32)), .val (.ref b6), .val (.ref b10), .val (.int (1 : Int32)), .val (.int (own_anyf (own_at [p2, p3, p4]) 3 0 0)), .val (.int (0 : Int32)), .val (.int (own_anyf (own_at [p2, p3, p4]) 3 0 0))] [(.int (own_anyf (own_at [p2, p3, p4]) 3 0 0))])) _
    refine XS.iload X18.here hx rfl (hb hby at_199) rfl ?_
    show Steps p.tables e below (T18.setTop (mkF m 201 #[.val (.int p1), .val (.int p2), .val (.int p3), .val (.int p4), .val (.int p5), .val (.int (3 : Int32)), .val (.ref b6), .val (.ref b10), .val (.int (1 : Int32)), .val (.int (own_anyf (own_at [p2, p3, p4]) 3 0 0)), .val (.int (0 : Int32)), .val (.int (own_anyf (own_at [p2, p3, p4]) 3 0 0))] [(.int (1 : Int32)), (.int (own_anyf (own_at [p2, p3, p4]) 3 0 0))])) _
    refine XS.icmpNo X18.here hx rfl (hb hby at_201) rfl (teq (own_ok : (own_anyf (own_at [p2, p3, p4]) 3 0 0) = (1 : Int32))).2 ?_
    show Steps p.tables e below (T18.setTop (mkF m 204 #[.val (.int p1), .val (.int p2), .val (.int p3), .val (.int p4), .val (.int p5), .val (.int (3 : Int32)), .val (.ref b6), .val (.ref b10), .val (.int (1 : Int32)), .val (.int (own_anyf (own_at [p2, p3, p4]) 3 0 0)), .val (.int (0 : Int32)), .val (.int (own_anyf (own_at [p2, p3, p4]) 3 0 0))] [])) _
    refine XS.iconst X18.here hx rfl (hb hby at_204) ?_
    show Steps p.tables e below (T18.setTop (mkF m 205 #[.val (.int p1), .val (.int p2), .val (.int p3), .val (.int p4), .val (.int p5), .val (.int (3 : Int32)), .val (.ref b6), .val (.ref b10), .val (.int (1 : Int32)), .val (.int (own_anyf (own_at [p2, p3, p4]) 3 0 0)), .val (.int (0 : Int32)), .val (.int (own_anyf (own_at [p2, p3, p4]) 3 0 0))] [(.int (1 : Int32))])) _
    refine XS.goto X18.here hx rfl (pc0 := 205) (pc' := 209) rfl (hb hby at_205) (by decide) (by decide) ?_
    show Steps p.tables e below (T18.setTop (mkF m 209 #[.val (.int p1), .val (.int p2), .val (.int p3), .val (.int p4), .val (.int p5), .val (.int (3 : Int32)), .val (.ref b6), .val (.ref b10), .val (.int (1 : Int32)), .val (.int (own_anyf (own_at [p2, p3, p4]) 3 0 0)), .val (.int (0 : Int32)), .val (.int (own_anyf (own_at [p2, p3, p4]) 3 0 0))] [(.int (1 : Int32))])) _
    exact retN X18 hx (t := .boolean) Bd.returns (by simp) (hb hby at_209) hr
  · show Q0_31 Z p1 p2 p3 p4 p5 h0 n0 _ T18.heap _
    exact ⟨rfl, N18⟩
def Q0_32 (Z : State) (p1 : Int32) (p2 : Int32) (p3 : Int32) (p4 : Int32) (p5 : Int32) (h0 : Heap) (n0 : Nat) (v : Option Value) (h : Heap) (L : List Loc) : Prop := v = some (.int (1 : Int32)) ∧ Fr n0 L
set_option maxRecDepth 65536 in
set_option maxHeartbeats 40000000 in
theorem rm0_32 (l : Launch) (Z : State) (a0 : Array Value) (hw : ∀ d ∈ tables_1, d.before a0 Z = true) (ws : List Jvm.Cond) (p1 : Int32) (p2 : Int32) (p3 : Int32) (p4 : Int32) (p5 : Int32) (h0 : Heap) (n0 : Nat) (Z0 : n0 ≤ h0.size) (hp5 : ((p1 &&& (2147483647 : Int32)) % (5 : Int32)) = (3 : Int32)) (ch0 : ¬ (p2 = (1 : Int32))) (ch1 : ¬ (p3 = (1 : Int32))) (ch2 : p4 = (1 : Int32)) :
    MetFree l x (head1 (Jvm.Cond.code x code maxLocals ret :: ws) room_1) (fun a U => a = #[(.int p1), (.int p2), (.int p3), (.int p4), (.int p5)] ∧ Z.Warmed39 U.vm ∧ U.heap = h0) (fun _ _ _ _ _ => True) (fun _ U o U' => ∃ v L, o = .returned v ∧ Q0_32 Z p1 p2 p3 p4 p5 h0 n0 v U'.heap L ∧ FrameEnd U o U' L room_1.cells room_1.slots) := by
  refine MetFree.of_bodySF (plainFor_of_name pn_0) hisR ?_
  intro p e s m args below meth c s₁ Bd hml0 hP hK
  obtain ⟨rfl, hZ, hh⟩ := hP
  have own_ok : (own_anyf (own_at [p2, p3, p4]) 3 0 0) = (1 : Int32) := by
    simp [own_anyf, own_or, own_at, ch0, ch1, ch2]
  have hx := Bd.exec
  have hby := Bd.bytes
  have hml : c.maxLocals = 12 := hml0
  have hown : s.vm.findClass "com/example/tendril/tendril/FormatsAnyBinaryPinLaw" = some m.cls := findClass_of_methodNamed Bd.named
  have hnm := (name_of_methodNamed Bd.named Bd.method).1
  have X0 : Stand p l e room_1 s m #[(.int p1), (.int p2), (.int p3), (.int p4), (.int p5)] below meth c s₁ [] 0 0 := Stand.of_body Bd
  have e0 : s₁.heap = h0 := by rw [← hh, Bd.state]; rfl
  have N0 := Fr.nil n0
  have pre0 : ∀ t, Steps p.tables e below (s₁.setTop (mkF m 0 #[.val (.int p1), .val (.int p2), .val (.int p3), .val (.int p4), .val (.int p5), .unset, .unset, .unset, .unset, .unset, .unset, .unset] [])) t → Steps p.tables e below (s₁.setTop (entryFrame m #[(.int p1), (.int p2), (.int p3), (.int p4), (.int p5)] maxLocals)) t := fun t k => castTop (ef_0 m p1 p2 p3 p4 p5) k
  obtain ⟨T6, h6, k6, X6, e6, E6, A6, Ea6, st6⟩ := newPE X0 hx hZ (hw _ (List.mem_of_getElem? (i := 1) rfl)) e0 (g := (mkF m 10 #[.val (.int p1), .val (.int p2), .val (.int p3), .val (.int p4), .val (.int p5), .val (.int (3 : Int32)), .unset, .unset, .unset, .unset, .unset, .unset] [(.int (3 : Int32))])) rfl (hb hby at_10) rfl (by decide) (cap := 3) (by decide) (by decide) (by decide) (by decide) (ad := "[I") rfl
  obtain ⟨b6, g6⟩ : ∃ z, z = h0.size := ⟨_, rfl⟩
  rw [← g6] at A6 Ea6 st6
  have V_b6 : Arv Z h6 b6 k6 .int (3 : Int32) [(.int (0 : Int32)), (.int (0 : Int32)), (.int (0 : Int32))] (.int (0 : Int32)) := (Arv.new A6 (by decide)).pad (pad_rep [] (.int (0 : Int32)) 3)
  have g_b6 : n0 ≤ b6 := Nat.le_trans Z0 (Nat.le_of_eq g6.symm)
  have sz_b6 : h0.size ≤ b6 := (Nat.le_trans (Keep.refl h0 []).1 (Nat.le_of_eq g6.symm))
  have K6 : Keep h0 h6 [] := (Keep.refl h0 []).ext E6
  obtain ⟨cl_b6_23, Ar_b6, q_b6, S_b6, N_b6, H_b6, G_b6⟩ := V_b6
  have hin23 : ¬ ((0 : Int32) < 0 ∨ cl_b6_23.slots.size ≤ ((0 : Int32)).toNatClampNeg) := inb_of S_b6 ⟨by decide, by decide⟩
  obtain ⟨T7, h7, X7, e7, W7, st7⟩ := stI X6 hx hZ e6 Ar_b6 (j := (0 : Int32)) hin23 (g := (mkF m 23 #[.val (.int p1), .val (.int p2), .val (.int p3), .val (.int p4), .val (.int p5), .val (.int (3 : Int32)), .val (.ref b6), .unset, .unset, .unset, .unset, .unset] [(.int p2), (.int (0 : Int32)), (.ref b6)])) rfl rfl (hb hby at_23)
  have V_b6_7 := Arv.set Ar_b6 q_b6 S_b6 N_b6 H_b6 G_b6 rfl W7 0 rfl (Nat.le_of_ble_eq_true rfl)
  have K7 : Keep h0 h7 [] := K6.wr W7 (Or.inr sz_b6)
  have N7 := Fr.snoc X7 N0 g_b6
  obtain ⟨cl_b6_34, Ar_b6, q_b6, S_b6, N_b6, H_b6, G_b6⟩ := V_b6_7
  have hin34 : ¬ ((1 : Int32) < 0 ∨ cl_b6_34.slots.size ≤ ((1 : Int32)).toNatClampNeg) := inb_of S_b6 ⟨by decide, by decide⟩
  obtain ⟨T8, h8, X8, e8, W8, st8⟩ := stI X7 hx hZ e7 Ar_b6 (j := (1 : Int32)) hin34 (g := (mkF m 34 #[.val (.int p1), .val (.int p2), .val (.int p3), .val (.int p4), .val (.int p5), .val (.int (3 : Int32)), .val (.ref b6), .unset, .unset, .unset, .unset, .unset] [(.int p3), (.int (1 : Int32)), (.ref b6)])) rfl rfl (hb hby at_34)
  have V_b6_8 := Arv.set Ar_b6 q_b6 S_b6 N_b6 H_b6 G_b6 rfl W8 1 rfl (Nat.le_of_ble_eq_true rfl)
  have K8 : Keep h0 h8 [] := K7.wr W8 (Or.inr sz_b6)
  have N8 := Fr.snoc X8 N7 g_b6
  obtain ⟨cl_b6_45, Ar_b6, q_b6, S_b6, N_b6, H_b6, G_b6⟩ := V_b6_8
  have hin45 : ¬ ((2 : Int32) < 0 ∨ cl_b6_45.slots.size ≤ ((2 : Int32)).toNatClampNeg) := inb_of S_b6 ⟨by decide, by decide⟩
  obtain ⟨T9, h9, X9, e9, W9, st9⟩ := stI X8 hx hZ e8 Ar_b6 (j := (2 : Int32)) hin45 (g := (mkF m 45 #[.val (.int p1), .val (.int p2), .val (.int p3), .val (.int p4), .val (.int p5), .val (.int (3 : Int32)), .val (.ref b6), .unset, .unset, .unset, .unset, .unset] [(.int p4), (.int (2 : Int32)), (.ref b6)])) rfl rfl (hb hby at_45)
  have V_b6_9 := Arv.set Ar_b6 q_b6 S_b6 N_b6 H_b6 G_b6 rfl W9 2 rfl (Nat.le_of_ble_eq_true rfl)
  have K9 : Keep h0 h9 [] := K8.wr W9 (Or.inr sz_b6)
  have N9 := Fr.snoc X9 N8 g_b6
  obtain ⟨T10, h10, X10, e10, E10, A10, D10, -, st10⟩ := newO X9 hx hZ hown (hw _ (List.mem_of_getElem? (i := 2) rfl)) (hw _ (List.mem_of_getElem? (i := 3) rfl)) (hw _ (List.mem_of_getElem? (i := 4) rfl)) e9 (g := (mkF m 58 #[.val (.int p1), .val (.int p2), .val (.int p3), .val (.int p4), .val (.int p5), .val (.int (3 : Int32)), .val (.ref b6), .unset, .unset, .unset, .unset, .unset] [])) rfl (hb hby at_58) (by decide) (by decide)
  obtain ⟨b10, g10⟩ : ∃ z, z = h9.size := ⟨_, rfl⟩
  rw [← g10] at A10 D10 st10
  have F_codes_b10 : Fld Z h10 b10 "com/example/tendril/tendril/WireColumns$Formats" "codes" "[I" .null := D10 (Or.inr (hw _ (List.mem_of_getElem? (i := 21) rfl))) (ty := (.array .int)) (by decide)
  have E_b10 := A10
  have g_b10 : n0 ≤ b10 := Nat.le_trans (Nat.le_trans (Nat.le_trans (Nat.le_trans (Nat.le_trans Z0 E6.1) (Keep.of_wr W7).1) (Keep.of_wr W8).1) (Keep.of_wr W9).1) (Nat.le_of_eq g10.symm)
  have sz_b10 : h0.size ≤ b10 := (Nat.le_trans K9.1 (Nat.le_of_eq g10.symm))
  have K10 : Keep h0 h10 [] := K9.ext E10
  obtain ⟨_, _, ⟨T11, L11, k11, n11⟩, -, X11, ⟨Lc11, hQ11, l11, y11, z11⟩, st11⟩ := X10.specialBack hx (y := (⟨"com/example/tendril/tendril/WireColumns$Formats", "<init>", "([I)V"⟩ : MethodName)) rfl hown (mvT hZ (hw _ (List.mem_of_getElem? (i := 5) rfl))) (mvT hZ (hw _ (List.mem_of_getElem? (i := 6) rfl))) (mvT hZ (hw _ (List.mem_of_getElem? (i := 7) rfl))) (by decide) (backOf (W := 1) (rm1 l Z a0 hw [] b10 b6 .null _ _ _ _ h10 n0 (Nat.le_trans Z0 K10.1) ((((Ea6.wr W7).wr W8).wr W9).ext E10) (V_b6_9.ext E10) (by decide) E_b10 F_codes_b10 g_b10) hZ (hw _ (List.mem_of_getElem? (i := 7) rfl)) (hw _ (List.mem_of_getElem? (i := 4) rfl)) (by decide) (by decide)) (g := (mkF m 64 #[.val (.int p1), .val (.int p2), .val (.int p3), .val (.int p4), .val (.int p5), .val (.int (3 : Int32)), .val (.ref b6), .unset, .unset, .unset, .unset, .unset] [(.ref b6), (.ref b10), (.ref b10)])) rfl (by rw [hml]; rfl) (Steps.refl _) (a := b10) (argsL := [(.ref b6)]) (rest := [(.ref b10)]) (lenOf pd_0_0 rfl) rfl (by show 2 * 0 + _ ≤ _; exact Nat.le_of_eq rfl) (hb hby at_64) (fun _ _ => ⟨rfl, e10, (Nat.le_of_ble_eq_true rfl), (Nat.le_of_ble_eq_true rfl)⟩)
  dsimp only [Pt.U, Pt.locs, Pt.cells, Pt.slots] at X11 l11 y11 z11 st11 hQ11
  subst l11 y11 z11
  obtain ⟨rfl, N11q, K11c, E11c, bC, szC, FC, VC⟩ := hQ11
  have ne_ao : b6 ≠ b10 := Nat.ne_of_lt (Nat.lt_of_lt_of_le V_b6_9.lt (Nat.le_of_eq g10.symm))
  have ne_Ca : bC ≠ b6 := Ne.symm (Nat.ne_of_lt (Nat.lt_of_lt_of_le (V_b6_9.ext E10).lt szC))
  have K11 : Keep h0 T11.heap [] := K10.trans K11c (allS (Or.inr sz_b10) all0)
  have N11 := Fr.app N9 N11q
  obtain ⟨_, _, ⟨T12, L12, k12, n12⟩, -, X12, ⟨Lc12, hQ12, l12, y12, z12⟩, st12⟩ := Jvm.LawKit.callS X11 hx (y := (⟨"com/example/tendril/tendril/FormatsAnyBinaryPinLaw", "hit", "(III)Z"⟩ : MethodName)) hown (mvT hZ (hw _ (List.mem_of_getElem? (i := 22) rfl))) (mvT hZ (hw _ (List.mem_of_getElem? (i := 23) rfl))) (mvT hZ (hw _ (List.mem_of_getElem? (i := 24) rfl))) (mvT hZ (hw _ (List.mem_of_getElem? (i := 25) rfl))) (by decide) (backOf (W := 0) (rm3ft l Z a0 hw [] (3 : Int32) (0 : Int32) p2 T11.heap n0 (Nat.le_trans Z0 K11.1) (by decide) ch0) hZ (hw _ (List.mem_of_getElem? (i := 25) rfl)) (hw _ (List.mem_of_getElem? (i := 24) rfl)) (by decide) (by decide)) (g := (mkF m 73 #[.val (.int p1), .val (.int p2), .val (.int p3), .val (.int p4), .val (.int p5), .val (.int (3 : Int32)), .val (.ref b6), .val (.ref b10), .unset, .unset, .unset, .unset] [(.int p2), (.int (0 : Int32)), (.int (3 : Int32))])) rfl (by rw [hml]; rfl) (argsL := [(.int (3 : Int32)), (.int (0 : Int32)), (.int p2)]) (rest := []) (lenOf pd_0_3 rfl) rfl (by show 2 * 0 + _ ≤ _; exact Nat.le_of_eq rfl) (hb hby at_73) (fun _ _ => ⟨rfl, rfl, (Nat.le_of_ble_eq_true rfl), (Nat.le_of_ble_eq_true rfl)⟩)
  dsimp only [Pt.U, Pt.locs, Pt.cells, Pt.slots] at X12 l12 y12 z12 st12 hQ12
  subst l12 y12 z12
  obtain ⟨rfl, N12q, e12⟩ := hQ12
  have K12 : Keep h0 T12.heap [] := K11.trans (own_keq e12) all0
  have N12 := Fr.app N11 N12q
  obtain ⟨_, _, ⟨T13, L13, k13, n13⟩, -, X13, ⟨Lc13, hQ13, l13, y13, z13⟩, st13⟩ := Jvm.LawKit.callS X12 hx (y := (⟨"com/example/tendril/tendril/FormatsAnyBinaryPinLaw", "hit", "(III)Z"⟩ : MethodName)) hown (mvT hZ (hw _ (List.mem_of_getElem? (i := 22) rfl))) (mvT hZ (hw _ (List.mem_of_getElem? (i := 23) rfl))) (mvT hZ (hw _ (List.mem_of_getElem? (i := 24) rfl))) (mvT hZ (hw _ (List.mem_of_getElem? (i := 25) rfl))) (by decide) (backOf (W := 0) (rm3ft l Z a0 hw [] (3 : Int32) (1 : Int32) p3 T12.heap n0 (Nat.le_trans Z0 K12.1) (by decide) ch1) hZ (hw _ (List.mem_of_getElem? (i := 25) rfl)) (hw _ (List.mem_of_getElem? (i := 24) rfl)) (by decide) (by decide)) (g := (mkF m 83 #[.val (.int p1), .val (.int p2), .val (.int p3), .val (.int p4), .val (.int p5), .val (.int (3 : Int32)), .val (.ref b6), .val (.ref b10), .unset, .unset, .unset, .unset] [(.int p3), (.int (1 : Int32)), (.int (3 : Int32))])) rfl (by rw [hml]; rfl) (argsL := [(.int (3 : Int32)), (.int (1 : Int32)), (.int p3)]) (rest := []) (lenOf pd_0_3 rfl) rfl (by show 2 * 0 + _ ≤ _; exact Nat.le_of_eq rfl) (hb hby at_83) (fun _ _ => ⟨rfl, rfl, (Nat.le_of_ble_eq_true rfl), (Nat.le_of_ble_eq_true rfl)⟩)
  dsimp only [Pt.U, Pt.locs, Pt.cells, Pt.slots] at X13 l13 y13 z13 st13 hQ13
  subst l13 y13 z13
  obtain ⟨rfl, N13q, e13⟩ := hQ13
  have K13 : Keep h0 T13.heap [] := K12.trans (own_keq e13) all0
  have N13 := Fr.app N12 N13q
  obtain ⟨_, _, ⟨T14, L14, k14, n14⟩, -, X14, ⟨Lc14, hQ14, l14, y14, z14⟩, st14⟩ := Jvm.LawKit.callS X13 hx (y := (⟨"com/example/tendril/tendril/FormatsAnyBinaryPinLaw", "hit", "(III)Z"⟩ : MethodName)) hown (mvT hZ (hw _ (List.mem_of_getElem? (i := 22) rfl))) (mvT hZ (hw _ (List.mem_of_getElem? (i := 23) rfl))) (mvT hZ (hw _ (List.mem_of_getElem? (i := 24) rfl))) (mvT hZ (hw _ (List.mem_of_getElem? (i := 25) rfl))) (by decide) (backOf (W := 0) (rm3ff l Z a0 hw [] (3 : Int32) (2 : Int32) p4 T13.heap n0 (Nat.le_trans Z0 K13.1) (by decide) ch2) hZ (hw _ (List.mem_of_getElem? (i := 25) rfl)) (hw _ (List.mem_of_getElem? (i := 24) rfl)) (by decide) (by decide)) (g := (mkF m 93 #[.val (.int p1), .val (.int p2), .val (.int p3), .val (.int p4), .val (.int p5), .val (.int (3 : Int32)), .val (.ref b6), .val (.ref b10), .unset, .unset, .unset, .unset] [(.int p4), (.int (2 : Int32)), (.int (3 : Int32))])) rfl (by rw [hml]; rfl) (argsL := [(.int (3 : Int32)), (.int (2 : Int32)), (.int p4)]) (rest := []) (lenOf pd_0_3 rfl) rfl (by show 2 * 0 + _ ≤ _; exact Nat.le_of_eq rfl) (hb hby at_93) (fun _ _ => ⟨rfl, rfl, (Nat.le_of_ble_eq_true rfl), (Nat.le_of_ble_eq_true rfl)⟩)
  dsimp only [Pt.U, Pt.locs, Pt.cells, Pt.slots] at X14 l14 y14 z14 st14 hQ14
  subst l14 y14 z14
  obtain ⟨rfl, N14q, e14⟩ := hQ14
  have K14 : Keep h0 T14.heap [] := K13.trans (own_keq e14) all0
  have N14 := Fr.app N13 N14q
  obtain ⟨clC1, ArC1, -, SC1, NC1, HC1, -⟩ := (((VC.keep (own_keq e12) nin0).keep (own_keq e13) nin0).keep (own_keq e14) nin0)
  have HV1 : ∀ j, j < 3 → clC1.slots[j]? = some (.int (own_at [p2, p3, p4] j)) := by
    intro j hj
    match j, hj with
    | 0, _ => exact HC1 0 (by rw [SC1]; decide)
    | 1, _ => exact HC1 1 (by rw [SC1]; decide)
    | 2, _ => exact HC1 2 (by rw [SC1]; decide)
  obtain ⟨cq15, kq15, q15a, q15b, q15c⟩ := isOf hZ rfl ((((E_b10.keep K11c).keep (own_keq e12)).keep (own_keq e13)).keep (own_keq e14))
  obtain ⟨_, _, ⟨T15, L15, k15, n15⟩, -, X15, ⟨Lc15, hQ15, l15, y15, z15⟩, st15⟩ := X14.virtualBack hx (y := (⟨"com/example/tendril/tendril/WireColumns$Formats", "anyBinary", "()Z"⟩ : MethodName)) (z := (⟨"com/example/tendril/tendril/WireColumns$Formats", "anyBinary", "()Z"⟩ : MethodName)) hown (mvT hZ (hw _ (List.mem_of_getElem? (i := 26) rfl))) (mvT hZ (hw _ (List.mem_of_getElem? (i := 27) rfl))) (notFace_of_selects (args := #[]) (mvT hZ (hw _ (List.mem_of_getElem? (i := 29) rfl)))) (mvT hZ (hw _ (List.mem_of_getElem? (i := 29) rfl))) (mvT hZ (hw _ (List.mem_of_getElem? (i := 28) rfl))) (by decide) (backOf (W := 0) (rm4 l Z a0 hw [] b10 bC clC1 3 (own_at [p2, p3, p4]) T14.heap n0 (Nat.le_trans Z0 K14.1) (((FC.keep (own_keq e12) nin0).keep (own_keq e13) nin0).keep (own_keq e14) nin0) ArC1 (SC1.trans (by decide)) HV1 (by decide)) hZ (hw _ (List.mem_of_getElem? (i := 30) rfl)) (hw _ (List.mem_of_getElem? (i := 4) rfl)) (by decide) (by decide)) q15a q15c (g := (mkF m 119 #[.val (.int p1), .val (.int p2), .val (.int p3), .val (.int p4), .val (.int p5), .val (.int (3 : Int32)), .val (.ref b6), .val (.ref b10), .val (.int (1 : Int32)), .unset, .unset, .unset] [(.ref b10)])) rfl (by rw [hml]; rfl) (Steps.refl _) (argsL := []) (rest := []) (lenOf pd_0_4 rfl) rfl (by show 2 * 0 + _ ≤ _; exact Nat.le_of_eq rfl) (hb hby at_119) (fun _ _ => ⟨rfl, rfl, (Nat.le_of_ble_eq_true rfl), (Nat.le_of_ble_eq_true rfl)⟩)
  dsimp only [Pt.U, Pt.locs, Pt.cells, Pt.slots] at X15 l15 y15 z15 st15 hQ15
  subst l15 y15 z15
  obtain ⟨rfl, N15q, e15⟩ := hQ15
  have K15 : Keep h0 T15.heap [] := K14.trans (own_keq e15) all0
  have N15 := Fr.app N14 N15q
  obtain ⟨cl_b6_146, Ar_b6, q_b6, S_b6, N_b6, H_b6, G_b6⟩ := ((((((V_b6_9.ext E10).keep K11c (ninS ne_ao nin0)).keep (own_keq e12) nin0).keep (own_keq e13) nin0).keep (own_keq e14) nin0).keep (own_keq e15) nin0)
  have hin146 : ¬ ((0 : Int32) < 0 ∨ cl_b6_146.slots.size ≤ ((0 : Int32)).toNatClampNeg) := inb_of S_b6 ⟨by decide, by decide⟩
  obtain ⟨T16, h16, X16, e16, W16, st16⟩ := stI X15 hx hZ rfl Ar_b6 (j := (0 : Int32)) hin146 (g := (mkF m 146 #[.val (.int p1), .val (.int p2), .val (.int p3), .val (.int p4), .val (.int p5), .val (.int (3 : Int32)), .val (.ref b6), .val (.ref b10), .val (.int (1 : Int32)), .val (.int (own_anyf (own_at [p2, p3, p4]) 3 0 0)), .val (.int (0 : Int32)), .unset] [(.int (0 : Int32)), (.int (0 : Int32)), (.ref b6)])) rfl rfl (hb hby at_146)
  have V_b6_16 := Arv.set Ar_b6 q_b6 S_b6 N_b6 H_b6 G_b6 rfl W16 0 rfl (Nat.le_of_ble_eq_true rfl)
  have K16 : Keep h0 h16 [] := K15.wr W16 (Or.inr sz_b6)
  have N16 := Fr.snoc X16 N15 g_b6
  obtain ⟨cl_b6_158, Ar_b6, q_b6, S_b6, N_b6, H_b6, G_b6⟩ := V_b6_16
  have hin158 : ¬ ((1 : Int32) < 0 ∨ cl_b6_158.slots.size ≤ ((1 : Int32)).toNatClampNeg) := inb_of S_b6 ⟨by decide, by decide⟩
  obtain ⟨T17, h17, X17, e17, W17, st17⟩ := stI X16 hx hZ e16 Ar_b6 (j := (1 : Int32)) hin158 (g := (mkF m 158 #[.val (.int p1), .val (.int p2), .val (.int p3), .val (.int p4), .val (.int p5), .val (.int (3 : Int32)), .val (.ref b6), .val (.ref b10), .val (.int (1 : Int32)), .val (.int (own_anyf (own_at [p2, p3, p4]) 3 0 0)), .val (.int (0 : Int32)), .unset] [(.int (0 : Int32)), (.int (1 : Int32)), (.ref b6)])) rfl rfl (hb hby at_158)
  have V_b6_17 := Arv.set Ar_b6 q_b6 S_b6 N_b6 H_b6 G_b6 rfl W17 1 rfl (Nat.le_of_ble_eq_true rfl)
  have K17 : Keep h0 h17 [] := K16.wr W17 (Or.inr sz_b6)
  have N17 := Fr.snoc X17 N16 g_b6
  obtain ⟨cl_b6_170, Ar_b6, q_b6, S_b6, N_b6, H_b6, G_b6⟩ := V_b6_17
  have hin170 : ¬ ((2 : Int32) < 0 ∨ cl_b6_170.slots.size ≤ ((2 : Int32)).toNatClampNeg) := inb_of S_b6 ⟨by decide, by decide⟩
  obtain ⟨T18, h18, X18, e18, W18, st18⟩ := stI X17 hx hZ e17 Ar_b6 (j := (2 : Int32)) hin170 (g := (mkF m 170 #[.val (.int p1), .val (.int p2), .val (.int p3), .val (.int p4), .val (.int p5), .val (.int (3 : Int32)), .val (.ref b6), .val (.ref b10), .val (.int (1 : Int32)), .val (.int (own_anyf (own_at [p2, p3, p4]) 3 0 0)), .val (.int (0 : Int32)), .unset] [(.int (0 : Int32)), (.int (2 : Int32)), (.ref b6)])) rfl rfl (hb hby at_170)
  have V_b6_18 := Arv.set Ar_b6 q_b6 S_b6 N_b6 H_b6 G_b6 rfl W18 2 rfl (Nat.le_of_ble_eq_true rfl)
  have K18 : Keep h0 h18 [] := K17.wr W18 (Or.inr sz_b6)
  have N18 := Fr.snoc X18 N17 g_b6
  obtain ⟨clC2, ArC2, -, SC2, NC2, HC2, -⟩ := (((((((VC.keep (own_keq e12) nin0).keep (own_keq e13) nin0).keep (own_keq e14) nin0).keep (own_keq e15) nin0).other W16 ne_Ca).other W17 ne_Ca).other W18 ne_Ca)
  have HV2 : ∀ j, j < 3 → clC2.slots[j]? = some (.int (own_at [p2, p3, p4] j)) := by
    intro j hj
    match j, hj with
    | 0, _ => exact HC2 0 (by rw [SC2]; decide)
    | 1, _ => exact HC2 1 (by rw [SC2]; decide)
    | 2, _ => exact HC2 2 (by rw [SC2]; decide)
  obtain ⟨cq19, kq19, q19a, q19b, q19c⟩ := isOf hZ e18 ((((((((E_b10.keep K11c).keep (own_keq e12)).keep (own_keq e13)).keep (own_keq e14)).keep (own_keq e15)).wr W16).wr W17).wr W18)
  obtain ⟨_, _, ⟨T19, L19, k19, n19⟩, -, X19, ⟨Lc19, hQ19, l19, y19, z19⟩, st19⟩ := X18.virtualBack hx (y := (⟨"com/example/tendril/tendril/WireColumns$Formats", "anyBinary", "()Z"⟩ : MethodName)) (z := (⟨"com/example/tendril/tendril/WireColumns$Formats", "anyBinary", "()Z"⟩ : MethodName)) hown (mvT hZ (hw _ (List.mem_of_getElem? (i := 26) rfl))) (mvT hZ (hw _ (List.mem_of_getElem? (i := 27) rfl))) (notFace_of_selects (args := #[]) (mvT hZ (hw _ (List.mem_of_getElem? (i := 29) rfl)))) (mvT hZ (hw _ (List.mem_of_getElem? (i := 29) rfl))) (mvT hZ (hw _ (List.mem_of_getElem? (i := 28) rfl))) (by decide) (backOf (W := 0) (rm4 l Z a0 hw [] b10 bC clC2 3 (own_at [p2, p3, p4]) h18 n0 (Nat.le_trans Z0 K18.1) (((((((FC.keep (own_keq e12) nin0).keep (own_keq e13) nin0).keep (own_keq e14) nin0).keep (own_keq e15) nin0).other W16 (Or.inl (Ne.symm ne_ao))).other W17 (Or.inl (Ne.symm ne_ao))).other W18 (Or.inl (Ne.symm ne_ao))) ArC2 (SC2.trans (by decide)) HV2 (by decide)) hZ (hw _ (List.mem_of_getElem? (i := 30) rfl)) (hw _ (List.mem_of_getElem? (i := 4) rfl)) (by decide) (by decide)) q19a q19c (g := (mkF m 185 #[.val (.int p1), .val (.int p2), .val (.int p3), .val (.int p4), .val (.int p5), .val (.int (3 : Int32)), .val (.ref b6), .val (.ref b10), .val (.int (1 : Int32)), .val (.int (own_anyf (own_at [p2, p3, p4]) 3 0 0)), .val (.int (0 : Int32)), .unset] [(.ref b10)])) rfl (by rw [hml]; rfl) (Steps.refl _) (argsL := []) (rest := []) (lenOf pd_0_4 rfl) rfl (by show 2 * 0 + _ ≤ _; exact Nat.le_of_eq rfl) (hb hby at_185) (fun _ _ => ⟨rfl, e18, (Nat.le_of_ble_eq_true rfl), (Nat.le_of_ble_eq_true rfl)⟩)
  dsimp only [Pt.U, Pt.locs, Pt.cells, Pt.slots] at X19 l19 y19 z19 st19 hQ19
  subst l19 y19 z19
  obtain ⟨rfl, N19q, e19⟩ := hQ19
  have K19 : Keep h0 T19.heap [] := K18.trans (own_keq e19) all0
  have N19 := Fr.app N18 N19q
  obtain ⟨fs, hr, hrun, hended, hW, hsame⟩ := X19.leave (v := some (.int (1 : Int32))) (fun h => by rw [Bd.returns] at h; cases h)
  refine ⟨_, _, pre0 _ ?_, hrun, hended, _, _, rfl, ?_, ⟨_, rfl⟩, hW, hsame.mono (by decide) (by decide)⟩
  · show Steps p.tables e below (s₁.setTop (mkF m 0 #[.val (.int p1), .val (.int p2), .val (.int p3), .val (.int p4), .val (.int p5), .unset, .unset, .unset, .unset, .unset, .unset, .unset] [])) _
    refine XS.iloadN X0.here hx rfl (hb hby at_0) rfl ?_
    show Steps p.tables e below (s₁.setTop (mkF m 1 #[.val (.int p1), .val (.int p2), .val (.int p3), .val (.int p4), .val (.int p5), .unset, .unset, .unset, .unset, .unset, .unset, .unset] [(.int p1)])) _
    refine X0.ldcInt hx hown (mvT hZ (hw _ (List.mem_of_getElem? (i := 0) rfl))) (g := (mkF m 1 #[.val (.int p1), .val (.int p2), .val (.int p3), .val (.int p4), .val (.int p5), .unset, .unset, .unset, .unset, .unset, .unset, .unset] [(.int p1)])) rfl (hb hby at_1) _ ?_
    show Steps p.tables e below (s₁.setTop (mkF m 3 #[.val (.int p1), .val (.int p2), .val (.int p3), .val (.int p4), .val (.int p5), .unset, .unset, .unset, .unset, .unset, .unset, .unset] [(.int (2147483647 : Int32)), (.int p1)])) _
    refine XS.iand X0.here hx rfl (hb hby at_3) rfl ?_
    show Steps p.tables e below (s₁.setTop (mkF m 4 #[.val (.int p1), .val (.int p2), .val (.int p3), .val (.int p4), .val (.int p5), .unset, .unset, .unset, .unset, .unset, .unset, .unset] [(.int (p1 &&& (2147483647 : Int32)))])) _
    refine XS.iconst X0.here hx rfl (hb hby at_4) ?_
    show Steps p.tables e below (s₁.setTop (mkF m 5 #[.val (.int p1), .val (.int p2), .val (.int p3), .val (.int p4), .val (.int p5), .unset, .unset, .unset, .unset, .unset, .unset, .unset] [(.int (5 : Int32)), (.int (p1 &&& (2147483647 : Int32)))])) _
    refine iremM X0 hx rfl (hb hby at_5) rfl (by decide) ?_
    rw [hp5]
    show Steps p.tables e below (s₁.setTop (mkF m 6 #[.val (.int p1), .val (.int p2), .val (.int p3), .val (.int p4), .val (.int p5), .unset, .unset, .unset, .unset, .unset, .unset, .unset] [(.int (3 : Int32))])) _
    refine XS.istore X0.here hx rfl (hb hby at_6) rfl (l' := #[.val (.int p1), .val (.int p2), .val (.int p3), .val (.int p4), .val (.int p5), .val (.int (3 : Int32)), .unset, .unset, .unset, .unset, .unset, .unset]) rfl ?_
    show Steps p.tables e below (s₁.setTop (mkF m 8 #[.val (.int p1), .val (.int p2), .val (.int p3), .val (.int p4), .val (.int p5), .val (.int (3 : Int32)), .unset, .unset, .unset, .unset, .unset, .unset] [])) _
    refine XS.iload X0.here hx rfl (hb hby at_8) rfl ?_
    show Steps p.tables e below (s₁.setTop (mkF m 10 #[.val (.int p1), .val (.int p2), .val (.int p3), .val (.int p4), .val (.int p5), .val (.int (3 : Int32)), .unset, .unset, .unset, .unset, .unset, .unset] [(.int (3 : Int32))])) _
    refine st6 _ ?_
    show Steps p.tables e below (T6.setTop (mkF m 12 #[.val (.int p1), .val (.int p2), .val (.int p3), .val (.int p4), .val (.int p5), .val (.int (3 : Int32)), .unset, .unset, .unset, .unset, .unset, .unset] [(.ref b6)])) _
    refine XS.astore X6.here hx rfl (hb hby at_12) rfl rfl (l' := #[.val (.int p1), .val (.int p2), .val (.int p3), .val (.int p4), .val (.int p5), .val (.int (3 : Int32)), .val (.ref b6), .unset, .unset, .unset, .unset, .unset]) rfl ?_
    show Steps p.tables e below (T6.setTop (mkF m 14 #[.val (.int p1), .val (.int p2), .val (.int p3), .val (.int p4), .val (.int p5), .val (.int (3 : Int32)), .val (.ref b6), .unset, .unset, .unset, .unset, .unset] [])) _
    refine XS.iload X6.here hx rfl (hb hby at_14) rfl ?_
    show Steps p.tables e below (T6.setTop (mkF m 16 #[.val (.int p1), .val (.int p2), .val (.int p3), .val (.int p4), .val (.int p5), .val (.int (3 : Int32)), .val (.ref b6), .unset, .unset, .unset, .unset, .unset] [(.int (3 : Int32))])) _
    refine XS.ifNo X6.here hx rfl (hb hby at_16) rfl ((if0 _ _).trans (tlt (by decide : (0 : Int32) < (3 : Int32))).2.2.2) ?_
    show Steps p.tables e below (T6.setTop (mkF m 19 #[.val (.int p1), .val (.int p2), .val (.int p3), .val (.int p4), .val (.int p5), .val (.int (3 : Int32)), .val (.ref b6), .unset, .unset, .unset, .unset, .unset] [])) _
    refine XS.aload X6.here hx rfl (hb hby at_19) rfl rfl ?_
    show Steps p.tables e below (T6.setTop (mkF m 21 #[.val (.int p1), .val (.int p2), .val (.int p3), .val (.int p4), .val (.int p5), .val (.int (3 : Int32)), .val (.ref b6), .unset, .unset, .unset, .unset, .unset] [(.ref b6)])) _
    refine XS.iconst X6.here hx rfl (hb hby at_21) ?_
    show Steps p.tables e below (T6.setTop (mkF m 22 #[.val (.int p1), .val (.int p2), .val (.int p3), .val (.int p4), .val (.int p5), .val (.int (3 : Int32)), .val (.ref b6), .unset, .unset, .unset, .unset, .unset] [(.int (0 : Int32)), (.ref b6)])) _
    refine XS.iloadN X6.here hx rfl (hb hby at_22) rfl ?_
    show Steps p.tables e below (T6.setTop (mkF m 23 #[.val (.int p1), .val (.int p2), .val (.int p3), .val (.int p4), .val (.int p5), .val (.int (3 : Int32)), .val (.ref b6), .unset, .unset, .unset, .unset, .unset] [(.int p2), (.int (0 : Int32)), (.ref b6)])) _
    refine st7 _ ?_
    show Steps p.tables e below (T7.setTop (mkF m 24 #[.val (.int p1), .val (.int p2), .val (.int p3), .val (.int p4), .val (.int p5), .val (.int (3 : Int32)), .val (.ref b6), .unset, .unset, .unset, .unset, .unset] [])) _
    refine XS.iload X7.here hx rfl (hb hby at_24) rfl ?_
    show Steps p.tables e below (T7.setTop (mkF m 26 #[.val (.int p1), .val (.int p2), .val (.int p3), .val (.int p4), .val (.int p5), .val (.int (3 : Int32)), .val (.ref b6), .unset, .unset, .unset, .unset, .unset] [(.int (3 : Int32))])) _
    refine XS.iconst X7.here hx rfl (hb hby at_26) ?_
    show Steps p.tables e below (T7.setTop (mkF m 27 #[.val (.int p1), .val (.int p2), .val (.int p3), .val (.int p4), .val (.int p5), .val (.int (3 : Int32)), .val (.ref b6), .unset, .unset, .unset, .unset, .unset] [(.int (1 : Int32)), (.int (3 : Int32))])) _
    refine XS.icmpNo X7.here hx rfl (hb hby at_27) rfl (tlt (by decide : (1 : Int32) < (3 : Int32))).2.2.2 ?_
    show Steps p.tables e below (T7.setTop (mkF m 30 #[.val (.int p1), .val (.int p2), .val (.int p3), .val (.int p4), .val (.int p5), .val (.int (3 : Int32)), .val (.ref b6), .unset, .unset, .unset, .unset, .unset] [])) _
    refine XS.aload X7.here hx rfl (hb hby at_30) rfl rfl ?_
    show Steps p.tables e below (T7.setTop (mkF m 32 #[.val (.int p1), .val (.int p2), .val (.int p3), .val (.int p4), .val (.int p5), .val (.int (3 : Int32)), .val (.ref b6), .unset, .unset, .unset, .unset, .unset] [(.ref b6)])) _
    refine XS.iconst X7.here hx rfl (hb hby at_32) ?_
    show Steps p.tables e below (T7.setTop (mkF m 33 #[.val (.int p1), .val (.int p2), .val (.int p3), .val (.int p4), .val (.int p5), .val (.int (3 : Int32)), .val (.ref b6), .unset, .unset, .unset, .unset, .unset] [(.int (1 : Int32)), (.ref b6)])) _
    refine XS.iloadN X7.here hx rfl (hb hby at_33) rfl ?_
    show Steps p.tables e below (T7.setTop (mkF m 34 #[.val (.int p1), .val (.int p2), .val (.int p3), .val (.int p4), .val (.int p5), .val (.int (3 : Int32)), .val (.ref b6), .unset, .unset, .unset, .unset, .unset] [(.int p3), (.int (1 : Int32)), (.ref b6)])) _
    refine st8 _ ?_
    show Steps p.tables e below (T8.setTop (mkF m 35 #[.val (.int p1), .val (.int p2), .val (.int p3), .val (.int p4), .val (.int p5), .val (.int (3 : Int32)), .val (.ref b6), .unset, .unset, .unset, .unset, .unset] [])) _
    refine XS.iload X8.here hx rfl (hb hby at_35) rfl ?_
    show Steps p.tables e below (T8.setTop (mkF m 37 #[.val (.int p1), .val (.int p2), .val (.int p3), .val (.int p4), .val (.int p5), .val (.int (3 : Int32)), .val (.ref b6), .unset, .unset, .unset, .unset, .unset] [(.int (3 : Int32))])) _
    refine XS.iconst X8.here hx rfl (hb hby at_37) ?_
    show Steps p.tables e below (T8.setTop (mkF m 38 #[.val (.int p1), .val (.int p2), .val (.int p3), .val (.int p4), .val (.int p5), .val (.int (3 : Int32)), .val (.ref b6), .unset, .unset, .unset, .unset, .unset] [(.int (2 : Int32)), (.int (3 : Int32))])) _
    refine XS.icmpNo X8.here hx rfl (hb hby at_38) rfl (tlt (by decide : (2 : Int32) < (3 : Int32))).2.2.2 ?_
    show Steps p.tables e below (T8.setTop (mkF m 41 #[.val (.int p1), .val (.int p2), .val (.int p3), .val (.int p4), .val (.int p5), .val (.int (3 : Int32)), .val (.ref b6), .unset, .unset, .unset, .unset, .unset] [])) _
    refine XS.aload X8.here hx rfl (hb hby at_41) rfl rfl ?_
    show Steps p.tables e below (T8.setTop (mkF m 43 #[.val (.int p1), .val (.int p2), .val (.int p3), .val (.int p4), .val (.int p5), .val (.int (3 : Int32)), .val (.ref b6), .unset, .unset, .unset, .unset, .unset] [(.ref b6)])) _
    refine XS.iconst X8.here hx rfl (hb hby at_43) ?_
    show Steps p.tables e below (T8.setTop (mkF m 44 #[.val (.int p1), .val (.int p2), .val (.int p3), .val (.int p4), .val (.int p5), .val (.int (3 : Int32)), .val (.ref b6), .unset, .unset, .unset, .unset, .unset] [(.int (2 : Int32)), (.ref b6)])) _
    refine XS.iloadN X8.here hx rfl (hb hby at_44) rfl ?_
    show Steps p.tables e below (T8.setTop (mkF m 45 #[.val (.int p1), .val (.int p2), .val (.int p3), .val (.int p4), .val (.int p5), .val (.int (3 : Int32)), .val (.ref b6), .unset, .unset, .unset, .unset, .unset] [(.int p4), (.int (2 : Int32)), (.ref b6)])) _
    refine st9 _ ?_
    show Steps p.tables e below (T9.setTop (mkF m 46 #[.val (.int p1), .val (.int p2), .val (.int p3), .val (.int p4), .val (.int p5), .val (.int (3 : Int32)), .val (.ref b6), .unset, .unset, .unset, .unset, .unset] [])) _
    refine XS.iload X9.here hx rfl (hb hby at_46) rfl ?_
    show Steps p.tables e below (T9.setTop (mkF m 48 #[.val (.int p1), .val (.int p2), .val (.int p3), .val (.int p4), .val (.int p5), .val (.int (3 : Int32)), .val (.ref b6), .unset, .unset, .unset, .unset, .unset] [(.int (3 : Int32))])) _
    refine XS.iconst X9.here hx rfl (hb hby at_48) ?_
    show Steps p.tables e below (T9.setTop (mkF m 49 #[.val (.int p1), .val (.int p2), .val (.int p3), .val (.int p4), .val (.int p5), .val (.int (3 : Int32)), .val (.ref b6), .unset, .unset, .unset, .unset, .unset] [(.int (3 : Int32)), (.int (3 : Int32))])) _
    refine XS.icmpYes X9.here hx rfl (pc0 := 49) (pc' := 58) rfl (hb hby at_49) rfl (flt (by decide : ¬ ((3 : Int32) < (3 : Int32)))).2.2.2 (by decide) (by decide) ?_
    show Steps p.tables e below (T9.setTop (mkF m 58 #[.val (.int p1), .val (.int p2), .val (.int p3), .val (.int p4), .val (.int p5), .val (.int (3 : Int32)), .val (.ref b6), .unset, .unset, .unset, .unset, .unset] [])) _
    refine st10 _ ?_
    show Steps p.tables e below (T10.setTop (mkF m 61 #[.val (.int p1), .val (.int p2), .val (.int p3), .val (.int p4), .val (.int p5), .val (.int (3 : Int32)), .val (.ref b6), .unset, .unset, .unset, .unset, .unset] [(.ref b10)])) _
    refine XS.dup X10.here hx rfl (hb hby at_61) rfl rfl ?_
    show Steps p.tables e below (T10.setTop (mkF m 62 #[.val (.int p1), .val (.int p2), .val (.int p3), .val (.int p4), .val (.int p5), .val (.int (3 : Int32)), .val (.ref b6), .unset, .unset, .unset, .unset, .unset] [(.ref b10), (.ref b10)])) _
    refine XS.aload X10.here hx rfl (hb hby at_62) rfl rfl ?_
    show Steps p.tables e below (T10.setTop (mkF m 64 #[.val (.int p1), .val (.int p2), .val (.int p3), .val (.int p4), .val (.int p5), .val (.int (3 : Int32)), .val (.ref b6), .unset, .unset, .unset, .unset, .unset] [(.ref b6), (.ref b10), (.ref b10)])) _
    refine st11.trans ?_
    show Steps p.tables e below (T11.setTop (mkF m 67 #[.val (.int p1), .val (.int p2), .val (.int p3), .val (.int p4), .val (.int p5), .val (.int (3 : Int32)), .val (.ref b6), .unset, .unset, .unset, .unset, .unset] [(.ref b10)])) _
    refine XS.astore X11.here hx rfl (hb hby at_67) rfl rfl (l' := #[.val (.int p1), .val (.int p2), .val (.int p3), .val (.int p4), .val (.int p5), .val (.int (3 : Int32)), .val (.ref b6), .val (.ref b10), .unset, .unset, .unset, .unset]) rfl ?_
    show Steps p.tables e below (T11.setTop (mkF m 69 #[.val (.int p1), .val (.int p2), .val (.int p3), .val (.int p4), .val (.int p5), .val (.int (3 : Int32)), .val (.ref b6), .val (.ref b10), .unset, .unset, .unset, .unset] [])) _
    refine XS.iload X11.here hx rfl (hb hby at_69) rfl ?_
    show Steps p.tables e below (T11.setTop (mkF m 71 #[.val (.int p1), .val (.int p2), .val (.int p3), .val (.int p4), .val (.int p5), .val (.int (3 : Int32)), .val (.ref b6), .val (.ref b10), .unset, .unset, .unset, .unset] [(.int (3 : Int32))])) _
    refine XS.iconst X11.here hx rfl (hb hby at_71) ?_
    show Steps p.tables e below (T11.setTop (mkF m 72 #[.val (.int p1), .val (.int p2), .val (.int p3), .val (.int p4), .val (.int p5), .val (.int (3 : Int32)), .val (.ref b6), .val (.ref b10), .unset, .unset, .unset, .unset] [(.int (0 : Int32)), (.int (3 : Int32))])) _
    refine XS.iloadN X11.here hx rfl (hb hby at_72) rfl ?_
    show Steps p.tables e below (T11.setTop (mkF m 73 #[.val (.int p1), .val (.int p2), .val (.int p3), .val (.int p4), .val (.int p5), .val (.int (3 : Int32)), .val (.ref b6), .val (.ref b10), .unset, .unset, .unset, .unset] [(.int p2), (.int (0 : Int32)), (.int (3 : Int32))])) _
    refine st12 _ ?_
    show Steps p.tables e below (T12.setTop (mkF m 76 #[.val (.int p1), .val (.int p2), .val (.int p3), .val (.int p4), .val (.int p5), .val (.int (3 : Int32)), .val (.ref b6), .val (.ref b10), .unset, .unset, .unset, .unset] [(.int (0 : Int32))])) _
    refine XS.ifNo X12.here hx rfl (hb hby at_76) rfl ((if0 _ _).trans (teq (by decide : (0 : Int32) = (0 : Int32))).2) ?_
    show Steps p.tables e below (T12.setTop (mkF m 79 #[.val (.int p1), .val (.int p2), .val (.int p3), .val (.int p4), .val (.int p5), .val (.int (3 : Int32)), .val (.ref b6), .val (.ref b10), .unset, .unset, .unset, .unset] [])) _
    refine XS.iload X12.here hx rfl (hb hby at_79) rfl ?_
    show Steps p.tables e below (T12.setTop (mkF m 81 #[.val (.int p1), .val (.int p2), .val (.int p3), .val (.int p4), .val (.int p5), .val (.int (3 : Int32)), .val (.ref b6), .val (.ref b10), .unset, .unset, .unset, .unset] [(.int (3 : Int32))])) _
    refine XS.iconst X12.here hx rfl (hb hby at_81) ?_
    show Steps p.tables e below (T12.setTop (mkF m 82 #[.val (.int p1), .val (.int p2), .val (.int p3), .val (.int p4), .val (.int p5), .val (.int (3 : Int32)), .val (.ref b6), .val (.ref b10), .unset, .unset, .unset, .unset] [(.int (1 : Int32)), (.int (3 : Int32))])) _
    refine XS.iloadN X12.here hx rfl (hb hby at_82) rfl ?_
    show Steps p.tables e below (T12.setTop (mkF m 83 #[.val (.int p1), .val (.int p2), .val (.int p3), .val (.int p4), .val (.int p5), .val (.int (3 : Int32)), .val (.ref b6), .val (.ref b10), .unset, .unset, .unset, .unset] [(.int p3), (.int (1 : Int32)), (.int (3 : Int32))])) _
    refine st13 _ ?_
    show Steps p.tables e below (T13.setTop (mkF m 86 #[.val (.int p1), .val (.int p2), .val (.int p3), .val (.int p4), .val (.int p5), .val (.int (3 : Int32)), .val (.ref b6), .val (.ref b10), .unset, .unset, .unset, .unset] [(.int (0 : Int32))])) _
    refine XS.ifNo X13.here hx rfl (hb hby at_86) rfl ((if0 _ _).trans (teq (by decide : (0 : Int32) = (0 : Int32))).2) ?_
    show Steps p.tables e below (T13.setTop (mkF m 89 #[.val (.int p1), .val (.int p2), .val (.int p3), .val (.int p4), .val (.int p5), .val (.int (3 : Int32)), .val (.ref b6), .val (.ref b10), .unset, .unset, .unset, .unset] [])) _
    refine XS.iload X13.here hx rfl (hb hby at_89) rfl ?_
    show Steps p.tables e below (T13.setTop (mkF m 91 #[.val (.int p1), .val (.int p2), .val (.int p3), .val (.int p4), .val (.int p5), .val (.int (3 : Int32)), .val (.ref b6), .val (.ref b10), .unset, .unset, .unset, .unset] [(.int (3 : Int32))])) _
    refine XS.iconst X13.here hx rfl (hb hby at_91) ?_
    show Steps p.tables e below (T13.setTop (mkF m 92 #[.val (.int p1), .val (.int p2), .val (.int p3), .val (.int p4), .val (.int p5), .val (.int (3 : Int32)), .val (.ref b6), .val (.ref b10), .unset, .unset, .unset, .unset] [(.int (2 : Int32)), (.int (3 : Int32))])) _
    refine XS.iloadN X13.here hx rfl (hb hby at_92) rfl ?_
    show Steps p.tables e below (T13.setTop (mkF m 93 #[.val (.int p1), .val (.int p2), .val (.int p3), .val (.int p4), .val (.int p5), .val (.int (3 : Int32)), .val (.ref b6), .val (.ref b10), .unset, .unset, .unset, .unset] [(.int p4), (.int (2 : Int32)), (.int (3 : Int32))])) _
    refine st14 _ ?_
    show Steps p.tables e below (T14.setTop (mkF m 96 #[.val (.int p1), .val (.int p2), .val (.int p3), .val (.int p4), .val (.int p5), .val (.int (3 : Int32)), .val (.ref b6), .val (.ref b10), .unset, .unset, .unset, .unset] [(.int (1 : Int32))])) _
    refine XS.ifYes X14.here hx rfl (pc0 := 96) (pc' := 110) rfl (hb hby at_96) rfl ((if0 _ _).trans (feq (by decide : ¬ ((1 : Int32) = (0 : Int32)))).2) (by decide) (by decide) ?_
    show Steps p.tables e below (T14.setTop (mkF m 110 #[.val (.int p1), .val (.int p2), .val (.int p3), .val (.int p4), .val (.int p5), .val (.int (3 : Int32)), .val (.ref b6), .val (.ref b10), .unset, .unset, .unset, .unset] [])) _
    refine XS.iconst X14.here hx rfl (hb hby at_110) ?_
    show Steps p.tables e below (T14.setTop (mkF m 111 #[.val (.int p1), .val (.int p2), .val (.int p3), .val (.int p4), .val (.int p5), .val (.int (3 : Int32)), .val (.ref b6), .val (.ref b10), .unset, .unset, .unset, .unset] [(.int (1 : Int32))])) _
    refine XS.goto X14.here hx rfl (pc0 := 111) (pc' := 115) rfl (hb hby at_111) (by decide) (by decide) ?_
    show Steps p.tables e below (T14.setTop (mkF m 115 #[.val (.int p1), .val (.int p2), .val (.int p3), .val (.int p4), .val (.int p5), .val (.int (3 : Int32)), .val (.ref b6), .val (.ref b10), .unset, .unset, .unset, .unset] [(.int (1 : Int32))])) _
    refine XS.istore X14.here hx rfl (hb hby at_115) rfl (l' := #[.val (.int p1), .val (.int p2), .val (.int p3), .val (.int p4), .val (.int p5), .val (.int (3 : Int32)), .val (.ref b6), .val (.ref b10), .val (.int (1 : Int32)), .unset, .unset, .unset]) rfl ?_
    show Steps p.tables e below (T14.setTop (mkF m 117 #[.val (.int p1), .val (.int p2), .val (.int p3), .val (.int p4), .val (.int p5), .val (.int (3 : Int32)), .val (.ref b6), .val (.ref b10), .val (.int (1 : Int32)), .unset, .unset, .unset] [])) _
    refine XS.aload X14.here hx rfl (hb hby at_117) rfl rfl ?_
    show Steps p.tables e below (T14.setTop (mkF m 119 #[.val (.int p1), .val (.int p2), .val (.int p3), .val (.int p4), .val (.int p5), .val (.int (3 : Int32)), .val (.ref b6), .val (.ref b10), .val (.int (1 : Int32)), .unset, .unset, .unset] [(.ref b10)])) _
    refine st15.trans ?_
    show Steps p.tables e below (T15.setTop (mkF m 122 #[.val (.int p1), .val (.int p2), .val (.int p3), .val (.int p4), .val (.int p5), .val (.int (3 : Int32)), .val (.ref b6), .val (.ref b10), .val (.int (1 : Int32)), .unset, .unset, .unset] [(.int (own_anyf (own_at [p2, p3, p4]) 3 0 0))])) _
    refine XS.istore X15.here hx rfl (hb hby at_122) rfl (l' := #[.val (.int p1), .val (.int p2), .val (.int p3), .val (.int p4), .val (.int p5), .val (.int (3 : Int32)), .val (.ref b6), .val (.ref b10), .val (.int (1 : Int32)), .val (.int (own_anyf (own_at [p2, p3, p4]) 3 0 0)), .unset, .unset]) rfl ?_
    show Steps p.tables e below (T15.setTop (mkF m 124 #[.val (.int p1), .val (.int p2), .val (.int p3), .val (.int p4), .val (.int p5), .val (.int (3 : Int32)), .val (.ref b6), .val (.ref b10), .val (.int (1 : Int32)), .val (.int (own_anyf (own_at [p2, p3, p4]) 3 0 0)), .unset, .unset] [])) _
    refine XS.iload X15.here hx rfl (hb hby at_124) rfl ?_
    show Steps p.tables e below (T15.setTop (mkF m 126 #[.val (.int p1), .val (.int p2), .val (.int p3), .val (.int p4), .val (.int p5), .val (.int (3 : Int32)), .val (.ref b6), .val (.ref b10), .val (.int (1 : Int32)), .val (.int (own_anyf (own_at [p2, p3, p4]) 3 0 0)), .unset, .unset] [(.int (1 : Int32))])) _
    refine XS.ifNo X15.here hx rfl (hb hby at_126) rfl ((if0 _ _).trans (feq (by decide : ¬ ((1 : Int32) = (0 : Int32)))).1) ?_
    show Steps p.tables e below (T15.setTop (mkF m 129 #[.val (.int p1), .val (.int p2), .val (.int p3), .val (.int p4), .val (.int p5), .val (.int (3 : Int32)), .val (.ref b6), .val (.ref b10), .val (.int (1 : Int32)), .val (.int (own_anyf (own_at [p2, p3, p4]) 3 0 0)), .unset, .unset] [])) _
    refine XS.iconst X15.here hx rfl (hb hby at_129) ?_
    show Steps p.tables e below (T15.setTop (mkF m 130 #[.val (.int p1), .val (.int p2), .val (.int p3), .val (.int p4), .val (.int p5), .val (.int (3 : Int32)), .val (.ref b6), .val (.ref b10), .val (.int (1 : Int32)), .val (.int (own_anyf (own_at [p2, p3, p4]) 3 0 0)), .unset, .unset] [(.int (0 : Int32))])) _
    refine XS.goto X15.here hx rfl (pc0 := 130) (pc' := 134) rfl (hb hby at_130) (by decide) (by decide) ?_
    show Steps p.tables e below (T15.setTop (mkF m 134 #[.val (.int p1), .val (.int p2), .val (.int p3), .val (.int p4), .val (.int p5), .val (.int (3 : Int32)), .val (.ref b6), .val (.ref b10), .val (.int (1 : Int32)), .val (.int (own_anyf (own_at [p2, p3, p4]) 3 0 0)), .unset, .unset] [(.int (0 : Int32))])) _
    refine XS.istore X15.here hx rfl (hb hby at_134) rfl (l' := #[.val (.int p1), .val (.int p2), .val (.int p3), .val (.int p4), .val (.int p5), .val (.int (3 : Int32)), .val (.ref b6), .val (.ref b10), .val (.int (1 : Int32)), .val (.int (own_anyf (own_at [p2, p3, p4]) 3 0 0)), .val (.int (0 : Int32)), .unset]) rfl ?_
    show Steps p.tables e below (T15.setTop (mkF m 136 #[.val (.int p1), .val (.int p2), .val (.int p3), .val (.int p4), .val (.int p5), .val (.int (3 : Int32)), .val (.ref b6), .val (.ref b10), .val (.int (1 : Int32)), .val (.int (own_anyf (own_at [p2, p3, p4]) 3 0 0)), .val (.int (0 : Int32)), .unset] [])) _
    refine XS.iload X15.here hx rfl (hb hby at_136) rfl ?_
    show Steps p.tables e below (T15.setTop (mkF m 138 #[.val (.int p1), .val (.int p2), .val (.int p3), .val (.int p4), .val (.int p5), .val (.int (3 : Int32)), .val (.ref b6), .val (.ref b10), .val (.int (1 : Int32)), .val (.int (own_anyf (own_at [p2, p3, p4]) 3 0 0)), .val (.int (0 : Int32)), .unset] [(.int (3 : Int32))])) _
    refine XS.ifNo X15.here hx rfl (hb hby at_138) rfl ((if0 _ _).trans (tlt (by decide : (0 : Int32) < (3 : Int32))).2.2.2) ?_
    show Steps p.tables e below (T15.setTop (mkF m 141 #[.val (.int p1), .val (.int p2), .val (.int p3), .val (.int p4), .val (.int p5), .val (.int (3 : Int32)), .val (.ref b6), .val (.ref b10), .val (.int (1 : Int32)), .val (.int (own_anyf (own_at [p2, p3, p4]) 3 0 0)), .val (.int (0 : Int32)), .unset] [])) _
    refine XS.aload X15.here hx rfl (hb hby at_141) rfl rfl ?_
    show Steps p.tables e below (T15.setTop (mkF m 143 #[.val (.int p1), .val (.int p2), .val (.int p3), .val (.int p4), .val (.int p5), .val (.int (3 : Int32)), .val (.ref b6), .val (.ref b10), .val (.int (1 : Int32)), .val (.int (own_anyf (own_at [p2, p3, p4]) 3 0 0)), .val (.int (0 : Int32)), .unset] [(.ref b6)])) _
    refine XS.iconst X15.here hx rfl (hb hby at_143) ?_
    show Steps p.tables e below (T15.setTop (mkF m 144 #[.val (.int p1), .val (.int p2), .val (.int p3), .val (.int p4), .val (.int p5), .val (.int (3 : Int32)), .val (.ref b6), .val (.ref b10), .val (.int (1 : Int32)), .val (.int (own_anyf (own_at [p2, p3, p4]) 3 0 0)), .val (.int (0 : Int32)), .unset] [(.int (0 : Int32)), (.ref b6)])) _
    refine XS.iload X15.here hx rfl (hb hby at_144) rfl ?_
    show Steps p.tables e below (T15.setTop (mkF m 146 #[.val (.int p1), .val (.int p2), .val (.int p3), .val (.int p4), .val (.int p5), .val (.int (3 : Int32)), .val (.ref b6), .val (.ref b10), .val (.int (1 : Int32)), .val (.int (own_anyf (own_at [p2, p3, p4]) 3 0 0)), .val (.int (0 : Int32)), .unset] [(.int (0 : Int32)), (.int (0 : Int32)), (.ref b6)])) _
    refine st16 _ ?_
    show Steps p.tables e below (T16.setTop (mkF m 147 #[.val (.int p1), .val (.int p2), .val (.int p3), .val (.int p4), .val (.int p5), .val (.int (3 : Int32)), .val (.ref b6), .val (.ref b10), .val (.int (1 : Int32)), .val (.int (own_anyf (own_at [p2, p3, p4]) 3 0 0)), .val (.int (0 : Int32)), .unset] [])) _
    refine XS.iload X16.here hx rfl (hb hby at_147) rfl ?_
    show Steps p.tables e below (T16.setTop (mkF m 149 #[.val (.int p1), .val (.int p2), .val (.int p3), .val (.int p4), .val (.int p5), .val (.int (3 : Int32)), .val (.ref b6), .val (.ref b10), .val (.int (1 : Int32)), .val (.int (own_anyf (own_at [p2, p3, p4]) 3 0 0)), .val (.int (0 : Int32)), .unset] [(.int (3 : Int32))])) _
    refine XS.iconst X16.here hx rfl (hb hby at_149) ?_
    show Steps p.tables e below (T16.setTop (mkF m 150 #[.val (.int p1), .val (.int p2), .val (.int p3), .val (.int p4), .val (.int p5), .val (.int (3 : Int32)), .val (.ref b6), .val (.ref b10), .val (.int (1 : Int32)), .val (.int (own_anyf (own_at [p2, p3, p4]) 3 0 0)), .val (.int (0 : Int32)), .unset] [(.int (1 : Int32)), (.int (3 : Int32))])) _
    refine XS.icmpNo X16.here hx rfl (hb hby at_150) rfl (tlt (by decide : (1 : Int32) < (3 : Int32))).2.2.2 ?_
    show Steps p.tables e below (T16.setTop (mkF m 153 #[.val (.int p1), .val (.int p2), .val (.int p3), .val (.int p4), .val (.int p5), .val (.int (3 : Int32)), .val (.ref b6), .val (.ref b10), .val (.int (1 : Int32)), .val (.int (own_anyf (own_at [p2, p3, p4]) 3 0 0)), .val (.int (0 : Int32)), .unset] [])) _
    refine XS.aload X16.here hx rfl (hb hby at_153) rfl rfl ?_
    show Steps p.tables e below (T16.setTop (mkF m 155 #[.val (.int p1), .val (.int p2), .val (.int p3), .val (.int p4), .val (.int p5), .val (.int (3 : Int32)), .val (.ref b6), .val (.ref b10), .val (.int (1 : Int32)), .val (.int (own_anyf (own_at [p2, p3, p4]) 3 0 0)), .val (.int (0 : Int32)), .unset] [(.ref b6)])) _
    refine XS.iconst X16.here hx rfl (hb hby at_155) ?_
    show Steps p.tables e below (T16.setTop (mkF m 156 #[.val (.int p1), .val (.int p2), .val (.int p3), .val (.int p4), .val (.int p5), .val (.int (3 : Int32)), .val (.ref b6), .val (.ref b10), .val (.int (1 : Int32)), .val (.int (own_anyf (own_at [p2, p3, p4]) 3 0 0)), .val (.int (0 : Int32)), .unset] [(.int (1 : Int32)), (.ref b6)])) _
    refine XS.iload X16.here hx rfl (hb hby at_156) rfl ?_
    show Steps p.tables e below (T16.setTop (mkF m 158 #[.val (.int p1), .val (.int p2), .val (.int p3), .val (.int p4), .val (.int p5), .val (.int (3 : Int32)), .val (.ref b6), .val (.ref b10), .val (.int (1 : Int32)), .val (.int (own_anyf (own_at [p2, p3, p4]) 3 0 0)), .val (.int (0 : Int32)), .unset] [(.int (0 : Int32)), (.int (1 : Int32)), (.ref b6)])) _
    refine st17 _ ?_
    show Steps p.tables e below (T17.setTop (mkF m 159 #[.val (.int p1), .val (.int p2), .val (.int p3), .val (.int p4), .val (.int p5), .val (.int (3 : Int32)), .val (.ref b6), .val (.ref b10), .val (.int (1 : Int32)), .val (.int (own_anyf (own_at [p2, p3, p4]) 3 0 0)), .val (.int (0 : Int32)), .unset] [])) _
    refine XS.iload X17.here hx rfl (hb hby at_159) rfl ?_
    show Steps p.tables e below (T17.setTop (mkF m 161 #[.val (.int p1), .val (.int p2), .val (.int p3), .val (.int p4), .val (.int p5), .val (.int (3 : Int32)), .val (.ref b6), .val (.ref b10), .val (.int (1 : Int32)), .val (.int (own_anyf (own_at [p2, p3, p4]) 3 0 0)), .val (.int (0 : Int32)), .unset] [(.int (3 : Int32))])) _
    refine XS.iconst X17.here hx rfl (hb hby at_161) ?_
    show Steps p.tables e below (T17.setTop (mkF m 162 #[.val (.int p1), .val (.int p2), .val (.int p3), .val (.int p4), .val (.int p5), .val (.int (3 : Int32)), .val (.ref b6), .val (.ref b10), .val (.int (1 : Int32)), .val (.int (own_anyf (own_at [p2, p3, p4]) 3 0 0)), .val (.int (0 : Int32)), .unset] [(.int (2 : Int32)), (.int (3 : Int32))])) _
    refine XS.icmpNo X17.here hx rfl (hb hby at_162) rfl (tlt (by decide : (2 : Int32) < (3 : Int32))).2.2.2 ?_
    show Steps p.tables e below (T17.setTop (mkF m 165 #[.val (.int p1), .val (.int p2), .val (.int p3), .val (.int p4), .val (.int p5), .val (.int (3 : Int32)), .val (.ref b6), .val (.ref b10), .val (.int (1 : Int32)), .val (.int (own_anyf (own_at [p2, p3, p4]) 3 0 0)), .val (.int (0 : Int32)), .unset] [])) _
    refine XS.aload X17.here hx rfl (hb hby at_165) rfl rfl ?_
    show Steps p.tables e below (T17.setTop (mkF m 167 #[.val (.int p1), .val (.int p2), .val (.int p3), .val (.int p4), .val (.int p5), .val (.int (3 : Int32)), .val (.ref b6), .val (.ref b10), .val (.int (1 : Int32)), .val (.int (own_anyf (own_at [p2, p3, p4]) 3 0 0)), .val (.int (0 : Int32)), .unset] [(.ref b6)])) _
    refine XS.iconst X17.here hx rfl (hb hby at_167) ?_
    show Steps p.tables e below (T17.setTop (mkF m 168 #[.val (.int p1), .val (.int p2), .val (.int p3), .val (.int p4), .val (.int p5), .val (.int (3 : Int32)), .val (.ref b6), .val (.ref b10), .val (.int (1 : Int32)), .val (.int (own_anyf (own_at [p2, p3, p4]) 3 0 0)), .val (.int (0 : Int32)), .unset] [(.int (2 : Int32)), (.ref b6)])) _
    refine XS.iload X17.here hx rfl (hb hby at_168) rfl ?_
    show Steps p.tables e below (T17.setTop (mkF m 170 #[.val (.int p1), .val (.int p2), .val (.int p3), .val (.int p4), .val (.int p5), .val (.int (3 : Int32)), .val (.ref b6), .val (.ref b10), .val (.int (1 : Int32)), .val (.int (own_anyf (own_at [p2, p3, p4]) 3 0 0)), .val (.int (0 : Int32)), .unset] [(.int (0 : Int32)), (.int (2 : Int32)), (.ref b6)])) _
    refine st18 _ ?_
    show Steps p.tables e below (T18.setTop (mkF m 171 #[.val (.int p1), .val (.int p2), .val (.int p3), .val (.int p4), .val (.int p5), .val (.int (3 : Int32)), .val (.ref b6), .val (.ref b10), .val (.int (1 : Int32)), .val (.int (own_anyf (own_at [p2, p3, p4]) 3 0 0)), .val (.int (0 : Int32)), .unset] [])) _
    refine XS.iload X18.here hx rfl (hb hby at_171) rfl ?_
    show Steps p.tables e below (T18.setTop (mkF m 173 #[.val (.int p1), .val (.int p2), .val (.int p3), .val (.int p4), .val (.int p5), .val (.int (3 : Int32)), .val (.ref b6), .val (.ref b10), .val (.int (1 : Int32)), .val (.int (own_anyf (own_at [p2, p3, p4]) 3 0 0)), .val (.int (0 : Int32)), .unset] [(.int (3 : Int32))])) _
    refine XS.iconst X18.here hx rfl (hb hby at_173) ?_
    show Steps p.tables e below (T18.setTop (mkF m 174 #[.val (.int p1), .val (.int p2), .val (.int p3), .val (.int p4), .val (.int p5), .val (.int (3 : Int32)), .val (.ref b6), .val (.ref b10), .val (.int (1 : Int32)), .val (.int (own_anyf (own_at [p2, p3, p4]) 3 0 0)), .val (.int (0 : Int32)), .unset] [(.int (3 : Int32)), (.int (3 : Int32))])) _
    refine XS.icmpYes X18.here hx rfl (pc0 := 174) (pc' := 183) rfl (hb hby at_174) rfl (flt (by decide : ¬ ((3 : Int32) < (3 : Int32)))).2.2.2 (by decide) (by decide) ?_
    show Steps p.tables e below (T18.setTop (mkF m 183 #[.val (.int p1), .val (.int p2), .val (.int p3), .val (.int p4), .val (.int p5), .val (.int (3 : Int32)), .val (.ref b6), .val (.ref b10), .val (.int (1 : Int32)), .val (.int (own_anyf (own_at [p2, p3, p4]) 3 0 0)), .val (.int (0 : Int32)), .unset] [])) _
    refine XS.aload X18.here hx rfl (hb hby at_183) rfl rfl ?_
    show Steps p.tables e below (T18.setTop (mkF m 185 #[.val (.int p1), .val (.int p2), .val (.int p3), .val (.int p4), .val (.int p5), .val (.int (3 : Int32)), .val (.ref b6), .val (.ref b10), .val (.int (1 : Int32)), .val (.int (own_anyf (own_at [p2, p3, p4]) 3 0 0)), .val (.int (0 : Int32)), .unset] [(.ref b10)])) _
    refine st19.trans ?_
    show Steps p.tables e below (T19.setTop (mkF m 188 #[.val (.int p1), .val (.int p2), .val (.int p3), .val (.int p4), .val (.int p5), .val (.int (3 : Int32)), .val (.ref b6), .val (.ref b10), .val (.int (1 : Int32)), .val (.int (own_anyf (own_at [p2, p3, p4]) 3 0 0)), .val (.int (0 : Int32)), .unset] [(.int (own_anyf (own_at [p2, p3, p4]) 3 0 0))])) _
    refine XS.istore X19.here hx rfl (hb hby at_188) rfl (l' := #[.val (.int p1), .val (.int p2), .val (.int p3), .val (.int p4), .val (.int p5), .val (.int (3 : Int32)), .val (.ref b6), .val (.ref b10), .val (.int (1 : Int32)), .val (.int (own_anyf (own_at [p2, p3, p4]) 3 0 0)), .val (.int (0 : Int32)), .val (.int (own_anyf (own_at [p2, p3, p4]) 3 0 0))]) rfl ?_
    show Steps p.tables e below (T19.setTop (mkF m 190 #[.val (.int p1), .val (.int p2), .val (.int p3), .val (.int p4), .val (.int p5), .val (.int (3 : Int32)), .val (.ref b6), .val (.ref b10), .val (.int (1 : Int32)), .val (.int (own_anyf (own_at [p2, p3, p4]) 3 0 0)), .val (.int (0 : Int32)), .val (.int (own_anyf (own_at [p2, p3, p4]) 3 0 0))] [])) _
    refine XS.iload X19.here hx rfl (hb hby at_190) rfl ?_
    show Steps p.tables e below (T19.setTop (mkF m 192 #[.val (.int p1), .val (.int p2), .val (.int p3), .val (.int p4), .val (.int p5), .val (.int (3 : Int32)), .val (.ref b6), .val (.ref b10), .val (.int (1 : Int32)), .val (.int (own_anyf (own_at [p2, p3, p4]) 3 0 0)), .val (.int (0 : Int32)), .val (.int (own_anyf (own_at [p2, p3, p4]) 3 0 0))] [(.int (own_anyf (own_at [p2, p3, p4]) 3 0 0))])) _
    refine XS.iload X19.here hx rfl (hb hby at_192) rfl ?_
    show Steps p.tables e below (T19.setTop (mkF m 194 #[.val (.int p1), .val (.int p2), .val (.int p3), .val (.int p4), .val (.int p5), .val (.int (3 : Int32)), .val (.ref b6), .val (.ref b10), .val (.int (1 : Int32)), .val (.int (own_anyf (own_at [p2, p3, p4]) 3 0 0)), .val (.int (0 : Int32)), .val (.int (own_anyf (own_at [p2, p3, p4]) 3 0 0))] [(.int (1 : Int32)), (.int (own_anyf (own_at [p2, p3, p4]) 3 0 0))])) _
    refine XS.icmpNo X19.here hx rfl (hb hby at_194) rfl (teq (own_ok : (own_anyf (own_at [p2, p3, p4]) 3 0 0) = (1 : Int32))).2 ?_
    show Steps p.tables e below (T19.setTop (mkF m 197 #[.val (.int p1), .val (.int p2), .val (.int p3), .val (.int p4), .val (.int p5), .val (.int (3 : Int32)), .val (.ref b6), .val (.ref b10), .val (.int (1 : Int32)), .val (.int (own_anyf (own_at [p2, p3, p4]) 3 0 0)), .val (.int (0 : Int32)), .val (.int (own_anyf (own_at [p2, p3, p4]) 3 0 0))] [])) _
    refine XS.iload X19.here hx rfl (hb hby at_197) rfl ?_
    show Steps p.tables e below (T19.setTop (mkF m 199 #[.val (.int p1), .val (.int p2), .val (.int p3), .val (.int p4), .val (.int p5), .val (.int (3 : Int32)), .val (.ref b6), .val (.ref b10), .val (.int (1 : Int32)), .val (.int (own_anyf (own_at [p2, p3, p4]) 3 0 0)), .val (.int (0 : Int32)), .val (.int (own_anyf (own_at [p2, p3, p4]) 3 0 0))] [(.int (own_anyf (own_at [p2, p3, p4]) 3 0 0))])) _
    refine XS.iload X19.here hx rfl (hb hby at_199) rfl ?_
    show Steps p.tables e below (T19.setTop (mkF m 201 #[.val (.int p1), .val (.int p2), .val (.int p3), .val (.int p4), .val (.int p5), .val (.int (3 : Int32)), .val (.ref b6), .val (.ref b10), .val (.int (1 : Int32)), .val (.int (own_anyf (own_at [p2, p3, p4]) 3 0 0)), .val (.int (0 : Int32)), .val (.int (own_anyf (own_at [p2, p3, p4]) 3 0 0))] [(.int (1 : Int32)), (.int (own_anyf (own_at [p2, p3, p4]) 3 0 0))])) _
    refine XS.icmpNo X19.here hx rfl (hb hby at_201) rfl (teq (own_ok : (own_anyf (own_at [p2, p3, p4]) 3 0 0) = (1 : Int32))).2 ?_
    show Steps p.tables e below (T19.setTop (mkF m 204 #[.val (.int p1), .val (.int p2), .val (.int p3), .val (.int p4), .val (.int p5), .val (.int (3 : Int32)), .val (.ref b6), .val (.ref b10), .val (.int (1 : Int32)), .val (.int (own_anyf (own_at [p2, p3, p4]) 3 0 0)), .val (.int (0 : Int32)), .val (.int (own_anyf (own_at [p2, p3, p4]) 3 0 0))] [])) _
    refine XS.iconst X19.here hx rfl (hb hby at_204) ?_
    show Steps p.tables e below (T19.setTop (mkF m 205 #[.val (.int p1), .val (.int p2), .val (.int p3), .val (.int p4), .val (.int p5), .val (.int (3 : Int32)), .val (.ref b6), .val (.ref b10), .val (.int (1 : Int32)), .val (.int (own_anyf (own_at [p2, p3, p4]) 3 0 0)), .val (.int (0 : Int32)), .val (.int (own_anyf (own_at [p2, p3, p4]) 3 0 0))] [(.int (1 : Int32))])) _
    refine XS.goto X19.here hx rfl (pc0 := 205) (pc' := 209) rfl (hb hby at_205) (by decide) (by decide) ?_
    show Steps p.tables e below (T19.setTop (mkF m 209 #[.val (.int p1), .val (.int p2), .val (.int p3), .val (.int p4), .val (.int p5), .val (.int (3 : Int32)), .val (.ref b6), .val (.ref b10), .val (.int (1 : Int32)), .val (.int (own_anyf (own_at [p2, p3, p4]) 3 0 0)), .val (.int (0 : Int32)), .val (.int (own_anyf (own_at [p2, p3, p4]) 3 0 0))] [(.int (1 : Int32))])) _
    exact retN X19 hx (t := .boolean) Bd.returns (by simp) (hb hby at_209) hr
  · show Q0_32 Z p1 p2 p3 p4 p5 h0 n0 _ T19.heap _
    exact ⟨rfl, N19⟩
def Q0_33 (Z : State) (p1 : Int32) (p2 : Int32) (p3 : Int32) (p4 : Int32) (p5 : Int32) (h0 : Heap) (n0 : Nat) (v : Option Value) (h : Heap) (L : List Loc) : Prop := v = some (.int (1 : Int32)) ∧ Fr n0 L
set_option maxRecDepth 65536 in
set_option maxHeartbeats 40000000 in
theorem rm0_33 (l : Launch) (Z : State) (a0 : Array Value) (hw : ∀ d ∈ tables_1, d.before a0 Z = true) (ws : List Jvm.Cond) (p1 : Int32) (p2 : Int32) (p3 : Int32) (p4 : Int32) (p5 : Int32) (h0 : Heap) (n0 : Nat) (Z0 : n0 ≤ h0.size) (hp5 : ((p1 &&& (2147483647 : Int32)) % (5 : Int32)) = (3 : Int32)) (ch0 : ¬ (p2 = (1 : Int32))) (ch1 : ¬ (p3 = (1 : Int32))) (ch2 : ¬ (p4 = (1 : Int32))) :
    MetFree l x (head1 (Jvm.Cond.code x code maxLocals ret :: ws) room_1) (fun a U => a = #[(.int p1), (.int p2), (.int p3), (.int p4), (.int p5)] ∧ Z.Warmed39 U.vm ∧ U.heap = h0) (fun _ _ _ _ _ => True) (fun _ U o U' => ∃ v L, o = .returned v ∧ Q0_33 Z p1 p2 p3 p4 p5 h0 n0 v U'.heap L ∧ FrameEnd U o U' L room_1.cells room_1.slots) := by
  refine MetFree.of_bodySF (plainFor_of_name pn_0) hisR ?_
  intro p e s m args below meth c s₁ Bd hml0 hP hK
  obtain ⟨rfl, hZ, hh⟩ := hP
  have own_ok : (own_anyf (own_at [p2, p3, p4]) 3 0 0) = (0 : Int32) := by
    simp [own_anyf, own_or, own_at, ch0, ch1, ch2]
  have hx := Bd.exec
  have hby := Bd.bytes
  have hml : c.maxLocals = 12 := hml0
  have hown : s.vm.findClass "com/example/tendril/tendril/FormatsAnyBinaryPinLaw" = some m.cls := findClass_of_methodNamed Bd.named
  have hnm := (name_of_methodNamed Bd.named Bd.method).1
  have X0 : Stand p l e room_1 s m #[(.int p1), (.int p2), (.int p3), (.int p4), (.int p5)] below meth c s₁ [] 0 0 := Stand.of_body Bd
  have e0 : s₁.heap = h0 := by rw [← hh, Bd.state]; rfl
  have N0 := Fr.nil n0
  have pre0 : ∀ t, Steps p.tables e below (s₁.setTop (mkF m 0 #[.val (.int p1), .val (.int p2), .val (.int p3), .val (.int p4), .val (.int p5), .unset, .unset, .unset, .unset, .unset, .unset, .unset] [])) t → Steps p.tables e below (s₁.setTop (entryFrame m #[(.int p1), (.int p2), (.int p3), (.int p4), (.int p5)] maxLocals)) t := fun t k => castTop (ef_0 m p1 p2 p3 p4 p5) k
  obtain ⟨T6, h6, k6, X6, e6, E6, A6, Ea6, st6⟩ := newPE X0 hx hZ (hw _ (List.mem_of_getElem? (i := 1) rfl)) e0 (g := (mkF m 10 #[.val (.int p1), .val (.int p2), .val (.int p3), .val (.int p4), .val (.int p5), .val (.int (3 : Int32)), .unset, .unset, .unset, .unset, .unset, .unset] [(.int (3 : Int32))])) rfl (hb hby at_10) rfl (by decide) (cap := 3) (by decide) (by decide) (by decide) (by decide) (ad := "[I") rfl
  obtain ⟨b6, g6⟩ : ∃ z, z = h0.size := ⟨_, rfl⟩
  rw [← g6] at A6 Ea6 st6
  have V_b6 : Arv Z h6 b6 k6 .int (3 : Int32) [(.int (0 : Int32)), (.int (0 : Int32)), (.int (0 : Int32))] (.int (0 : Int32)) := (Arv.new A6 (by decide)).pad (pad_rep [] (.int (0 : Int32)) 3)
  have g_b6 : n0 ≤ b6 := Nat.le_trans Z0 (Nat.le_of_eq g6.symm)
  have sz_b6 : h0.size ≤ b6 := (Nat.le_trans (Keep.refl h0 []).1 (Nat.le_of_eq g6.symm))
  have K6 : Keep h0 h6 [] := (Keep.refl h0 []).ext E6
  obtain ⟨cl_b6_23, Ar_b6, q_b6, S_b6, N_b6, H_b6, G_b6⟩ := V_b6
  have hin23 : ¬ ((0 : Int32) < 0 ∨ cl_b6_23.slots.size ≤ ((0 : Int32)).toNatClampNeg) := inb_of S_b6 ⟨by decide, by decide⟩
  obtain ⟨T7, h7, X7, e7, W7, st7⟩ := stI X6 hx hZ e6 Ar_b6 (j := (0 : Int32)) hin23 (g := (mkF m 23 #[.val (.int p1), .val (.int p2), .val (.int p3), .val (.int p4), .val (.int p5), .val (.int (3 : Int32)), .val (.ref b6), .unset, .unset, .unset, .unset, .unset] [(.int p2), (.int (0 : Int32)), (.ref b6)])) rfl rfl (hb hby at_23)
  have V_b6_7 := Arv.set Ar_b6 q_b6 S_b6 N_b6 H_b6 G_b6 rfl W7 0 rfl (Nat.le_of_ble_eq_true rfl)
  have K7 : Keep h0 h7 [] := K6.wr W7 (Or.inr sz_b6)
  have N7 := Fr.snoc X7 N0 g_b6
  obtain ⟨cl_b6_34, Ar_b6, q_b6, S_b6, N_b6, H_b6, G_b6⟩ := V_b6_7
  have hin34 : ¬ ((1 : Int32) < 0 ∨ cl_b6_34.slots.size ≤ ((1 : Int32)).toNatClampNeg) := inb_of S_b6 ⟨by decide, by decide⟩
  obtain ⟨T8, h8, X8, e8, W8, st8⟩ := stI X7 hx hZ e7 Ar_b6 (j := (1 : Int32)) hin34 (g := (mkF m 34 #[.val (.int p1), .val (.int p2), .val (.int p3), .val (.int p4), .val (.int p5), .val (.int (3 : Int32)), .val (.ref b6), .unset, .unset, .unset, .unset, .unset] [(.int p3), (.int (1 : Int32)), (.ref b6)])) rfl rfl (hb hby at_34)
  have V_b6_8 := Arv.set Ar_b6 q_b6 S_b6 N_b6 H_b6 G_b6 rfl W8 1 rfl (Nat.le_of_ble_eq_true rfl)
  have K8 : Keep h0 h8 [] := K7.wr W8 (Or.inr sz_b6)
  have N8 := Fr.snoc X8 N7 g_b6
  obtain ⟨cl_b6_45, Ar_b6, q_b6, S_b6, N_b6, H_b6, G_b6⟩ := V_b6_8
  have hin45 : ¬ ((2 : Int32) < 0 ∨ cl_b6_45.slots.size ≤ ((2 : Int32)).toNatClampNeg) := inb_of S_b6 ⟨by decide, by decide⟩
  obtain ⟨T9, h9, X9, e9, W9, st9⟩ := stI X8 hx hZ e8 Ar_b6 (j := (2 : Int32)) hin45 (g := (mkF m 45 #[.val (.int p1), .val (.int p2), .val (.int p3), .val (.int p4), .val (.int p5), .val (.int (3 : Int32)), .val (.ref b6), .unset, .unset, .unset, .unset, .unset] [(.int p4), (.int (2 : Int32)), (.ref b6)])) rfl rfl (hb hby at_45)
  have V_b6_9 := Arv.set Ar_b6 q_b6 S_b6 N_b6 H_b6 G_b6 rfl W9 2 rfl (Nat.le_of_ble_eq_true rfl)
  have K9 : Keep h0 h9 [] := K8.wr W9 (Or.inr sz_b6)
  have N9 := Fr.snoc X9 N8 g_b6
  obtain ⟨T10, h10, X10, e10, E10, A10, D10, -, st10⟩ := newO X9 hx hZ hown (hw _ (List.mem_of_getElem? (i := 2) rfl)) (hw _ (List.mem_of_getElem? (i := 3) rfl)) (hw _ (List.mem_of_getElem? (i := 4) rfl)) e9 (g := (mkF m 58 #[.val (.int p1), .val (.int p2), .val (.int p3), .val (.int p4), .val (.int p5), .val (.int (3 : Int32)), .val (.ref b6), .unset, .unset, .unset, .unset, .unset] [])) rfl (hb hby at_58) (by decide) (by decide)
  obtain ⟨b10, g10⟩ : ∃ z, z = h9.size := ⟨_, rfl⟩
  rw [← g10] at A10 D10 st10
  have F_codes_b10 : Fld Z h10 b10 "com/example/tendril/tendril/WireColumns$Formats" "codes" "[I" .null := D10 (Or.inr (hw _ (List.mem_of_getElem? (i := 21) rfl))) (ty := (.array .int)) (by decide)
  have E_b10 := A10
  have g_b10 : n0 ≤ b10 := Nat.le_trans (Nat.le_trans (Nat.le_trans (Nat.le_trans (Nat.le_trans Z0 E6.1) (Keep.of_wr W7).1) (Keep.of_wr W8).1) (Keep.of_wr W9).1) (Nat.le_of_eq g10.symm)
  have sz_b10 : h0.size ≤ b10 := (Nat.le_trans K9.1 (Nat.le_of_eq g10.symm))
  have K10 : Keep h0 h10 [] := K9.ext E10
  obtain ⟨_, _, ⟨T11, L11, k11, n11⟩, -, X11, ⟨Lc11, hQ11, l11, y11, z11⟩, st11⟩ := X10.specialBack hx (y := (⟨"com/example/tendril/tendril/WireColumns$Formats", "<init>", "([I)V"⟩ : MethodName)) rfl hown (mvT hZ (hw _ (List.mem_of_getElem? (i := 5) rfl))) (mvT hZ (hw _ (List.mem_of_getElem? (i := 6) rfl))) (mvT hZ (hw _ (List.mem_of_getElem? (i := 7) rfl))) (by decide) (backOf (W := 1) (rm1 l Z a0 hw [] b10 b6 .null _ _ _ _ h10 n0 (Nat.le_trans Z0 K10.1) ((((Ea6.wr W7).wr W8).wr W9).ext E10) (V_b6_9.ext E10) (by decide) E_b10 F_codes_b10 g_b10) hZ (hw _ (List.mem_of_getElem? (i := 7) rfl)) (hw _ (List.mem_of_getElem? (i := 4) rfl)) (by decide) (by decide)) (g := (mkF m 64 #[.val (.int p1), .val (.int p2), .val (.int p3), .val (.int p4), .val (.int p5), .val (.int (3 : Int32)), .val (.ref b6), .unset, .unset, .unset, .unset, .unset] [(.ref b6), (.ref b10), (.ref b10)])) rfl (by rw [hml]; rfl) (Steps.refl _) (a := b10) (argsL := [(.ref b6)]) (rest := [(.ref b10)]) (lenOf pd_0_0 rfl) rfl (by show 2 * 0 + _ ≤ _; exact Nat.le_of_eq rfl) (hb hby at_64) (fun _ _ => ⟨rfl, e10, (Nat.le_of_ble_eq_true rfl), (Nat.le_of_ble_eq_true rfl)⟩)
  dsimp only [Pt.U, Pt.locs, Pt.cells, Pt.slots] at X11 l11 y11 z11 st11 hQ11
  subst l11 y11 z11
  obtain ⟨rfl, N11q, K11c, E11c, bC, szC, FC, VC⟩ := hQ11
  have ne_ao : b6 ≠ b10 := Nat.ne_of_lt (Nat.lt_of_lt_of_le V_b6_9.lt (Nat.le_of_eq g10.symm))
  have ne_Ca : bC ≠ b6 := Ne.symm (Nat.ne_of_lt (Nat.lt_of_lt_of_le (V_b6_9.ext E10).lt szC))
  have K11 : Keep h0 T11.heap [] := K10.trans K11c (allS (Or.inr sz_b10) all0)
  have N11 := Fr.app N9 N11q
  obtain ⟨_, _, ⟨T12, L12, k12, n12⟩, -, X12, ⟨Lc12, hQ12, l12, y12, z12⟩, st12⟩ := Jvm.LawKit.callS X11 hx (y := (⟨"com/example/tendril/tendril/FormatsAnyBinaryPinLaw", "hit", "(III)Z"⟩ : MethodName)) hown (mvT hZ (hw _ (List.mem_of_getElem? (i := 22) rfl))) (mvT hZ (hw _ (List.mem_of_getElem? (i := 23) rfl))) (mvT hZ (hw _ (List.mem_of_getElem? (i := 24) rfl))) (mvT hZ (hw _ (List.mem_of_getElem? (i := 25) rfl))) (by decide) (backOf (W := 0) (rm3ft l Z a0 hw [] (3 : Int32) (0 : Int32) p2 T11.heap n0 (Nat.le_trans Z0 K11.1) (by decide) ch0) hZ (hw _ (List.mem_of_getElem? (i := 25) rfl)) (hw _ (List.mem_of_getElem? (i := 24) rfl)) (by decide) (by decide)) (g := (mkF m 73 #[.val (.int p1), .val (.int p2), .val (.int p3), .val (.int p4), .val (.int p5), .val (.int (3 : Int32)), .val (.ref b6), .val (.ref b10), .unset, .unset, .unset, .unset] [(.int p2), (.int (0 : Int32)), (.int (3 : Int32))])) rfl (by rw [hml]; rfl) (argsL := [(.int (3 : Int32)), (.int (0 : Int32)), (.int p2)]) (rest := []) (lenOf pd_0_3 rfl) rfl (by show 2 * 0 + _ ≤ _; exact Nat.le_of_eq rfl) (hb hby at_73) (fun _ _ => ⟨rfl, rfl, (Nat.le_of_ble_eq_true rfl), (Nat.le_of_ble_eq_true rfl)⟩)
  dsimp only [Pt.U, Pt.locs, Pt.cells, Pt.slots] at X12 l12 y12 z12 st12 hQ12
  subst l12 y12 z12
  obtain ⟨rfl, N12q, e12⟩ := hQ12
  have K12 : Keep h0 T12.heap [] := K11.trans (own_keq e12) all0
  have N12 := Fr.app N11 N12q
  obtain ⟨_, _, ⟨T13, L13, k13, n13⟩, -, X13, ⟨Lc13, hQ13, l13, y13, z13⟩, st13⟩ := Jvm.LawKit.callS X12 hx (y := (⟨"com/example/tendril/tendril/FormatsAnyBinaryPinLaw", "hit", "(III)Z"⟩ : MethodName)) hown (mvT hZ (hw _ (List.mem_of_getElem? (i := 22) rfl))) (mvT hZ (hw _ (List.mem_of_getElem? (i := 23) rfl))) (mvT hZ (hw _ (List.mem_of_getElem? (i := 24) rfl))) (mvT hZ (hw _ (List.mem_of_getElem? (i := 25) rfl))) (by decide) (backOf (W := 0) (rm3ft l Z a0 hw [] (3 : Int32) (1 : Int32) p3 T12.heap n0 (Nat.le_trans Z0 K12.1) (by decide) ch1) hZ (hw _ (List.mem_of_getElem? (i := 25) rfl)) (hw _ (List.mem_of_getElem? (i := 24) rfl)) (by decide) (by decide)) (g := (mkF m 83 #[.val (.int p1), .val (.int p2), .val (.int p3), .val (.int p4), .val (.int p5), .val (.int (3 : Int32)), .val (.ref b6), .val (.ref b10), .unset, .unset, .unset, .unset] [(.int p3), (.int (1 : Int32)), (.int (3 : Int32))])) rfl (by rw [hml]; rfl) (argsL := [(.int (3 : Int32)), (.int (1 : Int32)), (.int p3)]) (rest := []) (lenOf pd_0_3 rfl) rfl (by show 2 * 0 + _ ≤ _; exact Nat.le_of_eq rfl) (hb hby at_83) (fun _ _ => ⟨rfl, rfl, (Nat.le_of_ble_eq_true rfl), (Nat.le_of_ble_eq_true rfl)⟩)
  dsimp only [Pt.U, Pt.locs, Pt.cells, Pt.slots] at X13 l13 y13 z13 st13 hQ13
  subst l13 y13 z13
  obtain ⟨rfl, N13q, e13⟩ := hQ13
  have K13 : Keep h0 T13.heap [] := K12.trans (own_keq e13) all0
  have N13 := Fr.app N12 N13q
  obtain ⟨_, _, ⟨T14, L14, k14, n14⟩, -, X14, ⟨Lc14, hQ14, l14, y14, z14⟩, st14⟩ := Jvm.LawKit.callS X13 hx (y := (⟨"com/example/tendril/tendril/FormatsAnyBinaryPinLaw", "hit", "(III)Z"⟩ : MethodName)) hown (mvT hZ (hw _ (List.mem_of_getElem? (i := 22) rfl))) (mvT hZ (hw _ (List.mem_of_getElem? (i := 23) rfl))) (mvT hZ (hw _ (List.mem_of_getElem? (i := 24) rfl))) (mvT hZ (hw _ (List.mem_of_getElem? (i := 25) rfl))) (by decide) (backOf (W := 0) (rm3ft l Z a0 hw [] (3 : Int32) (2 : Int32) p4 T13.heap n0 (Nat.le_trans Z0 K13.1) (by decide) ch2) hZ (hw _ (List.mem_of_getElem? (i := 25) rfl)) (hw _ (List.mem_of_getElem? (i := 24) rfl)) (by decide) (by decide)) (g := (mkF m 93 #[.val (.int p1), .val (.int p2), .val (.int p3), .val (.int p4), .val (.int p5), .val (.int (3 : Int32)), .val (.ref b6), .val (.ref b10), .unset, .unset, .unset, .unset] [(.int p4), (.int (2 : Int32)), (.int (3 : Int32))])) rfl (by rw [hml]; rfl) (argsL := [(.int (3 : Int32)), (.int (2 : Int32)), (.int p4)]) (rest := []) (lenOf pd_0_3 rfl) rfl (by show 2 * 0 + _ ≤ _; exact Nat.le_of_eq rfl) (hb hby at_93) (fun _ _ => ⟨rfl, rfl, (Nat.le_of_ble_eq_true rfl), (Nat.le_of_ble_eq_true rfl)⟩)
  dsimp only [Pt.U, Pt.locs, Pt.cells, Pt.slots] at X14 l14 y14 z14 st14 hQ14
  subst l14 y14 z14
  obtain ⟨rfl, N14q, e14⟩ := hQ14
  have K14 : Keep h0 T14.heap [] := K13.trans (own_keq e14) all0
  have N14 := Fr.app N13 N14q
  obtain ⟨_, _, ⟨T15, L15, k15, n15⟩, -, X15, ⟨Lc15, hQ15, l15, y15, z15⟩, st15⟩ := Jvm.LawKit.callS X14 hx (y := (⟨"com/example/tendril/tendril/FormatsAnyBinaryPinLaw", "hit", "(III)Z"⟩ : MethodName)) hown (mvT hZ (hw _ (List.mem_of_getElem? (i := 22) rfl))) (mvT hZ (hw _ (List.mem_of_getElem? (i := 23) rfl))) (mvT hZ (hw _ (List.mem_of_getElem? (i := 24) rfl))) (mvT hZ (hw _ (List.mem_of_getElem? (i := 25) rfl))) (by decide) (backOf (W := 0) (rm3t l Z a0 hw [] (3 : Int32) (3 : Int32) p5 T14.heap n0 (Nat.le_trans Z0 K14.1) (by decide)) hZ (hw _ (List.mem_of_getElem? (i := 25) rfl)) (hw _ (List.mem_of_getElem? (i := 24) rfl)) (by decide) (by decide)) (g := (mkF m 104 #[.val (.int p1), .val (.int p2), .val (.int p3), .val (.int p4), .val (.int p5), .val (.int (3 : Int32)), .val (.ref b6), .val (.ref b10), .unset, .unset, .unset, .unset] [(.int p5), (.int (3 : Int32)), (.int (3 : Int32))])) rfl (by rw [hml]; rfl) (argsL := [(.int (3 : Int32)), (.int (3 : Int32)), (.int p5)]) (rest := []) (lenOf pd_0_3 rfl) rfl (by show 2 * 0 + _ ≤ _; exact Nat.le_of_eq rfl) (hb hby at_104) (fun _ _ => ⟨rfl, rfl, (Nat.le_of_ble_eq_true rfl), (Nat.le_of_ble_eq_true rfl)⟩)
  dsimp only [Pt.U, Pt.locs, Pt.cells, Pt.slots] at X15 l15 y15 z15 st15 hQ15
  subst l15 y15 z15
  obtain ⟨rfl, N15q, e15⟩ := hQ15
  have K15 : Keep h0 T15.heap [] := K14.trans (own_keq e15) all0
  have N15 := Fr.app N14 N15q
  obtain ⟨clC1, ArC1, -, SC1, NC1, HC1, -⟩ := ((((VC.keep (own_keq e12) nin0).keep (own_keq e13) nin0).keep (own_keq e14) nin0).keep (own_keq e15) nin0)
  have HV1 : ∀ j, j < 3 → clC1.slots[j]? = some (.int (own_at [p2, p3, p4] j)) := by
    intro j hj
    match j, hj with
    | 0, _ => exact HC1 0 (by rw [SC1]; decide)
    | 1, _ => exact HC1 1 (by rw [SC1]; decide)
    | 2, _ => exact HC1 2 (by rw [SC1]; decide)
  obtain ⟨cq16, kq16, q16a, q16b, q16c⟩ := isOf hZ rfl (((((E_b10.keep K11c).keep (own_keq e12)).keep (own_keq e13)).keep (own_keq e14)).keep (own_keq e15))
  obtain ⟨_, _, ⟨T16, L16, k16, n16⟩, -, X16, ⟨Lc16, hQ16, l16, y16, z16⟩, st16⟩ := X15.virtualBack hx (y := (⟨"com/example/tendril/tendril/WireColumns$Formats", "anyBinary", "()Z"⟩ : MethodName)) (z := (⟨"com/example/tendril/tendril/WireColumns$Formats", "anyBinary", "()Z"⟩ : MethodName)) hown (mvT hZ (hw _ (List.mem_of_getElem? (i := 26) rfl))) (mvT hZ (hw _ (List.mem_of_getElem? (i := 27) rfl))) (notFace_of_selects (args := #[]) (mvT hZ (hw _ (List.mem_of_getElem? (i := 29) rfl)))) (mvT hZ (hw _ (List.mem_of_getElem? (i := 29) rfl))) (mvT hZ (hw _ (List.mem_of_getElem? (i := 28) rfl))) (by decide) (backOf (W := 0) (rm4 l Z a0 hw [] b10 bC clC1 3 (own_at [p2, p3, p4]) T15.heap n0 (Nat.le_trans Z0 K15.1) ((((FC.keep (own_keq e12) nin0).keep (own_keq e13) nin0).keep (own_keq e14) nin0).keep (own_keq e15) nin0) ArC1 (SC1.trans (by decide)) HV1 (by decide)) hZ (hw _ (List.mem_of_getElem? (i := 30) rfl)) (hw _ (List.mem_of_getElem? (i := 4) rfl)) (by decide) (by decide)) q16a q16c (g := (mkF m 119 #[.val (.int p1), .val (.int p2), .val (.int p3), .val (.int p4), .val (.int p5), .val (.int (3 : Int32)), .val (.ref b6), .val (.ref b10), .val (.int (0 : Int32)), .unset, .unset, .unset] [(.ref b10)])) rfl (by rw [hml]; rfl) (Steps.refl _) (argsL := []) (rest := []) (lenOf pd_0_4 rfl) rfl (by show 2 * 0 + _ ≤ _; exact Nat.le_of_eq rfl) (hb hby at_119) (fun _ _ => ⟨rfl, rfl, (Nat.le_of_ble_eq_true rfl), (Nat.le_of_ble_eq_true rfl)⟩)
  dsimp only [Pt.U, Pt.locs, Pt.cells, Pt.slots] at X16 l16 y16 z16 st16 hQ16
  subst l16 y16 z16
  obtain ⟨rfl, N16q, e16⟩ := hQ16
  have K16 : Keep h0 T16.heap [] := K15.trans (own_keq e16) all0
  have N16 := Fr.app N15 N16q
  obtain ⟨cl_b6_146, Ar_b6, q_b6, S_b6, N_b6, H_b6, G_b6⟩ := (((((((V_b6_9.ext E10).keep K11c (ninS ne_ao nin0)).keep (own_keq e12) nin0).keep (own_keq e13) nin0).keep (own_keq e14) nin0).keep (own_keq e15) nin0).keep (own_keq e16) nin0)
  have hin146 : ¬ ((0 : Int32) < 0 ∨ cl_b6_146.slots.size ≤ ((0 : Int32)).toNatClampNeg) := inb_of S_b6 ⟨by decide, by decide⟩
  obtain ⟨T17, h17, X17, e17, W17, st17⟩ := stI X16 hx hZ rfl Ar_b6 (j := (0 : Int32)) hin146 (g := (mkF m 146 #[.val (.int p1), .val (.int p2), .val (.int p3), .val (.int p4), .val (.int p5), .val (.int (3 : Int32)), .val (.ref b6), .val (.ref b10), .val (.int (0 : Int32)), .val (.int (own_anyf (own_at [p2, p3, p4]) 3 0 0)), .val (.int (1 : Int32)), .unset] [(.int (1 : Int32)), (.int (0 : Int32)), (.ref b6)])) rfl rfl (hb hby at_146)
  have V_b6_17 := Arv.set Ar_b6 q_b6 S_b6 N_b6 H_b6 G_b6 rfl W17 0 rfl (Nat.le_of_ble_eq_true rfl)
  have K17 : Keep h0 h17 [] := K16.wr W17 (Or.inr sz_b6)
  have N17 := Fr.snoc X17 N16 g_b6
  obtain ⟨cl_b6_158, Ar_b6, q_b6, S_b6, N_b6, H_b6, G_b6⟩ := V_b6_17
  have hin158 : ¬ ((1 : Int32) < 0 ∨ cl_b6_158.slots.size ≤ ((1 : Int32)).toNatClampNeg) := inb_of S_b6 ⟨by decide, by decide⟩
  obtain ⟨T18, h18, X18, e18, W18, st18⟩ := stI X17 hx hZ e17 Ar_b6 (j := (1 : Int32)) hin158 (g := (mkF m 158 #[.val (.int p1), .val (.int p2), .val (.int p3), .val (.int p4), .val (.int p5), .val (.int (3 : Int32)), .val (.ref b6), .val (.ref b10), .val (.int (0 : Int32)), .val (.int (own_anyf (own_at [p2, p3, p4]) 3 0 0)), .val (.int (1 : Int32)), .unset] [(.int (1 : Int32)), (.int (1 : Int32)), (.ref b6)])) rfl rfl (hb hby at_158)
  have V_b6_18 := Arv.set Ar_b6 q_b6 S_b6 N_b6 H_b6 G_b6 rfl W18 1 rfl (Nat.le_of_ble_eq_true rfl)
  have K18 : Keep h0 h18 [] := K17.wr W18 (Or.inr sz_b6)
  have N18 := Fr.snoc X18 N17 g_b6
  obtain ⟨cl_b6_170, Ar_b6, q_b6, S_b6, N_b6, H_b6, G_b6⟩ := V_b6_18
  have hin170 : ¬ ((2 : Int32) < 0 ∨ cl_b6_170.slots.size ≤ ((2 : Int32)).toNatClampNeg) := inb_of S_b6 ⟨by decide, by decide⟩
  obtain ⟨T19, h19, X19, e19, W19, st19⟩ := stI X18 hx hZ e18 Ar_b6 (j := (2 : Int32)) hin170 (g := (mkF m 170 #[.val (.int p1), .val (.int p2), .val (.int p3), .val (.int p4), .val (.int p5), .val (.int (3 : Int32)), .val (.ref b6), .val (.ref b10), .val (.int (0 : Int32)), .val (.int (own_anyf (own_at [p2, p3, p4]) 3 0 0)), .val (.int (1 : Int32)), .unset] [(.int (1 : Int32)), (.int (2 : Int32)), (.ref b6)])) rfl rfl (hb hby at_170)
  have V_b6_19 := Arv.set Ar_b6 q_b6 S_b6 N_b6 H_b6 G_b6 rfl W19 2 rfl (Nat.le_of_ble_eq_true rfl)
  have K19 : Keep h0 h19 [] := K18.wr W19 (Or.inr sz_b6)
  have N19 := Fr.snoc X19 N18 g_b6
  obtain ⟨clC2, ArC2, -, SC2, NC2, HC2, -⟩ := ((((((((VC.keep (own_keq e12) nin0).keep (own_keq e13) nin0).keep (own_keq e14) nin0).keep (own_keq e15) nin0).keep (own_keq e16) nin0).other W17 ne_Ca).other W18 ne_Ca).other W19 ne_Ca)
  have HV2 : ∀ j, j < 3 → clC2.slots[j]? = some (.int (own_at [p2, p3, p4] j)) := by
    intro j hj
    match j, hj with
    | 0, _ => exact HC2 0 (by rw [SC2]; decide)
    | 1, _ => exact HC2 1 (by rw [SC2]; decide)
    | 2, _ => exact HC2 2 (by rw [SC2]; decide)
  obtain ⟨cq20, kq20, q20a, q20b, q20c⟩ := isOf hZ e19 (((((((((E_b10.keep K11c).keep (own_keq e12)).keep (own_keq e13)).keep (own_keq e14)).keep (own_keq e15)).keep (own_keq e16)).wr W17).wr W18).wr W19)
  obtain ⟨_, _, ⟨T20, L20, k20, n20⟩, -, X20, ⟨Lc20, hQ20, l20, y20, z20⟩, st20⟩ := X19.virtualBack hx (y := (⟨"com/example/tendril/tendril/WireColumns$Formats", "anyBinary", "()Z"⟩ : MethodName)) (z := (⟨"com/example/tendril/tendril/WireColumns$Formats", "anyBinary", "()Z"⟩ : MethodName)) hown (mvT hZ (hw _ (List.mem_of_getElem? (i := 26) rfl))) (mvT hZ (hw _ (List.mem_of_getElem? (i := 27) rfl))) (notFace_of_selects (args := #[]) (mvT hZ (hw _ (List.mem_of_getElem? (i := 29) rfl)))) (mvT hZ (hw _ (List.mem_of_getElem? (i := 29) rfl))) (mvT hZ (hw _ (List.mem_of_getElem? (i := 28) rfl))) (by decide) (backOf (W := 0) (rm4 l Z a0 hw [] b10 bC clC2 3 (own_at [p2, p3, p4]) h19 n0 (Nat.le_trans Z0 K19.1) ((((((((FC.keep (own_keq e12) nin0).keep (own_keq e13) nin0).keep (own_keq e14) nin0).keep (own_keq e15) nin0).keep (own_keq e16) nin0).other W17 (Or.inl (Ne.symm ne_ao))).other W18 (Or.inl (Ne.symm ne_ao))).other W19 (Or.inl (Ne.symm ne_ao))) ArC2 (SC2.trans (by decide)) HV2 (by decide)) hZ (hw _ (List.mem_of_getElem? (i := 30) rfl)) (hw _ (List.mem_of_getElem? (i := 4) rfl)) (by decide) (by decide)) q20a q20c (g := (mkF m 185 #[.val (.int p1), .val (.int p2), .val (.int p3), .val (.int p4), .val (.int p5), .val (.int (3 : Int32)), .val (.ref b6), .val (.ref b10), .val (.int (0 : Int32)), .val (.int (own_anyf (own_at [p2, p3, p4]) 3 0 0)), .val (.int (1 : Int32)), .unset] [(.ref b10)])) rfl (by rw [hml]; rfl) (Steps.refl _) (argsL := []) (rest := []) (lenOf pd_0_4 rfl) rfl (by show 2 * 0 + _ ≤ _; exact Nat.le_of_eq rfl) (hb hby at_185) (fun _ _ => ⟨rfl, e19, (Nat.le_of_ble_eq_true rfl), (Nat.le_of_ble_eq_true rfl)⟩)
  dsimp only [Pt.U, Pt.locs, Pt.cells, Pt.slots] at X20 l20 y20 z20 st20 hQ20
  subst l20 y20 z20
  obtain ⟨rfl, N20q, e20⟩ := hQ20
  have K20 : Keep h0 T20.heap [] := K19.trans (own_keq e20) all0
  have N20 := Fr.app N19 N20q
  obtain ⟨fs, hr, hrun, hended, hW, hsame⟩ := X20.leave (v := some (.int (1 : Int32))) (fun h => by rw [Bd.returns] at h; cases h)
  refine ⟨_, _, pre0 _ ?_, hrun, hended, _, _, rfl, ?_, ⟨_, rfl⟩, hW, hsame.mono (by decide) (by decide)⟩
  · show Steps p.tables e below (s₁.setTop (mkF m 0 #[.val (.int p1), .val (.int p2), .val (.int p3), .val (.int p4), .val (.int p5), .unset, .unset, .unset, .unset, .unset, .unset, .unset] [])) _
    refine XS.iloadN X0.here hx rfl (hb hby at_0) rfl ?_
    show Steps p.tables e below (s₁.setTop (mkF m 1 #[.val (.int p1), .val (.int p2), .val (.int p3), .val (.int p4), .val (.int p5), .unset, .unset, .unset, .unset, .unset, .unset, .unset] [(.int p1)])) _
    refine X0.ldcInt hx hown (mvT hZ (hw _ (List.mem_of_getElem? (i := 0) rfl))) (g := (mkF m 1 #[.val (.int p1), .val (.int p2), .val (.int p3), .val (.int p4), .val (.int p5), .unset, .unset, .unset, .unset, .unset, .unset, .unset] [(.int p1)])) rfl (hb hby at_1) _ ?_
    show Steps p.tables e below (s₁.setTop (mkF m 3 #[.val (.int p1), .val (.int p2), .val (.int p3), .val (.int p4), .val (.int p5), .unset, .unset, .unset, .unset, .unset, .unset, .unset] [(.int (2147483647 : Int32)), (.int p1)])) _
    refine XS.iand X0.here hx rfl (hb hby at_3) rfl ?_
    show Steps p.tables e below (s₁.setTop (mkF m 4 #[.val (.int p1), .val (.int p2), .val (.int p3), .val (.int p4), .val (.int p5), .unset, .unset, .unset, .unset, .unset, .unset, .unset] [(.int (p1 &&& (2147483647 : Int32)))])) _
    refine XS.iconst X0.here hx rfl (hb hby at_4) ?_
    show Steps p.tables e below (s₁.setTop (mkF m 5 #[.val (.int p1), .val (.int p2), .val (.int p3), .val (.int p4), .val (.int p5), .unset, .unset, .unset, .unset, .unset, .unset, .unset] [(.int (5 : Int32)), (.int (p1 &&& (2147483647 : Int32)))])) _
    refine iremM X0 hx rfl (hb hby at_5) rfl (by decide) ?_
    rw [hp5]
    show Steps p.tables e below (s₁.setTop (mkF m 6 #[.val (.int p1), .val (.int p2), .val (.int p3), .val (.int p4), .val (.int p5), .unset, .unset, .unset, .unset, .unset, .unset, .unset] [(.int (3 : Int32))])) _
    refine XS.istore X0.here hx rfl (hb hby at_6) rfl (l' := #[.val (.int p1), .val (.int p2), .val (.int p3), .val (.int p4), .val (.int p5), .val (.int (3 : Int32)), .unset, .unset, .unset, .unset, .unset, .unset]) rfl ?_
    show Steps p.tables e below (s₁.setTop (mkF m 8 #[.val (.int p1), .val (.int p2), .val (.int p3), .val (.int p4), .val (.int p5), .val (.int (3 : Int32)), .unset, .unset, .unset, .unset, .unset, .unset] [])) _
    refine XS.iload X0.here hx rfl (hb hby at_8) rfl ?_
    show Steps p.tables e below (s₁.setTop (mkF m 10 #[.val (.int p1), .val (.int p2), .val (.int p3), .val (.int p4), .val (.int p5), .val (.int (3 : Int32)), .unset, .unset, .unset, .unset, .unset, .unset] [(.int (3 : Int32))])) _
    refine st6 _ ?_
    show Steps p.tables e below (T6.setTop (mkF m 12 #[.val (.int p1), .val (.int p2), .val (.int p3), .val (.int p4), .val (.int p5), .val (.int (3 : Int32)), .unset, .unset, .unset, .unset, .unset, .unset] [(.ref b6)])) _
    refine XS.astore X6.here hx rfl (hb hby at_12) rfl rfl (l' := #[.val (.int p1), .val (.int p2), .val (.int p3), .val (.int p4), .val (.int p5), .val (.int (3 : Int32)), .val (.ref b6), .unset, .unset, .unset, .unset, .unset]) rfl ?_
    show Steps p.tables e below (T6.setTop (mkF m 14 #[.val (.int p1), .val (.int p2), .val (.int p3), .val (.int p4), .val (.int p5), .val (.int (3 : Int32)), .val (.ref b6), .unset, .unset, .unset, .unset, .unset] [])) _
    refine XS.iload X6.here hx rfl (hb hby at_14) rfl ?_
    show Steps p.tables e below (T6.setTop (mkF m 16 #[.val (.int p1), .val (.int p2), .val (.int p3), .val (.int p4), .val (.int p5), .val (.int (3 : Int32)), .val (.ref b6), .unset, .unset, .unset, .unset, .unset] [(.int (3 : Int32))])) _
    refine XS.ifNo X6.here hx rfl (hb hby at_16) rfl ((if0 _ _).trans (tlt (by decide : (0 : Int32) < (3 : Int32))).2.2.2) ?_
    show Steps p.tables e below (T6.setTop (mkF m 19 #[.val (.int p1), .val (.int p2), .val (.int p3), .val (.int p4), .val (.int p5), .val (.int (3 : Int32)), .val (.ref b6), .unset, .unset, .unset, .unset, .unset] [])) _
    refine XS.aload X6.here hx rfl (hb hby at_19) rfl rfl ?_
    show Steps p.tables e below (T6.setTop (mkF m 21 #[.val (.int p1), .val (.int p2), .val (.int p3), .val (.int p4), .val (.int p5), .val (.int (3 : Int32)), .val (.ref b6), .unset, .unset, .unset, .unset, .unset] [(.ref b6)])) _
    refine XS.iconst X6.here hx rfl (hb hby at_21) ?_
    show Steps p.tables e below (T6.setTop (mkF m 22 #[.val (.int p1), .val (.int p2), .val (.int p3), .val (.int p4), .val (.int p5), .val (.int (3 : Int32)), .val (.ref b6), .unset, .unset, .unset, .unset, .unset] [(.int (0 : Int32)), (.ref b6)])) _
    refine XS.iloadN X6.here hx rfl (hb hby at_22) rfl ?_
    show Steps p.tables e below (T6.setTop (mkF m 23 #[.val (.int p1), .val (.int p2), .val (.int p3), .val (.int p4), .val (.int p5), .val (.int (3 : Int32)), .val (.ref b6), .unset, .unset, .unset, .unset, .unset] [(.int p2), (.int (0 : Int32)), (.ref b6)])) _
    refine st7 _ ?_
    show Steps p.tables e below (T7.setTop (mkF m 24 #[.val (.int p1), .val (.int p2), .val (.int p3), .val (.int p4), .val (.int p5), .val (.int (3 : Int32)), .val (.ref b6), .unset, .unset, .unset, .unset, .unset] [])) _
    refine XS.iload X7.here hx rfl (hb hby at_24) rfl ?_
    show Steps p.tables e below (T7.setTop (mkF m 26 #[.val (.int p1), .val (.int p2), .val (.int p3), .val (.int p4), .val (.int p5), .val (.int (3 : Int32)), .val (.ref b6), .unset, .unset, .unset, .unset, .unset] [(.int (3 : Int32))])) _
    refine XS.iconst X7.here hx rfl (hb hby at_26) ?_
    show Steps p.tables e below (T7.setTop (mkF m 27 #[.val (.int p1), .val (.int p2), .val (.int p3), .val (.int p4), .val (.int p5), .val (.int (3 : Int32)), .val (.ref b6), .unset, .unset, .unset, .unset, .unset] [(.int (1 : Int32)), (.int (3 : Int32))])) _
    refine XS.icmpNo X7.here hx rfl (hb hby at_27) rfl (tlt (by decide : (1 : Int32) < (3 : Int32))).2.2.2 ?_
    show Steps p.tables e below (T7.setTop (mkF m 30 #[.val (.int p1), .val (.int p2), .val (.int p3), .val (.int p4), .val (.int p5), .val (.int (3 : Int32)), .val (.ref b6), .unset, .unset, .unset, .unset, .unset] [])) _
    refine XS.aload X7.here hx rfl (hb hby at_30) rfl rfl ?_
    show Steps p.tables e below (T7.setTop (mkF m 32 #[.val (.int p1), .val (.int p2), .val (.int p3), .val (.int p4), .val (.int p5), .val (.int (3 : Int32)), .val (.ref b6), .unset, .unset, .unset, .unset, .unset] [(.ref b6)])) _
    refine XS.iconst X7.here hx rfl (hb hby at_32) ?_
    show Steps p.tables e below (T7.setTop (mkF m 33 #[.val (.int p1), .val (.int p2), .val (.int p3), .val (.int p4), .val (.int p5), .val (.int (3 : Int32)), .val (.ref b6), .unset, .unset, .unset, .unset, .unset] [(.int (1 : Int32)), (.ref b6)])) _
    refine XS.iloadN X7.here hx rfl (hb hby at_33) rfl ?_
    show Steps p.tables e below (T7.setTop (mkF m 34 #[.val (.int p1), .val (.int p2), .val (.int p3), .val (.int p4), .val (.int p5), .val (.int (3 : Int32)), .val (.ref b6), .unset, .unset, .unset, .unset, .unset] [(.int p3), (.int (1 : Int32)), (.ref b6)])) _
    refine st8 _ ?_
    show Steps p.tables e below (T8.setTop (mkF m 35 #[.val (.int p1), .val (.int p2), .val (.int p3), .val (.int p4), .val (.int p5), .val (.int (3 : Int32)), .val (.ref b6), .unset, .unset, .unset, .unset, .unset] [])) _
    refine XS.iload X8.here hx rfl (hb hby at_35) rfl ?_
    show Steps p.tables e below (T8.setTop (mkF m 37 #[.val (.int p1), .val (.int p2), .val (.int p3), .val (.int p4), .val (.int p5), .val (.int (3 : Int32)), .val (.ref b6), .unset, .unset, .unset, .unset, .unset] [(.int (3 : Int32))])) _
    refine XS.iconst X8.here hx rfl (hb hby at_37) ?_
    show Steps p.tables e below (T8.setTop (mkF m 38 #[.val (.int p1), .val (.int p2), .val (.int p3), .val (.int p4), .val (.int p5), .val (.int (3 : Int32)), .val (.ref b6), .unset, .unset, .unset, .unset, .unset] [(.int (2 : Int32)), (.int (3 : Int32))])) _
    refine XS.icmpNo X8.here hx rfl (hb hby at_38) rfl (tlt (by decide : (2 : Int32) < (3 : Int32))).2.2.2 ?_
    show Steps p.tables e below (T8.setTop (mkF m 41 #[.val (.int p1), .val (.int p2), .val (.int p3), .val (.int p4), .val (.int p5), .val (.int (3 : Int32)), .val (.ref b6), .unset, .unset, .unset, .unset, .unset] [])) _
    refine XS.aload X8.here hx rfl (hb hby at_41) rfl rfl ?_
    show Steps p.tables e below (T8.setTop (mkF m 43 #[.val (.int p1), .val (.int p2), .val (.int p3), .val (.int p4), .val (.int p5), .val (.int (3 : Int32)), .val (.ref b6), .unset, .unset, .unset, .unset, .unset] [(.ref b6)])) _
    refine XS.iconst X8.here hx rfl (hb hby at_43) ?_
    show Steps p.tables e below (T8.setTop (mkF m 44 #[.val (.int p1), .val (.int p2), .val (.int p3), .val (.int p4), .val (.int p5), .val (.int (3 : Int32)), .val (.ref b6), .unset, .unset, .unset, .unset, .unset] [(.int (2 : Int32)), (.ref b6)])) _
    refine XS.iloadN X8.here hx rfl (hb hby at_44) rfl ?_
    show Steps p.tables e below (T8.setTop (mkF m 45 #[.val (.int p1), .val (.int p2), .val (.int p3), .val (.int p4), .val (.int p5), .val (.int (3 : Int32)), .val (.ref b6), .unset, .unset, .unset, .unset, .unset] [(.int p4), (.int (2 : Int32)), (.ref b6)])) _
    refine st9 _ ?_
    show Steps p.tables e below (T9.setTop (mkF m 46 #[.val (.int p1), .val (.int p2), .val (.int p3), .val (.int p4), .val (.int p5), .val (.int (3 : Int32)), .val (.ref b6), .unset, .unset, .unset, .unset, .unset] [])) _
    refine XS.iload X9.here hx rfl (hb hby at_46) rfl ?_
    show Steps p.tables e below (T9.setTop (mkF m 48 #[.val (.int p1), .val (.int p2), .val (.int p3), .val (.int p4), .val (.int p5), .val (.int (3 : Int32)), .val (.ref b6), .unset, .unset, .unset, .unset, .unset] [(.int (3 : Int32))])) _
    refine XS.iconst X9.here hx rfl (hb hby at_48) ?_
    show Steps p.tables e below (T9.setTop (mkF m 49 #[.val (.int p1), .val (.int p2), .val (.int p3), .val (.int p4), .val (.int p5), .val (.int (3 : Int32)), .val (.ref b6), .unset, .unset, .unset, .unset, .unset] [(.int (3 : Int32)), (.int (3 : Int32))])) _
    refine XS.icmpYes X9.here hx rfl (pc0 := 49) (pc' := 58) rfl (hb hby at_49) rfl (flt (by decide : ¬ ((3 : Int32) < (3 : Int32)))).2.2.2 (by decide) (by decide) ?_
    show Steps p.tables e below (T9.setTop (mkF m 58 #[.val (.int p1), .val (.int p2), .val (.int p3), .val (.int p4), .val (.int p5), .val (.int (3 : Int32)), .val (.ref b6), .unset, .unset, .unset, .unset, .unset] [])) _
    refine st10 _ ?_
    show Steps p.tables e below (T10.setTop (mkF m 61 #[.val (.int p1), .val (.int p2), .val (.int p3), .val (.int p4), .val (.int p5), .val (.int (3 : Int32)), .val (.ref b6), .unset, .unset, .unset, .unset, .unset] [(.ref b10)])) _
    refine XS.dup X10.here hx rfl (hb hby at_61) rfl rfl ?_
    show Steps p.tables e below (T10.setTop (mkF m 62 #[.val (.int p1), .val (.int p2), .val (.int p3), .val (.int p4), .val (.int p5), .val (.int (3 : Int32)), .val (.ref b6), .unset, .unset, .unset, .unset, .unset] [(.ref b10), (.ref b10)])) _
    refine XS.aload X10.here hx rfl (hb hby at_62) rfl rfl ?_
    show Steps p.tables e below (T10.setTop (mkF m 64 #[.val (.int p1), .val (.int p2), .val (.int p3), .val (.int p4), .val (.int p5), .val (.int (3 : Int32)), .val (.ref b6), .unset, .unset, .unset, .unset, .unset] [(.ref b6), (.ref b10), (.ref b10)])) _
    refine st11.trans ?_
    show Steps p.tables e below (T11.setTop (mkF m 67 #[.val (.int p1), .val (.int p2), .val (.int p3), .val (.int p4), .val (.int p5), .val (.int (3 : Int32)), .val (.ref b6), .unset, .unset, .unset, .unset, .unset] [(.ref b10)])) _
    refine XS.astore X11.here hx rfl (hb hby at_67) rfl rfl (l' := #[.val (.int p1), .val (.int p2), .val (.int p3), .val (.int p4), .val (.int p5), .val (.int (3 : Int32)), .val (.ref b6), .val (.ref b10), .unset, .unset, .unset, .unset]) rfl ?_
    show Steps p.tables e below (T11.setTop (mkF m 69 #[.val (.int p1), .val (.int p2), .val (.int p3), .val (.int p4), .val (.int p5), .val (.int (3 : Int32)), .val (.ref b6), .val (.ref b10), .unset, .unset, .unset, .unset] [])) _
    refine XS.iload X11.here hx rfl (hb hby at_69) rfl ?_
    show Steps p.tables e below (T11.setTop (mkF m 71 #[.val (.int p1), .val (.int p2), .val (.int p3), .val (.int p4), .val (.int p5), .val (.int (3 : Int32)), .val (.ref b6), .val (.ref b10), .unset, .unset, .unset, .unset] [(.int (3 : Int32))])) _
    refine XS.iconst X11.here hx rfl (hb hby at_71) ?_
    show Steps p.tables e below (T11.setTop (mkF m 72 #[.val (.int p1), .val (.int p2), .val (.int p3), .val (.int p4), .val (.int p5), .val (.int (3 : Int32)), .val (.ref b6), .val (.ref b10), .unset, .unset, .unset, .unset] [(.int (0 : Int32)), (.int (3 : Int32))])) _
    refine XS.iloadN X11.here hx rfl (hb hby at_72) rfl ?_
    show Steps p.tables e below (T11.setTop (mkF m 73 #[.val (.int p1), .val (.int p2), .val (.int p3), .val (.int p4), .val (.int p5), .val (.int (3 : Int32)), .val (.ref b6), .val (.ref b10), .unset, .unset, .unset, .unset] [(.int p2), (.int (0 : Int32)), (.int (3 : Int32))])) _
    refine st12 _ ?_
    show Steps p.tables e below (T12.setTop (mkF m 76 #[.val (.int p1), .val (.int p2), .val (.int p3), .val (.int p4), .val (.int p5), .val (.int (3 : Int32)), .val (.ref b6), .val (.ref b10), .unset, .unset, .unset, .unset] [(.int (0 : Int32))])) _
    refine XS.ifNo X12.here hx rfl (hb hby at_76) rfl ((if0 _ _).trans (teq (by decide : (0 : Int32) = (0 : Int32))).2) ?_
    show Steps p.tables e below (T12.setTop (mkF m 79 #[.val (.int p1), .val (.int p2), .val (.int p3), .val (.int p4), .val (.int p5), .val (.int (3 : Int32)), .val (.ref b6), .val (.ref b10), .unset, .unset, .unset, .unset] [])) _
    refine XS.iload X12.here hx rfl (hb hby at_79) rfl ?_
    show Steps p.tables e below (T12.setTop (mkF m 81 #[.val (.int p1), .val (.int p2), .val (.int p3), .val (.int p4), .val (.int p5), .val (.int (3 : Int32)), .val (.ref b6), .val (.ref b10), .unset, .unset, .unset, .unset] [(.int (3 : Int32))])) _
    refine XS.iconst X12.here hx rfl (hb hby at_81) ?_
    show Steps p.tables e below (T12.setTop (mkF m 82 #[.val (.int p1), .val (.int p2), .val (.int p3), .val (.int p4), .val (.int p5), .val (.int (3 : Int32)), .val (.ref b6), .val (.ref b10), .unset, .unset, .unset, .unset] [(.int (1 : Int32)), (.int (3 : Int32))])) _
    refine XS.iloadN X12.here hx rfl (hb hby at_82) rfl ?_
    show Steps p.tables e below (T12.setTop (mkF m 83 #[.val (.int p1), .val (.int p2), .val (.int p3), .val (.int p4), .val (.int p5), .val (.int (3 : Int32)), .val (.ref b6), .val (.ref b10), .unset, .unset, .unset, .unset] [(.int p3), (.int (1 : Int32)), (.int (3 : Int32))])) _
    refine st13 _ ?_
    show Steps p.tables e below (T13.setTop (mkF m 86 #[.val (.int p1), .val (.int p2), .val (.int p3), .val (.int p4), .val (.int p5), .val (.int (3 : Int32)), .val (.ref b6), .val (.ref b10), .unset, .unset, .unset, .unset] [(.int (0 : Int32))])) _
    refine XS.ifNo X13.here hx rfl (hb hby at_86) rfl ((if0 _ _).trans (teq (by decide : (0 : Int32) = (0 : Int32))).2) ?_
    show Steps p.tables e below (T13.setTop (mkF m 89 #[.val (.int p1), .val (.int p2), .val (.int p3), .val (.int p4), .val (.int p5), .val (.int (3 : Int32)), .val (.ref b6), .val (.ref b10), .unset, .unset, .unset, .unset] [])) _
    refine XS.iload X13.here hx rfl (hb hby at_89) rfl ?_
    show Steps p.tables e below (T13.setTop (mkF m 91 #[.val (.int p1), .val (.int p2), .val (.int p3), .val (.int p4), .val (.int p5), .val (.int (3 : Int32)), .val (.ref b6), .val (.ref b10), .unset, .unset, .unset, .unset] [(.int (3 : Int32))])) _
    refine XS.iconst X13.here hx rfl (hb hby at_91) ?_
    show Steps p.tables e below (T13.setTop (mkF m 92 #[.val (.int p1), .val (.int p2), .val (.int p3), .val (.int p4), .val (.int p5), .val (.int (3 : Int32)), .val (.ref b6), .val (.ref b10), .unset, .unset, .unset, .unset] [(.int (2 : Int32)), (.int (3 : Int32))])) _
    refine XS.iloadN X13.here hx rfl (hb hby at_92) rfl ?_
    show Steps p.tables e below (T13.setTop (mkF m 93 #[.val (.int p1), .val (.int p2), .val (.int p3), .val (.int p4), .val (.int p5), .val (.int (3 : Int32)), .val (.ref b6), .val (.ref b10), .unset, .unset, .unset, .unset] [(.int p4), (.int (2 : Int32)), (.int (3 : Int32))])) _
    refine st14 _ ?_
    show Steps p.tables e below (T14.setTop (mkF m 96 #[.val (.int p1), .val (.int p2), .val (.int p3), .val (.int p4), .val (.int p5), .val (.int (3 : Int32)), .val (.ref b6), .val (.ref b10), .unset, .unset, .unset, .unset] [(.int (0 : Int32))])) _
    refine XS.ifNo X14.here hx rfl (hb hby at_96) rfl ((if0 _ _).trans (teq (by decide : (0 : Int32) = (0 : Int32))).2) ?_
    show Steps p.tables e below (T14.setTop (mkF m 99 #[.val (.int p1), .val (.int p2), .val (.int p3), .val (.int p4), .val (.int p5), .val (.int (3 : Int32)), .val (.ref b6), .val (.ref b10), .unset, .unset, .unset, .unset] [])) _
    refine XS.iload X14.here hx rfl (hb hby at_99) rfl ?_
    show Steps p.tables e below (T14.setTop (mkF m 101 #[.val (.int p1), .val (.int p2), .val (.int p3), .val (.int p4), .val (.int p5), .val (.int (3 : Int32)), .val (.ref b6), .val (.ref b10), .unset, .unset, .unset, .unset] [(.int (3 : Int32))])) _
    refine XS.iconst X14.here hx rfl (hb hby at_101) ?_
    show Steps p.tables e below (T14.setTop (mkF m 102 #[.val (.int p1), .val (.int p2), .val (.int p3), .val (.int p4), .val (.int p5), .val (.int (3 : Int32)), .val (.ref b6), .val (.ref b10), .unset, .unset, .unset, .unset] [(.int (3 : Int32)), (.int (3 : Int32))])) _
    refine XS.iload X14.here hx rfl (hb hby at_102) rfl ?_
    show Steps p.tables e below (T14.setTop (mkF m 104 #[.val (.int p1), .val (.int p2), .val (.int p3), .val (.int p4), .val (.int p5), .val (.int (3 : Int32)), .val (.ref b6), .val (.ref b10), .unset, .unset, .unset, .unset] [(.int p5), (.int (3 : Int32)), (.int (3 : Int32))])) _
    refine st15 _ ?_
    show Steps p.tables e below (T15.setTop (mkF m 107 #[.val (.int p1), .val (.int p2), .val (.int p3), .val (.int p4), .val (.int p5), .val (.int (3 : Int32)), .val (.ref b6), .val (.ref b10), .unset, .unset, .unset, .unset] [(.int (0 : Int32))])) _
    refine XS.ifYes X15.here hx rfl (pc0 := 107) (pc' := 114) rfl (hb hby at_107) rfl ((if0 _ _).trans (teq (by decide : (0 : Int32) = (0 : Int32))).1) (by decide) (by decide) ?_
    show Steps p.tables e below (T15.setTop (mkF m 114 #[.val (.int p1), .val (.int p2), .val (.int p3), .val (.int p4), .val (.int p5), .val (.int (3 : Int32)), .val (.ref b6), .val (.ref b10), .unset, .unset, .unset, .unset] [])) _
    refine XS.iconst X15.here hx rfl (hb hby at_114) ?_
    show Steps p.tables e below (T15.setTop (mkF m 115 #[.val (.int p1), .val (.int p2), .val (.int p3), .val (.int p4), .val (.int p5), .val (.int (3 : Int32)), .val (.ref b6), .val (.ref b10), .unset, .unset, .unset, .unset] [(.int (0 : Int32))])) _
    refine XS.istore X15.here hx rfl (hb hby at_115) rfl (l' := #[.val (.int p1), .val (.int p2), .val (.int p3), .val (.int p4), .val (.int p5), .val (.int (3 : Int32)), .val (.ref b6), .val (.ref b10), .val (.int (0 : Int32)), .unset, .unset, .unset]) rfl ?_
    show Steps p.tables e below (T15.setTop (mkF m 117 #[.val (.int p1), .val (.int p2), .val (.int p3), .val (.int p4), .val (.int p5), .val (.int (3 : Int32)), .val (.ref b6), .val (.ref b10), .val (.int (0 : Int32)), .unset, .unset, .unset] [])) _
    refine XS.aload X15.here hx rfl (hb hby at_117) rfl rfl ?_
    show Steps p.tables e below (T15.setTop (mkF m 119 #[.val (.int p1), .val (.int p2), .val (.int p3), .val (.int p4), .val (.int p5), .val (.int (3 : Int32)), .val (.ref b6), .val (.ref b10), .val (.int (0 : Int32)), .unset, .unset, .unset] [(.ref b10)])) _
    refine st16.trans ?_
    show Steps p.tables e below (T16.setTop (mkF m 122 #[.val (.int p1), .val (.int p2), .val (.int p3), .val (.int p4), .val (.int p5), .val (.int (3 : Int32)), .val (.ref b6), .val (.ref b10), .val (.int (0 : Int32)), .unset, .unset, .unset] [(.int (own_anyf (own_at [p2, p3, p4]) 3 0 0))])) _
    refine XS.istore X16.here hx rfl (hb hby at_122) rfl (l' := #[.val (.int p1), .val (.int p2), .val (.int p3), .val (.int p4), .val (.int p5), .val (.int (3 : Int32)), .val (.ref b6), .val (.ref b10), .val (.int (0 : Int32)), .val (.int (own_anyf (own_at [p2, p3, p4]) 3 0 0)), .unset, .unset]) rfl ?_
    show Steps p.tables e below (T16.setTop (mkF m 124 #[.val (.int p1), .val (.int p2), .val (.int p3), .val (.int p4), .val (.int p5), .val (.int (3 : Int32)), .val (.ref b6), .val (.ref b10), .val (.int (0 : Int32)), .val (.int (own_anyf (own_at [p2, p3, p4]) 3 0 0)), .unset, .unset] [])) _
    refine XS.iload X16.here hx rfl (hb hby at_124) rfl ?_
    show Steps p.tables e below (T16.setTop (mkF m 126 #[.val (.int p1), .val (.int p2), .val (.int p3), .val (.int p4), .val (.int p5), .val (.int (3 : Int32)), .val (.ref b6), .val (.ref b10), .val (.int (0 : Int32)), .val (.int (own_anyf (own_at [p2, p3, p4]) 3 0 0)), .unset, .unset] [(.int (0 : Int32))])) _
    refine XS.ifYes X16.here hx rfl (pc0 := 126) (pc' := 133) rfl (hb hby at_126) rfl ((if0 _ _).trans (teq (by decide : (0 : Int32) = (0 : Int32))).1) (by decide) (by decide) ?_
    show Steps p.tables e below (T16.setTop (mkF m 133 #[.val (.int p1), .val (.int p2), .val (.int p3), .val (.int p4), .val (.int p5), .val (.int (3 : Int32)), .val (.ref b6), .val (.ref b10), .val (.int (0 : Int32)), .val (.int (own_anyf (own_at [p2, p3, p4]) 3 0 0)), .unset, .unset] [])) _
    refine XS.iconst X16.here hx rfl (hb hby at_133) ?_
    show Steps p.tables e below (T16.setTop (mkF m 134 #[.val (.int p1), .val (.int p2), .val (.int p3), .val (.int p4), .val (.int p5), .val (.int (3 : Int32)), .val (.ref b6), .val (.ref b10), .val (.int (0 : Int32)), .val (.int (own_anyf (own_at [p2, p3, p4]) 3 0 0)), .unset, .unset] [(.int (1 : Int32))])) _
    refine XS.istore X16.here hx rfl (hb hby at_134) rfl (l' := #[.val (.int p1), .val (.int p2), .val (.int p3), .val (.int p4), .val (.int p5), .val (.int (3 : Int32)), .val (.ref b6), .val (.ref b10), .val (.int (0 : Int32)), .val (.int (own_anyf (own_at [p2, p3, p4]) 3 0 0)), .val (.int (1 : Int32)), .unset]) rfl ?_
    show Steps p.tables e below (T16.setTop (mkF m 136 #[.val (.int p1), .val (.int p2), .val (.int p3), .val (.int p4), .val (.int p5), .val (.int (3 : Int32)), .val (.ref b6), .val (.ref b10), .val (.int (0 : Int32)), .val (.int (own_anyf (own_at [p2, p3, p4]) 3 0 0)), .val (.int (1 : Int32)), .unset] [])) _
    refine XS.iload X16.here hx rfl (hb hby at_136) rfl ?_
    show Steps p.tables e below (T16.setTop (mkF m 138 #[.val (.int p1), .val (.int p2), .val (.int p3), .val (.int p4), .val (.int p5), .val (.int (3 : Int32)), .val (.ref b6), .val (.ref b10), .val (.int (0 : Int32)), .val (.int (own_anyf (own_at [p2, p3, p4]) 3 0 0)), .val (.int (1 : Int32)), .unset] [(.int (3 : Int32))])) _
    refine XS.ifNo X16.here hx rfl (hb hby at_138) rfl ((if0 _ _).trans (tlt (by decide : (0 : Int32) < (3 : Int32))).2.2.2) ?_
    show Steps p.tables e below (T16.setTop (mkF m 141 #[.val (.int p1), .val (.int p2), .val (.int p3), .val (.int p4), .val (.int p5), .val (.int (3 : Int32)), .val (.ref b6), .val (.ref b10), .val (.int (0 : Int32)), .val (.int (own_anyf (own_at [p2, p3, p4]) 3 0 0)), .val (.int (1 : Int32)), .unset] [])) _
    refine XS.aload X16.here hx rfl (hb hby at_141) rfl rfl ?_
    show Steps p.tables e below (T16.setTop (mkF m 143 #[.val (.int p1), .val (.int p2), .val (.int p3), .val (.int p4), .val (.int p5), .val (.int (3 : Int32)), .val (.ref b6), .val (.ref b10), .val (.int (0 : Int32)), .val (.int (own_anyf (own_at [p2, p3, p4]) 3 0 0)), .val (.int (1 : Int32)), .unset] [(.ref b6)])) _
    refine XS.iconst X16.here hx rfl (hb hby at_143) ?_
    show Steps p.tables e below (T16.setTop (mkF m 144 #[.val (.int p1), .val (.int p2), .val (.int p3), .val (.int p4), .val (.int p5), .val (.int (3 : Int32)), .val (.ref b6), .val (.ref b10), .val (.int (0 : Int32)), .val (.int (own_anyf (own_at [p2, p3, p4]) 3 0 0)), .val (.int (1 : Int32)), .unset] [(.int (0 : Int32)), (.ref b6)])) _
    refine XS.iload X16.here hx rfl (hb hby at_144) rfl ?_
    show Steps p.tables e below (T16.setTop (mkF m 146 #[.val (.int p1), .val (.int p2), .val (.int p3), .val (.int p4), .val (.int p5), .val (.int (3 : Int32)), .val (.ref b6), .val (.ref b10), .val (.int (0 : Int32)), .val (.int (own_anyf (own_at [p2, p3, p4]) 3 0 0)), .val (.int (1 : Int32)), .unset] [(.int (1 : Int32)), (.int (0 : Int32)), (.ref b6)])) _
    refine st17 _ ?_
    show Steps p.tables e below (T17.setTop (mkF m 147 #[.val (.int p1), .val (.int p2), .val (.int p3), .val (.int p4), .val (.int p5), .val (.int (3 : Int32)), .val (.ref b6), .val (.ref b10), .val (.int (0 : Int32)), .val (.int (own_anyf (own_at [p2, p3, p4]) 3 0 0)), .val (.int (1 : Int32)), .unset] [])) _
    refine XS.iload X17.here hx rfl (hb hby at_147) rfl ?_
    show Steps p.tables e below (T17.setTop (mkF m 149 #[.val (.int p1), .val (.int p2), .val (.int p3), .val (.int p4), .val (.int p5), .val (.int (3 : Int32)), .val (.ref b6), .val (.ref b10), .val (.int (0 : Int32)), .val (.int (own_anyf (own_at [p2, p3, p4]) 3 0 0)), .val (.int (1 : Int32)), .unset] [(.int (3 : Int32))])) _
    refine XS.iconst X17.here hx rfl (hb hby at_149) ?_
    show Steps p.tables e below (T17.setTop (mkF m 150 #[.val (.int p1), .val (.int p2), .val (.int p3), .val (.int p4), .val (.int p5), .val (.int (3 : Int32)), .val (.ref b6), .val (.ref b10), .val (.int (0 : Int32)), .val (.int (own_anyf (own_at [p2, p3, p4]) 3 0 0)), .val (.int (1 : Int32)), .unset] [(.int (1 : Int32)), (.int (3 : Int32))])) _
    refine XS.icmpNo X17.here hx rfl (hb hby at_150) rfl (tlt (by decide : (1 : Int32) < (3 : Int32))).2.2.2 ?_
    show Steps p.tables e below (T17.setTop (mkF m 153 #[.val (.int p1), .val (.int p2), .val (.int p3), .val (.int p4), .val (.int p5), .val (.int (3 : Int32)), .val (.ref b6), .val (.ref b10), .val (.int (0 : Int32)), .val (.int (own_anyf (own_at [p2, p3, p4]) 3 0 0)), .val (.int (1 : Int32)), .unset] [])) _
    refine XS.aload X17.here hx rfl (hb hby at_153) rfl rfl ?_
    show Steps p.tables e below (T17.setTop (mkF m 155 #[.val (.int p1), .val (.int p2), .val (.int p3), .val (.int p4), .val (.int p5), .val (.int (3 : Int32)), .val (.ref b6), .val (.ref b10), .val (.int (0 : Int32)), .val (.int (own_anyf (own_at [p2, p3, p4]) 3 0 0)), .val (.int (1 : Int32)), .unset] [(.ref b6)])) _
    refine XS.iconst X17.here hx rfl (hb hby at_155) ?_
    show Steps p.tables e below (T17.setTop (mkF m 156 #[.val (.int p1), .val (.int p2), .val (.int p3), .val (.int p4), .val (.int p5), .val (.int (3 : Int32)), .val (.ref b6), .val (.ref b10), .val (.int (0 : Int32)), .val (.int (own_anyf (own_at [p2, p3, p4]) 3 0 0)), .val (.int (1 : Int32)), .unset] [(.int (1 : Int32)), (.ref b6)])) _
    refine XS.iload X17.here hx rfl (hb hby at_156) rfl ?_
    show Steps p.tables e below (T17.setTop (mkF m 158 #[.val (.int p1), .val (.int p2), .val (.int p3), .val (.int p4), .val (.int p5), .val (.int (3 : Int32)), .val (.ref b6), .val (.ref b10), .val (.int (0 : Int32)), .val (.int (own_anyf (own_at [p2, p3, p4]) 3 0 0)), .val (.int (1 : Int32)), .unset] [(.int (1 : Int32)), (.int (1 : Int32)), (.ref b6)])) _
    refine st18 _ ?_
    show Steps p.tables e below (T18.setTop (mkF m 159 #[.val (.int p1), .val (.int p2), .val (.int p3), .val (.int p4), .val (.int p5), .val (.int (3 : Int32)), .val (.ref b6), .val (.ref b10), .val (.int (0 : Int32)), .val (.int (own_anyf (own_at [p2, p3, p4]) 3 0 0)), .val (.int (1 : Int32)), .unset] [])) _
    refine XS.iload X18.here hx rfl (hb hby at_159) rfl ?_
    show Steps p.tables e below (T18.setTop (mkF m 161 #[.val (.int p1), .val (.int p2), .val (.int p3), .val (.int p4), .val (.int p5), .val (.int (3 : Int32)), .val (.ref b6), .val (.ref b10), .val (.int (0 : Int32)), .val (.int (own_anyf (own_at [p2, p3, p4]) 3 0 0)), .val (.int (1 : Int32)), .unset] [(.int (3 : Int32))])) _
    refine XS.iconst X18.here hx rfl (hb hby at_161) ?_
    show Steps p.tables e below (T18.setTop (mkF m 162 #[.val (.int p1), .val (.int p2), .val (.int p3), .val (.int p4), .val (.int p5), .val (.int (3 : Int32)), .val (.ref b6), .val (.ref b10), .val (.int (0 : Int32)), .val (.int (own_anyf (own_at [p2, p3, p4]) 3 0 0)), .val (.int (1 : Int32)), .unset] [(.int (2 : Int32)), (.int (3 : Int32))])) _
    refine XS.icmpNo X18.here hx rfl (hb hby at_162) rfl (tlt (by decide : (2 : Int32) < (3 : Int32))).2.2.2 ?_
    show Steps p.tables e below (T18.setTop (mkF m 165 #[.val (.int p1), .val (.int p2), .val (.int p3), .val (.int p4), .val (.int p5), .val (.int (3 : Int32)), .val (.ref b6), .val (.ref b10), .val (.int (0 : Int32)), .val (.int (own_anyf (own_at [p2, p3, p4]) 3 0 0)), .val (.int (1 : Int32)), .unset] [])) _
    refine XS.aload X18.here hx rfl (hb hby at_165) rfl rfl ?_
    show Steps p.tables e below (T18.setTop (mkF m 167 #[.val (.int p1), .val (.int p2), .val (.int p3), .val (.int p4), .val (.int p5), .val (.int (3 : Int32)), .val (.ref b6), .val (.ref b10), .val (.int (0 : Int32)), .val (.int (own_anyf (own_at [p2, p3, p4]) 3 0 0)), .val (.int (1 : Int32)), .unset] [(.ref b6)])) _
    refine XS.iconst X18.here hx rfl (hb hby at_167) ?_
    show Steps p.tables e below (T18.setTop (mkF m 168 #[.val (.int p1), .val (.int p2), .val (.int p3), .val (.int p4), .val (.int p5), .val (.int (3 : Int32)), .val (.ref b6), .val (.ref b10), .val (.int (0 : Int32)), .val (.int (own_anyf (own_at [p2, p3, p4]) 3 0 0)), .val (.int (1 : Int32)), .unset] [(.int (2 : Int32)), (.ref b6)])) _
    refine XS.iload X18.here hx rfl (hb hby at_168) rfl ?_
    show Steps p.tables e below (T18.setTop (mkF m 170 #[.val (.int p1), .val (.int p2), .val (.int p3), .val (.int p4), .val (.int p5), .val (.int (3 : Int32)), .val (.ref b6), .val (.ref b10), .val (.int (0 : Int32)), .val (.int (own_anyf (own_at [p2, p3, p4]) 3 0 0)), .val (.int (1 : Int32)), .unset] [(.int (1 : Int32)), (.int (2 : Int32)), (.ref b6)])) _
    refine st19 _ ?_
    show Steps p.tables e below (T19.setTop (mkF m 171 #[.val (.int p1), .val (.int p2), .val (.int p3), .val (.int p4), .val (.int p5), .val (.int (3 : Int32)), .val (.ref b6), .val (.ref b10), .val (.int (0 : Int32)), .val (.int (own_anyf (own_at [p2, p3, p4]) 3 0 0)), .val (.int (1 : Int32)), .unset] [])) _
    refine XS.iload X19.here hx rfl (hb hby at_171) rfl ?_
    show Steps p.tables e below (T19.setTop (mkF m 173 #[.val (.int p1), .val (.int p2), .val (.int p3), .val (.int p4), .val (.int p5), .val (.int (3 : Int32)), .val (.ref b6), .val (.ref b10), .val (.int (0 : Int32)), .val (.int (own_anyf (own_at [p2, p3, p4]) 3 0 0)), .val (.int (1 : Int32)), .unset] [(.int (3 : Int32))])) _
    refine XS.iconst X19.here hx rfl (hb hby at_173) ?_
    show Steps p.tables e below (T19.setTop (mkF m 174 #[.val (.int p1), .val (.int p2), .val (.int p3), .val (.int p4), .val (.int p5), .val (.int (3 : Int32)), .val (.ref b6), .val (.ref b10), .val (.int (0 : Int32)), .val (.int (own_anyf (own_at [p2, p3, p4]) 3 0 0)), .val (.int (1 : Int32)), .unset] [(.int (3 : Int32)), (.int (3 : Int32))])) _
    refine XS.icmpYes X19.here hx rfl (pc0 := 174) (pc' := 183) rfl (hb hby at_174) rfl (flt (by decide : ¬ ((3 : Int32) < (3 : Int32)))).2.2.2 (by decide) (by decide) ?_
    show Steps p.tables e below (T19.setTop (mkF m 183 #[.val (.int p1), .val (.int p2), .val (.int p3), .val (.int p4), .val (.int p5), .val (.int (3 : Int32)), .val (.ref b6), .val (.ref b10), .val (.int (0 : Int32)), .val (.int (own_anyf (own_at [p2, p3, p4]) 3 0 0)), .val (.int (1 : Int32)), .unset] [])) _
    refine XS.aload X19.here hx rfl (hb hby at_183) rfl rfl ?_
    show Steps p.tables e below (T19.setTop (mkF m 185 #[.val (.int p1), .val (.int p2), .val (.int p3), .val (.int p4), .val (.int p5), .val (.int (3 : Int32)), .val (.ref b6), .val (.ref b10), .val (.int (0 : Int32)), .val (.int (own_anyf (own_at [p2, p3, p4]) 3 0 0)), .val (.int (1 : Int32)), .unset] [(.ref b10)])) _
    refine st20.trans ?_
    show Steps p.tables e below (T20.setTop (mkF m 188 #[.val (.int p1), .val (.int p2), .val (.int p3), .val (.int p4), .val (.int p5), .val (.int (3 : Int32)), .val (.ref b6), .val (.ref b10), .val (.int (0 : Int32)), .val (.int (own_anyf (own_at [p2, p3, p4]) 3 0 0)), .val (.int (1 : Int32)), .unset] [(.int (own_anyf (own_at [p2, p3, p4]) 3 0 0))])) _
    refine XS.istore X20.here hx rfl (hb hby at_188) rfl (l' := #[.val (.int p1), .val (.int p2), .val (.int p3), .val (.int p4), .val (.int p5), .val (.int (3 : Int32)), .val (.ref b6), .val (.ref b10), .val (.int (0 : Int32)), .val (.int (own_anyf (own_at [p2, p3, p4]) 3 0 0)), .val (.int (1 : Int32)), .val (.int (own_anyf (own_at [p2, p3, p4]) 3 0 0))]) rfl ?_
    show Steps p.tables e below (T20.setTop (mkF m 190 #[.val (.int p1), .val (.int p2), .val (.int p3), .val (.int p4), .val (.int p5), .val (.int (3 : Int32)), .val (.ref b6), .val (.ref b10), .val (.int (0 : Int32)), .val (.int (own_anyf (own_at [p2, p3, p4]) 3 0 0)), .val (.int (1 : Int32)), .val (.int (own_anyf (own_at [p2, p3, p4]) 3 0 0))] [])) _
    refine XS.iload X20.here hx rfl (hb hby at_190) rfl ?_
    show Steps p.tables e below (T20.setTop (mkF m 192 #[.val (.int p1), .val (.int p2), .val (.int p3), .val (.int p4), .val (.int p5), .val (.int (3 : Int32)), .val (.ref b6), .val (.ref b10), .val (.int (0 : Int32)), .val (.int (own_anyf (own_at [p2, p3, p4]) 3 0 0)), .val (.int (1 : Int32)), .val (.int (own_anyf (own_at [p2, p3, p4]) 3 0 0))] [(.int (own_anyf (own_at [p2, p3, p4]) 3 0 0))])) _
    refine XS.iload X20.here hx rfl (hb hby at_192) rfl ?_
    show Steps p.tables e below (T20.setTop (mkF m 194 #[.val (.int p1), .val (.int p2), .val (.int p3), .val (.int p4), .val (.int p5), .val (.int (3 : Int32)), .val (.ref b6), .val (.ref b10), .val (.int (0 : Int32)), .val (.int (own_anyf (own_at [p2, p3, p4]) 3 0 0)), .val (.int (1 : Int32)), .val (.int (own_anyf (own_at [p2, p3, p4]) 3 0 0))] [(.int (0 : Int32)), (.int (own_anyf (own_at [p2, p3, p4]) 3 0 0))])) _
    refine XS.icmpNo X20.here hx rfl (hb hby at_194) rfl (teq (own_ok : (own_anyf (own_at [p2, p3, p4]) 3 0 0) = (0 : Int32))).2 ?_
    show Steps p.tables e below (T20.setTop (mkF m 197 #[.val (.int p1), .val (.int p2), .val (.int p3), .val (.int p4), .val (.int p5), .val (.int (3 : Int32)), .val (.ref b6), .val (.ref b10), .val (.int (0 : Int32)), .val (.int (own_anyf (own_at [p2, p3, p4]) 3 0 0)), .val (.int (1 : Int32)), .val (.int (own_anyf (own_at [p2, p3, p4]) 3 0 0))] [])) _
    refine XS.iload X20.here hx rfl (hb hby at_197) rfl ?_
    show Steps p.tables e below (T20.setTop (mkF m 199 #[.val (.int p1), .val (.int p2), .val (.int p3), .val (.int p4), .val (.int p5), .val (.int (3 : Int32)), .val (.ref b6), .val (.ref b10), .val (.int (0 : Int32)), .val (.int (own_anyf (own_at [p2, p3, p4]) 3 0 0)), .val (.int (1 : Int32)), .val (.int (own_anyf (own_at [p2, p3, p4]) 3 0 0))] [(.int (own_anyf (own_at [p2, p3, p4]) 3 0 0))])) _
    refine XS.iload X20.here hx rfl (hb hby at_199) rfl ?_
    show Steps p.tables e below (T20.setTop (mkF m 201 #[.val (.int p1), .val (.int p2), .val (.int p3), .val (.int p4), .val (.int p5), .val (.int (3 : Int32)), .val (.ref b6), .val (.ref b10), .val (.int (0 : Int32)), .val (.int (own_anyf (own_at [p2, p3, p4]) 3 0 0)), .val (.int (1 : Int32)), .val (.int (own_anyf (own_at [p2, p3, p4]) 3 0 0))] [(.int (0 : Int32)), (.int (own_anyf (own_at [p2, p3, p4]) 3 0 0))])) _
    refine XS.icmpNo X20.here hx rfl (hb hby at_201) rfl (teq (own_ok : (own_anyf (own_at [p2, p3, p4]) 3 0 0) = (0 : Int32))).2 ?_
    show Steps p.tables e below (T20.setTop (mkF m 204 #[.val (.int p1), .val (.int p2), .val (.int p3), .val (.int p4), .val (.int p5), .val (.int (3 : Int32)), .val (.ref b6), .val (.ref b10), .val (.int (0 : Int32)), .val (.int (own_anyf (own_at [p2, p3, p4]) 3 0 0)), .val (.int (1 : Int32)), .val (.int (own_anyf (own_at [p2, p3, p4]) 3 0 0))] [])) _
    refine XS.iconst X20.here hx rfl (hb hby at_204) ?_
    show Steps p.tables e below (T20.setTop (mkF m 205 #[.val (.int p1), .val (.int p2), .val (.int p3), .val (.int p4), .val (.int p5), .val (.int (3 : Int32)), .val (.ref b6), .val (.ref b10), .val (.int (0 : Int32)), .val (.int (own_anyf (own_at [p2, p3, p4]) 3 0 0)), .val (.int (1 : Int32)), .val (.int (own_anyf (own_at [p2, p3, p4]) 3 0 0))] [(.int (1 : Int32))])) _
    refine XS.goto X20.here hx rfl (pc0 := 205) (pc' := 209) rfl (hb hby at_205) (by decide) (by decide) ?_
    show Steps p.tables e below (T20.setTop (mkF m 209 #[.val (.int p1), .val (.int p2), .val (.int p3), .val (.int p4), .val (.int p5), .val (.int (3 : Int32)), .val (.ref b6), .val (.ref b10), .val (.int (0 : Int32)), .val (.int (own_anyf (own_at [p2, p3, p4]) 3 0 0)), .val (.int (1 : Int32)), .val (.int (own_anyf (own_at [p2, p3, p4]) 3 0 0))] [(.int (1 : Int32))])) _
    exact retN X20 hx (t := .boolean) Bd.returns (by simp) (hb hby at_209) hr
  · show Q0_33 Z p1 p2 p3 p4 p5 h0 n0 _ T20.heap _
    exact ⟨rfl, N20⟩
def Q0_40 (Z : State) (p1 : Int32) (p2 : Int32) (p3 : Int32) (p4 : Int32) (p5 : Int32) (h0 : Heap) (n0 : Nat) (v : Option Value) (h : Heap) (L : List Loc) : Prop := v = some (.int (1 : Int32)) ∧ Fr n0 L
set_option maxRecDepth 65536 in
set_option maxHeartbeats 40000000 in
theorem rm0_40 (l : Launch) (Z : State) (a0 : Array Value) (hw : ∀ d ∈ tables_1, d.before a0 Z = true) (ws : List Jvm.Cond) (p1 : Int32) (p2 : Int32) (p3 : Int32) (p4 : Int32) (p5 : Int32) (h0 : Heap) (n0 : Nat) (Z0 : n0 ≤ h0.size) (hp5 : ((p1 &&& (2147483647 : Int32)) % (5 : Int32)) = (4 : Int32)) (ch0 : p2 = (1 : Int32)) :
    MetFree l x (head1 (Jvm.Cond.code x code maxLocals ret :: ws) room_1) (fun a U => a = #[(.int p1), (.int p2), (.int p3), (.int p4), (.int p5)] ∧ Z.Warmed39 U.vm ∧ U.heap = h0) (fun _ _ _ _ _ => True) (fun _ U o U' => ∃ v L, o = .returned v ∧ Q0_40 Z p1 p2 p3 p4 p5 h0 n0 v U'.heap L ∧ FrameEnd U o U' L room_1.cells room_1.slots) := by
  refine MetFree.of_bodySF (plainFor_of_name pn_0) hisR ?_
  intro p e s m args below meth c s₁ Bd hml0 hP hK
  obtain ⟨rfl, hZ, hh⟩ := hP
  have own_ok : (own_anyf (own_at [p2, p3, p4, p5]) 4 0 0) = (1 : Int32) := by
    simp [own_anyf, own_or, own_at, ch0]
  have hx := Bd.exec
  have hby := Bd.bytes
  have hml : c.maxLocals = 12 := hml0
  have hown : s.vm.findClass "com/example/tendril/tendril/FormatsAnyBinaryPinLaw" = some m.cls := findClass_of_methodNamed Bd.named
  have hnm := (name_of_methodNamed Bd.named Bd.method).1
  have X0 : Stand p l e room_1 s m #[(.int p1), (.int p2), (.int p3), (.int p4), (.int p5)] below meth c s₁ [] 0 0 := Stand.of_body Bd
  have e0 : s₁.heap = h0 := by rw [← hh, Bd.state]; rfl
  have N0 := Fr.nil n0
  have pre0 : ∀ t, Steps p.tables e below (s₁.setTop (mkF m 0 #[.val (.int p1), .val (.int p2), .val (.int p3), .val (.int p4), .val (.int p5), .unset, .unset, .unset, .unset, .unset, .unset, .unset] [])) t → Steps p.tables e below (s₁.setTop (entryFrame m #[(.int p1), (.int p2), (.int p3), (.int p4), (.int p5)] maxLocals)) t := fun t k => castTop (ef_0 m p1 p2 p3 p4 p5) k
  obtain ⟨T6, h6, k6, X6, e6, E6, A6, Ea6, st6⟩ := newPE X0 hx hZ (hw _ (List.mem_of_getElem? (i := 1) rfl)) e0 (g := (mkF m 10 #[.val (.int p1), .val (.int p2), .val (.int p3), .val (.int p4), .val (.int p5), .val (.int (4 : Int32)), .unset, .unset, .unset, .unset, .unset, .unset] [(.int (4 : Int32))])) rfl (hb hby at_10) rfl (by decide) (cap := 4) (by decide) (by decide) (by decide) (by decide) (ad := "[I") rfl
  obtain ⟨b6, g6⟩ : ∃ z, z = h0.size := ⟨_, rfl⟩
  rw [← g6] at A6 Ea6 st6
  have V_b6 : Arv Z h6 b6 k6 .int (4 : Int32) [(.int (0 : Int32)), (.int (0 : Int32)), (.int (0 : Int32)), (.int (0 : Int32))] (.int (0 : Int32)) := (Arv.new A6 (by decide)).pad (pad_rep [] (.int (0 : Int32)) 4)
  have g_b6 : n0 ≤ b6 := Nat.le_trans Z0 (Nat.le_of_eq g6.symm)
  have sz_b6 : h0.size ≤ b6 := (Nat.le_trans (Keep.refl h0 []).1 (Nat.le_of_eq g6.symm))
  have K6 : Keep h0 h6 [] := (Keep.refl h0 []).ext E6
  obtain ⟨cl_b6_23, Ar_b6, q_b6, S_b6, N_b6, H_b6, G_b6⟩ := V_b6
  have hin23 : ¬ ((0 : Int32) < 0 ∨ cl_b6_23.slots.size ≤ ((0 : Int32)).toNatClampNeg) := inb_of S_b6 ⟨by decide, by decide⟩
  obtain ⟨T7, h7, X7, e7, W7, st7⟩ := stI X6 hx hZ e6 Ar_b6 (j := (0 : Int32)) hin23 (g := (mkF m 23 #[.val (.int p1), .val (.int p2), .val (.int p3), .val (.int p4), .val (.int p5), .val (.int (4 : Int32)), .val (.ref b6), .unset, .unset, .unset, .unset, .unset] [(.int p2), (.int (0 : Int32)), (.ref b6)])) rfl rfl (hb hby at_23)
  have V_b6_7 := Arv.set Ar_b6 q_b6 S_b6 N_b6 H_b6 G_b6 rfl W7 0 rfl (Nat.le_of_ble_eq_true rfl)
  have K7 : Keep h0 h7 [] := K6.wr W7 (Or.inr sz_b6)
  have N7 := Fr.snoc X7 N0 g_b6
  obtain ⟨cl_b6_34, Ar_b6, q_b6, S_b6, N_b6, H_b6, G_b6⟩ := V_b6_7
  have hin34 : ¬ ((1 : Int32) < 0 ∨ cl_b6_34.slots.size ≤ ((1 : Int32)).toNatClampNeg) := inb_of S_b6 ⟨by decide, by decide⟩
  obtain ⟨T8, h8, X8, e8, W8, st8⟩ := stI X7 hx hZ e7 Ar_b6 (j := (1 : Int32)) hin34 (g := (mkF m 34 #[.val (.int p1), .val (.int p2), .val (.int p3), .val (.int p4), .val (.int p5), .val (.int (4 : Int32)), .val (.ref b6), .unset, .unset, .unset, .unset, .unset] [(.int p3), (.int (1 : Int32)), (.ref b6)])) rfl rfl (hb hby at_34)
  have V_b6_8 := Arv.set Ar_b6 q_b6 S_b6 N_b6 H_b6 G_b6 rfl W8 1 rfl (Nat.le_of_ble_eq_true rfl)
  have K8 : Keep h0 h8 [] := K7.wr W8 (Or.inr sz_b6)
  have N8 := Fr.snoc X8 N7 g_b6
  obtain ⟨cl_b6_45, Ar_b6, q_b6, S_b6, N_b6, H_b6, G_b6⟩ := V_b6_8
  have hin45 : ¬ ((2 : Int32) < 0 ∨ cl_b6_45.slots.size ≤ ((2 : Int32)).toNatClampNeg) := inb_of S_b6 ⟨by decide, by decide⟩
  obtain ⟨T9, h9, X9, e9, W9, st9⟩ := stI X8 hx hZ e8 Ar_b6 (j := (2 : Int32)) hin45 (g := (mkF m 45 #[.val (.int p1), .val (.int p2), .val (.int p3), .val (.int p4), .val (.int p5), .val (.int (4 : Int32)), .val (.ref b6), .unset, .unset, .unset, .unset, .unset] [(.int p4), (.int (2 : Int32)), (.ref b6)])) rfl rfl (hb hby at_45)
  have V_b6_9 := Arv.set Ar_b6 q_b6 S_b6 N_b6 H_b6 G_b6 rfl W9 2 rfl (Nat.le_of_ble_eq_true rfl)
  have K9 : Keep h0 h9 [] := K8.wr W9 (Or.inr sz_b6)
  have N9 := Fr.snoc X9 N8 g_b6
  obtain ⟨cl_b6_57, Ar_b6, q_b6, S_b6, N_b6, H_b6, G_b6⟩ := V_b6_9
  have hin57 : ¬ ((3 : Int32) < 0 ∨ cl_b6_57.slots.size ≤ ((3 : Int32)).toNatClampNeg) := inb_of S_b6 ⟨by decide, by decide⟩
  obtain ⟨T10, h10, X10, e10, W10, st10⟩ := stI X9 hx hZ e9 Ar_b6 (j := (3 : Int32)) hin57 (g := (mkF m 57 #[.val (.int p1), .val (.int p2), .val (.int p3), .val (.int p4), .val (.int p5), .val (.int (4 : Int32)), .val (.ref b6), .unset, .unset, .unset, .unset, .unset] [(.int p5), (.int (3 : Int32)), (.ref b6)])) rfl rfl (hb hby at_57)
  have V_b6_10 := Arv.set Ar_b6 q_b6 S_b6 N_b6 H_b6 G_b6 rfl W10 3 rfl (Nat.le_of_ble_eq_true rfl)
  have K10 : Keep h0 h10 [] := K9.wr W10 (Or.inr sz_b6)
  have N10 := Fr.snoc X10 N9 g_b6
  obtain ⟨T11, h11, X11, e11, E11, A11, D11, -, st11⟩ := newO X10 hx hZ hown (hw _ (List.mem_of_getElem? (i := 2) rfl)) (hw _ (List.mem_of_getElem? (i := 3) rfl)) (hw _ (List.mem_of_getElem? (i := 4) rfl)) e10 (g := (mkF m 58 #[.val (.int p1), .val (.int p2), .val (.int p3), .val (.int p4), .val (.int p5), .val (.int (4 : Int32)), .val (.ref b6), .unset, .unset, .unset, .unset, .unset] [])) rfl (hb hby at_58) (by decide) (by decide)
  obtain ⟨b11, g11⟩ : ∃ z, z = h10.size := ⟨_, rfl⟩
  rw [← g11] at A11 D11 st11
  have F_codes_b11 : Fld Z h11 b11 "com/example/tendril/tendril/WireColumns$Formats" "codes" "[I" .null := D11 (Or.inr (hw _ (List.mem_of_getElem? (i := 21) rfl))) (ty := (.array .int)) (by decide)
  have E_b11 := A11
  have g_b11 : n0 ≤ b11 := Nat.le_trans (Nat.le_trans (Nat.le_trans (Nat.le_trans (Nat.le_trans (Nat.le_trans Z0 E6.1) (Keep.of_wr W7).1) (Keep.of_wr W8).1) (Keep.of_wr W9).1) (Keep.of_wr W10).1) (Nat.le_of_eq g11.symm)
  have sz_b11 : h0.size ≤ b11 := (Nat.le_trans K10.1 (Nat.le_of_eq g11.symm))
  have K11 : Keep h0 h11 [] := K10.ext E11
  obtain ⟨_, _, ⟨T12, L12, k12, n12⟩, -, X12, ⟨Lc12, hQ12, l12, y12, z12⟩, st12⟩ := X11.specialBack hx (y := (⟨"com/example/tendril/tendril/WireColumns$Formats", "<init>", "([I)V"⟩ : MethodName)) rfl hown (mvT hZ (hw _ (List.mem_of_getElem? (i := 5) rfl))) (mvT hZ (hw _ (List.mem_of_getElem? (i := 6) rfl))) (mvT hZ (hw _ (List.mem_of_getElem? (i := 7) rfl))) (by decide) (backOf (W := 1) (rm1 l Z a0 hw [] b11 b6 .null _ _ _ _ h11 n0 (Nat.le_trans Z0 K11.1) (((((Ea6.wr W7).wr W8).wr W9).wr W10).ext E11) (V_b6_10.ext E11) (by decide) E_b11 F_codes_b11 g_b11) hZ (hw _ (List.mem_of_getElem? (i := 7) rfl)) (hw _ (List.mem_of_getElem? (i := 4) rfl)) (by decide) (by decide)) (g := (mkF m 64 #[.val (.int p1), .val (.int p2), .val (.int p3), .val (.int p4), .val (.int p5), .val (.int (4 : Int32)), .val (.ref b6), .unset, .unset, .unset, .unset, .unset] [(.ref b6), (.ref b11), (.ref b11)])) rfl (by rw [hml]; rfl) (Steps.refl _) (a := b11) (argsL := [(.ref b6)]) (rest := [(.ref b11)]) (lenOf pd_0_0 rfl) rfl (by show 2 * 0 + _ ≤ _; exact Nat.le_of_eq rfl) (hb hby at_64) (fun _ _ => ⟨rfl, e11, (Nat.le_of_ble_eq_true rfl), (Nat.le_of_ble_eq_true rfl)⟩)
  dsimp only [Pt.U, Pt.locs, Pt.cells, Pt.slots] at X12 l12 y12 z12 st12 hQ12
  subst l12 y12 z12
  obtain ⟨rfl, N12q, K12c, E12c, bC, szC, FC, VC⟩ := hQ12
  have ne_ao : b6 ≠ b11 := Nat.ne_of_lt (Nat.lt_of_lt_of_le V_b6_10.lt (Nat.le_of_eq g11.symm))
  have ne_Ca : bC ≠ b6 := Ne.symm (Nat.ne_of_lt (Nat.lt_of_lt_of_le (V_b6_10.ext E11).lt szC))
  have K12 : Keep h0 T12.heap [] := K11.trans K12c (allS (Or.inr sz_b11) all0)
  have N12 := Fr.app N10 N12q
  obtain ⟨_, _, ⟨T13, L13, k13, n13⟩, -, X13, ⟨Lc13, hQ13, l13, y13, z13⟩, st13⟩ := Jvm.LawKit.callS X12 hx (y := (⟨"com/example/tendril/tendril/FormatsAnyBinaryPinLaw", "hit", "(III)Z"⟩ : MethodName)) hown (mvT hZ (hw _ (List.mem_of_getElem? (i := 22) rfl))) (mvT hZ (hw _ (List.mem_of_getElem? (i := 23) rfl))) (mvT hZ (hw _ (List.mem_of_getElem? (i := 24) rfl))) (mvT hZ (hw _ (List.mem_of_getElem? (i := 25) rfl))) (by decide) (backOf (W := 0) (rm3ff l Z a0 hw [] (4 : Int32) (0 : Int32) p2 T12.heap n0 (Nat.le_trans Z0 K12.1) (by decide) ch0) hZ (hw _ (List.mem_of_getElem? (i := 25) rfl)) (hw _ (List.mem_of_getElem? (i := 24) rfl)) (by decide) (by decide)) (g := (mkF m 73 #[.val (.int p1), .val (.int p2), .val (.int p3), .val (.int p4), .val (.int p5), .val (.int (4 : Int32)), .val (.ref b6), .val (.ref b11), .unset, .unset, .unset, .unset] [(.int p2), (.int (0 : Int32)), (.int (4 : Int32))])) rfl (by rw [hml]; rfl) (argsL := [(.int (4 : Int32)), (.int (0 : Int32)), (.int p2)]) (rest := []) (lenOf pd_0_3 rfl) rfl (by show 2 * 0 + _ ≤ _; exact Nat.le_of_eq rfl) (hb hby at_73) (fun _ _ => ⟨rfl, rfl, (Nat.le_of_ble_eq_true rfl), (Nat.le_of_ble_eq_true rfl)⟩)
  dsimp only [Pt.U, Pt.locs, Pt.cells, Pt.slots] at X13 l13 y13 z13 st13 hQ13
  subst l13 y13 z13
  obtain ⟨rfl, N13q, e13⟩ := hQ13
  have K13 : Keep h0 T13.heap [] := K12.trans (own_keq e13) all0
  have N13 := Fr.app N12 N13q
  obtain ⟨clC1, ArC1, -, SC1, NC1, HC1, -⟩ := (VC.keep (own_keq e13) nin0)
  have HV1 : ∀ j, j < 4 → clC1.slots[j]? = some (.int (own_at [p2, p3, p4, p5] j)) := by
    intro j hj
    match j, hj with
    | 0, _ => exact HC1 0 (by rw [SC1]; decide)
    | 1, _ => exact HC1 1 (by rw [SC1]; decide)
    | 2, _ => exact HC1 2 (by rw [SC1]; decide)
    | 3, _ => exact HC1 3 (by rw [SC1]; decide)
  obtain ⟨cq14, kq14, q14a, q14b, q14c⟩ := isOf hZ rfl ((E_b11.keep K12c).keep (own_keq e13))
  obtain ⟨_, _, ⟨T14, L14, k14, n14⟩, -, X14, ⟨Lc14, hQ14, l14, y14, z14⟩, st14⟩ := X13.virtualBack hx (y := (⟨"com/example/tendril/tendril/WireColumns$Formats", "anyBinary", "()Z"⟩ : MethodName)) (z := (⟨"com/example/tendril/tendril/WireColumns$Formats", "anyBinary", "()Z"⟩ : MethodName)) hown (mvT hZ (hw _ (List.mem_of_getElem? (i := 26) rfl))) (mvT hZ (hw _ (List.mem_of_getElem? (i := 27) rfl))) (notFace_of_selects (args := #[]) (mvT hZ (hw _ (List.mem_of_getElem? (i := 29) rfl)))) (mvT hZ (hw _ (List.mem_of_getElem? (i := 29) rfl))) (mvT hZ (hw _ (List.mem_of_getElem? (i := 28) rfl))) (by decide) (backOf (W := 0) (rm4 l Z a0 hw [] b11 bC clC1 4 (own_at [p2, p3, p4, p5]) T13.heap n0 (Nat.le_trans Z0 K13.1) (FC.keep (own_keq e13) nin0) ArC1 (SC1.trans (by decide)) HV1 (by decide)) hZ (hw _ (List.mem_of_getElem? (i := 30) rfl)) (hw _ (List.mem_of_getElem? (i := 4) rfl)) (by decide) (by decide)) q14a q14c (g := (mkF m 119 #[.val (.int p1), .val (.int p2), .val (.int p3), .val (.int p4), .val (.int p5), .val (.int (4 : Int32)), .val (.ref b6), .val (.ref b11), .val (.int (1 : Int32)), .unset, .unset, .unset] [(.ref b11)])) rfl (by rw [hml]; rfl) (Steps.refl _) (argsL := []) (rest := []) (lenOf pd_0_4 rfl) rfl (by show 2 * 0 + _ ≤ _; exact Nat.le_of_eq rfl) (hb hby at_119) (fun _ _ => ⟨rfl, rfl, (Nat.le_of_ble_eq_true rfl), (Nat.le_of_ble_eq_true rfl)⟩)
  dsimp only [Pt.U, Pt.locs, Pt.cells, Pt.slots] at X14 l14 y14 z14 st14 hQ14
  subst l14 y14 z14
  obtain ⟨rfl, N14q, e14⟩ := hQ14
  have K14 : Keep h0 T14.heap [] := K13.trans (own_keq e14) all0
  have N14 := Fr.app N13 N14q
  obtain ⟨cl_b6_146, Ar_b6, q_b6, S_b6, N_b6, H_b6, G_b6⟩ := ((((V_b6_10.ext E11).keep K12c (ninS ne_ao nin0)).keep (own_keq e13) nin0).keep (own_keq e14) nin0)
  have hin146 : ¬ ((0 : Int32) < 0 ∨ cl_b6_146.slots.size ≤ ((0 : Int32)).toNatClampNeg) := inb_of S_b6 ⟨by decide, by decide⟩
  obtain ⟨T15, h15, X15, e15, W15, st15⟩ := stI X14 hx hZ rfl Ar_b6 (j := (0 : Int32)) hin146 (g := (mkF m 146 #[.val (.int p1), .val (.int p2), .val (.int p3), .val (.int p4), .val (.int p5), .val (.int (4 : Int32)), .val (.ref b6), .val (.ref b11), .val (.int (1 : Int32)), .val (.int (own_anyf (own_at [p2, p3, p4, p5]) 4 0 0)), .val (.int (0 : Int32)), .unset] [(.int (0 : Int32)), (.int (0 : Int32)), (.ref b6)])) rfl rfl (hb hby at_146)
  have V_b6_15 := Arv.set Ar_b6 q_b6 S_b6 N_b6 H_b6 G_b6 rfl W15 0 rfl (Nat.le_of_ble_eq_true rfl)
  have K15 : Keep h0 h15 [] := K14.wr W15 (Or.inr sz_b6)
  have N15 := Fr.snoc X15 N14 g_b6
  obtain ⟨cl_b6_158, Ar_b6, q_b6, S_b6, N_b6, H_b6, G_b6⟩ := V_b6_15
  have hin158 : ¬ ((1 : Int32) < 0 ∨ cl_b6_158.slots.size ≤ ((1 : Int32)).toNatClampNeg) := inb_of S_b6 ⟨by decide, by decide⟩
  obtain ⟨T16, h16, X16, e16, W16, st16⟩ := stI X15 hx hZ e15 Ar_b6 (j := (1 : Int32)) hin158 (g := (mkF m 158 #[.val (.int p1), .val (.int p2), .val (.int p3), .val (.int p4), .val (.int p5), .val (.int (4 : Int32)), .val (.ref b6), .val (.ref b11), .val (.int (1 : Int32)), .val (.int (own_anyf (own_at [p2, p3, p4, p5]) 4 0 0)), .val (.int (0 : Int32)), .unset] [(.int (0 : Int32)), (.int (1 : Int32)), (.ref b6)])) rfl rfl (hb hby at_158)
  have V_b6_16 := Arv.set Ar_b6 q_b6 S_b6 N_b6 H_b6 G_b6 rfl W16 1 rfl (Nat.le_of_ble_eq_true rfl)
  have K16 : Keep h0 h16 [] := K15.wr W16 (Or.inr sz_b6)
  have N16 := Fr.snoc X16 N15 g_b6
  obtain ⟨cl_b6_170, Ar_b6, q_b6, S_b6, N_b6, H_b6, G_b6⟩ := V_b6_16
  have hin170 : ¬ ((2 : Int32) < 0 ∨ cl_b6_170.slots.size ≤ ((2 : Int32)).toNatClampNeg) := inb_of S_b6 ⟨by decide, by decide⟩
  obtain ⟨T17, h17, X17, e17, W17, st17⟩ := stI X16 hx hZ e16 Ar_b6 (j := (2 : Int32)) hin170 (g := (mkF m 170 #[.val (.int p1), .val (.int p2), .val (.int p3), .val (.int p4), .val (.int p5), .val (.int (4 : Int32)), .val (.ref b6), .val (.ref b11), .val (.int (1 : Int32)), .val (.int (own_anyf (own_at [p2, p3, p4, p5]) 4 0 0)), .val (.int (0 : Int32)), .unset] [(.int (0 : Int32)), (.int (2 : Int32)), (.ref b6)])) rfl rfl (hb hby at_170)
  have V_b6_17 := Arv.set Ar_b6 q_b6 S_b6 N_b6 H_b6 G_b6 rfl W17 2 rfl (Nat.le_of_ble_eq_true rfl)
  have K17 : Keep h0 h17 [] := K16.wr W17 (Or.inr sz_b6)
  have N17 := Fr.snoc X17 N16 g_b6
  obtain ⟨cl_b6_182, Ar_b6, q_b6, S_b6, N_b6, H_b6, G_b6⟩ := V_b6_17
  have hin182 : ¬ ((3 : Int32) < 0 ∨ cl_b6_182.slots.size ≤ ((3 : Int32)).toNatClampNeg) := inb_of S_b6 ⟨by decide, by decide⟩
  obtain ⟨T18, h18, X18, e18, W18, st18⟩ := stI X17 hx hZ e17 Ar_b6 (j := (3 : Int32)) hin182 (g := (mkF m 182 #[.val (.int p1), .val (.int p2), .val (.int p3), .val (.int p4), .val (.int p5), .val (.int (4 : Int32)), .val (.ref b6), .val (.ref b11), .val (.int (1 : Int32)), .val (.int (own_anyf (own_at [p2, p3, p4, p5]) 4 0 0)), .val (.int (0 : Int32)), .unset] [(.int (0 : Int32)), (.int (3 : Int32)), (.ref b6)])) rfl rfl (hb hby at_182)
  have V_b6_18 := Arv.set Ar_b6 q_b6 S_b6 N_b6 H_b6 G_b6 rfl W18 3 rfl (Nat.le_of_ble_eq_true rfl)
  have K18 : Keep h0 h18 [] := K17.wr W18 (Or.inr sz_b6)
  have N18 := Fr.snoc X18 N17 g_b6
  obtain ⟨clC2, ArC2, -, SC2, NC2, HC2, -⟩ := ((((((VC.keep (own_keq e13) nin0).keep (own_keq e14) nin0).other W15 ne_Ca).other W16 ne_Ca).other W17 ne_Ca).other W18 ne_Ca)
  have HV2 : ∀ j, j < 4 → clC2.slots[j]? = some (.int (own_at [p2, p3, p4, p5] j)) := by
    intro j hj
    match j, hj with
    | 0, _ => exact HC2 0 (by rw [SC2]; decide)
    | 1, _ => exact HC2 1 (by rw [SC2]; decide)
    | 2, _ => exact HC2 2 (by rw [SC2]; decide)
    | 3, _ => exact HC2 3 (by rw [SC2]; decide)
  obtain ⟨cq19, kq19, q19a, q19b, q19c⟩ := isOf hZ e18 (((((((E_b11.keep K12c).keep (own_keq e13)).keep (own_keq e14)).wr W15).wr W16).wr W17).wr W18)
  obtain ⟨_, _, ⟨T19, L19, k19, n19⟩, -, X19, ⟨Lc19, hQ19, l19, y19, z19⟩, st19⟩ := X18.virtualBack hx (y := (⟨"com/example/tendril/tendril/WireColumns$Formats", "anyBinary", "()Z"⟩ : MethodName)) (z := (⟨"com/example/tendril/tendril/WireColumns$Formats", "anyBinary", "()Z"⟩ : MethodName)) hown (mvT hZ (hw _ (List.mem_of_getElem? (i := 26) rfl))) (mvT hZ (hw _ (List.mem_of_getElem? (i := 27) rfl))) (notFace_of_selects (args := #[]) (mvT hZ (hw _ (List.mem_of_getElem? (i := 29) rfl)))) (mvT hZ (hw _ (List.mem_of_getElem? (i := 29) rfl))) (mvT hZ (hw _ (List.mem_of_getElem? (i := 28) rfl))) (by decide) (backOf (W := 0) (rm4 l Z a0 hw [] b11 bC clC2 4 (own_at [p2, p3, p4, p5]) h18 n0 (Nat.le_trans Z0 K18.1) ((((((FC.keep (own_keq e13) nin0).keep (own_keq e14) nin0).other W15 (Or.inl (Ne.symm ne_ao))).other W16 (Or.inl (Ne.symm ne_ao))).other W17 (Or.inl (Ne.symm ne_ao))).other W18 (Or.inl (Ne.symm ne_ao))) ArC2 (SC2.trans (by decide)) HV2 (by decide)) hZ (hw _ (List.mem_of_getElem? (i := 30) rfl)) (hw _ (List.mem_of_getElem? (i := 4) rfl)) (by decide) (by decide)) q19a q19c (g := (mkF m 185 #[.val (.int p1), .val (.int p2), .val (.int p3), .val (.int p4), .val (.int p5), .val (.int (4 : Int32)), .val (.ref b6), .val (.ref b11), .val (.int (1 : Int32)), .val (.int (own_anyf (own_at [p2, p3, p4, p5]) 4 0 0)), .val (.int (0 : Int32)), .unset] [(.ref b11)])) rfl (by rw [hml]; rfl) (Steps.refl _) (argsL := []) (rest := []) (lenOf pd_0_4 rfl) rfl (by show 2 * 0 + _ ≤ _; exact Nat.le_of_eq rfl) (hb hby at_185) (fun _ _ => ⟨rfl, e18, (Nat.le_of_ble_eq_true rfl), (Nat.le_of_ble_eq_true rfl)⟩)
  dsimp only [Pt.U, Pt.locs, Pt.cells, Pt.slots] at X19 l19 y19 z19 st19 hQ19
  subst l19 y19 z19
  obtain ⟨rfl, N19q, e19⟩ := hQ19
  have K19 : Keep h0 T19.heap [] := K18.trans (own_keq e19) all0
  have N19 := Fr.app N18 N19q
  obtain ⟨fs, hr, hrun, hended, hW, hsame⟩ := X19.leave (v := some (.int (1 : Int32))) (fun h => by rw [Bd.returns] at h; cases h)
  refine ⟨_, _, pre0 _ ?_, hrun, hended, _, _, rfl, ?_, ⟨_, rfl⟩, hW, hsame.mono (by decide) (by decide)⟩
  · show Steps p.tables e below (s₁.setTop (mkF m 0 #[.val (.int p1), .val (.int p2), .val (.int p3), .val (.int p4), .val (.int p5), .unset, .unset, .unset, .unset, .unset, .unset, .unset] [])) _
    refine XS.iloadN X0.here hx rfl (hb hby at_0) rfl ?_
    show Steps p.tables e below (s₁.setTop (mkF m 1 #[.val (.int p1), .val (.int p2), .val (.int p3), .val (.int p4), .val (.int p5), .unset, .unset, .unset, .unset, .unset, .unset, .unset] [(.int p1)])) _
    refine X0.ldcInt hx hown (mvT hZ (hw _ (List.mem_of_getElem? (i := 0) rfl))) (g := (mkF m 1 #[.val (.int p1), .val (.int p2), .val (.int p3), .val (.int p4), .val (.int p5), .unset, .unset, .unset, .unset, .unset, .unset, .unset] [(.int p1)])) rfl (hb hby at_1) _ ?_
    show Steps p.tables e below (s₁.setTop (mkF m 3 #[.val (.int p1), .val (.int p2), .val (.int p3), .val (.int p4), .val (.int p5), .unset, .unset, .unset, .unset, .unset, .unset, .unset] [(.int (2147483647 : Int32)), (.int p1)])) _
    refine XS.iand X0.here hx rfl (hb hby at_3) rfl ?_
    show Steps p.tables e below (s₁.setTop (mkF m 4 #[.val (.int p1), .val (.int p2), .val (.int p3), .val (.int p4), .val (.int p5), .unset, .unset, .unset, .unset, .unset, .unset, .unset] [(.int (p1 &&& (2147483647 : Int32)))])) _
    refine XS.iconst X0.here hx rfl (hb hby at_4) ?_
    show Steps p.tables e below (s₁.setTop (mkF m 5 #[.val (.int p1), .val (.int p2), .val (.int p3), .val (.int p4), .val (.int p5), .unset, .unset, .unset, .unset, .unset, .unset, .unset] [(.int (5 : Int32)), (.int (p1 &&& (2147483647 : Int32)))])) _
    refine iremM X0 hx rfl (hb hby at_5) rfl (by decide) ?_
    rw [hp5]
    show Steps p.tables e below (s₁.setTop (mkF m 6 #[.val (.int p1), .val (.int p2), .val (.int p3), .val (.int p4), .val (.int p5), .unset, .unset, .unset, .unset, .unset, .unset, .unset] [(.int (4 : Int32))])) _
    refine XS.istore X0.here hx rfl (hb hby at_6) rfl (l' := #[.val (.int p1), .val (.int p2), .val (.int p3), .val (.int p4), .val (.int p5), .val (.int (4 : Int32)), .unset, .unset, .unset, .unset, .unset, .unset]) rfl ?_
    show Steps p.tables e below (s₁.setTop (mkF m 8 #[.val (.int p1), .val (.int p2), .val (.int p3), .val (.int p4), .val (.int p5), .val (.int (4 : Int32)), .unset, .unset, .unset, .unset, .unset, .unset] [])) _
    refine XS.iload X0.here hx rfl (hb hby at_8) rfl ?_
    show Steps p.tables e below (s₁.setTop (mkF m 10 #[.val (.int p1), .val (.int p2), .val (.int p3), .val (.int p4), .val (.int p5), .val (.int (4 : Int32)), .unset, .unset, .unset, .unset, .unset, .unset] [(.int (4 : Int32))])) _
    refine st6 _ ?_
    show Steps p.tables e below (T6.setTop (mkF m 12 #[.val (.int p1), .val (.int p2), .val (.int p3), .val (.int p4), .val (.int p5), .val (.int (4 : Int32)), .unset, .unset, .unset, .unset, .unset, .unset] [(.ref b6)])) _
    refine XS.astore X6.here hx rfl (hb hby at_12) rfl rfl (l' := #[.val (.int p1), .val (.int p2), .val (.int p3), .val (.int p4), .val (.int p5), .val (.int (4 : Int32)), .val (.ref b6), .unset, .unset, .unset, .unset, .unset]) rfl ?_
    show Steps p.tables e below (T6.setTop (mkF m 14 #[.val (.int p1), .val (.int p2), .val (.int p3), .val (.int p4), .val (.int p5), .val (.int (4 : Int32)), .val (.ref b6), .unset, .unset, .unset, .unset, .unset] [])) _
    refine XS.iload X6.here hx rfl (hb hby at_14) rfl ?_
    show Steps p.tables e below (T6.setTop (mkF m 16 #[.val (.int p1), .val (.int p2), .val (.int p3), .val (.int p4), .val (.int p5), .val (.int (4 : Int32)), .val (.ref b6), .unset, .unset, .unset, .unset, .unset] [(.int (4 : Int32))])) _
    refine XS.ifNo X6.here hx rfl (hb hby at_16) rfl ((if0 _ _).trans (tlt (by decide : (0 : Int32) < (4 : Int32))).2.2.2) ?_
    show Steps p.tables e below (T6.setTop (mkF m 19 #[.val (.int p1), .val (.int p2), .val (.int p3), .val (.int p4), .val (.int p5), .val (.int (4 : Int32)), .val (.ref b6), .unset, .unset, .unset, .unset, .unset] [])) _
    refine XS.aload X6.here hx rfl (hb hby at_19) rfl rfl ?_
    show Steps p.tables e below (T6.setTop (mkF m 21 #[.val (.int p1), .val (.int p2), .val (.int p3), .val (.int p4), .val (.int p5), .val (.int (4 : Int32)), .val (.ref b6), .unset, .unset, .unset, .unset, .unset] [(.ref b6)])) _
    refine XS.iconst X6.here hx rfl (hb hby at_21) ?_
    show Steps p.tables e below (T6.setTop (mkF m 22 #[.val (.int p1), .val (.int p2), .val (.int p3), .val (.int p4), .val (.int p5), .val (.int (4 : Int32)), .val (.ref b6), .unset, .unset, .unset, .unset, .unset] [(.int (0 : Int32)), (.ref b6)])) _
    refine XS.iloadN X6.here hx rfl (hb hby at_22) rfl ?_
    show Steps p.tables e below (T6.setTop (mkF m 23 #[.val (.int p1), .val (.int p2), .val (.int p3), .val (.int p4), .val (.int p5), .val (.int (4 : Int32)), .val (.ref b6), .unset, .unset, .unset, .unset, .unset] [(.int p2), (.int (0 : Int32)), (.ref b6)])) _
    refine st7 _ ?_
    show Steps p.tables e below (T7.setTop (mkF m 24 #[.val (.int p1), .val (.int p2), .val (.int p3), .val (.int p4), .val (.int p5), .val (.int (4 : Int32)), .val (.ref b6), .unset, .unset, .unset, .unset, .unset] [])) _
    refine XS.iload X7.here hx rfl (hb hby at_24) rfl ?_
    show Steps p.tables e below (T7.setTop (mkF m 26 #[.val (.int p1), .val (.int p2), .val (.int p3), .val (.int p4), .val (.int p5), .val (.int (4 : Int32)), .val (.ref b6), .unset, .unset, .unset, .unset, .unset] [(.int (4 : Int32))])) _
    refine XS.iconst X7.here hx rfl (hb hby at_26) ?_
    show Steps p.tables e below (T7.setTop (mkF m 27 #[.val (.int p1), .val (.int p2), .val (.int p3), .val (.int p4), .val (.int p5), .val (.int (4 : Int32)), .val (.ref b6), .unset, .unset, .unset, .unset, .unset] [(.int (1 : Int32)), (.int (4 : Int32))])) _
    refine XS.icmpNo X7.here hx rfl (hb hby at_27) rfl (tlt (by decide : (1 : Int32) < (4 : Int32))).2.2.2 ?_
    show Steps p.tables e below (T7.setTop (mkF m 30 #[.val (.int p1), .val (.int p2), .val (.int p3), .val (.int p4), .val (.int p5), .val (.int (4 : Int32)), .val (.ref b6), .unset, .unset, .unset, .unset, .unset] [])) _
    refine XS.aload X7.here hx rfl (hb hby at_30) rfl rfl ?_
    show Steps p.tables e below (T7.setTop (mkF m 32 #[.val (.int p1), .val (.int p2), .val (.int p3), .val (.int p4), .val (.int p5), .val (.int (4 : Int32)), .val (.ref b6), .unset, .unset, .unset, .unset, .unset] [(.ref b6)])) _
    refine XS.iconst X7.here hx rfl (hb hby at_32) ?_
    show Steps p.tables e below (T7.setTop (mkF m 33 #[.val (.int p1), .val (.int p2), .val (.int p3), .val (.int p4), .val (.int p5), .val (.int (4 : Int32)), .val (.ref b6), .unset, .unset, .unset, .unset, .unset] [(.int (1 : Int32)), (.ref b6)])) _
    refine XS.iloadN X7.here hx rfl (hb hby at_33) rfl ?_
    show Steps p.tables e below (T7.setTop (mkF m 34 #[.val (.int p1), .val (.int p2), .val (.int p3), .val (.int p4), .val (.int p5), .val (.int (4 : Int32)), .val (.ref b6), .unset, .unset, .unset, .unset, .unset] [(.int p3), (.int (1 : Int32)), (.ref b6)])) _
    refine st8 _ ?_
    show Steps p.tables e below (T8.setTop (mkF m 35 #[.val (.int p1), .val (.int p2), .val (.int p3), .val (.int p4), .val (.int p5), .val (.int (4 : Int32)), .val (.ref b6), .unset, .unset, .unset, .unset, .unset] [])) _
    refine XS.iload X8.here hx rfl (hb hby at_35) rfl ?_
    show Steps p.tables e below (T8.setTop (mkF m 37 #[.val (.int p1), .val (.int p2), .val (.int p3), .val (.int p4), .val (.int p5), .val (.int (4 : Int32)), .val (.ref b6), .unset, .unset, .unset, .unset, .unset] [(.int (4 : Int32))])) _
    refine XS.iconst X8.here hx rfl (hb hby at_37) ?_
    show Steps p.tables e below (T8.setTop (mkF m 38 #[.val (.int p1), .val (.int p2), .val (.int p3), .val (.int p4), .val (.int p5), .val (.int (4 : Int32)), .val (.ref b6), .unset, .unset, .unset, .unset, .unset] [(.int (2 : Int32)), (.int (4 : Int32))])) _
    refine XS.icmpNo X8.here hx rfl (hb hby at_38) rfl (tlt (by decide : (2 : Int32) < (4 : Int32))).2.2.2 ?_
    show Steps p.tables e below (T8.setTop (mkF m 41 #[.val (.int p1), .val (.int p2), .val (.int p3), .val (.int p4), .val (.int p5), .val (.int (4 : Int32)), .val (.ref b6), .unset, .unset, .unset, .unset, .unset] [])) _
    refine XS.aload X8.here hx rfl (hb hby at_41) rfl rfl ?_
    show Steps p.tables e below (T8.setTop (mkF m 43 #[.val (.int p1), .val (.int p2), .val (.int p3), .val (.int p4), .val (.int p5), .val (.int (4 : Int32)), .val (.ref b6), .unset, .unset, .unset, .unset, .unset] [(.ref b6)])) _
    refine XS.iconst X8.here hx rfl (hb hby at_43) ?_
    show Steps p.tables e below (T8.setTop (mkF m 44 #[.val (.int p1), .val (.int p2), .val (.int p3), .val (.int p4), .val (.int p5), .val (.int (4 : Int32)), .val (.ref b6), .unset, .unset, .unset, .unset, .unset] [(.int (2 : Int32)), (.ref b6)])) _
    refine XS.iloadN X8.here hx rfl (hb hby at_44) rfl ?_
    show Steps p.tables e below (T8.setTop (mkF m 45 #[.val (.int p1), .val (.int p2), .val (.int p3), .val (.int p4), .val (.int p5), .val (.int (4 : Int32)), .val (.ref b6), .unset, .unset, .unset, .unset, .unset] [(.int p4), (.int (2 : Int32)), (.ref b6)])) _
    refine st9 _ ?_
    show Steps p.tables e below (T9.setTop (mkF m 46 #[.val (.int p1), .val (.int p2), .val (.int p3), .val (.int p4), .val (.int p5), .val (.int (4 : Int32)), .val (.ref b6), .unset, .unset, .unset, .unset, .unset] [])) _
    refine XS.iload X9.here hx rfl (hb hby at_46) rfl ?_
    show Steps p.tables e below (T9.setTop (mkF m 48 #[.val (.int p1), .val (.int p2), .val (.int p3), .val (.int p4), .val (.int p5), .val (.int (4 : Int32)), .val (.ref b6), .unset, .unset, .unset, .unset, .unset] [(.int (4 : Int32))])) _
    refine XS.iconst X9.here hx rfl (hb hby at_48) ?_
    show Steps p.tables e below (T9.setTop (mkF m 49 #[.val (.int p1), .val (.int p2), .val (.int p3), .val (.int p4), .val (.int p5), .val (.int (4 : Int32)), .val (.ref b6), .unset, .unset, .unset, .unset, .unset] [(.int (3 : Int32)), (.int (4 : Int32))])) _
    refine XS.icmpNo X9.here hx rfl (hb hby at_49) rfl (tlt (by decide : (3 : Int32) < (4 : Int32))).2.2.2 ?_
    show Steps p.tables e below (T9.setTop (mkF m 52 #[.val (.int p1), .val (.int p2), .val (.int p3), .val (.int p4), .val (.int p5), .val (.int (4 : Int32)), .val (.ref b6), .unset, .unset, .unset, .unset, .unset] [])) _
    refine XS.aload X9.here hx rfl (hb hby at_52) rfl rfl ?_
    show Steps p.tables e below (T9.setTop (mkF m 54 #[.val (.int p1), .val (.int p2), .val (.int p3), .val (.int p4), .val (.int p5), .val (.int (4 : Int32)), .val (.ref b6), .unset, .unset, .unset, .unset, .unset] [(.ref b6)])) _
    refine XS.iconst X9.here hx rfl (hb hby at_54) ?_
    show Steps p.tables e below (T9.setTop (mkF m 55 #[.val (.int p1), .val (.int p2), .val (.int p3), .val (.int p4), .val (.int p5), .val (.int (4 : Int32)), .val (.ref b6), .unset, .unset, .unset, .unset, .unset] [(.int (3 : Int32)), (.ref b6)])) _
    refine XS.iload X9.here hx rfl (hb hby at_55) rfl ?_
    show Steps p.tables e below (T9.setTop (mkF m 57 #[.val (.int p1), .val (.int p2), .val (.int p3), .val (.int p4), .val (.int p5), .val (.int (4 : Int32)), .val (.ref b6), .unset, .unset, .unset, .unset, .unset] [(.int p5), (.int (3 : Int32)), (.ref b6)])) _
    refine st10 _ ?_
    show Steps p.tables e below (T10.setTop (mkF m 58 #[.val (.int p1), .val (.int p2), .val (.int p3), .val (.int p4), .val (.int p5), .val (.int (4 : Int32)), .val (.ref b6), .unset, .unset, .unset, .unset, .unset] [])) _
    refine st11 _ ?_
    show Steps p.tables e below (T11.setTop (mkF m 61 #[.val (.int p1), .val (.int p2), .val (.int p3), .val (.int p4), .val (.int p5), .val (.int (4 : Int32)), .val (.ref b6), .unset, .unset, .unset, .unset, .unset] [(.ref b11)])) _
    refine XS.dup X11.here hx rfl (hb hby at_61) rfl rfl ?_
    show Steps p.tables e below (T11.setTop (mkF m 62 #[.val (.int p1), .val (.int p2), .val (.int p3), .val (.int p4), .val (.int p5), .val (.int (4 : Int32)), .val (.ref b6), .unset, .unset, .unset, .unset, .unset] [(.ref b11), (.ref b11)])) _
    refine XS.aload X11.here hx rfl (hb hby at_62) rfl rfl ?_
    show Steps p.tables e below (T11.setTop (mkF m 64 #[.val (.int p1), .val (.int p2), .val (.int p3), .val (.int p4), .val (.int p5), .val (.int (4 : Int32)), .val (.ref b6), .unset, .unset, .unset, .unset, .unset] [(.ref b6), (.ref b11), (.ref b11)])) _
    refine st12.trans ?_
    show Steps p.tables e below (T12.setTop (mkF m 67 #[.val (.int p1), .val (.int p2), .val (.int p3), .val (.int p4), .val (.int p5), .val (.int (4 : Int32)), .val (.ref b6), .unset, .unset, .unset, .unset, .unset] [(.ref b11)])) _
    refine XS.astore X12.here hx rfl (hb hby at_67) rfl rfl (l' := #[.val (.int p1), .val (.int p2), .val (.int p3), .val (.int p4), .val (.int p5), .val (.int (4 : Int32)), .val (.ref b6), .val (.ref b11), .unset, .unset, .unset, .unset]) rfl ?_
    show Steps p.tables e below (T12.setTop (mkF m 69 #[.val (.int p1), .val (.int p2), .val (.int p3), .val (.int p4), .val (.int p5), .val (.int (4 : Int32)), .val (.ref b6), .val (.ref b11), .unset, .unset, .unset, .unset] [])) _
    refine XS.iload X12.here hx rfl (hb hby at_69) rfl ?_
    show Steps p.tables e below (T12.setTop (mkF m 71 #[.val (.int p1), .val (.int p2), .val (.int p3), .val (.int p4), .val (.int p5), .val (.int (4 : Int32)), .val (.ref b6), .val (.ref b11), .unset, .unset, .unset, .unset] [(.int (4 : Int32))])) _
    refine XS.iconst X12.here hx rfl (hb hby at_71) ?_
    show Steps p.tables e below (T12.setTop (mkF m 72 #[.val (.int p1), .val (.int p2), .val (.int p3), .val (.int p4), .val (.int p5), .val (.int (4 : Int32)), .val (.ref b6), .val (.ref b11), .unset, .unset, .unset, .unset] [(.int (0 : Int32)), (.int (4 : Int32))])) _
    refine XS.iloadN X12.here hx rfl (hb hby at_72) rfl ?_
    show Steps p.tables e below (T12.setTop (mkF m 73 #[.val (.int p1), .val (.int p2), .val (.int p3), .val (.int p4), .val (.int p5), .val (.int (4 : Int32)), .val (.ref b6), .val (.ref b11), .unset, .unset, .unset, .unset] [(.int p2), (.int (0 : Int32)), (.int (4 : Int32))])) _
    refine st13 _ ?_
    show Steps p.tables e below (T13.setTop (mkF m 76 #[.val (.int p1), .val (.int p2), .val (.int p3), .val (.int p4), .val (.int p5), .val (.int (4 : Int32)), .val (.ref b6), .val (.ref b11), .unset, .unset, .unset, .unset] [(.int (1 : Int32))])) _
    refine XS.ifYes X13.here hx rfl (pc0 := 76) (pc' := 110) rfl (hb hby at_76) rfl ((if0 _ _).trans (feq (by decide : ¬ ((1 : Int32) = (0 : Int32)))).2) (by decide) (by decide) ?_
    show Steps p.tables e below (T13.setTop (mkF m 110 #[.val (.int p1), .val (.int p2), .val (.int p3), .val (.int p4), .val (.int p5), .val (.int (4 : Int32)), .val (.ref b6), .val (.ref b11), .unset, .unset, .unset, .unset] [])) _
    refine XS.iconst X13.here hx rfl (hb hby at_110) ?_
    show Steps p.tables e below (T13.setTop (mkF m 111 #[.val (.int p1), .val (.int p2), .val (.int p3), .val (.int p4), .val (.int p5), .val (.int (4 : Int32)), .val (.ref b6), .val (.ref b11), .unset, .unset, .unset, .unset] [(.int (1 : Int32))])) _
    refine XS.goto X13.here hx rfl (pc0 := 111) (pc' := 115) rfl (hb hby at_111) (by decide) (by decide) ?_
    show Steps p.tables e below (T13.setTop (mkF m 115 #[.val (.int p1), .val (.int p2), .val (.int p3), .val (.int p4), .val (.int p5), .val (.int (4 : Int32)), .val (.ref b6), .val (.ref b11), .unset, .unset, .unset, .unset] [(.int (1 : Int32))])) _
    refine XS.istore X13.here hx rfl (hb hby at_115) rfl (l' := #[.val (.int p1), .val (.int p2), .val (.int p3), .val (.int p4), .val (.int p5), .val (.int (4 : Int32)), .val (.ref b6), .val (.ref b11), .val (.int (1 : Int32)), .unset, .unset, .unset]) rfl ?_
    show Steps p.tables e below (T13.setTop (mkF m 117 #[.val (.int p1), .val (.int p2), .val (.int p3), .val (.int p4), .val (.int p5), .val (.int (4 : Int32)), .val (.ref b6), .val (.ref b11), .val (.int (1 : Int32)), .unset, .unset, .unset] [])) _
    refine XS.aload X13.here hx rfl (hb hby at_117) rfl rfl ?_
    show Steps p.tables e below (T13.setTop (mkF m 119 #[.val (.int p1), .val (.int p2), .val (.int p3), .val (.int p4), .val (.int p5), .val (.int (4 : Int32)), .val (.ref b6), .val (.ref b11), .val (.int (1 : Int32)), .unset, .unset, .unset] [(.ref b11)])) _
    refine st14.trans ?_
    show Steps p.tables e below (T14.setTop (mkF m 122 #[.val (.int p1), .val (.int p2), .val (.int p3), .val (.int p4), .val (.int p5), .val (.int (4 : Int32)), .val (.ref b6), .val (.ref b11), .val (.int (1 : Int32)), .unset, .unset, .unset] [(.int (own_anyf (own_at [p2, p3, p4, p5]) 4 0 0))])) _
    refine XS.istore X14.here hx rfl (hb hby at_122) rfl (l' := #[.val (.int p1), .val (.int p2), .val (.int p3), .val (.int p4), .val (.int p5), .val (.int (4 : Int32)), .val (.ref b6), .val (.ref b11), .val (.int (1 : Int32)), .val (.int (own_anyf (own_at [p2, p3, p4, p5]) 4 0 0)), .unset, .unset]) rfl ?_
    show Steps p.tables e below (T14.setTop (mkF m 124 #[.val (.int p1), .val (.int p2), .val (.int p3), .val (.int p4), .val (.int p5), .val (.int (4 : Int32)), .val (.ref b6), .val (.ref b11), .val (.int (1 : Int32)), .val (.int (own_anyf (own_at [p2, p3, p4, p5]) 4 0 0)), .unset, .unset] [])) _
    refine XS.iload X14.here hx rfl (hb hby at_124) rfl ?_
    show Steps p.tables e below (T14.setTop (mkF m 126 #[.val (.int p1), .val (.int p2), .val (.int p3), .val (.int p4), .val (.int p5), .val (.int (4 : Int32)), .val (.ref b6), .val (.ref b11), .val (.int (1 : Int32)), .val (.int (own_anyf (own_at [p2, p3, p4, p5]) 4 0 0)), .unset, .unset] [(.int (1 : Int32))])) _
    refine XS.ifNo X14.here hx rfl (hb hby at_126) rfl ((if0 _ _).trans (feq (by decide : ¬ ((1 : Int32) = (0 : Int32)))).1) ?_
    show Steps p.tables e below (T14.setTop (mkF m 129 #[.val (.int p1), .val (.int p2), .val (.int p3), .val (.int p4), .val (.int p5), .val (.int (4 : Int32)), .val (.ref b6), .val (.ref b11), .val (.int (1 : Int32)), .val (.int (own_anyf (own_at [p2, p3, p4, p5]) 4 0 0)), .unset, .unset] [])) _
    refine XS.iconst X14.here hx rfl (hb hby at_129) ?_
    show Steps p.tables e below (T14.setTop (mkF m 130 #[.val (.int p1), .val (.int p2), .val (.int p3), .val (.int p4), .val (.int p5), .val (.int (4 : Int32)), .val (.ref b6), .val (.ref b11), .val (.int (1 : Int32)), .val (.int (own_anyf (own_at [p2, p3, p4, p5]) 4 0 0)), .unset, .unset] [(.int (0 : Int32))])) _
    refine XS.goto X14.here hx rfl (pc0 := 130) (pc' := 134) rfl (hb hby at_130) (by decide) (by decide) ?_
    show Steps p.tables e below (T14.setTop (mkF m 134 #[.val (.int p1), .val (.int p2), .val (.int p3), .val (.int p4), .val (.int p5), .val (.int (4 : Int32)), .val (.ref b6), .val (.ref b11), .val (.int (1 : Int32)), .val (.int (own_anyf (own_at [p2, p3, p4, p5]) 4 0 0)), .unset, .unset] [(.int (0 : Int32))])) _
    refine XS.istore X14.here hx rfl (hb hby at_134) rfl (l' := #[.val (.int p1), .val (.int p2), .val (.int p3), .val (.int p4), .val (.int p5), .val (.int (4 : Int32)), .val (.ref b6), .val (.ref b11), .val (.int (1 : Int32)), .val (.int (own_anyf (own_at [p2, p3, p4, p5]) 4 0 0)), .val (.int (0 : Int32)), .unset]) rfl ?_
    show Steps p.tables e below (T14.setTop (mkF m 136 #[.val (.int p1), .val (.int p2), .val (.int p3), .val (.int p4), .val (.int p5), .val (.int (4 : Int32)), .val (.ref b6), .val (.ref b11), .val (.int (1 : Int32)), .val (.int (own_anyf (own_at [p2, p3, p4, p5]) 4 0 0)), .val (.int (0 : Int32)), .unset] [])) _
    refine XS.iload X14.here hx rfl (hb hby at_136) rfl ?_
    show Steps p.tables e below (T14.setTop (mkF m 138 #[.val (.int p1), .val (.int p2), .val (.int p3), .val (.int p4), .val (.int p5), .val (.int (4 : Int32)), .val (.ref b6), .val (.ref b11), .val (.int (1 : Int32)), .val (.int (own_anyf (own_at [p2, p3, p4, p5]) 4 0 0)), .val (.int (0 : Int32)), .unset] [(.int (4 : Int32))])) _
    refine XS.ifNo X14.here hx rfl (hb hby at_138) rfl ((if0 _ _).trans (tlt (by decide : (0 : Int32) < (4 : Int32))).2.2.2) ?_
    show Steps p.tables e below (T14.setTop (mkF m 141 #[.val (.int p1), .val (.int p2), .val (.int p3), .val (.int p4), .val (.int p5), .val (.int (4 : Int32)), .val (.ref b6), .val (.ref b11), .val (.int (1 : Int32)), .val (.int (own_anyf (own_at [p2, p3, p4, p5]) 4 0 0)), .val (.int (0 : Int32)), .unset] [])) _
    refine XS.aload X14.here hx rfl (hb hby at_141) rfl rfl ?_
    show Steps p.tables e below (T14.setTop (mkF m 143 #[.val (.int p1), .val (.int p2), .val (.int p3), .val (.int p4), .val (.int p5), .val (.int (4 : Int32)), .val (.ref b6), .val (.ref b11), .val (.int (1 : Int32)), .val (.int (own_anyf (own_at [p2, p3, p4, p5]) 4 0 0)), .val (.int (0 : Int32)), .unset] [(.ref b6)])) _
    refine XS.iconst X14.here hx rfl (hb hby at_143) ?_
    show Steps p.tables e below (T14.setTop (mkF m 144 #[.val (.int p1), .val (.int p2), .val (.int p3), .val (.int p4), .val (.int p5), .val (.int (4 : Int32)), .val (.ref b6), .val (.ref b11), .val (.int (1 : Int32)), .val (.int (own_anyf (own_at [p2, p3, p4, p5]) 4 0 0)), .val (.int (0 : Int32)), .unset] [(.int (0 : Int32)), (.ref b6)])) _
    refine XS.iload X14.here hx rfl (hb hby at_144) rfl ?_
    show Steps p.tables e below (T14.setTop (mkF m 146 #[.val (.int p1), .val (.int p2), .val (.int p3), .val (.int p4), .val (.int p5), .val (.int (4 : Int32)), .val (.ref b6), .val (.ref b11), .val (.int (1 : Int32)), .val (.int (own_anyf (own_at [p2, p3, p4, p5]) 4 0 0)), .val (.int (0 : Int32)), .unset] [(.int (0 : Int32)), (.int (0 : Int32)), (.ref b6)])) _
    refine st15 _ ?_
    show Steps p.tables e below (T15.setTop (mkF m 147 #[.val (.int p1), .val (.int p2), .val (.int p3), .val (.int p4), .val (.int p5), .val (.int (4 : Int32)), .val (.ref b6), .val (.ref b11), .val (.int (1 : Int32)), .val (.int (own_anyf (own_at [p2, p3, p4, p5]) 4 0 0)), .val (.int (0 : Int32)), .unset] [])) _
    refine XS.iload X15.here hx rfl (hb hby at_147) rfl ?_
    show Steps p.tables e below (T15.setTop (mkF m 149 #[.val (.int p1), .val (.int p2), .val (.int p3), .val (.int p4), .val (.int p5), .val (.int (4 : Int32)), .val (.ref b6), .val (.ref b11), .val (.int (1 : Int32)), .val (.int (own_anyf (own_at [p2, p3, p4, p5]) 4 0 0)), .val (.int (0 : Int32)), .unset] [(.int (4 : Int32))])) _
    refine XS.iconst X15.here hx rfl (hb hby at_149) ?_
    show Steps p.tables e below (T15.setTop (mkF m 150 #[.val (.int p1), .val (.int p2), .val (.int p3), .val (.int p4), .val (.int p5), .val (.int (4 : Int32)), .val (.ref b6), .val (.ref b11), .val (.int (1 : Int32)), .val (.int (own_anyf (own_at [p2, p3, p4, p5]) 4 0 0)), .val (.int (0 : Int32)), .unset] [(.int (1 : Int32)), (.int (4 : Int32))])) _
    refine XS.icmpNo X15.here hx rfl (hb hby at_150) rfl (tlt (by decide : (1 : Int32) < (4 : Int32))).2.2.2 ?_
    show Steps p.tables e below (T15.setTop (mkF m 153 #[.val (.int p1), .val (.int p2), .val (.int p3), .val (.int p4), .val (.int p5), .val (.int (4 : Int32)), .val (.ref b6), .val (.ref b11), .val (.int (1 : Int32)), .val (.int (own_anyf (own_at [p2, p3, p4, p5]) 4 0 0)), .val (.int (0 : Int32)), .unset] [])) _
    refine XS.aload X15.here hx rfl (hb hby at_153) rfl rfl ?_
    show Steps p.tables e below (T15.setTop (mkF m 155 #[.val (.int p1), .val (.int p2), .val (.int p3), .val (.int p4), .val (.int p5), .val (.int (4 : Int32)), .val (.ref b6), .val (.ref b11), .val (.int (1 : Int32)), .val (.int (own_anyf (own_at [p2, p3, p4, p5]) 4 0 0)), .val (.int (0 : Int32)), .unset] [(.ref b6)])) _
    refine XS.iconst X15.here hx rfl (hb hby at_155) ?_
    show Steps p.tables e below (T15.setTop (mkF m 156 #[.val (.int p1), .val (.int p2), .val (.int p3), .val (.int p4), .val (.int p5), .val (.int (4 : Int32)), .val (.ref b6), .val (.ref b11), .val (.int (1 : Int32)), .val (.int (own_anyf (own_at [p2, p3, p4, p5]) 4 0 0)), .val (.int (0 : Int32)), .unset] [(.int (1 : Int32)), (.ref b6)])) _
    refine XS.iload X15.here hx rfl (hb hby at_156) rfl ?_
    show Steps p.tables e below (T15.setTop (mkF m 158 #[.val (.int p1), .val (.int p2), .val (.int p3), .val (.int p4), .val (.int p5), .val (.int (4 : Int32)), .val (.ref b6), .val (.ref b11), .val (.int (1 : Int32)), .val (.int (own_anyf (own_at [p2, p3, p4, p5]) 4 0 0)), .val (.int (0 : Int32)), .unset] [(.int (0 : Int32)), (.int (1 : Int32)), (.ref b6)])) _
    refine st16 _ ?_
    show Steps p.tables e below (T16.setTop (mkF m 159 #[.val (.int p1), .val (.int p2), .val (.int p3), .val (.int p4), .val (.int p5), .val (.int (4 : Int32)), .val (.ref b6), .val (.ref b11), .val (.int (1 : Int32)), .val (.int (own_anyf (own_at [p2, p3, p4, p5]) 4 0 0)), .val (.int (0 : Int32)), .unset] [])) _
    refine XS.iload X16.here hx rfl (hb hby at_159) rfl ?_
    show Steps p.tables e below (T16.setTop (mkF m 161 #[.val (.int p1), .val (.int p2), .val (.int p3), .val (.int p4), .val (.int p5), .val (.int (4 : Int32)), .val (.ref b6), .val (.ref b11), .val (.int (1 : Int32)), .val (.int (own_anyf (own_at [p2, p3, p4, p5]) 4 0 0)), .val (.int (0 : Int32)), .unset] [(.int (4 : Int32))])) _
    refine XS.iconst X16.here hx rfl (hb hby at_161) ?_
    show Steps p.tables e below (T16.setTop (mkF m 162 #[.val (.int p1), .val (.int p2), .val (.int p3), .val (.int p4), .val (.int p5), .val (.int (4 : Int32)), .val (.ref b6), .val (.ref b11), .val (.int (1 : Int32)), .val (.int (own_anyf (own_at [p2, p3, p4, p5]) 4 0 0)), .val (.int (0 : Int32)), .unset] [(.int (2 : Int32)), (.int (4 : Int32))])) _
    refine XS.icmpNo X16.here hx rfl (hb hby at_162) rfl (tlt (by decide : (2 : Int32) < (4 : Int32))).2.2.2 ?_
    show Steps p.tables e below (T16.setTop (mkF m 165 #[.val (.int p1), .val (.int p2), .val (.int p3), .val (.int p4), .val (.int p5), .val (.int (4 : Int32)), .val (.ref b6), .val (.ref b11), .val (.int (1 : Int32)), .val (.int (own_anyf (own_at [p2, p3, p4, p5]) 4 0 0)), .val (.int (0 : Int32)), .unset] [])) _
    refine XS.aload X16.here hx rfl (hb hby at_165) rfl rfl ?_
    show Steps p.tables e below (T16.setTop (mkF m 167 #[.val (.int p1), .val (.int p2), .val (.int p3), .val (.int p4), .val (.int p5), .val (.int (4 : Int32)), .val (.ref b6), .val (.ref b11), .val (.int (1 : Int32)), .val (.int (own_anyf (own_at [p2, p3, p4, p5]) 4 0 0)), .val (.int (0 : Int32)), .unset] [(.ref b6)])) _
    refine XS.iconst X16.here hx rfl (hb hby at_167) ?_
    show Steps p.tables e below (T16.setTop (mkF m 168 #[.val (.int p1), .val (.int p2), .val (.int p3), .val (.int p4), .val (.int p5), .val (.int (4 : Int32)), .val (.ref b6), .val (.ref b11), .val (.int (1 : Int32)), .val (.int (own_anyf (own_at [p2, p3, p4, p5]) 4 0 0)), .val (.int (0 : Int32)), .unset] [(.int (2 : Int32)), (.ref b6)])) _
    refine XS.iload X16.here hx rfl (hb hby at_168) rfl ?_
    show Steps p.tables e below (T16.setTop (mkF m 170 #[.val (.int p1), .val (.int p2), .val (.int p3), .val (.int p4), .val (.int p5), .val (.int (4 : Int32)), .val (.ref b6), .val (.ref b11), .val (.int (1 : Int32)), .val (.int (own_anyf (own_at [p2, p3, p4, p5]) 4 0 0)), .val (.int (0 : Int32)), .unset] [(.int (0 : Int32)), (.int (2 : Int32)), (.ref b6)])) _
    refine st17 _ ?_
    show Steps p.tables e below (T17.setTop (mkF m 171 #[.val (.int p1), .val (.int p2), .val (.int p3), .val (.int p4), .val (.int p5), .val (.int (4 : Int32)), .val (.ref b6), .val (.ref b11), .val (.int (1 : Int32)), .val (.int (own_anyf (own_at [p2, p3, p4, p5]) 4 0 0)), .val (.int (0 : Int32)), .unset] [])) _
    refine XS.iload X17.here hx rfl (hb hby at_171) rfl ?_
    show Steps p.tables e below (T17.setTop (mkF m 173 #[.val (.int p1), .val (.int p2), .val (.int p3), .val (.int p4), .val (.int p5), .val (.int (4 : Int32)), .val (.ref b6), .val (.ref b11), .val (.int (1 : Int32)), .val (.int (own_anyf (own_at [p2, p3, p4, p5]) 4 0 0)), .val (.int (0 : Int32)), .unset] [(.int (4 : Int32))])) _
    refine XS.iconst X17.here hx rfl (hb hby at_173) ?_
    show Steps p.tables e below (T17.setTop (mkF m 174 #[.val (.int p1), .val (.int p2), .val (.int p3), .val (.int p4), .val (.int p5), .val (.int (4 : Int32)), .val (.ref b6), .val (.ref b11), .val (.int (1 : Int32)), .val (.int (own_anyf (own_at [p2, p3, p4, p5]) 4 0 0)), .val (.int (0 : Int32)), .unset] [(.int (3 : Int32)), (.int (4 : Int32))])) _
    refine XS.icmpNo X17.here hx rfl (hb hby at_174) rfl (tlt (by decide : (3 : Int32) < (4 : Int32))).2.2.2 ?_
    show Steps p.tables e below (T17.setTop (mkF m 177 #[.val (.int p1), .val (.int p2), .val (.int p3), .val (.int p4), .val (.int p5), .val (.int (4 : Int32)), .val (.ref b6), .val (.ref b11), .val (.int (1 : Int32)), .val (.int (own_anyf (own_at [p2, p3, p4, p5]) 4 0 0)), .val (.int (0 : Int32)), .unset] [])) _
    refine XS.aload X17.here hx rfl (hb hby at_177) rfl rfl ?_
    show Steps p.tables e below (T17.setTop (mkF m 179 #[.val (.int p1), .val (.int p2), .val (.int p3), .val (.int p4), .val (.int p5), .val (.int (4 : Int32)), .val (.ref b6), .val (.ref b11), .val (.int (1 : Int32)), .val (.int (own_anyf (own_at [p2, p3, p4, p5]) 4 0 0)), .val (.int (0 : Int32)), .unset] [(.ref b6)])) _
    refine XS.iconst X17.here hx rfl (hb hby at_179) ?_
    show Steps p.tables e below (T17.setTop (mkF m 180 #[.val (.int p1), .val (.int p2), .val (.int p3), .val (.int p4), .val (.int p5), .val (.int (4 : Int32)), .val (.ref b6), .val (.ref b11), .val (.int (1 : Int32)), .val (.int (own_anyf (own_at [p2, p3, p4, p5]) 4 0 0)), .val (.int (0 : Int32)), .unset] [(.int (3 : Int32)), (.ref b6)])) _
    refine XS.iload X17.here hx rfl (hb hby at_180) rfl ?_
    show Steps p.tables e below (T17.setTop (mkF m 182 #[.val (.int p1), .val (.int p2), .val (.int p3), .val (.int p4), .val (.int p5), .val (.int (4 : Int32)), .val (.ref b6), .val (.ref b11), .val (.int (1 : Int32)), .val (.int (own_anyf (own_at [p2, p3, p4, p5]) 4 0 0)), .val (.int (0 : Int32)), .unset] [(.int (0 : Int32)), (.int (3 : Int32)), (.ref b6)])) _
    refine st18 _ ?_
    show Steps p.tables e below (T18.setTop (mkF m 183 #[.val (.int p1), .val (.int p2), .val (.int p3), .val (.int p4), .val (.int p5), .val (.int (4 : Int32)), .val (.ref b6), .val (.ref b11), .val (.int (1 : Int32)), .val (.int (own_anyf (own_at [p2, p3, p4, p5]) 4 0 0)), .val (.int (0 : Int32)), .unset] [])) _
    refine XS.aload X18.here hx rfl (hb hby at_183) rfl rfl ?_
    show Steps p.tables e below (T18.setTop (mkF m 185 #[.val (.int p1), .val (.int p2), .val (.int p3), .val (.int p4), .val (.int p5), .val (.int (4 : Int32)), .val (.ref b6), .val (.ref b11), .val (.int (1 : Int32)), .val (.int (own_anyf (own_at [p2, p3, p4, p5]) 4 0 0)), .val (.int (0 : Int32)), .unset] [(.ref b11)])) _
    refine st19.trans ?_
    show Steps p.tables e below (T19.setTop (mkF m 188 #[.val (.int p1), .val (.int p2), .val (.int p3), .val (.int p4), .val (.int p5), .val (.int (4 : Int32)), .val (.ref b6), .val (.ref b11), .val (.int (1 : Int32)), .val (.int (own_anyf (own_at [p2, p3, p4, p5]) 4 0 0)), .val (.int (0 : Int32)), .unset] [(.int (own_anyf (own_at [p2, p3, p4, p5]) 4 0 0))])) _
    refine XS.istore X19.here hx rfl (hb hby at_188) rfl (l' := #[.val (.int p1), .val (.int p2), .val (.int p3), .val (.int p4), .val (.int p5), .val (.int (4 : Int32)), .val (.ref b6), .val (.ref b11), .val (.int (1 : Int32)), .val (.int (own_anyf (own_at [p2, p3, p4, p5]) 4 0 0)), .val (.int (0 : Int32)), .val (.int (own_anyf (own_at [p2, p3, p4, p5]) 4 0 0))]) rfl ?_
    show Steps p.tables e below (T19.setTop (mkF m 190 #[.val (.int p1), .val (.int p2), .val (.int p3), .val (.int p4), .val (.int p5), .val (.int (4 : Int32)), .val (.ref b6), .val (.ref b11), .val (.int (1 : Int32)), .val (.int (own_anyf (own_at [p2, p3, p4, p5]) 4 0 0)), .val (.int (0 : Int32)), .val (.int (own_anyf (own_at [p2, p3, p4, p5]) 4 0 0))] [])) _
    refine XS.iload X19.here hx rfl (hb hby at_190) rfl ?_
    show Steps p.tables e below (T19.setTop (mkF m 192 #[.val (.int p1), .val (.int p2), .val (.int p3), .val (.int p4), .val (.int p5), .val (.int (4 : Int32)), .val (.ref b6), .val (.ref b11), .val (.int (1 : Int32)), .val (.int (own_anyf (own_at [p2, p3, p4, p5]) 4 0 0)), .val (.int (0 : Int32)), .val (.int (own_anyf (own_at [p2, p3, p4, p5]) 4 0 0))] [(.int (own_anyf (own_at [p2, p3, p4, p5]) 4 0 0))])) _
    refine XS.iload X19.here hx rfl (hb hby at_192) rfl ?_
    show Steps p.tables e below (T19.setTop (mkF m 194 #[.val (.int p1), .val (.int p2), .val (.int p3), .val (.int p4), .val (.int p5), .val (.int (4 : Int32)), .val (.ref b6), .val (.ref b11), .val (.int (1 : Int32)), .val (.int (own_anyf (own_at [p2, p3, p4, p5]) 4 0 0)), .val (.int (0 : Int32)), .val (.int (own_anyf (own_at [p2, p3, p4, p5]) 4 0 0))] [(.int (1 : Int32)), (.int (own_anyf (own_at [p2, p3, p4, p5]) 4 0 0))])) _
    refine XS.icmpNo X19.here hx rfl (hb hby at_194) rfl (teq (own_ok : (own_anyf (own_at [p2, p3, p4, p5]) 4 0 0) = (1 : Int32))).2 ?_
    show Steps p.tables e below (T19.setTop (mkF m 197 #[.val (.int p1), .val (.int p2), .val (.int p3), .val (.int p4), .val (.int p5), .val (.int (4 : Int32)), .val (.ref b6), .val (.ref b11), .val (.int (1 : Int32)), .val (.int (own_anyf (own_at [p2, p3, p4, p5]) 4 0 0)), .val (.int (0 : Int32)), .val (.int (own_anyf (own_at [p2, p3, p4, p5]) 4 0 0))] [])) _
    refine XS.iload X19.here hx rfl (hb hby at_197) rfl ?_
    show Steps p.tables e below (T19.setTop (mkF m 199 #[.val (.int p1), .val (.int p2), .val (.int p3), .val (.int p4), .val (.int p5), .val (.int (4 : Int32)), .val (.ref b6), .val (.ref b11), .val (.int (1 : Int32)), .val (.int (own_anyf (own_at [p2, p3, p4, p5]) 4 0 0)), .val (.int (0 : Int32)), .val (.int (own_anyf (own_at [p2, p3, p4, p5]) 4 0 0))] [(.int (own_anyf (own_at [p2, p3, p4, p5]) 4 0 0))])) _
    refine XS.iload X19.here hx rfl (hb hby at_199) rfl ?_
    show Steps p.tables e below (T19.setTop (mkF m 201 #[.val (.int p1), .val (.int p2), .val (.int p3), .val (.int p4), .val (.int p5), .val (.int (4 : Int32)), .val (.ref b6), .val (.ref b11), .val (.int (1 : Int32)), .val (.int (own_anyf (own_at [p2, p3, p4, p5]) 4 0 0)), .val (.int (0 : Int32)), .val (.int (own_anyf (own_at [p2, p3, p4, p5]) 4 0 0))] [(.int (1 : Int32)), (.int (own_anyf (own_at [p2, p3, p4, p5]) 4 0 0))])) _
    refine XS.icmpNo X19.here hx rfl (hb hby at_201) rfl (teq (own_ok : (own_anyf (own_at [p2, p3, p4, p5]) 4 0 0) = (1 : Int32))).2 ?_
    show Steps p.tables e below (T19.setTop (mkF m 204 #[.val (.int p1), .val (.int p2), .val (.int p3), .val (.int p4), .val (.int p5), .val (.int (4 : Int32)), .val (.ref b6), .val (.ref b11), .val (.int (1 : Int32)), .val (.int (own_anyf (own_at [p2, p3, p4, p5]) 4 0 0)), .val (.int (0 : Int32)), .val (.int (own_anyf (own_at [p2, p3, p4, p5]) 4 0 0))] [])) _
    refine XS.iconst X19.here hx rfl (hb hby at_204) ?_
    show Steps p.tables e below (T19.setTop (mkF m 205 #[.val (.int p1), .val (.int p2), .val (.int p3), .val (.int p4), .val (.int p5), .val (.int (4 : Int32)), .val (.ref b6), .val (.ref b11), .val (.int (1 : Int32)), .val (.int (own_anyf (own_at [p2, p3, p4, p5]) 4 0 0)), .val (.int (0 : Int32)), .val (.int (own_anyf (own_at [p2, p3, p4, p5]) 4 0 0))] [(.int (1 : Int32))])) _
    refine XS.goto X19.here hx rfl (pc0 := 205) (pc' := 209) rfl (hb hby at_205) (by decide) (by decide) ?_
    show Steps p.tables e below (T19.setTop (mkF m 209 #[.val (.int p1), .val (.int p2), .val (.int p3), .val (.int p4), .val (.int p5), .val (.int (4 : Int32)), .val (.ref b6), .val (.ref b11), .val (.int (1 : Int32)), .val (.int (own_anyf (own_at [p2, p3, p4, p5]) 4 0 0)), .val (.int (0 : Int32)), .val (.int (own_anyf (own_at [p2, p3, p4, p5]) 4 0 0))] [(.int (1 : Int32))])) _
    exact retN X19 hx (t := .boolean) Bd.returns (by simp) (hb hby at_209) hr
  · show Q0_40 Z p1 p2 p3 p4 p5 h0 n0 _ T19.heap _
    exact ⟨rfl, N19⟩
def Q0_41 (Z : State) (p1 : Int32) (p2 : Int32) (p3 : Int32) (p4 : Int32) (p5 : Int32) (h0 : Heap) (n0 : Nat) (v : Option Value) (h : Heap) (L : List Loc) : Prop := v = some (.int (1 : Int32)) ∧ Fr n0 L
set_option maxRecDepth 65536 in
set_option maxHeartbeats 40000000 in
theorem rm0_41 (l : Launch) (Z : State) (a0 : Array Value) (hw : ∀ d ∈ tables_1, d.before a0 Z = true) (ws : List Jvm.Cond) (p1 : Int32) (p2 : Int32) (p3 : Int32) (p4 : Int32) (p5 : Int32) (h0 : Heap) (n0 : Nat) (Z0 : n0 ≤ h0.size) (hp5 : ((p1 &&& (2147483647 : Int32)) % (5 : Int32)) = (4 : Int32)) (ch0 : ¬ (p2 = (1 : Int32))) (ch1 : p3 = (1 : Int32)) :
    MetFree l x (head1 (Jvm.Cond.code x code maxLocals ret :: ws) room_1) (fun a U => a = #[(.int p1), (.int p2), (.int p3), (.int p4), (.int p5)] ∧ Z.Warmed39 U.vm ∧ U.heap = h0) (fun _ _ _ _ _ => True) (fun _ U o U' => ∃ v L, o = .returned v ∧ Q0_41 Z p1 p2 p3 p4 p5 h0 n0 v U'.heap L ∧ FrameEnd U o U' L room_1.cells room_1.slots) := by
  refine MetFree.of_bodySF (plainFor_of_name pn_0) hisR ?_
  intro p e s m args below meth c s₁ Bd hml0 hP hK
  obtain ⟨rfl, hZ, hh⟩ := hP
  have own_ok : (own_anyf (own_at [p2, p3, p4, p5]) 4 0 0) = (1 : Int32) := by
    simp [own_anyf, own_or, own_at, ch0, ch1]
  have hx := Bd.exec
  have hby := Bd.bytes
  have hml : c.maxLocals = 12 := hml0
  have hown : s.vm.findClass "com/example/tendril/tendril/FormatsAnyBinaryPinLaw" = some m.cls := findClass_of_methodNamed Bd.named
  have hnm := (name_of_methodNamed Bd.named Bd.method).1
  have X0 : Stand p l e room_1 s m #[(.int p1), (.int p2), (.int p3), (.int p4), (.int p5)] below meth c s₁ [] 0 0 := Stand.of_body Bd
  have e0 : s₁.heap = h0 := by rw [← hh, Bd.state]; rfl
  have N0 := Fr.nil n0
  have pre0 : ∀ t, Steps p.tables e below (s₁.setTop (mkF m 0 #[.val (.int p1), .val (.int p2), .val (.int p3), .val (.int p4), .val (.int p5), .unset, .unset, .unset, .unset, .unset, .unset, .unset] [])) t → Steps p.tables e below (s₁.setTop (entryFrame m #[(.int p1), (.int p2), (.int p3), (.int p4), (.int p5)] maxLocals)) t := fun t k => castTop (ef_0 m p1 p2 p3 p4 p5) k
  obtain ⟨T6, h6, k6, X6, e6, E6, A6, Ea6, st6⟩ := newPE X0 hx hZ (hw _ (List.mem_of_getElem? (i := 1) rfl)) e0 (g := (mkF m 10 #[.val (.int p1), .val (.int p2), .val (.int p3), .val (.int p4), .val (.int p5), .val (.int (4 : Int32)), .unset, .unset, .unset, .unset, .unset, .unset] [(.int (4 : Int32))])) rfl (hb hby at_10) rfl (by decide) (cap := 4) (by decide) (by decide) (by decide) (by decide) (ad := "[I") rfl
  obtain ⟨b6, g6⟩ : ∃ z, z = h0.size := ⟨_, rfl⟩
  rw [← g6] at A6 Ea6 st6
  have V_b6 : Arv Z h6 b6 k6 .int (4 : Int32) [(.int (0 : Int32)), (.int (0 : Int32)), (.int (0 : Int32)), (.int (0 : Int32))] (.int (0 : Int32)) := (Arv.new A6 (by decide)).pad (pad_rep [] (.int (0 : Int32)) 4)
  have g_b6 : n0 ≤ b6 := Nat.le_trans Z0 (Nat.le_of_eq g6.symm)
  have sz_b6 : h0.size ≤ b6 := (Nat.le_trans (Keep.refl h0 []).1 (Nat.le_of_eq g6.symm))
  have K6 : Keep h0 h6 [] := (Keep.refl h0 []).ext E6
  obtain ⟨cl_b6_23, Ar_b6, q_b6, S_b6, N_b6, H_b6, G_b6⟩ := V_b6
  have hin23 : ¬ ((0 : Int32) < 0 ∨ cl_b6_23.slots.size ≤ ((0 : Int32)).toNatClampNeg) := inb_of S_b6 ⟨by decide, by decide⟩
  obtain ⟨T7, h7, X7, e7, W7, st7⟩ := stI X6 hx hZ e6 Ar_b6 (j := (0 : Int32)) hin23 (g := (mkF m 23 #[.val (.int p1), .val (.int p2), .val (.int p3), .val (.int p4), .val (.int p5), .val (.int (4 : Int32)), .val (.ref b6), .unset, .unset, .unset, .unset, .unset] [(.int p2), (.int (0 : Int32)), (.ref b6)])) rfl rfl (hb hby at_23)
  have V_b6_7 := Arv.set Ar_b6 q_b6 S_b6 N_b6 H_b6 G_b6 rfl W7 0 rfl (Nat.le_of_ble_eq_true rfl)
  have K7 : Keep h0 h7 [] := K6.wr W7 (Or.inr sz_b6)
  have N7 := Fr.snoc X7 N0 g_b6
  obtain ⟨cl_b6_34, Ar_b6, q_b6, S_b6, N_b6, H_b6, G_b6⟩ := V_b6_7
  have hin34 : ¬ ((1 : Int32) < 0 ∨ cl_b6_34.slots.size ≤ ((1 : Int32)).toNatClampNeg) := inb_of S_b6 ⟨by decide, by decide⟩
  obtain ⟨T8, h8, X8, e8, W8, st8⟩ := stI X7 hx hZ e7 Ar_b6 (j := (1 : Int32)) hin34 (g := (mkF m 34 #[.val (.int p1), .val (.int p2), .val (.int p3), .val (.int p4), .val (.int p5), .val (.int (4 : Int32)), .val (.ref b6), .unset, .unset, .unset, .unset, .unset] [(.int p3), (.int (1 : Int32)), (.ref b6)])) rfl rfl (hb hby at_34)
  have V_b6_8 := Arv.set Ar_b6 q_b6 S_b6 N_b6 H_b6 G_b6 rfl W8 1 rfl (Nat.le_of_ble_eq_true rfl)
  have K8 : Keep h0 h8 [] := K7.wr W8 (Or.inr sz_b6)
  have N8 := Fr.snoc X8 N7 g_b6
  obtain ⟨cl_b6_45, Ar_b6, q_b6, S_b6, N_b6, H_b6, G_b6⟩ := V_b6_8
  have hin45 : ¬ ((2 : Int32) < 0 ∨ cl_b6_45.slots.size ≤ ((2 : Int32)).toNatClampNeg) := inb_of S_b6 ⟨by decide, by decide⟩
  obtain ⟨T9, h9, X9, e9, W9, st9⟩ := stI X8 hx hZ e8 Ar_b6 (j := (2 : Int32)) hin45 (g := (mkF m 45 #[.val (.int p1), .val (.int p2), .val (.int p3), .val (.int p4), .val (.int p5), .val (.int (4 : Int32)), .val (.ref b6), .unset, .unset, .unset, .unset, .unset] [(.int p4), (.int (2 : Int32)), (.ref b6)])) rfl rfl (hb hby at_45)
  have V_b6_9 := Arv.set Ar_b6 q_b6 S_b6 N_b6 H_b6 G_b6 rfl W9 2 rfl (Nat.le_of_ble_eq_true rfl)
  have K9 : Keep h0 h9 [] := K8.wr W9 (Or.inr sz_b6)
  have N9 := Fr.snoc X9 N8 g_b6
  obtain ⟨cl_b6_57, Ar_b6, q_b6, S_b6, N_b6, H_b6, G_b6⟩ := V_b6_9
  have hin57 : ¬ ((3 : Int32) < 0 ∨ cl_b6_57.slots.size ≤ ((3 : Int32)).toNatClampNeg) := inb_of S_b6 ⟨by decide, by decide⟩
  obtain ⟨T10, h10, X10, e10, W10, st10⟩ := stI X9 hx hZ e9 Ar_b6 (j := (3 : Int32)) hin57 (g := (mkF m 57 #[.val (.int p1), .val (.int p2), .val (.int p3), .val (.int p4), .val (.int p5), .val (.int (4 : Int32)), .val (.ref b6), .unset, .unset, .unset, .unset, .unset] [(.int p5), (.int (3 : Int32)), (.ref b6)])) rfl rfl (hb hby at_57)
  have V_b6_10 := Arv.set Ar_b6 q_b6 S_b6 N_b6 H_b6 G_b6 rfl W10 3 rfl (Nat.le_of_ble_eq_true rfl)
  have K10 : Keep h0 h10 [] := K9.wr W10 (Or.inr sz_b6)
  have N10 := Fr.snoc X10 N9 g_b6
  obtain ⟨T11, h11, X11, e11, E11, A11, D11, -, st11⟩ := newO X10 hx hZ hown (hw _ (List.mem_of_getElem? (i := 2) rfl)) (hw _ (List.mem_of_getElem? (i := 3) rfl)) (hw _ (List.mem_of_getElem? (i := 4) rfl)) e10 (g := (mkF m 58 #[.val (.int p1), .val (.int p2), .val (.int p3), .val (.int p4), .val (.int p5), .val (.int (4 : Int32)), .val (.ref b6), .unset, .unset, .unset, .unset, .unset] [])) rfl (hb hby at_58) (by decide) (by decide)
  obtain ⟨b11, g11⟩ : ∃ z, z = h10.size := ⟨_, rfl⟩
  rw [← g11] at A11 D11 st11
  have F_codes_b11 : Fld Z h11 b11 "com/example/tendril/tendril/WireColumns$Formats" "codes" "[I" .null := D11 (Or.inr (hw _ (List.mem_of_getElem? (i := 21) rfl))) (ty := (.array .int)) (by decide)
  have E_b11 := A11
  have g_b11 : n0 ≤ b11 := Nat.le_trans (Nat.le_trans (Nat.le_trans (Nat.le_trans (Nat.le_trans (Nat.le_trans Z0 E6.1) (Keep.of_wr W7).1) (Keep.of_wr W8).1) (Keep.of_wr W9).1) (Keep.of_wr W10).1) (Nat.le_of_eq g11.symm)
  have sz_b11 : h0.size ≤ b11 := (Nat.le_trans K10.1 (Nat.le_of_eq g11.symm))
  have K11 : Keep h0 h11 [] := K10.ext E11
  obtain ⟨_, _, ⟨T12, L12, k12, n12⟩, -, X12, ⟨Lc12, hQ12, l12, y12, z12⟩, st12⟩ := X11.specialBack hx (y := (⟨"com/example/tendril/tendril/WireColumns$Formats", "<init>", "([I)V"⟩ : MethodName)) rfl hown (mvT hZ (hw _ (List.mem_of_getElem? (i := 5) rfl))) (mvT hZ (hw _ (List.mem_of_getElem? (i := 6) rfl))) (mvT hZ (hw _ (List.mem_of_getElem? (i := 7) rfl))) (by decide) (backOf (W := 1) (rm1 l Z a0 hw [] b11 b6 .null _ _ _ _ h11 n0 (Nat.le_trans Z0 K11.1) (((((Ea6.wr W7).wr W8).wr W9).wr W10).ext E11) (V_b6_10.ext E11) (by decide) E_b11 F_codes_b11 g_b11) hZ (hw _ (List.mem_of_getElem? (i := 7) rfl)) (hw _ (List.mem_of_getElem? (i := 4) rfl)) (by decide) (by decide)) (g := (mkF m 64 #[.val (.int p1), .val (.int p2), .val (.int p3), .val (.int p4), .val (.int p5), .val (.int (4 : Int32)), .val (.ref b6), .unset, .unset, .unset, .unset, .unset] [(.ref b6), (.ref b11), (.ref b11)])) rfl (by rw [hml]; rfl) (Steps.refl _) (a := b11) (argsL := [(.ref b6)]) (rest := [(.ref b11)]) (lenOf pd_0_0 rfl) rfl (by show 2 * 0 + _ ≤ _; exact Nat.le_of_eq rfl) (hb hby at_64) (fun _ _ => ⟨rfl, e11, (Nat.le_of_ble_eq_true rfl), (Nat.le_of_ble_eq_true rfl)⟩)
  dsimp only [Pt.U, Pt.locs, Pt.cells, Pt.slots] at X12 l12 y12 z12 st12 hQ12
  subst l12 y12 z12
  obtain ⟨rfl, N12q, K12c, E12c, bC, szC, FC, VC⟩ := hQ12
  have ne_ao : b6 ≠ b11 := Nat.ne_of_lt (Nat.lt_of_lt_of_le V_b6_10.lt (Nat.le_of_eq g11.symm))
  have ne_Ca : bC ≠ b6 := Ne.symm (Nat.ne_of_lt (Nat.lt_of_lt_of_le (V_b6_10.ext E11).lt szC))
  have K12 : Keep h0 T12.heap [] := K11.trans K12c (allS (Or.inr sz_b11) all0)
  have N12 := Fr.app N10 N12q
  obtain ⟨_, _, ⟨T13, L13, k13, n13⟩, -, X13, ⟨Lc13, hQ13, l13, y13, z13⟩, st13⟩ := Jvm.LawKit.callS X12 hx (y := (⟨"com/example/tendril/tendril/FormatsAnyBinaryPinLaw", "hit", "(III)Z"⟩ : MethodName)) hown (mvT hZ (hw _ (List.mem_of_getElem? (i := 22) rfl))) (mvT hZ (hw _ (List.mem_of_getElem? (i := 23) rfl))) (mvT hZ (hw _ (List.mem_of_getElem? (i := 24) rfl))) (mvT hZ (hw _ (List.mem_of_getElem? (i := 25) rfl))) (by decide) (backOf (W := 0) (rm3ft l Z a0 hw [] (4 : Int32) (0 : Int32) p2 T12.heap n0 (Nat.le_trans Z0 K12.1) (by decide) ch0) hZ (hw _ (List.mem_of_getElem? (i := 25) rfl)) (hw _ (List.mem_of_getElem? (i := 24) rfl)) (by decide) (by decide)) (g := (mkF m 73 #[.val (.int p1), .val (.int p2), .val (.int p3), .val (.int p4), .val (.int p5), .val (.int (4 : Int32)), .val (.ref b6), .val (.ref b11), .unset, .unset, .unset, .unset] [(.int p2), (.int (0 : Int32)), (.int (4 : Int32))])) rfl (by rw [hml]; rfl) (argsL := [(.int (4 : Int32)), (.int (0 : Int32)), (.int p2)]) (rest := []) (lenOf pd_0_3 rfl) rfl (by show 2 * 0 + _ ≤ _; exact Nat.le_of_eq rfl) (hb hby at_73) (fun _ _ => ⟨rfl, rfl, (Nat.le_of_ble_eq_true rfl), (Nat.le_of_ble_eq_true rfl)⟩)
  dsimp only [Pt.U, Pt.locs, Pt.cells, Pt.slots] at X13 l13 y13 z13 st13 hQ13
  subst l13 y13 z13
  obtain ⟨rfl, N13q, e13⟩ := hQ13
  have K13 : Keep h0 T13.heap [] := K12.trans (own_keq e13) all0
  have N13 := Fr.app N12 N13q
  obtain ⟨_, _, ⟨T14, L14, k14, n14⟩, -, X14, ⟨Lc14, hQ14, l14, y14, z14⟩, st14⟩ := Jvm.LawKit.callS X13 hx (y := (⟨"com/example/tendril/tendril/FormatsAnyBinaryPinLaw", "hit", "(III)Z"⟩ : MethodName)) hown (mvT hZ (hw _ (List.mem_of_getElem? (i := 22) rfl))) (mvT hZ (hw _ (List.mem_of_getElem? (i := 23) rfl))) (mvT hZ (hw _ (List.mem_of_getElem? (i := 24) rfl))) (mvT hZ (hw _ (List.mem_of_getElem? (i := 25) rfl))) (by decide) (backOf (W := 0) (rm3ff l Z a0 hw [] (4 : Int32) (1 : Int32) p3 T13.heap n0 (Nat.le_trans Z0 K13.1) (by decide) ch1) hZ (hw _ (List.mem_of_getElem? (i := 25) rfl)) (hw _ (List.mem_of_getElem? (i := 24) rfl)) (by decide) (by decide)) (g := (mkF m 83 #[.val (.int p1), .val (.int p2), .val (.int p3), .val (.int p4), .val (.int p5), .val (.int (4 : Int32)), .val (.ref b6), .val (.ref b11), .unset, .unset, .unset, .unset] [(.int p3), (.int (1 : Int32)), (.int (4 : Int32))])) rfl (by rw [hml]; rfl) (argsL := [(.int (4 : Int32)), (.int (1 : Int32)), (.int p3)]) (rest := []) (lenOf pd_0_3 rfl) rfl (by show 2 * 0 + _ ≤ _; exact Nat.le_of_eq rfl) (hb hby at_83) (fun _ _ => ⟨rfl, rfl, (Nat.le_of_ble_eq_true rfl), (Nat.le_of_ble_eq_true rfl)⟩)
  dsimp only [Pt.U, Pt.locs, Pt.cells, Pt.slots] at X14 l14 y14 z14 st14 hQ14
  subst l14 y14 z14
  obtain ⟨rfl, N14q, e14⟩ := hQ14
  have K14 : Keep h0 T14.heap [] := K13.trans (own_keq e14) all0
  have N14 := Fr.app N13 N14q
  obtain ⟨clC1, ArC1, -, SC1, NC1, HC1, -⟩ := ((VC.keep (own_keq e13) nin0).keep (own_keq e14) nin0)
  have HV1 : ∀ j, j < 4 → clC1.slots[j]? = some (.int (own_at [p2, p3, p4, p5] j)) := by
    intro j hj
    match j, hj with
    | 0, _ => exact HC1 0 (by rw [SC1]; decide)
    | 1, _ => exact HC1 1 (by rw [SC1]; decide)
    | 2, _ => exact HC1 2 (by rw [SC1]; decide)
    | 3, _ => exact HC1 3 (by rw [SC1]; decide)
  obtain ⟨cq15, kq15, q15a, q15b, q15c⟩ := isOf hZ rfl (((E_b11.keep K12c).keep (own_keq e13)).keep (own_keq e14))
  obtain ⟨_, _, ⟨T15, L15, k15, n15⟩, -, X15, ⟨Lc15, hQ15, l15, y15, z15⟩, st15⟩ := X14.virtualBack hx (y := (⟨"com/example/tendril/tendril/WireColumns$Formats", "anyBinary", "()Z"⟩ : MethodName)) (z := (⟨"com/example/tendril/tendril/WireColumns$Formats", "anyBinary", "()Z"⟩ : MethodName)) hown (mvT hZ (hw _ (List.mem_of_getElem? (i := 26) rfl))) (mvT hZ (hw _ (List.mem_of_getElem? (i := 27) rfl))) (notFace_of_selects (args := #[]) (mvT hZ (hw _ (List.mem_of_getElem? (i := 29) rfl)))) (mvT hZ (hw _ (List.mem_of_getElem? (i := 29) rfl))) (mvT hZ (hw _ (List.mem_of_getElem? (i := 28) rfl))) (by decide) (backOf (W := 0) (rm4 l Z a0 hw [] b11 bC clC1 4 (own_at [p2, p3, p4, p5]) T14.heap n0 (Nat.le_trans Z0 K14.1) ((FC.keep (own_keq e13) nin0).keep (own_keq e14) nin0) ArC1 (SC1.trans (by decide)) HV1 (by decide)) hZ (hw _ (List.mem_of_getElem? (i := 30) rfl)) (hw _ (List.mem_of_getElem? (i := 4) rfl)) (by decide) (by decide)) q15a q15c (g := (mkF m 119 #[.val (.int p1), .val (.int p2), .val (.int p3), .val (.int p4), .val (.int p5), .val (.int (4 : Int32)), .val (.ref b6), .val (.ref b11), .val (.int (1 : Int32)), .unset, .unset, .unset] [(.ref b11)])) rfl (by rw [hml]; rfl) (Steps.refl _) (argsL := []) (rest := []) (lenOf pd_0_4 rfl) rfl (by show 2 * 0 + _ ≤ _; exact Nat.le_of_eq rfl) (hb hby at_119) (fun _ _ => ⟨rfl, rfl, (Nat.le_of_ble_eq_true rfl), (Nat.le_of_ble_eq_true rfl)⟩)
  dsimp only [Pt.U, Pt.locs, Pt.cells, Pt.slots] at X15 l15 y15 z15 st15 hQ15
  subst l15 y15 z15
  obtain ⟨rfl, N15q, e15⟩ := hQ15
  have K15 : Keep h0 T15.heap [] := K14.trans (own_keq e15) all0
  have N15 := Fr.app N14 N15q
  obtain ⟨cl_b6_146, Ar_b6, q_b6, S_b6, N_b6, H_b6, G_b6⟩ := (((((V_b6_10.ext E11).keep K12c (ninS ne_ao nin0)).keep (own_keq e13) nin0).keep (own_keq e14) nin0).keep (own_keq e15) nin0)
  have hin146 : ¬ ((0 : Int32) < 0 ∨ cl_b6_146.slots.size ≤ ((0 : Int32)).toNatClampNeg) := inb_of S_b6 ⟨by decide, by decide⟩
  obtain ⟨T16, h16, X16, e16, W16, st16⟩ := stI X15 hx hZ rfl Ar_b6 (j := (0 : Int32)) hin146 (g := (mkF m 146 #[.val (.int p1), .val (.int p2), .val (.int p3), .val (.int p4), .val (.int p5), .val (.int (4 : Int32)), .val (.ref b6), .val (.ref b11), .val (.int (1 : Int32)), .val (.int (own_anyf (own_at [p2, p3, p4, p5]) 4 0 0)), .val (.int (0 : Int32)), .unset] [(.int (0 : Int32)), (.int (0 : Int32)), (.ref b6)])) rfl rfl (hb hby at_146)
  have V_b6_16 := Arv.set Ar_b6 q_b6 S_b6 N_b6 H_b6 G_b6 rfl W16 0 rfl (Nat.le_of_ble_eq_true rfl)
  have K16 : Keep h0 h16 [] := K15.wr W16 (Or.inr sz_b6)
  have N16 := Fr.snoc X16 N15 g_b6
  obtain ⟨cl_b6_158, Ar_b6, q_b6, S_b6, N_b6, H_b6, G_b6⟩ := V_b6_16
  have hin158 : ¬ ((1 : Int32) < 0 ∨ cl_b6_158.slots.size ≤ ((1 : Int32)).toNatClampNeg) := inb_of S_b6 ⟨by decide, by decide⟩
  obtain ⟨T17, h17, X17, e17, W17, st17⟩ := stI X16 hx hZ e16 Ar_b6 (j := (1 : Int32)) hin158 (g := (mkF m 158 #[.val (.int p1), .val (.int p2), .val (.int p3), .val (.int p4), .val (.int p5), .val (.int (4 : Int32)), .val (.ref b6), .val (.ref b11), .val (.int (1 : Int32)), .val (.int (own_anyf (own_at [p2, p3, p4, p5]) 4 0 0)), .val (.int (0 : Int32)), .unset] [(.int (0 : Int32)), (.int (1 : Int32)), (.ref b6)])) rfl rfl (hb hby at_158)
  have V_b6_17 := Arv.set Ar_b6 q_b6 S_b6 N_b6 H_b6 G_b6 rfl W17 1 rfl (Nat.le_of_ble_eq_true rfl)
  have K17 : Keep h0 h17 [] := K16.wr W17 (Or.inr sz_b6)
  have N17 := Fr.snoc X17 N16 g_b6
  obtain ⟨cl_b6_170, Ar_b6, q_b6, S_b6, N_b6, H_b6, G_b6⟩ := V_b6_17
  have hin170 : ¬ ((2 : Int32) < 0 ∨ cl_b6_170.slots.size ≤ ((2 : Int32)).toNatClampNeg) := inb_of S_b6 ⟨by decide, by decide⟩
  obtain ⟨T18, h18, X18, e18, W18, st18⟩ := stI X17 hx hZ e17 Ar_b6 (j := (2 : Int32)) hin170 (g := (mkF m 170 #[.val (.int p1), .val (.int p2), .val (.int p3), .val (.int p4), .val (.int p5), .val (.int (4 : Int32)), .val (.ref b6), .val (.ref b11), .val (.int (1 : Int32)), .val (.int (own_anyf (own_at [p2, p3, p4, p5]) 4 0 0)), .val (.int (0 : Int32)), .unset] [(.int (0 : Int32)), (.int (2 : Int32)), (.ref b6)])) rfl rfl (hb hby at_170)
  have V_b6_18 := Arv.set Ar_b6 q_b6 S_b6 N_b6 H_b6 G_b6 rfl W18 2 rfl (Nat.le_of_ble_eq_true rfl)
  have K18 : Keep h0 h18 [] := K17.wr W18 (Or.inr sz_b6)
  have N18 := Fr.snoc X18 N17 g_b6
  obtain ⟨cl_b6_182, Ar_b6, q_b6, S_b6, N_b6, H_b6, G_b6⟩ := V_b6_18
  have hin182 : ¬ ((3 : Int32) < 0 ∨ cl_b6_182.slots.size ≤ ((3 : Int32)).toNatClampNeg) := inb_of S_b6 ⟨by decide, by decide⟩
  obtain ⟨T19, h19, X19, e19, W19, st19⟩ := stI X18 hx hZ e18 Ar_b6 (j := (3 : Int32)) hin182 (g := (mkF m 182 #[.val (.int p1), .val (.int p2), .val (.int p3), .val (.int p4), .val (.int p5), .val (.int (4 : Int32)), .val (.ref b6), .val (.ref b11), .val (.int (1 : Int32)), .val (.int (own_anyf (own_at [p2, p3, p4, p5]) 4 0 0)), .val (.int (0 : Int32)), .unset] [(.int (0 : Int32)), (.int (3 : Int32)), (.ref b6)])) rfl rfl (hb hby at_182)
  have V_b6_19 := Arv.set Ar_b6 q_b6 S_b6 N_b6 H_b6 G_b6 rfl W19 3 rfl (Nat.le_of_ble_eq_true rfl)
  have K19 : Keep h0 h19 [] := K18.wr W19 (Or.inr sz_b6)
  have N19 := Fr.snoc X19 N18 g_b6
  obtain ⟨clC2, ArC2, -, SC2, NC2, HC2, -⟩ := (((((((VC.keep (own_keq e13) nin0).keep (own_keq e14) nin0).keep (own_keq e15) nin0).other W16 ne_Ca).other W17 ne_Ca).other W18 ne_Ca).other W19 ne_Ca)
  have HV2 : ∀ j, j < 4 → clC2.slots[j]? = some (.int (own_at [p2, p3, p4, p5] j)) := by
    intro j hj
    match j, hj with
    | 0, _ => exact HC2 0 (by rw [SC2]; decide)
    | 1, _ => exact HC2 1 (by rw [SC2]; decide)
    | 2, _ => exact HC2 2 (by rw [SC2]; decide)
    | 3, _ => exact HC2 3 (by rw [SC2]; decide)
  obtain ⟨cq20, kq20, q20a, q20b, q20c⟩ := isOf hZ e19 ((((((((E_b11.keep K12c).keep (own_keq e13)).keep (own_keq e14)).keep (own_keq e15)).wr W16).wr W17).wr W18).wr W19)
  obtain ⟨_, _, ⟨T20, L20, k20, n20⟩, -, X20, ⟨Lc20, hQ20, l20, y20, z20⟩, st20⟩ := X19.virtualBack hx (y := (⟨"com/example/tendril/tendril/WireColumns$Formats", "anyBinary", "()Z"⟩ : MethodName)) (z := (⟨"com/example/tendril/tendril/WireColumns$Formats", "anyBinary", "()Z"⟩ : MethodName)) hown (mvT hZ (hw _ (List.mem_of_getElem? (i := 26) rfl))) (mvT hZ (hw _ (List.mem_of_getElem? (i := 27) rfl))) (notFace_of_selects (args := #[]) (mvT hZ (hw _ (List.mem_of_getElem? (i := 29) rfl)))) (mvT hZ (hw _ (List.mem_of_getElem? (i := 29) rfl))) (mvT hZ (hw _ (List.mem_of_getElem? (i := 28) rfl))) (by decide) (backOf (W := 0) (rm4 l Z a0 hw [] b11 bC clC2 4 (own_at [p2, p3, p4, p5]) h19 n0 (Nat.le_trans Z0 K19.1) (((((((FC.keep (own_keq e13) nin0).keep (own_keq e14) nin0).keep (own_keq e15) nin0).other W16 (Or.inl (Ne.symm ne_ao))).other W17 (Or.inl (Ne.symm ne_ao))).other W18 (Or.inl (Ne.symm ne_ao))).other W19 (Or.inl (Ne.symm ne_ao))) ArC2 (SC2.trans (by decide)) HV2 (by decide)) hZ (hw _ (List.mem_of_getElem? (i := 30) rfl)) (hw _ (List.mem_of_getElem? (i := 4) rfl)) (by decide) (by decide)) q20a q20c (g := (mkF m 185 #[.val (.int p1), .val (.int p2), .val (.int p3), .val (.int p4), .val (.int p5), .val (.int (4 : Int32)), .val (.ref b6), .val (.ref b11), .val (.int (1 : Int32)), .val (.int (own_anyf (own_at [p2, p3, p4, p5]) 4 0 0)), .val (.int (0 : Int32)), .unset] [(.ref b11)])) rfl (by rw [hml]; rfl) (Steps.refl _) (argsL := []) (rest := []) (lenOf pd_0_4 rfl) rfl (by show 2 * 0 + _ ≤ _; exact Nat.le_of_eq rfl) (hb hby at_185) (fun _ _ => ⟨rfl, e19, (Nat.le_of_ble_eq_true rfl), (Nat.le_of_ble_eq_true rfl)⟩)
  dsimp only [Pt.U, Pt.locs, Pt.cells, Pt.slots] at X20 l20 y20 z20 st20 hQ20
  subst l20 y20 z20
  obtain ⟨rfl, N20q, e20⟩ := hQ20
  have K20 : Keep h0 T20.heap [] := K19.trans (own_keq e20) all0
  have N20 := Fr.app N19 N20q
  obtain ⟨fs, hr, hrun, hended, hW, hsame⟩ := X20.leave (v := some (.int (1 : Int32))) (fun h => by rw [Bd.returns] at h; cases h)
  refine ⟨_, _, pre0 _ ?_, hrun, hended, _, _, rfl, ?_, ⟨_, rfl⟩, hW, hsame.mono (by decide) (by decide)⟩
  · show Steps p.tables e below (s₁.setTop (mkF m 0 #[.val (.int p1), .val (.int p2), .val (.int p3), .val (.int p4), .val (.int p5), .unset, .unset, .unset, .unset, .unset, .unset, .unset] [])) _
    refine XS.iloadN X0.here hx rfl (hb hby at_0) rfl ?_
    show Steps p.tables e below (s₁.setTop (mkF m 1 #[.val (.int p1), .val (.int p2), .val (.int p3), .val (.int p4), .val (.int p5), .unset, .unset, .unset, .unset, .unset, .unset, .unset] [(.int p1)])) _
    refine X0.ldcInt hx hown (mvT hZ (hw _ (List.mem_of_getElem? (i := 0) rfl))) (g := (mkF m 1 #[.val (.int p1), .val (.int p2), .val (.int p3), .val (.int p4), .val (.int p5), .unset, .unset, .unset, .unset, .unset, .unset, .unset] [(.int p1)])) rfl (hb hby at_1) _ ?_
    show Steps p.tables e below (s₁.setTop (mkF m 3 #[.val (.int p1), .val (.int p2), .val (.int p3), .val (.int p4), .val (.int p5), .unset, .unset, .unset, .unset, .unset, .unset, .unset] [(.int (2147483647 : Int32)), (.int p1)])) _
    refine XS.iand X0.here hx rfl (hb hby at_3) rfl ?_
    show Steps p.tables e below (s₁.setTop (mkF m 4 #[.val (.int p1), .val (.int p2), .val (.int p3), .val (.int p4), .val (.int p5), .unset, .unset, .unset, .unset, .unset, .unset, .unset] [(.int (p1 &&& (2147483647 : Int32)))])) _
    refine XS.iconst X0.here hx rfl (hb hby at_4) ?_
    show Steps p.tables e below (s₁.setTop (mkF m 5 #[.val (.int p1), .val (.int p2), .val (.int p3), .val (.int p4), .val (.int p5), .unset, .unset, .unset, .unset, .unset, .unset, .unset] [(.int (5 : Int32)), (.int (p1 &&& (2147483647 : Int32)))])) _
    refine iremM X0 hx rfl (hb hby at_5) rfl (by decide) ?_
    rw [hp5]
    show Steps p.tables e below (s₁.setTop (mkF m 6 #[.val (.int p1), .val (.int p2), .val (.int p3), .val (.int p4), .val (.int p5), .unset, .unset, .unset, .unset, .unset, .unset, .unset] [(.int (4 : Int32))])) _
    refine XS.istore X0.here hx rfl (hb hby at_6) rfl (l' := #[.val (.int p1), .val (.int p2), .val (.int p3), .val (.int p4), .val (.int p5), .val (.int (4 : Int32)), .unset, .unset, .unset, .unset, .unset, .unset]) rfl ?_
    show Steps p.tables e below (s₁.setTop (mkF m 8 #[.val (.int p1), .val (.int p2), .val (.int p3), .val (.int p4), .val (.int p5), .val (.int (4 : Int32)), .unset, .unset, .unset, .unset, .unset, .unset] [])) _
    refine XS.iload X0.here hx rfl (hb hby at_8) rfl ?_
    show Steps p.tables e below (s₁.setTop (mkF m 10 #[.val (.int p1), .val (.int p2), .val (.int p3), .val (.int p4), .val (.int p5), .val (.int (4 : Int32)), .unset, .unset, .unset, .unset, .unset, .unset] [(.int (4 : Int32))])) _
    refine st6 _ ?_
    show Steps p.tables e below (T6.setTop (mkF m 12 #[.val (.int p1), .val (.int p2), .val (.int p3), .val (.int p4), .val (.int p5), .val (.int (4 : Int32)), .unset, .unset, .unset, .unset, .unset, .unset] [(.ref b6)])) _
    refine XS.astore X6.here hx rfl (hb hby at_12) rfl rfl (l' := #[.val (.int p1), .val (.int p2), .val (.int p3), .val (.int p4), .val (.int p5), .val (.int (4 : Int32)), .val (.ref b6), .unset, .unset, .unset, .unset, .unset]) rfl ?_
    show Steps p.tables e below (T6.setTop (mkF m 14 #[.val (.int p1), .val (.int p2), .val (.int p3), .val (.int p4), .val (.int p5), .val (.int (4 : Int32)), .val (.ref b6), .unset, .unset, .unset, .unset, .unset] [])) _
    refine XS.iload X6.here hx rfl (hb hby at_14) rfl ?_
    show Steps p.tables e below (T6.setTop (mkF m 16 #[.val (.int p1), .val (.int p2), .val (.int p3), .val (.int p4), .val (.int p5), .val (.int (4 : Int32)), .val (.ref b6), .unset, .unset, .unset, .unset, .unset] [(.int (4 : Int32))])) _
    refine XS.ifNo X6.here hx rfl (hb hby at_16) rfl ((if0 _ _).trans (tlt (by decide : (0 : Int32) < (4 : Int32))).2.2.2) ?_
    show Steps p.tables e below (T6.setTop (mkF m 19 #[.val (.int p1), .val (.int p2), .val (.int p3), .val (.int p4), .val (.int p5), .val (.int (4 : Int32)), .val (.ref b6), .unset, .unset, .unset, .unset, .unset] [])) _
    refine XS.aload X6.here hx rfl (hb hby at_19) rfl rfl ?_
    show Steps p.tables e below (T6.setTop (mkF m 21 #[.val (.int p1), .val (.int p2), .val (.int p3), .val (.int p4), .val (.int p5), .val (.int (4 : Int32)), .val (.ref b6), .unset, .unset, .unset, .unset, .unset] [(.ref b6)])) _
    refine XS.iconst X6.here hx rfl (hb hby at_21) ?_
    show Steps p.tables e below (T6.setTop (mkF m 22 #[.val (.int p1), .val (.int p2), .val (.int p3), .val (.int p4), .val (.int p5), .val (.int (4 : Int32)), .val (.ref b6), .unset, .unset, .unset, .unset, .unset] [(.int (0 : Int32)), (.ref b6)])) _
    refine XS.iloadN X6.here hx rfl (hb hby at_22) rfl ?_
    show Steps p.tables e below (T6.setTop (mkF m 23 #[.val (.int p1), .val (.int p2), .val (.int p3), .val (.int p4), .val (.int p5), .val (.int (4 : Int32)), .val (.ref b6), .unset, .unset, .unset, .unset, .unset] [(.int p2), (.int (0 : Int32)), (.ref b6)])) _
    refine st7 _ ?_
    show Steps p.tables e below (T7.setTop (mkF m 24 #[.val (.int p1), .val (.int p2), .val (.int p3), .val (.int p4), .val (.int p5), .val (.int (4 : Int32)), .val (.ref b6), .unset, .unset, .unset, .unset, .unset] [])) _
    refine XS.iload X7.here hx rfl (hb hby at_24) rfl ?_
    show Steps p.tables e below (T7.setTop (mkF m 26 #[.val (.int p1), .val (.int p2), .val (.int p3), .val (.int p4), .val (.int p5), .val (.int (4 : Int32)), .val (.ref b6), .unset, .unset, .unset, .unset, .unset] [(.int (4 : Int32))])) _
    refine XS.iconst X7.here hx rfl (hb hby at_26) ?_
    show Steps p.tables e below (T7.setTop (mkF m 27 #[.val (.int p1), .val (.int p2), .val (.int p3), .val (.int p4), .val (.int p5), .val (.int (4 : Int32)), .val (.ref b6), .unset, .unset, .unset, .unset, .unset] [(.int (1 : Int32)), (.int (4 : Int32))])) _
    refine XS.icmpNo X7.here hx rfl (hb hby at_27) rfl (tlt (by decide : (1 : Int32) < (4 : Int32))).2.2.2 ?_
    show Steps p.tables e below (T7.setTop (mkF m 30 #[.val (.int p1), .val (.int p2), .val (.int p3), .val (.int p4), .val (.int p5), .val (.int (4 : Int32)), .val (.ref b6), .unset, .unset, .unset, .unset, .unset] [])) _
    refine XS.aload X7.here hx rfl (hb hby at_30) rfl rfl ?_
    show Steps p.tables e below (T7.setTop (mkF m 32 #[.val (.int p1), .val (.int p2), .val (.int p3), .val (.int p4), .val (.int p5), .val (.int (4 : Int32)), .val (.ref b6), .unset, .unset, .unset, .unset, .unset] [(.ref b6)])) _
    refine XS.iconst X7.here hx rfl (hb hby at_32) ?_
    show Steps p.tables e below (T7.setTop (mkF m 33 #[.val (.int p1), .val (.int p2), .val (.int p3), .val (.int p4), .val (.int p5), .val (.int (4 : Int32)), .val (.ref b6), .unset, .unset, .unset, .unset, .unset] [(.int (1 : Int32)), (.ref b6)])) _
    refine XS.iloadN X7.here hx rfl (hb hby at_33) rfl ?_
    show Steps p.tables e below (T7.setTop (mkF m 34 #[.val (.int p1), .val (.int p2), .val (.int p3), .val (.int p4), .val (.int p5), .val (.int (4 : Int32)), .val (.ref b6), .unset, .unset, .unset, .unset, .unset] [(.int p3), (.int (1 : Int32)), (.ref b6)])) _
    refine st8 _ ?_
    show Steps p.tables e below (T8.setTop (mkF m 35 #[.val (.int p1), .val (.int p2), .val (.int p3), .val (.int p4), .val (.int p5), .val (.int (4 : Int32)), .val (.ref b6), .unset, .unset, .unset, .unset, .unset] [])) _
    refine XS.iload X8.here hx rfl (hb hby at_35) rfl ?_
    show Steps p.tables e below (T8.setTop (mkF m 37 #[.val (.int p1), .val (.int p2), .val (.int p3), .val (.int p4), .val (.int p5), .val (.int (4 : Int32)), .val (.ref b6), .unset, .unset, .unset, .unset, .unset] [(.int (4 : Int32))])) _
    refine XS.iconst X8.here hx rfl (hb hby at_37) ?_
    show Steps p.tables e below (T8.setTop (mkF m 38 #[.val (.int p1), .val (.int p2), .val (.int p3), .val (.int p4), .val (.int p5), .val (.int (4 : Int32)), .val (.ref b6), .unset, .unset, .unset, .unset, .unset] [(.int (2 : Int32)), (.int (4 : Int32))])) _
    refine XS.icmpNo X8.here hx rfl (hb hby at_38) rfl (tlt (by decide : (2 : Int32) < (4 : Int32))).2.2.2 ?_
    show Steps p.tables e below (T8.setTop (mkF m 41 #[.val (.int p1), .val (.int p2), .val (.int p3), .val (.int p4), .val (.int p5), .val (.int (4 : Int32)), .val (.ref b6), .unset, .unset, .unset, .unset, .unset] [])) _
    refine XS.aload X8.here hx rfl (hb hby at_41) rfl rfl ?_
    show Steps p.tables e below (T8.setTop (mkF m 43 #[.val (.int p1), .val (.int p2), .val (.int p3), .val (.int p4), .val (.int p5), .val (.int (4 : Int32)), .val (.ref b6), .unset, .unset, .unset, .unset, .unset] [(.ref b6)])) _
    refine XS.iconst X8.here hx rfl (hb hby at_43) ?_
    show Steps p.tables e below (T8.setTop (mkF m 44 #[.val (.int p1), .val (.int p2), .val (.int p3), .val (.int p4), .val (.int p5), .val (.int (4 : Int32)), .val (.ref b6), .unset, .unset, .unset, .unset, .unset] [(.int (2 : Int32)), (.ref b6)])) _
    refine XS.iloadN X8.here hx rfl (hb hby at_44) rfl ?_
    show Steps p.tables e below (T8.setTop (mkF m 45 #[.val (.int p1), .val (.int p2), .val (.int p3), .val (.int p4), .val (.int p5), .val (.int (4 : Int32)), .val (.ref b6), .unset, .unset, .unset, .unset, .unset] [(.int p4), (.int (2 : Int32)), (.ref b6)])) _
    refine st9 _ ?_
    show Steps p.tables e below (T9.setTop (mkF m 46 #[.val (.int p1), .val (.int p2), .val (.int p3), .val (.int p4), .val (.int p5), .val (.int (4 : Int32)), .val (.ref b6), .unset, .unset, .unset, .unset, .unset] [])) _
    refine XS.iload X9.here hx rfl (hb hby at_46) rfl ?_
    show Steps p.tables e below (T9.setTop (mkF m 48 #[.val (.int p1), .val (.int p2), .val (.int p3), .val (.int p4), .val (.int p5), .val (.int (4 : Int32)), .val (.ref b6), .unset, .unset, .unset, .unset, .unset] [(.int (4 : Int32))])) _
    refine XS.iconst X9.here hx rfl (hb hby at_48) ?_
    show Steps p.tables e below (T9.setTop (mkF m 49 #[.val (.int p1), .val (.int p2), .val (.int p3), .val (.int p4), .val (.int p5), .val (.int (4 : Int32)), .val (.ref b6), .unset, .unset, .unset, .unset, .unset] [(.int (3 : Int32)), (.int (4 : Int32))])) _
    refine XS.icmpNo X9.here hx rfl (hb hby at_49) rfl (tlt (by decide : (3 : Int32) < (4 : Int32))).2.2.2 ?_
    show Steps p.tables e below (T9.setTop (mkF m 52 #[.val (.int p1), .val (.int p2), .val (.int p3), .val (.int p4), .val (.int p5), .val (.int (4 : Int32)), .val (.ref b6), .unset, .unset, .unset, .unset, .unset] [])) _
    refine XS.aload X9.here hx rfl (hb hby at_52) rfl rfl ?_
    show Steps p.tables e below (T9.setTop (mkF m 54 #[.val (.int p1), .val (.int p2), .val (.int p3), .val (.int p4), .val (.int p5), .val (.int (4 : Int32)), .val (.ref b6), .unset, .unset, .unset, .unset, .unset] [(.ref b6)])) _
    refine XS.iconst X9.here hx rfl (hb hby at_54) ?_
    show Steps p.tables e below (T9.setTop (mkF m 55 #[.val (.int p1), .val (.int p2), .val (.int p3), .val (.int p4), .val (.int p5), .val (.int (4 : Int32)), .val (.ref b6), .unset, .unset, .unset, .unset, .unset] [(.int (3 : Int32)), (.ref b6)])) _
    refine XS.iload X9.here hx rfl (hb hby at_55) rfl ?_
    show Steps p.tables e below (T9.setTop (mkF m 57 #[.val (.int p1), .val (.int p2), .val (.int p3), .val (.int p4), .val (.int p5), .val (.int (4 : Int32)), .val (.ref b6), .unset, .unset, .unset, .unset, .unset] [(.int p5), (.int (3 : Int32)), (.ref b6)])) _
    refine st10 _ ?_
    show Steps p.tables e below (T10.setTop (mkF m 58 #[.val (.int p1), .val (.int p2), .val (.int p3), .val (.int p4), .val (.int p5), .val (.int (4 : Int32)), .val (.ref b6), .unset, .unset, .unset, .unset, .unset] [])) _
    refine st11 _ ?_
    show Steps p.tables e below (T11.setTop (mkF m 61 #[.val (.int p1), .val (.int p2), .val (.int p3), .val (.int p4), .val (.int p5), .val (.int (4 : Int32)), .val (.ref b6), .unset, .unset, .unset, .unset, .unset] [(.ref b11)])) _
    refine XS.dup X11.here hx rfl (hb hby at_61) rfl rfl ?_
    show Steps p.tables e below (T11.setTop (mkF m 62 #[.val (.int p1), .val (.int p2), .val (.int p3), .val (.int p4), .val (.int p5), .val (.int (4 : Int32)), .val (.ref b6), .unset, .unset, .unset, .unset, .unset] [(.ref b11), (.ref b11)])) _
    refine XS.aload X11.here hx rfl (hb hby at_62) rfl rfl ?_
    show Steps p.tables e below (T11.setTop (mkF m 64 #[.val (.int p1), .val (.int p2), .val (.int p3), .val (.int p4), .val (.int p5), .val (.int (4 : Int32)), .val (.ref b6), .unset, .unset, .unset, .unset, .unset] [(.ref b6), (.ref b11), (.ref b11)])) _
    refine st12.trans ?_
    show Steps p.tables e below (T12.setTop (mkF m 67 #[.val (.int p1), .val (.int p2), .val (.int p3), .val (.int p4), .val (.int p5), .val (.int (4 : Int32)), .val (.ref b6), .unset, .unset, .unset, .unset, .unset] [(.ref b11)])) _
    refine XS.astore X12.here hx rfl (hb hby at_67) rfl rfl (l' := #[.val (.int p1), .val (.int p2), .val (.int p3), .val (.int p4), .val (.int p5), .val (.int (4 : Int32)), .val (.ref b6), .val (.ref b11), .unset, .unset, .unset, .unset]) rfl ?_
    show Steps p.tables e below (T12.setTop (mkF m 69 #[.val (.int p1), .val (.int p2), .val (.int p3), .val (.int p4), .val (.int p5), .val (.int (4 : Int32)), .val (.ref b6), .val (.ref b11), .unset, .unset, .unset, .unset] [])) _
    refine XS.iload X12.here hx rfl (hb hby at_69) rfl ?_
    show Steps p.tables e below (T12.setTop (mkF m 71 #[.val (.int p1), .val (.int p2), .val (.int p3), .val (.int p4), .val (.int p5), .val (.int (4 : Int32)), .val (.ref b6), .val (.ref b11), .unset, .unset, .unset, .unset] [(.int (4 : Int32))])) _
    refine XS.iconst X12.here hx rfl (hb hby at_71) ?_
    show Steps p.tables e below (T12.setTop (mkF m 72 #[.val (.int p1), .val (.int p2), .val (.int p3), .val (.int p4), .val (.int p5), .val (.int (4 : Int32)), .val (.ref b6), .val (.ref b11), .unset, .unset, .unset, .unset] [(.int (0 : Int32)), (.int (4 : Int32))])) _
    refine XS.iloadN X12.here hx rfl (hb hby at_72) rfl ?_
    show Steps p.tables e below (T12.setTop (mkF m 73 #[.val (.int p1), .val (.int p2), .val (.int p3), .val (.int p4), .val (.int p5), .val (.int (4 : Int32)), .val (.ref b6), .val (.ref b11), .unset, .unset, .unset, .unset] [(.int p2), (.int (0 : Int32)), (.int (4 : Int32))])) _
    refine st13 _ ?_
    show Steps p.tables e below (T13.setTop (mkF m 76 #[.val (.int p1), .val (.int p2), .val (.int p3), .val (.int p4), .val (.int p5), .val (.int (4 : Int32)), .val (.ref b6), .val (.ref b11), .unset, .unset, .unset, .unset] [(.int (0 : Int32))])) _
    refine XS.ifNo X13.here hx rfl (hb hby at_76) rfl ((if0 _ _).trans (teq (by decide : (0 : Int32) = (0 : Int32))).2) ?_
    show Steps p.tables e below (T13.setTop (mkF m 79 #[.val (.int p1), .val (.int p2), .val (.int p3), .val (.int p4), .val (.int p5), .val (.int (4 : Int32)), .val (.ref b6), .val (.ref b11), .unset, .unset, .unset, .unset] [])) _
    refine XS.iload X13.here hx rfl (hb hby at_79) rfl ?_
    show Steps p.tables e below (T13.setTop (mkF m 81 #[.val (.int p1), .val (.int p2), .val (.int p3), .val (.int p4), .val (.int p5), .val (.int (4 : Int32)), .val (.ref b6), .val (.ref b11), .unset, .unset, .unset, .unset] [(.int (4 : Int32))])) _
    refine XS.iconst X13.here hx rfl (hb hby at_81) ?_
    show Steps p.tables e below (T13.setTop (mkF m 82 #[.val (.int p1), .val (.int p2), .val (.int p3), .val (.int p4), .val (.int p5), .val (.int (4 : Int32)), .val (.ref b6), .val (.ref b11), .unset, .unset, .unset, .unset] [(.int (1 : Int32)), (.int (4 : Int32))])) _
    refine XS.iloadN X13.here hx rfl (hb hby at_82) rfl ?_
    show Steps p.tables e below (T13.setTop (mkF m 83 #[.val (.int p1), .val (.int p2), .val (.int p3), .val (.int p4), .val (.int p5), .val (.int (4 : Int32)), .val (.ref b6), .val (.ref b11), .unset, .unset, .unset, .unset] [(.int p3), (.int (1 : Int32)), (.int (4 : Int32))])) _
    refine st14 _ ?_
    show Steps p.tables e below (T14.setTop (mkF m 86 #[.val (.int p1), .val (.int p2), .val (.int p3), .val (.int p4), .val (.int p5), .val (.int (4 : Int32)), .val (.ref b6), .val (.ref b11), .unset, .unset, .unset, .unset] [(.int (1 : Int32))])) _
    refine XS.ifYes X14.here hx rfl (pc0 := 86) (pc' := 110) rfl (hb hby at_86) rfl ((if0 _ _).trans (feq (by decide : ¬ ((1 : Int32) = (0 : Int32)))).2) (by decide) (by decide) ?_
    show Steps p.tables e below (T14.setTop (mkF m 110 #[.val (.int p1), .val (.int p2), .val (.int p3), .val (.int p4), .val (.int p5), .val (.int (4 : Int32)), .val (.ref b6), .val (.ref b11), .unset, .unset, .unset, .unset] [])) _
    refine XS.iconst X14.here hx rfl (hb hby at_110) ?_
    show Steps p.tables e below (T14.setTop (mkF m 111 #[.val (.int p1), .val (.int p2), .val (.int p3), .val (.int p4), .val (.int p5), .val (.int (4 : Int32)), .val (.ref b6), .val (.ref b11), .unset, .unset, .unset, .unset] [(.int (1 : Int32))])) _
    refine XS.goto X14.here hx rfl (pc0 := 111) (pc' := 115) rfl (hb hby at_111) (by decide) (by decide) ?_
    show Steps p.tables e below (T14.setTop (mkF m 115 #[.val (.int p1), .val (.int p2), .val (.int p3), .val (.int p4), .val (.int p5), .val (.int (4 : Int32)), .val (.ref b6), .val (.ref b11), .unset, .unset, .unset, .unset] [(.int (1 : Int32))])) _
    refine XS.istore X14.here hx rfl (hb hby at_115) rfl (l' := #[.val (.int p1), .val (.int p2), .val (.int p3), .val (.int p4), .val (.int p5), .val (.int (4 : Int32)), .val (.ref b6), .val (.ref b11), .val (.int (1 : Int32)), .unset, .unset, .unset]) rfl ?_
    show Steps p.tables e below (T14.setTop (mkF m 117 #[.val (.int p1), .val (.int p2), .val (.int p3), .val (.int p4), .val (.int p5), .val (.int (4 : Int32)), .val (.ref b6), .val (.ref b11), .val (.int (1 : Int32)), .unset, .unset, .unset] [])) _
    refine XS.aload X14.here hx rfl (hb hby at_117) rfl rfl ?_
    show Steps p.tables e below (T14.setTop (mkF m 119 #[.val (.int p1), .val (.int p2), .val (.int p3), .val (.int p4), .val (.int p5), .val (.int (4 : Int32)), .val (.ref b6), .val (.ref b11), .val (.int (1 : Int32)), .unset, .unset, .unset] [(.ref b11)])) _
    refine st15.trans ?_
    show Steps p.tables e below (T15.setTop (mkF m 122 #[.val (.int p1), .val (.int p2), .val (.int p3), .val (.int p4), .val (.int p5), .val (.int (4 : Int32)), .val (.ref b6), .val (.ref b11), .val (.int (1 : Int32)), .unset, .unset, .unset] [(.int (own_anyf (own_at [p2, p3, p4, p5]) 4 0 0))])) _
    refine XS.istore X15.here hx rfl (hb hby at_122) rfl (l' := #[.val (.int p1), .val (.int p2), .val (.int p3), .val (.int p4), .val (.int p5), .val (.int (4 : Int32)), .val (.ref b6), .val (.ref b11), .val (.int (1 : Int32)), .val (.int (own_anyf (own_at [p2, p3, p4, p5]) 4 0 0)), .unset, .unset]) rfl ?_
    show Steps p.tables e below (T15.setTop (mkF m 124 #[.val (.int p1), .val (.int p2), .val (.int p3), .val (.int p4), .val (.int p5), .val (.int (4 : Int32)), .val (.ref b6), .val (.ref b11), .val (.int (1 : Int32)), .val (.int (own_anyf (own_at [p2, p3, p4, p5]) 4 0 0)), .unset, .unset] [])) _
    refine XS.iload X15.here hx rfl (hb hby at_124) rfl ?_
    show Steps p.tables e below (T15.setTop (mkF m 126 #[.val (.int p1), .val (.int p2), .val (.int p3), .val (.int p4), .val (.int p5), .val (.int (4 : Int32)), .val (.ref b6), .val (.ref b11), .val (.int (1 : Int32)), .val (.int (own_anyf (own_at [p2, p3, p4, p5]) 4 0 0)), .unset, .unset] [(.int (1 : Int32))])) _
    refine XS.ifNo X15.here hx rfl (hb hby at_126) rfl ((if0 _ _).trans (feq (by decide : ¬ ((1 : Int32) = (0 : Int32)))).1) ?_
    show Steps p.tables e below (T15.setTop (mkF m 129 #[.val (.int p1), .val (.int p2), .val (.int p3), .val (.int p4), .val (.int p5), .val (.int (4 : Int32)), .val (.ref b6), .val (.ref b11), .val (.int (1 : Int32)), .val (.int (own_anyf (own_at [p2, p3, p4, p5]) 4 0 0)), .unset, .unset] [])) _
    refine XS.iconst X15.here hx rfl (hb hby at_129) ?_
    show Steps p.tables e below (T15.setTop (mkF m 130 #[.val (.int p1), .val (.int p2), .val (.int p3), .val (.int p4), .val (.int p5), .val (.int (4 : Int32)), .val (.ref b6), .val (.ref b11), .val (.int (1 : Int32)), .val (.int (own_anyf (own_at [p2, p3, p4, p5]) 4 0 0)), .unset, .unset] [(.int (0 : Int32))])) _
    refine XS.goto X15.here hx rfl (pc0 := 130) (pc' := 134) rfl (hb hby at_130) (by decide) (by decide) ?_
    show Steps p.tables e below (T15.setTop (mkF m 134 #[.val (.int p1), .val (.int p2), .val (.int p3), .val (.int p4), .val (.int p5), .val (.int (4 : Int32)), .val (.ref b6), .val (.ref b11), .val (.int (1 : Int32)), .val (.int (own_anyf (own_at [p2, p3, p4, p5]) 4 0 0)), .unset, .unset] [(.int (0 : Int32))])) _
    refine XS.istore X15.here hx rfl (hb hby at_134) rfl (l' := #[.val (.int p1), .val (.int p2), .val (.int p3), .val (.int p4), .val (.int p5), .val (.int (4 : Int32)), .val (.ref b6), .val (.ref b11), .val (.int (1 : Int32)), .val (.int (own_anyf (own_at [p2, p3, p4, p5]) 4 0 0)), .val (.int (0 : Int32)), .unset]) rfl ?_
    show Steps p.tables e below (T15.setTop (mkF m 136 #[.val (.int p1), .val (.int p2), .val (.int p3), .val (.int p4), .val (.int p5), .val (.int (4 : Int32)), .val (.ref b6), .val (.ref b11), .val (.int (1 : Int32)), .val (.int (own_anyf (own_at [p2, p3, p4, p5]) 4 0 0)), .val (.int (0 : Int32)), .unset] [])) _
    refine XS.iload X15.here hx rfl (hb hby at_136) rfl ?_
    show Steps p.tables e below (T15.setTop (mkF m 138 #[.val (.int p1), .val (.int p2), .val (.int p3), .val (.int p4), .val (.int p5), .val (.int (4 : Int32)), .val (.ref b6), .val (.ref b11), .val (.int (1 : Int32)), .val (.int (own_anyf (own_at [p2, p3, p4, p5]) 4 0 0)), .val (.int (0 : Int32)), .unset] [(.int (4 : Int32))])) _
    refine XS.ifNo X15.here hx rfl (hb hby at_138) rfl ((if0 _ _).trans (tlt (by decide : (0 : Int32) < (4 : Int32))).2.2.2) ?_
    show Steps p.tables e below (T15.setTop (mkF m 141 #[.val (.int p1), .val (.int p2), .val (.int p3), .val (.int p4), .val (.int p5), .val (.int (4 : Int32)), .val (.ref b6), .val (.ref b11), .val (.int (1 : Int32)), .val (.int (own_anyf (own_at [p2, p3, p4, p5]) 4 0 0)), .val (.int (0 : Int32)), .unset] [])) _
    refine XS.aload X15.here hx rfl (hb hby at_141) rfl rfl ?_
    show Steps p.tables e below (T15.setTop (mkF m 143 #[.val (.int p1), .val (.int p2), .val (.int p3), .val (.int p4), .val (.int p5), .val (.int (4 : Int32)), .val (.ref b6), .val (.ref b11), .val (.int (1 : Int32)), .val (.int (own_anyf (own_at [p2, p3, p4, p5]) 4 0 0)), .val (.int (0 : Int32)), .unset] [(.ref b6)])) _
    refine XS.iconst X15.here hx rfl (hb hby at_143) ?_
    show Steps p.tables e below (T15.setTop (mkF m 144 #[.val (.int p1), .val (.int p2), .val (.int p3), .val (.int p4), .val (.int p5), .val (.int (4 : Int32)), .val (.ref b6), .val (.ref b11), .val (.int (1 : Int32)), .val (.int (own_anyf (own_at [p2, p3, p4, p5]) 4 0 0)), .val (.int (0 : Int32)), .unset] [(.int (0 : Int32)), (.ref b6)])) _
    refine XS.iload X15.here hx rfl (hb hby at_144) rfl ?_
    show Steps p.tables e below (T15.setTop (mkF m 146 #[.val (.int p1), .val (.int p2), .val (.int p3), .val (.int p4), .val (.int p5), .val (.int (4 : Int32)), .val (.ref b6), .val (.ref b11), .val (.int (1 : Int32)), .val (.int (own_anyf (own_at [p2, p3, p4, p5]) 4 0 0)), .val (.int (0 : Int32)), .unset] [(.int (0 : Int32)), (.int (0 : Int32)), (.ref b6)])) _
    refine st16 _ ?_
    show Steps p.tables e below (T16.setTop (mkF m 147 #[.val (.int p1), .val (.int p2), .val (.int p3), .val (.int p4), .val (.int p5), .val (.int (4 : Int32)), .val (.ref b6), .val (.ref b11), .val (.int (1 : Int32)), .val (.int (own_anyf (own_at [p2, p3, p4, p5]) 4 0 0)), .val (.int (0 : Int32)), .unset] [])) _
    refine XS.iload X16.here hx rfl (hb hby at_147) rfl ?_
    show Steps p.tables e below (T16.setTop (mkF m 149 #[.val (.int p1), .val (.int p2), .val (.int p3), .val (.int p4), .val (.int p5), .val (.int (4 : Int32)), .val (.ref b6), .val (.ref b11), .val (.int (1 : Int32)), .val (.int (own_anyf (own_at [p2, p3, p4, p5]) 4 0 0)), .val (.int (0 : Int32)), .unset] [(.int (4 : Int32))])) _
    refine XS.iconst X16.here hx rfl (hb hby at_149) ?_
    show Steps p.tables e below (T16.setTop (mkF m 150 #[.val (.int p1), .val (.int p2), .val (.int p3), .val (.int p4), .val (.int p5), .val (.int (4 : Int32)), .val (.ref b6), .val (.ref b11), .val (.int (1 : Int32)), .val (.int (own_anyf (own_at [p2, p3, p4, p5]) 4 0 0)), .val (.int (0 : Int32)), .unset] [(.int (1 : Int32)), (.int (4 : Int32))])) _
    refine XS.icmpNo X16.here hx rfl (hb hby at_150) rfl (tlt (by decide : (1 : Int32) < (4 : Int32))).2.2.2 ?_
    show Steps p.tables e below (T16.setTop (mkF m 153 #[.val (.int p1), .val (.int p2), .val (.int p3), .val (.int p4), .val (.int p5), .val (.int (4 : Int32)), .val (.ref b6), .val (.ref b11), .val (.int (1 : Int32)), .val (.int (own_anyf (own_at [p2, p3, p4, p5]) 4 0 0)), .val (.int (0 : Int32)), .unset] [])) _
    refine XS.aload X16.here hx rfl (hb hby at_153) rfl rfl ?_
    show Steps p.tables e below (T16.setTop (mkF m 155 #[.val (.int p1), .val (.int p2), .val (.int p3), .val (.int p4), .val (.int p5), .val (.int (4 : Int32)), .val (.ref b6), .val (.ref b11), .val (.int (1 : Int32)), .val (.int (own_anyf (own_at [p2, p3, p4, p5]) 4 0 0)), .val (.int (0 : Int32)), .unset] [(.ref b6)])) _
    refine XS.iconst X16.here hx rfl (hb hby at_155) ?_
    show Steps p.tables e below (T16.setTop (mkF m 156 #[.val (.int p1), .val (.int p2), .val (.int p3), .val (.int p4), .val (.int p5), .val (.int (4 : Int32)), .val (.ref b6), .val (.ref b11), .val (.int (1 : Int32)), .val (.int (own_anyf (own_at [p2, p3, p4, p5]) 4 0 0)), .val (.int (0 : Int32)), .unset] [(.int (1 : Int32)), (.ref b6)])) _
    refine XS.iload X16.here hx rfl (hb hby at_156) rfl ?_
    show Steps p.tables e below (T16.setTop (mkF m 158 #[.val (.int p1), .val (.int p2), .val (.int p3), .val (.int p4), .val (.int p5), .val (.int (4 : Int32)), .val (.ref b6), .val (.ref b11), .val (.int (1 : Int32)), .val (.int (own_anyf (own_at [p2, p3, p4, p5]) 4 0 0)), .val (.int (0 : Int32)), .unset] [(.int (0 : Int32)), (.int (1 : Int32)), (.ref b6)])) _
    refine st17 _ ?_
    show Steps p.tables e below (T17.setTop (mkF m 159 #[.val (.int p1), .val (.int p2), .val (.int p3), .val (.int p4), .val (.int p5), .val (.int (4 : Int32)), .val (.ref b6), .val (.ref b11), .val (.int (1 : Int32)), .val (.int (own_anyf (own_at [p2, p3, p4, p5]) 4 0 0)), .val (.int (0 : Int32)), .unset] [])) _
    refine XS.iload X17.here hx rfl (hb hby at_159) rfl ?_
    show Steps p.tables e below (T17.setTop (mkF m 161 #[.val (.int p1), .val (.int p2), .val (.int p3), .val (.int p4), .val (.int p5), .val (.int (4 : Int32)), .val (.ref b6), .val (.ref b11), .val (.int (1 : Int32)), .val (.int (own_anyf (own_at [p2, p3, p4, p5]) 4 0 0)), .val (.int (0 : Int32)), .unset] [(.int (4 : Int32))])) _
    refine XS.iconst X17.here hx rfl (hb hby at_161) ?_
    show Steps p.tables e below (T17.setTop (mkF m 162 #[.val (.int p1), .val (.int p2), .val (.int p3), .val (.int p4), .val (.int p5), .val (.int (4 : Int32)), .val (.ref b6), .val (.ref b11), .val (.int (1 : Int32)), .val (.int (own_anyf (own_at [p2, p3, p4, p5]) 4 0 0)), .val (.int (0 : Int32)), .unset] [(.int (2 : Int32)), (.int (4 : Int32))])) _
    refine XS.icmpNo X17.here hx rfl (hb hby at_162) rfl (tlt (by decide : (2 : Int32) < (4 : Int32))).2.2.2 ?_
    show Steps p.tables e below (T17.setTop (mkF m 165 #[.val (.int p1), .val (.int p2), .val (.int p3), .val (.int p4), .val (.int p5), .val (.int (4 : Int32)), .val (.ref b6), .val (.ref b11), .val (.int (1 : Int32)), .val (.int (own_anyf (own_at [p2, p3, p4, p5]) 4 0 0)), .val (.int (0 : Int32)), .unset] [])) _
    refine XS.aload X17.here hx rfl (hb hby at_165) rfl rfl ?_
    show Steps p.tables e below (T17.setTop (mkF m 167 #[.val (.int p1), .val (.int p2), .val (.int p3), .val (.int p4), .val (.int p5), .val (.int (4 : Int32)), .val (.ref b6), .val (.ref b11), .val (.int (1 : Int32)), .val (.int (own_anyf (own_at [p2, p3, p4, p5]) 4 0 0)), .val (.int (0 : Int32)), .unset] [(.ref b6)])) _
    refine XS.iconst X17.here hx rfl (hb hby at_167) ?_
    show Steps p.tables e below (T17.setTop (mkF m 168 #[.val (.int p1), .val (.int p2), .val (.int p3), .val (.int p4), .val (.int p5), .val (.int (4 : Int32)), .val (.ref b6), .val (.ref b11), .val (.int (1 : Int32)), .val (.int (own_anyf (own_at [p2, p3, p4, p5]) 4 0 0)), .val (.int (0 : Int32)), .unset] [(.int (2 : Int32)), (.ref b6)])) _
    refine XS.iload X17.here hx rfl (hb hby at_168) rfl ?_
    show Steps p.tables e below (T17.setTop (mkF m 170 #[.val (.int p1), .val (.int p2), .val (.int p3), .val (.int p4), .val (.int p5), .val (.int (4 : Int32)), .val (.ref b6), .val (.ref b11), .val (.int (1 : Int32)), .val (.int (own_anyf (own_at [p2, p3, p4, p5]) 4 0 0)), .val (.int (0 : Int32)), .unset] [(.int (0 : Int32)), (.int (2 : Int32)), (.ref b6)])) _
    refine st18 _ ?_
    show Steps p.tables e below (T18.setTop (mkF m 171 #[.val (.int p1), .val (.int p2), .val (.int p3), .val (.int p4), .val (.int p5), .val (.int (4 : Int32)), .val (.ref b6), .val (.ref b11), .val (.int (1 : Int32)), .val (.int (own_anyf (own_at [p2, p3, p4, p5]) 4 0 0)), .val (.int (0 : Int32)), .unset] [])) _
    refine XS.iload X18.here hx rfl (hb hby at_171) rfl ?_
    show Steps p.tables e below (T18.setTop (mkF m 173 #[.val (.int p1), .val (.int p2), .val (.int p3), .val (.int p4), .val (.int p5), .val (.int (4 : Int32)), .val (.ref b6), .val (.ref b11), .val (.int (1 : Int32)), .val (.int (own_anyf (own_at [p2, p3, p4, p5]) 4 0 0)), .val (.int (0 : Int32)), .unset] [(.int (4 : Int32))])) _
    refine XS.iconst X18.here hx rfl (hb hby at_173) ?_
    show Steps p.tables e below (T18.setTop (mkF m 174 #[.val (.int p1), .val (.int p2), .val (.int p3), .val (.int p4), .val (.int p5), .val (.int (4 : Int32)), .val (.ref b6), .val (.ref b11), .val (.int (1 : Int32)), .val (.int (own_anyf (own_at [p2, p3, p4, p5]) 4 0 0)), .val (.int (0 : Int32)), .unset] [(.int (3 : Int32)), (.int (4 : Int32))])) _
    refine XS.icmpNo X18.here hx rfl (hb hby at_174) rfl (tlt (by decide : (3 : Int32) < (4 : Int32))).2.2.2 ?_
    show Steps p.tables e below (T18.setTop (mkF m 177 #[.val (.int p1), .val (.int p2), .val (.int p3), .val (.int p4), .val (.int p5), .val (.int (4 : Int32)), .val (.ref b6), .val (.ref b11), .val (.int (1 : Int32)), .val (.int (own_anyf (own_at [p2, p3, p4, p5]) 4 0 0)), .val (.int (0 : Int32)), .unset] [])) _
    refine XS.aload X18.here hx rfl (hb hby at_177) rfl rfl ?_
    show Steps p.tables e below (T18.setTop (mkF m 179 #[.val (.int p1), .val (.int p2), .val (.int p3), .val (.int p4), .val (.int p5), .val (.int (4 : Int32)), .val (.ref b6), .val (.ref b11), .val (.int (1 : Int32)), .val (.int (own_anyf (own_at [p2, p3, p4, p5]) 4 0 0)), .val (.int (0 : Int32)), .unset] [(.ref b6)])) _
    refine XS.iconst X18.here hx rfl (hb hby at_179) ?_
    show Steps p.tables e below (T18.setTop (mkF m 180 #[.val (.int p1), .val (.int p2), .val (.int p3), .val (.int p4), .val (.int p5), .val (.int (4 : Int32)), .val (.ref b6), .val (.ref b11), .val (.int (1 : Int32)), .val (.int (own_anyf (own_at [p2, p3, p4, p5]) 4 0 0)), .val (.int (0 : Int32)), .unset] [(.int (3 : Int32)), (.ref b6)])) _
    refine XS.iload X18.here hx rfl (hb hby at_180) rfl ?_
    show Steps p.tables e below (T18.setTop (mkF m 182 #[.val (.int p1), .val (.int p2), .val (.int p3), .val (.int p4), .val (.int p5), .val (.int (4 : Int32)), .val (.ref b6), .val (.ref b11), .val (.int (1 : Int32)), .val (.int (own_anyf (own_at [p2, p3, p4, p5]) 4 0 0)), .val (.int (0 : Int32)), .unset] [(.int (0 : Int32)), (.int (3 : Int32)), (.ref b6)])) _
    refine st19 _ ?_
    show Steps p.tables e below (T19.setTop (mkF m 183 #[.val (.int p1), .val (.int p2), .val (.int p3), .val (.int p4), .val (.int p5), .val (.int (4 : Int32)), .val (.ref b6), .val (.ref b11), .val (.int (1 : Int32)), .val (.int (own_anyf (own_at [p2, p3, p4, p5]) 4 0 0)), .val (.int (0 : Int32)), .unset] [])) _
    refine XS.aload X19.here hx rfl (hb hby at_183) rfl rfl ?_
    show Steps p.tables e below (T19.setTop (mkF m 185 #[.val (.int p1), .val (.int p2), .val (.int p3), .val (.int p4), .val (.int p5), .val (.int (4 : Int32)), .val (.ref b6), .val (.ref b11), .val (.int (1 : Int32)), .val (.int (own_anyf (own_at [p2, p3, p4, p5]) 4 0 0)), .val (.int (0 : Int32)), .unset] [(.ref b11)])) _
    refine st20.trans ?_
    show Steps p.tables e below (T20.setTop (mkF m 188 #[.val (.int p1), .val (.int p2), .val (.int p3), .val (.int p4), .val (.int p5), .val (.int (4 : Int32)), .val (.ref b6), .val (.ref b11), .val (.int (1 : Int32)), .val (.int (own_anyf (own_at [p2, p3, p4, p5]) 4 0 0)), .val (.int (0 : Int32)), .unset] [(.int (own_anyf (own_at [p2, p3, p4, p5]) 4 0 0))])) _
    refine XS.istore X20.here hx rfl (hb hby at_188) rfl (l' := #[.val (.int p1), .val (.int p2), .val (.int p3), .val (.int p4), .val (.int p5), .val (.int (4 : Int32)), .val (.ref b6), .val (.ref b11), .val (.int (1 : Int32)), .val (.int (own_anyf (own_at [p2, p3, p4, p5]) 4 0 0)), .val (.int (0 : Int32)), .val (.int (own_anyf (own_at [p2, p3, p4, p5]) 4 0 0))]) rfl ?_
    show Steps p.tables e below (T20.setTop (mkF m 190 #[.val (.int p1), .val (.int p2), .val (.int p3), .val (.int p4), .val (.int p5), .val (.int (4 : Int32)), .val (.ref b6), .val (.ref b11), .val (.int (1 : Int32)), .val (.int (own_anyf (own_at [p2, p3, p4, p5]) 4 0 0)), .val (.int (0 : Int32)), .val (.int (own_anyf (own_at [p2, p3, p4, p5]) 4 0 0))] [])) _
    refine XS.iload X20.here hx rfl (hb hby at_190) rfl ?_
    show Steps p.tables e below (T20.setTop (mkF m 192 #[.val (.int p1), .val (.int p2), .val (.int p3), .val (.int p4), .val (.int p5), .val (.int (4 : Int32)), .val (.ref b6), .val (.ref b11), .val (.int (1 : Int32)), .val (.int (own_anyf (own_at [p2, p3, p4, p5]) 4 0 0)), .val (.int (0 : Int32)), .val (.int (own_anyf (own_at [p2, p3, p4, p5]) 4 0 0))] [(.int (own_anyf (own_at [p2, p3, p4, p5]) 4 0 0))])) _
    refine XS.iload X20.here hx rfl (hb hby at_192) rfl ?_
    show Steps p.tables e below (T20.setTop (mkF m 194 #[.val (.int p1), .val (.int p2), .val (.int p3), .val (.int p4), .val (.int p5), .val (.int (4 : Int32)), .val (.ref b6), .val (.ref b11), .val (.int (1 : Int32)), .val (.int (own_anyf (own_at [p2, p3, p4, p5]) 4 0 0)), .val (.int (0 : Int32)), .val (.int (own_anyf (own_at [p2, p3, p4, p5]) 4 0 0))] [(.int (1 : Int32)), (.int (own_anyf (own_at [p2, p3, p4, p5]) 4 0 0))])) _
    refine XS.icmpNo X20.here hx rfl (hb hby at_194) rfl (teq (own_ok : (own_anyf (own_at [p2, p3, p4, p5]) 4 0 0) = (1 : Int32))).2 ?_
    show Steps p.tables e below (T20.setTop (mkF m 197 #[.val (.int p1), .val (.int p2), .val (.int p3), .val (.int p4), .val (.int p5), .val (.int (4 : Int32)), .val (.ref b6), .val (.ref b11), .val (.int (1 : Int32)), .val (.int (own_anyf (own_at [p2, p3, p4, p5]) 4 0 0)), .val (.int (0 : Int32)), .val (.int (own_anyf (own_at [p2, p3, p4, p5]) 4 0 0))] [])) _
    refine XS.iload X20.here hx rfl (hb hby at_197) rfl ?_
    show Steps p.tables e below (T20.setTop (mkF m 199 #[.val (.int p1), .val (.int p2), .val (.int p3), .val (.int p4), .val (.int p5), .val (.int (4 : Int32)), .val (.ref b6), .val (.ref b11), .val (.int (1 : Int32)), .val (.int (own_anyf (own_at [p2, p3, p4, p5]) 4 0 0)), .val (.int (0 : Int32)), .val (.int (own_anyf (own_at [p2, p3, p4, p5]) 4 0 0))] [(.int (own_anyf (own_at [p2, p3, p4, p5]) 4 0 0))])) _
    refine XS.iload X20.here hx rfl (hb hby at_199) rfl ?_
    show Steps p.tables e below (T20.setTop (mkF m 201 #[.val (.int p1), .val (.int p2), .val (.int p3), .val (.int p4), .val (.int p5), .val (.int (4 : Int32)), .val (.ref b6), .val (.ref b11), .val (.int (1 : Int32)), .val (.int (own_anyf (own_at [p2, p3, p4, p5]) 4 0 0)), .val (.int (0 : Int32)), .val (.int (own_anyf (own_at [p2, p3, p4, p5]) 4 0 0))] [(.int (1 : Int32)), (.int (own_anyf (own_at [p2, p3, p4, p5]) 4 0 0))])) _
    refine XS.icmpNo X20.here hx rfl (hb hby at_201) rfl (teq (own_ok : (own_anyf (own_at [p2, p3, p4, p5]) 4 0 0) = (1 : Int32))).2 ?_
    show Steps p.tables e below (T20.setTop (mkF m 204 #[.val (.int p1), .val (.int p2), .val (.int p3), .val (.int p4), .val (.int p5), .val (.int (4 : Int32)), .val (.ref b6), .val (.ref b11), .val (.int (1 : Int32)), .val (.int (own_anyf (own_at [p2, p3, p4, p5]) 4 0 0)), .val (.int (0 : Int32)), .val (.int (own_anyf (own_at [p2, p3, p4, p5]) 4 0 0))] [])) _
    refine XS.iconst X20.here hx rfl (hb hby at_204) ?_
    show Steps p.tables e below (T20.setTop (mkF m 205 #[.val (.int p1), .val (.int p2), .val (.int p3), .val (.int p4), .val (.int p5), .val (.int (4 : Int32)), .val (.ref b6), .val (.ref b11), .val (.int (1 : Int32)), .val (.int (own_anyf (own_at [p2, p3, p4, p5]) 4 0 0)), .val (.int (0 : Int32)), .val (.int (own_anyf (own_at [p2, p3, p4, p5]) 4 0 0))] [(.int (1 : Int32))])) _
    refine XS.goto X20.here hx rfl (pc0 := 205) (pc' := 209) rfl (hb hby at_205) (by decide) (by decide) ?_
    show Steps p.tables e below (T20.setTop (mkF m 209 #[.val (.int p1), .val (.int p2), .val (.int p3), .val (.int p4), .val (.int p5), .val (.int (4 : Int32)), .val (.ref b6), .val (.ref b11), .val (.int (1 : Int32)), .val (.int (own_anyf (own_at [p2, p3, p4, p5]) 4 0 0)), .val (.int (0 : Int32)), .val (.int (own_anyf (own_at [p2, p3, p4, p5]) 4 0 0))] [(.int (1 : Int32))])) _
    exact retN X20 hx (t := .boolean) Bd.returns (by simp) (hb hby at_209) hr
  · show Q0_41 Z p1 p2 p3 p4 p5 h0 n0 _ T20.heap _
    exact ⟨rfl, N20⟩
def Q0_42 (Z : State) (p1 : Int32) (p2 : Int32) (p3 : Int32) (p4 : Int32) (p5 : Int32) (h0 : Heap) (n0 : Nat) (v : Option Value) (h : Heap) (L : List Loc) : Prop := v = some (.int (1 : Int32)) ∧ Fr n0 L
set_option maxRecDepth 65536 in
set_option maxHeartbeats 40000000 in
theorem rm0_42 (l : Launch) (Z : State) (a0 : Array Value) (hw : ∀ d ∈ tables_1, d.before a0 Z = true) (ws : List Jvm.Cond) (p1 : Int32) (p2 : Int32) (p3 : Int32) (p4 : Int32) (p5 : Int32) (h0 : Heap) (n0 : Nat) (Z0 : n0 ≤ h0.size) (hp5 : ((p1 &&& (2147483647 : Int32)) % (5 : Int32)) = (4 : Int32)) (ch0 : ¬ (p2 = (1 : Int32))) (ch1 : ¬ (p3 = (1 : Int32))) (ch2 : p4 = (1 : Int32)) :
    MetFree l x (head1 (Jvm.Cond.code x code maxLocals ret :: ws) room_1) (fun a U => a = #[(.int p1), (.int p2), (.int p3), (.int p4), (.int p5)] ∧ Z.Warmed39 U.vm ∧ U.heap = h0) (fun _ _ _ _ _ => True) (fun _ U o U' => ∃ v L, o = .returned v ∧ Q0_42 Z p1 p2 p3 p4 p5 h0 n0 v U'.heap L ∧ FrameEnd U o U' L room_1.cells room_1.slots) := by
  refine MetFree.of_bodySF (plainFor_of_name pn_0) hisR ?_
  intro p e s m args below meth c s₁ Bd hml0 hP hK
  obtain ⟨rfl, hZ, hh⟩ := hP
  have own_ok : (own_anyf (own_at [p2, p3, p4, p5]) 4 0 0) = (1 : Int32) := by
    simp [own_anyf, own_or, own_at, ch0, ch1, ch2]
  have hx := Bd.exec
  have hby := Bd.bytes
  have hml : c.maxLocals = 12 := hml0
  have hown : s.vm.findClass "com/example/tendril/tendril/FormatsAnyBinaryPinLaw" = some m.cls := findClass_of_methodNamed Bd.named
  have hnm := (name_of_methodNamed Bd.named Bd.method).1
  have X0 : Stand p l e room_1 s m #[(.int p1), (.int p2), (.int p3), (.int p4), (.int p5)] below meth c s₁ [] 0 0 := Stand.of_body Bd
  have e0 : s₁.heap = h0 := by rw [← hh, Bd.state]; rfl
  have N0 := Fr.nil n0
  have pre0 : ∀ t, Steps p.tables e below (s₁.setTop (mkF m 0 #[.val (.int p1), .val (.int p2), .val (.int p3), .val (.int p4), .val (.int p5), .unset, .unset, .unset, .unset, .unset, .unset, .unset] [])) t → Steps p.tables e below (s₁.setTop (entryFrame m #[(.int p1), (.int p2), (.int p3), (.int p4), (.int p5)] maxLocals)) t := fun t k => castTop (ef_0 m p1 p2 p3 p4 p5) k
  obtain ⟨T6, h6, k6, X6, e6, E6, A6, Ea6, st6⟩ := newPE X0 hx hZ (hw _ (List.mem_of_getElem? (i := 1) rfl)) e0 (g := (mkF m 10 #[.val (.int p1), .val (.int p2), .val (.int p3), .val (.int p4), .val (.int p5), .val (.int (4 : Int32)), .unset, .unset, .unset, .unset, .unset, .unset] [(.int (4 : Int32))])) rfl (hb hby at_10) rfl (by decide) (cap := 4) (by decide) (by decide) (by decide) (by decide) (ad := "[I") rfl
  obtain ⟨b6, g6⟩ : ∃ z, z = h0.size := ⟨_, rfl⟩
  rw [← g6] at A6 Ea6 st6
  have V_b6 : Arv Z h6 b6 k6 .int (4 : Int32) [(.int (0 : Int32)), (.int (0 : Int32)), (.int (0 : Int32)), (.int (0 : Int32))] (.int (0 : Int32)) := (Arv.new A6 (by decide)).pad (pad_rep [] (.int (0 : Int32)) 4)
  have g_b6 : n0 ≤ b6 := Nat.le_trans Z0 (Nat.le_of_eq g6.symm)
  have sz_b6 : h0.size ≤ b6 := (Nat.le_trans (Keep.refl h0 []).1 (Nat.le_of_eq g6.symm))
  have K6 : Keep h0 h6 [] := (Keep.refl h0 []).ext E6
  obtain ⟨cl_b6_23, Ar_b6, q_b6, S_b6, N_b6, H_b6, G_b6⟩ := V_b6
  have hin23 : ¬ ((0 : Int32) < 0 ∨ cl_b6_23.slots.size ≤ ((0 : Int32)).toNatClampNeg) := inb_of S_b6 ⟨by decide, by decide⟩
  obtain ⟨T7, h7, X7, e7, W7, st7⟩ := stI X6 hx hZ e6 Ar_b6 (j := (0 : Int32)) hin23 (g := (mkF m 23 #[.val (.int p1), .val (.int p2), .val (.int p3), .val (.int p4), .val (.int p5), .val (.int (4 : Int32)), .val (.ref b6), .unset, .unset, .unset, .unset, .unset] [(.int p2), (.int (0 : Int32)), (.ref b6)])) rfl rfl (hb hby at_23)
  have V_b6_7 := Arv.set Ar_b6 q_b6 S_b6 N_b6 H_b6 G_b6 rfl W7 0 rfl (Nat.le_of_ble_eq_true rfl)
  have K7 : Keep h0 h7 [] := K6.wr W7 (Or.inr sz_b6)
  have N7 := Fr.snoc X7 N0 g_b6
  obtain ⟨cl_b6_34, Ar_b6, q_b6, S_b6, N_b6, H_b6, G_b6⟩ := V_b6_7
  have hin34 : ¬ ((1 : Int32) < 0 ∨ cl_b6_34.slots.size ≤ ((1 : Int32)).toNatClampNeg) := inb_of S_b6 ⟨by decide, by decide⟩
  obtain ⟨T8, h8, X8, e8, W8, st8⟩ := stI X7 hx hZ e7 Ar_b6 (j := (1 : Int32)) hin34 (g := (mkF m 34 #[.val (.int p1), .val (.int p2), .val (.int p3), .val (.int p4), .val (.int p5), .val (.int (4 : Int32)), .val (.ref b6), .unset, .unset, .unset, .unset, .unset] [(.int p3), (.int (1 : Int32)), (.ref b6)])) rfl rfl (hb hby at_34)
  have V_b6_8 := Arv.set Ar_b6 q_b6 S_b6 N_b6 H_b6 G_b6 rfl W8 1 rfl (Nat.le_of_ble_eq_true rfl)
  have K8 : Keep h0 h8 [] := K7.wr W8 (Or.inr sz_b6)
  have N8 := Fr.snoc X8 N7 g_b6
  obtain ⟨cl_b6_45, Ar_b6, q_b6, S_b6, N_b6, H_b6, G_b6⟩ := V_b6_8
  have hin45 : ¬ ((2 : Int32) < 0 ∨ cl_b6_45.slots.size ≤ ((2 : Int32)).toNatClampNeg) := inb_of S_b6 ⟨by decide, by decide⟩
  obtain ⟨T9, h9, X9, e9, W9, st9⟩ := stI X8 hx hZ e8 Ar_b6 (j := (2 : Int32)) hin45 (g := (mkF m 45 #[.val (.int p1), .val (.int p2), .val (.int p3), .val (.int p4), .val (.int p5), .val (.int (4 : Int32)), .val (.ref b6), .unset, .unset, .unset, .unset, .unset] [(.int p4), (.int (2 : Int32)), (.ref b6)])) rfl rfl (hb hby at_45)
  have V_b6_9 := Arv.set Ar_b6 q_b6 S_b6 N_b6 H_b6 G_b6 rfl W9 2 rfl (Nat.le_of_ble_eq_true rfl)
  have K9 : Keep h0 h9 [] := K8.wr W9 (Or.inr sz_b6)
  have N9 := Fr.snoc X9 N8 g_b6
  obtain ⟨cl_b6_57, Ar_b6, q_b6, S_b6, N_b6, H_b6, G_b6⟩ := V_b6_9
  have hin57 : ¬ ((3 : Int32) < 0 ∨ cl_b6_57.slots.size ≤ ((3 : Int32)).toNatClampNeg) := inb_of S_b6 ⟨by decide, by decide⟩
  obtain ⟨T10, h10, X10, e10, W10, st10⟩ := stI X9 hx hZ e9 Ar_b6 (j := (3 : Int32)) hin57 (g := (mkF m 57 #[.val (.int p1), .val (.int p2), .val (.int p3), .val (.int p4), .val (.int p5), .val (.int (4 : Int32)), .val (.ref b6), .unset, .unset, .unset, .unset, .unset] [(.int p5), (.int (3 : Int32)), (.ref b6)])) rfl rfl (hb hby at_57)
  have V_b6_10 := Arv.set Ar_b6 q_b6 S_b6 N_b6 H_b6 G_b6 rfl W10 3 rfl (Nat.le_of_ble_eq_true rfl)
  have K10 : Keep h0 h10 [] := K9.wr W10 (Or.inr sz_b6)
  have N10 := Fr.snoc X10 N9 g_b6
  obtain ⟨T11, h11, X11, e11, E11, A11, D11, -, st11⟩ := newO X10 hx hZ hown (hw _ (List.mem_of_getElem? (i := 2) rfl)) (hw _ (List.mem_of_getElem? (i := 3) rfl)) (hw _ (List.mem_of_getElem? (i := 4) rfl)) e10 (g := (mkF m 58 #[.val (.int p1), .val (.int p2), .val (.int p3), .val (.int p4), .val (.int p5), .val (.int (4 : Int32)), .val (.ref b6), .unset, .unset, .unset, .unset, .unset] [])) rfl (hb hby at_58) (by decide) (by decide)
  obtain ⟨b11, g11⟩ : ∃ z, z = h10.size := ⟨_, rfl⟩
  rw [← g11] at A11 D11 st11
  have F_codes_b11 : Fld Z h11 b11 "com/example/tendril/tendril/WireColumns$Formats" "codes" "[I" .null := D11 (Or.inr (hw _ (List.mem_of_getElem? (i := 21) rfl))) (ty := (.array .int)) (by decide)
  have E_b11 := A11
  have g_b11 : n0 ≤ b11 := Nat.le_trans (Nat.le_trans (Nat.le_trans (Nat.le_trans (Nat.le_trans (Nat.le_trans Z0 E6.1) (Keep.of_wr W7).1) (Keep.of_wr W8).1) (Keep.of_wr W9).1) (Keep.of_wr W10).1) (Nat.le_of_eq g11.symm)
  have sz_b11 : h0.size ≤ b11 := (Nat.le_trans K10.1 (Nat.le_of_eq g11.symm))
  have K11 : Keep h0 h11 [] := K10.ext E11
  obtain ⟨_, _, ⟨T12, L12, k12, n12⟩, -, X12, ⟨Lc12, hQ12, l12, y12, z12⟩, st12⟩ := X11.specialBack hx (y := (⟨"com/example/tendril/tendril/WireColumns$Formats", "<init>", "([I)V"⟩ : MethodName)) rfl hown (mvT hZ (hw _ (List.mem_of_getElem? (i := 5) rfl))) (mvT hZ (hw _ (List.mem_of_getElem? (i := 6) rfl))) (mvT hZ (hw _ (List.mem_of_getElem? (i := 7) rfl))) (by decide) (backOf (W := 1) (rm1 l Z a0 hw [] b11 b6 .null _ _ _ _ h11 n0 (Nat.le_trans Z0 K11.1) (((((Ea6.wr W7).wr W8).wr W9).wr W10).ext E11) (V_b6_10.ext E11) (by decide) E_b11 F_codes_b11 g_b11) hZ (hw _ (List.mem_of_getElem? (i := 7) rfl)) (hw _ (List.mem_of_getElem? (i := 4) rfl)) (by decide) (by decide)) (g := (mkF m 64 #[.val (.int p1), .val (.int p2), .val (.int p3), .val (.int p4), .val (.int p5), .val (.int (4 : Int32)), .val (.ref b6), .unset, .unset, .unset, .unset, .unset] [(.ref b6), (.ref b11), (.ref b11)])) rfl (by rw [hml]; rfl) (Steps.refl _) (a := b11) (argsL := [(.ref b6)]) (rest := [(.ref b11)]) (lenOf pd_0_0 rfl) rfl (by show 2 * 0 + _ ≤ _; exact Nat.le_of_eq rfl) (hb hby at_64) (fun _ _ => ⟨rfl, e11, (Nat.le_of_ble_eq_true rfl), (Nat.le_of_ble_eq_true rfl)⟩)
  dsimp only [Pt.U, Pt.locs, Pt.cells, Pt.slots] at X12 l12 y12 z12 st12 hQ12
  subst l12 y12 z12
  obtain ⟨rfl, N12q, K12c, E12c, bC, szC, FC, VC⟩ := hQ12
  have ne_ao : b6 ≠ b11 := Nat.ne_of_lt (Nat.lt_of_lt_of_le V_b6_10.lt (Nat.le_of_eq g11.symm))
  have ne_Ca : bC ≠ b6 := Ne.symm (Nat.ne_of_lt (Nat.lt_of_lt_of_le (V_b6_10.ext E11).lt szC))
  have K12 : Keep h0 T12.heap [] := K11.trans K12c (allS (Or.inr sz_b11) all0)
  have N12 := Fr.app N10 N12q
  obtain ⟨_, _, ⟨T13, L13, k13, n13⟩, -, X13, ⟨Lc13, hQ13, l13, y13, z13⟩, st13⟩ := Jvm.LawKit.callS X12 hx (y := (⟨"com/example/tendril/tendril/FormatsAnyBinaryPinLaw", "hit", "(III)Z"⟩ : MethodName)) hown (mvT hZ (hw _ (List.mem_of_getElem? (i := 22) rfl))) (mvT hZ (hw _ (List.mem_of_getElem? (i := 23) rfl))) (mvT hZ (hw _ (List.mem_of_getElem? (i := 24) rfl))) (mvT hZ (hw _ (List.mem_of_getElem? (i := 25) rfl))) (by decide) (backOf (W := 0) (rm3ft l Z a0 hw [] (4 : Int32) (0 : Int32) p2 T12.heap n0 (Nat.le_trans Z0 K12.1) (by decide) ch0) hZ (hw _ (List.mem_of_getElem? (i := 25) rfl)) (hw _ (List.mem_of_getElem? (i := 24) rfl)) (by decide) (by decide)) (g := (mkF m 73 #[.val (.int p1), .val (.int p2), .val (.int p3), .val (.int p4), .val (.int p5), .val (.int (4 : Int32)), .val (.ref b6), .val (.ref b11), .unset, .unset, .unset, .unset] [(.int p2), (.int (0 : Int32)), (.int (4 : Int32))])) rfl (by rw [hml]; rfl) (argsL := [(.int (4 : Int32)), (.int (0 : Int32)), (.int p2)]) (rest := []) (lenOf pd_0_3 rfl) rfl (by show 2 * 0 + _ ≤ _; exact Nat.le_of_eq rfl) (hb hby at_73) (fun _ _ => ⟨rfl, rfl, (Nat.le_of_ble_eq_true rfl), (Nat.le_of_ble_eq_true rfl)⟩)
  dsimp only [Pt.U, Pt.locs, Pt.cells, Pt.slots] at X13 l13 y13 z13 st13 hQ13
  subst l13 y13 z13
  obtain ⟨rfl, N13q, e13⟩ := hQ13
  have K13 : Keep h0 T13.heap [] := K12.trans (own_keq e13) all0
  have N13 := Fr.app N12 N13q
  obtain ⟨_, _, ⟨T14, L14, k14, n14⟩, -, X14, ⟨Lc14, hQ14, l14, y14, z14⟩, st14⟩ := Jvm.LawKit.callS X13 hx (y := (⟨"com/example/tendril/tendril/FormatsAnyBinaryPinLaw", "hit", "(III)Z"⟩ : MethodName)) hown (mvT hZ (hw _ (List.mem_of_getElem? (i := 22) rfl))) (mvT hZ (hw _ (List.mem_of_getElem? (i := 23) rfl))) (mvT hZ (hw _ (List.mem_of_getElem? (i := 24) rfl))) (mvT hZ (hw _ (List.mem_of_getElem? (i := 25) rfl))) (by decide) (backOf (W := 0) (rm3ft l Z a0 hw [] (4 : Int32) (1 : Int32) p3 T13.heap n0 (Nat.le_trans Z0 K13.1) (by decide) ch1) hZ (hw _ (List.mem_of_getElem? (i := 25) rfl)) (hw _ (List.mem_of_getElem? (i := 24) rfl)) (by decide) (by decide)) (g := (mkF m 83 #[.val (.int p1), .val (.int p2), .val (.int p3), .val (.int p4), .val (.int p5), .val (.int (4 : Int32)), .val (.ref b6), .val (.ref b11), .unset, .unset, .unset, .unset] [(.int p3), (.int (1 : Int32)), (.int (4 : Int32))])) rfl (by rw [hml]; rfl) (argsL := [(.int (4 : Int32)), (.int (1 : Int32)), (.int p3)]) (rest := []) (lenOf pd_0_3 rfl) rfl (by show 2 * 0 + _ ≤ _; exact Nat.le_of_eq rfl) (hb hby at_83) (fun _ _ => ⟨rfl, rfl, (Nat.le_of_ble_eq_true rfl), (Nat.le_of_ble_eq_true rfl)⟩)
  dsimp only [Pt.U, Pt.locs, Pt.cells, Pt.slots] at X14 l14 y14 z14 st14 hQ14
  subst l14 y14 z14
  obtain ⟨rfl, N14q, e14⟩ := hQ14
  have K14 : Keep h0 T14.heap [] := K13.trans (own_keq e14) all0
  have N14 := Fr.app N13 N14q
  obtain ⟨_, _, ⟨T15, L15, k15, n15⟩, -, X15, ⟨Lc15, hQ15, l15, y15, z15⟩, st15⟩ := Jvm.LawKit.callS X14 hx (y := (⟨"com/example/tendril/tendril/FormatsAnyBinaryPinLaw", "hit", "(III)Z"⟩ : MethodName)) hown (mvT hZ (hw _ (List.mem_of_getElem? (i := 22) rfl))) (mvT hZ (hw _ (List.mem_of_getElem? (i := 23) rfl))) (mvT hZ (hw _ (List.mem_of_getElem? (i := 24) rfl))) (mvT hZ (hw _ (List.mem_of_getElem? (i := 25) rfl))) (by decide) (backOf (W := 0) (rm3ff l Z a0 hw [] (4 : Int32) (2 : Int32) p4 T14.heap n0 (Nat.le_trans Z0 K14.1) (by decide) ch2) hZ (hw _ (List.mem_of_getElem? (i := 25) rfl)) (hw _ (List.mem_of_getElem? (i := 24) rfl)) (by decide) (by decide)) (g := (mkF m 93 #[.val (.int p1), .val (.int p2), .val (.int p3), .val (.int p4), .val (.int p5), .val (.int (4 : Int32)), .val (.ref b6), .val (.ref b11), .unset, .unset, .unset, .unset] [(.int p4), (.int (2 : Int32)), (.int (4 : Int32))])) rfl (by rw [hml]; rfl) (argsL := [(.int (4 : Int32)), (.int (2 : Int32)), (.int p4)]) (rest := []) (lenOf pd_0_3 rfl) rfl (by show 2 * 0 + _ ≤ _; exact Nat.le_of_eq rfl) (hb hby at_93) (fun _ _ => ⟨rfl, rfl, (Nat.le_of_ble_eq_true rfl), (Nat.le_of_ble_eq_true rfl)⟩)
  dsimp only [Pt.U, Pt.locs, Pt.cells, Pt.slots] at X15 l15 y15 z15 st15 hQ15
  subst l15 y15 z15
  obtain ⟨rfl, N15q, e15⟩ := hQ15
  have K15 : Keep h0 T15.heap [] := K14.trans (own_keq e15) all0
  have N15 := Fr.app N14 N15q
  obtain ⟨clC1, ArC1, -, SC1, NC1, HC1, -⟩ := (((VC.keep (own_keq e13) nin0).keep (own_keq e14) nin0).keep (own_keq e15) nin0)
  have HV1 : ∀ j, j < 4 → clC1.slots[j]? = some (.int (own_at [p2, p3, p4, p5] j)) := by
    intro j hj
    match j, hj with
    | 0, _ => exact HC1 0 (by rw [SC1]; decide)
    | 1, _ => exact HC1 1 (by rw [SC1]; decide)
    | 2, _ => exact HC1 2 (by rw [SC1]; decide)
    | 3, _ => exact HC1 3 (by rw [SC1]; decide)
  obtain ⟨cq16, kq16, q16a, q16b, q16c⟩ := isOf hZ rfl ((((E_b11.keep K12c).keep (own_keq e13)).keep (own_keq e14)).keep (own_keq e15))
  obtain ⟨_, _, ⟨T16, L16, k16, n16⟩, -, X16, ⟨Lc16, hQ16, l16, y16, z16⟩, st16⟩ := X15.virtualBack hx (y := (⟨"com/example/tendril/tendril/WireColumns$Formats", "anyBinary", "()Z"⟩ : MethodName)) (z := (⟨"com/example/tendril/tendril/WireColumns$Formats", "anyBinary", "()Z"⟩ : MethodName)) hown (mvT hZ (hw _ (List.mem_of_getElem? (i := 26) rfl))) (mvT hZ (hw _ (List.mem_of_getElem? (i := 27) rfl))) (notFace_of_selects (args := #[]) (mvT hZ (hw _ (List.mem_of_getElem? (i := 29) rfl)))) (mvT hZ (hw _ (List.mem_of_getElem? (i := 29) rfl))) (mvT hZ (hw _ (List.mem_of_getElem? (i := 28) rfl))) (by decide) (backOf (W := 0) (rm4 l Z a0 hw [] b11 bC clC1 4 (own_at [p2, p3, p4, p5]) T15.heap n0 (Nat.le_trans Z0 K15.1) (((FC.keep (own_keq e13) nin0).keep (own_keq e14) nin0).keep (own_keq e15) nin0) ArC1 (SC1.trans (by decide)) HV1 (by decide)) hZ (hw _ (List.mem_of_getElem? (i := 30) rfl)) (hw _ (List.mem_of_getElem? (i := 4) rfl)) (by decide) (by decide)) q16a q16c (g := (mkF m 119 #[.val (.int p1), .val (.int p2), .val (.int p3), .val (.int p4), .val (.int p5), .val (.int (4 : Int32)), .val (.ref b6), .val (.ref b11), .val (.int (1 : Int32)), .unset, .unset, .unset] [(.ref b11)])) rfl (by rw [hml]; rfl) (Steps.refl _) (argsL := []) (rest := []) (lenOf pd_0_4 rfl) rfl (by show 2 * 0 + _ ≤ _; exact Nat.le_of_eq rfl) (hb hby at_119) (fun _ _ => ⟨rfl, rfl, (Nat.le_of_ble_eq_true rfl), (Nat.le_of_ble_eq_true rfl)⟩)
  dsimp only [Pt.U, Pt.locs, Pt.cells, Pt.slots] at X16 l16 y16 z16 st16 hQ16
  subst l16 y16 z16
  obtain ⟨rfl, N16q, e16⟩ := hQ16
  have K16 : Keep h0 T16.heap [] := K15.trans (own_keq e16) all0
  have N16 := Fr.app N15 N16q
  obtain ⟨cl_b6_146, Ar_b6, q_b6, S_b6, N_b6, H_b6, G_b6⟩ := ((((((V_b6_10.ext E11).keep K12c (ninS ne_ao nin0)).keep (own_keq e13) nin0).keep (own_keq e14) nin0).keep (own_keq e15) nin0).keep (own_keq e16) nin0)
  have hin146 : ¬ ((0 : Int32) < 0 ∨ cl_b6_146.slots.size ≤ ((0 : Int32)).toNatClampNeg) := inb_of S_b6 ⟨by decide, by decide⟩
  obtain ⟨T17, h17, X17, e17, W17, st17⟩ := stI X16 hx hZ rfl Ar_b6 (j := (0 : Int32)) hin146 (g := (mkF m 146 #[.val (.int p1), .val (.int p2), .val (.int p3), .val (.int p4), .val (.int p5), .val (.int (4 : Int32)), .val (.ref b6), .val (.ref b11), .val (.int (1 : Int32)), .val (.int (own_anyf (own_at [p2, p3, p4, p5]) 4 0 0)), .val (.int (0 : Int32)), .unset] [(.int (0 : Int32)), (.int (0 : Int32)), (.ref b6)])) rfl rfl (hb hby at_146)
  have V_b6_17 := Arv.set Ar_b6 q_b6 S_b6 N_b6 H_b6 G_b6 rfl W17 0 rfl (Nat.le_of_ble_eq_true rfl)
  have K17 : Keep h0 h17 [] := K16.wr W17 (Or.inr sz_b6)
  have N17 := Fr.snoc X17 N16 g_b6
  obtain ⟨cl_b6_158, Ar_b6, q_b6, S_b6, N_b6, H_b6, G_b6⟩ := V_b6_17
  have hin158 : ¬ ((1 : Int32) < 0 ∨ cl_b6_158.slots.size ≤ ((1 : Int32)).toNatClampNeg) := inb_of S_b6 ⟨by decide, by decide⟩
  obtain ⟨T18, h18, X18, e18, W18, st18⟩ := stI X17 hx hZ e17 Ar_b6 (j := (1 : Int32)) hin158 (g := (mkF m 158 #[.val (.int p1), .val (.int p2), .val (.int p3), .val (.int p4), .val (.int p5), .val (.int (4 : Int32)), .val (.ref b6), .val (.ref b11), .val (.int (1 : Int32)), .val (.int (own_anyf (own_at [p2, p3, p4, p5]) 4 0 0)), .val (.int (0 : Int32)), .unset] [(.int (0 : Int32)), (.int (1 : Int32)), (.ref b6)])) rfl rfl (hb hby at_158)
  have V_b6_18 := Arv.set Ar_b6 q_b6 S_b6 N_b6 H_b6 G_b6 rfl W18 1 rfl (Nat.le_of_ble_eq_true rfl)
  have K18 : Keep h0 h18 [] := K17.wr W18 (Or.inr sz_b6)
  have N18 := Fr.snoc X18 N17 g_b6
  obtain ⟨cl_b6_170, Ar_b6, q_b6, S_b6, N_b6, H_b6, G_b6⟩ := V_b6_18
  have hin170 : ¬ ((2 : Int32) < 0 ∨ cl_b6_170.slots.size ≤ ((2 : Int32)).toNatClampNeg) := inb_of S_b6 ⟨by decide, by decide⟩
  obtain ⟨T19, h19, X19, e19, W19, st19⟩ := stI X18 hx hZ e18 Ar_b6 (j := (2 : Int32)) hin170 (g := (mkF m 170 #[.val (.int p1), .val (.int p2), .val (.int p3), .val (.int p4), .val (.int p5), .val (.int (4 : Int32)), .val (.ref b6), .val (.ref b11), .val (.int (1 : Int32)), .val (.int (own_anyf (own_at [p2, p3, p4, p5]) 4 0 0)), .val (.int (0 : Int32)), .unset] [(.int (0 : Int32)), (.int (2 : Int32)), (.ref b6)])) rfl rfl (hb hby at_170)
  have V_b6_19 := Arv.set Ar_b6 q_b6 S_b6 N_b6 H_b6 G_b6 rfl W19 2 rfl (Nat.le_of_ble_eq_true rfl)
  have K19 : Keep h0 h19 [] := K18.wr W19 (Or.inr sz_b6)
  have N19 := Fr.snoc X19 N18 g_b6
  obtain ⟨cl_b6_182, Ar_b6, q_b6, S_b6, N_b6, H_b6, G_b6⟩ := V_b6_19
  have hin182 : ¬ ((3 : Int32) < 0 ∨ cl_b6_182.slots.size ≤ ((3 : Int32)).toNatClampNeg) := inb_of S_b6 ⟨by decide, by decide⟩
  obtain ⟨T20, h20, X20, e20, W20, st20⟩ := stI X19 hx hZ e19 Ar_b6 (j := (3 : Int32)) hin182 (g := (mkF m 182 #[.val (.int p1), .val (.int p2), .val (.int p3), .val (.int p4), .val (.int p5), .val (.int (4 : Int32)), .val (.ref b6), .val (.ref b11), .val (.int (1 : Int32)), .val (.int (own_anyf (own_at [p2, p3, p4, p5]) 4 0 0)), .val (.int (0 : Int32)), .unset] [(.int (0 : Int32)), (.int (3 : Int32)), (.ref b6)])) rfl rfl (hb hby at_182)
  have V_b6_20 := Arv.set Ar_b6 q_b6 S_b6 N_b6 H_b6 G_b6 rfl W20 3 rfl (Nat.le_of_ble_eq_true rfl)
  have K20 : Keep h0 h20 [] := K19.wr W20 (Or.inr sz_b6)
  have N20 := Fr.snoc X20 N19 g_b6
  obtain ⟨clC2, ArC2, -, SC2, NC2, HC2, -⟩ := ((((((((VC.keep (own_keq e13) nin0).keep (own_keq e14) nin0).keep (own_keq e15) nin0).keep (own_keq e16) nin0).other W17 ne_Ca).other W18 ne_Ca).other W19 ne_Ca).other W20 ne_Ca)
  have HV2 : ∀ j, j < 4 → clC2.slots[j]? = some (.int (own_at [p2, p3, p4, p5] j)) := by
    intro j hj
    match j, hj with
    | 0, _ => exact HC2 0 (by rw [SC2]; decide)
    | 1, _ => exact HC2 1 (by rw [SC2]; decide)
    | 2, _ => exact HC2 2 (by rw [SC2]; decide)
    | 3, _ => exact HC2 3 (by rw [SC2]; decide)
  obtain ⟨cq21, kq21, q21a, q21b, q21c⟩ := isOf hZ e20 (((((((((E_b11.keep K12c).keep (own_keq e13)).keep (own_keq e14)).keep (own_keq e15)).keep (own_keq e16)).wr W17).wr W18).wr W19).wr W20)
  obtain ⟨_, _, ⟨T21, L21, k21, n21⟩, -, X21, ⟨Lc21, hQ21, l21, y21, z21⟩, st21⟩ := X20.virtualBack hx (y := (⟨"com/example/tendril/tendril/WireColumns$Formats", "anyBinary", "()Z"⟩ : MethodName)) (z := (⟨"com/example/tendril/tendril/WireColumns$Formats", "anyBinary", "()Z"⟩ : MethodName)) hown (mvT hZ (hw _ (List.mem_of_getElem? (i := 26) rfl))) (mvT hZ (hw _ (List.mem_of_getElem? (i := 27) rfl))) (notFace_of_selects (args := #[]) (mvT hZ (hw _ (List.mem_of_getElem? (i := 29) rfl)))) (mvT hZ (hw _ (List.mem_of_getElem? (i := 29) rfl))) (mvT hZ (hw _ (List.mem_of_getElem? (i := 28) rfl))) (by decide) (backOf (W := 0) (rm4 l Z a0 hw [] b11 bC clC2 4 (own_at [p2, p3, p4, p5]) h20 n0 (Nat.le_trans Z0 K20.1) ((((((((FC.keep (own_keq e13) nin0).keep (own_keq e14) nin0).keep (own_keq e15) nin0).keep (own_keq e16) nin0).other W17 (Or.inl (Ne.symm ne_ao))).other W18 (Or.inl (Ne.symm ne_ao))).other W19 (Or.inl (Ne.symm ne_ao))).other W20 (Or.inl (Ne.symm ne_ao))) ArC2 (SC2.trans (by decide)) HV2 (by decide)) hZ (hw _ (List.mem_of_getElem? (i := 30) rfl)) (hw _ (List.mem_of_getElem? (i := 4) rfl)) (by decide) (by decide)) q21a q21c (g := (mkF m 185 #[.val (.int p1), .val (.int p2), .val (.int p3), .val (.int p4), .val (.int p5), .val (.int (4 : Int32)), .val (.ref b6), .val (.ref b11), .val (.int (1 : Int32)), .val (.int (own_anyf (own_at [p2, p3, p4, p5]) 4 0 0)), .val (.int (0 : Int32)), .unset] [(.ref b11)])) rfl (by rw [hml]; rfl) (Steps.refl _) (argsL := []) (rest := []) (lenOf pd_0_4 rfl) rfl (by show 2 * 0 + _ ≤ _; exact Nat.le_of_eq rfl) (hb hby at_185) (fun _ _ => ⟨rfl, e20, (Nat.le_of_ble_eq_true rfl), (Nat.le_of_ble_eq_true rfl)⟩)
  dsimp only [Pt.U, Pt.locs, Pt.cells, Pt.slots] at X21 l21 y21 z21 st21 hQ21
  subst l21 y21 z21
  obtain ⟨rfl, N21q, e21⟩ := hQ21
  have K21 : Keep h0 T21.heap [] := K20.trans (own_keq e21) all0
  have N21 := Fr.app N20 N21q
  obtain ⟨fs, hr, hrun, hended, hW, hsame⟩ := X21.leave (v := some (.int (1 : Int32))) (fun h => by rw [Bd.returns] at h; cases h)
  refine ⟨_, _, pre0 _ ?_, hrun, hended, _, _, rfl, ?_, ⟨_, rfl⟩, hW, hsame.mono (by decide) (by decide)⟩
  · show Steps p.tables e below (s₁.setTop (mkF m 0 #[.val (.int p1), .val (.int p2), .val (.int p3), .val (.int p4), .val (.int p5), .unset, .unset, .unset, .unset, .unset, .unset, .unset] [])) _
    refine XS.iloadN X0.here hx rfl (hb hby at_0) rfl ?_
    show Steps p.tables e below (s₁.setTop (mkF m 1 #[.val (.int p1), .val (.int p2), .val (.int p3), .val (.int p4), .val (.int p5), .unset, .unset, .unset, .unset, .unset, .unset, .unset] [(.int p1)])) _
    refine X0.ldcInt hx hown (mvT hZ (hw _ (List.mem_of_getElem? (i := 0) rfl))) (g := (mkF m 1 #[.val (.int p1), .val (.int p2), .val (.int p3), .val (.int p4), .val (.int p5), .unset, .unset, .unset, .unset, .unset, .unset, .unset] [(.int p1)])) rfl (hb hby at_1) _ ?_
    show Steps p.tables e below (s₁.setTop (mkF m 3 #[.val (.int p1), .val (.int p2), .val (.int p3), .val (.int p4), .val (.int p5), .unset, .unset, .unset, .unset, .unset, .unset, .unset] [(.int (2147483647 : Int32)), (.int p1)])) _
    refine XS.iand X0.here hx rfl (hb hby at_3) rfl ?_
    show Steps p.tables e below (s₁.setTop (mkF m 4 #[.val (.int p1), .val (.int p2), .val (.int p3), .val (.int p4), .val (.int p5), .unset, .unset, .unset, .unset, .unset, .unset, .unset] [(.int (p1 &&& (2147483647 : Int32)))])) _
    refine XS.iconst X0.here hx rfl (hb hby at_4) ?_
    show Steps p.tables e below (s₁.setTop (mkF m 5 #[.val (.int p1), .val (.int p2), .val (.int p3), .val (.int p4), .val (.int p5), .unset, .unset, .unset, .unset, .unset, .unset, .unset] [(.int (5 : Int32)), (.int (p1 &&& (2147483647 : Int32)))])) _
    refine iremM X0 hx rfl (hb hby at_5) rfl (by decide) ?_
    rw [hp5]
    show Steps p.tables e below (s₁.setTop (mkF m 6 #[.val (.int p1), .val (.int p2), .val (.int p3), .val (.int p4), .val (.int p5), .unset, .unset, .unset, .unset, .unset, .unset, .unset] [(.int (4 : Int32))])) _
    refine XS.istore X0.here hx rfl (hb hby at_6) rfl (l' := #[.val (.int p1), .val (.int p2), .val (.int p3), .val (.int p4), .val (.int p5), .val (.int (4 : Int32)), .unset, .unset, .unset, .unset, .unset, .unset]) rfl ?_
    show Steps p.tables e below (s₁.setTop (mkF m 8 #[.val (.int p1), .val (.int p2), .val (.int p3), .val (.int p4), .val (.int p5), .val (.int (4 : Int32)), .unset, .unset, .unset, .unset, .unset, .unset] [])) _
    refine XS.iload X0.here hx rfl (hb hby at_8) rfl ?_
    show Steps p.tables e below (s₁.setTop (mkF m 10 #[.val (.int p1), .val (.int p2), .val (.int p3), .val (.int p4), .val (.int p5), .val (.int (4 : Int32)), .unset, .unset, .unset, .unset, .unset, .unset] [(.int (4 : Int32))])) _
    refine st6 _ ?_
    show Steps p.tables e below (T6.setTop (mkF m 12 #[.val (.int p1), .val (.int p2), .val (.int p3), .val (.int p4), .val (.int p5), .val (.int (4 : Int32)), .unset, .unset, .unset, .unset, .unset, .unset] [(.ref b6)])) _
    refine XS.astore X6.here hx rfl (hb hby at_12) rfl rfl (l' := #[.val (.int p1), .val (.int p2), .val (.int p3), .val (.int p4), .val (.int p5), .val (.int (4 : Int32)), .val (.ref b6), .unset, .unset, .unset, .unset, .unset]) rfl ?_
    show Steps p.tables e below (T6.setTop (mkF m 14 #[.val (.int p1), .val (.int p2), .val (.int p3), .val (.int p4), .val (.int p5), .val (.int (4 : Int32)), .val (.ref b6), .unset, .unset, .unset, .unset, .unset] [])) _
    refine XS.iload X6.here hx rfl (hb hby at_14) rfl ?_
    show Steps p.tables e below (T6.setTop (mkF m 16 #[.val (.int p1), .val (.int p2), .val (.int p3), .val (.int p4), .val (.int p5), .val (.int (4 : Int32)), .val (.ref b6), .unset, .unset, .unset, .unset, .unset] [(.int (4 : Int32))])) _
    refine XS.ifNo X6.here hx rfl (hb hby at_16) rfl ((if0 _ _).trans (tlt (by decide : (0 : Int32) < (4 : Int32))).2.2.2) ?_
    show Steps p.tables e below (T6.setTop (mkF m 19 #[.val (.int p1), .val (.int p2), .val (.int p3), .val (.int p4), .val (.int p5), .val (.int (4 : Int32)), .val (.ref b6), .unset, .unset, .unset, .unset, .unset] [])) _
    refine XS.aload X6.here hx rfl (hb hby at_19) rfl rfl ?_
    show Steps p.tables e below (T6.setTop (mkF m 21 #[.val (.int p1), .val (.int p2), .val (.int p3), .val (.int p4), .val (.int p5), .val (.int (4 : Int32)), .val (.ref b6), .unset, .unset, .unset, .unset, .unset] [(.ref b6)])) _
    refine XS.iconst X6.here hx rfl (hb hby at_21) ?_
    show Steps p.tables e below (T6.setTop (mkF m 22 #[.val (.int p1), .val (.int p2), .val (.int p3), .val (.int p4), .val (.int p5), .val (.int (4 : Int32)), .val (.ref b6), .unset, .unset, .unset, .unset, .unset] [(.int (0 : Int32)), (.ref b6)])) _
    refine XS.iloadN X6.here hx rfl (hb hby at_22) rfl ?_
    show Steps p.tables e below (T6.setTop (mkF m 23 #[.val (.int p1), .val (.int p2), .val (.int p3), .val (.int p4), .val (.int p5), .val (.int (4 : Int32)), .val (.ref b6), .unset, .unset, .unset, .unset, .unset] [(.int p2), (.int (0 : Int32)), (.ref b6)])) _
    refine st7 _ ?_
    show Steps p.tables e below (T7.setTop (mkF m 24 #[.val (.int p1), .val (.int p2), .val (.int p3), .val (.int p4), .val (.int p5), .val (.int (4 : Int32)), .val (.ref b6), .unset, .unset, .unset, .unset, .unset] [])) _
    refine XS.iload X7.here hx rfl (hb hby at_24) rfl ?_
    show Steps p.tables e below (T7.setTop (mkF m 26 #[.val (.int p1), .val (.int p2), .val (.int p3), .val (.int p4), .val (.int p5), .val (.int (4 : Int32)), .val (.ref b6), .unset, .unset, .unset, .unset, .unset] [(.int (4 : Int32))])) _
    refine XS.iconst X7.here hx rfl (hb hby at_26) ?_
    show Steps p.tables e below (T7.setTop (mkF m 27 #[.val (.int p1), .val (.int p2), .val (.int p3), .val (.int p4), .val (.int p5), .val (.int (4 : Int32)), .val (.ref b6), .unset, .unset, .unset, .unset, .unset] [(.int (1 : Int32)), (.int (4 : Int32))])) _
    refine XS.icmpNo X7.here hx rfl (hb hby at_27) rfl (tlt (by decide : (1 : Int32) < (4 : Int32))).2.2.2 ?_
    show Steps p.tables e below (T7.setTop (mkF m 30 #[.val (.int p1), .val (.int p2), .val (.int p3), .val (.int p4), .val (.int p5), .val (.int (4 : Int32)), .val (.ref b6), .unset, .unset, .unset, .unset, .unset] [])) _
    refine XS.aload X7.here hx rfl (hb hby at_30) rfl rfl ?_
    show Steps p.tables e below (T7.setTop (mkF m 32 #[.val (.int p1), .val (.int p2), .val (.int p3), .val (.int p4), .val (.int p5), .val (.int (4 : Int32)), .val (.ref b6), .unset, .unset, .unset, .unset, .unset] [(.ref b6)])) _
    refine XS.iconst X7.here hx rfl (hb hby at_32) ?_
    show Steps p.tables e below (T7.setTop (mkF m 33 #[.val (.int p1), .val (.int p2), .val (.int p3), .val (.int p4), .val (.int p5), .val (.int (4 : Int32)), .val (.ref b6), .unset, .unset, .unset, .unset, .unset] [(.int (1 : Int32)), (.ref b6)])) _
    refine XS.iloadN X7.here hx rfl (hb hby at_33) rfl ?_
    show Steps p.tables e below (T7.setTop (mkF m 34 #[.val (.int p1), .val (.int p2), .val (.int p3), .val (.int p4), .val (.int p5), .val (.int (4 : Int32)), .val (.ref b6), .unset, .unset, .unset, .unset, .unset] [(.int p3), (.int (1 : Int32)), (.ref b6)])) _
    refine st8 _ ?_
    show Steps p.tables e below (T8.setTop (mkF m 35 #[.val (.int p1), .val (.int p2), .val (.int p3), .val (.int p4), .val (.int p5), .val (.int (4 : Int32)), .val (.ref b6), .unset, .unset, .unset, .unset, .unset] [])) _
    refine XS.iload X8.here hx rfl (hb hby at_35) rfl ?_
    show Steps p.tables e below (T8.setTop (mkF m 37 #[.val (.int p1), .val (.int p2), .val (.int p3), .val (.int p4), .val (.int p5), .val (.int (4 : Int32)), .val (.ref b6), .unset, .unset, .unset, .unset, .unset] [(.int (4 : Int32))])) _
    refine XS.iconst X8.here hx rfl (hb hby at_37) ?_
    show Steps p.tables e below (T8.setTop (mkF m 38 #[.val (.int p1), .val (.int p2), .val (.int p3), .val (.int p4), .val (.int p5), .val (.int (4 : Int32)), .val (.ref b6), .unset, .unset, .unset, .unset, .unset] [(.int (2 : Int32)), (.int (4 : Int32))])) _
    refine XS.icmpNo X8.here hx rfl (hb hby at_38) rfl (tlt (by decide : (2 : Int32) < (4 : Int32))).2.2.2 ?_
    show Steps p.tables e below (T8.setTop (mkF m 41 #[.val (.int p1), .val (.int p2), .val (.int p3), .val (.int p4), .val (.int p5), .val (.int (4 : Int32)), .val (.ref b6), .unset, .unset, .unset, .unset, .unset] [])) _
    refine XS.aload X8.here hx rfl (hb hby at_41) rfl rfl ?_
    show Steps p.tables e below (T8.setTop (mkF m 43 #[.val (.int p1), .val (.int p2), .val (.int p3), .val (.int p4), .val (.int p5), .val (.int (4 : Int32)), .val (.ref b6), .unset, .unset, .unset, .unset, .unset] [(.ref b6)])) _
    refine XS.iconst X8.here hx rfl (hb hby at_43) ?_
    show Steps p.tables e below (T8.setTop (mkF m 44 #[.val (.int p1), .val (.int p2), .val (.int p3), .val (.int p4), .val (.int p5), .val (.int (4 : Int32)), .val (.ref b6), .unset, .unset, .unset, .unset, .unset] [(.int (2 : Int32)), (.ref b6)])) _
    refine XS.iloadN X8.here hx rfl (hb hby at_44) rfl ?_
    show Steps p.tables e below (T8.setTop (mkF m 45 #[.val (.int p1), .val (.int p2), .val (.int p3), .val (.int p4), .val (.int p5), .val (.int (4 : Int32)), .val (.ref b6), .unset, .unset, .unset, .unset, .unset] [(.int p4), (.int (2 : Int32)), (.ref b6)])) _
    refine st9 _ ?_
    show Steps p.tables e below (T9.setTop (mkF m 46 #[.val (.int p1), .val (.int p2), .val (.int p3), .val (.int p4), .val (.int p5), .val (.int (4 : Int32)), .val (.ref b6), .unset, .unset, .unset, .unset, .unset] [])) _
    refine XS.iload X9.here hx rfl (hb hby at_46) rfl ?_
    show Steps p.tables e below (T9.setTop (mkF m 48 #[.val (.int p1), .val (.int p2), .val (.int p3), .val (.int p4), .val (.int p5), .val (.int (4 : Int32)), .val (.ref b6), .unset, .unset, .unset, .unset, .unset] [(.int (4 : Int32))])) _
    refine XS.iconst X9.here hx rfl (hb hby at_48) ?_
    show Steps p.tables e below (T9.setTop (mkF m 49 #[.val (.int p1), .val (.int p2), .val (.int p3), .val (.int p4), .val (.int p5), .val (.int (4 : Int32)), .val (.ref b6), .unset, .unset, .unset, .unset, .unset] [(.int (3 : Int32)), (.int (4 : Int32))])) _
    refine XS.icmpNo X9.here hx rfl (hb hby at_49) rfl (tlt (by decide : (3 : Int32) < (4 : Int32))).2.2.2 ?_
    show Steps p.tables e below (T9.setTop (mkF m 52 #[.val (.int p1), .val (.int p2), .val (.int p3), .val (.int p4), .val (.int p5), .val (.int (4 : Int32)), .val (.ref b6), .unset, .unset, .unset, .unset, .unset] [])) _
    refine XS.aload X9.here hx rfl (hb hby at_52) rfl rfl ?_
    show Steps p.tables e below (T9.setTop (mkF m 54 #[.val (.int p1), .val (.int p2), .val (.int p3), .val (.int p4), .val (.int p5), .val (.int (4 : Int32)), .val (.ref b6), .unset, .unset, .unset, .unset, .unset] [(.ref b6)])) _
    refine XS.iconst X9.here hx rfl (hb hby at_54) ?_
    show Steps p.tables e below (T9.setTop (mkF m 55 #[.val (.int p1), .val (.int p2), .val (.int p3), .val (.int p4), .val (.int p5), .val (.int (4 : Int32)), .val (.ref b6), .unset, .unset, .unset, .unset, .unset] [(.int (3 : Int32)), (.ref b6)])) _
    refine XS.iload X9.here hx rfl (hb hby at_55) rfl ?_
    show Steps p.tables e below (T9.setTop (mkF m 57 #[.val (.int p1), .val (.int p2), .val (.int p3), .val (.int p4), .val (.int p5), .val (.int (4 : Int32)), .val (.ref b6), .unset, .unset, .unset, .unset, .unset] [(.int p5), (.int (3 : Int32)), (.ref b6)])) _
    refine st10 _ ?_
    show Steps p.tables e below (T10.setTop (mkF m 58 #[.val (.int p1), .val (.int p2), .val (.int p3), .val (.int p4), .val (.int p5), .val (.int (4 : Int32)), .val (.ref b6), .unset, .unset, .unset, .unset, .unset] [])) _
    refine st11 _ ?_
    show Steps p.tables e below (T11.setTop (mkF m 61 #[.val (.int p1), .val (.int p2), .val (.int p3), .val (.int p4), .val (.int p5), .val (.int (4 : Int32)), .val (.ref b6), .unset, .unset, .unset, .unset, .unset] [(.ref b11)])) _
    refine XS.dup X11.here hx rfl (hb hby at_61) rfl rfl ?_
    show Steps p.tables e below (T11.setTop (mkF m 62 #[.val (.int p1), .val (.int p2), .val (.int p3), .val (.int p4), .val (.int p5), .val (.int (4 : Int32)), .val (.ref b6), .unset, .unset, .unset, .unset, .unset] [(.ref b11), (.ref b11)])) _
    refine XS.aload X11.here hx rfl (hb hby at_62) rfl rfl ?_
    show Steps p.tables e below (T11.setTop (mkF m 64 #[.val (.int p1), .val (.int p2), .val (.int p3), .val (.int p4), .val (.int p5), .val (.int (4 : Int32)), .val (.ref b6), .unset, .unset, .unset, .unset, .unset] [(.ref b6), (.ref b11), (.ref b11)])) _
    refine st12.trans ?_
    show Steps p.tables e below (T12.setTop (mkF m 67 #[.val (.int p1), .val (.int p2), .val (.int p3), .val (.int p4), .val (.int p5), .val (.int (4 : Int32)), .val (.ref b6), .unset, .unset, .unset, .unset, .unset] [(.ref b11)])) _
    refine XS.astore X12.here hx rfl (hb hby at_67) rfl rfl (l' := #[.val (.int p1), .val (.int p2), .val (.int p3), .val (.int p4), .val (.int p5), .val (.int (4 : Int32)), .val (.ref b6), .val (.ref b11), .unset, .unset, .unset, .unset]) rfl ?_
    show Steps p.tables e below (T12.setTop (mkF m 69 #[.val (.int p1), .val (.int p2), .val (.int p3), .val (.int p4), .val (.int p5), .val (.int (4 : Int32)), .val (.ref b6), .val (.ref b11), .unset, .unset, .unset, .unset] [])) _
    refine XS.iload X12.here hx rfl (hb hby at_69) rfl ?_
    show Steps p.tables e below (T12.setTop (mkF m 71 #[.val (.int p1), .val (.int p2), .val (.int p3), .val (.int p4), .val (.int p5), .val (.int (4 : Int32)), .val (.ref b6), .val (.ref b11), .unset, .unset, .unset, .unset] [(.int (4 : Int32))])) _
    refine XS.iconst X12.here hx rfl (hb hby at_71) ?_
    show Steps p.tables e below (T12.setTop (mkF m 72 #[.val (.int p1), .val (.int p2), .val (.int p3), .val (.int p4), .val (.int p5), .val (.int (4 : Int32)), .val (.ref b6), .val (.ref b11), .unset, .unset, .unset, .unset] [(.int (0 : Int32)), (.int (4 : Int32))])) _
    refine XS.iloadN X12.here hx rfl (hb hby at_72) rfl ?_
    show Steps p.tables e below (T12.setTop (mkF m 73 #[.val (.int p1), .val (.int p2), .val (.int p3), .val (.int p4), .val (.int p5), .val (.int (4 : Int32)), .val (.ref b6), .val (.ref b11), .unset, .unset, .unset, .unset] [(.int p2), (.int (0 : Int32)), (.int (4 : Int32))])) _
    refine st13 _ ?_
    show Steps p.tables e below (T13.setTop (mkF m 76 #[.val (.int p1), .val (.int p2), .val (.int p3), .val (.int p4), .val (.int p5), .val (.int (4 : Int32)), .val (.ref b6), .val (.ref b11), .unset, .unset, .unset, .unset] [(.int (0 : Int32))])) _
    refine XS.ifNo X13.here hx rfl (hb hby at_76) rfl ((if0 _ _).trans (teq (by decide : (0 : Int32) = (0 : Int32))).2) ?_
    show Steps p.tables e below (T13.setTop (mkF m 79 #[.val (.int p1), .val (.int p2), .val (.int p3), .val (.int p4), .val (.int p5), .val (.int (4 : Int32)), .val (.ref b6), .val (.ref b11), .unset, .unset, .unset, .unset] [])) _
    refine XS.iload X13.here hx rfl (hb hby at_79) rfl ?_
    show Steps p.tables e below (T13.setTop (mkF m 81 #[.val (.int p1), .val (.int p2), .val (.int p3), .val (.int p4), .val (.int p5), .val (.int (4 : Int32)), .val (.ref b6), .val (.ref b11), .unset, .unset, .unset, .unset] [(.int (4 : Int32))])) _
    refine XS.iconst X13.here hx rfl (hb hby at_81) ?_
    show Steps p.tables e below (T13.setTop (mkF m 82 #[.val (.int p1), .val (.int p2), .val (.int p3), .val (.int p4), .val (.int p5), .val (.int (4 : Int32)), .val (.ref b6), .val (.ref b11), .unset, .unset, .unset, .unset] [(.int (1 : Int32)), (.int (4 : Int32))])) _
    refine XS.iloadN X13.here hx rfl (hb hby at_82) rfl ?_
    show Steps p.tables e below (T13.setTop (mkF m 83 #[.val (.int p1), .val (.int p2), .val (.int p3), .val (.int p4), .val (.int p5), .val (.int (4 : Int32)), .val (.ref b6), .val (.ref b11), .unset, .unset, .unset, .unset] [(.int p3), (.int (1 : Int32)), (.int (4 : Int32))])) _
    refine st14 _ ?_
    show Steps p.tables e below (T14.setTop (mkF m 86 #[.val (.int p1), .val (.int p2), .val (.int p3), .val (.int p4), .val (.int p5), .val (.int (4 : Int32)), .val (.ref b6), .val (.ref b11), .unset, .unset, .unset, .unset] [(.int (0 : Int32))])) _
    refine XS.ifNo X14.here hx rfl (hb hby at_86) rfl ((if0 _ _).trans (teq (by decide : (0 : Int32) = (0 : Int32))).2) ?_
    show Steps p.tables e below (T14.setTop (mkF m 89 #[.val (.int p1), .val (.int p2), .val (.int p3), .val (.int p4), .val (.int p5), .val (.int (4 : Int32)), .val (.ref b6), .val (.ref b11), .unset, .unset, .unset, .unset] [])) _
    refine XS.iload X14.here hx rfl (hb hby at_89) rfl ?_
    show Steps p.tables e below (T14.setTop (mkF m 91 #[.val (.int p1), .val (.int p2), .val (.int p3), .val (.int p4), .val (.int p5), .val (.int (4 : Int32)), .val (.ref b6), .val (.ref b11), .unset, .unset, .unset, .unset] [(.int (4 : Int32))])) _
    refine XS.iconst X14.here hx rfl (hb hby at_91) ?_
    show Steps p.tables e below (T14.setTop (mkF m 92 #[.val (.int p1), .val (.int p2), .val (.int p3), .val (.int p4), .val (.int p5), .val (.int (4 : Int32)), .val (.ref b6), .val (.ref b11), .unset, .unset, .unset, .unset] [(.int (2 : Int32)), (.int (4 : Int32))])) _
    refine XS.iloadN X14.here hx rfl (hb hby at_92) rfl ?_
    show Steps p.tables e below (T14.setTop (mkF m 93 #[.val (.int p1), .val (.int p2), .val (.int p3), .val (.int p4), .val (.int p5), .val (.int (4 : Int32)), .val (.ref b6), .val (.ref b11), .unset, .unset, .unset, .unset] [(.int p4), (.int (2 : Int32)), (.int (4 : Int32))])) _
    refine st15 _ ?_
    show Steps p.tables e below (T15.setTop (mkF m 96 #[.val (.int p1), .val (.int p2), .val (.int p3), .val (.int p4), .val (.int p5), .val (.int (4 : Int32)), .val (.ref b6), .val (.ref b11), .unset, .unset, .unset, .unset] [(.int (1 : Int32))])) _
    refine XS.ifYes X15.here hx rfl (pc0 := 96) (pc' := 110) rfl (hb hby at_96) rfl ((if0 _ _).trans (feq (by decide : ¬ ((1 : Int32) = (0 : Int32)))).2) (by decide) (by decide) ?_
    show Steps p.tables e below (T15.setTop (mkF m 110 #[.val (.int p1), .val (.int p2), .val (.int p3), .val (.int p4), .val (.int p5), .val (.int (4 : Int32)), .val (.ref b6), .val (.ref b11), .unset, .unset, .unset, .unset] [])) _
    refine XS.iconst X15.here hx rfl (hb hby at_110) ?_
    show Steps p.tables e below (T15.setTop (mkF m 111 #[.val (.int p1), .val (.int p2), .val (.int p3), .val (.int p4), .val (.int p5), .val (.int (4 : Int32)), .val (.ref b6), .val (.ref b11), .unset, .unset, .unset, .unset] [(.int (1 : Int32))])) _
    refine XS.goto X15.here hx rfl (pc0 := 111) (pc' := 115) rfl (hb hby at_111) (by decide) (by decide) ?_
    show Steps p.tables e below (T15.setTop (mkF m 115 #[.val (.int p1), .val (.int p2), .val (.int p3), .val (.int p4), .val (.int p5), .val (.int (4 : Int32)), .val (.ref b6), .val (.ref b11), .unset, .unset, .unset, .unset] [(.int (1 : Int32))])) _
    refine XS.istore X15.here hx rfl (hb hby at_115) rfl (l' := #[.val (.int p1), .val (.int p2), .val (.int p3), .val (.int p4), .val (.int p5), .val (.int (4 : Int32)), .val (.ref b6), .val (.ref b11), .val (.int (1 : Int32)), .unset, .unset, .unset]) rfl ?_
    show Steps p.tables e below (T15.setTop (mkF m 117 #[.val (.int p1), .val (.int p2), .val (.int p3), .val (.int p4), .val (.int p5), .val (.int (4 : Int32)), .val (.ref b6), .val (.ref b11), .val (.int (1 : Int32)), .unset, .unset, .unset] [])) _
    refine XS.aload X15.here hx rfl (hb hby at_117) rfl rfl ?_
    show Steps p.tables e below (T15.setTop (mkF m 119 #[.val (.int p1), .val (.int p2), .val (.int p3), .val (.int p4), .val (.int p5), .val (.int (4 : Int32)), .val (.ref b6), .val (.ref b11), .val (.int (1 : Int32)), .unset, .unset, .unset] [(.ref b11)])) _
    refine st16.trans ?_
    show Steps p.tables e below (T16.setTop (mkF m 122 #[.val (.int p1), .val (.int p2), .val (.int p3), .val (.int p4), .val (.int p5), .val (.int (4 : Int32)), .val (.ref b6), .val (.ref b11), .val (.int (1 : Int32)), .unset, .unset, .unset] [(.int (own_anyf (own_at [p2, p3, p4, p5]) 4 0 0))])) _
    refine XS.istore X16.here hx rfl (hb hby at_122) rfl (l' := #[.val (.int p1), .val (.int p2), .val (.int p3), .val (.int p4), .val (.int p5), .val (.int (4 : Int32)), .val (.ref b6), .val (.ref b11), .val (.int (1 : Int32)), .val (.int (own_anyf (own_at [p2, p3, p4, p5]) 4 0 0)), .unset, .unset]) rfl ?_
    show Steps p.tables e below (T16.setTop (mkF m 124 #[.val (.int p1), .val (.int p2), .val (.int p3), .val (.int p4), .val (.int p5), .val (.int (4 : Int32)), .val (.ref b6), .val (.ref b11), .val (.int (1 : Int32)), .val (.int (own_anyf (own_at [p2, p3, p4, p5]) 4 0 0)), .unset, .unset] [])) _
    refine XS.iload X16.here hx rfl (hb hby at_124) rfl ?_
    show Steps p.tables e below (T16.setTop (mkF m 126 #[.val (.int p1), .val (.int p2), .val (.int p3), .val (.int p4), .val (.int p5), .val (.int (4 : Int32)), .val (.ref b6), .val (.ref b11), .val (.int (1 : Int32)), .val (.int (own_anyf (own_at [p2, p3, p4, p5]) 4 0 0)), .unset, .unset] [(.int (1 : Int32))])) _
    refine XS.ifNo X16.here hx rfl (hb hby at_126) rfl ((if0 _ _).trans (feq (by decide : ¬ ((1 : Int32) = (0 : Int32)))).1) ?_
    show Steps p.tables e below (T16.setTop (mkF m 129 #[.val (.int p1), .val (.int p2), .val (.int p3), .val (.int p4), .val (.int p5), .val (.int (4 : Int32)), .val (.ref b6), .val (.ref b11), .val (.int (1 : Int32)), .val (.int (own_anyf (own_at [p2, p3, p4, p5]) 4 0 0)), .unset, .unset] [])) _
    refine XS.iconst X16.here hx rfl (hb hby at_129) ?_
    show Steps p.tables e below (T16.setTop (mkF m 130 #[.val (.int p1), .val (.int p2), .val (.int p3), .val (.int p4), .val (.int p5), .val (.int (4 : Int32)), .val (.ref b6), .val (.ref b11), .val (.int (1 : Int32)), .val (.int (own_anyf (own_at [p2, p3, p4, p5]) 4 0 0)), .unset, .unset] [(.int (0 : Int32))])) _
    refine XS.goto X16.here hx rfl (pc0 := 130) (pc' := 134) rfl (hb hby at_130) (by decide) (by decide) ?_
    show Steps p.tables e below (T16.setTop (mkF m 134 #[.val (.int p1), .val (.int p2), .val (.int p3), .val (.int p4), .val (.int p5), .val (.int (4 : Int32)), .val (.ref b6), .val (.ref b11), .val (.int (1 : Int32)), .val (.int (own_anyf (own_at [p2, p3, p4, p5]) 4 0 0)), .unset, .unset] [(.int (0 : Int32))])) _
    refine XS.istore X16.here hx rfl (hb hby at_134) rfl (l' := #[.val (.int p1), .val (.int p2), .val (.int p3), .val (.int p4), .val (.int p5), .val (.int (4 : Int32)), .val (.ref b6), .val (.ref b11), .val (.int (1 : Int32)), .val (.int (own_anyf (own_at [p2, p3, p4, p5]) 4 0 0)), .val (.int (0 : Int32)), .unset]) rfl ?_
    show Steps p.tables e below (T16.setTop (mkF m 136 #[.val (.int p1), .val (.int p2), .val (.int p3), .val (.int p4), .val (.int p5), .val (.int (4 : Int32)), .val (.ref b6), .val (.ref b11), .val (.int (1 : Int32)), .val (.int (own_anyf (own_at [p2, p3, p4, p5]) 4 0 0)), .val (.int (0 : Int32)), .unset] [])) _
    refine XS.iload X16.here hx rfl (hb hby at_136) rfl ?_
    show Steps p.tables e below (T16.setTop (mkF m 138 #[.val (.int p1), .val (.int p2), .val (.int p3), .val (.int p4), .val (.int p5), .val (.int (4 : Int32)), .val (.ref b6), .val (.ref b11), .val (.int (1 : Int32)), .val (.int (own_anyf (own_at [p2, p3, p4, p5]) 4 0 0)), .val (.int (0 : Int32)), .unset] [(.int (4 : Int32))])) _
    refine XS.ifNo X16.here hx rfl (hb hby at_138) rfl ((if0 _ _).trans (tlt (by decide : (0 : Int32) < (4 : Int32))).2.2.2) ?_
    show Steps p.tables e below (T16.setTop (mkF m 141 #[.val (.int p1), .val (.int p2), .val (.int p3), .val (.int p4), .val (.int p5), .val (.int (4 : Int32)), .val (.ref b6), .val (.ref b11), .val (.int (1 : Int32)), .val (.int (own_anyf (own_at [p2, p3, p4, p5]) 4 0 0)), .val (.int (0 : Int32)), .unset] [])) _
    refine XS.aload X16.here hx rfl (hb hby at_141) rfl rfl ?_
    show Steps p.tables e below (T16.setTop (mkF m 143 #[.val (.int p1), .val (.int p2), .val (.int p3), .val (.int p4), .val (.int p5), .val (.int (4 : Int32)), .val (.ref b6), .val (.ref b11), .val (.int (1 : Int32)), .val (.int (own_anyf (own_at [p2, p3, p4, p5]) 4 0 0)), .val (.int (0 : Int32)), .unset] [(.ref b6)])) _
    refine XS.iconst X16.here hx rfl (hb hby at_143) ?_
    show Steps p.tables e below (T16.setTop (mkF m 144 #[.val (.int p1), .val (.int p2), .val (.int p3), .val (.int p4), .val (.int p5), .val (.int (4 : Int32)), .val (.ref b6), .val (.ref b11), .val (.int (1 : Int32)), .val (.int (own_anyf (own_at [p2, p3, p4, p5]) 4 0 0)), .val (.int (0 : Int32)), .unset] [(.int (0 : Int32)), (.ref b6)])) _
    refine XS.iload X16.here hx rfl (hb hby at_144) rfl ?_
    show Steps p.tables e below (T16.setTop (mkF m 146 #[.val (.int p1), .val (.int p2), .val (.int p3), .val (.int p4), .val (.int p5), .val (.int (4 : Int32)), .val (.ref b6), .val (.ref b11), .val (.int (1 : Int32)), .val (.int (own_anyf (own_at [p2, p3, p4, p5]) 4 0 0)), .val (.int (0 : Int32)), .unset] [(.int (0 : Int32)), (.int (0 : Int32)), (.ref b6)])) _
    refine st17 _ ?_
    show Steps p.tables e below (T17.setTop (mkF m 147 #[.val (.int p1), .val (.int p2), .val (.int p3), .val (.int p4), .val (.int p5), .val (.int (4 : Int32)), .val (.ref b6), .val (.ref b11), .val (.int (1 : Int32)), .val (.int (own_anyf (own_at [p2, p3, p4, p5]) 4 0 0)), .val (.int (0 : Int32)), .unset] [])) _
    refine XS.iload X17.here hx rfl (hb hby at_147) rfl ?_
    show Steps p.tables e below (T17.setTop (mkF m 149 #[.val (.int p1), .val (.int p2), .val (.int p3), .val (.int p4), .val (.int p5), .val (.int (4 : Int32)), .val (.ref b6), .val (.ref b11), .val (.int (1 : Int32)), .val (.int (own_anyf (own_at [p2, p3, p4, p5]) 4 0 0)), .val (.int (0 : Int32)), .unset] [(.int (4 : Int32))])) _
    refine XS.iconst X17.here hx rfl (hb hby at_149) ?_
    show Steps p.tables e below (T17.setTop (mkF m 150 #[.val (.int p1), .val (.int p2), .val (.int p3), .val (.int p4), .val (.int p5), .val (.int (4 : Int32)), .val (.ref b6), .val (.ref b11), .val (.int (1 : Int32)), .val (.int (own_anyf (own_at [p2, p3, p4, p5]) 4 0 0)), .val (.int (0 : Int32)), .unset] [(.int (1 : Int32)), (.int (4 : Int32))])) _
    refine XS.icmpNo X17.here hx rfl (hb hby at_150) rfl (tlt (by decide : (1 : Int32) < (4 : Int32))).2.2.2 ?_
    show Steps p.tables e below (T17.setTop (mkF m 153 #[.val (.int p1), .val (.int p2), .val (.int p3), .val (.int p4), .val (.int p5), .val (.int (4 : Int32)), .val (.ref b6), .val (.ref b11), .val (.int (1 : Int32)), .val (.int (own_anyf (own_at [p2, p3, p4, p5]) 4 0 0)), .val (.int (0 : Int32)), .unset] [])) _
    refine XS.aload X17.here hx rfl (hb hby at_153) rfl rfl ?_
    show Steps p.tables e below (T17.setTop (mkF m 155 #[.val (.int p1), .val (.int p2), .val (.int p3), .val (.int p4), .val (.int p5), .val (.int (4 : Int32)), .val (.ref b6), .val (.ref b11), .val (.int (1 : Int32)), .val (.int (own_anyf (own_at [p2, p3, p4, p5]) 4 0 0)), .val (.int (0 : Int32)), .unset] [(.ref b6)])) _
    refine XS.iconst X17.here hx rfl (hb hby at_155) ?_
    show Steps p.tables e below (T17.setTop (mkF m 156 #[.val (.int p1), .val (.int p2), .val (.int p3), .val (.int p4), .val (.int p5), .val (.int (4 : Int32)), .val (.ref b6), .val (.ref b11), .val (.int (1 : Int32)), .val (.int (own_anyf (own_at [p2, p3, p4, p5]) 4 0 0)), .val (.int (0 : Int32)), .unset] [(.int (1 : Int32)), (.ref b6)])) _
    refine XS.iload X17.here hx rfl (hb hby at_156) rfl ?_
    show Steps p.tables e below (T17.setTop (mkF m 158 #[.val (.int p1), .val (.int p2), .val (.int p3), .val (.int p4), .val (.int p5), .val (.int (4 : Int32)), .val (.ref b6), .val (.ref b11), .val (.int (1 : Int32)), .val (.int (own_anyf (own_at [p2, p3, p4, p5]) 4 0 0)), .val (.int (0 : Int32)), .unset] [(.int (0 : Int32)), (.int (1 : Int32)), (.ref b6)])) _
    refine st18 _ ?_
    show Steps p.tables e below (T18.setTop (mkF m 159 #[.val (.int p1), .val (.int p2), .val (.int p3), .val (.int p4), .val (.int p5), .val (.int (4 : Int32)), .val (.ref b6), .val (.ref b11), .val (.int (1 : Int32)), .val (.int (own_anyf (own_at [p2, p3, p4, p5]) 4 0 0)), .val (.int (0 : Int32)), .unset] [])) _
    refine XS.iload X18.here hx rfl (hb hby at_159) rfl ?_
    show Steps p.tables e below (T18.setTop (mkF m 161 #[.val (.int p1), .val (.int p2), .val (.int p3), .val (.int p4), .val (.int p5), .val (.int (4 : Int32)), .val (.ref b6), .val (.ref b11), .val (.int (1 : Int32)), .val (.int (own_anyf (own_at [p2, p3, p4, p5]) 4 0 0)), .val (.int (0 : Int32)), .unset] [(.int (4 : Int32))])) _
    refine XS.iconst X18.here hx rfl (hb hby at_161) ?_
    show Steps p.tables e below (T18.setTop (mkF m 162 #[.val (.int p1), .val (.int p2), .val (.int p3), .val (.int p4), .val (.int p5), .val (.int (4 : Int32)), .val (.ref b6), .val (.ref b11), .val (.int (1 : Int32)), .val (.int (own_anyf (own_at [p2, p3, p4, p5]) 4 0 0)), .val (.int (0 : Int32)), .unset] [(.int (2 : Int32)), (.int (4 : Int32))])) _
    refine XS.icmpNo X18.here hx rfl (hb hby at_162) rfl (tlt (by decide : (2 : Int32) < (4 : Int32))).2.2.2 ?_
    show Steps p.tables e below (T18.setTop (mkF m 165 #[.val (.int p1), .val (.int p2), .val (.int p3), .val (.int p4), .val (.int p5), .val (.int (4 : Int32)), .val (.ref b6), .val (.ref b11), .val (.int (1 : Int32)), .val (.int (own_anyf (own_at [p2, p3, p4, p5]) 4 0 0)), .val (.int (0 : Int32)), .unset] [])) _
    refine XS.aload X18.here hx rfl (hb hby at_165) rfl rfl ?_
    show Steps p.tables e below (T18.setTop (mkF m 167 #[.val (.int p1), .val (.int p2), .val (.int p3), .val (.int p4), .val (.int p5), .val (.int (4 : Int32)), .val (.ref b6), .val (.ref b11), .val (.int (1 : Int32)), .val (.int (own_anyf (own_at [p2, p3, p4, p5]) 4 0 0)), .val (.int (0 : Int32)), .unset] [(.ref b6)])) _
    refine XS.iconst X18.here hx rfl (hb hby at_167) ?_
    show Steps p.tables e below (T18.setTop (mkF m 168 #[.val (.int p1), .val (.int p2), .val (.int p3), .val (.int p4), .val (.int p5), .val (.int (4 : Int32)), .val (.ref b6), .val (.ref b11), .val (.int (1 : Int32)), .val (.int (own_anyf (own_at [p2, p3, p4, p5]) 4 0 0)), .val (.int (0 : Int32)), .unset] [(.int (2 : Int32)), (.ref b6)])) _
    refine XS.iload X18.here hx rfl (hb hby at_168) rfl ?_
    show Steps p.tables e below (T18.setTop (mkF m 170 #[.val (.int p1), .val (.int p2), .val (.int p3), .val (.int p4), .val (.int p5), .val (.int (4 : Int32)), .val (.ref b6), .val (.ref b11), .val (.int (1 : Int32)), .val (.int (own_anyf (own_at [p2, p3, p4, p5]) 4 0 0)), .val (.int (0 : Int32)), .unset] [(.int (0 : Int32)), (.int (2 : Int32)), (.ref b6)])) _
    refine st19 _ ?_
    show Steps p.tables e below (T19.setTop (mkF m 171 #[.val (.int p1), .val (.int p2), .val (.int p3), .val (.int p4), .val (.int p5), .val (.int (4 : Int32)), .val (.ref b6), .val (.ref b11), .val (.int (1 : Int32)), .val (.int (own_anyf (own_at [p2, p3, p4, p5]) 4 0 0)), .val (.int (0 : Int32)), .unset] [])) _
    refine XS.iload X19.here hx rfl (hb hby at_171) rfl ?_
    show Steps p.tables e below (T19.setTop (mkF m 173 #[.val (.int p1), .val (.int p2), .val (.int p3), .val (.int p4), .val (.int p5), .val (.int (4 : Int32)), .val (.ref b6), .val (.ref b11), .val (.int (1 : Int32)), .val (.int (own_anyf (own_at [p2, p3, p4, p5]) 4 0 0)), .val (.int (0 : Int32)), .unset] [(.int (4 : Int32))])) _
    refine XS.iconst X19.here hx rfl (hb hby at_173) ?_
    show Steps p.tables e below (T19.setTop (mkF m 174 #[.val (.int p1), .val (.int p2), .val (.int p3), .val (.int p4), .val (.int p5), .val (.int (4 : Int32)), .val (.ref b6), .val (.ref b11), .val (.int (1 : Int32)), .val (.int (own_anyf (own_at [p2, p3, p4, p5]) 4 0 0)), .val (.int (0 : Int32)), .unset] [(.int (3 : Int32)), (.int (4 : Int32))])) _
    refine XS.icmpNo X19.here hx rfl (hb hby at_174) rfl (tlt (by decide : (3 : Int32) < (4 : Int32))).2.2.2 ?_
    show Steps p.tables e below (T19.setTop (mkF m 177 #[.val (.int p1), .val (.int p2), .val (.int p3), .val (.int p4), .val (.int p5), .val (.int (4 : Int32)), .val (.ref b6), .val (.ref b11), .val (.int (1 : Int32)), .val (.int (own_anyf (own_at [p2, p3, p4, p5]) 4 0 0)), .val (.int (0 : Int32)), .unset] [])) _
    refine XS.aload X19.here hx rfl (hb hby at_177) rfl rfl ?_
    show Steps p.tables e below (T19.setTop (mkF m 179 #[.val (.int p1), .val (.int p2), .val (.int p3), .val (.int p4), .val (.int p5), .val (.int (4 : Int32)), .val (.ref b6), .val (.ref b11), .val (.int (1 : Int32)), .val (.int (own_anyf (own_at [p2, p3, p4, p5]) 4 0 0)), .val (.int (0 : Int32)), .unset] [(.ref b6)])) _
    refine XS.iconst X19.here hx rfl (hb hby at_179) ?_
    show Steps p.tables e below (T19.setTop (mkF m 180 #[.val (.int p1), .val (.int p2), .val (.int p3), .val (.int p4), .val (.int p5), .val (.int (4 : Int32)), .val (.ref b6), .val (.ref b11), .val (.int (1 : Int32)), .val (.int (own_anyf (own_at [p2, p3, p4, p5]) 4 0 0)), .val (.int (0 : Int32)), .unset] [(.int (3 : Int32)), (.ref b6)])) _
    refine XS.iload X19.here hx rfl (hb hby at_180) rfl ?_
    show Steps p.tables e below (T19.setTop (mkF m 182 #[.val (.int p1), .val (.int p2), .val (.int p3), .val (.int p4), .val (.int p5), .val (.int (4 : Int32)), .val (.ref b6), .val (.ref b11), .val (.int (1 : Int32)), .val (.int (own_anyf (own_at [p2, p3, p4, p5]) 4 0 0)), .val (.int (0 : Int32)), .unset] [(.int (0 : Int32)), (.int (3 : Int32)), (.ref b6)])) _
    refine st20 _ ?_
    show Steps p.tables e below (T20.setTop (mkF m 183 #[.val (.int p1), .val (.int p2), .val (.int p3), .val (.int p4), .val (.int p5), .val (.int (4 : Int32)), .val (.ref b6), .val (.ref b11), .val (.int (1 : Int32)), .val (.int (own_anyf (own_at [p2, p3, p4, p5]) 4 0 0)), .val (.int (0 : Int32)), .unset] [])) _
    refine XS.aload X20.here hx rfl (hb hby at_183) rfl rfl ?_
    show Steps p.tables e below (T20.setTop (mkF m 185 #[.val (.int p1), .val (.int p2), .val (.int p3), .val (.int p4), .val (.int p5), .val (.int (4 : Int32)), .val (.ref b6), .val (.ref b11), .val (.int (1 : Int32)), .val (.int (own_anyf (own_at [p2, p3, p4, p5]) 4 0 0)), .val (.int (0 : Int32)), .unset] [(.ref b11)])) _
    refine st21.trans ?_
    show Steps p.tables e below (T21.setTop (mkF m 188 #[.val (.int p1), .val (.int p2), .val (.int p3), .val (.int p4), .val (.int p5), .val (.int (4 : Int32)), .val (.ref b6), .val (.ref b11), .val (.int (1 : Int32)), .val (.int (own_anyf (own_at [p2, p3, p4, p5]) 4 0 0)), .val (.int (0 : Int32)), .unset] [(.int (own_anyf (own_at [p2, p3, p4, p5]) 4 0 0))])) _
    refine XS.istore X21.here hx rfl (hb hby at_188) rfl (l' := #[.val (.int p1), .val (.int p2), .val (.int p3), .val (.int p4), .val (.int p5), .val (.int (4 : Int32)), .val (.ref b6), .val (.ref b11), .val (.int (1 : Int32)), .val (.int (own_anyf (own_at [p2, p3, p4, p5]) 4 0 0)), .val (.int (0 : Int32)), .val (.int (own_anyf (own_at [p2, p3, p4, p5]) 4 0 0))]) rfl ?_
    show Steps p.tables e below (T21.setTop (mkF m 190 #[.val (.int p1), .val (.int p2), .val (.int p3), .val (.int p4), .val (.int p5), .val (.int (4 : Int32)), .val (.ref b6), .val (.ref b11), .val (.int (1 : Int32)), .val (.int (own_anyf (own_at [p2, p3, p4, p5]) 4 0 0)), .val (.int (0 : Int32)), .val (.int (own_anyf (own_at [p2, p3, p4, p5]) 4 0 0))] [])) _
    refine XS.iload X21.here hx rfl (hb hby at_190) rfl ?_
    show Steps p.tables e below (T21.setTop (mkF m 192 #[.val (.int p1), .val (.int p2), .val (.int p3), .val (.int p4), .val (.int p5), .val (.int (4 : Int32)), .val (.ref b6), .val (.ref b11), .val (.int (1 : Int32)), .val (.int (own_anyf (own_at [p2, p3, p4, p5]) 4 0 0)), .val (.int (0 : Int32)), .val (.int (own_anyf (own_at [p2, p3, p4, p5]) 4 0 0))] [(.int (own_anyf (own_at [p2, p3, p4, p5]) 4 0 0))])) _
    refine XS.iload X21.here hx rfl (hb hby at_192) rfl ?_
    show Steps p.tables e below (T21.setTop (mkF m 194 #[.val (.int p1), .val (.int p2), .val (.int p3), .val (.int p4), .val (.int p5), .val (.int (4 : Int32)), .val (.ref b6), .val (.ref b11), .val (.int (1 : Int32)), .val (.int (own_anyf (own_at [p2, p3, p4, p5]) 4 0 0)), .val (.int (0 : Int32)), .val (.int (own_anyf (own_at [p2, p3, p4, p5]) 4 0 0))] [(.int (1 : Int32)), (.int (own_anyf (own_at [p2, p3, p4, p5]) 4 0 0))])) _
    refine XS.icmpNo X21.here hx rfl (hb hby at_194) rfl (teq (own_ok : (own_anyf (own_at [p2, p3, p4, p5]) 4 0 0) = (1 : Int32))).2 ?_
    show Steps p.tables e below (T21.setTop (mkF m 197 #[.val (.int p1), .val (.int p2), .val (.int p3), .val (.int p4), .val (.int p5), .val (.int (4 : Int32)), .val (.ref b6), .val (.ref b11), .val (.int (1 : Int32)), .val (.int (own_anyf (own_at [p2, p3, p4, p5]) 4 0 0)), .val (.int (0 : Int32)), .val (.int (own_anyf (own_at [p2, p3, p4, p5]) 4 0 0))] [])) _
    refine XS.iload X21.here hx rfl (hb hby at_197) rfl ?_
    show Steps p.tables e below (T21.setTop (mkF m 199 #[.val (.int p1), .val (.int p2), .val (.int p3), .val (.int p4), .val (.int p5), .val (.int (4 : Int32)), .val (.ref b6), .val (.ref b11), .val (.int (1 : Int32)), .val (.int (own_anyf (own_at [p2, p3, p4, p5]) 4 0 0)), .val (.int (0 : Int32)), .val (.int (own_anyf (own_at [p2, p3, p4, p5]) 4 0 0))] [(.int (own_anyf (own_at [p2, p3, p4, p5]) 4 0 0))])) _
    refine XS.iload X21.here hx rfl (hb hby at_199) rfl ?_
    show Steps p.tables e below (T21.setTop (mkF m 201 #[.val (.int p1), .val (.int p2), .val (.int p3), .val (.int p4), .val (.int p5), .val (.int (4 : Int32)), .val (.ref b6), .val (.ref b11), .val (.int (1 : Int32)), .val (.int (own_anyf (own_at [p2, p3, p4, p5]) 4 0 0)), .val (.int (0 : Int32)), .val (.int (own_anyf (own_at [p2, p3, p4, p5]) 4 0 0))] [(.int (1 : Int32)), (.int (own_anyf (own_at [p2, p3, p4, p5]) 4 0 0))])) _
    refine XS.icmpNo X21.here hx rfl (hb hby at_201) rfl (teq (own_ok : (own_anyf (own_at [p2, p3, p4, p5]) 4 0 0) = (1 : Int32))).2 ?_
    show Steps p.tables e below (T21.setTop (mkF m 204 #[.val (.int p1), .val (.int p2), .val (.int p3), .val (.int p4), .val (.int p5), .val (.int (4 : Int32)), .val (.ref b6), .val (.ref b11), .val (.int (1 : Int32)), .val (.int (own_anyf (own_at [p2, p3, p4, p5]) 4 0 0)), .val (.int (0 : Int32)), .val (.int (own_anyf (own_at [p2, p3, p4, p5]) 4 0 0))] [])) _
    refine XS.iconst X21.here hx rfl (hb hby at_204) ?_
    show Steps p.tables e below (T21.setTop (mkF m 205 #[.val (.int p1), .val (.int p2), .val (.int p3), .val (.int p4), .val (.int p5), .val (.int (4 : Int32)), .val (.ref b6), .val (.ref b11), .val (.int (1 : Int32)), .val (.int (own_anyf (own_at [p2, p3, p4, p5]) 4 0 0)), .val (.int (0 : Int32)), .val (.int (own_anyf (own_at [p2, p3, p4, p5]) 4 0 0))] [(.int (1 : Int32))])) _
    refine XS.goto X21.here hx rfl (pc0 := 205) (pc' := 209) rfl (hb hby at_205) (by decide) (by decide) ?_
    show Steps p.tables e below (T21.setTop (mkF m 209 #[.val (.int p1), .val (.int p2), .val (.int p3), .val (.int p4), .val (.int p5), .val (.int (4 : Int32)), .val (.ref b6), .val (.ref b11), .val (.int (1 : Int32)), .val (.int (own_anyf (own_at [p2, p3, p4, p5]) 4 0 0)), .val (.int (0 : Int32)), .val (.int (own_anyf (own_at [p2, p3, p4, p5]) 4 0 0))] [(.int (1 : Int32))])) _
    exact retN X21 hx (t := .boolean) Bd.returns (by simp) (hb hby at_209) hr
  · show Q0_42 Z p1 p2 p3 p4 p5 h0 n0 _ T21.heap _
    exact ⟨rfl, N21⟩
def Q0_43 (Z : State) (p1 : Int32) (p2 : Int32) (p3 : Int32) (p4 : Int32) (p5 : Int32) (h0 : Heap) (n0 : Nat) (v : Option Value) (h : Heap) (L : List Loc) : Prop := v = some (.int (1 : Int32)) ∧ Fr n0 L
set_option maxRecDepth 65536 in
set_option maxHeartbeats 40000000 in
theorem rm0_43 (l : Launch) (Z : State) (a0 : Array Value) (hw : ∀ d ∈ tables_1, d.before a0 Z = true) (ws : List Jvm.Cond) (p1 : Int32) (p2 : Int32) (p3 : Int32) (p4 : Int32) (p5 : Int32) (h0 : Heap) (n0 : Nat) (Z0 : n0 ≤ h0.size) (hp5 : ((p1 &&& (2147483647 : Int32)) % (5 : Int32)) = (4 : Int32)) (ch0 : ¬ (p2 = (1 : Int32))) (ch1 : ¬ (p3 = (1 : Int32))) (ch2 : ¬ (p4 = (1 : Int32))) (ch3 : p5 = (1 : Int32)) :
    MetFree l x (head1 (Jvm.Cond.code x code maxLocals ret :: ws) room_1) (fun a U => a = #[(.int p1), (.int p2), (.int p3), (.int p4), (.int p5)] ∧ Z.Warmed39 U.vm ∧ U.heap = h0) (fun _ _ _ _ _ => True) (fun _ U o U' => ∃ v L, o = .returned v ∧ Q0_43 Z p1 p2 p3 p4 p5 h0 n0 v U'.heap L ∧ FrameEnd U o U' L room_1.cells room_1.slots) := by
  refine MetFree.of_bodySF (plainFor_of_name pn_0) hisR ?_
  intro p e s m args below meth c s₁ Bd hml0 hP hK
  obtain ⟨rfl, hZ, hh⟩ := hP
  have own_ok : (own_anyf (own_at [p2, p3, p4, p5]) 4 0 0) = (1 : Int32) := by
    simp [own_anyf, own_or, own_at, ch0, ch1, ch2, ch3]
  have hx := Bd.exec
  have hby := Bd.bytes
  have hml : c.maxLocals = 12 := hml0
  have hown : s.vm.findClass "com/example/tendril/tendril/FormatsAnyBinaryPinLaw" = some m.cls := findClass_of_methodNamed Bd.named
  have hnm := (name_of_methodNamed Bd.named Bd.method).1
  have X0 : Stand p l e room_1 s m #[(.int p1), (.int p2), (.int p3), (.int p4), (.int p5)] below meth c s₁ [] 0 0 := Stand.of_body Bd
  have e0 : s₁.heap = h0 := by rw [← hh, Bd.state]; rfl
  have N0 := Fr.nil n0
  have pre0 : ∀ t, Steps p.tables e below (s₁.setTop (mkF m 0 #[.val (.int p1), .val (.int p2), .val (.int p3), .val (.int p4), .val (.int p5), .unset, .unset, .unset, .unset, .unset, .unset, .unset] [])) t → Steps p.tables e below (s₁.setTop (entryFrame m #[(.int p1), (.int p2), (.int p3), (.int p4), (.int p5)] maxLocals)) t := fun t k => castTop (ef_0 m p1 p2 p3 p4 p5) k
  obtain ⟨T6, h6, k6, X6, e6, E6, A6, Ea6, st6⟩ := newPE X0 hx hZ (hw _ (List.mem_of_getElem? (i := 1) rfl)) e0 (g := (mkF m 10 #[.val (.int p1), .val (.int p2), .val (.int p3), .val (.int p4), .val (.int p5), .val (.int (4 : Int32)), .unset, .unset, .unset, .unset, .unset, .unset] [(.int (4 : Int32))])) rfl (hb hby at_10) rfl (by decide) (cap := 4) (by decide) (by decide) (by decide) (by decide) (ad := "[I") rfl
  obtain ⟨b6, g6⟩ : ∃ z, z = h0.size := ⟨_, rfl⟩
  rw [← g6] at A6 Ea6 st6
  have V_b6 : Arv Z h6 b6 k6 .int (4 : Int32) [(.int (0 : Int32)), (.int (0 : Int32)), (.int (0 : Int32)), (.int (0 : Int32))] (.int (0 : Int32)) := (Arv.new A6 (by decide)).pad (pad_rep [] (.int (0 : Int32)) 4)
  have g_b6 : n0 ≤ b6 := Nat.le_trans Z0 (Nat.le_of_eq g6.symm)
  have sz_b6 : h0.size ≤ b6 := (Nat.le_trans (Keep.refl h0 []).1 (Nat.le_of_eq g6.symm))
  have K6 : Keep h0 h6 [] := (Keep.refl h0 []).ext E6
  obtain ⟨cl_b6_23, Ar_b6, q_b6, S_b6, N_b6, H_b6, G_b6⟩ := V_b6
  have hin23 : ¬ ((0 : Int32) < 0 ∨ cl_b6_23.slots.size ≤ ((0 : Int32)).toNatClampNeg) := inb_of S_b6 ⟨by decide, by decide⟩
  obtain ⟨T7, h7, X7, e7, W7, st7⟩ := stI X6 hx hZ e6 Ar_b6 (j := (0 : Int32)) hin23 (g := (mkF m 23 #[.val (.int p1), .val (.int p2), .val (.int p3), .val (.int p4), .val (.int p5), .val (.int (4 : Int32)), .val (.ref b6), .unset, .unset, .unset, .unset, .unset] [(.int p2), (.int (0 : Int32)), (.ref b6)])) rfl rfl (hb hby at_23)
  have V_b6_7 := Arv.set Ar_b6 q_b6 S_b6 N_b6 H_b6 G_b6 rfl W7 0 rfl (Nat.le_of_ble_eq_true rfl)
  have K7 : Keep h0 h7 [] := K6.wr W7 (Or.inr sz_b6)
  have N7 := Fr.snoc X7 N0 g_b6
  obtain ⟨cl_b6_34, Ar_b6, q_b6, S_b6, N_b6, H_b6, G_b6⟩ := V_b6_7
  have hin34 : ¬ ((1 : Int32) < 0 ∨ cl_b6_34.slots.size ≤ ((1 : Int32)).toNatClampNeg) := inb_of S_b6 ⟨by decide, by decide⟩
  obtain ⟨T8, h8, X8, e8, W8, st8⟩ := stI X7 hx hZ e7 Ar_b6 (j := (1 : Int32)) hin34 (g := (mkF m 34 #[.val (.int p1), .val (.int p2), .val (.int p3), .val (.int p4), .val (.int p5), .val (.int (4 : Int32)), .val (.ref b6), .unset, .unset, .unset, .unset, .unset] [(.int p3), (.int (1 : Int32)), (.ref b6)])) rfl rfl (hb hby at_34)
  have V_b6_8 := Arv.set Ar_b6 q_b6 S_b6 N_b6 H_b6 G_b6 rfl W8 1 rfl (Nat.le_of_ble_eq_true rfl)
  have K8 : Keep h0 h8 [] := K7.wr W8 (Or.inr sz_b6)
  have N8 := Fr.snoc X8 N7 g_b6
  obtain ⟨cl_b6_45, Ar_b6, q_b6, S_b6, N_b6, H_b6, G_b6⟩ := V_b6_8
  have hin45 : ¬ ((2 : Int32) < 0 ∨ cl_b6_45.slots.size ≤ ((2 : Int32)).toNatClampNeg) := inb_of S_b6 ⟨by decide, by decide⟩
  obtain ⟨T9, h9, X9, e9, W9, st9⟩ := stI X8 hx hZ e8 Ar_b6 (j := (2 : Int32)) hin45 (g := (mkF m 45 #[.val (.int p1), .val (.int p2), .val (.int p3), .val (.int p4), .val (.int p5), .val (.int (4 : Int32)), .val (.ref b6), .unset, .unset, .unset, .unset, .unset] [(.int p4), (.int (2 : Int32)), (.ref b6)])) rfl rfl (hb hby at_45)
  have V_b6_9 := Arv.set Ar_b6 q_b6 S_b6 N_b6 H_b6 G_b6 rfl W9 2 rfl (Nat.le_of_ble_eq_true rfl)
  have K9 : Keep h0 h9 [] := K8.wr W9 (Or.inr sz_b6)
  have N9 := Fr.snoc X9 N8 g_b6
  obtain ⟨cl_b6_57, Ar_b6, q_b6, S_b6, N_b6, H_b6, G_b6⟩ := V_b6_9
  have hin57 : ¬ ((3 : Int32) < 0 ∨ cl_b6_57.slots.size ≤ ((3 : Int32)).toNatClampNeg) := inb_of S_b6 ⟨by decide, by decide⟩
  obtain ⟨T10, h10, X10, e10, W10, st10⟩ := stI X9 hx hZ e9 Ar_b6 (j := (3 : Int32)) hin57 (g := (mkF m 57 #[.val (.int p1), .val (.int p2), .val (.int p3), .val (.int p4), .val (.int p5), .val (.int (4 : Int32)), .val (.ref b6), .unset, .unset, .unset, .unset, .unset] [(.int p5), (.int (3 : Int32)), (.ref b6)])) rfl rfl (hb hby at_57)
  have V_b6_10 := Arv.set Ar_b6 q_b6 S_b6 N_b6 H_b6 G_b6 rfl W10 3 rfl (Nat.le_of_ble_eq_true rfl)
  have K10 : Keep h0 h10 [] := K9.wr W10 (Or.inr sz_b6)
  have N10 := Fr.snoc X10 N9 g_b6
  obtain ⟨T11, h11, X11, e11, E11, A11, D11, -, st11⟩ := newO X10 hx hZ hown (hw _ (List.mem_of_getElem? (i := 2) rfl)) (hw _ (List.mem_of_getElem? (i := 3) rfl)) (hw _ (List.mem_of_getElem? (i := 4) rfl)) e10 (g := (mkF m 58 #[.val (.int p1), .val (.int p2), .val (.int p3), .val (.int p4), .val (.int p5), .val (.int (4 : Int32)), .val (.ref b6), .unset, .unset, .unset, .unset, .unset] [])) rfl (hb hby at_58) (by decide) (by decide)
  obtain ⟨b11, g11⟩ : ∃ z, z = h10.size := ⟨_, rfl⟩
  rw [← g11] at A11 D11 st11
  have F_codes_b11 : Fld Z h11 b11 "com/example/tendril/tendril/WireColumns$Formats" "codes" "[I" .null := D11 (Or.inr (hw _ (List.mem_of_getElem? (i := 21) rfl))) (ty := (.array .int)) (by decide)
  have E_b11 := A11
  have g_b11 : n0 ≤ b11 := Nat.le_trans (Nat.le_trans (Nat.le_trans (Nat.le_trans (Nat.le_trans (Nat.le_trans Z0 E6.1) (Keep.of_wr W7).1) (Keep.of_wr W8).1) (Keep.of_wr W9).1) (Keep.of_wr W10).1) (Nat.le_of_eq g11.symm)
  have sz_b11 : h0.size ≤ b11 := (Nat.le_trans K10.1 (Nat.le_of_eq g11.symm))
  have K11 : Keep h0 h11 [] := K10.ext E11
  obtain ⟨_, _, ⟨T12, L12, k12, n12⟩, -, X12, ⟨Lc12, hQ12, l12, y12, z12⟩, st12⟩ := X11.specialBack hx (y := (⟨"com/example/tendril/tendril/WireColumns$Formats", "<init>", "([I)V"⟩ : MethodName)) rfl hown (mvT hZ (hw _ (List.mem_of_getElem? (i := 5) rfl))) (mvT hZ (hw _ (List.mem_of_getElem? (i := 6) rfl))) (mvT hZ (hw _ (List.mem_of_getElem? (i := 7) rfl))) (by decide) (backOf (W := 1) (rm1 l Z a0 hw [] b11 b6 .null _ _ _ _ h11 n0 (Nat.le_trans Z0 K11.1) (((((Ea6.wr W7).wr W8).wr W9).wr W10).ext E11) (V_b6_10.ext E11) (by decide) E_b11 F_codes_b11 g_b11) hZ (hw _ (List.mem_of_getElem? (i := 7) rfl)) (hw _ (List.mem_of_getElem? (i := 4) rfl)) (by decide) (by decide)) (g := (mkF m 64 #[.val (.int p1), .val (.int p2), .val (.int p3), .val (.int p4), .val (.int p5), .val (.int (4 : Int32)), .val (.ref b6), .unset, .unset, .unset, .unset, .unset] [(.ref b6), (.ref b11), (.ref b11)])) rfl (by rw [hml]; rfl) (Steps.refl _) (a := b11) (argsL := [(.ref b6)]) (rest := [(.ref b11)]) (lenOf pd_0_0 rfl) rfl (by show 2 * 0 + _ ≤ _; exact Nat.le_of_eq rfl) (hb hby at_64) (fun _ _ => ⟨rfl, e11, (Nat.le_of_ble_eq_true rfl), (Nat.le_of_ble_eq_true rfl)⟩)
  dsimp only [Pt.U, Pt.locs, Pt.cells, Pt.slots] at X12 l12 y12 z12 st12 hQ12
  subst l12 y12 z12
  obtain ⟨rfl, N12q, K12c, E12c, bC, szC, FC, VC⟩ := hQ12
  have ne_ao : b6 ≠ b11 := Nat.ne_of_lt (Nat.lt_of_lt_of_le V_b6_10.lt (Nat.le_of_eq g11.symm))
  have ne_Ca : bC ≠ b6 := Ne.symm (Nat.ne_of_lt (Nat.lt_of_lt_of_le (V_b6_10.ext E11).lt szC))
  have K12 : Keep h0 T12.heap [] := K11.trans K12c (allS (Or.inr sz_b11) all0)
  have N12 := Fr.app N10 N12q
  obtain ⟨_, _, ⟨T13, L13, k13, n13⟩, -, X13, ⟨Lc13, hQ13, l13, y13, z13⟩, st13⟩ := Jvm.LawKit.callS X12 hx (y := (⟨"com/example/tendril/tendril/FormatsAnyBinaryPinLaw", "hit", "(III)Z"⟩ : MethodName)) hown (mvT hZ (hw _ (List.mem_of_getElem? (i := 22) rfl))) (mvT hZ (hw _ (List.mem_of_getElem? (i := 23) rfl))) (mvT hZ (hw _ (List.mem_of_getElem? (i := 24) rfl))) (mvT hZ (hw _ (List.mem_of_getElem? (i := 25) rfl))) (by decide) (backOf (W := 0) (rm3ft l Z a0 hw [] (4 : Int32) (0 : Int32) p2 T12.heap n0 (Nat.le_trans Z0 K12.1) (by decide) ch0) hZ (hw _ (List.mem_of_getElem? (i := 25) rfl)) (hw _ (List.mem_of_getElem? (i := 24) rfl)) (by decide) (by decide)) (g := (mkF m 73 #[.val (.int p1), .val (.int p2), .val (.int p3), .val (.int p4), .val (.int p5), .val (.int (4 : Int32)), .val (.ref b6), .val (.ref b11), .unset, .unset, .unset, .unset] [(.int p2), (.int (0 : Int32)), (.int (4 : Int32))])) rfl (by rw [hml]; rfl) (argsL := [(.int (4 : Int32)), (.int (0 : Int32)), (.int p2)]) (rest := []) (lenOf pd_0_3 rfl) rfl (by show 2 * 0 + _ ≤ _; exact Nat.le_of_eq rfl) (hb hby at_73) (fun _ _ => ⟨rfl, rfl, (Nat.le_of_ble_eq_true rfl), (Nat.le_of_ble_eq_true rfl)⟩)
  dsimp only [Pt.U, Pt.locs, Pt.cells, Pt.slots] at X13 l13 y13 z13 st13 hQ13
  subst l13 y13 z13
  obtain ⟨rfl, N13q, e13⟩ := hQ13
  have K13 : Keep h0 T13.heap [] := K12.trans (own_keq e13) all0
  have N13 := Fr.app N12 N13q
  obtain ⟨_, _, ⟨T14, L14, k14, n14⟩, -, X14, ⟨Lc14, hQ14, l14, y14, z14⟩, st14⟩ := Jvm.LawKit.callS X13 hx (y := (⟨"com/example/tendril/tendril/FormatsAnyBinaryPinLaw", "hit", "(III)Z"⟩ : MethodName)) hown (mvT hZ (hw _ (List.mem_of_getElem? (i := 22) rfl))) (mvT hZ (hw _ (List.mem_of_getElem? (i := 23) rfl))) (mvT hZ (hw _ (List.mem_of_getElem? (i := 24) rfl))) (mvT hZ (hw _ (List.mem_of_getElem? (i := 25) rfl))) (by decide) (backOf (W := 0) (rm3ft l Z a0 hw [] (4 : Int32) (1 : Int32) p3 T13.heap n0 (Nat.le_trans Z0 K13.1) (by decide) ch1) hZ (hw _ (List.mem_of_getElem? (i := 25) rfl)) (hw _ (List.mem_of_getElem? (i := 24) rfl)) (by decide) (by decide)) (g := (mkF m 83 #[.val (.int p1), .val (.int p2), .val (.int p3), .val (.int p4), .val (.int p5), .val (.int (4 : Int32)), .val (.ref b6), .val (.ref b11), .unset, .unset, .unset, .unset] [(.int p3), (.int (1 : Int32)), (.int (4 : Int32))])) rfl (by rw [hml]; rfl) (argsL := [(.int (4 : Int32)), (.int (1 : Int32)), (.int p3)]) (rest := []) (lenOf pd_0_3 rfl) rfl (by show 2 * 0 + _ ≤ _; exact Nat.le_of_eq rfl) (hb hby at_83) (fun _ _ => ⟨rfl, rfl, (Nat.le_of_ble_eq_true rfl), (Nat.le_of_ble_eq_true rfl)⟩)
  dsimp only [Pt.U, Pt.locs, Pt.cells, Pt.slots] at X14 l14 y14 z14 st14 hQ14
  subst l14 y14 z14
  obtain ⟨rfl, N14q, e14⟩ := hQ14
  have K14 : Keep h0 T14.heap [] := K13.trans (own_keq e14) all0
  have N14 := Fr.app N13 N14q
  obtain ⟨_, _, ⟨T15, L15, k15, n15⟩, -, X15, ⟨Lc15, hQ15, l15, y15, z15⟩, st15⟩ := Jvm.LawKit.callS X14 hx (y := (⟨"com/example/tendril/tendril/FormatsAnyBinaryPinLaw", "hit", "(III)Z"⟩ : MethodName)) hown (mvT hZ (hw _ (List.mem_of_getElem? (i := 22) rfl))) (mvT hZ (hw _ (List.mem_of_getElem? (i := 23) rfl))) (mvT hZ (hw _ (List.mem_of_getElem? (i := 24) rfl))) (mvT hZ (hw _ (List.mem_of_getElem? (i := 25) rfl))) (by decide) (backOf (W := 0) (rm3ft l Z a0 hw [] (4 : Int32) (2 : Int32) p4 T14.heap n0 (Nat.le_trans Z0 K14.1) (by decide) ch2) hZ (hw _ (List.mem_of_getElem? (i := 25) rfl)) (hw _ (List.mem_of_getElem? (i := 24) rfl)) (by decide) (by decide)) (g := (mkF m 93 #[.val (.int p1), .val (.int p2), .val (.int p3), .val (.int p4), .val (.int p5), .val (.int (4 : Int32)), .val (.ref b6), .val (.ref b11), .unset, .unset, .unset, .unset] [(.int p4), (.int (2 : Int32)), (.int (4 : Int32))])) rfl (by rw [hml]; rfl) (argsL := [(.int (4 : Int32)), (.int (2 : Int32)), (.int p4)]) (rest := []) (lenOf pd_0_3 rfl) rfl (by show 2 * 0 + _ ≤ _; exact Nat.le_of_eq rfl) (hb hby at_93) (fun _ _ => ⟨rfl, rfl, (Nat.le_of_ble_eq_true rfl), (Nat.le_of_ble_eq_true rfl)⟩)
  dsimp only [Pt.U, Pt.locs, Pt.cells, Pt.slots] at X15 l15 y15 z15 st15 hQ15
  subst l15 y15 z15
  obtain ⟨rfl, N15q, e15⟩ := hQ15
  have K15 : Keep h0 T15.heap [] := K14.trans (own_keq e15) all0
  have N15 := Fr.app N14 N15q
  obtain ⟨_, _, ⟨T16, L16, k16, n16⟩, -, X16, ⟨Lc16, hQ16, l16, y16, z16⟩, st16⟩ := Jvm.LawKit.callS X15 hx (y := (⟨"com/example/tendril/tendril/FormatsAnyBinaryPinLaw", "hit", "(III)Z"⟩ : MethodName)) hown (mvT hZ (hw _ (List.mem_of_getElem? (i := 22) rfl))) (mvT hZ (hw _ (List.mem_of_getElem? (i := 23) rfl))) (mvT hZ (hw _ (List.mem_of_getElem? (i := 24) rfl))) (mvT hZ (hw _ (List.mem_of_getElem? (i := 25) rfl))) (by decide) (backOf (W := 0) (rm3ff l Z a0 hw [] (4 : Int32) (3 : Int32) p5 T15.heap n0 (Nat.le_trans Z0 K15.1) (by decide) ch3) hZ (hw _ (List.mem_of_getElem? (i := 25) rfl)) (hw _ (List.mem_of_getElem? (i := 24) rfl)) (by decide) (by decide)) (g := (mkF m 104 #[.val (.int p1), .val (.int p2), .val (.int p3), .val (.int p4), .val (.int p5), .val (.int (4 : Int32)), .val (.ref b6), .val (.ref b11), .unset, .unset, .unset, .unset] [(.int p5), (.int (3 : Int32)), (.int (4 : Int32))])) rfl (by rw [hml]; rfl) (argsL := [(.int (4 : Int32)), (.int (3 : Int32)), (.int p5)]) (rest := []) (lenOf pd_0_3 rfl) rfl (by show 2 * 0 + _ ≤ _; exact Nat.le_of_eq rfl) (hb hby at_104) (fun _ _ => ⟨rfl, rfl, (Nat.le_of_ble_eq_true rfl), (Nat.le_of_ble_eq_true rfl)⟩)
  dsimp only [Pt.U, Pt.locs, Pt.cells, Pt.slots] at X16 l16 y16 z16 st16 hQ16
  subst l16 y16 z16
  obtain ⟨rfl, N16q, e16⟩ := hQ16
  have K16 : Keep h0 T16.heap [] := K15.trans (own_keq e16) all0
  have N16 := Fr.app N15 N16q
  obtain ⟨clC1, ArC1, -, SC1, NC1, HC1, -⟩ := ((((VC.keep (own_keq e13) nin0).keep (own_keq e14) nin0).keep (own_keq e15) nin0).keep (own_keq e16) nin0)
  have HV1 : ∀ j, j < 4 → clC1.slots[j]? = some (.int (own_at [p2, p3, p4, p5] j)) := by
    intro j hj
    match j, hj with
    | 0, _ => exact HC1 0 (by rw [SC1]; decide)
    | 1, _ => exact HC1 1 (by rw [SC1]; decide)
    | 2, _ => exact HC1 2 (by rw [SC1]; decide)
    | 3, _ => exact HC1 3 (by rw [SC1]; decide)
  obtain ⟨cq17, kq17, q17a, q17b, q17c⟩ := isOf hZ rfl (((((E_b11.keep K12c).keep (own_keq e13)).keep (own_keq e14)).keep (own_keq e15)).keep (own_keq e16))
  obtain ⟨_, _, ⟨T17, L17, k17, n17⟩, -, X17, ⟨Lc17, hQ17, l17, y17, z17⟩, st17⟩ := X16.virtualBack hx (y := (⟨"com/example/tendril/tendril/WireColumns$Formats", "anyBinary", "()Z"⟩ : MethodName)) (z := (⟨"com/example/tendril/tendril/WireColumns$Formats", "anyBinary", "()Z"⟩ : MethodName)) hown (mvT hZ (hw _ (List.mem_of_getElem? (i := 26) rfl))) (mvT hZ (hw _ (List.mem_of_getElem? (i := 27) rfl))) (notFace_of_selects (args := #[]) (mvT hZ (hw _ (List.mem_of_getElem? (i := 29) rfl)))) (mvT hZ (hw _ (List.mem_of_getElem? (i := 29) rfl))) (mvT hZ (hw _ (List.mem_of_getElem? (i := 28) rfl))) (by decide) (backOf (W := 0) (rm4 l Z a0 hw [] b11 bC clC1 4 (own_at [p2, p3, p4, p5]) T16.heap n0 (Nat.le_trans Z0 K16.1) ((((FC.keep (own_keq e13) nin0).keep (own_keq e14) nin0).keep (own_keq e15) nin0).keep (own_keq e16) nin0) ArC1 (SC1.trans (by decide)) HV1 (by decide)) hZ (hw _ (List.mem_of_getElem? (i := 30) rfl)) (hw _ (List.mem_of_getElem? (i := 4) rfl)) (by decide) (by decide)) q17a q17c (g := (mkF m 119 #[.val (.int p1), .val (.int p2), .val (.int p3), .val (.int p4), .val (.int p5), .val (.int (4 : Int32)), .val (.ref b6), .val (.ref b11), .val (.int (1 : Int32)), .unset, .unset, .unset] [(.ref b11)])) rfl (by rw [hml]; rfl) (Steps.refl _) (argsL := []) (rest := []) (lenOf pd_0_4 rfl) rfl (by show 2 * 0 + _ ≤ _; exact Nat.le_of_eq rfl) (hb hby at_119) (fun _ _ => ⟨rfl, rfl, (Nat.le_of_ble_eq_true rfl), (Nat.le_of_ble_eq_true rfl)⟩)
  dsimp only [Pt.U, Pt.locs, Pt.cells, Pt.slots] at X17 l17 y17 z17 st17 hQ17
  subst l17 y17 z17
  obtain ⟨rfl, N17q, e17⟩ := hQ17
  have K17 : Keep h0 T17.heap [] := K16.trans (own_keq e17) all0
  have N17 := Fr.app N16 N17q
  obtain ⟨cl_b6_146, Ar_b6, q_b6, S_b6, N_b6, H_b6, G_b6⟩ := (((((((V_b6_10.ext E11).keep K12c (ninS ne_ao nin0)).keep (own_keq e13) nin0).keep (own_keq e14) nin0).keep (own_keq e15) nin0).keep (own_keq e16) nin0).keep (own_keq e17) nin0)
  have hin146 : ¬ ((0 : Int32) < 0 ∨ cl_b6_146.slots.size ≤ ((0 : Int32)).toNatClampNeg) := inb_of S_b6 ⟨by decide, by decide⟩
  obtain ⟨T18, h18, X18, e18, W18, st18⟩ := stI X17 hx hZ rfl Ar_b6 (j := (0 : Int32)) hin146 (g := (mkF m 146 #[.val (.int p1), .val (.int p2), .val (.int p3), .val (.int p4), .val (.int p5), .val (.int (4 : Int32)), .val (.ref b6), .val (.ref b11), .val (.int (1 : Int32)), .val (.int (own_anyf (own_at [p2, p3, p4, p5]) 4 0 0)), .val (.int (0 : Int32)), .unset] [(.int (0 : Int32)), (.int (0 : Int32)), (.ref b6)])) rfl rfl (hb hby at_146)
  have V_b6_18 := Arv.set Ar_b6 q_b6 S_b6 N_b6 H_b6 G_b6 rfl W18 0 rfl (Nat.le_of_ble_eq_true rfl)
  have K18 : Keep h0 h18 [] := K17.wr W18 (Or.inr sz_b6)
  have N18 := Fr.snoc X18 N17 g_b6
  obtain ⟨cl_b6_158, Ar_b6, q_b6, S_b6, N_b6, H_b6, G_b6⟩ := V_b6_18
  have hin158 : ¬ ((1 : Int32) < 0 ∨ cl_b6_158.slots.size ≤ ((1 : Int32)).toNatClampNeg) := inb_of S_b6 ⟨by decide, by decide⟩
  obtain ⟨T19, h19, X19, e19, W19, st19⟩ := stI X18 hx hZ e18 Ar_b6 (j := (1 : Int32)) hin158 (g := (mkF m 158 #[.val (.int p1), .val (.int p2), .val (.int p3), .val (.int p4), .val (.int p5), .val (.int (4 : Int32)), .val (.ref b6), .val (.ref b11), .val (.int (1 : Int32)), .val (.int (own_anyf (own_at [p2, p3, p4, p5]) 4 0 0)), .val (.int (0 : Int32)), .unset] [(.int (0 : Int32)), (.int (1 : Int32)), (.ref b6)])) rfl rfl (hb hby at_158)
  have V_b6_19 := Arv.set Ar_b6 q_b6 S_b6 N_b6 H_b6 G_b6 rfl W19 1 rfl (Nat.le_of_ble_eq_true rfl)
  have K19 : Keep h0 h19 [] := K18.wr W19 (Or.inr sz_b6)
  have N19 := Fr.snoc X19 N18 g_b6
  obtain ⟨cl_b6_170, Ar_b6, q_b6, S_b6, N_b6, H_b6, G_b6⟩ := V_b6_19
  have hin170 : ¬ ((2 : Int32) < 0 ∨ cl_b6_170.slots.size ≤ ((2 : Int32)).toNatClampNeg) := inb_of S_b6 ⟨by decide, by decide⟩
  obtain ⟨T20, h20, X20, e20, W20, st20⟩ := stI X19 hx hZ e19 Ar_b6 (j := (2 : Int32)) hin170 (g := (mkF m 170 #[.val (.int p1), .val (.int p2), .val (.int p3), .val (.int p4), .val (.int p5), .val (.int (4 : Int32)), .val (.ref b6), .val (.ref b11), .val (.int (1 : Int32)), .val (.int (own_anyf (own_at [p2, p3, p4, p5]) 4 0 0)), .val (.int (0 : Int32)), .unset] [(.int (0 : Int32)), (.int (2 : Int32)), (.ref b6)])) rfl rfl (hb hby at_170)
  have V_b6_20 := Arv.set Ar_b6 q_b6 S_b6 N_b6 H_b6 G_b6 rfl W20 2 rfl (Nat.le_of_ble_eq_true rfl)
  have K20 : Keep h0 h20 [] := K19.wr W20 (Or.inr sz_b6)
  have N20 := Fr.snoc X20 N19 g_b6
  obtain ⟨cl_b6_182, Ar_b6, q_b6, S_b6, N_b6, H_b6, G_b6⟩ := V_b6_20
  have hin182 : ¬ ((3 : Int32) < 0 ∨ cl_b6_182.slots.size ≤ ((3 : Int32)).toNatClampNeg) := inb_of S_b6 ⟨by decide, by decide⟩
  obtain ⟨T21, h21, X21, e21, W21, st21⟩ := stI X20 hx hZ e20 Ar_b6 (j := (3 : Int32)) hin182 (g := (mkF m 182 #[.val (.int p1), .val (.int p2), .val (.int p3), .val (.int p4), .val (.int p5), .val (.int (4 : Int32)), .val (.ref b6), .val (.ref b11), .val (.int (1 : Int32)), .val (.int (own_anyf (own_at [p2, p3, p4, p5]) 4 0 0)), .val (.int (0 : Int32)), .unset] [(.int (0 : Int32)), (.int (3 : Int32)), (.ref b6)])) rfl rfl (hb hby at_182)
  have V_b6_21 := Arv.set Ar_b6 q_b6 S_b6 N_b6 H_b6 G_b6 rfl W21 3 rfl (Nat.le_of_ble_eq_true rfl)
  have K21 : Keep h0 h21 [] := K20.wr W21 (Or.inr sz_b6)
  have N21 := Fr.snoc X21 N20 g_b6
  obtain ⟨clC2, ArC2, -, SC2, NC2, HC2, -⟩ := (((((((((VC.keep (own_keq e13) nin0).keep (own_keq e14) nin0).keep (own_keq e15) nin0).keep (own_keq e16) nin0).keep (own_keq e17) nin0).other W18 ne_Ca).other W19 ne_Ca).other W20 ne_Ca).other W21 ne_Ca)
  have HV2 : ∀ j, j < 4 → clC2.slots[j]? = some (.int (own_at [p2, p3, p4, p5] j)) := by
    intro j hj
    match j, hj with
    | 0, _ => exact HC2 0 (by rw [SC2]; decide)
    | 1, _ => exact HC2 1 (by rw [SC2]; decide)
    | 2, _ => exact HC2 2 (by rw [SC2]; decide)
    | 3, _ => exact HC2 3 (by rw [SC2]; decide)
  obtain ⟨cq22, kq22, q22a, q22b, q22c⟩ := isOf hZ e21 ((((((((((E_b11.keep K12c).keep (own_keq e13)).keep (own_keq e14)).keep (own_keq e15)).keep (own_keq e16)).keep (own_keq e17)).wr W18).wr W19).wr W20).wr W21)
  obtain ⟨_, _, ⟨T22, L22, k22, n22⟩, -, X22, ⟨Lc22, hQ22, l22, y22, z22⟩, st22⟩ := X21.virtualBack hx (y := (⟨"com/example/tendril/tendril/WireColumns$Formats", "anyBinary", "()Z"⟩ : MethodName)) (z := (⟨"com/example/tendril/tendril/WireColumns$Formats", "anyBinary", "()Z"⟩ : MethodName)) hown (mvT hZ (hw _ (List.mem_of_getElem? (i := 26) rfl))) (mvT hZ (hw _ (List.mem_of_getElem? (i := 27) rfl))) (notFace_of_selects (args := #[]) (mvT hZ (hw _ (List.mem_of_getElem? (i := 29) rfl)))) (mvT hZ (hw _ (List.mem_of_getElem? (i := 29) rfl))) (mvT hZ (hw _ (List.mem_of_getElem? (i := 28) rfl))) (by decide) (backOf (W := 0) (rm4 l Z a0 hw [] b11 bC clC2 4 (own_at [p2, p3, p4, p5]) h21 n0 (Nat.le_trans Z0 K21.1) (((((((((FC.keep (own_keq e13) nin0).keep (own_keq e14) nin0).keep (own_keq e15) nin0).keep (own_keq e16) nin0).keep (own_keq e17) nin0).other W18 (Or.inl (Ne.symm ne_ao))).other W19 (Or.inl (Ne.symm ne_ao))).other W20 (Or.inl (Ne.symm ne_ao))).other W21 (Or.inl (Ne.symm ne_ao))) ArC2 (SC2.trans (by decide)) HV2 (by decide)) hZ (hw _ (List.mem_of_getElem? (i := 30) rfl)) (hw _ (List.mem_of_getElem? (i := 4) rfl)) (by decide) (by decide)) q22a q22c (g := (mkF m 185 #[.val (.int p1), .val (.int p2), .val (.int p3), .val (.int p4), .val (.int p5), .val (.int (4 : Int32)), .val (.ref b6), .val (.ref b11), .val (.int (1 : Int32)), .val (.int (own_anyf (own_at [p2, p3, p4, p5]) 4 0 0)), .val (.int (0 : Int32)), .unset] [(.ref b11)])) rfl (by rw [hml]; rfl) (Steps.refl _) (argsL := []) (rest := []) (lenOf pd_0_4 rfl) rfl (by show 2 * 0 + _ ≤ _; exact Nat.le_of_eq rfl) (hb hby at_185) (fun _ _ => ⟨rfl, e21, (Nat.le_of_ble_eq_true rfl), (Nat.le_of_ble_eq_true rfl)⟩)
  dsimp only [Pt.U, Pt.locs, Pt.cells, Pt.slots] at X22 l22 y22 z22 st22 hQ22
  subst l22 y22 z22
  obtain ⟨rfl, N22q, e22⟩ := hQ22
  have K22 : Keep h0 T22.heap [] := K21.trans (own_keq e22) all0
  have N22 := Fr.app N21 N22q
  obtain ⟨fs, hr, hrun, hended, hW, hsame⟩ := X22.leave (v := some (.int (1 : Int32))) (fun h => by rw [Bd.returns] at h; cases h)
  refine ⟨_, _, pre0 _ ?_, hrun, hended, _, _, rfl, ?_, ⟨_, rfl⟩, hW, hsame.mono (by decide) (by decide)⟩
  · show Steps p.tables e below (s₁.setTop (mkF m 0 #[.val (.int p1), .val (.int p2), .val (.int p3), .val (.int p4), .val (.int p5), .unset, .unset, .unset, .unset, .unset, .unset, .unset] [])) _
    refine XS.iloadN X0.here hx rfl (hb hby at_0) rfl ?_
    show Steps p.tables e below (s₁.setTop (mkF m 1 #[.val (.int p1), .val (.int p2), .val (.int p3), .val (.int p4), .val (.int p5), .unset, .unset, .unset, .unset, .unset, .unset, .unset] [(.int p1)])) _
    refine X0.ldcInt hx hown (mvT hZ (hw _ (List.mem_of_getElem? (i := 0) rfl))) (g := (mkF m 1 #[.val (.int p1), .val (.int p2), .val (.int p3), .val (.int p4), .val (.int p5), .unset, .unset, .unset, .unset, .unset, .unset, .unset] [(.int p1)])) rfl (hb hby at_1) _ ?_
    show Steps p.tables e below (s₁.setTop (mkF m 3 #[.val (.int p1), .val (.int p2), .val (.int p3), .val (.int p4), .val (.int p5), .unset, .unset, .unset, .unset, .unset, .unset, .unset] [(.int (2147483647 : Int32)), (.int p1)])) _
    refine XS.iand X0.here hx rfl (hb hby at_3) rfl ?_
    show Steps p.tables e below (s₁.setTop (mkF m 4 #[.val (.int p1), .val (.int p2), .val (.int p3), .val (.int p4), .val (.int p5), .unset, .unset, .unset, .unset, .unset, .unset, .unset] [(.int (p1 &&& (2147483647 : Int32)))])) _
    refine XS.iconst X0.here hx rfl (hb hby at_4) ?_
    show Steps p.tables e below (s₁.setTop (mkF m 5 #[.val (.int p1), .val (.int p2), .val (.int p3), .val (.int p4), .val (.int p5), .unset, .unset, .unset, .unset, .unset, .unset, .unset] [(.int (5 : Int32)), (.int (p1 &&& (2147483647 : Int32)))])) _
    refine iremM X0 hx rfl (hb hby at_5) rfl (by decide) ?_
    rw [hp5]
    show Steps p.tables e below (s₁.setTop (mkF m 6 #[.val (.int p1), .val (.int p2), .val (.int p3), .val (.int p4), .val (.int p5), .unset, .unset, .unset, .unset, .unset, .unset, .unset] [(.int (4 : Int32))])) _
    refine XS.istore X0.here hx rfl (hb hby at_6) rfl (l' := #[.val (.int p1), .val (.int p2), .val (.int p3), .val (.int p4), .val (.int p5), .val (.int (4 : Int32)), .unset, .unset, .unset, .unset, .unset, .unset]) rfl ?_
    show Steps p.tables e below (s₁.setTop (mkF m 8 #[.val (.int p1), .val (.int p2), .val (.int p3), .val (.int p4), .val (.int p5), .val (.int (4 : Int32)), .unset, .unset, .unset, .unset, .unset, .unset] [])) _
    refine XS.iload X0.here hx rfl (hb hby at_8) rfl ?_
    show Steps p.tables e below (s₁.setTop (mkF m 10 #[.val (.int p1), .val (.int p2), .val (.int p3), .val (.int p4), .val (.int p5), .val (.int (4 : Int32)), .unset, .unset, .unset, .unset, .unset, .unset] [(.int (4 : Int32))])) _
    refine st6 _ ?_
    show Steps p.tables e below (T6.setTop (mkF m 12 #[.val (.int p1), .val (.int p2), .val (.int p3), .val (.int p4), .val (.int p5), .val (.int (4 : Int32)), .unset, .unset, .unset, .unset, .unset, .unset] [(.ref b6)])) _
    refine XS.astore X6.here hx rfl (hb hby at_12) rfl rfl (l' := #[.val (.int p1), .val (.int p2), .val (.int p3), .val (.int p4), .val (.int p5), .val (.int (4 : Int32)), .val (.ref b6), .unset, .unset, .unset, .unset, .unset]) rfl ?_
    show Steps p.tables e below (T6.setTop (mkF m 14 #[.val (.int p1), .val (.int p2), .val (.int p3), .val (.int p4), .val (.int p5), .val (.int (4 : Int32)), .val (.ref b6), .unset, .unset, .unset, .unset, .unset] [])) _
    refine XS.iload X6.here hx rfl (hb hby at_14) rfl ?_
    show Steps p.tables e below (T6.setTop (mkF m 16 #[.val (.int p1), .val (.int p2), .val (.int p3), .val (.int p4), .val (.int p5), .val (.int (4 : Int32)), .val (.ref b6), .unset, .unset, .unset, .unset, .unset] [(.int (4 : Int32))])) _
    refine XS.ifNo X6.here hx rfl (hb hby at_16) rfl ((if0 _ _).trans (tlt (by decide : (0 : Int32) < (4 : Int32))).2.2.2) ?_
    show Steps p.tables e below (T6.setTop (mkF m 19 #[.val (.int p1), .val (.int p2), .val (.int p3), .val (.int p4), .val (.int p5), .val (.int (4 : Int32)), .val (.ref b6), .unset, .unset, .unset, .unset, .unset] [])) _
    refine XS.aload X6.here hx rfl (hb hby at_19) rfl rfl ?_
    show Steps p.tables e below (T6.setTop (mkF m 21 #[.val (.int p1), .val (.int p2), .val (.int p3), .val (.int p4), .val (.int p5), .val (.int (4 : Int32)), .val (.ref b6), .unset, .unset, .unset, .unset, .unset] [(.ref b6)])) _
    refine XS.iconst X6.here hx rfl (hb hby at_21) ?_
    show Steps p.tables e below (T6.setTop (mkF m 22 #[.val (.int p1), .val (.int p2), .val (.int p3), .val (.int p4), .val (.int p5), .val (.int (4 : Int32)), .val (.ref b6), .unset, .unset, .unset, .unset, .unset] [(.int (0 : Int32)), (.ref b6)])) _
    refine XS.iloadN X6.here hx rfl (hb hby at_22) rfl ?_
    show Steps p.tables e below (T6.setTop (mkF m 23 #[.val (.int p1), .val (.int p2), .val (.int p3), .val (.int p4), .val (.int p5), .val (.int (4 : Int32)), .val (.ref b6), .unset, .unset, .unset, .unset, .unset] [(.int p2), (.int (0 : Int32)), (.ref b6)])) _
    refine st7 _ ?_
    show Steps p.tables e below (T7.setTop (mkF m 24 #[.val (.int p1), .val (.int p2), .val (.int p3), .val (.int p4), .val (.int p5), .val (.int (4 : Int32)), .val (.ref b6), .unset, .unset, .unset, .unset, .unset] [])) _
    refine XS.iload X7.here hx rfl (hb hby at_24) rfl ?_
    show Steps p.tables e below (T7.setTop (mkF m 26 #[.val (.int p1), .val (.int p2), .val (.int p3), .val (.int p4), .val (.int p5), .val (.int (4 : Int32)), .val (.ref b6), .unset, .unset, .unset, .unset, .unset] [(.int (4 : Int32))])) _
    refine XS.iconst X7.here hx rfl (hb hby at_26) ?_
    show Steps p.tables e below (T7.setTop (mkF m 27 #[.val (.int p1), .val (.int p2), .val (.int p3), .val (.int p4), .val (.int p5), .val (.int (4 : Int32)), .val (.ref b6), .unset, .unset, .unset, .unset, .unset] [(.int (1 : Int32)), (.int (4 : Int32))])) _
    refine XS.icmpNo X7.here hx rfl (hb hby at_27) rfl (tlt (by decide : (1 : Int32) < (4 : Int32))).2.2.2 ?_
    show Steps p.tables e below (T7.setTop (mkF m 30 #[.val (.int p1), .val (.int p2), .val (.int p3), .val (.int p4), .val (.int p5), .val (.int (4 : Int32)), .val (.ref b6), .unset, .unset, .unset, .unset, .unset] [])) _
    refine XS.aload X7.here hx rfl (hb hby at_30) rfl rfl ?_
    show Steps p.tables e below (T7.setTop (mkF m 32 #[.val (.int p1), .val (.int p2), .val (.int p3), .val (.int p4), .val (.int p5), .val (.int (4 : Int32)), .val (.ref b6), .unset, .unset, .unset, .unset, .unset] [(.ref b6)])) _
    refine XS.iconst X7.here hx rfl (hb hby at_32) ?_
    show Steps p.tables e below (T7.setTop (mkF m 33 #[.val (.int p1), .val (.int p2), .val (.int p3), .val (.int p4), .val (.int p5), .val (.int (4 : Int32)), .val (.ref b6), .unset, .unset, .unset, .unset, .unset] [(.int (1 : Int32)), (.ref b6)])) _
    refine XS.iloadN X7.here hx rfl (hb hby at_33) rfl ?_
    show Steps p.tables e below (T7.setTop (mkF m 34 #[.val (.int p1), .val (.int p2), .val (.int p3), .val (.int p4), .val (.int p5), .val (.int (4 : Int32)), .val (.ref b6), .unset, .unset, .unset, .unset, .unset] [(.int p3), (.int (1 : Int32)), (.ref b6)])) _
    refine st8 _ ?_
    show Steps p.tables e below (T8.setTop (mkF m 35 #[.val (.int p1), .val (.int p2), .val (.int p3), .val (.int p4), .val (.int p5), .val (.int (4 : Int32)), .val (.ref b6), .unset, .unset, .unset, .unset, .unset] [])) _
    refine XS.iload X8.here hx rfl (hb hby at_35) rfl ?_
    show Steps p.tables e below (T8.setTop (mkF m 37 #[.val (.int p1), .val (.int p2), .val (.int p3), .val (.int p4), .val (.int p5), .val (.int (4 : Int32)), .val (.ref b6), .unset, .unset, .unset, .unset, .unset] [(.int (4 : Int32))])) _
    refine XS.iconst X8.here hx rfl (hb hby at_37) ?_
    show Steps p.tables e below (T8.setTop (mkF m 38 #[.val (.int p1), .val (.int p2), .val (.int p3), .val (.int p4), .val (.int p5), .val (.int (4 : Int32)), .val (.ref b6), .unset, .unset, .unset, .unset, .unset] [(.int (2 : Int32)), (.int (4 : Int32))])) _
    refine XS.icmpNo X8.here hx rfl (hb hby at_38) rfl (tlt (by decide : (2 : Int32) < (4 : Int32))).2.2.2 ?_
    show Steps p.tables e below (T8.setTop (mkF m 41 #[.val (.int p1), .val (.int p2), .val (.int p3), .val (.int p4), .val (.int p5), .val (.int (4 : Int32)), .val (.ref b6), .unset, .unset, .unset, .unset, .unset] [])) _
    refine XS.aload X8.here hx rfl (hb hby at_41) rfl rfl ?_
    show Steps p.tables e below (T8.setTop (mkF m 43 #[.val (.int p1), .val (.int p2), .val (.int p3), .val (.int p4), .val (.int p5), .val (.int (4 : Int32)), .val (.ref b6), .unset, .unset, .unset, .unset, .unset] [(.ref b6)])) _
    refine XS.iconst X8.here hx rfl (hb hby at_43) ?_
    show Steps p.tables e below (T8.setTop (mkF m 44 #[.val (.int p1), .val (.int p2), .val (.int p3), .val (.int p4), .val (.int p5), .val (.int (4 : Int32)), .val (.ref b6), .unset, .unset, .unset, .unset, .unset] [(.int (2 : Int32)), (.ref b6)])) _
    refine XS.iloadN X8.here hx rfl (hb hby at_44) rfl ?_
    show Steps p.tables e below (T8.setTop (mkF m 45 #[.val (.int p1), .val (.int p2), .val (.int p3), .val (.int p4), .val (.int p5), .val (.int (4 : Int32)), .val (.ref b6), .unset, .unset, .unset, .unset, .unset] [(.int p4), (.int (2 : Int32)), (.ref b6)])) _
    refine st9 _ ?_
    show Steps p.tables e below (T9.setTop (mkF m 46 #[.val (.int p1), .val (.int p2), .val (.int p3), .val (.int p4), .val (.int p5), .val (.int (4 : Int32)), .val (.ref b6), .unset, .unset, .unset, .unset, .unset] [])) _
    refine XS.iload X9.here hx rfl (hb hby at_46) rfl ?_
    show Steps p.tables e below (T9.setTop (mkF m 48 #[.val (.int p1), .val (.int p2), .val (.int p3), .val (.int p4), .val (.int p5), .val (.int (4 : Int32)), .val (.ref b6), .unset, .unset, .unset, .unset, .unset] [(.int (4 : Int32))])) _
    refine XS.iconst X9.here hx rfl (hb hby at_48) ?_
    show Steps p.tables e below (T9.setTop (mkF m 49 #[.val (.int p1), .val (.int p2), .val (.int p3), .val (.int p4), .val (.int p5), .val (.int (4 : Int32)), .val (.ref b6), .unset, .unset, .unset, .unset, .unset] [(.int (3 : Int32)), (.int (4 : Int32))])) _
    refine XS.icmpNo X9.here hx rfl (hb hby at_49) rfl (tlt (by decide : (3 : Int32) < (4 : Int32))).2.2.2 ?_
    show Steps p.tables e below (T9.setTop (mkF m 52 #[.val (.int p1), .val (.int p2), .val (.int p3), .val (.int p4), .val (.int p5), .val (.int (4 : Int32)), .val (.ref b6), .unset, .unset, .unset, .unset, .unset] [])) _
    refine XS.aload X9.here hx rfl (hb hby at_52) rfl rfl ?_
    show Steps p.tables e below (T9.setTop (mkF m 54 #[.val (.int p1), .val (.int p2), .val (.int p3), .val (.int p4), .val (.int p5), .val (.int (4 : Int32)), .val (.ref b6), .unset, .unset, .unset, .unset, .unset] [(.ref b6)])) _
    refine XS.iconst X9.here hx rfl (hb hby at_54) ?_
    show Steps p.tables e below (T9.setTop (mkF m 55 #[.val (.int p1), .val (.int p2), .val (.int p3), .val (.int p4), .val (.int p5), .val (.int (4 : Int32)), .val (.ref b6), .unset, .unset, .unset, .unset, .unset] [(.int (3 : Int32)), (.ref b6)])) _
    refine XS.iload X9.here hx rfl (hb hby at_55) rfl ?_
    show Steps p.tables e below (T9.setTop (mkF m 57 #[.val (.int p1), .val (.int p2), .val (.int p3), .val (.int p4), .val (.int p5), .val (.int (4 : Int32)), .val (.ref b6), .unset, .unset, .unset, .unset, .unset] [(.int p5), (.int (3 : Int32)), (.ref b6)])) _
    refine st10 _ ?_
    show Steps p.tables e below (T10.setTop (mkF m 58 #[.val (.int p1), .val (.int p2), .val (.int p3), .val (.int p4), .val (.int p5), .val (.int (4 : Int32)), .val (.ref b6), .unset, .unset, .unset, .unset, .unset] [])) _
    refine st11 _ ?_
    show Steps p.tables e below (T11.setTop (mkF m 61 #[.val (.int p1), .val (.int p2), .val (.int p3), .val (.int p4), .val (.int p5), .val (.int (4 : Int32)), .val (.ref b6), .unset, .unset, .unset, .unset, .unset] [(.ref b11)])) _
    refine XS.dup X11.here hx rfl (hb hby at_61) rfl rfl ?_
    show Steps p.tables e below (T11.setTop (mkF m 62 #[.val (.int p1), .val (.int p2), .val (.int p3), .val (.int p4), .val (.int p5), .val (.int (4 : Int32)), .val (.ref b6), .unset, .unset, .unset, .unset, .unset] [(.ref b11), (.ref b11)])) _
    refine XS.aload X11.here hx rfl (hb hby at_62) rfl rfl ?_
    show Steps p.tables e below (T11.setTop (mkF m 64 #[.val (.int p1), .val (.int p2), .val (.int p3), .val (.int p4), .val (.int p5), .val (.int (4 : Int32)), .val (.ref b6), .unset, .unset, .unset, .unset, .unset] [(.ref b6), (.ref b11), (.ref b11)])) _
    refine st12.trans ?_
    show Steps p.tables e below (T12.setTop (mkF m 67 #[.val (.int p1), .val (.int p2), .val (.int p3), .val (.int p4), .val (.int p5), .val (.int (4 : Int32)), .val (.ref b6), .unset, .unset, .unset, .unset, .unset] [(.ref b11)])) _
    refine XS.astore X12.here hx rfl (hb hby at_67) rfl rfl (l' := #[.val (.int p1), .val (.int p2), .val (.int p3), .val (.int p4), .val (.int p5), .val (.int (4 : Int32)), .val (.ref b6), .val (.ref b11), .unset, .unset, .unset, .unset]) rfl ?_
    show Steps p.tables e below (T12.setTop (mkF m 69 #[.val (.int p1), .val (.int p2), .val (.int p3), .val (.int p4), .val (.int p5), .val (.int (4 : Int32)), .val (.ref b6), .val (.ref b11), .unset, .unset, .unset, .unset] [])) _
    refine XS.iload X12.here hx rfl (hb hby at_69) rfl ?_
    show Steps p.tables e below (T12.setTop (mkF m 71 #[.val (.int p1), .val (.int p2), .val (.int p3), .val (.int p4), .val (.int p5), .val (.int (4 : Int32)), .val (.ref b6), .val (.ref b11), .unset, .unset, .unset, .unset] [(.int (4 : Int32))])) _
    refine XS.iconst X12.here hx rfl (hb hby at_71) ?_
    show Steps p.tables e below (T12.setTop (mkF m 72 #[.val (.int p1), .val (.int p2), .val (.int p3), .val (.int p4), .val (.int p5), .val (.int (4 : Int32)), .val (.ref b6), .val (.ref b11), .unset, .unset, .unset, .unset] [(.int (0 : Int32)), (.int (4 : Int32))])) _
    refine XS.iloadN X12.here hx rfl (hb hby at_72) rfl ?_
    show Steps p.tables e below (T12.setTop (mkF m 73 #[.val (.int p1), .val (.int p2), .val (.int p3), .val (.int p4), .val (.int p5), .val (.int (4 : Int32)), .val (.ref b6), .val (.ref b11), .unset, .unset, .unset, .unset] [(.int p2), (.int (0 : Int32)), (.int (4 : Int32))])) _
    refine st13 _ ?_
    show Steps p.tables e below (T13.setTop (mkF m 76 #[.val (.int p1), .val (.int p2), .val (.int p3), .val (.int p4), .val (.int p5), .val (.int (4 : Int32)), .val (.ref b6), .val (.ref b11), .unset, .unset, .unset, .unset] [(.int (0 : Int32))])) _
    refine XS.ifNo X13.here hx rfl (hb hby at_76) rfl ((if0 _ _).trans (teq (by decide : (0 : Int32) = (0 : Int32))).2) ?_
    show Steps p.tables e below (T13.setTop (mkF m 79 #[.val (.int p1), .val (.int p2), .val (.int p3), .val (.int p4), .val (.int p5), .val (.int (4 : Int32)), .val (.ref b6), .val (.ref b11), .unset, .unset, .unset, .unset] [])) _
    refine XS.iload X13.here hx rfl (hb hby at_79) rfl ?_
    show Steps p.tables e below (T13.setTop (mkF m 81 #[.val (.int p1), .val (.int p2), .val (.int p3), .val (.int p4), .val (.int p5), .val (.int (4 : Int32)), .val (.ref b6), .val (.ref b11), .unset, .unset, .unset, .unset] [(.int (4 : Int32))])) _
    refine XS.iconst X13.here hx rfl (hb hby at_81) ?_
    show Steps p.tables e below (T13.setTop (mkF m 82 #[.val (.int p1), .val (.int p2), .val (.int p3), .val (.int p4), .val (.int p5), .val (.int (4 : Int32)), .val (.ref b6), .val (.ref b11), .unset, .unset, .unset, .unset] [(.int (1 : Int32)), (.int (4 : Int32))])) _
    refine XS.iloadN X13.here hx rfl (hb hby at_82) rfl ?_
    show Steps p.tables e below (T13.setTop (mkF m 83 #[.val (.int p1), .val (.int p2), .val (.int p3), .val (.int p4), .val (.int p5), .val (.int (4 : Int32)), .val (.ref b6), .val (.ref b11), .unset, .unset, .unset, .unset] [(.int p3), (.int (1 : Int32)), (.int (4 : Int32))])) _
    refine st14 _ ?_
    show Steps p.tables e below (T14.setTop (mkF m 86 #[.val (.int p1), .val (.int p2), .val (.int p3), .val (.int p4), .val (.int p5), .val (.int (4 : Int32)), .val (.ref b6), .val (.ref b11), .unset, .unset, .unset, .unset] [(.int (0 : Int32))])) _
    refine XS.ifNo X14.here hx rfl (hb hby at_86) rfl ((if0 _ _).trans (teq (by decide : (0 : Int32) = (0 : Int32))).2) ?_
    show Steps p.tables e below (T14.setTop (mkF m 89 #[.val (.int p1), .val (.int p2), .val (.int p3), .val (.int p4), .val (.int p5), .val (.int (4 : Int32)), .val (.ref b6), .val (.ref b11), .unset, .unset, .unset, .unset] [])) _
    refine XS.iload X14.here hx rfl (hb hby at_89) rfl ?_
    show Steps p.tables e below (T14.setTop (mkF m 91 #[.val (.int p1), .val (.int p2), .val (.int p3), .val (.int p4), .val (.int p5), .val (.int (4 : Int32)), .val (.ref b6), .val (.ref b11), .unset, .unset, .unset, .unset] [(.int (4 : Int32))])) _
    refine XS.iconst X14.here hx rfl (hb hby at_91) ?_
    show Steps p.tables e below (T14.setTop (mkF m 92 #[.val (.int p1), .val (.int p2), .val (.int p3), .val (.int p4), .val (.int p5), .val (.int (4 : Int32)), .val (.ref b6), .val (.ref b11), .unset, .unset, .unset, .unset] [(.int (2 : Int32)), (.int (4 : Int32))])) _
    refine XS.iloadN X14.here hx rfl (hb hby at_92) rfl ?_
    show Steps p.tables e below (T14.setTop (mkF m 93 #[.val (.int p1), .val (.int p2), .val (.int p3), .val (.int p4), .val (.int p5), .val (.int (4 : Int32)), .val (.ref b6), .val (.ref b11), .unset, .unset, .unset, .unset] [(.int p4), (.int (2 : Int32)), (.int (4 : Int32))])) _
    refine st15 _ ?_
    show Steps p.tables e below (T15.setTop (mkF m 96 #[.val (.int p1), .val (.int p2), .val (.int p3), .val (.int p4), .val (.int p5), .val (.int (4 : Int32)), .val (.ref b6), .val (.ref b11), .unset, .unset, .unset, .unset] [(.int (0 : Int32))])) _
    refine XS.ifNo X15.here hx rfl (hb hby at_96) rfl ((if0 _ _).trans (teq (by decide : (0 : Int32) = (0 : Int32))).2) ?_
    show Steps p.tables e below (T15.setTop (mkF m 99 #[.val (.int p1), .val (.int p2), .val (.int p3), .val (.int p4), .val (.int p5), .val (.int (4 : Int32)), .val (.ref b6), .val (.ref b11), .unset, .unset, .unset, .unset] [])) _
    refine XS.iload X15.here hx rfl (hb hby at_99) rfl ?_
    show Steps p.tables e below (T15.setTop (mkF m 101 #[.val (.int p1), .val (.int p2), .val (.int p3), .val (.int p4), .val (.int p5), .val (.int (4 : Int32)), .val (.ref b6), .val (.ref b11), .unset, .unset, .unset, .unset] [(.int (4 : Int32))])) _
    refine XS.iconst X15.here hx rfl (hb hby at_101) ?_
    show Steps p.tables e below (T15.setTop (mkF m 102 #[.val (.int p1), .val (.int p2), .val (.int p3), .val (.int p4), .val (.int p5), .val (.int (4 : Int32)), .val (.ref b6), .val (.ref b11), .unset, .unset, .unset, .unset] [(.int (3 : Int32)), (.int (4 : Int32))])) _
    refine XS.iload X15.here hx rfl (hb hby at_102) rfl ?_
    show Steps p.tables e below (T15.setTop (mkF m 104 #[.val (.int p1), .val (.int p2), .val (.int p3), .val (.int p4), .val (.int p5), .val (.int (4 : Int32)), .val (.ref b6), .val (.ref b11), .unset, .unset, .unset, .unset] [(.int p5), (.int (3 : Int32)), (.int (4 : Int32))])) _
    refine st16 _ ?_
    show Steps p.tables e below (T16.setTop (mkF m 107 #[.val (.int p1), .val (.int p2), .val (.int p3), .val (.int p4), .val (.int p5), .val (.int (4 : Int32)), .val (.ref b6), .val (.ref b11), .unset, .unset, .unset, .unset] [(.int (1 : Int32))])) _
    refine XS.ifNo X16.here hx rfl (hb hby at_107) rfl ((if0 _ _).trans (feq (by decide : ¬ ((1 : Int32) = (0 : Int32)))).1) ?_
    show Steps p.tables e below (T16.setTop (mkF m 110 #[.val (.int p1), .val (.int p2), .val (.int p3), .val (.int p4), .val (.int p5), .val (.int (4 : Int32)), .val (.ref b6), .val (.ref b11), .unset, .unset, .unset, .unset] [])) _
    refine XS.iconst X16.here hx rfl (hb hby at_110) ?_
    show Steps p.tables e below (T16.setTop (mkF m 111 #[.val (.int p1), .val (.int p2), .val (.int p3), .val (.int p4), .val (.int p5), .val (.int (4 : Int32)), .val (.ref b6), .val (.ref b11), .unset, .unset, .unset, .unset] [(.int (1 : Int32))])) _
    refine XS.goto X16.here hx rfl (pc0 := 111) (pc' := 115) rfl (hb hby at_111) (by decide) (by decide) ?_
    show Steps p.tables e below (T16.setTop (mkF m 115 #[.val (.int p1), .val (.int p2), .val (.int p3), .val (.int p4), .val (.int p5), .val (.int (4 : Int32)), .val (.ref b6), .val (.ref b11), .unset, .unset, .unset, .unset] [(.int (1 : Int32))])) _
    refine XS.istore X16.here hx rfl (hb hby at_115) rfl (l' := #[.val (.int p1), .val (.int p2), .val (.int p3), .val (.int p4), .val (.int p5), .val (.int (4 : Int32)), .val (.ref b6), .val (.ref b11), .val (.int (1 : Int32)), .unset, .unset, .unset]) rfl ?_
    show Steps p.tables e below (T16.setTop (mkF m 117 #[.val (.int p1), .val (.int p2), .val (.int p3), .val (.int p4), .val (.int p5), .val (.int (4 : Int32)), .val (.ref b6), .val (.ref b11), .val (.int (1 : Int32)), .unset, .unset, .unset] [])) _
    refine XS.aload X16.here hx rfl (hb hby at_117) rfl rfl ?_
    show Steps p.tables e below (T16.setTop (mkF m 119 #[.val (.int p1), .val (.int p2), .val (.int p3), .val (.int p4), .val (.int p5), .val (.int (4 : Int32)), .val (.ref b6), .val (.ref b11), .val (.int (1 : Int32)), .unset, .unset, .unset] [(.ref b11)])) _
    refine st17.trans ?_
    show Steps p.tables e below (T17.setTop (mkF m 122 #[.val (.int p1), .val (.int p2), .val (.int p3), .val (.int p4), .val (.int p5), .val (.int (4 : Int32)), .val (.ref b6), .val (.ref b11), .val (.int (1 : Int32)), .unset, .unset, .unset] [(.int (own_anyf (own_at [p2, p3, p4, p5]) 4 0 0))])) _
    refine XS.istore X17.here hx rfl (hb hby at_122) rfl (l' := #[.val (.int p1), .val (.int p2), .val (.int p3), .val (.int p4), .val (.int p5), .val (.int (4 : Int32)), .val (.ref b6), .val (.ref b11), .val (.int (1 : Int32)), .val (.int (own_anyf (own_at [p2, p3, p4, p5]) 4 0 0)), .unset, .unset]) rfl ?_
    show Steps p.tables e below (T17.setTop (mkF m 124 #[.val (.int p1), .val (.int p2), .val (.int p3), .val (.int p4), .val (.int p5), .val (.int (4 : Int32)), .val (.ref b6), .val (.ref b11), .val (.int (1 : Int32)), .val (.int (own_anyf (own_at [p2, p3, p4, p5]) 4 0 0)), .unset, .unset] [])) _
    refine XS.iload X17.here hx rfl (hb hby at_124) rfl ?_
    show Steps p.tables e below (T17.setTop (mkF m 126 #[.val (.int p1), .val (.int p2), .val (.int p3), .val (.int p4), .val (.int p5), .val (.int (4 : Int32)), .val (.ref b6), .val (.ref b11), .val (.int (1 : Int32)), .val (.int (own_anyf (own_at [p2, p3, p4, p5]) 4 0 0)), .unset, .unset] [(.int (1 : Int32))])) _
    refine XS.ifNo X17.here hx rfl (hb hby at_126) rfl ((if0 _ _).trans (feq (by decide : ¬ ((1 : Int32) = (0 : Int32)))).1) ?_
    show Steps p.tables e below (T17.setTop (mkF m 129 #[.val (.int p1), .val (.int p2), .val (.int p3), .val (.int p4), .val (.int p5), .val (.int (4 : Int32)), .val (.ref b6), .val (.ref b11), .val (.int (1 : Int32)), .val (.int (own_anyf (own_at [p2, p3, p4, p5]) 4 0 0)), .unset, .unset] [])) _
    refine XS.iconst X17.here hx rfl (hb hby at_129) ?_
    show Steps p.tables e below (T17.setTop (mkF m 130 #[.val (.int p1), .val (.int p2), .val (.int p3), .val (.int p4), .val (.int p5), .val (.int (4 : Int32)), .val (.ref b6), .val (.ref b11), .val (.int (1 : Int32)), .val (.int (own_anyf (own_at [p2, p3, p4, p5]) 4 0 0)), .unset, .unset] [(.int (0 : Int32))])) _
    refine XS.goto X17.here hx rfl (pc0 := 130) (pc' := 134) rfl (hb hby at_130) (by decide) (by decide) ?_
    show Steps p.tables e below (T17.setTop (mkF m 134 #[.val (.int p1), .val (.int p2), .val (.int p3), .val (.int p4), .val (.int p5), .val (.int (4 : Int32)), .val (.ref b6), .val (.ref b11), .val (.int (1 : Int32)), .val (.int (own_anyf (own_at [p2, p3, p4, p5]) 4 0 0)), .unset, .unset] [(.int (0 : Int32))])) _
    refine XS.istore X17.here hx rfl (hb hby at_134) rfl (l' := #[.val (.int p1), .val (.int p2), .val (.int p3), .val (.int p4), .val (.int p5), .val (.int (4 : Int32)), .val (.ref b6), .val (.ref b11), .val (.int (1 : Int32)), .val (.int (own_anyf (own_at [p2, p3, p4, p5]) 4 0 0)), .val (.int (0 : Int32)), .unset]) rfl ?_
    show Steps p.tables e below (T17.setTop (mkF m 136 #[.val (.int p1), .val (.int p2), .val (.int p3), .val (.int p4), .val (.int p5), .val (.int (4 : Int32)), .val (.ref b6), .val (.ref b11), .val (.int (1 : Int32)), .val (.int (own_anyf (own_at [p2, p3, p4, p5]) 4 0 0)), .val (.int (0 : Int32)), .unset] [])) _
    refine XS.iload X17.here hx rfl (hb hby at_136) rfl ?_
    show Steps p.tables e below (T17.setTop (mkF m 138 #[.val (.int p1), .val (.int p2), .val (.int p3), .val (.int p4), .val (.int p5), .val (.int (4 : Int32)), .val (.ref b6), .val (.ref b11), .val (.int (1 : Int32)), .val (.int (own_anyf (own_at [p2, p3, p4, p5]) 4 0 0)), .val (.int (0 : Int32)), .unset] [(.int (4 : Int32))])) _
    refine XS.ifNo X17.here hx rfl (hb hby at_138) rfl ((if0 _ _).trans (tlt (by decide : (0 : Int32) < (4 : Int32))).2.2.2) ?_
    show Steps p.tables e below (T17.setTop (mkF m 141 #[.val (.int p1), .val (.int p2), .val (.int p3), .val (.int p4), .val (.int p5), .val (.int (4 : Int32)), .val (.ref b6), .val (.ref b11), .val (.int (1 : Int32)), .val (.int (own_anyf (own_at [p2, p3, p4, p5]) 4 0 0)), .val (.int (0 : Int32)), .unset] [])) _
    refine XS.aload X17.here hx rfl (hb hby at_141) rfl rfl ?_
    show Steps p.tables e below (T17.setTop (mkF m 143 #[.val (.int p1), .val (.int p2), .val (.int p3), .val (.int p4), .val (.int p5), .val (.int (4 : Int32)), .val (.ref b6), .val (.ref b11), .val (.int (1 : Int32)), .val (.int (own_anyf (own_at [p2, p3, p4, p5]) 4 0 0)), .val (.int (0 : Int32)), .unset] [(.ref b6)])) _
    refine XS.iconst X17.here hx rfl (hb hby at_143) ?_
    show Steps p.tables e below (T17.setTop (mkF m 144 #[.val (.int p1), .val (.int p2), .val (.int p3), .val (.int p4), .val (.int p5), .val (.int (4 : Int32)), .val (.ref b6), .val (.ref b11), .val (.int (1 : Int32)), .val (.int (own_anyf (own_at [p2, p3, p4, p5]) 4 0 0)), .val (.int (0 : Int32)), .unset] [(.int (0 : Int32)), (.ref b6)])) _
    refine XS.iload X17.here hx rfl (hb hby at_144) rfl ?_
    show Steps p.tables e below (T17.setTop (mkF m 146 #[.val (.int p1), .val (.int p2), .val (.int p3), .val (.int p4), .val (.int p5), .val (.int (4 : Int32)), .val (.ref b6), .val (.ref b11), .val (.int (1 : Int32)), .val (.int (own_anyf (own_at [p2, p3, p4, p5]) 4 0 0)), .val (.int (0 : Int32)), .unset] [(.int (0 : Int32)), (.int (0 : Int32)), (.ref b6)])) _
    refine st18 _ ?_
    show Steps p.tables e below (T18.setTop (mkF m 147 #[.val (.int p1), .val (.int p2), .val (.int p3), .val (.int p4), .val (.int p5), .val (.int (4 : Int32)), .val (.ref b6), .val (.ref b11), .val (.int (1 : Int32)), .val (.int (own_anyf (own_at [p2, p3, p4, p5]) 4 0 0)), .val (.int (0 : Int32)), .unset] [])) _
    refine XS.iload X18.here hx rfl (hb hby at_147) rfl ?_
    show Steps p.tables e below (T18.setTop (mkF m 149 #[.val (.int p1), .val (.int p2), .val (.int p3), .val (.int p4), .val (.int p5), .val (.int (4 : Int32)), .val (.ref b6), .val (.ref b11), .val (.int (1 : Int32)), .val (.int (own_anyf (own_at [p2, p3, p4, p5]) 4 0 0)), .val (.int (0 : Int32)), .unset] [(.int (4 : Int32))])) _
    refine XS.iconst X18.here hx rfl (hb hby at_149) ?_
    show Steps p.tables e below (T18.setTop (mkF m 150 #[.val (.int p1), .val (.int p2), .val (.int p3), .val (.int p4), .val (.int p5), .val (.int (4 : Int32)), .val (.ref b6), .val (.ref b11), .val (.int (1 : Int32)), .val (.int (own_anyf (own_at [p2, p3, p4, p5]) 4 0 0)), .val (.int (0 : Int32)), .unset] [(.int (1 : Int32)), (.int (4 : Int32))])) _
    refine XS.icmpNo X18.here hx rfl (hb hby at_150) rfl (tlt (by decide : (1 : Int32) < (4 : Int32))).2.2.2 ?_
    show Steps p.tables e below (T18.setTop (mkF m 153 #[.val (.int p1), .val (.int p2), .val (.int p3), .val (.int p4), .val (.int p5), .val (.int (4 : Int32)), .val (.ref b6), .val (.ref b11), .val (.int (1 : Int32)), .val (.int (own_anyf (own_at [p2, p3, p4, p5]) 4 0 0)), .val (.int (0 : Int32)), .unset] [])) _
    refine XS.aload X18.here hx rfl (hb hby at_153) rfl rfl ?_
    show Steps p.tables e below (T18.setTop (mkF m 155 #[.val (.int p1), .val (.int p2), .val (.int p3), .val (.int p4), .val (.int p5), .val (.int (4 : Int32)), .val (.ref b6), .val (.ref b11), .val (.int (1 : Int32)), .val (.int (own_anyf (own_at [p2, p3, p4, p5]) 4 0 0)), .val (.int (0 : Int32)), .unset] [(.ref b6)])) _
    refine XS.iconst X18.here hx rfl (hb hby at_155) ?_
    show Steps p.tables e below (T18.setTop (mkF m 156 #[.val (.int p1), .val (.int p2), .val (.int p3), .val (.int p4), .val (.int p5), .val (.int (4 : Int32)), .val (.ref b6), .val (.ref b11), .val (.int (1 : Int32)), .val (.int (own_anyf (own_at [p2, p3, p4, p5]) 4 0 0)), .val (.int (0 : Int32)), .unset] [(.int (1 : Int32)), (.ref b6)])) _
    refine XS.iload X18.here hx rfl (hb hby at_156) rfl ?_
    show Steps p.tables e below (T18.setTop (mkF m 158 #[.val (.int p1), .val (.int p2), .val (.int p3), .val (.int p4), .val (.int p5), .val (.int (4 : Int32)), .val (.ref b6), .val (.ref b11), .val (.int (1 : Int32)), .val (.int (own_anyf (own_at [p2, p3, p4, p5]) 4 0 0)), .val (.int (0 : Int32)), .unset] [(.int (0 : Int32)), (.int (1 : Int32)), (.ref b6)])) _
    refine st19 _ ?_
    show Steps p.tables e below (T19.setTop (mkF m 159 #[.val (.int p1), .val (.int p2), .val (.int p3), .val (.int p4), .val (.int p5), .val (.int (4 : Int32)), .val (.ref b6), .val (.ref b11), .val (.int (1 : Int32)), .val (.int (own_anyf (own_at [p2, p3, p4, p5]) 4 0 0)), .val (.int (0 : Int32)), .unset] [])) _
    refine XS.iload X19.here hx rfl (hb hby at_159) rfl ?_
    show Steps p.tables e below (T19.setTop (mkF m 161 #[.val (.int p1), .val (.int p2), .val (.int p3), .val (.int p4), .val (.int p5), .val (.int (4 : Int32)), .val (.ref b6), .val (.ref b11), .val (.int (1 : Int32)), .val (.int (own_anyf (own_at [p2, p3, p4, p5]) 4 0 0)), .val (.int (0 : Int32)), .unset] [(.int (4 : Int32))])) _
    refine XS.iconst X19.here hx rfl (hb hby at_161) ?_
    show Steps p.tables e below (T19.setTop (mkF m 162 #[.val (.int p1), .val (.int p2), .val (.int p3), .val (.int p4), .val (.int p5), .val (.int (4 : Int32)), .val (.ref b6), .val (.ref b11), .val (.int (1 : Int32)), .val (.int (own_anyf (own_at [p2, p3, p4, p5]) 4 0 0)), .val (.int (0 : Int32)), .unset] [(.int (2 : Int32)), (.int (4 : Int32))])) _
    refine XS.icmpNo X19.here hx rfl (hb hby at_162) rfl (tlt (by decide : (2 : Int32) < (4 : Int32))).2.2.2 ?_
    show Steps p.tables e below (T19.setTop (mkF m 165 #[.val (.int p1), .val (.int p2), .val (.int p3), .val (.int p4), .val (.int p5), .val (.int (4 : Int32)), .val (.ref b6), .val (.ref b11), .val (.int (1 : Int32)), .val (.int (own_anyf (own_at [p2, p3, p4, p5]) 4 0 0)), .val (.int (0 : Int32)), .unset] [])) _
    refine XS.aload X19.here hx rfl (hb hby at_165) rfl rfl ?_
    show Steps p.tables e below (T19.setTop (mkF m 167 #[.val (.int p1), .val (.int p2), .val (.int p3), .val (.int p4), .val (.int p5), .val (.int (4 : Int32)), .val (.ref b6), .val (.ref b11), .val (.int (1 : Int32)), .val (.int (own_anyf (own_at [p2, p3, p4, p5]) 4 0 0)), .val (.int (0 : Int32)), .unset] [(.ref b6)])) _
    refine XS.iconst X19.here hx rfl (hb hby at_167) ?_
    show Steps p.tables e below (T19.setTop (mkF m 168 #[.val (.int p1), .val (.int p2), .val (.int p3), .val (.int p4), .val (.int p5), .val (.int (4 : Int32)), .val (.ref b6), .val (.ref b11), .val (.int (1 : Int32)), .val (.int (own_anyf (own_at [p2, p3, p4, p5]) 4 0 0)), .val (.int (0 : Int32)), .unset] [(.int (2 : Int32)), (.ref b6)])) _
    refine XS.iload X19.here hx rfl (hb hby at_168) rfl ?_
    show Steps p.tables e below (T19.setTop (mkF m 170 #[.val (.int p1), .val (.int p2), .val (.int p3), .val (.int p4), .val (.int p5), .val (.int (4 : Int32)), .val (.ref b6), .val (.ref b11), .val (.int (1 : Int32)), .val (.int (own_anyf (own_at [p2, p3, p4, p5]) 4 0 0)), .val (.int (0 : Int32)), .unset] [(.int (0 : Int32)), (.int (2 : Int32)), (.ref b6)])) _
    refine st20 _ ?_
    show Steps p.tables e below (T20.setTop (mkF m 171 #[.val (.int p1), .val (.int p2), .val (.int p3), .val (.int p4), .val (.int p5), .val (.int (4 : Int32)), .val (.ref b6), .val (.ref b11), .val (.int (1 : Int32)), .val (.int (own_anyf (own_at [p2, p3, p4, p5]) 4 0 0)), .val (.int (0 : Int32)), .unset] [])) _
    refine XS.iload X20.here hx rfl (hb hby at_171) rfl ?_
    show Steps p.tables e below (T20.setTop (mkF m 173 #[.val (.int p1), .val (.int p2), .val (.int p3), .val (.int p4), .val (.int p5), .val (.int (4 : Int32)), .val (.ref b6), .val (.ref b11), .val (.int (1 : Int32)), .val (.int (own_anyf (own_at [p2, p3, p4, p5]) 4 0 0)), .val (.int (0 : Int32)), .unset] [(.int (4 : Int32))])) _
    refine XS.iconst X20.here hx rfl (hb hby at_173) ?_
    show Steps p.tables e below (T20.setTop (mkF m 174 #[.val (.int p1), .val (.int p2), .val (.int p3), .val (.int p4), .val (.int p5), .val (.int (4 : Int32)), .val (.ref b6), .val (.ref b11), .val (.int (1 : Int32)), .val (.int (own_anyf (own_at [p2, p3, p4, p5]) 4 0 0)), .val (.int (0 : Int32)), .unset] [(.int (3 : Int32)), (.int (4 : Int32))])) _
    refine XS.icmpNo X20.here hx rfl (hb hby at_174) rfl (tlt (by decide : (3 : Int32) < (4 : Int32))).2.2.2 ?_
    show Steps p.tables e below (T20.setTop (mkF m 177 #[.val (.int p1), .val (.int p2), .val (.int p3), .val (.int p4), .val (.int p5), .val (.int (4 : Int32)), .val (.ref b6), .val (.ref b11), .val (.int (1 : Int32)), .val (.int (own_anyf (own_at [p2, p3, p4, p5]) 4 0 0)), .val (.int (0 : Int32)), .unset] [])) _
    refine XS.aload X20.here hx rfl (hb hby at_177) rfl rfl ?_
    show Steps p.tables e below (T20.setTop (mkF m 179 #[.val (.int p1), .val (.int p2), .val (.int p3), .val (.int p4), .val (.int p5), .val (.int (4 : Int32)), .val (.ref b6), .val (.ref b11), .val (.int (1 : Int32)), .val (.int (own_anyf (own_at [p2, p3, p4, p5]) 4 0 0)), .val (.int (0 : Int32)), .unset] [(.ref b6)])) _
    refine XS.iconst X20.here hx rfl (hb hby at_179) ?_
    show Steps p.tables e below (T20.setTop (mkF m 180 #[.val (.int p1), .val (.int p2), .val (.int p3), .val (.int p4), .val (.int p5), .val (.int (4 : Int32)), .val (.ref b6), .val (.ref b11), .val (.int (1 : Int32)), .val (.int (own_anyf (own_at [p2, p3, p4, p5]) 4 0 0)), .val (.int (0 : Int32)), .unset] [(.int (3 : Int32)), (.ref b6)])) _
    refine XS.iload X20.here hx rfl (hb hby at_180) rfl ?_
    show Steps p.tables e below (T20.setTop (mkF m 182 #[.val (.int p1), .val (.int p2), .val (.int p3), .val (.int p4), .val (.int p5), .val (.int (4 : Int32)), .val (.ref b6), .val (.ref b11), .val (.int (1 : Int32)), .val (.int (own_anyf (own_at [p2, p3, p4, p5]) 4 0 0)), .val (.int (0 : Int32)), .unset] [(.int (0 : Int32)), (.int (3 : Int32)), (.ref b6)])) _
    refine st21 _ ?_
    show Steps p.tables e below (T21.setTop (mkF m 183 #[.val (.int p1), .val (.int p2), .val (.int p3), .val (.int p4), .val (.int p5), .val (.int (4 : Int32)), .val (.ref b6), .val (.ref b11), .val (.int (1 : Int32)), .val (.int (own_anyf (own_at [p2, p3, p4, p5]) 4 0 0)), .val (.int (0 : Int32)), .unset] [])) _
    refine XS.aload X21.here hx rfl (hb hby at_183) rfl rfl ?_
    show Steps p.tables e below (T21.setTop (mkF m 185 #[.val (.int p1), .val (.int p2), .val (.int p3), .val (.int p4), .val (.int p5), .val (.int (4 : Int32)), .val (.ref b6), .val (.ref b11), .val (.int (1 : Int32)), .val (.int (own_anyf (own_at [p2, p3, p4, p5]) 4 0 0)), .val (.int (0 : Int32)), .unset] [(.ref b11)])) _
    refine st22.trans ?_
    show Steps p.tables e below (T22.setTop (mkF m 188 #[.val (.int p1), .val (.int p2), .val (.int p3), .val (.int p4), .val (.int p5), .val (.int (4 : Int32)), .val (.ref b6), .val (.ref b11), .val (.int (1 : Int32)), .val (.int (own_anyf (own_at [p2, p3, p4, p5]) 4 0 0)), .val (.int (0 : Int32)), .unset] [(.int (own_anyf (own_at [p2, p3, p4, p5]) 4 0 0))])) _
    refine XS.istore X22.here hx rfl (hb hby at_188) rfl (l' := #[.val (.int p1), .val (.int p2), .val (.int p3), .val (.int p4), .val (.int p5), .val (.int (4 : Int32)), .val (.ref b6), .val (.ref b11), .val (.int (1 : Int32)), .val (.int (own_anyf (own_at [p2, p3, p4, p5]) 4 0 0)), .val (.int (0 : Int32)), .val (.int (own_anyf (own_at [p2, p3, p4, p5]) 4 0 0))]) rfl ?_
    show Steps p.tables e below (T22.setTop (mkF m 190 #[.val (.int p1), .val (.int p2), .val (.int p3), .val (.int p4), .val (.int p5), .val (.int (4 : Int32)), .val (.ref b6), .val (.ref b11), .val (.int (1 : Int32)), .val (.int (own_anyf (own_at [p2, p3, p4, p5]) 4 0 0)), .val (.int (0 : Int32)), .val (.int (own_anyf (own_at [p2, p3, p4, p5]) 4 0 0))] [])) _
    refine XS.iload X22.here hx rfl (hb hby at_190) rfl ?_
    show Steps p.tables e below (T22.setTop (mkF m 192 #[.val (.int p1), .val (.int p2), .val (.int p3), .val (.int p4), .val (.int p5), .val (.int (4 : Int32)), .val (.ref b6), .val (.ref b11), .val (.int (1 : Int32)), .val (.int (own_anyf (own_at [p2, p3, p4, p5]) 4 0 0)), .val (.int (0 : Int32)), .val (.int (own_anyf (own_at [p2, p3, p4, p5]) 4 0 0))] [(.int (own_anyf (own_at [p2, p3, p4, p5]) 4 0 0))])) _
    refine XS.iload X22.here hx rfl (hb hby at_192) rfl ?_
    show Steps p.tables e below (T22.setTop (mkF m 194 #[.val (.int p1), .val (.int p2), .val (.int p3), .val (.int p4), .val (.int p5), .val (.int (4 : Int32)), .val (.ref b6), .val (.ref b11), .val (.int (1 : Int32)), .val (.int (own_anyf (own_at [p2, p3, p4, p5]) 4 0 0)), .val (.int (0 : Int32)), .val (.int (own_anyf (own_at [p2, p3, p4, p5]) 4 0 0))] [(.int (1 : Int32)), (.int (own_anyf (own_at [p2, p3, p4, p5]) 4 0 0))])) _
    refine XS.icmpNo X22.here hx rfl (hb hby at_194) rfl (teq (own_ok : (own_anyf (own_at [p2, p3, p4, p5]) 4 0 0) = (1 : Int32))).2 ?_
    show Steps p.tables e below (T22.setTop (mkF m 197 #[.val (.int p1), .val (.int p2), .val (.int p3), .val (.int p4), .val (.int p5), .val (.int (4 : Int32)), .val (.ref b6), .val (.ref b11), .val (.int (1 : Int32)), .val (.int (own_anyf (own_at [p2, p3, p4, p5]) 4 0 0)), .val (.int (0 : Int32)), .val (.int (own_anyf (own_at [p2, p3, p4, p5]) 4 0 0))] [])) _
    refine XS.iload X22.here hx rfl (hb hby at_197) rfl ?_
    show Steps p.tables e below (T22.setTop (mkF m 199 #[.val (.int p1), .val (.int p2), .val (.int p3), .val (.int p4), .val (.int p5), .val (.int (4 : Int32)), .val (.ref b6), .val (.ref b11), .val (.int (1 : Int32)), .val (.int (own_anyf (own_at [p2, p3, p4, p5]) 4 0 0)), .val (.int (0 : Int32)), .val (.int (own_anyf (own_at [p2, p3, p4, p5]) 4 0 0))] [(.int (own_anyf (own_at [p2, p3, p4, p5]) 4 0 0))])) _
    refine XS.iload X22.here hx rfl (hb hby at_199) rfl ?_
    show Steps p.tables e below (T22.setTop (mkF m 201 #[.val (.int p1), .val (.int p2), .val (.int p3), .val (.int p4), .val (.int p5), .val (.int (4 : Int32)), .val (.ref b6), .val (.ref b11), .val (.int (1 : Int32)), .val (.int (own_anyf (own_at [p2, p3, p4, p5]) 4 0 0)), .val (.int (0 : Int32)), .val (.int (own_anyf (own_at [p2, p3, p4, p5]) 4 0 0))] [(.int (1 : Int32)), (.int (own_anyf (own_at [p2, p3, p4, p5]) 4 0 0))])) _
    refine XS.icmpNo X22.here hx rfl (hb hby at_201) rfl (teq (own_ok : (own_anyf (own_at [p2, p3, p4, p5]) 4 0 0) = (1 : Int32))).2 ?_
    show Steps p.tables e below (T22.setTop (mkF m 204 #[.val (.int p1), .val (.int p2), .val (.int p3), .val (.int p4), .val (.int p5), .val (.int (4 : Int32)), .val (.ref b6), .val (.ref b11), .val (.int (1 : Int32)), .val (.int (own_anyf (own_at [p2, p3, p4, p5]) 4 0 0)), .val (.int (0 : Int32)), .val (.int (own_anyf (own_at [p2, p3, p4, p5]) 4 0 0))] [])) _
    refine XS.iconst X22.here hx rfl (hb hby at_204) ?_
    show Steps p.tables e below (T22.setTop (mkF m 205 #[.val (.int p1), .val (.int p2), .val (.int p3), .val (.int p4), .val (.int p5), .val (.int (4 : Int32)), .val (.ref b6), .val (.ref b11), .val (.int (1 : Int32)), .val (.int (own_anyf (own_at [p2, p3, p4, p5]) 4 0 0)), .val (.int (0 : Int32)), .val (.int (own_anyf (own_at [p2, p3, p4, p5]) 4 0 0))] [(.int (1 : Int32))])) _
    refine XS.goto X22.here hx rfl (pc0 := 205) (pc' := 209) rfl (hb hby at_205) (by decide) (by decide) ?_
    show Steps p.tables e below (T22.setTop (mkF m 209 #[.val (.int p1), .val (.int p2), .val (.int p3), .val (.int p4), .val (.int p5), .val (.int (4 : Int32)), .val (.ref b6), .val (.ref b11), .val (.int (1 : Int32)), .val (.int (own_anyf (own_at [p2, p3, p4, p5]) 4 0 0)), .val (.int (0 : Int32)), .val (.int (own_anyf (own_at [p2, p3, p4, p5]) 4 0 0))] [(.int (1 : Int32))])) _
    exact retN X22 hx (t := .boolean) Bd.returns (by simp) (hb hby at_209) hr
  · show Q0_43 Z p1 p2 p3 p4 p5 h0 n0 _ T22.heap _
    exact ⟨rfl, N22⟩
def Q0_44 (Z : State) (p1 : Int32) (p2 : Int32) (p3 : Int32) (p4 : Int32) (p5 : Int32) (h0 : Heap) (n0 : Nat) (v : Option Value) (h : Heap) (L : List Loc) : Prop := v = some (.int (1 : Int32)) ∧ Fr n0 L
set_option maxRecDepth 65536 in
set_option maxHeartbeats 40000000 in
theorem rm0_44 (l : Launch) (Z : State) (a0 : Array Value) (hw : ∀ d ∈ tables_1, d.before a0 Z = true) (ws : List Jvm.Cond) (p1 : Int32) (p2 : Int32) (p3 : Int32) (p4 : Int32) (p5 : Int32) (h0 : Heap) (n0 : Nat) (Z0 : n0 ≤ h0.size) (hp5 : ((p1 &&& (2147483647 : Int32)) % (5 : Int32)) = (4 : Int32)) (ch0 : ¬ (p2 = (1 : Int32))) (ch1 : ¬ (p3 = (1 : Int32))) (ch2 : ¬ (p4 = (1 : Int32))) (ch3 : ¬ (p5 = (1 : Int32))) :
    MetFree l x (head1 (Jvm.Cond.code x code maxLocals ret :: ws) room_1) (fun a U => a = #[(.int p1), (.int p2), (.int p3), (.int p4), (.int p5)] ∧ Z.Warmed39 U.vm ∧ U.heap = h0) (fun _ _ _ _ _ => True) (fun _ U o U' => ∃ v L, o = .returned v ∧ Q0_44 Z p1 p2 p3 p4 p5 h0 n0 v U'.heap L ∧ FrameEnd U o U' L room_1.cells room_1.slots) := by
  refine MetFree.of_bodySF (plainFor_of_name pn_0) hisR ?_
  intro p e s m args below meth c s₁ Bd hml0 hP hK
  obtain ⟨rfl, hZ, hh⟩ := hP
  have own_ok : (own_anyf (own_at [p2, p3, p4, p5]) 4 0 0) = (0 : Int32) := by
    simp [own_anyf, own_or, own_at, ch0, ch1, ch2, ch3]
  have hx := Bd.exec
  have hby := Bd.bytes
  have hml : c.maxLocals = 12 := hml0
  have hown : s.vm.findClass "com/example/tendril/tendril/FormatsAnyBinaryPinLaw" = some m.cls := findClass_of_methodNamed Bd.named
  have hnm := (name_of_methodNamed Bd.named Bd.method).1
  have X0 : Stand p l e room_1 s m #[(.int p1), (.int p2), (.int p3), (.int p4), (.int p5)] below meth c s₁ [] 0 0 := Stand.of_body Bd
  have e0 : s₁.heap = h0 := by rw [← hh, Bd.state]; rfl
  have N0 := Fr.nil n0
  have pre0 : ∀ t, Steps p.tables e below (s₁.setTop (mkF m 0 #[.val (.int p1), .val (.int p2), .val (.int p3), .val (.int p4), .val (.int p5), .unset, .unset, .unset, .unset, .unset, .unset, .unset] [])) t → Steps p.tables e below (s₁.setTop (entryFrame m #[(.int p1), (.int p2), (.int p3), (.int p4), (.int p5)] maxLocals)) t := fun t k => castTop (ef_0 m p1 p2 p3 p4 p5) k
  obtain ⟨T6, h6, k6, X6, e6, E6, A6, Ea6, st6⟩ := newPE X0 hx hZ (hw _ (List.mem_of_getElem? (i := 1) rfl)) e0 (g := (mkF m 10 #[.val (.int p1), .val (.int p2), .val (.int p3), .val (.int p4), .val (.int p5), .val (.int (4 : Int32)), .unset, .unset, .unset, .unset, .unset, .unset] [(.int (4 : Int32))])) rfl (hb hby at_10) rfl (by decide) (cap := 4) (by decide) (by decide) (by decide) (by decide) (ad := "[I") rfl
  obtain ⟨b6, g6⟩ : ∃ z, z = h0.size := ⟨_, rfl⟩
  rw [← g6] at A6 Ea6 st6
  have V_b6 : Arv Z h6 b6 k6 .int (4 : Int32) [(.int (0 : Int32)), (.int (0 : Int32)), (.int (0 : Int32)), (.int (0 : Int32))] (.int (0 : Int32)) := (Arv.new A6 (by decide)).pad (pad_rep [] (.int (0 : Int32)) 4)
  have g_b6 : n0 ≤ b6 := Nat.le_trans Z0 (Nat.le_of_eq g6.symm)
  have sz_b6 : h0.size ≤ b6 := (Nat.le_trans (Keep.refl h0 []).1 (Nat.le_of_eq g6.symm))
  have K6 : Keep h0 h6 [] := (Keep.refl h0 []).ext E6
  obtain ⟨cl_b6_23, Ar_b6, q_b6, S_b6, N_b6, H_b6, G_b6⟩ := V_b6
  have hin23 : ¬ ((0 : Int32) < 0 ∨ cl_b6_23.slots.size ≤ ((0 : Int32)).toNatClampNeg) := inb_of S_b6 ⟨by decide, by decide⟩
  obtain ⟨T7, h7, X7, e7, W7, st7⟩ := stI X6 hx hZ e6 Ar_b6 (j := (0 : Int32)) hin23 (g := (mkF m 23 #[.val (.int p1), .val (.int p2), .val (.int p3), .val (.int p4), .val (.int p5), .val (.int (4 : Int32)), .val (.ref b6), .unset, .unset, .unset, .unset, .unset] [(.int p2), (.int (0 : Int32)), (.ref b6)])) rfl rfl (hb hby at_23)
  have V_b6_7 := Arv.set Ar_b6 q_b6 S_b6 N_b6 H_b6 G_b6 rfl W7 0 rfl (Nat.le_of_ble_eq_true rfl)
  have K7 : Keep h0 h7 [] := K6.wr W7 (Or.inr sz_b6)
  have N7 := Fr.snoc X7 N0 g_b6
  obtain ⟨cl_b6_34, Ar_b6, q_b6, S_b6, N_b6, H_b6, G_b6⟩ := V_b6_7
  have hin34 : ¬ ((1 : Int32) < 0 ∨ cl_b6_34.slots.size ≤ ((1 : Int32)).toNatClampNeg) := inb_of S_b6 ⟨by decide, by decide⟩
  obtain ⟨T8, h8, X8, e8, W8, st8⟩ := stI X7 hx hZ e7 Ar_b6 (j := (1 : Int32)) hin34 (g := (mkF m 34 #[.val (.int p1), .val (.int p2), .val (.int p3), .val (.int p4), .val (.int p5), .val (.int (4 : Int32)), .val (.ref b6), .unset, .unset, .unset, .unset, .unset] [(.int p3), (.int (1 : Int32)), (.ref b6)])) rfl rfl (hb hby at_34)
  have V_b6_8 := Arv.set Ar_b6 q_b6 S_b6 N_b6 H_b6 G_b6 rfl W8 1 rfl (Nat.le_of_ble_eq_true rfl)
  have K8 : Keep h0 h8 [] := K7.wr W8 (Or.inr sz_b6)
  have N8 := Fr.snoc X8 N7 g_b6
  obtain ⟨cl_b6_45, Ar_b6, q_b6, S_b6, N_b6, H_b6, G_b6⟩ := V_b6_8
  have hin45 : ¬ ((2 : Int32) < 0 ∨ cl_b6_45.slots.size ≤ ((2 : Int32)).toNatClampNeg) := inb_of S_b6 ⟨by decide, by decide⟩
  obtain ⟨T9, h9, X9, e9, W9, st9⟩ := stI X8 hx hZ e8 Ar_b6 (j := (2 : Int32)) hin45 (g := (mkF m 45 #[.val (.int p1), .val (.int p2), .val (.int p3), .val (.int p4), .val (.int p5), .val (.int (4 : Int32)), .val (.ref b6), .unset, .unset, .unset, .unset, .unset] [(.int p4), (.int (2 : Int32)), (.ref b6)])) rfl rfl (hb hby at_45)
  have V_b6_9 := Arv.set Ar_b6 q_b6 S_b6 N_b6 H_b6 G_b6 rfl W9 2 rfl (Nat.le_of_ble_eq_true rfl)
  have K9 : Keep h0 h9 [] := K8.wr W9 (Or.inr sz_b6)
  have N9 := Fr.snoc X9 N8 g_b6
  obtain ⟨cl_b6_57, Ar_b6, q_b6, S_b6, N_b6, H_b6, G_b6⟩ := V_b6_9
  have hin57 : ¬ ((3 : Int32) < 0 ∨ cl_b6_57.slots.size ≤ ((3 : Int32)).toNatClampNeg) := inb_of S_b6 ⟨by decide, by decide⟩
  obtain ⟨T10, h10, X10, e10, W10, st10⟩ := stI X9 hx hZ e9 Ar_b6 (j := (3 : Int32)) hin57 (g := (mkF m 57 #[.val (.int p1), .val (.int p2), .val (.int p3), .val (.int p4), .val (.int p5), .val (.int (4 : Int32)), .val (.ref b6), .unset, .unset, .unset, .unset, .unset] [(.int p5), (.int (3 : Int32)), (.ref b6)])) rfl rfl (hb hby at_57)
  have V_b6_10 := Arv.set Ar_b6 q_b6 S_b6 N_b6 H_b6 G_b6 rfl W10 3 rfl (Nat.le_of_ble_eq_true rfl)
  have K10 : Keep h0 h10 [] := K9.wr W10 (Or.inr sz_b6)
  have N10 := Fr.snoc X10 N9 g_b6
  obtain ⟨T11, h11, X11, e11, E11, A11, D11, -, st11⟩ := newO X10 hx hZ hown (hw _ (List.mem_of_getElem? (i := 2) rfl)) (hw _ (List.mem_of_getElem? (i := 3) rfl)) (hw _ (List.mem_of_getElem? (i := 4) rfl)) e10 (g := (mkF m 58 #[.val (.int p1), .val (.int p2), .val (.int p3), .val (.int p4), .val (.int p5), .val (.int (4 : Int32)), .val (.ref b6), .unset, .unset, .unset, .unset, .unset] [])) rfl (hb hby at_58) (by decide) (by decide)
  obtain ⟨b11, g11⟩ : ∃ z, z = h10.size := ⟨_, rfl⟩
  rw [← g11] at A11 D11 st11
  have F_codes_b11 : Fld Z h11 b11 "com/example/tendril/tendril/WireColumns$Formats" "codes" "[I" .null := D11 (Or.inr (hw _ (List.mem_of_getElem? (i := 21) rfl))) (ty := (.array .int)) (by decide)
  have E_b11 := A11
  have g_b11 : n0 ≤ b11 := Nat.le_trans (Nat.le_trans (Nat.le_trans (Nat.le_trans (Nat.le_trans (Nat.le_trans Z0 E6.1) (Keep.of_wr W7).1) (Keep.of_wr W8).1) (Keep.of_wr W9).1) (Keep.of_wr W10).1) (Nat.le_of_eq g11.symm)
  have sz_b11 : h0.size ≤ b11 := (Nat.le_trans K10.1 (Nat.le_of_eq g11.symm))
  have K11 : Keep h0 h11 [] := K10.ext E11
  obtain ⟨_, _, ⟨T12, L12, k12, n12⟩, -, X12, ⟨Lc12, hQ12, l12, y12, z12⟩, st12⟩ := X11.specialBack hx (y := (⟨"com/example/tendril/tendril/WireColumns$Formats", "<init>", "([I)V"⟩ : MethodName)) rfl hown (mvT hZ (hw _ (List.mem_of_getElem? (i := 5) rfl))) (mvT hZ (hw _ (List.mem_of_getElem? (i := 6) rfl))) (mvT hZ (hw _ (List.mem_of_getElem? (i := 7) rfl))) (by decide) (backOf (W := 1) (rm1 l Z a0 hw [] b11 b6 .null _ _ _ _ h11 n0 (Nat.le_trans Z0 K11.1) (((((Ea6.wr W7).wr W8).wr W9).wr W10).ext E11) (V_b6_10.ext E11) (by decide) E_b11 F_codes_b11 g_b11) hZ (hw _ (List.mem_of_getElem? (i := 7) rfl)) (hw _ (List.mem_of_getElem? (i := 4) rfl)) (by decide) (by decide)) (g := (mkF m 64 #[.val (.int p1), .val (.int p2), .val (.int p3), .val (.int p4), .val (.int p5), .val (.int (4 : Int32)), .val (.ref b6), .unset, .unset, .unset, .unset, .unset] [(.ref b6), (.ref b11), (.ref b11)])) rfl (by rw [hml]; rfl) (Steps.refl _) (a := b11) (argsL := [(.ref b6)]) (rest := [(.ref b11)]) (lenOf pd_0_0 rfl) rfl (by show 2 * 0 + _ ≤ _; exact Nat.le_of_eq rfl) (hb hby at_64) (fun _ _ => ⟨rfl, e11, (Nat.le_of_ble_eq_true rfl), (Nat.le_of_ble_eq_true rfl)⟩)
  dsimp only [Pt.U, Pt.locs, Pt.cells, Pt.slots] at X12 l12 y12 z12 st12 hQ12
  subst l12 y12 z12
  obtain ⟨rfl, N12q, K12c, E12c, bC, szC, FC, VC⟩ := hQ12
  have ne_ao : b6 ≠ b11 := Nat.ne_of_lt (Nat.lt_of_lt_of_le V_b6_10.lt (Nat.le_of_eq g11.symm))
  have ne_Ca : bC ≠ b6 := Ne.symm (Nat.ne_of_lt (Nat.lt_of_lt_of_le (V_b6_10.ext E11).lt szC))
  have K12 : Keep h0 T12.heap [] := K11.trans K12c (allS (Or.inr sz_b11) all0)
  have N12 := Fr.app N10 N12q
  obtain ⟨_, _, ⟨T13, L13, k13, n13⟩, -, X13, ⟨Lc13, hQ13, l13, y13, z13⟩, st13⟩ := Jvm.LawKit.callS X12 hx (y := (⟨"com/example/tendril/tendril/FormatsAnyBinaryPinLaw", "hit", "(III)Z"⟩ : MethodName)) hown (mvT hZ (hw _ (List.mem_of_getElem? (i := 22) rfl))) (mvT hZ (hw _ (List.mem_of_getElem? (i := 23) rfl))) (mvT hZ (hw _ (List.mem_of_getElem? (i := 24) rfl))) (mvT hZ (hw _ (List.mem_of_getElem? (i := 25) rfl))) (by decide) (backOf (W := 0) (rm3ft l Z a0 hw [] (4 : Int32) (0 : Int32) p2 T12.heap n0 (Nat.le_trans Z0 K12.1) (by decide) ch0) hZ (hw _ (List.mem_of_getElem? (i := 25) rfl)) (hw _ (List.mem_of_getElem? (i := 24) rfl)) (by decide) (by decide)) (g := (mkF m 73 #[.val (.int p1), .val (.int p2), .val (.int p3), .val (.int p4), .val (.int p5), .val (.int (4 : Int32)), .val (.ref b6), .val (.ref b11), .unset, .unset, .unset, .unset] [(.int p2), (.int (0 : Int32)), (.int (4 : Int32))])) rfl (by rw [hml]; rfl) (argsL := [(.int (4 : Int32)), (.int (0 : Int32)), (.int p2)]) (rest := []) (lenOf pd_0_3 rfl) rfl (by show 2 * 0 + _ ≤ _; exact Nat.le_of_eq rfl) (hb hby at_73) (fun _ _ => ⟨rfl, rfl, (Nat.le_of_ble_eq_true rfl), (Nat.le_of_ble_eq_true rfl)⟩)
  dsimp only [Pt.U, Pt.locs, Pt.cells, Pt.slots] at X13 l13 y13 z13 st13 hQ13
  subst l13 y13 z13
  obtain ⟨rfl, N13q, e13⟩ := hQ13
  have K13 : Keep h0 T13.heap [] := K12.trans (own_keq e13) all0
  have N13 := Fr.app N12 N13q
  obtain ⟨_, _, ⟨T14, L14, k14, n14⟩, -, X14, ⟨Lc14, hQ14, l14, y14, z14⟩, st14⟩ := Jvm.LawKit.callS X13 hx (y := (⟨"com/example/tendril/tendril/FormatsAnyBinaryPinLaw", "hit", "(III)Z"⟩ : MethodName)) hown (mvT hZ (hw _ (List.mem_of_getElem? (i := 22) rfl))) (mvT hZ (hw _ (List.mem_of_getElem? (i := 23) rfl))) (mvT hZ (hw _ (List.mem_of_getElem? (i := 24) rfl))) (mvT hZ (hw _ (List.mem_of_getElem? (i := 25) rfl))) (by decide) (backOf (W := 0) (rm3ft l Z a0 hw [] (4 : Int32) (1 : Int32) p3 T13.heap n0 (Nat.le_trans Z0 K13.1) (by decide) ch1) hZ (hw _ (List.mem_of_getElem? (i := 25) rfl)) (hw _ (List.mem_of_getElem? (i := 24) rfl)) (by decide) (by decide)) (g := (mkF m 83 #[.val (.int p1), .val (.int p2), .val (.int p3), .val (.int p4), .val (.int p5), .val (.int (4 : Int32)), .val (.ref b6), .val (.ref b11), .unset, .unset, .unset, .unset] [(.int p3), (.int (1 : Int32)), (.int (4 : Int32))])) rfl (by rw [hml]; rfl) (argsL := [(.int (4 : Int32)), (.int (1 : Int32)), (.int p3)]) (rest := []) (lenOf pd_0_3 rfl) rfl (by show 2 * 0 + _ ≤ _; exact Nat.le_of_eq rfl) (hb hby at_83) (fun _ _ => ⟨rfl, rfl, (Nat.le_of_ble_eq_true rfl), (Nat.le_of_ble_eq_true rfl)⟩)
  dsimp only [Pt.U, Pt.locs, Pt.cells, Pt.slots] at X14 l14 y14 z14 st14 hQ14
  subst l14 y14 z14
  obtain ⟨rfl, N14q, e14⟩ := hQ14
  have K14 : Keep h0 T14.heap [] := K13.trans (own_keq e14) all0
  have N14 := Fr.app N13 N14q
  obtain ⟨_, _, ⟨T15, L15, k15, n15⟩, -, X15, ⟨Lc15, hQ15, l15, y15, z15⟩, st15⟩ := Jvm.LawKit.callS X14 hx (y := (⟨"com/example/tendril/tendril/FormatsAnyBinaryPinLaw", "hit", "(III)Z"⟩ : MethodName)) hown (mvT hZ (hw _ (List.mem_of_getElem? (i := 22) rfl))) (mvT hZ (hw _ (List.mem_of_getElem? (i := 23) rfl))) (mvT hZ (hw _ (List.mem_of_getElem? (i := 24) rfl))) (mvT hZ (hw _ (List.mem_of_getElem? (i := 25) rfl))) (by decide) (backOf (W := 0) (rm3ft l Z a0 hw [] (4 : Int32) (2 : Int32) p4 T14.heap n0 (Nat.le_trans Z0 K14.1) (by decide) ch2) hZ (hw _ (List.mem_of_getElem? (i := 25) rfl)) (hw _ (List.mem_of_getElem? (i := 24) rfl)) (by decide) (by decide)) (g := (mkF m 93 #[.val (.int p1), .val (.int p2), .val (.int p3), .val (.int p4), .val (.int p5), .val (.int (4 : Int32)), .val (.ref b6), .val (.ref b11), .unset, .unset, .unset, .unset] [(.int p4), (.int (2 : Int32)), (.int (4 : Int32))])) rfl (by rw [hml]; rfl) (argsL := [(.int (4 : Int32)), (.int (2 : Int32)), (.int p4)]) (rest := []) (lenOf pd_0_3 rfl) rfl (by show 2 * 0 + _ ≤ _; exact Nat.le_of_eq rfl) (hb hby at_93) (fun _ _ => ⟨rfl, rfl, (Nat.le_of_ble_eq_true rfl), (Nat.le_of_ble_eq_true rfl)⟩)
  dsimp only [Pt.U, Pt.locs, Pt.cells, Pt.slots] at X15 l15 y15 z15 st15 hQ15
  subst l15 y15 z15
  obtain ⟨rfl, N15q, e15⟩ := hQ15
  have K15 : Keep h0 T15.heap [] := K14.trans (own_keq e15) all0
  have N15 := Fr.app N14 N15q
  obtain ⟨_, _, ⟨T16, L16, k16, n16⟩, -, X16, ⟨Lc16, hQ16, l16, y16, z16⟩, st16⟩ := Jvm.LawKit.callS X15 hx (y := (⟨"com/example/tendril/tendril/FormatsAnyBinaryPinLaw", "hit", "(III)Z"⟩ : MethodName)) hown (mvT hZ (hw _ (List.mem_of_getElem? (i := 22) rfl))) (mvT hZ (hw _ (List.mem_of_getElem? (i := 23) rfl))) (mvT hZ (hw _ (List.mem_of_getElem? (i := 24) rfl))) (mvT hZ (hw _ (List.mem_of_getElem? (i := 25) rfl))) (by decide) (backOf (W := 0) (rm3ft l Z a0 hw [] (4 : Int32) (3 : Int32) p5 T15.heap n0 (Nat.le_trans Z0 K15.1) (by decide) ch3) hZ (hw _ (List.mem_of_getElem? (i := 25) rfl)) (hw _ (List.mem_of_getElem? (i := 24) rfl)) (by decide) (by decide)) (g := (mkF m 104 #[.val (.int p1), .val (.int p2), .val (.int p3), .val (.int p4), .val (.int p5), .val (.int (4 : Int32)), .val (.ref b6), .val (.ref b11), .unset, .unset, .unset, .unset] [(.int p5), (.int (3 : Int32)), (.int (4 : Int32))])) rfl (by rw [hml]; rfl) (argsL := [(.int (4 : Int32)), (.int (3 : Int32)), (.int p5)]) (rest := []) (lenOf pd_0_3 rfl) rfl (by show 2 * 0 + _ ≤ _; exact Nat.le_of_eq rfl) (hb hby at_104) (fun _ _ => ⟨rfl, rfl, (Nat.le_of_ble_eq_true rfl), (Nat.le_of_ble_eq_true rfl)⟩)
  dsimp only [Pt.U, Pt.locs, Pt.cells, Pt.slots] at X16 l16 y16 z16 st16 hQ16
  subst l16 y16 z16
  obtain ⟨rfl, N16q, e16⟩ := hQ16
  have K16 : Keep h0 T16.heap [] := K15.trans (own_keq e16) all0
  have N16 := Fr.app N15 N16q
  obtain ⟨clC1, ArC1, -, SC1, NC1, HC1, -⟩ := ((((VC.keep (own_keq e13) nin0).keep (own_keq e14) nin0).keep (own_keq e15) nin0).keep (own_keq e16) nin0)
  have HV1 : ∀ j, j < 4 → clC1.slots[j]? = some (.int (own_at [p2, p3, p4, p5] j)) := by
    intro j hj
    match j, hj with
    | 0, _ => exact HC1 0 (by rw [SC1]; decide)
    | 1, _ => exact HC1 1 (by rw [SC1]; decide)
    | 2, _ => exact HC1 2 (by rw [SC1]; decide)
    | 3, _ => exact HC1 3 (by rw [SC1]; decide)
  obtain ⟨cq17, kq17, q17a, q17b, q17c⟩ := isOf hZ rfl (((((E_b11.keep K12c).keep (own_keq e13)).keep (own_keq e14)).keep (own_keq e15)).keep (own_keq e16))
  obtain ⟨_, _, ⟨T17, L17, k17, n17⟩, -, X17, ⟨Lc17, hQ17, l17, y17, z17⟩, st17⟩ := X16.virtualBack hx (y := (⟨"com/example/tendril/tendril/WireColumns$Formats", "anyBinary", "()Z"⟩ : MethodName)) (z := (⟨"com/example/tendril/tendril/WireColumns$Formats", "anyBinary", "()Z"⟩ : MethodName)) hown (mvT hZ (hw _ (List.mem_of_getElem? (i := 26) rfl))) (mvT hZ (hw _ (List.mem_of_getElem? (i := 27) rfl))) (notFace_of_selects (args := #[]) (mvT hZ (hw _ (List.mem_of_getElem? (i := 29) rfl)))) (mvT hZ (hw _ (List.mem_of_getElem? (i := 29) rfl))) (mvT hZ (hw _ (List.mem_of_getElem? (i := 28) rfl))) (by decide) (backOf (W := 0) (rm4 l Z a0 hw [] b11 bC clC1 4 (own_at [p2, p3, p4, p5]) T16.heap n0 (Nat.le_trans Z0 K16.1) ((((FC.keep (own_keq e13) nin0).keep (own_keq e14) nin0).keep (own_keq e15) nin0).keep (own_keq e16) nin0) ArC1 (SC1.trans (by decide)) HV1 (by decide)) hZ (hw _ (List.mem_of_getElem? (i := 30) rfl)) (hw _ (List.mem_of_getElem? (i := 4) rfl)) (by decide) (by decide)) q17a q17c (g := (mkF m 119 #[.val (.int p1), .val (.int p2), .val (.int p3), .val (.int p4), .val (.int p5), .val (.int (4 : Int32)), .val (.ref b6), .val (.ref b11), .val (.int (0 : Int32)), .unset, .unset, .unset] [(.ref b11)])) rfl (by rw [hml]; rfl) (Steps.refl _) (argsL := []) (rest := []) (lenOf pd_0_4 rfl) rfl (by show 2 * 0 + _ ≤ _; exact Nat.le_of_eq rfl) (hb hby at_119) (fun _ _ => ⟨rfl, rfl, (Nat.le_of_ble_eq_true rfl), (Nat.le_of_ble_eq_true rfl)⟩)
  dsimp only [Pt.U, Pt.locs, Pt.cells, Pt.slots] at X17 l17 y17 z17 st17 hQ17
  subst l17 y17 z17
  obtain ⟨rfl, N17q, e17⟩ := hQ17
  have K17 : Keep h0 T17.heap [] := K16.trans (own_keq e17) all0
  have N17 := Fr.app N16 N17q
  obtain ⟨cl_b6_146, Ar_b6, q_b6, S_b6, N_b6, H_b6, G_b6⟩ := (((((((V_b6_10.ext E11).keep K12c (ninS ne_ao nin0)).keep (own_keq e13) nin0).keep (own_keq e14) nin0).keep (own_keq e15) nin0).keep (own_keq e16) nin0).keep (own_keq e17) nin0)
  have hin146 : ¬ ((0 : Int32) < 0 ∨ cl_b6_146.slots.size ≤ ((0 : Int32)).toNatClampNeg) := inb_of S_b6 ⟨by decide, by decide⟩
  obtain ⟨T18, h18, X18, e18, W18, st18⟩ := stI X17 hx hZ rfl Ar_b6 (j := (0 : Int32)) hin146 (g := (mkF m 146 #[.val (.int p1), .val (.int p2), .val (.int p3), .val (.int p4), .val (.int p5), .val (.int (4 : Int32)), .val (.ref b6), .val (.ref b11), .val (.int (0 : Int32)), .val (.int (own_anyf (own_at [p2, p3, p4, p5]) 4 0 0)), .val (.int (1 : Int32)), .unset] [(.int (1 : Int32)), (.int (0 : Int32)), (.ref b6)])) rfl rfl (hb hby at_146)
  have V_b6_18 := Arv.set Ar_b6 q_b6 S_b6 N_b6 H_b6 G_b6 rfl W18 0 rfl (Nat.le_of_ble_eq_true rfl)
  have K18 : Keep h0 h18 [] := K17.wr W18 (Or.inr sz_b6)
  have N18 := Fr.snoc X18 N17 g_b6
  obtain ⟨cl_b6_158, Ar_b6, q_b6, S_b6, N_b6, H_b6, G_b6⟩ := V_b6_18
  have hin158 : ¬ ((1 : Int32) < 0 ∨ cl_b6_158.slots.size ≤ ((1 : Int32)).toNatClampNeg) := inb_of S_b6 ⟨by decide, by decide⟩
  obtain ⟨T19, h19, X19, e19, W19, st19⟩ := stI X18 hx hZ e18 Ar_b6 (j := (1 : Int32)) hin158 (g := (mkF m 158 #[.val (.int p1), .val (.int p2), .val (.int p3), .val (.int p4), .val (.int p5), .val (.int (4 : Int32)), .val (.ref b6), .val (.ref b11), .val (.int (0 : Int32)), .val (.int (own_anyf (own_at [p2, p3, p4, p5]) 4 0 0)), .val (.int (1 : Int32)), .unset] [(.int (1 : Int32)), (.int (1 : Int32)), (.ref b6)])) rfl rfl (hb hby at_158)
  have V_b6_19 := Arv.set Ar_b6 q_b6 S_b6 N_b6 H_b6 G_b6 rfl W19 1 rfl (Nat.le_of_ble_eq_true rfl)
  have K19 : Keep h0 h19 [] := K18.wr W19 (Or.inr sz_b6)
  have N19 := Fr.snoc X19 N18 g_b6
  obtain ⟨cl_b6_170, Ar_b6, q_b6, S_b6, N_b6, H_b6, G_b6⟩ := V_b6_19
  have hin170 : ¬ ((2 : Int32) < 0 ∨ cl_b6_170.slots.size ≤ ((2 : Int32)).toNatClampNeg) := inb_of S_b6 ⟨by decide, by decide⟩
  obtain ⟨T20, h20, X20, e20, W20, st20⟩ := stI X19 hx hZ e19 Ar_b6 (j := (2 : Int32)) hin170 (g := (mkF m 170 #[.val (.int p1), .val (.int p2), .val (.int p3), .val (.int p4), .val (.int p5), .val (.int (4 : Int32)), .val (.ref b6), .val (.ref b11), .val (.int (0 : Int32)), .val (.int (own_anyf (own_at [p2, p3, p4, p5]) 4 0 0)), .val (.int (1 : Int32)), .unset] [(.int (1 : Int32)), (.int (2 : Int32)), (.ref b6)])) rfl rfl (hb hby at_170)
  have V_b6_20 := Arv.set Ar_b6 q_b6 S_b6 N_b6 H_b6 G_b6 rfl W20 2 rfl (Nat.le_of_ble_eq_true rfl)
  have K20 : Keep h0 h20 [] := K19.wr W20 (Or.inr sz_b6)
  have N20 := Fr.snoc X20 N19 g_b6
  obtain ⟨cl_b6_182, Ar_b6, q_b6, S_b6, N_b6, H_b6, G_b6⟩ := V_b6_20
  have hin182 : ¬ ((3 : Int32) < 0 ∨ cl_b6_182.slots.size ≤ ((3 : Int32)).toNatClampNeg) := inb_of S_b6 ⟨by decide, by decide⟩
  obtain ⟨T21, h21, X21, e21, W21, st21⟩ := stI X20 hx hZ e20 Ar_b6 (j := (3 : Int32)) hin182 (g := (mkF m 182 #[.val (.int p1), .val (.int p2), .val (.int p3), .val (.int p4), .val (.int p5), .val (.int (4 : Int32)), .val (.ref b6), .val (.ref b11), .val (.int (0 : Int32)), .val (.int (own_anyf (own_at [p2, p3, p4, p5]) 4 0 0)), .val (.int (1 : Int32)), .unset] [(.int (1 : Int32)), (.int (3 : Int32)), (.ref b6)])) rfl rfl (hb hby at_182)
  have V_b6_21 := Arv.set Ar_b6 q_b6 S_b6 N_b6 H_b6 G_b6 rfl W21 3 rfl (Nat.le_of_ble_eq_true rfl)
  have K21 : Keep h0 h21 [] := K20.wr W21 (Or.inr sz_b6)
  have N21 := Fr.snoc X21 N20 g_b6
  obtain ⟨clC2, ArC2, -, SC2, NC2, HC2, -⟩ := (((((((((VC.keep (own_keq e13) nin0).keep (own_keq e14) nin0).keep (own_keq e15) nin0).keep (own_keq e16) nin0).keep (own_keq e17) nin0).other W18 ne_Ca).other W19 ne_Ca).other W20 ne_Ca).other W21 ne_Ca)
  have HV2 : ∀ j, j < 4 → clC2.slots[j]? = some (.int (own_at [p2, p3, p4, p5] j)) := by
    intro j hj
    match j, hj with
    | 0, _ => exact HC2 0 (by rw [SC2]; decide)
    | 1, _ => exact HC2 1 (by rw [SC2]; decide)
    | 2, _ => exact HC2 2 (by rw [SC2]; decide)
    | 3, _ => exact HC2 3 (by rw [SC2]; decide)
  obtain ⟨cq22, kq22, q22a, q22b, q22c⟩ := isOf hZ e21 ((((((((((E_b11.keep K12c).keep (own_keq e13)).keep (own_keq e14)).keep (own_keq e15)).keep (own_keq e16)).keep (own_keq e17)).wr W18).wr W19).wr W20).wr W21)
  obtain ⟨_, _, ⟨T22, L22, k22, n22⟩, -, X22, ⟨Lc22, hQ22, l22, y22, z22⟩, st22⟩ := X21.virtualBack hx (y := (⟨"com/example/tendril/tendril/WireColumns$Formats", "anyBinary", "()Z"⟩ : MethodName)) (z := (⟨"com/example/tendril/tendril/WireColumns$Formats", "anyBinary", "()Z"⟩ : MethodName)) hown (mvT hZ (hw _ (List.mem_of_getElem? (i := 26) rfl))) (mvT hZ (hw _ (List.mem_of_getElem? (i := 27) rfl))) (notFace_of_selects (args := #[]) (mvT hZ (hw _ (List.mem_of_getElem? (i := 29) rfl)))) (mvT hZ (hw _ (List.mem_of_getElem? (i := 29) rfl))) (mvT hZ (hw _ (List.mem_of_getElem? (i := 28) rfl))) (by decide) (backOf (W := 0) (rm4 l Z a0 hw [] b11 bC clC2 4 (own_at [p2, p3, p4, p5]) h21 n0 (Nat.le_trans Z0 K21.1) (((((((((FC.keep (own_keq e13) nin0).keep (own_keq e14) nin0).keep (own_keq e15) nin0).keep (own_keq e16) nin0).keep (own_keq e17) nin0).other W18 (Or.inl (Ne.symm ne_ao))).other W19 (Or.inl (Ne.symm ne_ao))).other W20 (Or.inl (Ne.symm ne_ao))).other W21 (Or.inl (Ne.symm ne_ao))) ArC2 (SC2.trans (by decide)) HV2 (by decide)) hZ (hw _ (List.mem_of_getElem? (i := 30) rfl)) (hw _ (List.mem_of_getElem? (i := 4) rfl)) (by decide) (by decide)) q22a q22c (g := (mkF m 185 #[.val (.int p1), .val (.int p2), .val (.int p3), .val (.int p4), .val (.int p5), .val (.int (4 : Int32)), .val (.ref b6), .val (.ref b11), .val (.int (0 : Int32)), .val (.int (own_anyf (own_at [p2, p3, p4, p5]) 4 0 0)), .val (.int (1 : Int32)), .unset] [(.ref b11)])) rfl (by rw [hml]; rfl) (Steps.refl _) (argsL := []) (rest := []) (lenOf pd_0_4 rfl) rfl (by show 2 * 0 + _ ≤ _; exact Nat.le_of_eq rfl) (hb hby at_185) (fun _ _ => ⟨rfl, e21, (Nat.le_of_ble_eq_true rfl), (Nat.le_of_ble_eq_true rfl)⟩)
  dsimp only [Pt.U, Pt.locs, Pt.cells, Pt.slots] at X22 l22 y22 z22 st22 hQ22
  subst l22 y22 z22
  obtain ⟨rfl, N22q, e22⟩ := hQ22
  have K22 : Keep h0 T22.heap [] := K21.trans (own_keq e22) all0
  have N22 := Fr.app N21 N22q
  obtain ⟨fs, hr, hrun, hended, hW, hsame⟩ := X22.leave (v := some (.int (1 : Int32))) (fun h => by rw [Bd.returns] at h; cases h)
  refine ⟨_, _, pre0 _ ?_, hrun, hended, _, _, rfl, ?_, ⟨_, rfl⟩, hW, hsame.mono (by decide) (by decide)⟩
  · show Steps p.tables e below (s₁.setTop (mkF m 0 #[.val (.int p1), .val (.int p2), .val (.int p3), .val (.int p4), .val (.int p5), .unset, .unset, .unset, .unset, .unset, .unset, .unset] [])) _
    refine XS.iloadN X0.here hx rfl (hb hby at_0) rfl ?_
    show Steps p.tables e below (s₁.setTop (mkF m 1 #[.val (.int p1), .val (.int p2), .val (.int p3), .val (.int p4), .val (.int p5), .unset, .unset, .unset, .unset, .unset, .unset, .unset] [(.int p1)])) _
    refine X0.ldcInt hx hown (mvT hZ (hw _ (List.mem_of_getElem? (i := 0) rfl))) (g := (mkF m 1 #[.val (.int p1), .val (.int p2), .val (.int p3), .val (.int p4), .val (.int p5), .unset, .unset, .unset, .unset, .unset, .unset, .unset] [(.int p1)])) rfl (hb hby at_1) _ ?_
    show Steps p.tables e below (s₁.setTop (mkF m 3 #[.val (.int p1), .val (.int p2), .val (.int p3), .val (.int p4), .val (.int p5), .unset, .unset, .unset, .unset, .unset, .unset, .unset] [(.int (2147483647 : Int32)), (.int p1)])) _
    refine XS.iand X0.here hx rfl (hb hby at_3) rfl ?_
    show Steps p.tables e below (s₁.setTop (mkF m 4 #[.val (.int p1), .val (.int p2), .val (.int p3), .val (.int p4), .val (.int p5), .unset, .unset, .unset, .unset, .unset, .unset, .unset] [(.int (p1 &&& (2147483647 : Int32)))])) _
    refine XS.iconst X0.here hx rfl (hb hby at_4) ?_
    show Steps p.tables e below (s₁.setTop (mkF m 5 #[.val (.int p1), .val (.int p2), .val (.int p3), .val (.int p4), .val (.int p5), .unset, .unset, .unset, .unset, .unset, .unset, .unset] [(.int (5 : Int32)), (.int (p1 &&& (2147483647 : Int32)))])) _
    refine iremM X0 hx rfl (hb hby at_5) rfl (by decide) ?_
    rw [hp5]
    show Steps p.tables e below (s₁.setTop (mkF m 6 #[.val (.int p1), .val (.int p2), .val (.int p3), .val (.int p4), .val (.int p5), .unset, .unset, .unset, .unset, .unset, .unset, .unset] [(.int (4 : Int32))])) _
    refine XS.istore X0.here hx rfl (hb hby at_6) rfl (l' := #[.val (.int p1), .val (.int p2), .val (.int p3), .val (.int p4), .val (.int p5), .val (.int (4 : Int32)), .unset, .unset, .unset, .unset, .unset, .unset]) rfl ?_
    show Steps p.tables e below (s₁.setTop (mkF m 8 #[.val (.int p1), .val (.int p2), .val (.int p3), .val (.int p4), .val (.int p5), .val (.int (4 : Int32)), .unset, .unset, .unset, .unset, .unset, .unset] [])) _
    refine XS.iload X0.here hx rfl (hb hby at_8) rfl ?_
    show Steps p.tables e below (s₁.setTop (mkF m 10 #[.val (.int p1), .val (.int p2), .val (.int p3), .val (.int p4), .val (.int p5), .val (.int (4 : Int32)), .unset, .unset, .unset, .unset, .unset, .unset] [(.int (4 : Int32))])) _
    refine st6 _ ?_
    show Steps p.tables e below (T6.setTop (mkF m 12 #[.val (.int p1), .val (.int p2), .val (.int p3), .val (.int p4), .val (.int p5), .val (.int (4 : Int32)), .unset, .unset, .unset, .unset, .unset, .unset] [(.ref b6)])) _
    refine XS.astore X6.here hx rfl (hb hby at_12) rfl rfl (l' := #[.val (.int p1), .val (.int p2), .val (.int p3), .val (.int p4), .val (.int p5), .val (.int (4 : Int32)), .val (.ref b6), .unset, .unset, .unset, .unset, .unset]) rfl ?_
    show Steps p.tables e below (T6.setTop (mkF m 14 #[.val (.int p1), .val (.int p2), .val (.int p3), .val (.int p4), .val (.int p5), .val (.int (4 : Int32)), .val (.ref b6), .unset, .unset, .unset, .unset, .unset] [])) _
    refine XS.iload X6.here hx rfl (hb hby at_14) rfl ?_
    show Steps p.tables e below (T6.setTop (mkF m 16 #[.val (.int p1), .val (.int p2), .val (.int p3), .val (.int p4), .val (.int p5), .val (.int (4 : Int32)), .val (.ref b6), .unset, .unset, .unset, .unset, .unset] [(.int (4 : Int32))])) _
    refine XS.ifNo X6.here hx rfl (hb hby at_16) rfl ((if0 _ _).trans (tlt (by decide : (0 : Int32) < (4 : Int32))).2.2.2) ?_
    show Steps p.tables e below (T6.setTop (mkF m 19 #[.val (.int p1), .val (.int p2), .val (.int p3), .val (.int p4), .val (.int p5), .val (.int (4 : Int32)), .val (.ref b6), .unset, .unset, .unset, .unset, .unset] [])) _
    refine XS.aload X6.here hx rfl (hb hby at_19) rfl rfl ?_
    show Steps p.tables e below (T6.setTop (mkF m 21 #[.val (.int p1), .val (.int p2), .val (.int p3), .val (.int p4), .val (.int p5), .val (.int (4 : Int32)), .val (.ref b6), .unset, .unset, .unset, .unset, .unset] [(.ref b6)])) _
    refine XS.iconst X6.here hx rfl (hb hby at_21) ?_
    show Steps p.tables e below (T6.setTop (mkF m 22 #[.val (.int p1), .val (.int p2), .val (.int p3), .val (.int p4), .val (.int p5), .val (.int (4 : Int32)), .val (.ref b6), .unset, .unset, .unset, .unset, .unset] [(.int (0 : Int32)), (.ref b6)])) _
    refine XS.iloadN X6.here hx rfl (hb hby at_22) rfl ?_
    show Steps p.tables e below (T6.setTop (mkF m 23 #[.val (.int p1), .val (.int p2), .val (.int p3), .val (.int p4), .val (.int p5), .val (.int (4 : Int32)), .val (.ref b6), .unset, .unset, .unset, .unset, .unset] [(.int p2), (.int (0 : Int32)), (.ref b6)])) _
    refine st7 _ ?_
    show Steps p.tables e below (T7.setTop (mkF m 24 #[.val (.int p1), .val (.int p2), .val (.int p3), .val (.int p4), .val (.int p5), .val (.int (4 : Int32)), .val (.ref b6), .unset, .unset, .unset, .unset, .unset] [])) _
    refine XS.iload X7.here hx rfl (hb hby at_24) rfl ?_
    show Steps p.tables e below (T7.setTop (mkF m 26 #[.val (.int p1), .val (.int p2), .val (.int p3), .val (.int p4), .val (.int p5), .val (.int (4 : Int32)), .val (.ref b6), .unset, .unset, .unset, .unset, .unset] [(.int (4 : Int32))])) _
    refine XS.iconst X7.here hx rfl (hb hby at_26) ?_
    show Steps p.tables e below (T7.setTop (mkF m 27 #[.val (.int p1), .val (.int p2), .val (.int p3), .val (.int p4), .val (.int p5), .val (.int (4 : Int32)), .val (.ref b6), .unset, .unset, .unset, .unset, .unset] [(.int (1 : Int32)), (.int (4 : Int32))])) _
    refine XS.icmpNo X7.here hx rfl (hb hby at_27) rfl (tlt (by decide : (1 : Int32) < (4 : Int32))).2.2.2 ?_
    show Steps p.tables e below (T7.setTop (mkF m 30 #[.val (.int p1), .val (.int p2), .val (.int p3), .val (.int p4), .val (.int p5), .val (.int (4 : Int32)), .val (.ref b6), .unset, .unset, .unset, .unset, .unset] [])) _
    refine XS.aload X7.here hx rfl (hb hby at_30) rfl rfl ?_
    show Steps p.tables e below (T7.setTop (mkF m 32 #[.val (.int p1), .val (.int p2), .val (.int p3), .val (.int p4), .val (.int p5), .val (.int (4 : Int32)), .val (.ref b6), .unset, .unset, .unset, .unset, .unset] [(.ref b6)])) _
    refine XS.iconst X7.here hx rfl (hb hby at_32) ?_
    show Steps p.tables e below (T7.setTop (mkF m 33 #[.val (.int p1), .val (.int p2), .val (.int p3), .val (.int p4), .val (.int p5), .val (.int (4 : Int32)), .val (.ref b6), .unset, .unset, .unset, .unset, .unset] [(.int (1 : Int32)), (.ref b6)])) _
    refine XS.iloadN X7.here hx rfl (hb hby at_33) rfl ?_
    show Steps p.tables e below (T7.setTop (mkF m 34 #[.val (.int p1), .val (.int p2), .val (.int p3), .val (.int p4), .val (.int p5), .val (.int (4 : Int32)), .val (.ref b6), .unset, .unset, .unset, .unset, .unset] [(.int p3), (.int (1 : Int32)), (.ref b6)])) _
    refine st8 _ ?_
    show Steps p.tables e below (T8.setTop (mkF m 35 #[.val (.int p1), .val (.int p2), .val (.int p3), .val (.int p4), .val (.int p5), .val (.int (4 : Int32)), .val (.ref b6), .unset, .unset, .unset, .unset, .unset] [])) _
    refine XS.iload X8.here hx rfl (hb hby at_35) rfl ?_
    show Steps p.tables e below (T8.setTop (mkF m 37 #[.val (.int p1), .val (.int p2), .val (.int p3), .val (.int p4), .val (.int p5), .val (.int (4 : Int32)), .val (.ref b6), .unset, .unset, .unset, .unset, .unset] [(.int (4 : Int32))])) _
    refine XS.iconst X8.here hx rfl (hb hby at_37) ?_
    show Steps p.tables e below (T8.setTop (mkF m 38 #[.val (.int p1), .val (.int p2), .val (.int p3), .val (.int p4), .val (.int p5), .val (.int (4 : Int32)), .val (.ref b6), .unset, .unset, .unset, .unset, .unset] [(.int (2 : Int32)), (.int (4 : Int32))])) _
    refine XS.icmpNo X8.here hx rfl (hb hby at_38) rfl (tlt (by decide : (2 : Int32) < (4 : Int32))).2.2.2 ?_
    show Steps p.tables e below (T8.setTop (mkF m 41 #[.val (.int p1), .val (.int p2), .val (.int p3), .val (.int p4), .val (.int p5), .val (.int (4 : Int32)), .val (.ref b6), .unset, .unset, .unset, .unset, .unset] [])) _
    refine XS.aload X8.here hx rfl (hb hby at_41) rfl rfl ?_
    show Steps p.tables e below (T8.setTop (mkF m 43 #[.val (.int p1), .val (.int p2), .val (.int p3), .val (.int p4), .val (.int p5), .val (.int (4 : Int32)), .val (.ref b6), .unset, .unset, .unset, .unset, .unset] [(.ref b6)])) _
    refine XS.iconst X8.here hx rfl (hb hby at_43) ?_
    show Steps p.tables e below (T8.setTop (mkF m 44 #[.val (.int p1), .val (.int p2), .val (.int p3), .val (.int p4), .val (.int p5), .val (.int (4 : Int32)), .val (.ref b6), .unset, .unset, .unset, .unset, .unset] [(.int (2 : Int32)), (.ref b6)])) _
    refine XS.iloadN X8.here hx rfl (hb hby at_44) rfl ?_
    show Steps p.tables e below (T8.setTop (mkF m 45 #[.val (.int p1), .val (.int p2), .val (.int p3), .val (.int p4), .val (.int p5), .val (.int (4 : Int32)), .val (.ref b6), .unset, .unset, .unset, .unset, .unset] [(.int p4), (.int (2 : Int32)), (.ref b6)])) _
    refine st9 _ ?_
    show Steps p.tables e below (T9.setTop (mkF m 46 #[.val (.int p1), .val (.int p2), .val (.int p3), .val (.int p4), .val (.int p5), .val (.int (4 : Int32)), .val (.ref b6), .unset, .unset, .unset, .unset, .unset] [])) _
    refine XS.iload X9.here hx rfl (hb hby at_46) rfl ?_
    show Steps p.tables e below (T9.setTop (mkF m 48 #[.val (.int p1), .val (.int p2), .val (.int p3), .val (.int p4), .val (.int p5), .val (.int (4 : Int32)), .val (.ref b6), .unset, .unset, .unset, .unset, .unset] [(.int (4 : Int32))])) _
    refine XS.iconst X9.here hx rfl (hb hby at_48) ?_
    show Steps p.tables e below (T9.setTop (mkF m 49 #[.val (.int p1), .val (.int p2), .val (.int p3), .val (.int p4), .val (.int p5), .val (.int (4 : Int32)), .val (.ref b6), .unset, .unset, .unset, .unset, .unset] [(.int (3 : Int32)), (.int (4 : Int32))])) _
    refine XS.icmpNo X9.here hx rfl (hb hby at_49) rfl (tlt (by decide : (3 : Int32) < (4 : Int32))).2.2.2 ?_
    show Steps p.tables e below (T9.setTop (mkF m 52 #[.val (.int p1), .val (.int p2), .val (.int p3), .val (.int p4), .val (.int p5), .val (.int (4 : Int32)), .val (.ref b6), .unset, .unset, .unset, .unset, .unset] [])) _
    refine XS.aload X9.here hx rfl (hb hby at_52) rfl rfl ?_
    show Steps p.tables e below (T9.setTop (mkF m 54 #[.val (.int p1), .val (.int p2), .val (.int p3), .val (.int p4), .val (.int p5), .val (.int (4 : Int32)), .val (.ref b6), .unset, .unset, .unset, .unset, .unset] [(.ref b6)])) _
    refine XS.iconst X9.here hx rfl (hb hby at_54) ?_
    show Steps p.tables e below (T9.setTop (mkF m 55 #[.val (.int p1), .val (.int p2), .val (.int p3), .val (.int p4), .val (.int p5), .val (.int (4 : Int32)), .val (.ref b6), .unset, .unset, .unset, .unset, .unset] [(.int (3 : Int32)), (.ref b6)])) _
    refine XS.iload X9.here hx rfl (hb hby at_55) rfl ?_
    show Steps p.tables e below (T9.setTop (mkF m 57 #[.val (.int p1), .val (.int p2), .val (.int p3), .val (.int p4), .val (.int p5), .val (.int (4 : Int32)), .val (.ref b6), .unset, .unset, .unset, .unset, .unset] [(.int p5), (.int (3 : Int32)), (.ref b6)])) _
    refine st10 _ ?_
    show Steps p.tables e below (T10.setTop (mkF m 58 #[.val (.int p1), .val (.int p2), .val (.int p3), .val (.int p4), .val (.int p5), .val (.int (4 : Int32)), .val (.ref b6), .unset, .unset, .unset, .unset, .unset] [])) _
    refine st11 _ ?_
    show Steps p.tables e below (T11.setTop (mkF m 61 #[.val (.int p1), .val (.int p2), .val (.int p3), .val (.int p4), .val (.int p5), .val (.int (4 : Int32)), .val (.ref b6), .unset, .unset, .unset, .unset, .unset] [(.ref b11)])) _
    refine XS.dup X11.here hx rfl (hb hby at_61) rfl rfl ?_
    show Steps p.tables e below (T11.setTop (mkF m 62 #[.val (.int p1), .val (.int p2), .val (.int p3), .val (.int p4), .val (.int p5), .val (.int (4 : Int32)), .val (.ref b6), .unset, .unset, .unset, .unset, .unset] [(.ref b11), (.ref b11)])) _
    refine XS.aload X11.here hx rfl (hb hby at_62) rfl rfl ?_
    show Steps p.tables e below (T11.setTop (mkF m 64 #[.val (.int p1), .val (.int p2), .val (.int p3), .val (.int p4), .val (.int p5), .val (.int (4 : Int32)), .val (.ref b6), .unset, .unset, .unset, .unset, .unset] [(.ref b6), (.ref b11), (.ref b11)])) _
    refine st12.trans ?_
    show Steps p.tables e below (T12.setTop (mkF m 67 #[.val (.int p1), .val (.int p2), .val (.int p3), .val (.int p4), .val (.int p5), .val (.int (4 : Int32)), .val (.ref b6), .unset, .unset, .unset, .unset, .unset] [(.ref b11)])) _
    refine XS.astore X12.here hx rfl (hb hby at_67) rfl rfl (l' := #[.val (.int p1), .val (.int p2), .val (.int p3), .val (.int p4), .val (.int p5), .val (.int (4 : Int32)), .val (.ref b6), .val (.ref b11), .unset, .unset, .unset, .unset]) rfl ?_
    show Steps p.tables e below (T12.setTop (mkF m 69 #[.val (.int p1), .val (.int p2), .val (.int p3), .val (.int p4), .val (.int p5), .val (.int (4 : Int32)), .val (.ref b6), .val (.ref b11), .unset, .unset, .unset, .unset] [])) _
    refine XS.iload X12.here hx rfl (hb hby at_69) rfl ?_
    show Steps p.tables e below (T12.setTop (mkF m 71 #[.val (.int p1), .val (.int p2), .val (.int p3), .val (.int p4), .val (.int p5), .val (.int (4 : Int32)), .val (.ref b6), .val (.ref b11), .unset, .unset, .unset, .unset] [(.int (4 : Int32))])) _
    refine XS.iconst X12.here hx rfl (hb hby at_71) ?_
    show Steps p.tables e below (T12.setTop (mkF m 72 #[.val (.int p1), .val (.int p2), .val (.int p3), .val (.int p4), .val (.int p5), .val (.int (4 : Int32)), .val (.ref b6), .val (.ref b11), .unset, .unset, .unset, .unset] [(.int (0 : Int32)), (.int (4 : Int32))])) _
    refine XS.iloadN X12.here hx rfl (hb hby at_72) rfl ?_
    show Steps p.tables e below (T12.setTop (mkF m 73 #[.val (.int p1), .val (.int p2), .val (.int p3), .val (.int p4), .val (.int p5), .val (.int (4 : Int32)), .val (.ref b6), .val (.ref b11), .unset, .unset, .unset, .unset] [(.int p2), (.int (0 : Int32)), (.int (4 : Int32))])) _
    refine st13 _ ?_
    show Steps p.tables e below (T13.setTop (mkF m 76 #[.val (.int p1), .val (.int p2), .val (.int p3), .val (.int p4), .val (.int p5), .val (.int (4 : Int32)), .val (.ref b6), .val (.ref b11), .unset, .unset, .unset, .unset] [(.int (0 : Int32))])) _
    refine XS.ifNo X13.here hx rfl (hb hby at_76) rfl ((if0 _ _).trans (teq (by decide : (0 : Int32) = (0 : Int32))).2) ?_
    show Steps p.tables e below (T13.setTop (mkF m 79 #[.val (.int p1), .val (.int p2), .val (.int p3), .val (.int p4), .val (.int p5), .val (.int (4 : Int32)), .val (.ref b6), .val (.ref b11), .unset, .unset, .unset, .unset] [])) _
    refine XS.iload X13.here hx rfl (hb hby at_79) rfl ?_
    show Steps p.tables e below (T13.setTop (mkF m 81 #[.val (.int p1), .val (.int p2), .val (.int p3), .val (.int p4), .val (.int p5), .val (.int (4 : Int32)), .val (.ref b6), .val (.ref b11), .unset, .unset, .unset, .unset] [(.int (4 : Int32))])) _
    refine XS.iconst X13.here hx rfl (hb hby at_81) ?_
    show Steps p.tables e below (T13.setTop (mkF m 82 #[.val (.int p1), .val (.int p2), .val (.int p3), .val (.int p4), .val (.int p5), .val (.int (4 : Int32)), .val (.ref b6), .val (.ref b11), .unset, .unset, .unset, .unset] [(.int (1 : Int32)), (.int (4 : Int32))])) _
    refine XS.iloadN X13.here hx rfl (hb hby at_82) rfl ?_
    show Steps p.tables e below (T13.setTop (mkF m 83 #[.val (.int p1), .val (.int p2), .val (.int p3), .val (.int p4), .val (.int p5), .val (.int (4 : Int32)), .val (.ref b6), .val (.ref b11), .unset, .unset, .unset, .unset] [(.int p3), (.int (1 : Int32)), (.int (4 : Int32))])) _
    refine st14 _ ?_
    show Steps p.tables e below (T14.setTop (mkF m 86 #[.val (.int p1), .val (.int p2), .val (.int p3), .val (.int p4), .val (.int p5), .val (.int (4 : Int32)), .val (.ref b6), .val (.ref b11), .unset, .unset, .unset, .unset] [(.int (0 : Int32))])) _
    refine XS.ifNo X14.here hx rfl (hb hby at_86) rfl ((if0 _ _).trans (teq (by decide : (0 : Int32) = (0 : Int32))).2) ?_
    show Steps p.tables e below (T14.setTop (mkF m 89 #[.val (.int p1), .val (.int p2), .val (.int p3), .val (.int p4), .val (.int p5), .val (.int (4 : Int32)), .val (.ref b6), .val (.ref b11), .unset, .unset, .unset, .unset] [])) _
    refine XS.iload X14.here hx rfl (hb hby at_89) rfl ?_
    show Steps p.tables e below (T14.setTop (mkF m 91 #[.val (.int p1), .val (.int p2), .val (.int p3), .val (.int p4), .val (.int p5), .val (.int (4 : Int32)), .val (.ref b6), .val (.ref b11), .unset, .unset, .unset, .unset] [(.int (4 : Int32))])) _
    refine XS.iconst X14.here hx rfl (hb hby at_91) ?_
    show Steps p.tables e below (T14.setTop (mkF m 92 #[.val (.int p1), .val (.int p2), .val (.int p3), .val (.int p4), .val (.int p5), .val (.int (4 : Int32)), .val (.ref b6), .val (.ref b11), .unset, .unset, .unset, .unset] [(.int (2 : Int32)), (.int (4 : Int32))])) _
    refine XS.iloadN X14.here hx rfl (hb hby at_92) rfl ?_
    show Steps p.tables e below (T14.setTop (mkF m 93 #[.val (.int p1), .val (.int p2), .val (.int p3), .val (.int p4), .val (.int p5), .val (.int (4 : Int32)), .val (.ref b6), .val (.ref b11), .unset, .unset, .unset, .unset] [(.int p4), (.int (2 : Int32)), (.int (4 : Int32))])) _
    refine st15 _ ?_
    show Steps p.tables e below (T15.setTop (mkF m 96 #[.val (.int p1), .val (.int p2), .val (.int p3), .val (.int p4), .val (.int p5), .val (.int (4 : Int32)), .val (.ref b6), .val (.ref b11), .unset, .unset, .unset, .unset] [(.int (0 : Int32))])) _
    refine XS.ifNo X15.here hx rfl (hb hby at_96) rfl ((if0 _ _).trans (teq (by decide : (0 : Int32) = (0 : Int32))).2) ?_
    show Steps p.tables e below (T15.setTop (mkF m 99 #[.val (.int p1), .val (.int p2), .val (.int p3), .val (.int p4), .val (.int p5), .val (.int (4 : Int32)), .val (.ref b6), .val (.ref b11), .unset, .unset, .unset, .unset] [])) _
    refine XS.iload X15.here hx rfl (hb hby at_99) rfl ?_
    show Steps p.tables e below (T15.setTop (mkF m 101 #[.val (.int p1), .val (.int p2), .val (.int p3), .val (.int p4), .val (.int p5), .val (.int (4 : Int32)), .val (.ref b6), .val (.ref b11), .unset, .unset, .unset, .unset] [(.int (4 : Int32))])) _
    refine XS.iconst X15.here hx rfl (hb hby at_101) ?_
    show Steps p.tables e below (T15.setTop (mkF m 102 #[.val (.int p1), .val (.int p2), .val (.int p3), .val (.int p4), .val (.int p5), .val (.int (4 : Int32)), .val (.ref b6), .val (.ref b11), .unset, .unset, .unset, .unset] [(.int (3 : Int32)), (.int (4 : Int32))])) _
    refine XS.iload X15.here hx rfl (hb hby at_102) rfl ?_
    show Steps p.tables e below (T15.setTop (mkF m 104 #[.val (.int p1), .val (.int p2), .val (.int p3), .val (.int p4), .val (.int p5), .val (.int (4 : Int32)), .val (.ref b6), .val (.ref b11), .unset, .unset, .unset, .unset] [(.int p5), (.int (3 : Int32)), (.int (4 : Int32))])) _
    refine st16 _ ?_
    show Steps p.tables e below (T16.setTop (mkF m 107 #[.val (.int p1), .val (.int p2), .val (.int p3), .val (.int p4), .val (.int p5), .val (.int (4 : Int32)), .val (.ref b6), .val (.ref b11), .unset, .unset, .unset, .unset] [(.int (0 : Int32))])) _
    refine XS.ifYes X16.here hx rfl (pc0 := 107) (pc' := 114) rfl (hb hby at_107) rfl ((if0 _ _).trans (teq (by decide : (0 : Int32) = (0 : Int32))).1) (by decide) (by decide) ?_
    show Steps p.tables e below (T16.setTop (mkF m 114 #[.val (.int p1), .val (.int p2), .val (.int p3), .val (.int p4), .val (.int p5), .val (.int (4 : Int32)), .val (.ref b6), .val (.ref b11), .unset, .unset, .unset, .unset] [])) _
    refine XS.iconst X16.here hx rfl (hb hby at_114) ?_
    show Steps p.tables e below (T16.setTop (mkF m 115 #[.val (.int p1), .val (.int p2), .val (.int p3), .val (.int p4), .val (.int p5), .val (.int (4 : Int32)), .val (.ref b6), .val (.ref b11), .unset, .unset, .unset, .unset] [(.int (0 : Int32))])) _
    refine XS.istore X16.here hx rfl (hb hby at_115) rfl (l' := #[.val (.int p1), .val (.int p2), .val (.int p3), .val (.int p4), .val (.int p5), .val (.int (4 : Int32)), .val (.ref b6), .val (.ref b11), .val (.int (0 : Int32)), .unset, .unset, .unset]) rfl ?_
    show Steps p.tables e below (T16.setTop (mkF m 117 #[.val (.int p1), .val (.int p2), .val (.int p3), .val (.int p4), .val (.int p5), .val (.int (4 : Int32)), .val (.ref b6), .val (.ref b11), .val (.int (0 : Int32)), .unset, .unset, .unset] [])) _
    refine XS.aload X16.here hx rfl (hb hby at_117) rfl rfl ?_
    show Steps p.tables e below (T16.setTop (mkF m 119 #[.val (.int p1), .val (.int p2), .val (.int p3), .val (.int p4), .val (.int p5), .val (.int (4 : Int32)), .val (.ref b6), .val (.ref b11), .val (.int (0 : Int32)), .unset, .unset, .unset] [(.ref b11)])) _
    refine st17.trans ?_
    show Steps p.tables e below (T17.setTop (mkF m 122 #[.val (.int p1), .val (.int p2), .val (.int p3), .val (.int p4), .val (.int p5), .val (.int (4 : Int32)), .val (.ref b6), .val (.ref b11), .val (.int (0 : Int32)), .unset, .unset, .unset] [(.int (own_anyf (own_at [p2, p3, p4, p5]) 4 0 0))])) _
    refine XS.istore X17.here hx rfl (hb hby at_122) rfl (l' := #[.val (.int p1), .val (.int p2), .val (.int p3), .val (.int p4), .val (.int p5), .val (.int (4 : Int32)), .val (.ref b6), .val (.ref b11), .val (.int (0 : Int32)), .val (.int (own_anyf (own_at [p2, p3, p4, p5]) 4 0 0)), .unset, .unset]) rfl ?_
    show Steps p.tables e below (T17.setTop (mkF m 124 #[.val (.int p1), .val (.int p2), .val (.int p3), .val (.int p4), .val (.int p5), .val (.int (4 : Int32)), .val (.ref b6), .val (.ref b11), .val (.int (0 : Int32)), .val (.int (own_anyf (own_at [p2, p3, p4, p5]) 4 0 0)), .unset, .unset] [])) _
    refine XS.iload X17.here hx rfl (hb hby at_124) rfl ?_
    show Steps p.tables e below (T17.setTop (mkF m 126 #[.val (.int p1), .val (.int p2), .val (.int p3), .val (.int p4), .val (.int p5), .val (.int (4 : Int32)), .val (.ref b6), .val (.ref b11), .val (.int (0 : Int32)), .val (.int (own_anyf (own_at [p2, p3, p4, p5]) 4 0 0)), .unset, .unset] [(.int (0 : Int32))])) _
    refine XS.ifYes X17.here hx rfl (pc0 := 126) (pc' := 133) rfl (hb hby at_126) rfl ((if0 _ _).trans (teq (by decide : (0 : Int32) = (0 : Int32))).1) (by decide) (by decide) ?_
    show Steps p.tables e below (T17.setTop (mkF m 133 #[.val (.int p1), .val (.int p2), .val (.int p3), .val (.int p4), .val (.int p5), .val (.int (4 : Int32)), .val (.ref b6), .val (.ref b11), .val (.int (0 : Int32)), .val (.int (own_anyf (own_at [p2, p3, p4, p5]) 4 0 0)), .unset, .unset] [])) _
    refine XS.iconst X17.here hx rfl (hb hby at_133) ?_
    show Steps p.tables e below (T17.setTop (mkF m 134 #[.val (.int p1), .val (.int p2), .val (.int p3), .val (.int p4), .val (.int p5), .val (.int (4 : Int32)), .val (.ref b6), .val (.ref b11), .val (.int (0 : Int32)), .val (.int (own_anyf (own_at [p2, p3, p4, p5]) 4 0 0)), .unset, .unset] [(.int (1 : Int32))])) _
    refine XS.istore X17.here hx rfl (hb hby at_134) rfl (l' := #[.val (.int p1), .val (.int p2), .val (.int p3), .val (.int p4), .val (.int p5), .val (.int (4 : Int32)), .val (.ref b6), .val (.ref b11), .val (.int (0 : Int32)), .val (.int (own_anyf (own_at [p2, p3, p4, p5]) 4 0 0)), .val (.int (1 : Int32)), .unset]) rfl ?_
    show Steps p.tables e below (T17.setTop (mkF m 136 #[.val (.int p1), .val (.int p2), .val (.int p3), .val (.int p4), .val (.int p5), .val (.int (4 : Int32)), .val (.ref b6), .val (.ref b11), .val (.int (0 : Int32)), .val (.int (own_anyf (own_at [p2, p3, p4, p5]) 4 0 0)), .val (.int (1 : Int32)), .unset] [])) _
    refine XS.iload X17.here hx rfl (hb hby at_136) rfl ?_
    show Steps p.tables e below (T17.setTop (mkF m 138 #[.val (.int p1), .val (.int p2), .val (.int p3), .val (.int p4), .val (.int p5), .val (.int (4 : Int32)), .val (.ref b6), .val (.ref b11), .val (.int (0 : Int32)), .val (.int (own_anyf (own_at [p2, p3, p4, p5]) 4 0 0)), .val (.int (1 : Int32)), .unset] [(.int (4 : Int32))])) _
    refine XS.ifNo X17.here hx rfl (hb hby at_138) rfl ((if0 _ _).trans (tlt (by decide : (0 : Int32) < (4 : Int32))).2.2.2) ?_
    show Steps p.tables e below (T17.setTop (mkF m 141 #[.val (.int p1), .val (.int p2), .val (.int p3), .val (.int p4), .val (.int p5), .val (.int (4 : Int32)), .val (.ref b6), .val (.ref b11), .val (.int (0 : Int32)), .val (.int (own_anyf (own_at [p2, p3, p4, p5]) 4 0 0)), .val (.int (1 : Int32)), .unset] [])) _
    refine XS.aload X17.here hx rfl (hb hby at_141) rfl rfl ?_
    show Steps p.tables e below (T17.setTop (mkF m 143 #[.val (.int p1), .val (.int p2), .val (.int p3), .val (.int p4), .val (.int p5), .val (.int (4 : Int32)), .val (.ref b6), .val (.ref b11), .val (.int (0 : Int32)), .val (.int (own_anyf (own_at [p2, p3, p4, p5]) 4 0 0)), .val (.int (1 : Int32)), .unset] [(.ref b6)])) _
    refine XS.iconst X17.here hx rfl (hb hby at_143) ?_
    show Steps p.tables e below (T17.setTop (mkF m 144 #[.val (.int p1), .val (.int p2), .val (.int p3), .val (.int p4), .val (.int p5), .val (.int (4 : Int32)), .val (.ref b6), .val (.ref b11), .val (.int (0 : Int32)), .val (.int (own_anyf (own_at [p2, p3, p4, p5]) 4 0 0)), .val (.int (1 : Int32)), .unset] [(.int (0 : Int32)), (.ref b6)])) _
    refine XS.iload X17.here hx rfl (hb hby at_144) rfl ?_
    show Steps p.tables e below (T17.setTop (mkF m 146 #[.val (.int p1), .val (.int p2), .val (.int p3), .val (.int p4), .val (.int p5), .val (.int (4 : Int32)), .val (.ref b6), .val (.ref b11), .val (.int (0 : Int32)), .val (.int (own_anyf (own_at [p2, p3, p4, p5]) 4 0 0)), .val (.int (1 : Int32)), .unset] [(.int (1 : Int32)), (.int (0 : Int32)), (.ref b6)])) _
    refine st18 _ ?_
    show Steps p.tables e below (T18.setTop (mkF m 147 #[.val (.int p1), .val (.int p2), .val (.int p3), .val (.int p4), .val (.int p5), .val (.int (4 : Int32)), .val (.ref b6), .val (.ref b11), .val (.int (0 : Int32)), .val (.int (own_anyf (own_at [p2, p3, p4, p5]) 4 0 0)), .val (.int (1 : Int32)), .unset] [])) _
    refine XS.iload X18.here hx rfl (hb hby at_147) rfl ?_
    show Steps p.tables e below (T18.setTop (mkF m 149 #[.val (.int p1), .val (.int p2), .val (.int p3), .val (.int p4), .val (.int p5), .val (.int (4 : Int32)), .val (.ref b6), .val (.ref b11), .val (.int (0 : Int32)), .val (.int (own_anyf (own_at [p2, p3, p4, p5]) 4 0 0)), .val (.int (1 : Int32)), .unset] [(.int (4 : Int32))])) _
    refine XS.iconst X18.here hx rfl (hb hby at_149) ?_
    show Steps p.tables e below (T18.setTop (mkF m 150 #[.val (.int p1), .val (.int p2), .val (.int p3), .val (.int p4), .val (.int p5), .val (.int (4 : Int32)), .val (.ref b6), .val (.ref b11), .val (.int (0 : Int32)), .val (.int (own_anyf (own_at [p2, p3, p4, p5]) 4 0 0)), .val (.int (1 : Int32)), .unset] [(.int (1 : Int32)), (.int (4 : Int32))])) _
    refine XS.icmpNo X18.here hx rfl (hb hby at_150) rfl (tlt (by decide : (1 : Int32) < (4 : Int32))).2.2.2 ?_
    show Steps p.tables e below (T18.setTop (mkF m 153 #[.val (.int p1), .val (.int p2), .val (.int p3), .val (.int p4), .val (.int p5), .val (.int (4 : Int32)), .val (.ref b6), .val (.ref b11), .val (.int (0 : Int32)), .val (.int (own_anyf (own_at [p2, p3, p4, p5]) 4 0 0)), .val (.int (1 : Int32)), .unset] [])) _
    refine XS.aload X18.here hx rfl (hb hby at_153) rfl rfl ?_
    show Steps p.tables e below (T18.setTop (mkF m 155 #[.val (.int p1), .val (.int p2), .val (.int p3), .val (.int p4), .val (.int p5), .val (.int (4 : Int32)), .val (.ref b6), .val (.ref b11), .val (.int (0 : Int32)), .val (.int (own_anyf (own_at [p2, p3, p4, p5]) 4 0 0)), .val (.int (1 : Int32)), .unset] [(.ref b6)])) _
    refine XS.iconst X18.here hx rfl (hb hby at_155) ?_
    show Steps p.tables e below (T18.setTop (mkF m 156 #[.val (.int p1), .val (.int p2), .val (.int p3), .val (.int p4), .val (.int p5), .val (.int (4 : Int32)), .val (.ref b6), .val (.ref b11), .val (.int (0 : Int32)), .val (.int (own_anyf (own_at [p2, p3, p4, p5]) 4 0 0)), .val (.int (1 : Int32)), .unset] [(.int (1 : Int32)), (.ref b6)])) _
    refine XS.iload X18.here hx rfl (hb hby at_156) rfl ?_
    show Steps p.tables e below (T18.setTop (mkF m 158 #[.val (.int p1), .val (.int p2), .val (.int p3), .val (.int p4), .val (.int p5), .val (.int (4 : Int32)), .val (.ref b6), .val (.ref b11), .val (.int (0 : Int32)), .val (.int (own_anyf (own_at [p2, p3, p4, p5]) 4 0 0)), .val (.int (1 : Int32)), .unset] [(.int (1 : Int32)), (.int (1 : Int32)), (.ref b6)])) _
    refine st19 _ ?_
    show Steps p.tables e below (T19.setTop (mkF m 159 #[.val (.int p1), .val (.int p2), .val (.int p3), .val (.int p4), .val (.int p5), .val (.int (4 : Int32)), .val (.ref b6), .val (.ref b11), .val (.int (0 : Int32)), .val (.int (own_anyf (own_at [p2, p3, p4, p5]) 4 0 0)), .val (.int (1 : Int32)), .unset] [])) _
    refine XS.iload X19.here hx rfl (hb hby at_159) rfl ?_
    show Steps p.tables e below (T19.setTop (mkF m 161 #[.val (.int p1), .val (.int p2), .val (.int p3), .val (.int p4), .val (.int p5), .val (.int (4 : Int32)), .val (.ref b6), .val (.ref b11), .val (.int (0 : Int32)), .val (.int (own_anyf (own_at [p2, p3, p4, p5]) 4 0 0)), .val (.int (1 : Int32)), .unset] [(.int (4 : Int32))])) _
    refine XS.iconst X19.here hx rfl (hb hby at_161) ?_
    show Steps p.tables e below (T19.setTop (mkF m 162 #[.val (.int p1), .val (.int p2), .val (.int p3), .val (.int p4), .val (.int p5), .val (.int (4 : Int32)), .val (.ref b6), .val (.ref b11), .val (.int (0 : Int32)), .val (.int (own_anyf (own_at [p2, p3, p4, p5]) 4 0 0)), .val (.int (1 : Int32)), .unset] [(.int (2 : Int32)), (.int (4 : Int32))])) _
    refine XS.icmpNo X19.here hx rfl (hb hby at_162) rfl (tlt (by decide : (2 : Int32) < (4 : Int32))).2.2.2 ?_
    show Steps p.tables e below (T19.setTop (mkF m 165 #[.val (.int p1), .val (.int p2), .val (.int p3), .val (.int p4), .val (.int p5), .val (.int (4 : Int32)), .val (.ref b6), .val (.ref b11), .val (.int (0 : Int32)), .val (.int (own_anyf (own_at [p2, p3, p4, p5]) 4 0 0)), .val (.int (1 : Int32)), .unset] [])) _
    refine XS.aload X19.here hx rfl (hb hby at_165) rfl rfl ?_
    show Steps p.tables e below (T19.setTop (mkF m 167 #[.val (.int p1), .val (.int p2), .val (.int p3), .val (.int p4), .val (.int p5), .val (.int (4 : Int32)), .val (.ref b6), .val (.ref b11), .val (.int (0 : Int32)), .val (.int (own_anyf (own_at [p2, p3, p4, p5]) 4 0 0)), .val (.int (1 : Int32)), .unset] [(.ref b6)])) _
    refine XS.iconst X19.here hx rfl (hb hby at_167) ?_
    show Steps p.tables e below (T19.setTop (mkF m 168 #[.val (.int p1), .val (.int p2), .val (.int p3), .val (.int p4), .val (.int p5), .val (.int (4 : Int32)), .val (.ref b6), .val (.ref b11), .val (.int (0 : Int32)), .val (.int (own_anyf (own_at [p2, p3, p4, p5]) 4 0 0)), .val (.int (1 : Int32)), .unset] [(.int (2 : Int32)), (.ref b6)])) _
    refine XS.iload X19.here hx rfl (hb hby at_168) rfl ?_
    show Steps p.tables e below (T19.setTop (mkF m 170 #[.val (.int p1), .val (.int p2), .val (.int p3), .val (.int p4), .val (.int p5), .val (.int (4 : Int32)), .val (.ref b6), .val (.ref b11), .val (.int (0 : Int32)), .val (.int (own_anyf (own_at [p2, p3, p4, p5]) 4 0 0)), .val (.int (1 : Int32)), .unset] [(.int (1 : Int32)), (.int (2 : Int32)), (.ref b6)])) _
    refine st20 _ ?_
    show Steps p.tables e below (T20.setTop (mkF m 171 #[.val (.int p1), .val (.int p2), .val (.int p3), .val (.int p4), .val (.int p5), .val (.int (4 : Int32)), .val (.ref b6), .val (.ref b11), .val (.int (0 : Int32)), .val (.int (own_anyf (own_at [p2, p3, p4, p5]) 4 0 0)), .val (.int (1 : Int32)), .unset] [])) _
    refine XS.iload X20.here hx rfl (hb hby at_171) rfl ?_
    show Steps p.tables e below (T20.setTop (mkF m 173 #[.val (.int p1), .val (.int p2), .val (.int p3), .val (.int p4), .val (.int p5), .val (.int (4 : Int32)), .val (.ref b6), .val (.ref b11), .val (.int (0 : Int32)), .val (.int (own_anyf (own_at [p2, p3, p4, p5]) 4 0 0)), .val (.int (1 : Int32)), .unset] [(.int (4 : Int32))])) _
    refine XS.iconst X20.here hx rfl (hb hby at_173) ?_
    show Steps p.tables e below (T20.setTop (mkF m 174 #[.val (.int p1), .val (.int p2), .val (.int p3), .val (.int p4), .val (.int p5), .val (.int (4 : Int32)), .val (.ref b6), .val (.ref b11), .val (.int (0 : Int32)), .val (.int (own_anyf (own_at [p2, p3, p4, p5]) 4 0 0)), .val (.int (1 : Int32)), .unset] [(.int (3 : Int32)), (.int (4 : Int32))])) _
    refine XS.icmpNo X20.here hx rfl (hb hby at_174) rfl (tlt (by decide : (3 : Int32) < (4 : Int32))).2.2.2 ?_
    show Steps p.tables e below (T20.setTop (mkF m 177 #[.val (.int p1), .val (.int p2), .val (.int p3), .val (.int p4), .val (.int p5), .val (.int (4 : Int32)), .val (.ref b6), .val (.ref b11), .val (.int (0 : Int32)), .val (.int (own_anyf (own_at [p2, p3, p4, p5]) 4 0 0)), .val (.int (1 : Int32)), .unset] [])) _
    refine XS.aload X20.here hx rfl (hb hby at_177) rfl rfl ?_
    show Steps p.tables e below (T20.setTop (mkF m 179 #[.val (.int p1), .val (.int p2), .val (.int p3), .val (.int p4), .val (.int p5), .val (.int (4 : Int32)), .val (.ref b6), .val (.ref b11), .val (.int (0 : Int32)), .val (.int (own_anyf (own_at [p2, p3, p4, p5]) 4 0 0)), .val (.int (1 : Int32)), .unset] [(.ref b6)])) _
    refine XS.iconst X20.here hx rfl (hb hby at_179) ?_
    show Steps p.tables e below (T20.setTop (mkF m 180 #[.val (.int p1), .val (.int p2), .val (.int p3), .val (.int p4), .val (.int p5), .val (.int (4 : Int32)), .val (.ref b6), .val (.ref b11), .val (.int (0 : Int32)), .val (.int (own_anyf (own_at [p2, p3, p4, p5]) 4 0 0)), .val (.int (1 : Int32)), .unset] [(.int (3 : Int32)), (.ref b6)])) _
    refine XS.iload X20.here hx rfl (hb hby at_180) rfl ?_
    show Steps p.tables e below (T20.setTop (mkF m 182 #[.val (.int p1), .val (.int p2), .val (.int p3), .val (.int p4), .val (.int p5), .val (.int (4 : Int32)), .val (.ref b6), .val (.ref b11), .val (.int (0 : Int32)), .val (.int (own_anyf (own_at [p2, p3, p4, p5]) 4 0 0)), .val (.int (1 : Int32)), .unset] [(.int (1 : Int32)), (.int (3 : Int32)), (.ref b6)])) _
    refine st21 _ ?_
    show Steps p.tables e below (T21.setTop (mkF m 183 #[.val (.int p1), .val (.int p2), .val (.int p3), .val (.int p4), .val (.int p5), .val (.int (4 : Int32)), .val (.ref b6), .val (.ref b11), .val (.int (0 : Int32)), .val (.int (own_anyf (own_at [p2, p3, p4, p5]) 4 0 0)), .val (.int (1 : Int32)), .unset] [])) _
    refine XS.aload X21.here hx rfl (hb hby at_183) rfl rfl ?_
    show Steps p.tables e below (T21.setTop (mkF m 185 #[.val (.int p1), .val (.int p2), .val (.int p3), .val (.int p4), .val (.int p5), .val (.int (4 : Int32)), .val (.ref b6), .val (.ref b11), .val (.int (0 : Int32)), .val (.int (own_anyf (own_at [p2, p3, p4, p5]) 4 0 0)), .val (.int (1 : Int32)), .unset] [(.ref b11)])) _
    refine st22.trans ?_
    show Steps p.tables e below (T22.setTop (mkF m 188 #[.val (.int p1), .val (.int p2), .val (.int p3), .val (.int p4), .val (.int p5), .val (.int (4 : Int32)), .val (.ref b6), .val (.ref b11), .val (.int (0 : Int32)), .val (.int (own_anyf (own_at [p2, p3, p4, p5]) 4 0 0)), .val (.int (1 : Int32)), .unset] [(.int (own_anyf (own_at [p2, p3, p4, p5]) 4 0 0))])) _
    refine XS.istore X22.here hx rfl (hb hby at_188) rfl (l' := #[.val (.int p1), .val (.int p2), .val (.int p3), .val (.int p4), .val (.int p5), .val (.int (4 : Int32)), .val (.ref b6), .val (.ref b11), .val (.int (0 : Int32)), .val (.int (own_anyf (own_at [p2, p3, p4, p5]) 4 0 0)), .val (.int (1 : Int32)), .val (.int (own_anyf (own_at [p2, p3, p4, p5]) 4 0 0))]) rfl ?_
    show Steps p.tables e below (T22.setTop (mkF m 190 #[.val (.int p1), .val (.int p2), .val (.int p3), .val (.int p4), .val (.int p5), .val (.int (4 : Int32)), .val (.ref b6), .val (.ref b11), .val (.int (0 : Int32)), .val (.int (own_anyf (own_at [p2, p3, p4, p5]) 4 0 0)), .val (.int (1 : Int32)), .val (.int (own_anyf (own_at [p2, p3, p4, p5]) 4 0 0))] [])) _
    refine XS.iload X22.here hx rfl (hb hby at_190) rfl ?_
    show Steps p.tables e below (T22.setTop (mkF m 192 #[.val (.int p1), .val (.int p2), .val (.int p3), .val (.int p4), .val (.int p5), .val (.int (4 : Int32)), .val (.ref b6), .val (.ref b11), .val (.int (0 : Int32)), .val (.int (own_anyf (own_at [p2, p3, p4, p5]) 4 0 0)), .val (.int (1 : Int32)), .val (.int (own_anyf (own_at [p2, p3, p4, p5]) 4 0 0))] [(.int (own_anyf (own_at [p2, p3, p4, p5]) 4 0 0))])) _
    refine XS.iload X22.here hx rfl (hb hby at_192) rfl ?_
    show Steps p.tables e below (T22.setTop (mkF m 194 #[.val (.int p1), .val (.int p2), .val (.int p3), .val (.int p4), .val (.int p5), .val (.int (4 : Int32)), .val (.ref b6), .val (.ref b11), .val (.int (0 : Int32)), .val (.int (own_anyf (own_at [p2, p3, p4, p5]) 4 0 0)), .val (.int (1 : Int32)), .val (.int (own_anyf (own_at [p2, p3, p4, p5]) 4 0 0))] [(.int (0 : Int32)), (.int (own_anyf (own_at [p2, p3, p4, p5]) 4 0 0))])) _
    refine XS.icmpNo X22.here hx rfl (hb hby at_194) rfl (teq (own_ok : (own_anyf (own_at [p2, p3, p4, p5]) 4 0 0) = (0 : Int32))).2 ?_
    show Steps p.tables e below (T22.setTop (mkF m 197 #[.val (.int p1), .val (.int p2), .val (.int p3), .val (.int p4), .val (.int p5), .val (.int (4 : Int32)), .val (.ref b6), .val (.ref b11), .val (.int (0 : Int32)), .val (.int (own_anyf (own_at [p2, p3, p4, p5]) 4 0 0)), .val (.int (1 : Int32)), .val (.int (own_anyf (own_at [p2, p3, p4, p5]) 4 0 0))] [])) _
    refine XS.iload X22.here hx rfl (hb hby at_197) rfl ?_
    show Steps p.tables e below (T22.setTop (mkF m 199 #[.val (.int p1), .val (.int p2), .val (.int p3), .val (.int p4), .val (.int p5), .val (.int (4 : Int32)), .val (.ref b6), .val (.ref b11), .val (.int (0 : Int32)), .val (.int (own_anyf (own_at [p2, p3, p4, p5]) 4 0 0)), .val (.int (1 : Int32)), .val (.int (own_anyf (own_at [p2, p3, p4, p5]) 4 0 0))] [(.int (own_anyf (own_at [p2, p3, p4, p5]) 4 0 0))])) _
    refine XS.iload X22.here hx rfl (hb hby at_199) rfl ?_
    show Steps p.tables e below (T22.setTop (mkF m 201 #[.val (.int p1), .val (.int p2), .val (.int p3), .val (.int p4), .val (.int p5), .val (.int (4 : Int32)), .val (.ref b6), .val (.ref b11), .val (.int (0 : Int32)), .val (.int (own_anyf (own_at [p2, p3, p4, p5]) 4 0 0)), .val (.int (1 : Int32)), .val (.int (own_anyf (own_at [p2, p3, p4, p5]) 4 0 0))] [(.int (0 : Int32)), (.int (own_anyf (own_at [p2, p3, p4, p5]) 4 0 0))])) _
    refine XS.icmpNo X22.here hx rfl (hb hby at_201) rfl (teq (own_ok : (own_anyf (own_at [p2, p3, p4, p5]) 4 0 0) = (0 : Int32))).2 ?_
    show Steps p.tables e below (T22.setTop (mkF m 204 #[.val (.int p1), .val (.int p2), .val (.int p3), .val (.int p4), .val (.int p5), .val (.int (4 : Int32)), .val (.ref b6), .val (.ref b11), .val (.int (0 : Int32)), .val (.int (own_anyf (own_at [p2, p3, p4, p5]) 4 0 0)), .val (.int (1 : Int32)), .val (.int (own_anyf (own_at [p2, p3, p4, p5]) 4 0 0))] [])) _
    refine XS.iconst X22.here hx rfl (hb hby at_204) ?_
    show Steps p.tables e below (T22.setTop (mkF m 205 #[.val (.int p1), .val (.int p2), .val (.int p3), .val (.int p4), .val (.int p5), .val (.int (4 : Int32)), .val (.ref b6), .val (.ref b11), .val (.int (0 : Int32)), .val (.int (own_anyf (own_at [p2, p3, p4, p5]) 4 0 0)), .val (.int (1 : Int32)), .val (.int (own_anyf (own_at [p2, p3, p4, p5]) 4 0 0))] [(.int (1 : Int32))])) _
    refine XS.goto X22.here hx rfl (pc0 := 205) (pc' := 209) rfl (hb hby at_205) (by decide) (by decide) ?_
    show Steps p.tables e below (T22.setTop (mkF m 209 #[.val (.int p1), .val (.int p2), .val (.int p3), .val (.int p4), .val (.int p5), .val (.int (4 : Int32)), .val (.ref b6), .val (.ref b11), .val (.int (0 : Int32)), .val (.int (own_anyf (own_at [p2, p3, p4, p5]) 4 0 0)), .val (.int (1 : Int32)), .val (.int (own_anyf (own_at [p2, p3, p4, p5]) 4 0 0))] [(.int (1 : Int32))])) _
    exact retN X22 hx (t := .boolean) Bd.returns (by simp) (hb hby at_209) hr
  · show Q0_44 Z p1 p2 p3 p4 p5 h0 n0 _ T22.heap _
    exact ⟨rfl, N22⟩
set_option maxRecDepth 65536 in
set_option maxHeartbeats 40000000 in
theorem comes_1 {Post : Tables → Env → Array Value → State → Outcome → State → Prop} (hpost : ∀ tb e args s v u, (limb_1_1.after args s (.returned v) u = true ∧ limb_1_2.after args s (.returned v) u = true ∧ True) → FrameEnd s (.returned v) u (Jvm.fieldLocs frame_1_writes args s ++ Jvm.arrayLocs frame_1_arrays args s ++ Jvm.staticLocs frame_1_statics s) 16 128 → Post tb e args s (.returned v) u) :
    ArmFor flags0 classFile x code maxLocals ret World_1 tables_1 room_1 Calls_1 rest_1 Pre_1 Post := by
  intro l hfl _ _ p e ha hc hk s m args below hf hA hF happ hP
  obtain ⟨hcalls, hrest, hpre⟩ := hP
  obtain ⟨-, -, -, hnamed, -, -, -, hat⟩ := (Spec.applies_iff hf).mp happ
  obtain ⟨hg, hn⟩ := and_e (Cond.before_iff.mp (show (Jvm.Cond.and given_1 narrow_1).before args s = true from hpre))
  obtain ⟨g15, g16⟩ := and_e hg
  obtain ⟨g17, g18⟩ := and_e g16
  obtain ⟨g19, g20⟩ := and_e g18
  obtain ⟨g21, g22⟩ := and_e g20
  obtain ⟨g23, g24⟩ := and_e g22
  obtain ⟨w0, w1, w2, w3, w4, rfl⟩ : ∃ w0 w1 w2 w3 w4 : Value, args = #[w0, w1, w2, w3, w4] := by
    have hs : args.size = 5 := by simpa [Cond.value, given_1] using g15
    obtain ⟨L⟩ := args
    match L, hs with
    | [w0, w1, w2, w3, w4], _ => exact ⟨w0, w1, w2, w3, w4, rfl⟩
  have hw := fun d (hd : d ∈ tables_1) => atoms_spec (ws := Jvm.Cond.code x code maxLocals ret :: tables_1) hat d (List.mem_cons_of_mem _ hd)
  have hfit : Fit s := fun {y c} hc i hi => by
    obtain ⟨ha, rfl⟩ := Array.getElem?_eq_some_iff.mp hc
    have q := List.all_eq_true.mp ((Array.all_eq_true_iff_forall_mem.mp hF) _ (Array.getElem_mem ha)) i (List.mem_range.mpr hi)
    simpa [Array.getElem?_eq_getElem hi] using q
  obtain ⟨i0, ei0⟩ := is_v g17
  obtain rfl : w0 = (.int i0) := Option.some.inj ei0
  obtain ⟨i1, ei1⟩ := is_v g19
  obtain rfl : w1 = (.int i1) := Option.some.inj ei1
  obtain ⟨i2, ei2⟩ := is_v g21
  obtain rfl : w2 = (.int i2) := Option.some.inj ei2
  obtain ⟨i3, ei3⟩ := is_v g23
  obtain rfl : w3 = (.int i3) := Option.some.inj ei3
  obtain ⟨i4, ei4⟩ := is_v g24
  obtain rfl : w4 = (.int i4) := Option.some.inj ei4
  have go : MetFree l x (head1 (Jvm.Cond.code x code maxLocals ret :: tables_1) room_1) (fun a U => a = #[(.int i0), (.int i1), (.int i2), (.int i3), (.int i4)] ∧ s.Warmed39 U.vm ∧ U.heap = s.heap) (fun _ _ _ _ _ => True) (fun _ U o U' => ∃ v L, o = .returned v ∧ (v = some (.int (1 : Int32)) ∧ Fr s.heap.size L) ∧ FrameEnd U o U' L room_1.cells room_1.slots) := by
    rcases own_five i0 with c | c | c | c | c
    · exact rm0_00 l s _ hw tables_1 i0 i1 i2 i3 i4 s.heap s.heap.size (Nat.le_refl _) c
    · by_cases d0 : i1 = (1 : Int32)
      · exact rm0_10 l s _ hw tables_1 i0 i1 i2 i3 i4 s.heap s.heap.size (Nat.le_refl _) c d0
      · exact rm0_11 l s _ hw tables_1 i0 i1 i2 i3 i4 s.heap s.heap.size (Nat.le_refl _) c d0
    · by_cases d0 : i1 = (1 : Int32)
      · exact rm0_20 l s _ hw tables_1 i0 i1 i2 i3 i4 s.heap s.heap.size (Nat.le_refl _) c d0
      · by_cases d1 : i2 = (1 : Int32)
        · exact rm0_21 l s _ hw tables_1 i0 i1 i2 i3 i4 s.heap s.heap.size (Nat.le_refl _) c d0 d1
        · exact rm0_22 l s _ hw tables_1 i0 i1 i2 i3 i4 s.heap s.heap.size (Nat.le_refl _) c d0 d1
    · by_cases d0 : i1 = (1 : Int32)
      · exact rm0_30 l s _ hw tables_1 i0 i1 i2 i3 i4 s.heap s.heap.size (Nat.le_refl _) c d0
      · by_cases d1 : i2 = (1 : Int32)
        · exact rm0_31 l s _ hw tables_1 i0 i1 i2 i3 i4 s.heap s.heap.size (Nat.le_refl _) c d0 d1
        · by_cases d2 : i3 = (1 : Int32)
          · exact rm0_32 l s _ hw tables_1 i0 i1 i2 i3 i4 s.heap s.heap.size (Nat.le_refl _) c d0 d1 d2
          · exact rm0_33 l s _ hw tables_1 i0 i1 i2 i3 i4 s.heap s.heap.size (Nat.le_refl _) c d0 d1 d2
    · by_cases d0 : i1 = (1 : Int32)
      · exact rm0_40 l s _ hw tables_1 i0 i1 i2 i3 i4 s.heap s.heap.size (Nat.le_refl _) c d0
      · by_cases d1 : i2 = (1 : Int32)
        · exact rm0_41 l s _ hw tables_1 i0 i1 i2 i3 i4 s.heap s.heap.size (Nat.le_refl _) c d0 d1
        · by_cases d2 : i3 = (1 : Int32)
          · exact rm0_42 l s _ hw tables_1 i0 i1 i2 i3 i4 s.heap s.heap.size (Nat.le_refl _) c d0 d1 d2
          · by_cases d3 : i4 = (1 : Int32)
            · exact rm0_43 l s _ hw tables_1 i0 i1 i2 i3 i4 s.heap s.heap.size (Nat.le_refl _) c d0 d1 d2 d3
            · exact rm0_44 l s _ hw tables_1 i0 i1 i2 i3 i4 s.heap s.heap.size (Nat.le_refl _) c d0 d1 d2 d3
  obtain ⟨n, o, h1, h2, h3, _, L, rfl, ⟨rfl, N⟩, hq⟩ := go p e ha hc hk s m _ below hf ((Spec.applies_iff_loose hf).mp happ).1 ⟨rfl, State.Warmed39.refl s, rfl⟩ trivial
  refine ⟨n, _, h1, h2, h3, hpost _ _ _ _ _ _ ⟨Cond.after_iff.mpr rfl, Cond.after_iff.mpr (eq_i res_at (Term.int_eval (1)) rfl), trivial⟩ ⟨hq.1, hq.2.1, (hq.2.2.sift fun y hy => Or.inr (N y hy)).mono (by decide) (by decide)⟩⟩
theorem main_1_1 : Claimed_1_1 := comes_1 fun _ _ _ _ _ _ h hF => ⟨h.1, hF⟩
theorem main_1_2 : Claimed_1_2 := comes_1 fun _ _ _ _ _ _ h hF => ⟨h.2.1, hF⟩
end Jvm.Pilot.@@N@@
namespace Jvm.Pilot.@@N@@
open Jvm Jvm.ClassFile Sem Op Lib Jvm.Free Jvm.Stand Jvm.Pilot.@@N@@.Jvm.D
/-! MADE BY PROGRAM (witnessworld.py) out of the Statement's table words and the real class files: 9 classes; the members and pool entries that the words name. The judged class is class 1, her method 2. -/
namespace start1
open Jvm.ClassFile
def u (s : String) : CpInfo := .utf8 (stringToUtf16 s)
/-- a pool by its gaps: so many unusable entries, then the entry; so many at the end -/
def gap : Nat → List CpInfo → List CpInfo
  | 0, r => r
  | n + 1, r => .unusable :: gap n r
def poolList (es : List (Nat × CpInfo)) (last : Nat) : List CpInfo := es.foldr (fun e r => gap e.1 (e.2 :: r)) (gap last [])
def pool (es : List (Nat × CpInfo)) (last : Nat) : Array CpInfo := ⟨poolList es last⟩
def fileOf (pool : Array CpInfo) (this : Nat) (attrs : Array Attribute := #[]) (ms : Array MethodInfo := #[]) (fl : Nat := 33) (sup : Nat := 0) (ifs : Array Nat := #[]) (fds : Array FieldInfo := #[]) : ClassFile where
  minorVersion := 0
  majorVersion := 65
  constantPool := pool
  accessFlags := fl
  thisClass := this
  superClass := sup
  interfaces := ifs
  fields := fds
  methods := ms
  attributes := attrs
def plain (name : String) (sup : Option ClassId) : Class where
  name := name
  kind := .ordinary
  loader := none
  accessFlags := 33
  super := sup
  interfaces := #[]
  cf := none
  fields := #[]
  methods := #[]
  instanceTypes := #[]
  staticTypes := #[]
  resolved := #[]
  callSites := []
  init := .initialized
  statics := none
  mirror := none

def pool0 : Array CpInfo := pool [(5, u "<init>"), (0, u "()V"), (1, .class_ 10), (1, u "java/lang/Object"), (85, u "clone"), (0, u "()Ljava/lang/Object;")] 26

def k0c0 : Code := { maxStack := 0, maxLocals := 1, code := object_method_1_code, exceptionTable := #[], attributes := #[] }
def k0m0 : Method := { name := "<init>", desc := "()V", sig := { parameters := [], returnType := none }, accessFlags := 1, code := some k0c0 }
def k0m1 : Method := { name := "clone", desc := "()Ljava/lang/Object;", sig := { parameters := [], returnType := some (.object "java/lang/Object") }, accessFlags := 260, code := none }
/-- java/lang/Object -/
def k0 : Class := { plain "java/lang/Object" none with
  accessFlags := 33
  interfaces := #[]
  cf := some (fileOf pool0 8 #[] #[{ accessFlags := 1, nameIndex := 5, descriptorIndex := 6, attributes := #[] }, { accessFlags := 260, nameIndex := 96, descriptorIndex := 97, attributes := #[] }] 33 0 #[] #[])
  fields := #[]
  methods := #[k0m0, k0m1]
  instanceTypes := #[]
  staticTypes := #[]
  resolved := Array.replicate 124 none
  statics := none }

def pool1 : Array CpInfo := pool [(2, .class_ 4), (1, u "java/lang/Object"), (0, u "<init>"), (0, u "()V"), (0, .integer 2147483647), (0, .class_ 9), (0, u "com/example/tendril/tendril/WireColumns$Formats"), (0, .methodref 8 11), (0, .nameAndType 5 12), (0, u "([I)V"), (0, .methodref 14 15), (0, .class_ 16), (0, .nameAndType 17 18), (0, u "com/example/tendril/tendril/FormatsAnyBinaryPinLaw"), (0, u "hit"), (0, u "(III)Z"), (0, .methodref 8 20), (0, .nameAndType 21 22), (0, u "anyBinary"), (0, u "()Z"), (3, u "law"), (0, u "(IIIII)Z")] 8

def k1m0 : Method := { name := "<init>", desc := "()V", sig := { parameters := [], returnType := none }, accessFlags := 2, code := none }
def k1c1 : Code := { maxStack := 2, maxLocals := 3, code := method_2_code, exceptionTable := #[], attributes := #[] }
def k1m1 : Method := { name := "hit", desc := "(III)Z", sig := { parameters := [.int, .int, .int], returnType := some .boolean }, accessFlags := 10, code := some k1c1 }
def k1c2 : Code := { maxStack := 3, maxLocals := 12, code := code, exceptionTable := #[], attributes := #[] }
def k1m2 : Method := { name := "law", desc := "(IIIII)Z", sig := { parameters := [.int, .int, .int, .int, .int], returnType := some .boolean }, accessFlags := 9, code := some k1c2 }
/-- com/example/tendril/tendril/FormatsAnyBinaryPinLaw -/
def k1 : Class := { plain "com/example/tendril/tendril/FormatsAnyBinaryPinLaw" (some 0) with
  accessFlags := 49
  interfaces := #[]
  cf := some (fileOf pool1 14 #[] #[{ accessFlags := 2, nameIndex := 5, descriptorIndex := 6, attributes := #[] }, { accessFlags := 10, nameIndex := 17, descriptorIndex := 18, attributes := #[] }, { accessFlags := 9, nameIndex := 26, descriptorIndex := 27, attributes := #[] }] 49 2 #[] #[])
  fields := #[]
  methods := #[k1m0, k1m1, k1m2]
  instanceTypes := #[]
  staticTypes := #[]
  resolved := Array.replicate 36 none
  statics := none }

def pool2 : Array CpInfo := pool [(1, .class_ 2), (0, u "com/example/tendril/tendril/WireColumns"), (0, .methodref 4 5), (0, .class_ 6), (0, .nameAndType 7 8), (0, u "java/lang/Object"), (0, u "<init>"), (0, u "()V"), (0, .methodref 10 11), (0, .class_ 12), (0, .nameAndType 13 14), (0, u "[I"), (0, u "clone"), (0, u "()Ljava/lang/Object;"), (0, .fieldref 16 17), (0, .class_ 18), (0, .nameAndType 19 12), (0, u "com/example/tendril/tendril/WireColumns$Formats"), (0, u "codes"), (2, u "([I)V"), (2, u "ALL_TEXT"), (0, u "Lcom/example/tendril/tendril/WireColumns$Formats;"), (5, u "anyBinary"), (0, u "()Z")] 6

def k2c0 : Code := { maxStack := 2, maxLocals := 2, code := prog_216_method_1_code, exceptionTable := #[], attributes := #[] }
def k2m0 : Method := { name := "<init>", desc := "([I)V", sig := { parameters := [(.array .int)], returnType := none }, accessFlags := 0, code := some k2c0 }
def k2c1 : Code := { maxStack := 2, maxLocals := 6, code := prog_216_method_3_code, exceptionTable := #[], attributes := #[] }
def k2m1 : Method := { name := "anyBinary", desc := "()Z", sig := { parameters := [], returnType := some .boolean }, accessFlags := 0, code := some k2c1 }
/-- com/example/tendril/tendril/WireColumns$Formats -/
def k2 : Class := { plain "com/example/tendril/tendril/WireColumns$Formats" (some 0) with
  accessFlags := 48
  interfaces := #[]
  cf := some (fileOf pool2 16 #[.nestHost 1] #[{ accessFlags := 0, nameIndex := 7, descriptorIndex := 22, attributes := #[] }, { accessFlags := 0, nameIndex := 32, descriptorIndex := 33, attributes := #[] }] 48 4 #[] #[{ accessFlags := 24, nameIndex := 25, descriptorIndex := 26, attributes := #[] }, { accessFlags := 18, nameIndex := 19, descriptorIndex := 12, attributes := #[] }])
  fields := #[{ name := "ALL_TEXT", type := (.object "com/example/tendril/tendril/WireColumns$Formats"), accessFlags := 24, slot := 0, constantValue := 0 }, { name := "codes", type := (.array .int), accessFlags := 18, slot := 0, constantValue := 0 }]
  methods := #[k2m0, k2m1]
  instanceTypes := #[(.array .int)]
  staticTypes := #[(.object "com/example/tendril/tendril/WireColumns$Formats")]
  resolved := Array.replicate 40 none
  statics := none }

def pool3 : Array CpInfo := pool [(1, .class_ 2), (0, u "java/lang/Cloneable"), (0, .class_ 4), (0, u "java/lang/Object")] 2

/-- java/lang/Cloneable -/
def k3 : Class := { plain "java/lang/Cloneable" (some 0) with
  accessFlags := 1537
  interfaces := #[]
  cf := some (fileOf pool3 1 #[] #[] 1537 3 #[] #[])
  fields := #[]
  methods := #[]
  instanceTypes := #[]
  staticTypes := #[]
  resolved := Array.replicate 7 none
  statics := none }

def pool4 : Array CpInfo := pool [(1, u "java/io/Serializable"), (0, .class_ 1), (0, u "java/lang/Object"), (0, .class_ 3)] 3

/-- java/io/Serializable -/
def k4 : Class := { plain "java/io/Serializable" (some 0) with
  accessFlags := 1537
  interfaces := #[]
  cf := some (fileOf pool4 2 #[] #[] 1537 4 #[] #[])
  fields := #[]
  methods := #[]
  instanceTypes := #[]
  staticTypes := #[]
  resolved := Array.replicate 8 none
  statics := none }

/-- the primitive byte -/
def k5 : Class := { plain "byte" none with kind := .primitive 'B', accessFlags := 0x411 }
/-- [B -/
def k6 : Class := { plain "[B" (some 0) with kind := .array 5 .byte, interfaces := #[3, 4], accessFlags := 1041 }

/-- the primitive int -/
def k7 : Class := { plain "int" none with kind := .primitive 'I', accessFlags := 0x411 }
/-- [I -/
def k8 : Class := { plain "[I" (some 0) with kind := .array 7 .int, interfaces := #[3, 4], accessFlags := 1041 }

def heap : Heap := #[]
def classes : Array Class := #[k0, k1, k2, k3, k4, k5, k6, k7, k8]
def interned : List (Array UInt16 × Addr) := []
def slotsUsed : Nat := 0
def theMethod : MethodId := ⟨1, 2⟩
def args0 : Array Value := #[.int 3, .int 7, .int 1, .int 0, .int 4]
def aboutOver (below : List Frame) : State where
  vm := { classes := classes, interned := interned.toArray }
  heap := heap
  slotsUsed := slotsUsed
  threads := #[{ frames := .invoking theMethod args0 :: below }]
def below0 : List Frame := [.native { method := ⟨0, 0⟩, args := #[] }]
def about1 : State := aboutOver below0
def p0 : Program := .bare "" "" ""
def e0 : Env := launch0.env 0 0 0
theorem w_frames : about1.frames = Frame.invoking theMethod args0 :: below0 := rfl
set_option maxRecDepth 65536 in
theorem w_args : argsFit about1.vm theMethod args0 = true := by decide +kernel
set_option maxRecDepth 65536 in
theorem w_heap : heapFits about1 = true := by decide +kernel
set_option maxRecDepth 65536 in
theorem w_runnable : about1.curStatus? = some .runnable := by decide +kernel
set_option maxRecDepth 65536 in
theorem w_alone : about1.alone = true := by decide +kernel
set_option maxRecDepth 65536 in
theorem w_named : about1.methodNamed? x = some theMethod := by decide +kernel
set_option maxRecDepth 65536 in
theorem w_hears : about1.hears theMethod below0 = true := by decide +kernel
set_option maxRecDepth 65536 in
theorem w_ripe : about1.ripe theMethod args0 below0 = true := by decide +kernel
theorem w_running : about1.status = .running := rfl
set_option maxRecDepth 65536 in
theorem w_room : about1.hasRoom e0.platform room_1 = true :=
  launch0.hasRoom_least _ room_1 (by decide +kernel) (by decide +kernel) (by decide +kernel) (by decide +kernel) (by decide +kernel) (by decide +kernel)
theorem allAtoms_all (ts : List Jvm.Cond) (a : Array Jvm.Value) (st : Jvm.State) : (allAtoms ts).before a st = ts.all (fun c => c.before a st) := by
  induction ts with
  | nil => rfl
  | cons c t ih =>
    show (Jvm.Cond.and c (allAtoms t)).before a st = _
    rw [Jvm.Cond.before_and, ih, List.all_cons]
def words1 : List Jvm.Cond := Jvm.Cond.code x code maxLocals ret :: tables_1
/-- a 'code' word, met by the world's own term for the bytes: nothing is compared byte by byte -/
theorem code_word {y : MethodName} {bytes : ByteArray} {mx : Nat} {rt : Option FieldType} {a : Array Value} {s : State} {m : MethodId} {meth : Method} {c : Code} (h1 : s.methodNamed? y = some m) (h2 : s.vm.method? m = some meth) (h3 : meth.code = some c) (h4 : c.code = bytes)
    (h5 : (c.maxLocals == mx && c.exceptionTable.isEmpty && decide (c.maxStack ≤ mostOperands) && decide (meth.sig.returnType = rt) && !meth.locks && decide (parseMethodDescriptor y.desc = some meth.sig)) = true) : (Jvm.Cond.code y bytes mx rt).before a s = true := by
  simp only [Bool.and_eq_true, beq_iff_eq, Bool.not_eq_true', decide_eq_true_eq] at h5
  obtain ⟨⟨⟨⟨⟨g1, g2⟩, g3⟩, g4⟩, g5⟩, g6⟩ := h5
  simp [Cond.before, Cond.holds, Cond.value, h1, h2, h3, h4, g1, g2, g3, g4, g5, g6]
def isCode : Jvm.Cond → Bool
  | .code _ _ _ _ => true
  | _ => false
theorem all_split {L : List Jvm.Cond} {P : Jvm.Cond → Bool} (h1 : L.all (fun c => isCode c || P c) = true) (h2 : ∀ c ∈ L.filter isCode, P c = true) : L.all P = true := by
  refine List.all_eq_true.mpr fun c hc => ?_
  have h := List.all_eq_true.mp h1 c hc
  rcases Bool.eq_false_or_eq_true (isCode c) with hi | hi
  · exact h2 c (List.mem_filter.mpr ⟨hc, hi⟩)
  · simpa [hi] using h
set_option maxRecDepth 65536 in
theorem w_c0 : (Jvm.Cond.code x code maxLocals ret).before args0 about1 = true := code_word (m := ⟨1, 2⟩) (meth := k1m2) (c := k1c2) (by decide +kernel) rfl rfl rfl (by decide +kernel)
set_option maxRecDepth 65536 in
theorem w_c1 : (Jvm.Cond.code ({ cls := "com/example/tendril/tendril/WireColumns$Formats", name := "<init>", desc := "([I)V" } : Jvm.MethodName) prog_216_method_1_code (2 : Nat) (Option.none : Option Jvm.ClassFile.FieldType)).before args0 about1 = true := code_word (m := ⟨2, 0⟩) (meth := k2m0) (c := k2c0) (by decide +kernel) rfl rfl rfl (by decide +kernel)
set_option maxRecDepth 65536 in
theorem w_c2 : (Jvm.Cond.code ({ cls := "java/lang/Object", name := "<init>", desc := "()V" } : Jvm.MethodName) object_method_1_code (1 : Nat) (Option.none : Option Jvm.ClassFile.FieldType)).before args0 about1 = true := code_word (m := ⟨0, 0⟩) (meth := k0m0) (c := k0c0) (by decide +kernel) rfl rfl rfl (by decide +kernel)
set_option maxRecDepth 65536 in
theorem w_c3 : (Jvm.Cond.code ({ cls := "com/example/tendril/tendril/FormatsAnyBinaryPinLaw", name := "hit", desc := "(III)Z" } : Jvm.MethodName) method_2_code (3 : Nat) (Option.some Jvm.ClassFile.FieldType.boolean)).before args0 about1 = true := code_word (m := ⟨1, 1⟩) (meth := k1m1) (c := k1c1) (by decide +kernel) rfl rfl rfl (by decide +kernel)
set_option maxRecDepth 65536 in
theorem w_c4 : (Jvm.Cond.code ({ cls := "com/example/tendril/tendril/WireColumns$Formats", name := "anyBinary", desc := "()Z" } : Jvm.MethodName) prog_216_method_3_code (6 : Nat) (Option.some Jvm.ClassFile.FieldType.boolean)).before args0 about1 = true := code_word (m := ⟨2, 1⟩) (meth := k2m1) (c := k2c1) (by decide +kernel) rfl rfl rfl (by decide +kernel)
def codes1 : List Jvm.Cond := [Jvm.Cond.code x code maxLocals ret, Jvm.Cond.code ({ cls := "com/example/tendril/tendril/WireColumns$Formats", name := "<init>", desc := "([I)V" } : Jvm.MethodName) prog_216_method_1_code (2 : Nat) (Option.none : Option Jvm.ClassFile.FieldType), Jvm.Cond.code ({ cls := "java/lang/Object", name := "<init>", desc := "()V" } : Jvm.MethodName) object_method_1_code (1 : Nat) (Option.none : Option Jvm.ClassFile.FieldType), Jvm.Cond.code ({ cls := "com/example/tendril/tendril/FormatsAnyBinaryPinLaw", name := "hit", desc := "(III)Z" } : Jvm.MethodName) method_2_code (3 : Nat) (Option.some Jvm.ClassFile.FieldType.boolean), Jvm.Cond.code ({ cls := "com/example/tendril/tendril/WireColumns$Formats", name := "anyBinary", desc := "()Z" } : Jvm.MethodName) prog_216_method_3_code (6 : Nat) (Option.some Jvm.ClassFile.FieldType.boolean)]
set_option maxRecDepth 65536 in
theorem codes_eq : words1.filter isCode = codes1 := rfl
theorem w_codes : ∀ c ∈ words1.filter isCode, c.before args0 about1 = true := by
  rw [codes_eq]
  intro c hc
  simp only [codes1, List.mem_cons, List.not_mem_nil, or_false] at hc
  rcases hc with rfl | rfl | rfl | rfl | rfl
  · exact w_c0
  · exact w_c1
  · exact w_c2
  · exact w_c3
  · exact w_c4
set_option maxRecDepth 65536 in
theorem w_t1 : (words1.take 24).all (fun c => isCode c || c.before args0 about1) = true := by decide +kernel
set_option maxRecDepth 65536 in
theorem w_t2 : (words1.drop 24).all (fun c => isCode c || c.before args0 about1) = true := by decide +kernel
theorem w_tables : (allAtoms (Jvm.Cond.code x code maxLocals ret :: tables_1)).before args0 about1 = true := by
  rw [allAtoms_all]
  show words1.all (fun c => c.before args0 about1) = true
  refine all_split ?_ w_codes
  rw [← List.take_append_drop 24 words1, List.all_append, w_t1, w_t2]
  rfl
set_option maxRecDepth 65536 in
theorem w_case : (Jvm.Cond.and given_1 narrow_1).before args0 about1 = true := by decide +kernel
theorem w_applies : (headSpec (Jvm.Cond.code x code maxLocals ret :: tables_1) room_1).applies x e0.platform about1 = true :=
  (Spec.applies_iff w_frames).mpr ⟨w_running, w_runnable, w_alone, w_named, w_hears, w_ripe, w_room, w_tables⟩
theorem atStart : AtStart classFile x code maxLocals ret World_1 tables_1 room_1 Calls_1 rest_1 Pre_1 launch0 p0 e0 about1 theMethod args0 below0 :=
  ⟨lists_1, trivial, launch0.admits_env _ _ _, launch0.least_env, fairChoices_fair.cas, fairChoices_fair.clock, w_frames, w_args, w_heap, w_applies, trivial, trivial, w_case⟩
end start1
theorem witness_1 : WitnessClaimed_1 := ⟨start1.p0, start1.e0, start1.about1, start1.theMethod, start1.args0, start1.below0, start1.atStart⟩
end Jvm.Pilot.@@N@@
