import JvmDerived
import JvmDerived.Pilot.@@N@@Statement
import JvmDerived.Pilot.@@N@@Code
set_option linter.unusedVariables false
set_option linter.unusedSimpArgs false
namespace Jvm.RoadKit
open Sem ClassFile Op Lib Jvm.Stand Jvm.Free Jvm.LawKit
section New
variable {p : Program} {l : Launch} {e : Env} {R : Room} {s : State} {m : MethodId} {args : Array Value} {below : List Frame} {meth : Method} {c : Code} {T : State} {locs : List Loc} {cells slots : Nat}
theorem retI (X : Stand p l e R s m args below meth c T locs cells slots) (hx : p.tables.exec = Jvm.exec) {pc : Nat} {Ls : Array Slot} {z : Int32} {rest : List Value} (hret : meth.sig.returnType = some .int) (hd : decode c.code pc = .ok (.ireturn, 1)) {fs : List Frame}
    (hl : ∀ (f : JFrame) (acts : List Action), f.method = m → f.locked = none → f.entered = [] → (doReturn e (T.setTop f) acts (some (.int z))).1 = T.setFrames fs) : Steps p.tables e below (T.setTop (mkF m pc Ls (.int z :: rest))) (T.setFrames fs) := by
  have hm' : T.vm.method? m = some meth := X.method'
  have hn : narrow .int (.int z) = .int z := rfl
  show Steps p.tables e below (T.setTop { method := m, pc := pc, locals := Ls, stack := _ :: rest, locked := none }) _
  jvm_step X.here [X.here.top, hx, hd, hm', hret, hn]
  first | (intro acts; rw [hl _ acts rfl rfl rfl]) | rw [hl _ _ rfl rfl rfl]
  exact Steps.refl _
end New
end Jvm.RoadKit
namespace Jvm.Pilot.@@N@@
open Jvm Jvm.ClassFile Sem Op Lib Jvm.Free Jvm.Stand Jvm.LawKit Jvm.RoadKit Bundle Jvm.Pilot.@@N@@.Jvm.D
theorem own_mask (x : Int32) (M : Nat) (hM : M < 2 ^ 31) : ∃ t : Nat, t ≤ M ∧ (x &&& Int32.ofNat M) = Int32.ofNat t := by
  refine ⟨(x &&& Int32.ofNat M).toBitVec.toNat, ?_, ?_⟩
  · simp only [Int32.toBitVec_and, BitVec.toNat_and]
    refine Nat.le_trans Nat.and_le_right ?_
    show (BitVec.ofNat 32 M).toNat ≤ M
    rw [BitVec.toNat_ofNat]
    exact Nat.mod_le _ _
  · apply Int32.toBitVec_inj.mp
    show _ = BitVec.ofNat 32 _
    rw [BitVec.ofNat_toNat]; simp
theorem own_rem (t n : Nat) (ht : t < 2 ^ 31) (hn : n < 2 ^ 31) : Int32.ofNat t % Int32.ofNat n = Int32.ofNat (t % n) := by
  apply Int32.toInt_inj.mp
  have hm : t % n ≤ t := Nat.mod_le _ _
  rw [Int32.toInt_mod, Int32.toInt_ofNat_of_lt ht, Int32.toInt_ofNat_of_lt hn, Int32.toInt_ofNat_of_lt (by omega)]
  rfl
theorem own_maskrem (x : Int32) (M n : Nat) (hM : M < 2 ^ 31) (h0 : 0 < n) (hn : n < 2 ^ 31) : ∃ t : Nat, t < n ∧ (x &&& Int32.ofNat M) % Int32.ofNat n = Int32.ofNat t := by
  obtain ⟨t, ht, e⟩ := own_mask x M hM
  exact ⟨t % n, Nat.mod_lt _ h0, by rw [e, own_rem t n (by omega) hn]⟩
theorem own_lt {i n : Nat} (hi : i < 2 ^ 31) (hn : n < 2 ^ 31) : Int32.ofNat i < Int32.ofNat n ↔ i < n := by
  rw [Int32.lt_iff_toInt_lt, Int32.toInt_ofNat_of_lt hi, Int32.toInt_ofNat_of_lt hn]
  omega
theorem own_clamp {i : Nat} (hi : i < 2 ^ 31) : (Int32.ofNat i).toNatClampNeg = i := Int32.toNatClampNeg_ofNat_of_lt hi
theorem own_nneg {i : Nat} (hi : i < 2 ^ 31) : ¬ Int32.ofNat i < 0 := fun h => absurd ((own_lt (i := i) (n := 0) hi (by decide)).mp h) (by omega)
theorem own_pos {i : Nat} (h1 : 1 ≤ i) (hi : i < 2 ^ 31) : (0 : Int32) < Int32.ofNat i := (own_lt (i := 0) (n := i) (by decide) hi).mpr (by omega)
theorem own_one (i : Nat) : Int32.ofNat i + (1 : Int32) = Int32.ofNat (i + 1) := (Int32.ofNat_add i 1).symm
theorem own_nz {i : Nat} (h1 : 1 ≤ i) (hi : i < 2 ^ 31) : Int32.ofNat i ≠ (0 : Int32) := fun h => by
  have := own_pos h1 hi
  rw [h] at this
  exact absurd this (by decide)
def own_low (i : Nat) : Nat := if i % 2 = 1 then 1 else if i % 4 = 2 then 2 else if i % 8 = 4 then 4 else if i % 16 = 8 then 8 else 16
theorem own_low_tab : ∀ i, i < 32 → 1 ≤ i → (Int32.ofNat i &&& -(Int32.ofNat i)) = Int32.ofNat (own_low i) ∧ 1 ≤ own_low i ∧ own_low i ≤ i := by decide +kernel
theorem own_inc {i : Nat} (h1 : 1 ≤ i) (h2 : i < 32) : Int32.ofNat i + (Int32.ofNat i &&& (-(Int32.ofNat i))) = Int32.ofNat (i + own_low i) := by
  rw [(own_low_tab i h2 h1).1, Int32.ofNat_add]
theorem own_dec {i : Nat} (h1 : 1 ≤ i) (h2 : i < 32) : Int32.ofNat i - (Int32.ofNat i &&& (-(Int32.ofNat i))) = Int32.ofNat (i - own_low i) := by
  rw [(own_low_tab i h2 h1).1, Int32.ofNat_sub _ _ (own_low_tab i h2 h1).2.2]
def own_up : Nat → Nat → Nat → List Nat
  | 0, _, _ => []
  | k + 1, N, i => if i < N then i :: own_up k N (i + own_low i) else []
def own_upOk : Nat → Nat → Nat → Bool
  | 0, N, i => decide (N ≤ i)
  | k + 1, N, i => if i < N then own_upOk k N (i + own_low i) else true
def own_down : Nat → Nat → List Nat
  | 0, _ => []
  | k + 1, i => if 0 < i then i :: own_down k (i - own_low i) else []
def own_downOk : Nat → Nat → Bool
  | 0, i => decide (i = 0)
  | k + 1, i => if 0 < i then own_downOk k (i - own_low i) else true
theorem own_up_ok : ∀ N, N < 18 → ∀ i, i < 18 → 1 ≤ i → own_upOk 6 N i = true := by decide +kernel
theorem own_down_ok : ∀ i, i < 18 → own_downOk 6 i = true := by decide +kernel
def own_upd (f : Nat → Int32) (i : Nat) (v : Int32) : Nat → Int32 := fun j => if j = i then v else f j
def own_adds (L : List Nat) (ch : Int32) (f : Nat → Int32) : Nat → Int32 := L.foldl (fun f i => own_upd f i (f i + ch)) f
def own_sum (L : List Nat) (f : Nat → Int32) (S : Int32) : Int32 := L.foldl (fun s j => s + f j) S
theorem own_adds_at (ch : Int32) : ∀ (L : List Nat), L.Nodup → ∀ (f : Nat → Int32) (j : Nat), own_adds L ch f j = if j ∈ L then f j + ch else f j := by
  intro L
  induction L with
  | nil => intro _ f j; simp [own_adds]
  | cons i L ih =>
    intro nd f j
    have nd' := List.nodup_cons.mp nd
    show own_adds L ch (own_upd f i (f i + ch)) j = _
    rw [ih nd'.2]
    by_cases u : j = i
    · subst u
      simp [nd'.1, own_upd]
    · simp [u, own_upd]
def own_tot : List Nat → (Nat → Int32) → Int32
  | [], _ => 0
  | j :: L, f => f j + own_tot L f
theorem own_sum_tot (f : Nat → Int32) : ∀ (L : List Nat) (S : Int32), own_sum L f S = S + own_tot L f := by
  intro L
  induction L with
  | nil => intro S; simp [own_sum, own_tot]
  | cons j L ih =>
    intro S
    show own_sum L f (S + f j) = S + (f j + own_tot L f)
    rw [ih, Int32.add_assoc]
def own_mul : Nat → Int32 → Int32
  | 0, _ => 0
  | k + 1, c => c + own_mul k c
def own_cnt : List Nat → List Nat → Nat
  | [], _ => 0
  | j :: L, U => if j ∈ U then own_cnt L U + 1 else own_cnt L U
theorem own_tot_if (U : List Nat) (c : Int32) (g h : Nat → Int32) (hh : ∀ j, h j = if j ∈ U then g j + c else g j) : ∀ (L : List Nat), own_tot L h = own_tot L g + own_mul (own_cnt L U) c := by
  intro L
  induction L with
  | nil => simp [own_tot, own_cnt, own_mul]
  | cons j L ih =>
    show h j + own_tot L h = (g j + own_tot L g) + own_mul (own_cnt (j :: L) U) c
    rw [ih, hh]
    by_cases u : j ∈ U
    · simp only [own_cnt, u, if_true, own_mul]
      ac_rfl
    · simp only [own_cnt, u, if_false]
      ac_rfl
theorem own_tab : ∀ N, N < 18 → ∀ q, q < N → ∀ p, p + 1 < N → own_cnt (own_down 6 q) (own_up 6 N (p + 1)) = (if p < q then 1 else 0) := by
  have h : ∀ N, N < 18 → ∀ q, q < N → ∀ p, p < N → p + 1 < N → own_cnt (own_down 6 q) (own_up 6 N (p + 1)) = (if p < q then 1 else 0) := by decide +kernel
  intro N hN q hq p hp
  exact h N hN q hq p (by omega) hp
theorem own_nodup : ∀ N, N < 18 → ∀ p, p + 1 < N → (own_up 6 N (p + 1)).Nodup := by
  have h : ∀ N, N < 18 → ∀ p, p < N → p + 1 < N → (own_up 6 N (p + 1)).Nodup := by decide +kernel
  intro N hN p hp
  exact h N hN p (by omega) hp
theorem own_step {N q p : Nat} (hN : N < 18) (hq : q < N) (hp : p + 1 < N) (c : Int32) (g : Nat → Int32) : own_tot (own_down 6 q) (own_adds (own_up 6 N (p + 1)) c g) = own_tot (own_down 6 q) g + (if p < q then c else 0) := by
  rw [own_tot_if (own_up 6 N (p + 1)) c g _ (own_adds_at c _ (own_nodup N hN p hp) g), own_tab N hN q hq p hp]
  by_cases u : p < q
  · simp [u, own_mul]
  · simp [u, own_mul]
theorem own_tot_zero : ∀ (L : List Nat), own_tot L (fun _ => 0) = 0 := by
  intro L
  induction L with
  | nil => rfl
  | cons j L ih => show (0 : Int32) + own_tot L (fun _ => 0) = 0; rw [ih]; rfl
/-- an array of N ints that holds f -/
def OA (Z : State) (h : Heap) (a : Addr) (N : Nat) (f : Nat → Int32) : Prop := ∃ c : Cell, Arr Z h a c .int ∧ c.slots.size = N ∧ ∀ j, j < N → c.slots[j]? = some (.int (f j))
theorem OA.lt {Z : State} {h : Heap} {a : Addr} {N : Nat} {f : Nat → Int32} (F : OA Z h a N f) : a < h.size := by obtain ⟨c, A, -⟩ := F; exact A.lt
theorem OA.ext {Z : State} {h h' : Heap} {a : Addr} {N : Nat} {f : Nat → Int32} (F : OA Z h a N f) (E : Ext h h') : OA Z h' a N f := by obtain ⟨c, A, r⟩ := F; exact ⟨c, A.ext E, r⟩
theorem OA.other {Z : State} {h h' : Heap} {a b : Addr} {sl : Nat} {v : Value} {N : Nat} {f : Nat → Int32} (F : OA Z h b N f) (W : Wr h h' a sl v) (q : b ≠ a) : OA Z h' b N f := by obtain ⟨c, A, r⟩ := F; exact ⟨c, A.other W q, r⟩
theorem OA.keep {Z : State} {h h' : Heap} {a : Addr} {ws : List Addr} {N : Nat} {f : Nat → Int32} (F : OA Z h a N f) (K : Keep h h' ws) (q : a ∉ ws) : OA Z h' a N f := by obtain ⟨c, A, r⟩ := F; exact ⟨c, ⟨K.2.1 a c A.1 q, A.2⟩, r⟩
theorem OA.set {Z : State} {h h' : Heap} {a : Addr} {N : Nat} {f : Nat → Int32} {c : Cell} (A : Arr Z h a c .int) (S : c.slots.size = N) (H : ∀ j, j < N → c.slots[j]? = some (.int (f j))) {i : Nat} (hi : i < N) {v : Int32} (W : Wr h h' a i (.int v)) : OA Z h' a N (own_upd f i v) := by
  refine ⟨_, A.same W, by rw [sz_set]; exact S, fun j hj => ?_⟩
  by_cases u : i = j
  · subst u
    simp [Cell.setSlot, own_upd, S, hi]
  · have u' : ¬ j = i := fun e => u e.symm
    simp only [Cell.setSlot, own_upd, if_neg u']
    rw [Array.getElem?_setIfInBounds_ne u]
    exact H j hj
theorem own_keq {h h' : Heap} (e : h' = h) : Keep h h' [] := e ▸ Keep.refl _ _
theorem d1_0 : decode prog_146_method_1_code 0 = .ok (.aload_n 0, 1) := by decide +kernel
theorem d1_1 : decode prog_146_method_1_code 1 = .ok (.invokespecial 1, 3) := by decide +kernel
theorem d1_4 : decode prog_146_method_1_code 4 = .ok (.aload_n 0, 1) := by decide +kernel
theorem d1_5 : decode prog_146_method_1_code 5 = .ok (.iload_n 1, 1) := by decide +kernel
theorem d1_6 : decode prog_146_method_1_code 6 = .ok (.iconst 1, 1) := by decide +kernel
theorem d1_7 : decode prog_146_method_1_code 7 = .ok (.iadd, 1) := by decide +kernel
theorem d1_8 : decode prog_146_method_1_code 8 = .ok (.newarray .int, 2) := by decide +kernel
theorem d1_10 : decode prog_146_method_1_code 10 = .ok (.putfield 7, 3) := by decide +kernel
theorem d1_13 : decode prog_146_method_1_code 13 = .ok (.return_, 1) := by decide +kernel
theorem pn_1 : plainName "com/example/tallykeep/tallykeep/core/PrefixCounts" = true := by first | (simp [plainName, overriddenIn]; done) | decide +kernel
theorem ef_1 (m : MethodId) (x0 : Addr) (x1 : Int32) : entryFrame m #[(.ref x0), (.int x1)] 2 = mkF m 0 #[.val (.ref x0), .val (.int x1)] [] := by first | (simp [entryFrame, mkF, argsToLocals, Value.category]; done) | rfl
def Q1 (Z : State) (a1 : Addr) (n : Nat) (h0 : Heap) (n0 : Nat) (v : Option Value) (h : Heap) (L : List Loc) : Prop := v = none ∧ Fr n0 L ∧ Keep h0 h [a1] ∧ Exa Z h a1 "com/example/tallykeep/tallykeep/core/PrefixCounts" ∧ ∃ b : Addr, h0.size ≤ b ∧ Fld Z h a1 "com/example/tallykeep/tallykeep/core/PrefixCounts" "cells" "[I" (.ref b) ∧ OA Z h b (n + 1) (fun _ => 0)
set_option maxRecDepth 65536 in
set_option maxHeartbeats 40000000 in
theorem rm1 (l : Launch) (Z : State) (a0 : Array Value) (hw : ∀ d ∈ tables_1, d.before a0 Z = true) (ws : List Jvm.Cond) (a1 : Addr) (n : Nat) (u_cells_a1 : Value) (h0 : Heap) (n0 : Nat) (Z0 : n0 ≤ h0.size) (E_a1 : Exa Z h0 a1 "com/example/tallykeep/tallykeep/core/PrefixCounts") (F_cells_a1 : Fld Z h0 a1 "com/example/tallykeep/tallykeep/core/PrefixCounts" "cells" "[I" u_cells_a1) (g_a1 : n0 ≤ a1) (hn : n ≤ 16) :
    MetFree l (⟨"com/example/tallykeep/tallykeep/core/PrefixCounts", "<init>", "(I)V"⟩ : MethodName) (head1 (Jvm.Cond.code (⟨"com/example/tallykeep/tallykeep/core/PrefixCounts", "<init>", "(I)V"⟩ : MethodName) prog_146_method_1_code 2 none :: ws) ({ frames := 1, cells := 1, slots := 17, locals := 12 } : Room)) (fun a U => a = #[(.ref a1), (.int (Int32.ofNat n))] ∧ Z.Warmed39 U.vm ∧ U.heap = h0) (fun _ _ _ _ _ => True) (fun _ U o U' => ∃ v L, o = .returned v ∧ Q1 Z a1 n h0 n0 v U'.heap L ∧ FrameEnd U o U' L ({ frames := 1, cells := 1, slots := 17, locals := 12 } : Room).cells ({ frames := 1, cells := 1, slots := 17, locals := 12 } : Room).slots) := by
  refine MetFree.of_bodySF (plainFor_of_name pn_1) hisR ?_
  intro p e s m args below meth c s₁ Bd hml0 hP hK
  obtain ⟨rfl, hZ, hh⟩ := hP
  have hcl : (Int32.ofNat n + (1 : Int32)).toNatClampNeg = n + 1 := by rw [own_one, own_clamp (by omega)]
  have hng : ¬ (Int32.ofNat n + (1 : Int32)) < 0 := by rw [own_one]; exact own_nneg (by omega)
  have hx := Bd.exec
  have hby := Bd.bytes
  have hml : c.maxLocals = 2 := hml0
  have hown : s.vm.findClass "com/example/tallykeep/tallykeep/core/PrefixCounts" = some m.cls := findClass_of_methodNamed Bd.named
  have hnm := (name_of_methodNamed Bd.named Bd.method).1
  have X0 : Stand p l e ({ frames := 1, cells := 1, slots := 17, locals := 12 } : Room) s m #[(.ref a1), (.int (Int32.ofNat n))] below meth c s₁ [] 0 0 := Stand.of_body Bd
  have e0 : s₁.heap = h0 := by rw [← hh, Bd.state]; rfl
  have N0 := Fr.nil n0
  have pre0 : ∀ t, Steps p.tables e below (s₁.setTop (mkF m 0 #[.val (.ref a1), .val (.int (Int32.ofNat n))] [])) t → Steps p.tables e below (s₁.setTop (entryFrame m #[(.ref a1), (.int (Int32.ofNat n))] 2)) t := fun t k => castTop (ef_1 m a1 (Int32.ofNat n)) k
  obtain ⟨T3, X3, e3, st3⟩ := initO X0 hx hZ hown (hw _ (List.mem_of_getElem? (i := 7) rfl)) (hw _ (List.mem_of_getElem? (i := 8) rfl)) (hw _ (List.mem_of_getElem? (i := 9) rfl)) e0 (g := (mkF m 1 #[.val (.ref a1), .val (.int (Int32.ofNat n))] [(.ref a1)])) rfl (by rw [hml]; rfl) rfl (hb hby d1_1) (by decide) (W := 0) (by show 2 * 0 + _ ≤ _; exact Nat.le_of_eq rfl) (by decide)
  obtain ⟨T4, h4, k4, X4, e4, E4, A4, st4⟩ := newP X3 hx hZ (hw _ (List.mem_of_getElem? (i := 10) rfl)) e3 (g := (mkF m 8 #[.val (.ref a1), .val (.int (Int32.ofNat n))] [(.int ((Int32.ofNat n) + (1 : Int32))), (.ref a1)])) rfl (hb hby d1_8) rfl hng (cap := 17) (by rw [hcl]; omega) (by decide) (by decide) (by decide)
  obtain ⟨b4, g4⟩ : ∃ z, z = h0.size := ⟨_, rfl⟩
  rw [← g4] at A4 st4
  have V_b4 := Arv.new A4 hng
  have g_b4 : n0 ≤ b4 := Nat.le_trans Z0 (Nat.le_of_eq g4.symm)
  have sz_b4 : h0.size ≤ b4 := (Nat.le_trans (Keep.refl h0 [a1]).1 (Nat.le_of_eq g4.symm))
  have K4 : Keep h0 h4 [a1] := (Keep.refl h0 [a1]).ext E4
  obtain ⟨T5, h5, X5, e5, W5, st5⟩ := putF X4 hx hZ hown (host := "") (Or.inl (hw _ (List.mem_of_getElem? (i := 11) rfl))) Via.refl e4 (F_cells_a1.ext E4) (E_a1.ext E4) (Or.inr ⟨(hw _ (List.mem_of_getElem? (i := 12) rfl)), rfl, hnm⟩) (hw _ (List.mem_of_getElem? (i := 2) rfl)) (ty := (.array .int)) (by decide) rfl rfl (g := (mkF m 10 #[.val (.ref a1), .val (.int (Int32.ofNat n))] [(.ref b4), (.ref a1)])) rfl rfl (hb hby d1_10)
  have Fw5 := (F_cells_a1.ext E4).same W5
  have K5 : Keep h0 h5 [a1] := K4.wr W5 (Or.inl (List.mem_of_getElem? (i := 0) rfl))
  have N5 := Fr.snoc X5 N0 g_a1
  obtain ⟨fs, hr, hrun, hended, hW, hsame⟩ := X5.leave (v := none) (fun _ => rfl)
  refine ⟨_, _, pre0 _ ?_, hrun, hended, _, _, rfl, ?_, ⟨_, rfl⟩, hW, hsame.mono (by decide) (by decide)⟩
  · show Steps p.tables e below (s₁.setTop (mkF m 0 #[.val (.ref a1), .val (.int (Int32.ofNat n))] [])) _
    refine XS.aloadN X0.here hx rfl (hb hby d1_0) rfl rfl ?_
    show Steps p.tables e below (s₁.setTop (mkF m 1 #[.val (.ref a1), .val (.int (Int32.ofNat n))] [(.ref a1)])) _
    refine st3 _ ?_
    show Steps p.tables e below (T3.setTop (mkF m 4 #[.val (.ref a1), .val (.int (Int32.ofNat n))] [])) _
    refine XS.aloadN X3.here hx rfl (hb hby d1_4) rfl rfl ?_
    show Steps p.tables e below (T3.setTop (mkF m 5 #[.val (.ref a1), .val (.int (Int32.ofNat n))] [(.ref a1)])) _
    refine XS.iloadN X3.here hx rfl (hb hby d1_5) rfl ?_
    show Steps p.tables e below (T3.setTop (mkF m 6 #[.val (.ref a1), .val (.int (Int32.ofNat n))] [(.int (Int32.ofNat n)), (.ref a1)])) _
    refine XS.iconst X3.here hx rfl (hb hby d1_6) ?_
    show Steps p.tables e below (T3.setTop (mkF m 7 #[.val (.ref a1), .val (.int (Int32.ofNat n))] [(.int (1 : Int32)), (.int (Int32.ofNat n)), (.ref a1)])) _
    refine XS.iadd X3.here hx rfl (hb hby d1_7) rfl ?_
    show Steps p.tables e below (T3.setTop (mkF m 8 #[.val (.ref a1), .val (.int (Int32.ofNat n))] [(.int ((Int32.ofNat n) + (1 : Int32))), (.ref a1)])) _
    refine st4 _ ?_
    show Steps p.tables e below (T4.setTop (mkF m 10 #[.val (.ref a1), .val (.int (Int32.ofNat n))] [(.ref b4), (.ref a1)])) _
    refine st5 _ ?_
    show Steps p.tables e below (T5.setTop (mkF m 13 #[.val (.ref a1), .val (.int (Int32.ofNat n))] [])) _
    exact X5.returnOut hx Bd.returns (hb hby d1_13) hr
  · show Q1 Z a1 n h0 n0 _ T5.heap _
    rw [e5]
    refine ⟨rfl, N5, K5, ((E_a1.ext E4).wr W5), b4, sz_b4, Fw5, ?_⟩
    obtain ⟨cA, aA, -, sA, -, hA, -⟩ := V_b4.other W5 (Ne.symm (Nat.ne_of_lt (Nat.lt_of_lt_of_le E_a1.lt (Nat.le_of_eq g4.symm))))
    refine ⟨cA, aA, sA.trans hcl, fun j hj => ?_⟩
    exact hA j (by rw [sA, hcl]; exact hj)
theorem d3_4 : decode prog_146_method_3_code 4 = .ok (.iload_n 3, 1) := by decide +kernel
theorem d3_5 : decode prog_146_method_3_code 5 = .ok (.ifCond .le 32, 3) := by decide +kernel
theorem d3_8 : decode prog_146_method_3_code 8 = .ok (.iload_n 3, 1) := by decide +kernel
theorem d3_9 : decode prog_146_method_3_code 9 = .ok (.aload_n 0, 1) := by decide +kernel
theorem d3_10 : decode prog_146_method_3_code 10 = .ok (.getfield 7, 3) := by decide +kernel
theorem d3_13 : decode prog_146_method_3_code 13 = .ok (.arraylength, 1) := by decide +kernel
theorem d3_14 : decode prog_146_method_3_code 14 = .ok (.if_icmp .ge 23, 3) := by decide +kernel
theorem d3_17 : decode prog_146_method_3_code 17 = .ok (.aload_n 0, 1) := by decide +kernel
theorem d3_18 : decode prog_146_method_3_code 18 = .ok (.getfield 7, 3) := by decide +kernel
theorem d3_21 : decode prog_146_method_3_code 21 = .ok (.iload_n 3, 1) := by decide +kernel
theorem d3_22 : decode prog_146_method_3_code 22 = .ok (.dup2, 1) := by decide +kernel
theorem d3_23 : decode prog_146_method_3_code 23 = .ok (.iaload, 1) := by decide +kernel
theorem d3_24 : decode prog_146_method_3_code 24 = .ok (.iload_n 2, 1) := by decide +kernel
theorem d3_25 : decode prog_146_method_3_code 25 = .ok (.iadd, 1) := by decide +kernel
theorem d3_26 : decode prog_146_method_3_code 26 = .ok (.iastore, 1) := by decide +kernel
theorem d3_27 : decode prog_146_method_3_code 27 = .ok (.iload_n 3, 1) := by decide +kernel
theorem d3_28 : decode prog_146_method_3_code 28 = .ok (.iload_n 3, 1) := by decide +kernel
theorem d3_29 : decode prog_146_method_3_code 29 = .ok (.iload_n 3, 1) := by decide +kernel
theorem d3_30 : decode prog_146_method_3_code 30 = .ok (.ineg, 1) := by decide +kernel
theorem d3_31 : decode prog_146_method_3_code 31 = .ok (.iand, 1) := by decide +kernel
theorem d3_32 : decode prog_146_method_3_code 32 = .ok (.iadd, 1) := by decide +kernel
theorem d3_33 : decode prog_146_method_3_code 33 = .ok (.istore_n 3, 1) := by decide +kernel
theorem d3_34 : decode prog_146_method_3_code 34 = .ok (.goto (-30), 3) := by decide +kernel
set_option maxRecDepth 65536 in
set_option maxHeartbeats 40000000 in
theorem tn3_4_4 {p : Program} {l : Launch} {e : Env} {R : Room} {s : State} {m : MethodId} {args : Array Value} {below : List Frame} {meth : Method} {c : Code} {T0 : State} {locs : List Loc} {cells slots : Nat} {Z : State} {a0 : Array Value} {h0 : Heap} (o0 : Addr) (s1 : Slot) (i2 : Int32) (i3 : Int32) (w4 : Addr) (cl_w4 : Cell) (z_w4 : Int32) (w7 : Int32)
    (X0 : Stand p l e R s m args below meth c T0 locs cells slots) (hx : p.tables.exec = Jvm.exec) (hZ : Z.Warmed39 s.vm) (hw : ∀ d ∈ tables_1, d.before a0 Z = true) (hby : c.code = prog_146_method_3_code) (hml : c.maxLocals = 4) (hown : s.vm.findClass "com/example/tallykeep/tallykeep/core/PrefixCounts" = some m.cls) (e0 : T0.heap = h0) (F_cells_o0 : Fld Z h0 o0 "com/example/tallykeep/tallykeep/core/PrefixCounts" "cells" "[I" (.ref w4)) (Ar_w4 : Arr Z h0 w4 cl_w4 .int) (S_w4 : cl_w4.slots.size = z_w4.toNatClampNeg) (N_w4 : ¬ z_w4 < 0) (hin23 : ¬ (i3 < 0 ∨ cl_w4.slots.size ≤ (i3).toNatClampNeg)) (hat23 : cl_w4.slots[(i3).toNatClampNeg]? = some (.int w7)) (hin26 : ¬ (i3 < 0 ∨ cl_w4.slots.size ≤ (i3).toNatClampNeg)) (hc5 : (0 : Int32) < i3) (hc14 : i3 < z_w4) :
    ∃ (T' : State) (h' : Heap), Stand p l e R s m args below meth c T' (locs ++ [⟨w4, (i3).toNatClampNeg⟩]) cells slots ∧ T'.heap = h' ∧ Wr h0 h' w4 (i3).toNatClampNeg (.int (w7 + i2)) ∧
      ∀ target, Steps p.tables e below (T'.setTop (mkF m 4 #[.val (.ref o0), s1, .val (.int i2), .val (.int (i3 + (i3 &&& (-i3))))] [])) target → Steps p.tables e below (T0.setTop (mkF m 4 #[.val (.ref o0), s1, .val (.int i2), .val (.int i3)] [])) target := by
  obtain ⟨T5, X5, e5, st5⟩ := getF X0 hx hZ hown (host := "") (Or.inl (hw _ (List.mem_of_getElem? (i := 11) rfl))) Via.refl e0 F_cells_o0 (g := (mkF m 10 #[.val (.ref o0), s1, .val (.int i2), .val (.int i3)] [(.ref o0), (.int i3)])) rfl rfl (hb hby d3_10)
  obtain ⟨T6, X6, e6, st6⟩ := getF X5 hx hZ hown (host := "") (Or.inl (hw _ (List.mem_of_getElem? (i := 11) rfl))) Via.refl e5 F_cells_o0 (g := (mkF m 18 #[.val (.ref o0), s1, .val (.int i2), .val (.int i3)] [(.ref o0)])) rfl rfl (hb hby d3_18)
  obtain ⟨T8, h8, X8, e8, W8, st8⟩ := stI X6 hx hZ e6 Ar_w4 (j := i3) hin26 (g := (mkF m 26 #[.val (.ref o0), s1, .val (.int i2), .val (.int i3)] [(.int (w7 + i2)), (.int i3), (.ref w4)])) rfl rfl (hb hby d3_26)
  refine ⟨T8, _, X8, e8, W8, fun target kt => ?_⟩
  show Steps p.tables e below (T0.setTop (mkF m 4 #[.val (.ref o0), s1, .val (.int i2), .val (.int i3)] [])) _
  refine XS.iloadN X0.here hx rfl (hb hby d3_4) rfl ?_
  show Steps p.tables e below (T0.setTop (mkF m 5 #[.val (.ref o0), s1, .val (.int i2), .val (.int i3)] [(.int i3)])) _
  refine XS.ifNo X0.here hx rfl (hb hby d3_5) rfl ((if0 _ _).trans (tlt hc5).2.2.2) ?_
  show Steps p.tables e below (T0.setTop (mkF m 8 #[.val (.ref o0), s1, .val (.int i2), .val (.int i3)] [])) _
  refine XS.iloadN X0.here hx rfl (hb hby d3_8) rfl ?_
  show Steps p.tables e below (T0.setTop (mkF m 9 #[.val (.ref o0), s1, .val (.int i2), .val (.int i3)] [(.int i3)])) _
  refine XS.aloadN X0.here hx rfl (hb hby d3_9) rfl rfl ?_
  show Steps p.tables e below (T0.setTop (mkF m 10 #[.val (.ref o0), s1, .val (.int i2), .val (.int i3)] [(.ref o0), (.int i3)])) _
  refine st5 _ ?_
  show Steps p.tables e below (T5.setTop (mkF m 13 #[.val (.ref o0), s1, .val (.int i2), .val (.int i3)] [(.ref w4), (.int i3)])) _
  refine X5.arraylength hx (by rw [e5]; exact Ar_w4.1) (State.isArrayOf_alike hZ.alike Ar_w4.2.1) (g := (mkF m 13 #[.val (.ref o0), s1, .val (.int i2), .val (.int i3)] [(.ref w4), (.int i3)])) rfl rfl (hb hby d3_13) _ ?_
  rw [len_of S_w4 N_w4]
  show Steps p.tables e below (T5.setTop (mkF m 14 #[.val (.ref o0), s1, .val (.int i2), .val (.int i3)] [(.int z_w4), (.int i3)])) _
  refine XS.icmpNo X5.here hx rfl (hb hby d3_14) rfl (tlt hc14).2.1 ?_
  show Steps p.tables e below (T5.setTop (mkF m 17 #[.val (.ref o0), s1, .val (.int i2), .val (.int i3)] [])) _
  refine XS.aloadN X5.here hx rfl (hb hby d3_17) rfl rfl ?_
  show Steps p.tables e below (T5.setTop (mkF m 18 #[.val (.ref o0), s1, .val (.int i2), .val (.int i3)] [(.ref o0)])) _
  refine st6 _ ?_
  show Steps p.tables e below (T6.setTop (mkF m 21 #[.val (.ref o0), s1, .val (.int i2), .val (.int i3)] [(.ref w4)])) _
  refine XS.iloadN X6.here hx rfl (hb hby d3_21) rfl ?_
  show Steps p.tables e below (T6.setTop (mkF m 22 #[.val (.ref o0), s1, .val (.int i2), .val (.int i3)] [(.int i3), (.ref w4)])) _
  jvm_step X6.here [X6.here.top, hx, (hb hby d3_22), Value.category]
  show Steps p.tables e below (T6.setTop (mkF m 23 #[.val (.ref o0), s1, .val (.int i2), .val (.int i3)] [(.int i3), (.ref w4), (.int i3), (.ref w4)])) _
  refine X6.iaload hx (j := i3) (v := (.int w7)) (by rw [e6]; exact Ar_w4.1) (State.isArrayOf_alike hZ.alike Ar_w4.2.1) Ar_w4.2.2 hin23 hat23 (g := (mkF m 23 #[.val (.ref o0), s1, .val (.int i2), .val (.int i3)] [(.int i3), (.ref w4), (.int i3), (.ref w4)])) rfl rfl (hb hby d3_23) _ ?_
  show Steps p.tables e below (T6.setTop (mkF m 24 #[.val (.ref o0), s1, .val (.int i2), .val (.int i3)] [(.int w7), (.int i3), (.ref w4)])) _
  refine XS.iloadN X6.here hx rfl (hb hby d3_24) rfl ?_
  show Steps p.tables e below (T6.setTop (mkF m 25 #[.val (.ref o0), s1, .val (.int i2), .val (.int i3)] [(.int i2), (.int w7), (.int i3), (.ref w4)])) _
  refine XS.iadd X6.here hx rfl (hb hby d3_25) rfl ?_
  show Steps p.tables e below (T6.setTop (mkF m 26 #[.val (.ref o0), s1, .val (.int i2), .val (.int i3)] [(.int (w7 + i2)), (.int i3), (.ref w4)])) _
  refine st8 _ ?_
  show Steps p.tables e below (T8.setTop (mkF m 27 #[.val (.ref o0), s1, .val (.int i2), .val (.int i3)] [])) _
  refine XS.iloadN X8.here hx rfl (hb hby d3_27) rfl ?_
  show Steps p.tables e below (T8.setTop (mkF m 28 #[.val (.ref o0), s1, .val (.int i2), .val (.int i3)] [(.int i3)])) _
  refine XS.iloadN X8.here hx rfl (hb hby d3_28) rfl ?_
  show Steps p.tables e below (T8.setTop (mkF m 29 #[.val (.ref o0), s1, .val (.int i2), .val (.int i3)] [(.int i3), (.int i3)])) _
  refine XS.iloadN X8.here hx rfl (hb hby d3_29) rfl ?_
  show Steps p.tables e below (T8.setTop (mkF m 30 #[.val (.ref o0), s1, .val (.int i2), .val (.int i3)] [(.int i3), (.int i3), (.int i3)])) _
  refine XS.ineg X8.here hx rfl (hb hby d3_30) rfl ?_
  show Steps p.tables e below (T8.setTop (mkF m 31 #[.val (.ref o0), s1, .val (.int i2), .val (.int i3)] [(.int (-i3)), (.int i3), (.int i3)])) _
  refine XS.iand X8.here hx rfl (hb hby d3_31) rfl ?_
  show Steps p.tables e below (T8.setTop (mkF m 32 #[.val (.ref o0), s1, .val (.int i2), .val (.int i3)] [(.int (i3 &&& (-i3))), (.int i3)])) _
  refine XS.iadd X8.here hx rfl (hb hby d3_32) rfl ?_
  show Steps p.tables e below (T8.setTop (mkF m 33 #[.val (.ref o0), s1, .val (.int i2), .val (.int i3)] [(.int (i3 + (i3 &&& (-i3))))])) _
  refine XS.istoreN X8.here hx rfl (hb hby d3_33) rfl (l' := #[.val (.ref o0), s1, .val (.int i2), .val (.int (i3 + (i3 &&& (-i3))))]) rfl ?_
  show Steps p.tables e below (T8.setTop (mkF m 34 #[.val (.ref o0), s1, .val (.int i2), .val (.int (i3 + (i3 &&& (-i3))))] [])) _
  refine XS.goto X8.here hx rfl (pc0 := 34) (pc' := 4) rfl (hb hby d3_34) (by decide) (by decide) ?_
  exact kt
set_option maxRecDepth 65536 in
set_option maxHeartbeats 40000000 in
theorem tn3_4_37 {p : Program} {l : Launch} {e : Env} {R : Room} {s : State} {m : MethodId} {args : Array Value} {below : List Frame} {meth : Method} {c : Code} {T0 : State} {locs : List Loc} {cells slots : Nat} {Z : State} {a0 : Array Value} {h0 : Heap} (o0 : Addr) (s1 : Slot) (s2 : Slot) (i3 : Int32) (w4 : Addr) (cl_w4 : Cell) (z_w4 : Int32)
    (X0 : Stand p l e R s m args below meth c T0 locs cells slots) (hx : p.tables.exec = Jvm.exec) (hZ : Z.Warmed39 s.vm) (hw : ∀ d ∈ tables_1, d.before a0 Z = true) (hby : c.code = prog_146_method_3_code) (hml : c.maxLocals = 4) (hown : s.vm.findClass "com/example/tallykeep/tallykeep/core/PrefixCounts" = some m.cls) (e0 : T0.heap = h0) (F_cells_o0 : Fld Z h0 o0 "com/example/tallykeep/tallykeep/core/PrefixCounts" "cells" "[I" (.ref w4)) (Ar_w4 : Arr Z h0 w4 cl_w4 .int) (S_w4 : cl_w4.slots.size = z_w4.toNatClampNeg) (N_w4 : ¬ z_w4 < 0) (hc5 : (0 : Int32) < i3) (hc14 : ¬ (i3 < z_w4)) :
    ∃ (T' : State), Stand p l e R s m args below meth c T' locs cells slots ∧ T'.heap = h0 ∧
      ∀ target, Steps p.tables e below (T'.setTop (mkF m 37 #[.val (.ref o0), s1, s2, .val (.int i3)] [])) target → Steps p.tables e below (T0.setTop (mkF m 4 #[.val (.ref o0), s1, s2, .val (.int i3)] [])) target := by
  obtain ⟨T5, X5, e5, st5⟩ := getF X0 hx hZ hown (host := "") (Or.inl (hw _ (List.mem_of_getElem? (i := 11) rfl))) Via.refl e0 F_cells_o0 (g := (mkF m 10 #[.val (.ref o0), s1, s2, .val (.int i3)] [(.ref o0), (.int i3)])) rfl rfl (hb hby d3_10)
  refine ⟨T5, X5, e5, fun target kt => ?_⟩
  show Steps p.tables e below (T0.setTop (mkF m 4 #[.val (.ref o0), s1, s2, .val (.int i3)] [])) _
  refine XS.iloadN X0.here hx rfl (hb hby d3_4) rfl ?_
  show Steps p.tables e below (T0.setTop (mkF m 5 #[.val (.ref o0), s1, s2, .val (.int i3)] [(.int i3)])) _
  refine XS.ifNo X0.here hx rfl (hb hby d3_5) rfl ((if0 _ _).trans (tlt hc5).2.2.2) ?_
  show Steps p.tables e below (T0.setTop (mkF m 8 #[.val (.ref o0), s1, s2, .val (.int i3)] [])) _
  refine XS.iloadN X0.here hx rfl (hb hby d3_8) rfl ?_
  show Steps p.tables e below (T0.setTop (mkF m 9 #[.val (.ref o0), s1, s2, .val (.int i3)] [(.int i3)])) _
  refine XS.aloadN X0.here hx rfl (hb hby d3_9) rfl rfl ?_
  show Steps p.tables e below (T0.setTop (mkF m 10 #[.val (.ref o0), s1, s2, .val (.int i3)] [(.ref o0), (.int i3)])) _
  refine st5 _ ?_
  show Steps p.tables e below (T5.setTop (mkF m 13 #[.val (.ref o0), s1, s2, .val (.int i3)] [(.ref w4), (.int i3)])) _
  refine X5.arraylength hx (by rw [e5]; exact Ar_w4.1) (State.isArrayOf_alike hZ.alike Ar_w4.2.1) (g := (mkF m 13 #[.val (.ref o0), s1, s2, .val (.int i3)] [(.ref w4), (.int i3)])) rfl rfl (hb hby d3_13) _ ?_
  rw [len_of S_w4 N_w4]
  show Steps p.tables e below (T5.setTop (mkF m 14 #[.val (.ref o0), s1, s2, .val (.int i3)] [(.int z_w4), (.int i3)])) _
  refine XS.icmpYes X5.here hx rfl (pc0 := 14) (pc' := 37) rfl (hb hby d3_14) rfl (flt hc14).2.1 (by decide) (by decide) ?_
  exact kt
set_option maxRecDepth 65536 in
theorem loop3 {p : Program} {l : Launch} {e : Env} {R : Room} {s : State} {m : MethodId} {args : Array Value} {below : List Frame} {meth : Method} {c : Code} {cells slots : Nat} {Z : State} {a0 : Array Value} (o0 : Addr) (s1 : Slot) (ch : Int32) (w4 : Addr) (N : Nat) (hN : N < 18) (n0 : Nat) (g_w4 : n0 ≤ w4) (ne : o0 ≠ w4) (hx : p.tables.exec = Jvm.exec) (hZ : Z.Warmed39 s.vm) (hw : ∀ d ∈ tables_1, d.before a0 Z = true) (hby : c.code = prog_146_method_3_code) (hml : c.maxLocals = 4) (hown : s.vm.findClass "com/example/tallykeep/tallykeep/core/PrefixCounts" = some m.cls) :
    ∀ (k i : Nat) (f : Nat → Int32) (T0 : State) (h0 : Heap) (locs : List Loc), own_upOk k N i = true → 1 ≤ i → i < 64 → Stand p l e R s m args below meth c T0 locs cells slots → T0.heap = h0 → Fr n0 locs → Fld Z h0 o0 "com/example/tallykeep/tallykeep/core/PrefixCounts" "cells" "[I" (.ref w4) → OA Z h0 w4 N f →
      ∃ (T' : State) (h' : Heap) (locs' : List Loc) (i' : Int32), Stand p l e R s m args below meth c T' locs' cells slots ∧ T'.heap = h' ∧ Fr n0 locs' ∧ Keep h0 h' [w4] ∧ OA Z h' w4 N (own_adds (own_up k N i) ch f) ∧
        ∀ target, Steps p.tables e below (T'.setTop (mkF m 37 #[.val (.ref o0), s1, .val (.int ch), .val (.int i')] [])) target → Steps p.tables e below (T0.setTop (mkF m 4 #[.val (.ref o0), s1, .val (.int ch), .val (.int (Int32.ofNat i))] [])) target := by
  have out : ∀ (i : Nat) (f : Nat → Int32) (T0 : State) (h0 : Heap) (locs : List Loc), N ≤ i → 1 ≤ i → i < 64 → Stand p l e R s m args below meth c T0 locs cells slots → T0.heap = h0 → Fr n0 locs → Fld Z h0 o0 "com/example/tallykeep/tallykeep/core/PrefixCounts" "cells" "[I" (.ref w4) → OA Z h0 w4 N f →
      ∃ (T' : State) (h' : Heap) (locs' : List Loc) (i' : Int32), Stand p l e R s m args below meth c T' locs' cells slots ∧ T'.heap = h' ∧ Fr n0 locs' ∧ Keep h0 h' [w4] ∧ OA Z h' w4 N f ∧
        ∀ target, Steps p.tables e below (T'.setTop (mkF m 37 #[.val (.ref o0), s1, .val (.int ch), .val (.int i')] [])) target → Steps p.tables e below (T0.setTop (mkF m 4 #[.val (.ref o0), s1, .val (.int ch), .val (.int (Int32.ofNat i))] [])) target := by
    intro i f T0 h0 locs hNi h1 h2 X e0 NF Fc V
    have V' := V
    obtain ⟨cl, A, S, H⟩ := V'
    obtain ⟨T1, X1, e1, st1⟩ := tn3_4_37 o0 s1 (.val (.int ch)) (Int32.ofNat i) w4 cl (Int32.ofNat N) X hx hZ hw hby hml hown e0 Fc A (by rw [own_clamp (by omega)]; exact S) (own_nneg (by omega)) (own_pos h1 (by omega)) (fun q => absurd ((own_lt (by omega) (by omega)).mp q) (by omega))
    exact ⟨T1, h0, locs, _, X1, e1, NF, Keep.refl _ _, V, st1⟩
  intro k
  induction k with
  | zero =>
    intro i f T0 h0 locs ok h1 h2 X e0 NF Fc V
    have hNi : N ≤ i := by simpa [own_upOk] using ok
    exact out i f T0 h0 locs hNi h1 h2 X e0 NF Fc V
  | succ k ih =>
    intro i f T0 h0 locs ok h1 h2 X e0 NF Fc V
    by_cases hi : i < N
    · obtain ⟨cl, A, S, H⟩ := V
      have hcl : (Int32.ofNat i).toNatClampNeg = i := own_clamp (by omega)
      have hin : ¬ (Int32.ofNat i < 0 ∨ cl.slots.size ≤ (Int32.ofNat i).toNatClampNeg) := by
        rw [hcl, S]
        rintro (q | q)
        · exact own_nneg (by omega) q
        · omega
      have hat : cl.slots[(Int32.ofNat i).toNatClampNeg]? = some (.int (f i)) := by rw [hcl]; exact H i hi
      obtain ⟨T1, h1', X1, e1, W1, st1⟩ := tn3_4_4 o0 s1 ch (Int32.ofNat i) w4 cl (Int32.ofNat N) (f i) X hx hZ hw hby hml hown e0 Fc A (by rw [own_clamp (by omega)]; exact S) (own_nneg (by omega)) hin hat hin (own_pos h1 (by omega)) ((own_lt (by omega) (by omega)).mpr hi)
      have N1 := Fr.snoc X1 NF g_w4
      rw [hcl] at W1
      have V1 := OA.set A S H hi W1
      have ok' : own_upOk k N (i + own_low i) = true := by simpa [own_upOk, hi] using ok
      have lw := own_low_tab i (by omega) h1
      obtain ⟨T2, h2', L2, i2, X2, e2, N2, K2, V2, st2⟩ := ih (i + own_low i) _ T1 h1' _ ok' (by omega) (by omega) X1 e1 N1 (Fc.other W1 (Or.inl ne)) V1
      refine ⟨T2, h2', L2, i2, X2, e2, N2, (Keep.of_wr W1).trans K2 (fun x hx => Or.inl hx), ?_, fun target kt => st1 target ?_⟩
      · have q : own_adds (own_up (k + 1) N i) ch f = own_adds (own_up k N (i + own_low i)) ch (own_upd f i (f i + ch)) := by simp [own_up, hi, own_adds]
        rw [q]
        exact V2
      · rw [own_inc h1 (by omega)]
        exact st2 target kt
    · have q : own_up (k + 1) N i = [] := by simp [own_up, hi]
      rw [q]
      exact out i f T0 h0 locs (by omega) h1 h2 X e0 NF Fc V
theorem d3_0 : decode prog_146_method_3_code 0 = .ok (.iload_n 1, 1) := by decide +kernel
theorem d3_1 : decode prog_146_method_3_code 1 = .ok (.iconst 1, 1) := by decide +kernel
theorem d3_2 : decode prog_146_method_3_code 2 = .ok (.iadd, 1) := by decide +kernel
theorem d3_3 : decode prog_146_method_3_code 3 = .ok (.istore_n 3, 1) := by decide +kernel
theorem d3_37 : decode prog_146_method_3_code 37 = .ok (.return_, 1) := by decide +kernel
theorem pn_3 : plainName "com/example/tallykeep/tallykeep/core/PrefixCounts" = true := by first | (simp [plainName, overriddenIn]; done) | decide +kernel
theorem ef_3 (m : MethodId) (x0 : Addr) (x1 : Int32) (x2 : Int32) : entryFrame m #[(.ref x0), (.int x1), (.int x2)] 4 = mkF m 0 #[.val (.ref x0), .val (.int x1), .val (.int x2), .unset] [] := by first | (simp [entryFrame, mkF, argsToLocals, Value.category]; done) | rfl
def Q3 (Z : State) (w4 : Addr) (N : Nat) (g : Nat → Int32) (h0 : Heap) (n0 : Nat) (v : Option Value) (h : Heap) (L : List Loc) : Prop := v = none ∧ Fr n0 L ∧ Keep h0 h [w4] ∧ OA Z h w4 N g
set_option maxRecDepth 65536 in
set_option maxHeartbeats 40000000 in
theorem rm3 (l : Launch) (Z : State) (a0 : Array Value) (hw : ∀ d ∈ tables_1, d.before a0 Z = true) (ws : List Jvm.Cond) (a1 : Addr) (pp : Nat) (p3 : Int32) (w4 : Addr) (N : Nat) (f : Nat → Int32) (h0 : Heap) (n0 : Nat) (Z0 : n0 ≤ h0.size) (Fc : Fld Z h0 a1 "com/example/tallykeep/tallykeep/core/PrefixCounts" "cells" "[I" (.ref w4)) (V : OA Z h0 w4 N f) (hN : N < 18) (hp : pp < 17) (g_w4 : n0 ≤ w4) (ne : a1 ≠ w4) :
    MetFree l (⟨"com/example/tallykeep/tallykeep/core/PrefixCounts", "add", "(II)V"⟩ : MethodName) (head1 (Jvm.Cond.code (⟨"com/example/tallykeep/tallykeep/core/PrefixCounts", "add", "(II)V"⟩ : MethodName) prog_146_method_3_code 4 none :: ws) ({ frames := 0, cells := 0, slots := 0, locals := 0 } : Room)) (fun a U => a = #[(.ref a1), (.int (Int32.ofNat pp)), (.int p3)] ∧ Z.Warmed39 U.vm ∧ U.heap = h0) (fun _ _ _ _ _ => True) (fun _ U o U' => ∃ v L, o = .returned v ∧ Q3 Z w4 N (own_adds (own_up 6 N (pp + 1)) p3 f) h0 n0 v U'.heap L ∧ FrameEnd U o U' L ({ frames := 0, cells := 0, slots := 0, locals := 0 } : Room).cells ({ frames := 0, cells := 0, slots := 0, locals := 0 } : Room).slots) := by
  refine MetFree.of_bodySF (plainFor_of_name pn_3) hisR ?_
  intro p e s m args below meth c s₁ Bd hml0 hP hK
  obtain ⟨rfl, hZ, hh⟩ := hP
  have hx := Bd.exec
  have hby := Bd.bytes
  have hml : c.maxLocals = 4 := hml0
  have hown : s.vm.findClass "com/example/tallykeep/tallykeep/core/PrefixCounts" = some m.cls := findClass_of_methodNamed Bd.named
  have hnm := (name_of_methodNamed Bd.named Bd.method).1
  have X0 : Stand p l e ({ frames := 0, cells := 0, slots := 0, locals := 0 } : Room) s m #[(.ref a1), (.int (Int32.ofNat pp)), (.int p3)] below meth c s₁ [] 0 0 := Stand.of_body Bd
  have e0 : s₁.heap = h0 := by rw [← hh, Bd.state]; rfl
  have N0 := Fr.nil n0
  have pre0 : ∀ t, Steps p.tables e below (s₁.setTop (mkF m 0 #[.val (.ref a1), .val (.int (Int32.ofNat pp)), .val (.int p3), .unset] [])) t → Steps p.tables e below (s₁.setTop (entryFrame m #[(.ref a1), (.int (Int32.ofNat pp)), (.int p3)] 4)) t := fun t k => castTop (ef_3 m a1 (Int32.ofNat pp) p3) k

  obtain ⟨TL, hL, LL, iL, XL, eL, NL, KL, VL, stL⟩ := loop3 a1 (.val (.int (Int32.ofNat pp))) p3 w4 N hN n0 g_w4 ne hx hZ hw hby hml hown 6 (pp + 1) f s₁ h0 [] (own_up_ok N hN (pp + 1) (by omega) (by omega)) (by omega) (by omega) X0 e0 N0 Fc V
  obtain ⟨fs, hr, hrun, hended, hW, hsame⟩ := XL.leave (v := none) (fun _ => rfl)
  refine ⟨_, _, pre0 _ ?_, hrun, hended, _, _, rfl, ?_, ⟨_, rfl⟩, hW, hsame.mono (by decide) (by decide)⟩
  · show Steps p.tables e below (s₁.setTop (mkF m 0 #[.val (.ref a1), .val (.int (Int32.ofNat pp)), .val (.int p3), .unset] [])) _
    refine XS.iloadN X0.here hx rfl (hb hby d3_0) rfl ?_
    show Steps p.tables e below (s₁.setTop (mkF m 1 #[.val (.ref a1), .val (.int (Int32.ofNat pp)), .val (.int p3), .unset] [(.int (Int32.ofNat pp))])) _
    refine XS.iconst X0.here hx rfl (hb hby d3_1) ?_
    show Steps p.tables e below (s₁.setTop (mkF m 2 #[.val (.ref a1), .val (.int (Int32.ofNat pp)), .val (.int p3), .unset] [(.int (1 : Int32)), (.int (Int32.ofNat pp))])) _
    refine XS.iadd X0.here hx rfl (hb hby d3_2) rfl ?_
    show Steps p.tables e below (s₁.setTop (mkF m 3 #[.val (.ref a1), .val (.int (Int32.ofNat pp)), .val (.int p3), .unset] [(.int ((Int32.ofNat pp) + (1 : Int32)))])) _
    refine XS.istoreN X0.here hx rfl (hb hby d3_3) rfl (l' := #[.val (.ref a1), .val (.int (Int32.ofNat pp)), .val (.int p3), .val (.int ((Int32.ofNat pp) + (1 : Int32)))]) rfl ?_
    show Steps p.tables e below (s₁.setTop (mkF m 4 #[.val (.ref a1), .val (.int (Int32.ofNat pp)), .val (.int p3), .val (.int ((Int32.ofNat pp) + (1 : Int32)))] [])) _
    rw [own_one]
    refine stL _ ?_
    exact XL.returnOut hx Bd.returns (hb hby d3_37) hr
  · show Q3 Z w4 N (own_adds (own_up 6 N (pp + 1)) p3 f) h0 n0 _ TL.heap _
    rw [eL]
    exact ⟨rfl, NL, KL, VL⟩
theorem d4_4 : decode prog_146_method_4_code 4 = .ok (.iload_n 3, 1) := by decide +kernel
theorem d4_5 : decode prog_146_method_4_code 5 = .ok (.ifCond .le 22, 3) := by decide +kernel
theorem d4_8 : decode prog_146_method_4_code 8 = .ok (.iload_n 2, 1) := by decide +kernel
theorem d4_9 : decode prog_146_method_4_code 9 = .ok (.aload_n 0, 1) := by decide +kernel
theorem d4_10 : decode prog_146_method_4_code 10 = .ok (.getfield 7, 3) := by decide +kernel
theorem d4_13 : decode prog_146_method_4_code 13 = .ok (.iload_n 3, 1) := by decide +kernel
theorem d4_14 : decode prog_146_method_4_code 14 = .ok (.iaload, 1) := by decide +kernel
theorem d4_15 : decode prog_146_method_4_code 15 = .ok (.iadd, 1) := by decide +kernel
theorem d4_16 : decode prog_146_method_4_code 16 = .ok (.istore_n 2, 1) := by decide +kernel
theorem d4_17 : decode prog_146_method_4_code 17 = .ok (.iload_n 3, 1) := by decide +kernel
theorem d4_18 : decode prog_146_method_4_code 18 = .ok (.iload_n 3, 1) := by decide +kernel
theorem d4_19 : decode prog_146_method_4_code 19 = .ok (.iload_n 3, 1) := by decide +kernel
theorem d4_20 : decode prog_146_method_4_code 20 = .ok (.ineg, 1) := by decide +kernel
theorem d4_21 : decode prog_146_method_4_code 21 = .ok (.iand, 1) := by decide +kernel
theorem d4_22 : decode prog_146_method_4_code 22 = .ok (.isub, 1) := by decide +kernel
theorem d4_23 : decode prog_146_method_4_code 23 = .ok (.istore_n 3, 1) := by decide +kernel
theorem d4_24 : decode prog_146_method_4_code 24 = .ok (.goto (-20), 3) := by decide +kernel
set_option maxRecDepth 65536 in
set_option maxHeartbeats 40000000 in
theorem tn4_4_4 {p : Program} {l : Launch} {e : Env} {R : Room} {s : State} {m : MethodId} {args : Array Value} {below : List Frame} {meth : Method} {c : Code} {T0 : State} {locs : List Loc} {cells slots : Nat} {Z : State} {a0 : Array Value} {h0 : Heap} (o0 : Addr) (s1 : Slot) (i2 : Int32) (i3 : Int32) (w3 : Addr) (w5 : Int32) (cl_w3 : Cell)
    (X0 : Stand p l e R s m args below meth c T0 locs cells slots) (hx : p.tables.exec = Jvm.exec) (hZ : Z.Warmed39 s.vm) (hw : ∀ d ∈ tables_1, d.before a0 Z = true) (hby : c.code = prog_146_method_4_code) (hml : c.maxLocals = 4) (hown : s.vm.findClass "com/example/tallykeep/tallykeep/core/PrefixCounts" = some m.cls) (e0 : T0.heap = h0) (F_cells_o0 : Fld Z h0 o0 "com/example/tallykeep/tallykeep/core/PrefixCounts" "cells" "[I" (.ref w3)) (Ar_w3 : Arr Z h0 w3 cl_w3 .int) (hin14 : ¬ (i3 < 0 ∨ cl_w3.slots.size ≤ (i3).toNatClampNeg)) (hat14 : cl_w3.slots[(i3).toNatClampNeg]? = some (.int w5)) (hc5 : (0 : Int32) < i3) :
    ∃ (T' : State), Stand p l e R s m args below meth c T' locs cells slots ∧ T'.heap = h0 ∧
      ∀ target, Steps p.tables e below (T'.setTop (mkF m 4 #[.val (.ref o0), s1, .val (.int (i2 + w5)), .val (.int (i3 - (i3 &&& (-i3))))] [])) target → Steps p.tables e below (T0.setTop (mkF m 4 #[.val (.ref o0), s1, .val (.int i2), .val (.int i3)] [])) target := by
  obtain ⟨T4, X4, e4, st4⟩ := getF X0 hx hZ hown (host := "") (Or.inl (hw _ (List.mem_of_getElem? (i := 11) rfl))) Via.refl e0 F_cells_o0 (g := (mkF m 10 #[.val (.ref o0), s1, .val (.int i2), .val (.int i3)] [(.ref o0), (.int i2)])) rfl rfl (hb hby d4_10)
  refine ⟨T4, X4, e4, fun target kt => ?_⟩
  show Steps p.tables e below (T0.setTop (mkF m 4 #[.val (.ref o0), s1, .val (.int i2), .val (.int i3)] [])) _
  refine XS.iloadN X0.here hx rfl (hb hby d4_4) rfl ?_
  show Steps p.tables e below (T0.setTop (mkF m 5 #[.val (.ref o0), s1, .val (.int i2), .val (.int i3)] [(.int i3)])) _
  refine XS.ifNo X0.here hx rfl (hb hby d4_5) rfl ((if0 _ _).trans (tlt hc5).2.2.2) ?_
  show Steps p.tables e below (T0.setTop (mkF m 8 #[.val (.ref o0), s1, .val (.int i2), .val (.int i3)] [])) _
  refine XS.iloadN X0.here hx rfl (hb hby d4_8) rfl ?_
  show Steps p.tables e below (T0.setTop (mkF m 9 #[.val (.ref o0), s1, .val (.int i2), .val (.int i3)] [(.int i2)])) _
  refine XS.aloadN X0.here hx rfl (hb hby d4_9) rfl rfl ?_
  show Steps p.tables e below (T0.setTop (mkF m 10 #[.val (.ref o0), s1, .val (.int i2), .val (.int i3)] [(.ref o0), (.int i2)])) _
  refine st4 _ ?_
  show Steps p.tables e below (T4.setTop (mkF m 13 #[.val (.ref o0), s1, .val (.int i2), .val (.int i3)] [(.ref w3), (.int i2)])) _
  refine XS.iloadN X4.here hx rfl (hb hby d4_13) rfl ?_
  show Steps p.tables e below (T4.setTop (mkF m 14 #[.val (.ref o0), s1, .val (.int i2), .val (.int i3)] [(.int i3), (.ref w3), (.int i2)])) _
  refine X4.iaload hx (j := i3) (v := (.int w5)) (by rw [e4]; exact Ar_w3.1) (State.isArrayOf_alike hZ.alike Ar_w3.2.1) Ar_w3.2.2 hin14 hat14 (g := (mkF m 14 #[.val (.ref o0), s1, .val (.int i2), .val (.int i3)] [(.int i3), (.ref w3), (.int i2)])) rfl rfl (hb hby d4_14) _ ?_
  show Steps p.tables e below (T4.setTop (mkF m 15 #[.val (.ref o0), s1, .val (.int i2), .val (.int i3)] [(.int w5), (.int i2)])) _
  refine XS.iadd X4.here hx rfl (hb hby d4_15) rfl ?_
  show Steps p.tables e below (T4.setTop (mkF m 16 #[.val (.ref o0), s1, .val (.int i2), .val (.int i3)] [(.int (i2 + w5))])) _
  refine XS.istoreN X4.here hx rfl (hb hby d4_16) rfl (l' := #[.val (.ref o0), s1, .val (.int (i2 + w5)), .val (.int i3)]) rfl ?_
  show Steps p.tables e below (T4.setTop (mkF m 17 #[.val (.ref o0), s1, .val (.int (i2 + w5)), .val (.int i3)] [])) _
  refine XS.iloadN X4.here hx rfl (hb hby d4_17) rfl ?_
  show Steps p.tables e below (T4.setTop (mkF m 18 #[.val (.ref o0), s1, .val (.int (i2 + w5)), .val (.int i3)] [(.int i3)])) _
  refine XS.iloadN X4.here hx rfl (hb hby d4_18) rfl ?_
  show Steps p.tables e below (T4.setTop (mkF m 19 #[.val (.ref o0), s1, .val (.int (i2 + w5)), .val (.int i3)] [(.int i3), (.int i3)])) _
  refine XS.iloadN X4.here hx rfl (hb hby d4_19) rfl ?_
  show Steps p.tables e below (T4.setTop (mkF m 20 #[.val (.ref o0), s1, .val (.int (i2 + w5)), .val (.int i3)] [(.int i3), (.int i3), (.int i3)])) _
  refine XS.ineg X4.here hx rfl (hb hby d4_20) rfl ?_
  show Steps p.tables e below (T4.setTop (mkF m 21 #[.val (.ref o0), s1, .val (.int (i2 + w5)), .val (.int i3)] [(.int (-i3)), (.int i3), (.int i3)])) _
  refine XS.iand X4.here hx rfl (hb hby d4_21) rfl ?_
  show Steps p.tables e below (T4.setTop (mkF m 22 #[.val (.ref o0), s1, .val (.int (i2 + w5)), .val (.int i3)] [(.int (i3 &&& (-i3))), (.int i3)])) _
  refine XS.isub X4.here hx rfl (hb hby d4_22) rfl ?_
  show Steps p.tables e below (T4.setTop (mkF m 23 #[.val (.ref o0), s1, .val (.int (i2 + w5)), .val (.int i3)] [(.int (i3 - (i3 &&& (-i3))))])) _
  refine XS.istoreN X4.here hx rfl (hb hby d4_23) rfl (l' := #[.val (.ref o0), s1, .val (.int (i2 + w5)), .val (.int (i3 - (i3 &&& (-i3))))]) rfl ?_
  show Steps p.tables e below (T4.setTop (mkF m 24 #[.val (.ref o0), s1, .val (.int (i2 + w5)), .val (.int (i3 - (i3 &&& (-i3))))] [])) _
  refine XS.goto X4.here hx rfl (pc0 := 24) (pc' := 4) rfl (hb hby d4_24) (by decide) (by decide) ?_
  exact kt
set_option maxRecDepth 65536 in
set_option maxHeartbeats 40000000 in
theorem tn4_4_27 {p : Program} {l : Launch} {e : Env} {R : Room} {s : State} {m : MethodId} {args : Array Value} {below : List Frame} {meth : Method} {c : Code} {T0 : State} {locs : List Loc} {cells slots : Nat} {Z : State} {a0 : Array Value} {h0 : Heap} (s0 : Slot) (s1 : Slot) (s2 : Slot) (i3 : Int32)
    (X0 : Stand p l e R s m args below meth c T0 locs cells slots) (hx : p.tables.exec = Jvm.exec) (hZ : Z.Warmed39 s.vm) (hw : ∀ d ∈ tables_1, d.before a0 Z = true) (hby : c.code = prog_146_method_4_code) (hml : c.maxLocals = 4) (hown : s.vm.findClass "com/example/tallykeep/tallykeep/core/PrefixCounts" = some m.cls) (e0 : T0.heap = h0) (hc5 : ¬ ((0 : Int32) < i3)) :
    ∃ (T' : State), Stand p l e R s m args below meth c T' locs cells slots ∧ T'.heap = h0 ∧
      ∀ target, Steps p.tables e below (T'.setTop (mkF m 27 #[s0, s1, s2, .val (.int i3)] [])) target → Steps p.tables e below (T0.setTop (mkF m 4 #[s0, s1, s2, .val (.int i3)] [])) target := by

  refine ⟨T0, X0, e0, fun target kt => ?_⟩
  show Steps p.tables e below (T0.setTop (mkF m 4 #[s0, s1, s2, .val (.int i3)] [])) _
  refine XS.iloadN X0.here hx rfl (hb hby d4_4) rfl ?_
  show Steps p.tables e below (T0.setTop (mkF m 5 #[s0, s1, s2, .val (.int i3)] [(.int i3)])) _
  refine XS.ifYes X0.here hx rfl (pc0 := 5) (pc' := 27) rfl (hb hby d4_5) rfl ((if0 _ _).trans (flt hc5).2.2.2) (by decide) (by decide) ?_
  exact kt
set_option maxRecDepth 65536 in
theorem loop4 {p : Program} {l : Launch} {e : Env} {R : Room} {s : State} {m : MethodId} {args : Array Value} {below : List Frame} {meth : Method} {c : Code} {cells slots : Nat} {Z : State} {a0 : Array Value} {h0 : Heap} {locs : List Loc} (o0 : Addr) (s1 : Slot) (w3 : Addr) (N : Nat) (f : Nat → Int32) (hN : N < 18) (hx : p.tables.exec = Jvm.exec) (hZ : Z.Warmed39 s.vm) (hw : ∀ d ∈ tables_1, d.before a0 Z = true) (hby : c.code = prog_146_method_4_code) (hml : c.maxLocals = 4) (hown : s.vm.findClass "com/example/tallykeep/tallykeep/core/PrefixCounts" = some m.cls) (Fc : Fld Z h0 o0 "com/example/tallykeep/tallykeep/core/PrefixCounts" "cells" "[I" (.ref w3)) (V : OA Z h0 w3 N f) :
    ∀ (k i : Nat) (S : Int32) (T0 : State), own_downOk k i = true → i < N → Stand p l e R s m args below meth c T0 locs cells slots → T0.heap = h0 →
      ∃ (T' : State) (i' : Int32), Stand p l e R s m args below meth c T' locs cells slots ∧ T'.heap = h0 ∧
        ∀ target, Steps p.tables e below (T'.setTop (mkF m 27 #[.val (.ref o0), s1, .val (.int (own_sum (own_down k i) f S)), .val (.int i')] [])) target → Steps p.tables e below (T0.setTop (mkF m 4 #[.val (.ref o0), s1, .val (.int S), .val (.int (Int32.ofNat i))] [])) target := by
  have out : ∀ (S : Int32) (T0 : State), Stand p l e R s m args below meth c T0 locs cells slots → T0.heap = h0 →
      ∃ (T' : State) (i' : Int32), Stand p l e R s m args below meth c T' locs cells slots ∧ T'.heap = h0 ∧
        ∀ target, Steps p.tables e below (T'.setTop (mkF m 27 #[.val (.ref o0), s1, .val (.int S), .val (.int i')] [])) target → Steps p.tables e below (T0.setTop (mkF m 4 #[.val (.ref o0), s1, .val (.int S), .val (.int (Int32.ofNat 0))] [])) target := by
    intro S T0 X e0
    obtain ⟨T1, X1, e1, st1⟩ := tn4_4_27 (.val (.ref o0)) s1 (.val (.int S)) (Int32.ofNat 0) X hx hZ hw hby hml hown e0 (by decide)
    exact ⟨T1, _, X1, e1, st1⟩
  intro k
  induction k with
  | zero =>
    intro i S T0 ok hi X e0
    have h0i : i = 0 := by simpa [own_downOk] using ok
    subst h0i
    exact out S T0 X e0
  | succ k ih =>
    intro i S T0 ok hi X e0
    by_cases hp : 0 < i
    · obtain ⟨cl, A, Sz, H⟩ := V
      have hcl : (Int32.ofNat i).toNatClampNeg = i := own_clamp (by omega)
      have hin : ¬ (Int32.ofNat i < 0 ∨ cl.slots.size ≤ (Int32.ofNat i).toNatClampNeg) := by
        rw [hcl, Sz]
        rintro (q | q)
        · exact own_nneg (by omega) q
        · omega
      have hat : cl.slots[(Int32.ofNat i).toNatClampNeg]? = some (.int (f i)) := by rw [hcl]; exact H i hi
      obtain ⟨T1, X1, e1, st1⟩ := tn4_4_4 o0 s1 S (Int32.ofNat i) w3 (f i) cl X hx hZ hw hby hml hown e0 Fc A hin hat (own_pos hp (by omega))
      have ok' : own_downOk k (i - own_low i) = true := by simpa [own_downOk, hp] using ok
      obtain ⟨T2, i2, X2, e2, st2⟩ := ih (i - own_low i) (S + f i) T1 ok' (by omega) X1 e1
      refine ⟨T2, i2, X2, e2, fun target kt => st1 target ?_⟩
      rw [own_dec hp (by omega)]
      refine st2 target ?_
      have q : own_sum (own_down (k + 1) i) f S = own_sum (own_down k (i - own_low i)) f (S + f i) := by simp [own_down, hp, own_sum]
      rw [← q]
      exact kt
    · have h0i : i = 0 := by omega
      subst h0i
      exact out S T0 X e0
theorem d4_0 : decode prog_146_method_4_code 0 = .ok (.iconst 0, 1) := by decide +kernel
theorem d4_1 : decode prog_146_method_4_code 1 = .ok (.istore_n 2, 1) := by decide +kernel
theorem d4_2 : decode prog_146_method_4_code 2 = .ok (.iload_n 1, 1) := by decide +kernel
theorem d4_3 : decode prog_146_method_4_code 3 = .ok (.istore_n 3, 1) := by decide +kernel
theorem d4_27 : decode prog_146_method_4_code 27 = .ok (.iload_n 2, 1) := by decide +kernel
theorem d4_28 : decode prog_146_method_4_code 28 = .ok (.ireturn, 1) := by decide +kernel
theorem pn_4 : plainName "com/example/tallykeep/tallykeep/core/PrefixCounts" = true := by first | (simp [plainName, overriddenIn]; done) | decide +kernel
theorem ef_4 (m : MethodId) (x0 : Addr) (x1 : Int32) : entryFrame m #[(.ref x0), (.int x1)] 4 = mkF m 0 #[.val (.ref x0), .val (.int x1), .unset, .unset] [] := by first | (simp [entryFrame, mkF, argsToLocals, Value.category]; done) | rfl
def Q4 (Z : State) (r : Int32) (h0 : Heap) (n0 : Nat) (v : Option Value) (h : Heap) (L : List Loc) : Prop := v = some (.int r) ∧ Fr n0 L ∧ h = h0
set_option maxRecDepth 65536 in
set_option maxHeartbeats 40000000 in
theorem rm4 (l : Launch) (Z : State) (a0 : Array Value) (hw : ∀ d ∈ tables_1, d.before a0 Z = true) (ws : List Jvm.Cond) (a1 : Addr) (qq : Nat) (w3 : Addr) (N : Nat) (f : Nat → Int32) (h0 : Heap) (n0 : Nat) (Z0 : n0 ≤ h0.size) (Fc : Fld Z h0 a1 "com/example/tallykeep/tallykeep/core/PrefixCounts" "cells" "[I" (.ref w3)) (V : OA Z h0 w3 N f) (hN : N < 18) (hq : qq < N) :
    MetFree l (⟨"com/example/tallykeep/tallykeep/core/PrefixCounts", "below", "(I)I"⟩ : MethodName) (head1 (Jvm.Cond.code (⟨"com/example/tallykeep/tallykeep/core/PrefixCounts", "below", "(I)I"⟩ : MethodName) prog_146_method_4_code 4 (some .int) :: ws) ({ frames := 0, cells := 0, slots := 0, locals := 0 } : Room)) (fun a U => a = #[(.ref a1), (.int (Int32.ofNat qq))] ∧ Z.Warmed39 U.vm ∧ U.heap = h0) (fun _ _ _ _ _ => True) (fun _ U o U' => ∃ v L, o = .returned v ∧ Q4 Z (own_sum (own_down 6 qq) f 0) h0 n0 v U'.heap L ∧ FrameEnd U o U' L ({ frames := 0, cells := 0, slots := 0, locals := 0 } : Room).cells ({ frames := 0, cells := 0, slots := 0, locals := 0 } : Room).slots) := by
  refine MetFree.of_bodySF (plainFor_of_name pn_4) hisR ?_
  intro p e s m args below meth c s₁ Bd hml0 hP hK
  obtain ⟨rfl, hZ, hh⟩ := hP
  have hx := Bd.exec
  have hby := Bd.bytes
  have hml : c.maxLocals = 4 := hml0
  have hown : s.vm.findClass "com/example/tallykeep/tallykeep/core/PrefixCounts" = some m.cls := findClass_of_methodNamed Bd.named
  have hnm := (name_of_methodNamed Bd.named Bd.method).1
  have X0 : Stand p l e ({ frames := 0, cells := 0, slots := 0, locals := 0 } : Room) s m #[(.ref a1), (.int (Int32.ofNat qq))] below meth c s₁ [] 0 0 := Stand.of_body Bd
  have e0 : s₁.heap = h0 := by rw [← hh, Bd.state]; rfl
  have N0 := Fr.nil n0
  have pre0 : ∀ t, Steps p.tables e below (s₁.setTop (mkF m 0 #[.val (.ref a1), .val (.int (Int32.ofNat qq)), .unset, .unset] [])) t → Steps p.tables e below (s₁.setTop (entryFrame m #[(.ref a1), (.int (Int32.ofNat qq))] 4)) t := fun t k => castTop (ef_4 m a1 (Int32.ofNat qq)) k

  obtain ⟨TL, iL, XL, eL, stL⟩ := loop4 a1 (.val (.int (Int32.ofNat qq))) w3 N f hN hx hZ hw hby hml hown Fc V 6 qq 0 s₁ (own_down_ok qq (by omega)) hq X0 e0
  obtain ⟨fs, hr, hrun, hended, hW, hsame⟩ := XL.leave (v := some (.int (own_sum (own_down 6 qq) f 0))) (fun h => by rw [Bd.returns] at h; cases h)
  refine ⟨_, _, pre0 _ ?_, hrun, hended, _, _, rfl, ?_, ⟨_, rfl⟩, hW, hsame.mono (by decide) (by decide)⟩
  · show Steps p.tables e below (s₁.setTop (mkF m 0 #[.val (.ref a1), .val (.int (Int32.ofNat qq)), .unset, .unset] [])) _
    refine XS.iconst X0.here hx rfl (hb hby d4_0) ?_
    show Steps p.tables e below (s₁.setTop (mkF m 1 #[.val (.ref a1), .val (.int (Int32.ofNat qq)), .unset, .unset] [(.int (0 : Int32))])) _
    refine XS.istoreN X0.here hx rfl (hb hby d4_1) rfl (l' := #[.val (.ref a1), .val (.int (Int32.ofNat qq)), .val (.int (0 : Int32)), .unset]) rfl ?_
    show Steps p.tables e below (s₁.setTop (mkF m 2 #[.val (.ref a1), .val (.int (Int32.ofNat qq)), .val (.int (0 : Int32)), .unset] [])) _
    refine XS.iloadN X0.here hx rfl (hb hby d4_2) rfl ?_
    show Steps p.tables e below (s₁.setTop (mkF m 3 #[.val (.ref a1), .val (.int (Int32.ofNat qq)), .val (.int (0 : Int32)), .unset] [(.int (Int32.ofNat qq))])) _
    refine XS.istoreN X0.here hx rfl (hb hby d4_3) rfl (l' := #[.val (.ref a1), .val (.int (Int32.ofNat qq)), .val (.int (0 : Int32)), .val (.int (Int32.ofNat qq))]) rfl ?_
    show Steps p.tables e below (s₁.setTop (mkF m 4 #[.val (.ref a1), .val (.int (Int32.ofNat qq)), .val (.int (0 : Int32)), .val (.int (Int32.ofNat qq))] [])) _
    refine stL _ ?_
    refine XS.iloadN XL.here hx rfl (hb hby d4_27) rfl ?_
    exact retI XL hx Bd.returns (hb hby d4_28) hr
  · show Q4 Z (own_sum (own_down 6 qq) f 0) h0 n0 _ TL.heap _
    rw [eL]
    exact ⟨rfl, N0, rfl⟩
theorem own_final3 {n p1 p2 p3 q : Nat} (hn : n ≤ 16) (h1 : p1 < n) (h2 : p2 < n) (h3 : p3 < n) (hq : q ≤ n) (c1 c2 c3 : Int32) :
    own_sum (own_down 6 q) (own_adds (own_up 6 (n + 1) (p3 + 1)) c3 (own_adds (own_up 6 (n + 1) (p2 + 1)) c2 (own_adds (own_up 6 (n + 1) (p1 + 1)) c1 (fun _ => 0)))) 0 = (((if p1 < q then c1 else 0) + (if p2 < q then c2 else 0)) + (if p3 < q then c3 else 0)) := by
  rw [own_sum_tot, own_step (by omega) (by omega) (by omega), own_step (by omega) (by omega) (by omega), own_step (by omega) (by omega) (by omega), own_tot_zero, Int32.zero_add, Int32.zero_add]
theorem pn_0 : plainName "com/example/tallykeep/tallykeep/core/PrefixCountsBelowPinLaw" = true := by first | (simp [plainName, overriddenIn]; done) | decide +kernel
theorem pd_0_0 : parseMethodDescriptor "(I)V" = some ⟨[.int], none⟩ := by decide +kernel
theorem pd_0_2 : parseMethodDescriptor "(II)V" = some ⟨[.int, .int], none⟩ := by decide +kernel
theorem pd_0_3 : parseMethodDescriptor "(I)I" = some ⟨[.int], some .int⟩ := by decide +kernel
theorem ef_0 (m : MethodId) (x0 : Int32) (x1 : Int32) (x2 : Int32) (x3 : Int32) (x4 : Int32) : entryFrame m #[(.int x0), (.int x1), (.int x2), (.int x3), (.int x4)] maxLocals = mkF m 0 #[.val (.int x0), .val (.int x1), .val (.int x2), .val (.int x3), .val (.int x4), .unset, .unset, .unset, .unset, .unset, .unset, .unset] [] := by first | (simp [entryFrame, mkF, argsToLocals, Value.category, maxLocals]; done) | rfl
def Q0_ffff (Z : State) (p1 : Int32) (p2 : Int32) (p3 : Int32) (p4 : Int32) (p5 : Int32) (h0 : Heap) (n0 : Nat) (v : Option Value) (h : Heap) (L : List Loc) : Prop := v = some (.int (1 : Int32)) ∧ Fr n0 L
set_option maxRecDepth 65536 in
set_option maxHeartbeats 40000000 in
theorem rm0_ffff (l : Launch) (Z : State) (a0 : Array Value) (hw : ∀ d ∈ tables_1, d.before a0 Z = true) (ws : List Jvm.Cond) (p1 : Int32) (p2 : Int32) (p3 : Int32) (p4 : Int32) (p5 : Int32) (n pa pb pd q : Nat) (h0 : Heap) (n0 : Nat) (Z0 : n0 ≤ h0.size) (hn : n ≤ 16) (hpa : pa < n) (hpb : pb < n) (hpd : pd < n) (hq : q ≤ n) (hp9 : (((p1 &&& (255 : Int32)) % (12 : Int32)) + (1 : Int32)) = (Int32.ofNat n)) (hp22 : ((((p1.toUInt32 >>> ((8 : Int32) &&& 31).toUInt32).toInt32) &&& (255 : Int32)) % (Int32.ofNat n)) = (Int32.ofNat pa)) (hp35 : ((((p1.toUInt32 >>> ((16 : Int32) &&& 31).toUInt32).toInt32) &&& (255 : Int32)) % (Int32.ofNat n)) = (Int32.ofNat pb)) (hp48 : ((((p1.toUInt32 >>> ((24 : Int32) &&& 31).toUInt32).toInt32) &&& (255 : Int32)) % (Int32.ofNat n)) = (Int32.ofNat pd)) (hp60 : ((p5 &&& (2147483647 : Int32)) % ((Int32.ofNat n) + (1 : Int32))) = (Int32.ofNat q)) (hc105 : (Int32.ofNat pa) < (Int32.ofNat q)) (hc118 : (Int32.ofNat pb) < (Int32.ofNat q)) (hc131 : (Int32.ofNat pd) < (Int32.ofNat q)) :
    MetFree l x (head1 (Jvm.Cond.code x code maxLocals ret :: ws) room_1) (fun a U => a = #[(.int p1), (.int p2), (.int p3), (.int p4), (.int p5)] ∧ Z.Warmed39 U.vm ∧ U.heap = h0) (fun _ _ _ _ _ => True) (fun _ U o U' => ∃ v L, o = .returned v ∧ Q0_ffff Z p1 p2 p3 p4 p5 h0 n0 v U'.heap L ∧ FrameEnd U o U' L room_1.cells room_1.slots) := by
  refine MetFree.of_bodySF (plainFor_of_name pn_0) hisR ?_
  intro p e s m args below meth c s₁ Bd hml0 hP hK
  obtain ⟨rfl, hZ, hh⟩ := hP
  have hnz22 : Int32.ofNat n ≠ (0 : Int32) := own_nz (by omega) (by omega)
  have hnz35 := hnz22
  have hnz48 := hnz22
  have hnz60 : Int32.ofNat n + (1 : Int32) ≠ (0 : Int32) := by rw [own_one]; exact own_nz (by omega) (by omega)
  have hx := Bd.exec
  have hby := Bd.bytes
  have hml : c.maxLocals = 12 := hml0
  have hown : s.vm.findClass "com/example/tallykeep/tallykeep/core/PrefixCountsBelowPinLaw" = some m.cls := findClass_of_methodNamed Bd.named
  have hnm := (name_of_methodNamed Bd.named Bd.method).1
  have X0 : Stand p l e room_1 s m #[(.int p1), (.int p2), (.int p3), (.int p4), (.int p5)] below meth c s₁ [] 0 0 := Stand.of_body Bd
  have e0 : s₁.heap = h0 := by rw [← hh, Bd.state]; rfl
  have N0 := Fr.nil n0
  have pre0 : ∀ t, Steps p.tables e below (s₁.setTop (mkF m 0 #[.val (.int p1), .val (.int p2), .val (.int p3), .val (.int p4), .val (.int p5), .unset, .unset, .unset, .unset, .unset, .unset, .unset] [])) t → Steps p.tables e below (s₁.setTop (entryFrame m #[(.int p1), (.int p2), (.int p3), (.int p4), (.int p5)] maxLocals)) t := fun t k => castTop (ef_0 m p1 p2 p3 p4 p5) k
  obtain ⟨T6, h6, X6, e6, E6, A6, D6, -, st6⟩ := newO X0 hx hZ hown (hw _ (List.mem_of_getElem? (i := 1) rfl)) (hw _ (List.mem_of_getElem? (i := 2) rfl)) (hw _ (List.mem_of_getElem? (i := 3) rfl)) e0 (g := (mkF m 63 #[.val (.int p1), .val (.int p2), .val (.int p3), .val (.int p4), .val (.int p5), .val (.int (Int32.ofNat n)), .val (.int (Int32.ofNat pa)), .val (.int (Int32.ofNat pb)), .val (.int (Int32.ofNat pd)), .val (.int (Int32.ofNat q)), .unset, .unset] [])) rfl (hb hby at_63) (by decide) (by decide)
  obtain ⟨b6, g6⟩ : ∃ z, z = h0.size := ⟨_, rfl⟩
  rw [← g6] at A6 D6 st6
  have F_cells_b6 : Fld Z h6 b6 "com/example/tallykeep/tallykeep/core/PrefixCounts" "cells" "[I" .null := D6 (Or.inr (hw _ (List.mem_of_getElem? (i := 12) rfl))) (ty := (.array .int)) (by decide)
  have E_b6 := A6
  have g_b6 : n0 ≤ b6 := Nat.le_trans Z0 (Nat.le_of_eq g6.symm)
  have sz_b6 : h0.size ≤ b6 := (Nat.le_trans (Keep.refl h0 []).1 (Nat.le_of_eq g6.symm))
  have K6 : Keep h0 h6 [] := (Keep.refl h0 []).ext E6
  obtain ⟨_, _, ⟨T7, L7, k7, n7⟩, -, X7, ⟨Lc7, hQ7, l7, y7, z7⟩, st7⟩ := X6.specialBack hx (y := (⟨"com/example/tallykeep/tallykeep/core/PrefixCounts", "<init>", "(I)V"⟩ : MethodName)) rfl hown (mvT hZ (hw _ (List.mem_of_getElem? (i := 4) rfl))) (mvT hZ (hw _ (List.mem_of_getElem? (i := 5) rfl))) (mvT hZ (hw _ (List.mem_of_getElem? (i := 6) rfl))) (by decide) (backOf (W := 1) (rm1 l Z a0 hw [] b6 n .null h6 n0 (Nat.le_trans Z0 K6.1) E_b6 F_cells_b6 g_b6 hn) hZ (hw _ (List.mem_of_getElem? (i := 6) rfl)) (hw _ (List.mem_of_getElem? (i := 3) rfl)) (by decide) (by decide)) (g := (mkF m 69 #[.val (.int p1), .val (.int p2), .val (.int p3), .val (.int p4), .val (.int p5), .val (.int (Int32.ofNat n)), .val (.int (Int32.ofNat pa)), .val (.int (Int32.ofNat pb)), .val (.int (Int32.ofNat pd)), .val (.int (Int32.ofNat q)), .unset, .unset] [(.int (Int32.ofNat n)), (.ref b6), (.ref b6)])) rfl (by rw [hml]; rfl) (Steps.refl _) (a := b6) (argsL := [(.int (Int32.ofNat n))]) (rest := [(.ref b6)]) (lenOf pd_0_0 rfl) rfl (by show 2 * 0 + _ ≤ _; exact Nat.le_of_eq rfl) (hb hby at_69) (fun _ _ => ⟨rfl, e6, (Nat.le_of_ble_eq_true rfl), (Nat.le_of_ble_eq_true rfl)⟩)
  dsimp only [Pt.U, Pt.locs, Pt.cells, Pt.slots] at X7 l7 y7 z7 st7 hQ7
  subst l7 y7 z7
  obtain ⟨rfl, N7q, K7c, E7c, bC, szC, FC, VC⟩ := hQ7
  have g_bC : n0 ≤ bC := Nat.le_trans (Nat.le_trans Z0 K6.1) szC
  have ne_oC : b6 ≠ bC := Nat.ne_of_lt (Nat.lt_of_lt_of_le E_b6.lt szC)
  have Z7 : n0 ≤ T7.heap.size := Nat.le_trans (Nat.le_trans Z0 K6.1) K7c.1
  have N7 := Fr.app N0 N7q
  obtain ⟨cq8, kq8, q8a, q8b, q8c⟩ := isOf hZ rfl (E_b6.keep K7c)
  obtain ⟨_, _, ⟨T8, L8, k8, n8⟩, -, X8, ⟨Lc8, hQ8, l8, y8, z8⟩, st8⟩ := X7.virtualBack hx (y := (⟨"com/example/tallykeep/tallykeep/core/PrefixCounts", "add", "(II)V"⟩ : MethodName)) (z := (⟨"com/example/tallykeep/tallykeep/core/PrefixCounts", "add", "(II)V"⟩ : MethodName)) hown (mvT hZ (hw _ (List.mem_of_getElem? (i := 13) rfl))) (mvT hZ (hw _ (List.mem_of_getElem? (i := 14) rfl))) (notFace_of_selects (args := #[]) (mvT hZ (hw _ (List.mem_of_getElem? (i := 16) rfl)))) (mvT hZ (hw _ (List.mem_of_getElem? (i := 16) rfl))) (mvT hZ (hw _ (List.mem_of_getElem? (i := 15) rfl))) (by decide) (backOf (W := 0) (rm3 l Z a0 hw [] b6 pa p2 bC (n + 1) _ T7.heap n0 Z7 FC VC (by omega) (by omega) g_bC ne_oC) hZ (hw _ (List.mem_of_getElem? (i := 17) rfl)) (hw _ (List.mem_of_getElem? (i := 3) rfl)) (by decide) (by decide)) q8a q8c (g := (mkF m 79 #[.val (.int p1), .val (.int p2), .val (.int p3), .val (.int p4), .val (.int p5), .val (.int (Int32.ofNat n)), .val (.int (Int32.ofNat pa)), .val (.int (Int32.ofNat pb)), .val (.int (Int32.ofNat pd)), .val (.int (Int32.ofNat q)), .val (.ref b6), .unset] [(.int p2), (.int (Int32.ofNat pa)), (.ref b6)])) rfl (by rw [hml]; rfl) (Steps.refl _) (argsL := [(.int (Int32.ofNat pa)), (.int p2)]) (rest := []) (lenOf pd_0_2 rfl) rfl (by show 2 * 0 + _ ≤ _; exact Nat.le_of_eq rfl) (hb hby at_79) (fun _ _ => ⟨rfl, rfl, (Nat.le_of_ble_eq_true rfl), (Nat.le_of_ble_eq_true rfl)⟩)
  dsimp only [Pt.U, Pt.locs, Pt.cells, Pt.slots] at X8 l8 y8 z8 st8 hQ8
  subst l8 y8 z8
  obtain ⟨rfl, N8q, K8c, V8c⟩ := hQ8
  have F8c := FC.keep K8c (ninS ne_oC nin0)
  have Z8 : n0 ≤ T8.heap.size := Nat.le_trans Z7 K8c.1
  have N8 := Fr.app N7 N8q
  obtain ⟨cq9, kq9, q9a, q9b, q9c⟩ := isOf hZ rfl ((E_b6.keep K7c).keep K8c)
  obtain ⟨_, _, ⟨T9, L9, k9, n9⟩, -, X9, ⟨Lc9, hQ9, l9, y9, z9⟩, st9⟩ := X8.virtualBack hx (y := (⟨"com/example/tallykeep/tallykeep/core/PrefixCounts", "add", "(II)V"⟩ : MethodName)) (z := (⟨"com/example/tallykeep/tallykeep/core/PrefixCounts", "add", "(II)V"⟩ : MethodName)) hown (mvT hZ (hw _ (List.mem_of_getElem? (i := 13) rfl))) (mvT hZ (hw _ (List.mem_of_getElem? (i := 14) rfl))) (notFace_of_selects (args := #[]) (mvT hZ (hw _ (List.mem_of_getElem? (i := 16) rfl)))) (mvT hZ (hw _ (List.mem_of_getElem? (i := 16) rfl))) (mvT hZ (hw _ (List.mem_of_getElem? (i := 15) rfl))) (by decide) (backOf (W := 0) (rm3 l Z a0 hw [] b6 pb p3 bC (n + 1) _ T8.heap n0 Z8 F8c V8c (by omega) (by omega) g_bC ne_oC) hZ (hw _ (List.mem_of_getElem? (i := 17) rfl)) (hw _ (List.mem_of_getElem? (i := 3) rfl)) (by decide) (by decide)) q9a q9c (g := (mkF m 87 #[.val (.int p1), .val (.int p2), .val (.int p3), .val (.int p4), .val (.int p5), .val (.int (Int32.ofNat n)), .val (.int (Int32.ofNat pa)), .val (.int (Int32.ofNat pb)), .val (.int (Int32.ofNat pd)), .val (.int (Int32.ofNat q)), .val (.ref b6), .unset] [(.int p3), (.int (Int32.ofNat pb)), (.ref b6)])) rfl (by rw [hml]; rfl) (Steps.refl _) (argsL := [(.int (Int32.ofNat pb)), (.int p3)]) (rest := []) (lenOf pd_0_2 rfl) rfl (by show 2 * 0 + _ ≤ _; exact Nat.le_of_eq rfl) (hb hby at_87) (fun _ _ => ⟨rfl, rfl, (Nat.le_of_ble_eq_true rfl), (Nat.le_of_ble_eq_true rfl)⟩)
  dsimp only [Pt.U, Pt.locs, Pt.cells, Pt.slots] at X9 l9 y9 z9 st9 hQ9
  subst l9 y9 z9
  obtain ⟨rfl, N9q, K9c, V9c⟩ := hQ9
  have F9c := F8c.keep K9c (ninS ne_oC nin0)
  have Z9 : n0 ≤ T9.heap.size := Nat.le_trans Z8 K9c.1
  have N9 := Fr.app N8 N9q
  obtain ⟨cq10, kq10, q10a, q10b, q10c⟩ := isOf hZ rfl (((E_b6.keep K7c).keep K8c).keep K9c)
  obtain ⟨_, _, ⟨T10, L10, k10, n10⟩, -, X10, ⟨Lc10, hQ10, l10, y10, z10⟩, st10⟩ := X9.virtualBack hx (y := (⟨"com/example/tallykeep/tallykeep/core/PrefixCounts", "add", "(II)V"⟩ : MethodName)) (z := (⟨"com/example/tallykeep/tallykeep/core/PrefixCounts", "add", "(II)V"⟩ : MethodName)) hown (mvT hZ (hw _ (List.mem_of_getElem? (i := 13) rfl))) (mvT hZ (hw _ (List.mem_of_getElem? (i := 14) rfl))) (notFace_of_selects (args := #[]) (mvT hZ (hw _ (List.mem_of_getElem? (i := 16) rfl)))) (mvT hZ (hw _ (List.mem_of_getElem? (i := 16) rfl))) (mvT hZ (hw _ (List.mem_of_getElem? (i := 15) rfl))) (by decide) (backOf (W := 0) (rm3 l Z a0 hw [] b6 pd p4 bC (n + 1) _ T9.heap n0 Z9 F9c V9c (by omega) (by omega) g_bC ne_oC) hZ (hw _ (List.mem_of_getElem? (i := 17) rfl)) (hw _ (List.mem_of_getElem? (i := 3) rfl)) (by decide) (by decide)) q10a q10c (g := (mkF m 95 #[.val (.int p1), .val (.int p2), .val (.int p3), .val (.int p4), .val (.int p5), .val (.int (Int32.ofNat n)), .val (.int (Int32.ofNat pa)), .val (.int (Int32.ofNat pb)), .val (.int (Int32.ofNat pd)), .val (.int (Int32.ofNat q)), .val (.ref b6), .unset] [(.int p4), (.int (Int32.ofNat pd)), (.ref b6)])) rfl (by rw [hml]; rfl) (Steps.refl _) (argsL := [(.int (Int32.ofNat pd)), (.int p4)]) (rest := []) (lenOf pd_0_2 rfl) rfl (by show 2 * 0 + _ ≤ _; exact Nat.le_of_eq rfl) (hb hby at_95) (fun _ _ => ⟨rfl, rfl, (Nat.le_of_ble_eq_true rfl), (Nat.le_of_ble_eq_true rfl)⟩)
  dsimp only [Pt.U, Pt.locs, Pt.cells, Pt.slots] at X10 l10 y10 z10 st10 hQ10
  subst l10 y10 z10
  obtain ⟨rfl, N10q, K10c, V10c⟩ := hQ10
  have F10c := F9c.keep K10c (ninS ne_oC nin0)
  have Z10 : n0 ≤ T10.heap.size := Nat.le_trans Z9 K10c.1
  have N10 := Fr.app N9 N10q
  obtain ⟨cq11, kq11, q11a, q11b, q11c⟩ := isOf hZ rfl ((((E_b6.keep K7c).keep K8c).keep K9c).keep K10c)
  obtain ⟨_, _, ⟨T11, L11, k11, n11⟩, -, X11, ⟨Lc11, hQ11, l11, y11, z11⟩, st11⟩ := X10.virtualBack hx (y := (⟨"com/example/tallykeep/tallykeep/core/PrefixCounts", "below", "(I)I"⟩ : MethodName)) (z := (⟨"com/example/tallykeep/tallykeep/core/PrefixCounts", "below", "(I)I"⟩ : MethodName)) hown (mvT hZ (hw _ (List.mem_of_getElem? (i := 18) rfl))) (mvT hZ (hw _ (List.mem_of_getElem? (i := 19) rfl))) (notFace_of_selects (args := #[]) (mvT hZ (hw _ (List.mem_of_getElem? (i := 21) rfl)))) (mvT hZ (hw _ (List.mem_of_getElem? (i := 21) rfl))) (mvT hZ (hw _ (List.mem_of_getElem? (i := 20) rfl))) (by decide) (backOf (W := 0) (rm4 l Z a0 hw [] b6 q bC (n + 1) _ T10.heap n0 Z10 F10c V10c (by omega) (by omega)) hZ (hw _ (List.mem_of_getElem? (i := 22) rfl)) (hw _ (List.mem_of_getElem? (i := 3) rfl)) (by decide) (by decide)) q11a q11c (g := (mkF m 144 #[.val (.int p1), .val (.int p2), .val (.int p3), .val (.int p4), .val (.int p5), .val (.int (Int32.ofNat n)), .val (.int (Int32.ofNat pa)), .val (.int (Int32.ofNat pb)), .val (.int (Int32.ofNat pd)), .val (.int (Int32.ofNat q)), .val (.ref b6), .val (.int ((((0 : Int32) + p2) + p3) + p4))] [(.int (Int32.ofNat q)), (.ref b6)])) rfl (by rw [hml]; rfl) (Steps.refl _) (argsL := [(.int (Int32.ofNat q))]) (rest := []) (lenOf pd_0_3 rfl) rfl (by show 2 * 0 + _ ≤ _; exact Nat.le_of_eq rfl) (hb hby at_144) (fun _ _ => ⟨rfl, rfl, (Nat.le_of_ble_eq_true rfl), (Nat.le_of_ble_eq_true rfl)⟩)
  dsimp only [Pt.U, Pt.locs, Pt.cells, Pt.slots] at X11 l11 y11 z11 st11 hQ11
  subst l11 y11 z11
  obtain ⟨rfl, N11q, e11⟩ := hQ11
  have N11 := Fr.app N10 N11q
  have own_ok : (own_sum (own_down 6 q) (own_adds (own_up 6 (n + 1) (pd + 1)) p4 (own_adds (own_up 6 (n + 1) (pb + 1)) p3 (own_adds (own_up 6 (n + 1) (pa + 1)) p2 (fun _ => 0)))) 0) = ((((0 : Int32) + p2) + p3) + p4) := by
    rw [own_final3 hn hpa hpb hpd hq]
    rw [if_pos ((own_lt (by omega) (by omega)).mp hc105)]
    rw [if_pos ((own_lt (by omega) (by omega)).mp hc118)]
    rw [if_pos ((own_lt (by omega) (by omega)).mp hc131)]
    all_goals simp
  obtain ⟨fs, hr, hrun, hended, hW, hsame⟩ := X11.leave (v := some (.int (1 : Int32))) (fun h => by rw [Bd.returns] at h; cases h)
  refine ⟨_, _, pre0 _ ?_, hrun, hended, _, _, rfl, ?_, ⟨_, rfl⟩, hW, hsame.mono (by decide) (by decide)⟩
  · show Steps p.tables e below (s₁.setTop (mkF m 0 #[.val (.int p1), .val (.int p2), .val (.int p3), .val (.int p4), .val (.int p5), .unset, .unset, .unset, .unset, .unset, .unset, .unset] [])) _
    refine XS.iloadN X0.here hx rfl (hb hby at_0) rfl ?_
    show Steps p.tables e below (s₁.setTop (mkF m 1 #[.val (.int p1), .val (.int p2), .val (.int p3), .val (.int p4), .val (.int p5), .unset, .unset, .unset, .unset, .unset, .unset, .unset] [(.int p1)])) _
    refine XS.sipush X0.here hx rfl (hb hby at_1) ?_
    show Steps p.tables e below (s₁.setTop (mkF m 4 #[.val (.int p1), .val (.int p2), .val (.int p3), .val (.int p4), .val (.int p5), .unset, .unset, .unset, .unset, .unset, .unset, .unset] [(.int (255 : Int32)), (.int p1)])) _
    refine XS.iand X0.here hx rfl (hb hby at_4) rfl ?_
    show Steps p.tables e below (s₁.setTop (mkF m 5 #[.val (.int p1), .val (.int p2), .val (.int p3), .val (.int p4), .val (.int p5), .unset, .unset, .unset, .unset, .unset, .unset, .unset] [(.int (p1 &&& (255 : Int32)))])) _
    refine XS.bipush X0.here hx rfl (hb hby at_5) ?_
    show Steps p.tables e below (s₁.setTop (mkF m 7 #[.val (.int p1), .val (.int p2), .val (.int p3), .val (.int p4), .val (.int p5), .unset, .unset, .unset, .unset, .unset, .unset, .unset] [(.int (12 : Int32)), (.int (p1 &&& (255 : Int32)))])) _
    refine iremM X0 hx rfl (hb hby at_7) rfl (by decide) ?_
    show Steps p.tables e below (s₁.setTop (mkF m 8 #[.val (.int p1), .val (.int p2), .val (.int p3), .val (.int p4), .val (.int p5), .unset, .unset, .unset, .unset, .unset, .unset, .unset] [(.int ((p1 &&& (255 : Int32)) % (12 : Int32)))])) _
    refine XS.iconst X0.here hx rfl (hb hby at_8) ?_
    show Steps p.tables e below (s₁.setTop (mkF m 9 #[.val (.int p1), .val (.int p2), .val (.int p3), .val (.int p4), .val (.int p5), .unset, .unset, .unset, .unset, .unset, .unset, .unset] [(.int (1 : Int32)), (.int ((p1 &&& (255 : Int32)) % (12 : Int32)))])) _
    refine XS.iadd X0.here hx rfl (hb hby at_9) rfl ?_
    rw [hp9]
    show Steps p.tables e below (s₁.setTop (mkF m 10 #[.val (.int p1), .val (.int p2), .val (.int p3), .val (.int p4), .val (.int p5), .unset, .unset, .unset, .unset, .unset, .unset, .unset] [(.int (Int32.ofNat n))])) _
    refine XS.istore X0.here hx rfl (hb hby at_10) rfl (l' := #[.val (.int p1), .val (.int p2), .val (.int p3), .val (.int p4), .val (.int p5), .val (.int (Int32.ofNat n)), .unset, .unset, .unset, .unset, .unset, .unset]) rfl ?_
    show Steps p.tables e below (s₁.setTop (mkF m 12 #[.val (.int p1), .val (.int p2), .val (.int p3), .val (.int p4), .val (.int p5), .val (.int (Int32.ofNat n)), .unset, .unset, .unset, .unset, .unset, .unset] [])) _
    refine XS.iloadN X0.here hx rfl (hb hby at_12) rfl ?_
    show Steps p.tables e below (s₁.setTop (mkF m 13 #[.val (.int p1), .val (.int p2), .val (.int p3), .val (.int p4), .val (.int p5), .val (.int (Int32.ofNat n)), .unset, .unset, .unset, .unset, .unset, .unset] [(.int p1)])) _
    refine XS.bipush X0.here hx rfl (hb hby at_13) ?_
    show Steps p.tables e below (s₁.setTop (mkF m 15 #[.val (.int p1), .val (.int p2), .val (.int p3), .val (.int p4), .val (.int p5), .val (.int (Int32.ofNat n)), .unset, .unset, .unset, .unset, .unset, .unset] [(.int (8 : Int32)), (.int p1)])) _
    refine XS.iushr X0.here hx rfl (hb hby at_15) rfl ?_
    show Steps p.tables e below (s₁.setTop (mkF m 16 #[.val (.int p1), .val (.int p2), .val (.int p3), .val (.int p4), .val (.int p5), .val (.int (Int32.ofNat n)), .unset, .unset, .unset, .unset, .unset, .unset] [(.int ((p1.toUInt32 >>> ((8 : Int32) &&& 31).toUInt32).toInt32))])) _
    refine XS.sipush X0.here hx rfl (hb hby at_16) ?_
    show Steps p.tables e below (s₁.setTop (mkF m 19 #[.val (.int p1), .val (.int p2), .val (.int p3), .val (.int p4), .val (.int p5), .val (.int (Int32.ofNat n)), .unset, .unset, .unset, .unset, .unset, .unset] [(.int (255 : Int32)), (.int ((p1.toUInt32 >>> ((8 : Int32) &&& 31).toUInt32).toInt32))])) _
    refine XS.iand X0.here hx rfl (hb hby at_19) rfl ?_
    show Steps p.tables e below (s₁.setTop (mkF m 20 #[.val (.int p1), .val (.int p2), .val (.int p3), .val (.int p4), .val (.int p5), .val (.int (Int32.ofNat n)), .unset, .unset, .unset, .unset, .unset, .unset] [(.int (((p1.toUInt32 >>> ((8 : Int32) &&& 31).toUInt32).toInt32) &&& (255 : Int32)))])) _
    refine XS.iload X0.here hx rfl (hb hby at_20) rfl ?_
    show Steps p.tables e below (s₁.setTop (mkF m 22 #[.val (.int p1), .val (.int p2), .val (.int p3), .val (.int p4), .val (.int p5), .val (.int (Int32.ofNat n)), .unset, .unset, .unset, .unset, .unset, .unset] [(.int (Int32.ofNat n)), (.int (((p1.toUInt32 >>> ((8 : Int32) &&& 31).toUInt32).toInt32) &&& (255 : Int32)))])) _
    refine iremM X0 hx rfl (hb hby at_22) rfl hnz22 ?_
    rw [hp22]
    show Steps p.tables e below (s₁.setTop (mkF m 23 #[.val (.int p1), .val (.int p2), .val (.int p3), .val (.int p4), .val (.int p5), .val (.int (Int32.ofNat n)), .unset, .unset, .unset, .unset, .unset, .unset] [(.int (Int32.ofNat pa))])) _
    refine XS.istore X0.here hx rfl (hb hby at_23) rfl (l' := #[.val (.int p1), .val (.int p2), .val (.int p3), .val (.int p4), .val (.int p5), .val (.int (Int32.ofNat n)), .val (.int (Int32.ofNat pa)), .unset, .unset, .unset, .unset, .unset]) rfl ?_
    show Steps p.tables e below (s₁.setTop (mkF m 25 #[.val (.int p1), .val (.int p2), .val (.int p3), .val (.int p4), .val (.int p5), .val (.int (Int32.ofNat n)), .val (.int (Int32.ofNat pa)), .unset, .unset, .unset, .unset, .unset] [])) _
    refine XS.iloadN X0.here hx rfl (hb hby at_25) rfl ?_
    show Steps p.tables e below (s₁.setTop (mkF m 26 #[.val (.int p1), .val (.int p2), .val (.int p3), .val (.int p4), .val (.int p5), .val (.int (Int32.ofNat n)), .val (.int (Int32.ofNat pa)), .unset, .unset, .unset, .unset, .unset] [(.int p1)])) _
    refine XS.bipush X0.here hx rfl (hb hby at_26) ?_
    show Steps p.tables e below (s₁.setTop (mkF m 28 #[.val (.int p1), .val (.int p2), .val (.int p3), .val (.int p4), .val (.int p5), .val (.int (Int32.ofNat n)), .val (.int (Int32.ofNat pa)), .unset, .unset, .unset, .unset, .unset] [(.int (16 : Int32)), (.int p1)])) _
    refine XS.iushr X0.here hx rfl (hb hby at_28) rfl ?_
    show Steps p.tables e below (s₁.setTop (mkF m 29 #[.val (.int p1), .val (.int p2), .val (.int p3), .val (.int p4), .val (.int p5), .val (.int (Int32.ofNat n)), .val (.int (Int32.ofNat pa)), .unset, .unset, .unset, .unset, .unset] [(.int ((p1.toUInt32 >>> ((16 : Int32) &&& 31).toUInt32).toInt32))])) _
    refine XS.sipush X0.here hx rfl (hb hby at_29) ?_
    show Steps p.tables e below (s₁.setTop (mkF m 32 #[.val (.int p1), .val (.int p2), .val (.int p3), .val (.int p4), .val (.int p5), .val (.int (Int32.ofNat n)), .val (.int (Int32.ofNat pa)), .unset, .unset, .unset, .unset, .unset] [(.int (255 : Int32)), (.int ((p1.toUInt32 >>> ((16 : Int32) &&& 31).toUInt32).toInt32))])) _
    refine XS.iand X0.here hx rfl (hb hby at_32) rfl ?_
    show Steps p.tables e below (s₁.setTop (mkF m 33 #[.val (.int p1), .val (.int p2), .val (.int p3), .val (.int p4), .val (.int p5), .val (.int (Int32.ofNat n)), .val (.int (Int32.ofNat pa)), .unset, .unset, .unset, .unset, .unset] [(.int (((p1.toUInt32 >>> ((16 : Int32) &&& 31).toUInt32).toInt32) &&& (255 : Int32)))])) _
    refine XS.iload X0.here hx rfl (hb hby at_33) rfl ?_
    show Steps p.tables e below (s₁.setTop (mkF m 35 #[.val (.int p1), .val (.int p2), .val (.int p3), .val (.int p4), .val (.int p5), .val (.int (Int32.ofNat n)), .val (.int (Int32.ofNat pa)), .unset, .unset, .unset, .unset, .unset] [(.int (Int32.ofNat n)), (.int (((p1.toUInt32 >>> ((16 : Int32) &&& 31).toUInt32).toInt32) &&& (255 : Int32)))])) _
    refine iremM X0 hx rfl (hb hby at_35) rfl hnz35 ?_
    rw [hp35]
    show Steps p.tables e below (s₁.setTop (mkF m 36 #[.val (.int p1), .val (.int p2), .val (.int p3), .val (.int p4), .val (.int p5), .val (.int (Int32.ofNat n)), .val (.int (Int32.ofNat pa)), .unset, .unset, .unset, .unset, .unset] [(.int (Int32.ofNat pb))])) _
    refine XS.istore X0.here hx rfl (hb hby at_36) rfl (l' := #[.val (.int p1), .val (.int p2), .val (.int p3), .val (.int p4), .val (.int p5), .val (.int (Int32.ofNat n)), .val (.int (Int32.ofNat pa)), .val (.int (Int32.ofNat pb)), .unset, .unset, .unset, .unset]) rfl ?_
    show Steps p.tables e below (s₁.setTop (mkF m 38 #[.val (.int p1), .val (.int p2), .val (.int p3), .val (.int p4), .val (.int p5), .val (.int (Int32.ofNat n)), .val (.int (Int32.ofNat pa)), .val (.int (Int32.ofNat pb)), .unset, .unset, .unset, .unset] [])) _
    refine XS.iloadN X0.here hx rfl (hb hby at_38) rfl ?_
    show Steps p.tables e below (s₁.setTop (mkF m 39 #[.val (.int p1), .val (.int p2), .val (.int p3), .val (.int p4), .val (.int p5), .val (.int (Int32.ofNat n)), .val (.int (Int32.ofNat pa)), .val (.int (Int32.ofNat pb)), .unset, .unset, .unset, .unset] [(.int p1)])) _
    refine XS.bipush X0.here hx rfl (hb hby at_39) ?_
    show Steps p.tables e below (s₁.setTop (mkF m 41 #[.val (.int p1), .val (.int p2), .val (.int p3), .val (.int p4), .val (.int p5), .val (.int (Int32.ofNat n)), .val (.int (Int32.ofNat pa)), .val (.int (Int32.ofNat pb)), .unset, .unset, .unset, .unset] [(.int (24 : Int32)), (.int p1)])) _
    refine XS.iushr X0.here hx rfl (hb hby at_41) rfl ?_
    show Steps p.tables e below (s₁.setTop (mkF m 42 #[.val (.int p1), .val (.int p2), .val (.int p3), .val (.int p4), .val (.int p5), .val (.int (Int32.ofNat n)), .val (.int (Int32.ofNat pa)), .val (.int (Int32.ofNat pb)), .unset, .unset, .unset, .unset] [(.int ((p1.toUInt32 >>> ((24 : Int32) &&& 31).toUInt32).toInt32))])) _
    refine XS.sipush X0.here hx rfl (hb hby at_42) ?_
    show Steps p.tables e below (s₁.setTop (mkF m 45 #[.val (.int p1), .val (.int p2), .val (.int p3), .val (.int p4), .val (.int p5), .val (.int (Int32.ofNat n)), .val (.int (Int32.ofNat pa)), .val (.int (Int32.ofNat pb)), .unset, .unset, .unset, .unset] [(.int (255 : Int32)), (.int ((p1.toUInt32 >>> ((24 : Int32) &&& 31).toUInt32).toInt32))])) _
    refine XS.iand X0.here hx rfl (hb hby at_45) rfl ?_
    show Steps p.tables e below (s₁.setTop (mkF m 46 #[.val (.int p1), .val (.int p2), .val (.int p3), .val (.int p4), .val (.int p5), .val (.int (Int32.ofNat n)), .val (.int (Int32.ofNat pa)), .val (.int (Int32.ofNat pb)), .unset, .unset, .unset, .unset] [(.int (((p1.toUInt32 >>> ((24 : Int32) &&& 31).toUInt32).toInt32) &&& (255 : Int32)))])) _
    refine XS.iload X0.here hx rfl (hb hby at_46) rfl ?_
    show Steps p.tables e below (s₁.setTop (mkF m 48 #[.val (.int p1), .val (.int p2), .val (.int p3), .val (.int p4), .val (.int p5), .val (.int (Int32.ofNat n)), .val (.int (Int32.ofNat pa)), .val (.int (Int32.ofNat pb)), .unset, .unset, .unset, .unset] [(.int (Int32.ofNat n)), (.int (((p1.toUInt32 >>> ((24 : Int32) &&& 31).toUInt32).toInt32) &&& (255 : Int32)))])) _
    refine iremM X0 hx rfl (hb hby at_48) rfl hnz48 ?_
    rw [hp48]
    show Steps p.tables e below (s₁.setTop (mkF m 49 #[.val (.int p1), .val (.int p2), .val (.int p3), .val (.int p4), .val (.int p5), .val (.int (Int32.ofNat n)), .val (.int (Int32.ofNat pa)), .val (.int (Int32.ofNat pb)), .unset, .unset, .unset, .unset] [(.int (Int32.ofNat pd))])) _
    refine XS.istore X0.here hx rfl (hb hby at_49) rfl (l' := #[.val (.int p1), .val (.int p2), .val (.int p3), .val (.int p4), .val (.int p5), .val (.int (Int32.ofNat n)), .val (.int (Int32.ofNat pa)), .val (.int (Int32.ofNat pb)), .val (.int (Int32.ofNat pd)), .unset, .unset, .unset]) rfl ?_
    show Steps p.tables e below (s₁.setTop (mkF m 51 #[.val (.int p1), .val (.int p2), .val (.int p3), .val (.int p4), .val (.int p5), .val (.int (Int32.ofNat n)), .val (.int (Int32.ofNat pa)), .val (.int (Int32.ofNat pb)), .val (.int (Int32.ofNat pd)), .unset, .unset, .unset] [])) _
    refine XS.iload X0.here hx rfl (hb hby at_51) rfl ?_
    show Steps p.tables e below (s₁.setTop (mkF m 53 #[.val (.int p1), .val (.int p2), .val (.int p3), .val (.int p4), .val (.int p5), .val (.int (Int32.ofNat n)), .val (.int (Int32.ofNat pa)), .val (.int (Int32.ofNat pb)), .val (.int (Int32.ofNat pd)), .unset, .unset, .unset] [(.int p5)])) _
    refine X0.ldcInt hx hown (mvT hZ (hw _ (List.mem_of_getElem? (i := 0) rfl))) (g := (mkF m 53 #[.val (.int p1), .val (.int p2), .val (.int p3), .val (.int p4), .val (.int p5), .val (.int (Int32.ofNat n)), .val (.int (Int32.ofNat pa)), .val (.int (Int32.ofNat pb)), .val (.int (Int32.ofNat pd)), .unset, .unset, .unset] [(.int p5)])) rfl (hb hby at_53) _ ?_
    show Steps p.tables e below (s₁.setTop (mkF m 55 #[.val (.int p1), .val (.int p2), .val (.int p3), .val (.int p4), .val (.int p5), .val (.int (Int32.ofNat n)), .val (.int (Int32.ofNat pa)), .val (.int (Int32.ofNat pb)), .val (.int (Int32.ofNat pd)), .unset, .unset, .unset] [(.int (2147483647 : Int32)), (.int p5)])) _
    refine XS.iand X0.here hx rfl (hb hby at_55) rfl ?_
    show Steps p.tables e below (s₁.setTop (mkF m 56 #[.val (.int p1), .val (.int p2), .val (.int p3), .val (.int p4), .val (.int p5), .val (.int (Int32.ofNat n)), .val (.int (Int32.ofNat pa)), .val (.int (Int32.ofNat pb)), .val (.int (Int32.ofNat pd)), .unset, .unset, .unset] [(.int (p5 &&& (2147483647 : Int32)))])) _
    refine XS.iload X0.here hx rfl (hb hby at_56) rfl ?_
    show Steps p.tables e below (s₁.setTop (mkF m 58 #[.val (.int p1), .val (.int p2), .val (.int p3), .val (.int p4), .val (.int p5), .val (.int (Int32.ofNat n)), .val (.int (Int32.ofNat pa)), .val (.int (Int32.ofNat pb)), .val (.int (Int32.ofNat pd)), .unset, .unset, .unset] [(.int (Int32.ofNat n)), (.int (p5 &&& (2147483647 : Int32)))])) _
    refine XS.iconst X0.here hx rfl (hb hby at_58) ?_
    show Steps p.tables e below (s₁.setTop (mkF m 59 #[.val (.int p1), .val (.int p2), .val (.int p3), .val (.int p4), .val (.int p5), .val (.int (Int32.ofNat n)), .val (.int (Int32.ofNat pa)), .val (.int (Int32.ofNat pb)), .val (.int (Int32.ofNat pd)), .unset, .unset, .unset] [(.int (1 : Int32)), (.int (Int32.ofNat n)), (.int (p5 &&& (2147483647 : Int32)))])) _
    refine XS.iadd X0.here hx rfl (hb hby at_59) rfl ?_
    show Steps p.tables e below (s₁.setTop (mkF m 60 #[.val (.int p1), .val (.int p2), .val (.int p3), .val (.int p4), .val (.int p5), .val (.int (Int32.ofNat n)), .val (.int (Int32.ofNat pa)), .val (.int (Int32.ofNat pb)), .val (.int (Int32.ofNat pd)), .unset, .unset, .unset] [(.int ((Int32.ofNat n) + (1 : Int32))), (.int (p5 &&& (2147483647 : Int32)))])) _
    refine iremM X0 hx rfl (hb hby at_60) rfl hnz60 ?_
    rw [hp60]
    show Steps p.tables e below (s₁.setTop (mkF m 61 #[.val (.int p1), .val (.int p2), .val (.int p3), .val (.int p4), .val (.int p5), .val (.int (Int32.ofNat n)), .val (.int (Int32.ofNat pa)), .val (.int (Int32.ofNat pb)), .val (.int (Int32.ofNat pd)), .unset, .unset, .unset] [(.int (Int32.ofNat q))])) _
    refine XS.istore X0.here hx rfl (hb hby at_61) rfl (l' := #[.val (.int p1), .val (.int p2), .val (.int p3), .val (.int p4), .val (.int p5), .val (.int (Int32.ofNat n)), .val (.int (Int32.ofNat pa)), .val (.int (Int32.ofNat pb)), .val (.int (Int32.ofNat pd)), .val (.int (Int32.ofNat q)), .unset, .unset]) rfl ?_
    show Steps p.tables e below (s₁.setTop (mkF m 63 #[.val (.int p1), .val (.int p2), .val (.int p3), .val (.int p4), .val (.int p5), .val (.int (Int32.ofNat n)), .val (.int (Int32.ofNat pa)), .val (.int (Int32.ofNat pb)), .val (.int (Int32.ofNat pd)), .val (.int (Int32.ofNat q)), .unset, .unset] [])) _
    refine st6 _ ?_
    show Steps p.tables e below (T6.setTop (mkF m 66 #[.val (.int p1), .val (.int p2), .val (.int p3), .val (.int p4), .val (.int p5), .val (.int (Int32.ofNat n)), .val (.int (Int32.ofNat pa)), .val (.int (Int32.ofNat pb)), .val (.int (Int32.ofNat pd)), .val (.int (Int32.ofNat q)), .unset, .unset] [(.ref b6)])) _
    refine XS.dup X6.here hx rfl (hb hby at_66) rfl rfl ?_
    show Steps p.tables e below (T6.setTop (mkF m 67 #[.val (.int p1), .val (.int p2), .val (.int p3), .val (.int p4), .val (.int p5), .val (.int (Int32.ofNat n)), .val (.int (Int32.ofNat pa)), .val (.int (Int32.ofNat pb)), .val (.int (Int32.ofNat pd)), .val (.int (Int32.ofNat q)), .unset, .unset] [(.ref b6), (.ref b6)])) _
    refine XS.iload X6.here hx rfl (hb hby at_67) rfl ?_
    show Steps p.tables e below (T6.setTop (mkF m 69 #[.val (.int p1), .val (.int p2), .val (.int p3), .val (.int p4), .val (.int p5), .val (.int (Int32.ofNat n)), .val (.int (Int32.ofNat pa)), .val (.int (Int32.ofNat pb)), .val (.int (Int32.ofNat pd)), .val (.int (Int32.ofNat q)), .unset, .unset] [(.int (Int32.ofNat n)), (.ref b6), (.ref b6)])) _
    refine st7.trans ?_
    show Steps p.tables e below (T7.setTop (mkF m 72 #[.val (.int p1), .val (.int p2), .val (.int p3), .val (.int p4), .val (.int p5), .val (.int (Int32.ofNat n)), .val (.int (Int32.ofNat pa)), .val (.int (Int32.ofNat pb)), .val (.int (Int32.ofNat pd)), .val (.int (Int32.ofNat q)), .unset, .unset] [(.ref b6)])) _
    refine XS.astore X7.here hx rfl (hb hby at_72) rfl rfl (l' := #[.val (.int p1), .val (.int p2), .val (.int p3), .val (.int p4), .val (.int p5), .val (.int (Int32.ofNat n)), .val (.int (Int32.ofNat pa)), .val (.int (Int32.ofNat pb)), .val (.int (Int32.ofNat pd)), .val (.int (Int32.ofNat q)), .val (.ref b6), .unset]) rfl ?_
    show Steps p.tables e below (T7.setTop (mkF m 74 #[.val (.int p1), .val (.int p2), .val (.int p3), .val (.int p4), .val (.int p5), .val (.int (Int32.ofNat n)), .val (.int (Int32.ofNat pa)), .val (.int (Int32.ofNat pb)), .val (.int (Int32.ofNat pd)), .val (.int (Int32.ofNat q)), .val (.ref b6), .unset] [])) _
    refine XS.aload X7.here hx rfl (hb hby at_74) rfl rfl ?_
    show Steps p.tables e below (T7.setTop (mkF m 76 #[.val (.int p1), .val (.int p2), .val (.int p3), .val (.int p4), .val (.int p5), .val (.int (Int32.ofNat n)), .val (.int (Int32.ofNat pa)), .val (.int (Int32.ofNat pb)), .val (.int (Int32.ofNat pd)), .val (.int (Int32.ofNat q)), .val (.ref b6), .unset] [(.ref b6)])) _
    refine XS.iload X7.here hx rfl (hb hby at_76) rfl ?_
    show Steps p.tables e below (T7.setTop (mkF m 78 #[.val (.int p1), .val (.int p2), .val (.int p3), .val (.int p4), .val (.int p5), .val (.int (Int32.ofNat n)), .val (.int (Int32.ofNat pa)), .val (.int (Int32.ofNat pb)), .val (.int (Int32.ofNat pd)), .val (.int (Int32.ofNat q)), .val (.ref b6), .unset] [(.int (Int32.ofNat pa)), (.ref b6)])) _
    refine XS.iloadN X7.here hx rfl (hb hby at_78) rfl ?_
    show Steps p.tables e below (T7.setTop (mkF m 79 #[.val (.int p1), .val (.int p2), .val (.int p3), .val (.int p4), .val (.int p5), .val (.int (Int32.ofNat n)), .val (.int (Int32.ofNat pa)), .val (.int (Int32.ofNat pb)), .val (.int (Int32.ofNat pd)), .val (.int (Int32.ofNat q)), .val (.ref b6), .unset] [(.int p2), (.int (Int32.ofNat pa)), (.ref b6)])) _
    refine st8.trans ?_
    show Steps p.tables e below (T8.setTop (mkF m 82 #[.val (.int p1), .val (.int p2), .val (.int p3), .val (.int p4), .val (.int p5), .val (.int (Int32.ofNat n)), .val (.int (Int32.ofNat pa)), .val (.int (Int32.ofNat pb)), .val (.int (Int32.ofNat pd)), .val (.int (Int32.ofNat q)), .val (.ref b6), .unset] [])) _
    refine XS.aload X8.here hx rfl (hb hby at_82) rfl rfl ?_
    show Steps p.tables e below (T8.setTop (mkF m 84 #[.val (.int p1), .val (.int p2), .val (.int p3), .val (.int p4), .val (.int p5), .val (.int (Int32.ofNat n)), .val (.int (Int32.ofNat pa)), .val (.int (Int32.ofNat pb)), .val (.int (Int32.ofNat pd)), .val (.int (Int32.ofNat q)), .val (.ref b6), .unset] [(.ref b6)])) _
    refine XS.iload X8.here hx rfl (hb hby at_84) rfl ?_
    show Steps p.tables e below (T8.setTop (mkF m 86 #[.val (.int p1), .val (.int p2), .val (.int p3), .val (.int p4), .val (.int p5), .val (.int (Int32.ofNat n)), .val (.int (Int32.ofNat pa)), .val (.int (Int32.ofNat pb)), .val (.int (Int32.ofNat pd)), .val (.int (Int32.ofNat q)), .val (.ref b6), .unset] [(.int (Int32.ofNat pb)), (.ref b6)])) _
    refine XS.iloadN X8.here hx rfl (hb hby at_86) rfl ?_
    show Steps p.tables e below (T8.setTop (mkF m 87 #[.val (.int p1), .val (.int p2), .val (.int p3), .val (.int p4), .val (.int p5), .val (.int (Int32.ofNat n)), .val (.int (Int32.ofNat pa)), .val (.int (Int32.ofNat pb)), .val (.int (Int32.ofNat pd)), .val (.int (Int32.ofNat q)), .val (.ref b6), .unset] [(.int p3), (.int (Int32.ofNat pb)), (.ref b6)])) _
    refine st9.trans ?_
    show Steps p.tables e below (T9.setTop (mkF m 90 #[.val (.int p1), .val (.int p2), .val (.int p3), .val (.int p4), .val (.int p5), .val (.int (Int32.ofNat n)), .val (.int (Int32.ofNat pa)), .val (.int (Int32.ofNat pb)), .val (.int (Int32.ofNat pd)), .val (.int (Int32.ofNat q)), .val (.ref b6), .unset] [])) _
    refine XS.aload X9.here hx rfl (hb hby at_90) rfl rfl ?_
    show Steps p.tables e below (T9.setTop (mkF m 92 #[.val (.int p1), .val (.int p2), .val (.int p3), .val (.int p4), .val (.int p5), .val (.int (Int32.ofNat n)), .val (.int (Int32.ofNat pa)), .val (.int (Int32.ofNat pb)), .val (.int (Int32.ofNat pd)), .val (.int (Int32.ofNat q)), .val (.ref b6), .unset] [(.ref b6)])) _
    refine XS.iload X9.here hx rfl (hb hby at_92) rfl ?_
    show Steps p.tables e below (T9.setTop (mkF m 94 #[.val (.int p1), .val (.int p2), .val (.int p3), .val (.int p4), .val (.int p5), .val (.int (Int32.ofNat n)), .val (.int (Int32.ofNat pa)), .val (.int (Int32.ofNat pb)), .val (.int (Int32.ofNat pd)), .val (.int (Int32.ofNat q)), .val (.ref b6), .unset] [(.int (Int32.ofNat pd)), (.ref b6)])) _
    refine XS.iloadN X9.here hx rfl (hb hby at_94) rfl ?_
    show Steps p.tables e below (T9.setTop (mkF m 95 #[.val (.int p1), .val (.int p2), .val (.int p3), .val (.int p4), .val (.int p5), .val (.int (Int32.ofNat n)), .val (.int (Int32.ofNat pa)), .val (.int (Int32.ofNat pb)), .val (.int (Int32.ofNat pd)), .val (.int (Int32.ofNat q)), .val (.ref b6), .unset] [(.int p4), (.int (Int32.ofNat pd)), (.ref b6)])) _
    refine st10.trans ?_
    show Steps p.tables e below (T10.setTop (mkF m 98 #[.val (.int p1), .val (.int p2), .val (.int p3), .val (.int p4), .val (.int p5), .val (.int (Int32.ofNat n)), .val (.int (Int32.ofNat pa)), .val (.int (Int32.ofNat pb)), .val (.int (Int32.ofNat pd)), .val (.int (Int32.ofNat q)), .val (.ref b6), .unset] [])) _
    refine XS.iconst X10.here hx rfl (hb hby at_98) ?_
    show Steps p.tables e below (T10.setTop (mkF m 99 #[.val (.int p1), .val (.int p2), .val (.int p3), .val (.int p4), .val (.int p5), .val (.int (Int32.ofNat n)), .val (.int (Int32.ofNat pa)), .val (.int (Int32.ofNat pb)), .val (.int (Int32.ofNat pd)), .val (.int (Int32.ofNat q)), .val (.ref b6), .unset] [(.int (0 : Int32))])) _
    refine XS.istore X10.here hx rfl (hb hby at_99) rfl (l' := #[.val (.int p1), .val (.int p2), .val (.int p3), .val (.int p4), .val (.int p5), .val (.int (Int32.ofNat n)), .val (.int (Int32.ofNat pa)), .val (.int (Int32.ofNat pb)), .val (.int (Int32.ofNat pd)), .val (.int (Int32.ofNat q)), .val (.ref b6), .val (.int (0 : Int32))]) rfl ?_
    show Steps p.tables e below (T10.setTop (mkF m 101 #[.val (.int p1), .val (.int p2), .val (.int p3), .val (.int p4), .val (.int p5), .val (.int (Int32.ofNat n)), .val (.int (Int32.ofNat pa)), .val (.int (Int32.ofNat pb)), .val (.int (Int32.ofNat pd)), .val (.int (Int32.ofNat q)), .val (.ref b6), .val (.int (0 : Int32))] [])) _
    refine XS.iload X10.here hx rfl (hb hby at_101) rfl ?_
    show Steps p.tables e below (T10.setTop (mkF m 103 #[.val (.int p1), .val (.int p2), .val (.int p3), .val (.int p4), .val (.int p5), .val (.int (Int32.ofNat n)), .val (.int (Int32.ofNat pa)), .val (.int (Int32.ofNat pb)), .val (.int (Int32.ofNat pd)), .val (.int (Int32.ofNat q)), .val (.ref b6), .val (.int (0 : Int32))] [(.int (Int32.ofNat pa))])) _
    refine XS.iload X10.here hx rfl (hb hby at_103) rfl ?_
    show Steps p.tables e below (T10.setTop (mkF m 105 #[.val (.int p1), .val (.int p2), .val (.int p3), .val (.int p4), .val (.int p5), .val (.int (Int32.ofNat n)), .val (.int (Int32.ofNat pa)), .val (.int (Int32.ofNat pb)), .val (.int (Int32.ofNat pd)), .val (.int (Int32.ofNat q)), .val (.ref b6), .val (.int (0 : Int32))] [(.int (Int32.ofNat q)), (.int (Int32.ofNat pa))])) _
    refine XS.icmpNo X10.here hx rfl (hb hby at_105) rfl (tlt hc105).2.1 ?_
    show Steps p.tables e below (T10.setTop (mkF m 108 #[.val (.int p1), .val (.int p2), .val (.int p3), .val (.int p4), .val (.int p5), .val (.int (Int32.ofNat n)), .val (.int (Int32.ofNat pa)), .val (.int (Int32.ofNat pb)), .val (.int (Int32.ofNat pd)), .val (.int (Int32.ofNat q)), .val (.ref b6), .val (.int (0 : Int32))] [])) _
    refine XS.iload X10.here hx rfl (hb hby at_108) rfl ?_
    show Steps p.tables e below (T10.setTop (mkF m 110 #[.val (.int p1), .val (.int p2), .val (.int p3), .val (.int p4), .val (.int p5), .val (.int (Int32.ofNat n)), .val (.int (Int32.ofNat pa)), .val (.int (Int32.ofNat pb)), .val (.int (Int32.ofNat pd)), .val (.int (Int32.ofNat q)), .val (.ref b6), .val (.int (0 : Int32))] [(.int (0 : Int32))])) _
    refine XS.iloadN X10.here hx rfl (hb hby at_110) rfl ?_
    show Steps p.tables e below (T10.setTop (mkF m 111 #[.val (.int p1), .val (.int p2), .val (.int p3), .val (.int p4), .val (.int p5), .val (.int (Int32.ofNat n)), .val (.int (Int32.ofNat pa)), .val (.int (Int32.ofNat pb)), .val (.int (Int32.ofNat pd)), .val (.int (Int32.ofNat q)), .val (.ref b6), .val (.int (0 : Int32))] [(.int p2), (.int (0 : Int32))])) _
    refine XS.iadd X10.here hx rfl (hb hby at_111) rfl ?_
    show Steps p.tables e below (T10.setTop (mkF m 112 #[.val (.int p1), .val (.int p2), .val (.int p3), .val (.int p4), .val (.int p5), .val (.int (Int32.ofNat n)), .val (.int (Int32.ofNat pa)), .val (.int (Int32.ofNat pb)), .val (.int (Int32.ofNat pd)), .val (.int (Int32.ofNat q)), .val (.ref b6), .val (.int (0 : Int32))] [(.int ((0 : Int32) + p2))])) _
    refine XS.istore X10.here hx rfl (hb hby at_112) rfl (l' := #[.val (.int p1), .val (.int p2), .val (.int p3), .val (.int p4), .val (.int p5), .val (.int (Int32.ofNat n)), .val (.int (Int32.ofNat pa)), .val (.int (Int32.ofNat pb)), .val (.int (Int32.ofNat pd)), .val (.int (Int32.ofNat q)), .val (.ref b6), .val (.int ((0 : Int32) + p2))]) rfl ?_
    show Steps p.tables e below (T10.setTop (mkF m 114 #[.val (.int p1), .val (.int p2), .val (.int p3), .val (.int p4), .val (.int p5), .val (.int (Int32.ofNat n)), .val (.int (Int32.ofNat pa)), .val (.int (Int32.ofNat pb)), .val (.int (Int32.ofNat pd)), .val (.int (Int32.ofNat q)), .val (.ref b6), .val (.int ((0 : Int32) + p2))] [])) _
    refine XS.iload X10.here hx rfl (hb hby at_114) rfl ?_
    show Steps p.tables e below (T10.setTop (mkF m 116 #[.val (.int p1), .val (.int p2), .val (.int p3), .val (.int p4), .val (.int p5), .val (.int (Int32.ofNat n)), .val (.int (Int32.ofNat pa)), .val (.int (Int32.ofNat pb)), .val (.int (Int32.ofNat pd)), .val (.int (Int32.ofNat q)), .val (.ref b6), .val (.int ((0 : Int32) + p2))] [(.int (Int32.ofNat pb))])) _
    refine XS.iload X10.here hx rfl (hb hby at_116) rfl ?_
    show Steps p.tables e below (T10.setTop (mkF m 118 #[.val (.int p1), .val (.int p2), .val (.int p3), .val (.int p4), .val (.int p5), .val (.int (Int32.ofNat n)), .val (.int (Int32.ofNat pa)), .val (.int (Int32.ofNat pb)), .val (.int (Int32.ofNat pd)), .val (.int (Int32.ofNat q)), .val (.ref b6), .val (.int ((0 : Int32) + p2))] [(.int (Int32.ofNat q)), (.int (Int32.ofNat pb))])) _
    refine XS.icmpNo X10.here hx rfl (hb hby at_118) rfl (tlt hc118).2.1 ?_
    show Steps p.tables e below (T10.setTop (mkF m 121 #[.val (.int p1), .val (.int p2), .val (.int p3), .val (.int p4), .val (.int p5), .val (.int (Int32.ofNat n)), .val (.int (Int32.ofNat pa)), .val (.int (Int32.ofNat pb)), .val (.int (Int32.ofNat pd)), .val (.int (Int32.ofNat q)), .val (.ref b6), .val (.int ((0 : Int32) + p2))] [])) _
    refine XS.iload X10.here hx rfl (hb hby at_121) rfl ?_
    show Steps p.tables e below (T10.setTop (mkF m 123 #[.val (.int p1), .val (.int p2), .val (.int p3), .val (.int p4), .val (.int p5), .val (.int (Int32.ofNat n)), .val (.int (Int32.ofNat pa)), .val (.int (Int32.ofNat pb)), .val (.int (Int32.ofNat pd)), .val (.int (Int32.ofNat q)), .val (.ref b6), .val (.int ((0 : Int32) + p2))] [(.int ((0 : Int32) + p2))])) _
    refine XS.iloadN X10.here hx rfl (hb hby at_123) rfl ?_
    show Steps p.tables e below (T10.setTop (mkF m 124 #[.val (.int p1), .val (.int p2), .val (.int p3), .val (.int p4), .val (.int p5), .val (.int (Int32.ofNat n)), .val (.int (Int32.ofNat pa)), .val (.int (Int32.ofNat pb)), .val (.int (Int32.ofNat pd)), .val (.int (Int32.ofNat q)), .val (.ref b6), .val (.int ((0 : Int32) + p2))] [(.int p3), (.int ((0 : Int32) + p2))])) _
    refine XS.iadd X10.here hx rfl (hb hby at_124) rfl ?_
    show Steps p.tables e below (T10.setTop (mkF m 125 #[.val (.int p1), .val (.int p2), .val (.int p3), .val (.int p4), .val (.int p5), .val (.int (Int32.ofNat n)), .val (.int (Int32.ofNat pa)), .val (.int (Int32.ofNat pb)), .val (.int (Int32.ofNat pd)), .val (.int (Int32.ofNat q)), .val (.ref b6), .val (.int ((0 : Int32) + p2))] [(.int (((0 : Int32) + p2) + p3))])) _
    refine XS.istore X10.here hx rfl (hb hby at_125) rfl (l' := #[.val (.int p1), .val (.int p2), .val (.int p3), .val (.int p4), .val (.int p5), .val (.int (Int32.ofNat n)), .val (.int (Int32.ofNat pa)), .val (.int (Int32.ofNat pb)), .val (.int (Int32.ofNat pd)), .val (.int (Int32.ofNat q)), .val (.ref b6), .val (.int (((0 : Int32) + p2) + p3))]) rfl ?_
    show Steps p.tables e below (T10.setTop (mkF m 127 #[.val (.int p1), .val (.int p2), .val (.int p3), .val (.int p4), .val (.int p5), .val (.int (Int32.ofNat n)), .val (.int (Int32.ofNat pa)), .val (.int (Int32.ofNat pb)), .val (.int (Int32.ofNat pd)), .val (.int (Int32.ofNat q)), .val (.ref b6), .val (.int (((0 : Int32) + p2) + p3))] [])) _
    refine XS.iload X10.here hx rfl (hb hby at_127) rfl ?_
    show Steps p.tables e below (T10.setTop (mkF m 129 #[.val (.int p1), .val (.int p2), .val (.int p3), .val (.int p4), .val (.int p5), .val (.int (Int32.ofNat n)), .val (.int (Int32.ofNat pa)), .val (.int (Int32.ofNat pb)), .val (.int (Int32.ofNat pd)), .val (.int (Int32.ofNat q)), .val (.ref b6), .val (.int (((0 : Int32) + p2) + p3))] [(.int (Int32.ofNat pd))])) _
    refine XS.iload X10.here hx rfl (hb hby at_129) rfl ?_
    show Steps p.tables e below (T10.setTop (mkF m 131 #[.val (.int p1), .val (.int p2), .val (.int p3), .val (.int p4), .val (.int p5), .val (.int (Int32.ofNat n)), .val (.int (Int32.ofNat pa)), .val (.int (Int32.ofNat pb)), .val (.int (Int32.ofNat pd)), .val (.int (Int32.ofNat q)), .val (.ref b6), .val (.int (((0 : Int32) + p2) + p3))] [(.int (Int32.ofNat q)), (.int (Int32.ofNat pd))])) _
    refine XS.icmpNo X10.here hx rfl (hb hby at_131) rfl (tlt hc131).2.1 ?_
    show Steps p.tables e below (T10.setTop (mkF m 134 #[.val (.int p1), .val (.int p2), .val (.int p3), .val (.int p4), .val (.int p5), .val (.int (Int32.ofNat n)), .val (.int (Int32.ofNat pa)), .val (.int (Int32.ofNat pb)), .val (.int (Int32.ofNat pd)), .val (.int (Int32.ofNat q)), .val (.ref b6), .val (.int (((0 : Int32) + p2) + p3))] [])) _
    refine XS.iload X10.here hx rfl (hb hby at_134) rfl ?_
    show Steps p.tables e below (T10.setTop (mkF m 136 #[.val (.int p1), .val (.int p2), .val (.int p3), .val (.int p4), .val (.int p5), .val (.int (Int32.ofNat n)), .val (.int (Int32.ofNat pa)), .val (.int (Int32.ofNat pb)), .val (.int (Int32.ofNat pd)), .val (.int (Int32.ofNat q)), .val (.ref b6), .val (.int (((0 : Int32) + p2) + p3))] [(.int (((0 : Int32) + p2) + p3))])) _
    refine XS.iloadN X10.here hx rfl (hb hby at_136) rfl ?_
    show Steps p.tables e below (T10.setTop (mkF m 137 #[.val (.int p1), .val (.int p2), .val (.int p3), .val (.int p4), .val (.int p5), .val (.int (Int32.ofNat n)), .val (.int (Int32.ofNat pa)), .val (.int (Int32.ofNat pb)), .val (.int (Int32.ofNat pd)), .val (.int (Int32.ofNat q)), .val (.ref b6), .val (.int (((0 : Int32) + p2) + p3))] [(.int p4), (.int (((0 : Int32) + p2) + p3))])) _
    refine XS.iadd X10.here hx rfl (hb hby at_137) rfl ?_
    show Steps p.tables e below (T10.setTop (mkF m 138 #[.val (.int p1), .val (.int p2), .val (.int p3), .val (.int p4), .val (.int p5), .val (.int (Int32.ofNat n)), .val (.int (Int32.ofNat pa)), .val (.int (Int32.ofNat pb)), .val (.int (Int32.ofNat pd)), .val (.int (Int32.ofNat q)), .val (.ref b6), .val (.int (((0 : Int32) + p2) + p3))] [(.int ((((0 : Int32) + p2) + p3) + p4))])) _
    refine XS.istore X10.here hx rfl (hb hby at_138) rfl (l' := #[.val (.int p1), .val (.int p2), .val (.int p3), .val (.int p4), .val (.int p5), .val (.int (Int32.ofNat n)), .val (.int (Int32.ofNat pa)), .val (.int (Int32.ofNat pb)), .val (.int (Int32.ofNat pd)), .val (.int (Int32.ofNat q)), .val (.ref b6), .val (.int ((((0 : Int32) + p2) + p3) + p4))]) rfl ?_
    show Steps p.tables e below (T10.setTop (mkF m 140 #[.val (.int p1), .val (.int p2), .val (.int p3), .val (.int p4), .val (.int p5), .val (.int (Int32.ofNat n)), .val (.int (Int32.ofNat pa)), .val (.int (Int32.ofNat pb)), .val (.int (Int32.ofNat pd)), .val (.int (Int32.ofNat q)), .val (.ref b6), .val (.int ((((0 : Int32) + p2) + p3) + p4))] [])) _
    refine XS.aload X10.here hx rfl (hb hby at_140) rfl rfl ?_
    show Steps p.tables e below (T10.setTop (mkF m 142 #[.val (.int p1), .val (.int p2), .val (.int p3), .val (.int p4), .val (.int p5), .val (.int (Int32.ofNat n)), .val (.int (Int32.ofNat pa)), .val (.int (Int32.ofNat pb)), .val (.int (Int32.ofNat pd)), .val (.int (Int32.ofNat q)), .val (.ref b6), .val (.int ((((0 : Int32) + p2) + p3) + p4))] [(.ref b6)])) _
    refine XS.iload X10.here hx rfl (hb hby at_142) rfl ?_
    show Steps p.tables e below (T10.setTop (mkF m 144 #[.val (.int p1), .val (.int p2), .val (.int p3), .val (.int p4), .val (.int p5), .val (.int (Int32.ofNat n)), .val (.int (Int32.ofNat pa)), .val (.int (Int32.ofNat pb)), .val (.int (Int32.ofNat pd)), .val (.int (Int32.ofNat q)), .val (.ref b6), .val (.int ((((0 : Int32) + p2) + p3) + p4))] [(.int (Int32.ofNat q)), (.ref b6)])) _
    refine st11.trans ?_
    show Steps p.tables e below (T11.setTop (mkF m 147 #[.val (.int p1), .val (.int p2), .val (.int p3), .val (.int p4), .val (.int p5), .val (.int (Int32.ofNat n)), .val (.int (Int32.ofNat pa)), .val (.int (Int32.ofNat pb)), .val (.int (Int32.ofNat pd)), .val (.int (Int32.ofNat q)), .val (.ref b6), .val (.int ((((0 : Int32) + p2) + p3) + p4))] [(.int (own_sum (own_down 6 q) (own_adds (own_up 6 (n + 1) (pd + 1)) p4 (own_adds (own_up 6 (n + 1) (pb + 1)) p3 (own_adds (own_up 6 (n + 1) (pa + 1)) p2 (fun _ => 0)))) 0))])) _
    refine XS.iload X11.here hx rfl (hb hby at_147) rfl ?_
    show Steps p.tables e below (T11.setTop (mkF m 149 #[.val (.int p1), .val (.int p2), .val (.int p3), .val (.int p4), .val (.int p5), .val (.int (Int32.ofNat n)), .val (.int (Int32.ofNat pa)), .val (.int (Int32.ofNat pb)), .val (.int (Int32.ofNat pd)), .val (.int (Int32.ofNat q)), .val (.ref b6), .val (.int ((((0 : Int32) + p2) + p3) + p4))] [(.int ((((0 : Int32) + p2) + p3) + p4)), (.int (own_sum (own_down 6 q) (own_adds (own_up 6 (n + 1) (pd + 1)) p4 (own_adds (own_up 6 (n + 1) (pb + 1)) p3 (own_adds (own_up 6 (n + 1) (pa + 1)) p2 (fun _ => 0)))) 0))])) _
    refine XS.icmpNo X11.here hx rfl (hb hby at_149) rfl (teq (own_ok : (own_sum (own_down 6 q) (own_adds (own_up 6 (n + 1) (pd + 1)) p4 (own_adds (own_up 6 (n + 1) (pb + 1)) p3 (own_adds (own_up 6 (n + 1) (pa + 1)) p2 (fun _ => 0)))) 0) = ((((0 : Int32) + p2) + p3) + p4))).2 ?_
    show Steps p.tables e below (T11.setTop (mkF m 152 #[.val (.int p1), .val (.int p2), .val (.int p3), .val (.int p4), .val (.int p5), .val (.int (Int32.ofNat n)), .val (.int (Int32.ofNat pa)), .val (.int (Int32.ofNat pb)), .val (.int (Int32.ofNat pd)), .val (.int (Int32.ofNat q)), .val (.ref b6), .val (.int ((((0 : Int32) + p2) + p3) + p4))] [])) _
    refine XS.iconst X11.here hx rfl (hb hby at_152) ?_
    show Steps p.tables e below (T11.setTop (mkF m 153 #[.val (.int p1), .val (.int p2), .val (.int p3), .val (.int p4), .val (.int p5), .val (.int (Int32.ofNat n)), .val (.int (Int32.ofNat pa)), .val (.int (Int32.ofNat pb)), .val (.int (Int32.ofNat pd)), .val (.int (Int32.ofNat q)), .val (.ref b6), .val (.int ((((0 : Int32) + p2) + p3) + p4))] [(.int (1 : Int32))])) _
    refine XS.goto X11.here hx rfl (pc0 := 153) (pc' := 157) rfl (hb hby at_153) (by decide) (by decide) ?_
    show Steps p.tables e below (T11.setTop (mkF m 157 #[.val (.int p1), .val (.int p2), .val (.int p3), .val (.int p4), .val (.int p5), .val (.int (Int32.ofNat n)), .val (.int (Int32.ofNat pa)), .val (.int (Int32.ofNat pb)), .val (.int (Int32.ofNat pd)), .val (.int (Int32.ofNat q)), .val (.ref b6), .val (.int ((((0 : Int32) + p2) + p3) + p4))] [(.int (1 : Int32))])) _
    exact retN X11 hx (t := .boolean) Bd.returns (by simp) (hb hby at_157) hr
  · show Q0_ffff Z p1 p2 p3 p4 p5 h0 n0 _ T11.heap _
    exact ⟨rfl, N11⟩
def Q0_fftf (Z : State) (p1 : Int32) (p2 : Int32) (p3 : Int32) (p4 : Int32) (p5 : Int32) (h0 : Heap) (n0 : Nat) (v : Option Value) (h : Heap) (L : List Loc) : Prop := v = some (.int (1 : Int32)) ∧ Fr n0 L
set_option maxRecDepth 65536 in
set_option maxHeartbeats 40000000 in
theorem rm0_fftf (l : Launch) (Z : State) (a0 : Array Value) (hw : ∀ d ∈ tables_1, d.before a0 Z = true) (ws : List Jvm.Cond) (p1 : Int32) (p2 : Int32) (p3 : Int32) (p4 : Int32) (p5 : Int32) (n pa pb pd q : Nat) (h0 : Heap) (n0 : Nat) (Z0 : n0 ≤ h0.size) (hn : n ≤ 16) (hpa : pa < n) (hpb : pb < n) (hpd : pd < n) (hq : q ≤ n) (hp9 : (((p1 &&& (255 : Int32)) % (12 : Int32)) + (1 : Int32)) = (Int32.ofNat n)) (hp22 : ((((p1.toUInt32 >>> ((8 : Int32) &&& 31).toUInt32).toInt32) &&& (255 : Int32)) % (Int32.ofNat n)) = (Int32.ofNat pa)) (hp35 : ((((p1.toUInt32 >>> ((16 : Int32) &&& 31).toUInt32).toInt32) &&& (255 : Int32)) % (Int32.ofNat n)) = (Int32.ofNat pb)) (hp48 : ((((p1.toUInt32 >>> ((24 : Int32) &&& 31).toUInt32).toInt32) &&& (255 : Int32)) % (Int32.ofNat n)) = (Int32.ofNat pd)) (hp60 : ((p5 &&& (2147483647 : Int32)) % ((Int32.ofNat n) + (1 : Int32))) = (Int32.ofNat q)) (hc105 : (Int32.ofNat pa) < (Int32.ofNat q)) (hc118 : (Int32.ofNat pb) < (Int32.ofNat q)) (hc131 : ¬ ((Int32.ofNat pd) < (Int32.ofNat q))) :
    MetFree l x (head1 (Jvm.Cond.code x code maxLocals ret :: ws) room_1) (fun a U => a = #[(.int p1), (.int p2), (.int p3), (.int p4), (.int p5)] ∧ Z.Warmed39 U.vm ∧ U.heap = h0) (fun _ _ _ _ _ => True) (fun _ U o U' => ∃ v L, o = .returned v ∧ Q0_fftf Z p1 p2 p3 p4 p5 h0 n0 v U'.heap L ∧ FrameEnd U o U' L room_1.cells room_1.slots) := by
  refine MetFree.of_bodySF (plainFor_of_name pn_0) hisR ?_
  intro p e s m args below meth c s₁ Bd hml0 hP hK
  obtain ⟨rfl, hZ, hh⟩ := hP
  have hnz22 : Int32.ofNat n ≠ (0 : Int32) := own_nz (by omega) (by omega)
  have hnz35 := hnz22
  have hnz48 := hnz22
  have hnz60 : Int32.ofNat n + (1 : Int32) ≠ (0 : Int32) := by rw [own_one]; exact own_nz (by omega) (by omega)
  have hx := Bd.exec
  have hby := Bd.bytes
  have hml : c.maxLocals = 12 := hml0
  have hown : s.vm.findClass "com/example/tallykeep/tallykeep/core/PrefixCountsBelowPinLaw" = some m.cls := findClass_of_methodNamed Bd.named
  have hnm := (name_of_methodNamed Bd.named Bd.method).1
  have X0 : Stand p l e room_1 s m #[(.int p1), (.int p2), (.int p3), (.int p4), (.int p5)] below meth c s₁ [] 0 0 := Stand.of_body Bd
  have e0 : s₁.heap = h0 := by rw [← hh, Bd.state]; rfl
  have N0 := Fr.nil n0
  have pre0 : ∀ t, Steps p.tables e below (s₁.setTop (mkF m 0 #[.val (.int p1), .val (.int p2), .val (.int p3), .val (.int p4), .val (.int p5), .unset, .unset, .unset, .unset, .unset, .unset, .unset] [])) t → Steps p.tables e below (s₁.setTop (entryFrame m #[(.int p1), (.int p2), (.int p3), (.int p4), (.int p5)] maxLocals)) t := fun t k => castTop (ef_0 m p1 p2 p3 p4 p5) k
  obtain ⟨T6, h6, X6, e6, E6, A6, D6, -, st6⟩ := newO X0 hx hZ hown (hw _ (List.mem_of_getElem? (i := 1) rfl)) (hw _ (List.mem_of_getElem? (i := 2) rfl)) (hw _ (List.mem_of_getElem? (i := 3) rfl)) e0 (g := (mkF m 63 #[.val (.int p1), .val (.int p2), .val (.int p3), .val (.int p4), .val (.int p5), .val (.int (Int32.ofNat n)), .val (.int (Int32.ofNat pa)), .val (.int (Int32.ofNat pb)), .val (.int (Int32.ofNat pd)), .val (.int (Int32.ofNat q)), .unset, .unset] [])) rfl (hb hby at_63) (by decide) (by decide)
  obtain ⟨b6, g6⟩ : ∃ z, z = h0.size := ⟨_, rfl⟩
  rw [← g6] at A6 D6 st6
  have F_cells_b6 : Fld Z h6 b6 "com/example/tallykeep/tallykeep/core/PrefixCounts" "cells" "[I" .null := D6 (Or.inr (hw _ (List.mem_of_getElem? (i := 12) rfl))) (ty := (.array .int)) (by decide)
  have E_b6 := A6
  have g_b6 : n0 ≤ b6 := Nat.le_trans Z0 (Nat.le_of_eq g6.symm)
  have sz_b6 : h0.size ≤ b6 := (Nat.le_trans (Keep.refl h0 []).1 (Nat.le_of_eq g6.symm))
  have K6 : Keep h0 h6 [] := (Keep.refl h0 []).ext E6
  obtain ⟨_, _, ⟨T7, L7, k7, n7⟩, -, X7, ⟨Lc7, hQ7, l7, y7, z7⟩, st7⟩ := X6.specialBack hx (y := (⟨"com/example/tallykeep/tallykeep/core/PrefixCounts", "<init>", "(I)V"⟩ : MethodName)) rfl hown (mvT hZ (hw _ (List.mem_of_getElem? (i := 4) rfl))) (mvT hZ (hw _ (List.mem_of_getElem? (i := 5) rfl))) (mvT hZ (hw _ (List.mem_of_getElem? (i := 6) rfl))) (by decide) (backOf (W := 1) (rm1 l Z a0 hw [] b6 n .null h6 n0 (Nat.le_trans Z0 K6.1) E_b6 F_cells_b6 g_b6 hn) hZ (hw _ (List.mem_of_getElem? (i := 6) rfl)) (hw _ (List.mem_of_getElem? (i := 3) rfl)) (by decide) (by decide)) (g := (mkF m 69 #[.val (.int p1), .val (.int p2), .val (.int p3), .val (.int p4), .val (.int p5), .val (.int (Int32.ofNat n)), .val (.int (Int32.ofNat pa)), .val (.int (Int32.ofNat pb)), .val (.int (Int32.ofNat pd)), .val (.int (Int32.ofNat q)), .unset, .unset] [(.int (Int32.ofNat n)), (.ref b6), (.ref b6)])) rfl (by rw [hml]; rfl) (Steps.refl _) (a := b6) (argsL := [(.int (Int32.ofNat n))]) (rest := [(.ref b6)]) (lenOf pd_0_0 rfl) rfl (by show 2 * 0 + _ ≤ _; exact Nat.le_of_eq rfl) (hb hby at_69) (fun _ _ => ⟨rfl, e6, (Nat.le_of_ble_eq_true rfl), (Nat.le_of_ble_eq_true rfl)⟩)
  dsimp only [Pt.U, Pt.locs, Pt.cells, Pt.slots] at X7 l7 y7 z7 st7 hQ7
  subst l7 y7 z7
  obtain ⟨rfl, N7q, K7c, E7c, bC, szC, FC, VC⟩ := hQ7
  have g_bC : n0 ≤ bC := Nat.le_trans (Nat.le_trans Z0 K6.1) szC
  have ne_oC : b6 ≠ bC := Nat.ne_of_lt (Nat.lt_of_lt_of_le E_b6.lt szC)
  have Z7 : n0 ≤ T7.heap.size := Nat.le_trans (Nat.le_trans Z0 K6.1) K7c.1
  have N7 := Fr.app N0 N7q
  obtain ⟨cq8, kq8, q8a, q8b, q8c⟩ := isOf hZ rfl (E_b6.keep K7c)
  obtain ⟨_, _, ⟨T8, L8, k8, n8⟩, -, X8, ⟨Lc8, hQ8, l8, y8, z8⟩, st8⟩ := X7.virtualBack hx (y := (⟨"com/example/tallykeep/tallykeep/core/PrefixCounts", "add", "(II)V"⟩ : MethodName)) (z := (⟨"com/example/tallykeep/tallykeep/core/PrefixCounts", "add", "(II)V"⟩ : MethodName)) hown (mvT hZ (hw _ (List.mem_of_getElem? (i := 13) rfl))) (mvT hZ (hw _ (List.mem_of_getElem? (i := 14) rfl))) (notFace_of_selects (args := #[]) (mvT hZ (hw _ (List.mem_of_getElem? (i := 16) rfl)))) (mvT hZ (hw _ (List.mem_of_getElem? (i := 16) rfl))) (mvT hZ (hw _ (List.mem_of_getElem? (i := 15) rfl))) (by decide) (backOf (W := 0) (rm3 l Z a0 hw [] b6 pa p2 bC (n + 1) _ T7.heap n0 Z7 FC VC (by omega) (by omega) g_bC ne_oC) hZ (hw _ (List.mem_of_getElem? (i := 17) rfl)) (hw _ (List.mem_of_getElem? (i := 3) rfl)) (by decide) (by decide)) q8a q8c (g := (mkF m 79 #[.val (.int p1), .val (.int p2), .val (.int p3), .val (.int p4), .val (.int p5), .val (.int (Int32.ofNat n)), .val (.int (Int32.ofNat pa)), .val (.int (Int32.ofNat pb)), .val (.int (Int32.ofNat pd)), .val (.int (Int32.ofNat q)), .val (.ref b6), .unset] [(.int p2), (.int (Int32.ofNat pa)), (.ref b6)])) rfl (by rw [hml]; rfl) (Steps.refl _) (argsL := [(.int (Int32.ofNat pa)), (.int p2)]) (rest := []) (lenOf pd_0_2 rfl) rfl (by show 2 * 0 + _ ≤ _; exact Nat.le_of_eq rfl) (hb hby at_79) (fun _ _ => ⟨rfl, rfl, (Nat.le_of_ble_eq_true rfl), (Nat.le_of_ble_eq_true rfl)⟩)
  dsimp only [Pt.U, Pt.locs, Pt.cells, Pt.slots] at X8 l8 y8 z8 st8 hQ8
  subst l8 y8 z8
  obtain ⟨rfl, N8q, K8c, V8c⟩ := hQ8
  have F8c := FC.keep K8c (ninS ne_oC nin0)
  have Z8 : n0 ≤ T8.heap.size := Nat.le_trans Z7 K8c.1
  have N8 := Fr.app N7 N8q
  obtain ⟨cq9, kq9, q9a, q9b, q9c⟩ := isOf hZ rfl ((E_b6.keep K7c).keep K8c)
  obtain ⟨_, _, ⟨T9, L9, k9, n9⟩, -, X9, ⟨Lc9, hQ9, l9, y9, z9⟩, st9⟩ := X8.virtualBack hx (y := (⟨"com/example/tallykeep/tallykeep/core/PrefixCounts", "add", "(II)V"⟩ : MethodName)) (z := (⟨"com/example/tallykeep/tallykeep/core/PrefixCounts", "add", "(II)V"⟩ : MethodName)) hown (mvT hZ (hw _ (List.mem_of_getElem? (i := 13) rfl))) (mvT hZ (hw _ (List.mem_of_getElem? (i := 14) rfl))) (notFace_of_selects (args := #[]) (mvT hZ (hw _ (List.mem_of_getElem? (i := 16) rfl)))) (mvT hZ (hw _ (List.mem_of_getElem? (i := 16) rfl))) (mvT hZ (hw _ (List.mem_of_getElem? (i := 15) rfl))) (by decide) (backOf (W := 0) (rm3 l Z a0 hw [] b6 pb p3 bC (n + 1) _ T8.heap n0 Z8 F8c V8c (by omega) (by omega) g_bC ne_oC) hZ (hw _ (List.mem_of_getElem? (i := 17) rfl)) (hw _ (List.mem_of_getElem? (i := 3) rfl)) (by decide) (by decide)) q9a q9c (g := (mkF m 87 #[.val (.int p1), .val (.int p2), .val (.int p3), .val (.int p4), .val (.int p5), .val (.int (Int32.ofNat n)), .val (.int (Int32.ofNat pa)), .val (.int (Int32.ofNat pb)), .val (.int (Int32.ofNat pd)), .val (.int (Int32.ofNat q)), .val (.ref b6), .unset] [(.int p3), (.int (Int32.ofNat pb)), (.ref b6)])) rfl (by rw [hml]; rfl) (Steps.refl _) (argsL := [(.int (Int32.ofNat pb)), (.int p3)]) (rest := []) (lenOf pd_0_2 rfl) rfl (by show 2 * 0 + _ ≤ _; exact Nat.le_of_eq rfl) (hb hby at_87) (fun _ _ => ⟨rfl, rfl, (Nat.le_of_ble_eq_true rfl), (Nat.le_of_ble_eq_true rfl)⟩)
  dsimp only [Pt.U, Pt.locs, Pt.cells, Pt.slots] at X9 l9 y9 z9 st9 hQ9
  subst l9 y9 z9
  obtain ⟨rfl, N9q, K9c, V9c⟩ := hQ9
  have F9c := F8c.keep K9c (ninS ne_oC nin0)
  have Z9 : n0 ≤ T9.heap.size := Nat.le_trans Z8 K9c.1
  have N9 := Fr.app N8 N9q
  obtain ⟨cq10, kq10, q10a, q10b, q10c⟩ := isOf hZ rfl (((E_b6.keep K7c).keep K8c).keep K9c)
  obtain ⟨_, _, ⟨T10, L10, k10, n10⟩, -, X10, ⟨Lc10, hQ10, l10, y10, z10⟩, st10⟩ := X9.virtualBack hx (y := (⟨"com/example/tallykeep/tallykeep/core/PrefixCounts", "add", "(II)V"⟩ : MethodName)) (z := (⟨"com/example/tallykeep/tallykeep/core/PrefixCounts", "add", "(II)V"⟩ : MethodName)) hown (mvT hZ (hw _ (List.mem_of_getElem? (i := 13) rfl))) (mvT hZ (hw _ (List.mem_of_getElem? (i := 14) rfl))) (notFace_of_selects (args := #[]) (mvT hZ (hw _ (List.mem_of_getElem? (i := 16) rfl)))) (mvT hZ (hw _ (List.mem_of_getElem? (i := 16) rfl))) (mvT hZ (hw _ (List.mem_of_getElem? (i := 15) rfl))) (by decide) (backOf (W := 0) (rm3 l Z a0 hw [] b6 pd p4 bC (n + 1) _ T9.heap n0 Z9 F9c V9c (by omega) (by omega) g_bC ne_oC) hZ (hw _ (List.mem_of_getElem? (i := 17) rfl)) (hw _ (List.mem_of_getElem? (i := 3) rfl)) (by decide) (by decide)) q10a q10c (g := (mkF m 95 #[.val (.int p1), .val (.int p2), .val (.int p3), .val (.int p4), .val (.int p5), .val (.int (Int32.ofNat n)), .val (.int (Int32.ofNat pa)), .val (.int (Int32.ofNat pb)), .val (.int (Int32.ofNat pd)), .val (.int (Int32.ofNat q)), .val (.ref b6), .unset] [(.int p4), (.int (Int32.ofNat pd)), (.ref b6)])) rfl (by rw [hml]; rfl) (Steps.refl _) (argsL := [(.int (Int32.ofNat pd)), (.int p4)]) (rest := []) (lenOf pd_0_2 rfl) rfl (by show 2 * 0 + _ ≤ _; exact Nat.le_of_eq rfl) (hb hby at_95) (fun _ _ => ⟨rfl, rfl, (Nat.le_of_ble_eq_true rfl), (Nat.le_of_ble_eq_true rfl)⟩)
  dsimp only [Pt.U, Pt.locs, Pt.cells, Pt.slots] at X10 l10 y10 z10 st10 hQ10
  subst l10 y10 z10
  obtain ⟨rfl, N10q, K10c, V10c⟩ := hQ10
  have F10c := F9c.keep K10c (ninS ne_oC nin0)
  have Z10 : n0 ≤ T10.heap.size := Nat.le_trans Z9 K10c.1
  have N10 := Fr.app N9 N10q
  obtain ⟨cq11, kq11, q11a, q11b, q11c⟩ := isOf hZ rfl ((((E_b6.keep K7c).keep K8c).keep K9c).keep K10c)
  obtain ⟨_, _, ⟨T11, L11, k11, n11⟩, -, X11, ⟨Lc11, hQ11, l11, y11, z11⟩, st11⟩ := X10.virtualBack hx (y := (⟨"com/example/tallykeep/tallykeep/core/PrefixCounts", "below", "(I)I"⟩ : MethodName)) (z := (⟨"com/example/tallykeep/tallykeep/core/PrefixCounts", "below", "(I)I"⟩ : MethodName)) hown (mvT hZ (hw _ (List.mem_of_getElem? (i := 18) rfl))) (mvT hZ (hw _ (List.mem_of_getElem? (i := 19) rfl))) (notFace_of_selects (args := #[]) (mvT hZ (hw _ (List.mem_of_getElem? (i := 21) rfl)))) (mvT hZ (hw _ (List.mem_of_getElem? (i := 21) rfl))) (mvT hZ (hw _ (List.mem_of_getElem? (i := 20) rfl))) (by decide) (backOf (W := 0) (rm4 l Z a0 hw [] b6 q bC (n + 1) _ T10.heap n0 Z10 F10c V10c (by omega) (by omega)) hZ (hw _ (List.mem_of_getElem? (i := 22) rfl)) (hw _ (List.mem_of_getElem? (i := 3) rfl)) (by decide) (by decide)) q11a q11c (g := (mkF m 144 #[.val (.int p1), .val (.int p2), .val (.int p3), .val (.int p4), .val (.int p5), .val (.int (Int32.ofNat n)), .val (.int (Int32.ofNat pa)), .val (.int (Int32.ofNat pb)), .val (.int (Int32.ofNat pd)), .val (.int (Int32.ofNat q)), .val (.ref b6), .val (.int (((0 : Int32) + p2) + p3))] [(.int (Int32.ofNat q)), (.ref b6)])) rfl (by rw [hml]; rfl) (Steps.refl _) (argsL := [(.int (Int32.ofNat q))]) (rest := []) (lenOf pd_0_3 rfl) rfl (by show 2 * 0 + _ ≤ _; exact Nat.le_of_eq rfl) (hb hby at_144) (fun _ _ => ⟨rfl, rfl, (Nat.le_of_ble_eq_true rfl), (Nat.le_of_ble_eq_true rfl)⟩)
  dsimp only [Pt.U, Pt.locs, Pt.cells, Pt.slots] at X11 l11 y11 z11 st11 hQ11
  subst l11 y11 z11
  obtain ⟨rfl, N11q, e11⟩ := hQ11
  have N11 := Fr.app N10 N11q
  have own_ok : (own_sum (own_down 6 q) (own_adds (own_up 6 (n + 1) (pd + 1)) p4 (own_adds (own_up 6 (n + 1) (pb + 1)) p3 (own_adds (own_up 6 (n + 1) (pa + 1)) p2 (fun _ => 0)))) 0) = (((0 : Int32) + p2) + p3) := by
    rw [own_final3 hn hpa hpb hpd hq]
    rw [if_pos ((own_lt (by omega) (by omega)).mp hc105)]
    rw [if_pos ((own_lt (by omega) (by omega)).mp hc118)]
    rw [if_neg (fun z => hc131 ((own_lt (by omega) (by omega)).mpr z))]
    all_goals simp
  obtain ⟨fs, hr, hrun, hended, hW, hsame⟩ := X11.leave (v := some (.int (1 : Int32))) (fun h => by rw [Bd.returns] at h; cases h)
  refine ⟨_, _, pre0 _ ?_, hrun, hended, _, _, rfl, ?_, ⟨_, rfl⟩, hW, hsame.mono (by decide) (by decide)⟩
  · show Steps p.tables e below (s₁.setTop (mkF m 0 #[.val (.int p1), .val (.int p2), .val (.int p3), .val (.int p4), .val (.int p5), .unset, .unset, .unset, .unset, .unset, .unset, .unset] [])) _
    refine XS.iloadN X0.here hx rfl (hb hby at_0) rfl ?_
    show Steps p.tables e below (s₁.setTop (mkF m 1 #[.val (.int p1), .val (.int p2), .val (.int p3), .val (.int p4), .val (.int p5), .unset, .unset, .unset, .unset, .unset, .unset, .unset] [(.int p1)])) _
    refine XS.sipush X0.here hx rfl (hb hby at_1) ?_
    show Steps p.tables e below (s₁.setTop (mkF m 4 #[.val (.int p1), .val (.int p2), .val (.int p3), .val (.int p4), .val (.int p5), .unset, .unset, .unset, .unset, .unset, .unset, .unset] [(.int (255 : Int32)), (.int p1)])) _
    refine XS.iand X0.here hx rfl (hb hby at_4) rfl ?_
    show Steps p.tables e below (s₁.setTop (mkF m 5 #[.val (.int p1), .val (.int p2), .val (.int p3), .val (.int p4), .val (.int p5), .unset, .unset, .unset, .unset, .unset, .unset, .unset] [(.int (p1 &&& (255 : Int32)))])) _
    refine XS.bipush X0.here hx rfl (hb hby at_5) ?_
    show Steps p.tables e below (s₁.setTop (mkF m 7 #[.val (.int p1), .val (.int p2), .val (.int p3), .val (.int p4), .val (.int p5), .unset, .unset, .unset, .unset, .unset, .unset, .unset] [(.int (12 : Int32)), (.int (p1 &&& (255 : Int32)))])) _
    refine iremM X0 hx rfl (hb hby at_7) rfl (by decide) ?_
    show Steps p.tables e below (s₁.setTop (mkF m 8 #[.val (.int p1), .val (.int p2), .val (.int p3), .val (.int p4), .val (.int p5), .unset, .unset, .unset, .unset, .unset, .unset, .unset] [(.int ((p1 &&& (255 : Int32)) % (12 : Int32)))])) _
    refine XS.iconst X0.here hx rfl (hb hby at_8) ?_
    show Steps p.tables e below (s₁.setTop (mkF m 9 #[.val (.int p1), .val (.int p2), .val (.int p3), .val (.int p4), .val (.int p5), .unset, .unset, .unset, .unset, .unset, .unset, .unset] [(.int (1 : Int32)), (.int ((p1 &&& (255 : Int32)) % (12 : Int32)))])) _
    refine XS.iadd X0.here hx rfl (hb hby at_9) rfl ?_
    rw [hp9]
    show Steps p.tables e below (s₁.setTop (mkF m 10 #[.val (.int p1), .val (.int p2), .val (.int p3), .val (.int p4), .val (.int p5), .unset, .unset, .unset, .unset, .unset, .unset, .unset] [(.int (Int32.ofNat n))])) _
    refine XS.istore X0.here hx rfl (hb hby at_10) rfl (l' := #[.val (.int p1), .val (.int p2), .val (.int p3), .val (.int p4), .val (.int p5), .val (.int (Int32.ofNat n)), .unset, .unset, .unset, .unset, .unset, .unset]) rfl ?_
    show Steps p.tables e below (s₁.setTop (mkF m 12 #[.val (.int p1), .val (.int p2), .val (.int p3), .val (.int p4), .val (.int p5), .val (.int (Int32.ofNat n)), .unset, .unset, .unset, .unset, .unset, .unset] [])) _
    refine XS.iloadN X0.here hx rfl (hb hby at_12) rfl ?_
    show Steps p.tables e below (s₁.setTop (mkF m 13 #[.val (.int p1), .val (.int p2), .val (.int p3), .val (.int p4), .val (.int p5), .val (.int (Int32.ofNat n)), .unset, .unset, .unset, .unset, .unset, .unset] [(.int p1)])) _
    refine XS.bipush X0.here hx rfl (hb hby at_13) ?_
    show Steps p.tables e below (s₁.setTop (mkF m 15 #[.val (.int p1), .val (.int p2), .val (.int p3), .val (.int p4), .val (.int p5), .val (.int (Int32.ofNat n)), .unset, .unset, .unset, .unset, .unset, .unset] [(.int (8 : Int32)), (.int p1)])) _
    refine XS.iushr X0.here hx rfl (hb hby at_15) rfl ?_
    show Steps p.tables e below (s₁.setTop (mkF m 16 #[.val (.int p1), .val (.int p2), .val (.int p3), .val (.int p4), .val (.int p5), .val (.int (Int32.ofNat n)), .unset, .unset, .unset, .unset, .unset, .unset] [(.int ((p1.toUInt32 >>> ((8 : Int32) &&& 31).toUInt32).toInt32))])) _
    refine XS.sipush X0.here hx rfl (hb hby at_16) ?_
    show Steps p.tables e below (s₁.setTop (mkF m 19 #[.val (.int p1), .val (.int p2), .val (.int p3), .val (.int p4), .val (.int p5), .val (.int (Int32.ofNat n)), .unset, .unset, .unset, .unset, .unset, .unset] [(.int (255 : Int32)), (.int ((p1.toUInt32 >>> ((8 : Int32) &&& 31).toUInt32).toInt32))])) _
    refine XS.iand X0.here hx rfl (hb hby at_19) rfl ?_
    show Steps p.tables e below (s₁.setTop (mkF m 20 #[.val (.int p1), .val (.int p2), .val (.int p3), .val (.int p4), .val (.int p5), .val (.int (Int32.ofNat n)), .unset, .unset, .unset, .unset, .unset, .unset] [(.int (((p1.toUInt32 >>> ((8 : Int32) &&& 31).toUInt32).toInt32) &&& (255 : Int32)))])) _
    refine XS.iload X0.here hx rfl (hb hby at_20) rfl ?_
    show Steps p.tables e below (s₁.setTop (mkF m 22 #[.val (.int p1), .val (.int p2), .val (.int p3), .val (.int p4), .val (.int p5), .val (.int (Int32.ofNat n)), .unset, .unset, .unset, .unset, .unset, .unset] [(.int (Int32.ofNat n)), (.int (((p1.toUInt32 >>> ((8 : Int32) &&& 31).toUInt32).toInt32) &&& (255 : Int32)))])) _
    refine iremM X0 hx rfl (hb hby at_22) rfl hnz22 ?_
    rw [hp22]
    show Steps p.tables e below (s₁.setTop (mkF m 23 #[.val (.int p1), .val (.int p2), .val (.int p3), .val (.int p4), .val (.int p5), .val (.int (Int32.ofNat n)), .unset, .unset, .unset, .unset, .unset, .unset] [(.int (Int32.ofNat pa))])) _
    refine XS.istore X0.here hx rfl (hb hby at_23) rfl (l' := #[.val (.int p1), .val (.int p2), .val (.int p3), .val (.int p4), .val (.int p5), .val (.int (Int32.ofNat n)), .val (.int (Int32.ofNat pa)), .unset, .unset, .unset, .unset, .unset]) rfl ?_
    show Steps p.tables e below (s₁.setTop (mkF m 25 #[.val (.int p1), .val (.int p2), .val (.int p3), .val (.int p4), .val (.int p5), .val (.int (Int32.ofNat n)), .val (.int (Int32.ofNat pa)), .unset, .unset, .unset, .unset, .unset] [])) _
    refine XS.iloadN X0.here hx rfl (hb hby at_25) rfl ?_
    show Steps p.tables e below (s₁.setTop (mkF m 26 #[.val (.int p1), .val (.int p2), .val (.int p3), .val (.int p4), .val (.int p5), .val (.int (Int32.ofNat n)), .val (.int (Int32.ofNat pa)), .unset, .unset, .unset, .unset, .unset] [(.int p1)])) _
    refine XS.bipush X0.here hx rfl (hb hby at_26) ?_
    show Steps p.tables e below (s₁.setTop (mkF m 28 #[.val (.int p1), .val (.int p2), .val (.int p3), .val (.int p4), .val (.int p5), .val (.int (Int32.ofNat n)), .val (.int (Int32.ofNat pa)), .unset, .unset, .unset, .unset, .unset] [(.int (16 : Int32)), (.int p1)])) _
    refine XS.iushr X0.here hx rfl (hb hby at_28) rfl ?_
    show Steps p.tables e below (s₁.setTop (mkF m 29 #[.val (.int p1), .val (.int p2), .val (.int p3), .val (.int p4), .val (.int p5), .val (.int (Int32.ofNat n)), .val (.int (Int32.ofNat pa)), .unset, .unset, .unset, .unset, .unset] [(.int ((p1.toUInt32 >>> ((16 : Int32) &&& 31).toUInt32).toInt32))])) _
    refine XS.sipush X0.here hx rfl (hb hby at_29) ?_
    show Steps p.tables e below (s₁.setTop (mkF m 32 #[.val (.int p1), .val (.int p2), .val (.int p3), .val (.int p4), .val (.int p5), .val (.int (Int32.ofNat n)), .val (.int (Int32.ofNat pa)), .unset, .unset, .unset, .unset, .unset] [(.int (255 : Int32)), (.int ((p1.toUInt32 >>> ((16 : Int32) &&& 31).toUInt32).toInt32))])) _
    refine XS.iand X0.here hx rfl (hb hby at_32) rfl ?_
    show Steps p.tables e below (s₁.setTop (mkF m 33 #[.val (.int p1), .val (.int p2), .val (.int p3), .val (.int p4), .val (.int p5), .val (.int (Int32.ofNat n)), .val (.int (Int32.ofNat pa)), .unset, .unset, .unset, .unset, .unset] [(.int (((p1.toUInt32 >>> ((16 : Int32) &&& 31).toUInt32).toInt32) &&& (255 : Int32)))])) _
    refine XS.iload X0.here hx rfl (hb hby at_33) rfl ?_
    show Steps p.tables e below (s₁.setTop (mkF m 35 #[.val (.int p1), .val (.int p2), .val (.int p3), .val (.int p4), .val (.int p5), .val (.int (Int32.ofNat n)), .val (.int (Int32.ofNat pa)), .unset, .unset, .unset, .unset, .unset] [(.int (Int32.ofNat n)), (.int (((p1.toUInt32 >>> ((16 : Int32) &&& 31).toUInt32).toInt32) &&& (255 : Int32)))])) _
    refine iremM X0 hx rfl (hb hby at_35) rfl hnz35 ?_
    rw [hp35]
    show Steps p.tables e below (s₁.setTop (mkF m 36 #[.val (.int p1), .val (.int p2), .val (.int p3), .val (.int p4), .val (.int p5), .val (.int (Int32.ofNat n)), .val (.int (Int32.ofNat pa)), .unset, .unset, .unset, .unset, .unset] [(.int (Int32.ofNat pb))])) _
    refine XS.istore X0.here hx rfl (hb hby at_36) rfl (l' := #[.val (.int p1), .val (.int p2), .val (.int p3), .val (.int p4), .val (.int p5), .val (.int (Int32.ofNat n)), .val (.int (Int32.ofNat pa)), .val (.int (Int32.ofNat pb)), .unset, .unset, .unset, .unset]) rfl ?_
    show Steps p.tables e below (s₁.setTop (mkF m 38 #[.val (.int p1), .val (.int p2), .val (.int p3), .val (.int p4), .val (.int p5), .val (.int (Int32.ofNat n)), .val (.int (Int32.ofNat pa)), .val (.int (Int32.ofNat pb)), .unset, .unset, .unset, .unset] [])) _
    refine XS.iloadN X0.here hx rfl (hb hby at_38) rfl ?_
    show Steps p.tables e below (s₁.setTop (mkF m 39 #[.val (.int p1), .val (.int p2), .val (.int p3), .val (.int p4), .val (.int p5), .val (.int (Int32.ofNat n)), .val (.int (Int32.ofNat pa)), .val (.int (Int32.ofNat pb)), .unset, .unset, .unset, .unset] [(.int p1)])) _
    refine XS.bipush X0.here hx rfl (hb hby at_39) ?_
    show Steps p.tables e below (s₁.setTop (mkF m 41 #[.val (.int p1), .val (.int p2), .val (.int p3), .val (.int p4), .val (.int p5), .val (.int (Int32.ofNat n)), .val (.int (Int32.ofNat pa)), .val (.int (Int32.ofNat pb)), .unset, .unset, .unset, .unset] [(.int (24 : Int32)), (.int p1)])) _
    refine XS.iushr X0.here hx rfl (hb hby at_41) rfl ?_
    show Steps p.tables e below (s₁.setTop (mkF m 42 #[.val (.int p1), .val (.int p2), .val (.int p3), .val (.int p4), .val (.int p5), .val (.int (Int32.ofNat n)), .val (.int (Int32.ofNat pa)), .val (.int (Int32.ofNat pb)), .unset, .unset, .unset, .unset] [(.int ((p1.toUInt32 >>> ((24 : Int32) &&& 31).toUInt32).toInt32))])) _
    refine XS.sipush X0.here hx rfl (hb hby at_42) ?_
    show Steps p.tables e below (s₁.setTop (mkF m 45 #[.val (.int p1), .val (.int p2), .val (.int p3), .val (.int p4), .val (.int p5), .val (.int (Int32.ofNat n)), .val (.int (Int32.ofNat pa)), .val (.int (Int32.ofNat pb)), .unset, .unset, .unset, .unset] [(.int (255 : Int32)), (.int ((p1.toUInt32 >>> ((24 : Int32) &&& 31).toUInt32).toInt32))])) _
    refine XS.iand X0.here hx rfl (hb hby at_45) rfl ?_
    show Steps p.tables e below (s₁.setTop (mkF m 46 #[.val (.int p1), .val (.int p2), .val (.int p3), .val (.int p4), .val (.int p5), .val (.int (Int32.ofNat n)), .val (.int (Int32.ofNat pa)), .val (.int (Int32.ofNat pb)), .unset, .unset, .unset, .unset] [(.int (((p1.toUInt32 >>> ((24 : Int32) &&& 31).toUInt32).toInt32) &&& (255 : Int32)))])) _
    refine XS.iload X0.here hx rfl (hb hby at_46) rfl ?_
    show Steps p.tables e below (s₁.setTop (mkF m 48 #[.val (.int p1), .val (.int p2), .val (.int p3), .val (.int p4), .val (.int p5), .val (.int (Int32.ofNat n)), .val (.int (Int32.ofNat pa)), .val (.int (Int32.ofNat pb)), .unset, .unset, .unset, .unset] [(.int (Int32.ofNat n)), (.int (((p1.toUInt32 >>> ((24 : Int32) &&& 31).toUInt32).toInt32) &&& (255 : Int32)))])) _
    refine iremM X0 hx rfl (hb hby at_48) rfl hnz48 ?_
    rw [hp48]
    show Steps p.tables e below (s₁.setTop (mkF m 49 #[.val (.int p1), .val (.int p2), .val (.int p3), .val (.int p4), .val (.int p5), .val (.int (Int32.ofNat n)), .val (.int (Int32.ofNat pa)), .val (.int (Int32.ofNat pb)), .unset, .unset, .unset, .unset] [(.int (Int32.ofNat pd))])) _
    refine XS.istore X0.here hx rfl (hb hby at_49) rfl (l' := #[.val (.int p1), .val (.int p2), .val (.int p3), .val (.int p4), .val (.int p5), .val (.int (Int32.ofNat n)), .val (.int (Int32.ofNat pa)), .val (.int (Int32.ofNat pb)), .val (.int (Int32.ofNat pd)), .unset, .unset, .unset]) rfl ?_
    show Steps p.tables e below (s₁.setTop (mkF m 51 #[.val (.int p1), .val (.int p2), .val (.int p3), .val (.int p4), .val (.int p5), .val (.int (Int32.ofNat n)), .val (.int (Int32.ofNat pa)), .val (.int (Int32.ofNat pb)), .val (.int (Int32.ofNat pd)), .unset, .unset, .unset] [])) _
    refine XS.iload X0.here hx rfl (hb hby at_51) rfl ?_
    show Steps p.tables e below (s₁.setTop (mkF m 53 #[.val (.int p1), .val (.int p2), .val (.int p3), .val (.int p4), .val (.int p5), .val (.int (Int32.ofNat n)), .val (.int (Int32.ofNat pa)), .val (.int (Int32.ofNat pb)), .val (.int (Int32.ofNat pd)), .unset, .unset, .unset] [(.int p5)])) _
    refine X0.ldcInt hx hown (mvT hZ (hw _ (List.mem_of_getElem? (i := 0) rfl))) (g := (mkF m 53 #[.val (.int p1), .val (.int p2), .val (.int p3), .val (.int p4), .val (.int p5), .val (.int (Int32.ofNat n)), .val (.int (Int32.ofNat pa)), .val (.int (Int32.ofNat pb)), .val (.int (Int32.ofNat pd)), .unset, .unset, .unset] [(.int p5)])) rfl (hb hby at_53) _ ?_
    show Steps p.tables e below (s₁.setTop (mkF m 55 #[.val (.int p1), .val (.int p2), .val (.int p3), .val (.int p4), .val (.int p5), .val (.int (Int32.ofNat n)), .val (.int (Int32.ofNat pa)), .val (.int (Int32.ofNat pb)), .val (.int (Int32.ofNat pd)), .unset, .unset, .unset] [(.int (2147483647 : Int32)), (.int p5)])) _
    refine XS.iand X0.here hx rfl (hb hby at_55) rfl ?_
    show Steps p.tables e below (s₁.setTop (mkF m 56 #[.val (.int p1), .val (.int p2), .val (.int p3), .val (.int p4), .val (.int p5), .val (.int (Int32.ofNat n)), .val (.int (Int32.ofNat pa)), .val (.int (Int32.ofNat pb)), .val (.int (Int32.ofNat pd)), .unset, .unset, .unset] [(.int (p5 &&& (2147483647 : Int32)))])) _
    refine XS.iload X0.here hx rfl (hb hby at_56) rfl ?_
    show Steps p.tables e below (s₁.setTop (mkF m 58 #[.val (.int p1), .val (.int p2), .val (.int p3), .val (.int p4), .val (.int p5), .val (.int (Int32.ofNat n)), .val (.int (Int32.ofNat pa)), .val (.int (Int32.ofNat pb)), .val (.int (Int32.ofNat pd)), .unset, .unset, .unset] [(.int (Int32.ofNat n)), (.int (p5 &&& (2147483647 : Int32)))])) _
    refine XS.iconst X0.here hx rfl (hb hby at_58) ?_
    show Steps p.tables e below (s₁.setTop (mkF m 59 #[.val (.int p1), .val (.int p2), .val (.int p3), .val (.int p4), .val (.int p5), .val (.int (Int32.ofNat n)), .val (.int (Int32.ofNat pa)), .val (.int (Int32.ofNat pb)), .val (.int (Int32.ofNat pd)), .unset, .unset, .unset] [(.int (1 : Int32)), (.int (Int32.ofNat n)), (.int (p5 &&& (2147483647 : Int32)))])) _
    refine XS.iadd X0.here hx rfl (hb hby at_59) rfl ?_
    show Steps p.tables e below (s₁.setTop (mkF m 60 #[.val (.int p1), .val (.int p2), .val (.int p3), .val (.int p4), .val (.int p5), .val (.int (Int32.ofNat n)), .val (.int (Int32.ofNat pa)), .val (.int (Int32.ofNat pb)), .val (.int (Int32.ofNat pd)), .unset, .unset, .unset] [(.int ((Int32.ofNat n) + (1 : Int32))), (.int (p5 &&& (2147483647 : Int32)))])) _
    refine iremM X0 hx rfl (hb hby at_60) rfl hnz60 ?_
    rw [hp60]
    show Steps p.tables e below (s₁.setTop (mkF m 61 #[.val (.int p1), .val (.int p2), .val (.int p3), .val (.int p4), .val (.int p5), .val (.int (Int32.ofNat n)), .val (.int (Int32.ofNat pa)), .val (.int (Int32.ofNat pb)), .val (.int (Int32.ofNat pd)), .unset, .unset, .unset] [(.int (Int32.ofNat q))])) _
    refine XS.istore X0.here hx rfl (hb hby at_61) rfl (l' := #[.val (.int p1), .val (.int p2), .val (.int p3), .val (.int p4), .val (.int p5), .val (.int (Int32.ofNat n)), .val (.int (Int32.ofNat pa)), .val (.int (Int32.ofNat pb)), .val (.int (Int32.ofNat pd)), .val (.int (Int32.ofNat q)), .unset, .unset]) rfl ?_
    show Steps p.tables e below (s₁.setTop (mkF m 63 #[.val (.int p1), .val (.int p2), .val (.int p3), .val (.int p4), .val (.int p5), .val (.int (Int32.ofNat n)), .val (.int (Int32.ofNat pa)), .val (.int (Int32.ofNat pb)), .val (.int (Int32.ofNat pd)), .val (.int (Int32.ofNat q)), .unset, .unset] [])) _
    refine st6 _ ?_
    show Steps p.tables e below (T6.setTop (mkF m 66 #[.val (.int p1), .val (.int p2), .val (.int p3), .val (.int p4), .val (.int p5), .val (.int (Int32.ofNat n)), .val (.int (Int32.ofNat pa)), .val (.int (Int32.ofNat pb)), .val (.int (Int32.ofNat pd)), .val (.int (Int32.ofNat q)), .unset, .unset] [(.ref b6)])) _
    refine XS.dup X6.here hx rfl (hb hby at_66) rfl rfl ?_
    show Steps p.tables e below (T6.setTop (mkF m 67 #[.val (.int p1), .val (.int p2), .val (.int p3), .val (.int p4), .val (.int p5), .val (.int (Int32.ofNat n)), .val (.int (Int32.ofNat pa)), .val (.int (Int32.ofNat pb)), .val (.int (Int32.ofNat pd)), .val (.int (Int32.ofNat q)), .unset, .unset] [(.ref b6), (.ref b6)])) _
    refine XS.iload X6.here hx rfl (hb hby at_67) rfl ?_
    show Steps p.tables e below (T6.setTop (mkF m 69 #[.val (.int p1), .val (.int p2), .val (.int p3), .val (.int p4), .val (.int p5), .val (.int (Int32.ofNat n)), .val (.int (Int32.ofNat pa)), .val (.int (Int32.ofNat pb)), .val (.int (Int32.ofNat pd)), .val (.int (Int32.ofNat q)), .unset, .unset] [(.int (Int32.ofNat n)), (.ref b6), (.ref b6)])) _
    refine st7.trans ?_
    show Steps p.tables e below (T7.setTop (mkF m 72 #[.val (.int p1), .val (.int p2), .val (.int p3), .val (.int p4), .val (.int p5), .val (.int (Int32.ofNat n)), .val (.int (Int32.ofNat pa)), .val (.int (Int32.ofNat pb)), .val (.int (Int32.ofNat pd)), .val (.int (Int32.ofNat q)), .unset, .unset] [(.ref b6)])) _
    refine XS.astore X7.here hx rfl (hb hby at_72) rfl rfl (l' := #[.val (.int p1), .val (.int p2), .val (.int p3), .val (.int p4), .val (.int p5), .val (.int (Int32.ofNat n)), .val (.int (Int32.ofNat pa)), .val (.int (Int32.ofNat pb)), .val (.int (Int32.ofNat pd)), .val (.int (Int32.ofNat q)), .val (.ref b6), .unset]) rfl ?_
    show Steps p.tables e below (T7.setTop (mkF m 74 #[.val (.int p1), .val (.int p2), .val (.int p3), .val (.int p4), .val (.int p5), .val (.int (Int32.ofNat n)), .val (.int (Int32.ofNat pa)), .val (.int (Int32.ofNat pb)), .val (.int (Int32.ofNat pd)), .val (.int (Int32.ofNat q)), .val (.ref b6), .unset] [])) _
    refine XS.aload X7.here hx rfl (hb hby at_74) rfl rfl ?_
    show Steps p.tables e below (T7.setTop (mkF m 76 #[.val (.int p1), .val (.int p2), .val (.int p3), .val (.int p4), .val (.int p5), .val (.int (Int32.ofNat n)), .val (.int (Int32.ofNat pa)), .val (.int (Int32.ofNat pb)), .val (.int (Int32.ofNat pd)), .val (.int (Int32.ofNat q)), .val (.ref b6), .unset] [(.ref b6)])) _
    refine XS.iload X7.here hx rfl (hb hby at_76) rfl ?_
    show Steps p.tables e below (T7.setTop (mkF m 78 #[.val (.int p1), .val (.int p2), .val (.int p3), .val (.int p4), .val (.int p5), .val (.int (Int32.ofNat n)), .val (.int (Int32.ofNat pa)), .val (.int (Int32.ofNat pb)), .val (.int (Int32.ofNat pd)), .val (.int (Int32.ofNat q)), .val (.ref b6), .unset] [(.int (Int32.ofNat pa)), (.ref b6)])) _
    refine XS.iloadN X7.here hx rfl (hb hby at_78) rfl ?_
    show Steps p.tables e below (T7.setTop (mkF m 79 #[.val (.int p1), .val (.int p2), .val (.int p3), .val (.int p4), .val (.int p5), .val (.int (Int32.ofNat n)), .val (.int (Int32.ofNat pa)), .val (.int (Int32.ofNat pb)), .val (.int (Int32.ofNat pd)), .val (.int (Int32.ofNat q)), .val (.ref b6), .unset] [(.int p2), (.int (Int32.ofNat pa)), (.ref b6)])) _
    refine st8.trans ?_
    show Steps p.tables e below (T8.setTop (mkF m 82 #[.val (.int p1), .val (.int p2), .val (.int p3), .val (.int p4), .val (.int p5), .val (.int (Int32.ofNat n)), .val (.int (Int32.ofNat pa)), .val (.int (Int32.ofNat pb)), .val (.int (Int32.ofNat pd)), .val (.int (Int32.ofNat q)), .val (.ref b6), .unset] [])) _
    refine XS.aload X8.here hx rfl (hb hby at_82) rfl rfl ?_
    show Steps p.tables e below (T8.setTop (mkF m 84 #[.val (.int p1), .val (.int p2), .val (.int p3), .val (.int p4), .val (.int p5), .val (.int (Int32.ofNat n)), .val (.int (Int32.ofNat pa)), .val (.int (Int32.ofNat pb)), .val (.int (Int32.ofNat pd)), .val (.int (Int32.ofNat q)), .val (.ref b6), .unset] [(.ref b6)])) _
    refine XS.iload X8.here hx rfl (hb hby at_84) rfl ?_
    show Steps p.tables e below (T8.setTop (mkF m 86 #[.val (.int p1), .val (.int p2), .val (.int p3), .val (.int p4), .val (.int p5), .val (.int (Int32.ofNat n)), .val (.int (Int32.ofNat pa)), .val (.int (Int32.ofNat pb)), .val (.int (Int32.ofNat pd)), .val (.int (Int32.ofNat q)), .val (.ref b6), .unset] [(.int (Int32.ofNat pb)), (.ref b6)])) _
    refine XS.iloadN X8.here hx rfl (hb hby at_86) rfl ?_
    show Steps p.tables e below (T8.setTop (mkF m 87 #[.val (.int p1), .val (.int p2), .val (.int p3), .val (.int p4), .val (.int p5), .val (.int (Int32.ofNat n)), .val (.int (Int32.ofNat pa)), .val (.int (Int32.ofNat pb)), .val (.int (Int32.ofNat pd)), .val (.int (Int32.ofNat q)), .val (.ref b6), .unset] [(.int p3), (.int (Int32.ofNat pb)), (.ref b6)])) _
    refine st9.trans ?_
    show Steps p.tables e below (T9.setTop (mkF m 90 #[.val (.int p1), .val (.int p2), .val (.int p3), .val (.int p4), .val (.int p5), .val (.int (Int32.ofNat n)), .val (.int (Int32.ofNat pa)), .val (.int (Int32.ofNat pb)), .val (.int (Int32.ofNat pd)), .val (.int (Int32.ofNat q)), .val (.ref b6), .unset] [])) _
    refine XS.aload X9.here hx rfl (hb hby at_90) rfl rfl ?_
    show Steps p.tables e below (T9.setTop (mkF m 92 #[.val (.int p1), .val (.int p2), .val (.int p3), .val (.int p4), .val (.int p5), .val (.int (Int32.ofNat n)), .val (.int (Int32.ofNat pa)), .val (.int (Int32.ofNat pb)), .val (.int (Int32.ofNat pd)), .val (.int (Int32.ofNat q)), .val (.ref b6), .unset] [(.ref b6)])) _
    refine XS.iload X9.here hx rfl (hb hby at_92) rfl ?_
    show Steps p.tables e below (T9.setTop (mkF m 94 #[.val (.int p1), .val (.int p2), .val (.int p3), .val (.int p4), .val (.int p5), .val (.int (Int32.ofNat n)), .val (.int (Int32.ofNat pa)), .val (.int (Int32.ofNat pb)), .val (.int (Int32.ofNat pd)), .val (.int (Int32.ofNat q)), .val (.ref b6), .unset] [(.int (Int32.ofNat pd)), (.ref b6)])) _
    refine XS.iloadN X9.here hx rfl (hb hby at_94) rfl ?_
    show Steps p.tables e below (T9.setTop (mkF m 95 #[.val (.int p1), .val (.int p2), .val (.int p3), .val (.int p4), .val (.int p5), .val (.int (Int32.ofNat n)), .val (.int (Int32.ofNat pa)), .val (.int (Int32.ofNat pb)), .val (.int (Int32.ofNat pd)), .val (.int (Int32.ofNat q)), .val (.ref b6), .unset] [(.int p4), (.int (Int32.ofNat pd)), (.ref b6)])) _
    refine st10.trans ?_
    show Steps p.tables e below (T10.setTop (mkF m 98 #[.val (.int p1), .val (.int p2), .val (.int p3), .val (.int p4), .val (.int p5), .val (.int (Int32.ofNat n)), .val (.int (Int32.ofNat pa)), .val (.int (Int32.ofNat pb)), .val (.int (Int32.ofNat pd)), .val (.int (Int32.ofNat q)), .val (.ref b6), .unset] [])) _
    refine XS.iconst X10.here hx rfl (hb hby at_98) ?_
    show Steps p.tables e below (T10.setTop (mkF m 99 #[.val (.int p1), .val (.int p2), .val (.int p3), .val (.int p4), .val (.int p5), .val (.int (Int32.ofNat n)), .val (.int (Int32.ofNat pa)), .val (.int (Int32.ofNat pb)), .val (.int (Int32.ofNat pd)), .val (.int (Int32.ofNat q)), .val (.ref b6), .unset] [(.int (0 : Int32))])) _
    refine XS.istore X10.here hx rfl (hb hby at_99) rfl (l' := #[.val (.int p1), .val (.int p2), .val (.int p3), .val (.int p4), .val (.int p5), .val (.int (Int32.ofNat n)), .val (.int (Int32.ofNat pa)), .val (.int (Int32.ofNat pb)), .val (.int (Int32.ofNat pd)), .val (.int (Int32.ofNat q)), .val (.ref b6), .val (.int (0 : Int32))]) rfl ?_
    show Steps p.tables e below (T10.setTop (mkF m 101 #[.val (.int p1), .val (.int p2), .val (.int p3), .val (.int p4), .val (.int p5), .val (.int (Int32.ofNat n)), .val (.int (Int32.ofNat pa)), .val (.int (Int32.ofNat pb)), .val (.int (Int32.ofNat pd)), .val (.int (Int32.ofNat q)), .val (.ref b6), .val (.int (0 : Int32))] [])) _
    refine XS.iload X10.here hx rfl (hb hby at_101) rfl ?_
    show Steps p.tables e below (T10.setTop (mkF m 103 #[.val (.int p1), .val (.int p2), .val (.int p3), .val (.int p4), .val (.int p5), .val (.int (Int32.ofNat n)), .val (.int (Int32.ofNat pa)), .val (.int (Int32.ofNat pb)), .val (.int (Int32.ofNat pd)), .val (.int (Int32.ofNat q)), .val (.ref b6), .val (.int (0 : Int32))] [(.int (Int32.ofNat pa))])) _
    refine XS.iload X10.here hx rfl (hb hby at_103) rfl ?_
    show Steps p.tables e below (T10.setTop (mkF m 105 #[.val (.int p1), .val (.int p2), .val (.int p3), .val (.int p4), .val (.int p5), .val (.int (Int32.ofNat n)), .val (.int (Int32.ofNat pa)), .val (.int (Int32.ofNat pb)), .val (.int (Int32.ofNat pd)), .val (.int (Int32.ofNat q)), .val (.ref b6), .val (.int (0 : Int32))] [(.int (Int32.ofNat q)), (.int (Int32.ofNat pa))])) _
    refine XS.icmpNo X10.here hx rfl (hb hby at_105) rfl (tlt hc105).2.1 ?_
    show Steps p.tables e below (T10.setTop (mkF m 108 #[.val (.int p1), .val (.int p2), .val (.int p3), .val (.int p4), .val (.int p5), .val (.int (Int32.ofNat n)), .val (.int (Int32.ofNat pa)), .val (.int (Int32.ofNat pb)), .val (.int (Int32.ofNat pd)), .val (.int (Int32.ofNat q)), .val (.ref b6), .val (.int (0 : Int32))] [])) _
    refine XS.iload X10.here hx rfl (hb hby at_108) rfl ?_
    show Steps p.tables e below (T10.setTop (mkF m 110 #[.val (.int p1), .val (.int p2), .val (.int p3), .val (.int p4), .val (.int p5), .val (.int (Int32.ofNat n)), .val (.int (Int32.ofNat pa)), .val (.int (Int32.ofNat pb)), .val (.int (Int32.ofNat pd)), .val (.int (Int32.ofNat q)), .val (.ref b6), .val (.int (0 : Int32))] [(.int (0 : Int32))])) _
    refine XS.iloadN X10.here hx rfl (hb hby at_110) rfl ?_
    show Steps p.tables e below (T10.setTop (mkF m 111 #[.val (.int p1), .val (.int p2), .val (.int p3), .val (.int p4), .val (.int p5), .val (.int (Int32.ofNat n)), .val (.int (Int32.ofNat pa)), .val (.int (Int32.ofNat pb)), .val (.int (Int32.ofNat pd)), .val (.int (Int32.ofNat q)), .val (.ref b6), .val (.int (0 : Int32))] [(.int p2), (.int (0 : Int32))])) _
    refine XS.iadd X10.here hx rfl (hb hby at_111) rfl ?_
    show Steps p.tables e below (T10.setTop (mkF m 112 #[.val (.int p1), .val (.int p2), .val (.int p3), .val (.int p4), .val (.int p5), .val (.int (Int32.ofNat n)), .val (.int (Int32.ofNat pa)), .val (.int (Int32.ofNat pb)), .val (.int (Int32.ofNat pd)), .val (.int (Int32.ofNat q)), .val (.ref b6), .val (.int (0 : Int32))] [(.int ((0 : Int32) + p2))])) _
    refine XS.istore X10.here hx rfl (hb hby at_112) rfl (l' := #[.val (.int p1), .val (.int p2), .val (.int p3), .val (.int p4), .val (.int p5), .val (.int (Int32.ofNat n)), .val (.int (Int32.ofNat pa)), .val (.int (Int32.ofNat pb)), .val (.int (Int32.ofNat pd)), .val (.int (Int32.ofNat q)), .val (.ref b6), .val (.int ((0 : Int32) + p2))]) rfl ?_
    show Steps p.tables e below (T10.setTop (mkF m 114 #[.val (.int p1), .val (.int p2), .val (.int p3), .val (.int p4), .val (.int p5), .val (.int (Int32.ofNat n)), .val (.int (Int32.ofNat pa)), .val (.int (Int32.ofNat pb)), .val (.int (Int32.ofNat pd)), .val (.int (Int32.ofNat q)), .val (.ref b6), .val (.int ((0 : Int32) + p2))] [])) _
    refine XS.iload X10.here hx rfl (hb hby at_114) rfl ?_
    show Steps p.tables e below (T10.setTop (mkF m 116 #[.val (.int p1), .val (.int p2), .val (.int p3), .val (.int p4), .val (.int p5), .val (.int (Int32.ofNat n)), .val (.int (Int32.ofNat pa)), .val (.int (Int32.ofNat pb)), .val (.int (Int32.ofNat pd)), .val (.int (Int32.ofNat q)), .val (.ref b6), .val (.int ((0 : Int32) + p2))] [(.int (Int32.ofNat pb))])) _
    refine XS.iload X10.here hx rfl (hb hby at_116) rfl ?_
    show Steps p.tables e below (T10.setTop (mkF m 118 #[.val (.int p1), .val (.int p2), .val (.int p3), .val (.int p4), .val (.int p5), .val (.int (Int32.ofNat n)), .val (.int (Int32.ofNat pa)), .val (.int (Int32.ofNat pb)), .val (.int (Int32.ofNat pd)), .val (.int (Int32.ofNat q)), .val (.ref b6), .val (.int ((0 : Int32) + p2))] [(.int (Int32.ofNat q)), (.int (Int32.ofNat pb))])) _
    refine XS.icmpNo X10.here hx rfl (hb hby at_118) rfl (tlt hc118).2.1 ?_
    show Steps p.tables e below (T10.setTop (mkF m 121 #[.val (.int p1), .val (.int p2), .val (.int p3), .val (.int p4), .val (.int p5), .val (.int (Int32.ofNat n)), .val (.int (Int32.ofNat pa)), .val (.int (Int32.ofNat pb)), .val (.int (Int32.ofNat pd)), .val (.int (Int32.ofNat q)), .val (.ref b6), .val (.int ((0 : Int32) + p2))] [])) _
    refine XS.iload X10.here hx rfl (hb hby at_121) rfl ?_
    show Steps p.tables e below (T10.setTop (mkF m 123 #[.val (.int p1), .val (.int p2), .val (.int p3), .val (.int p4), .val (.int p5), .val (.int (Int32.ofNat n)), .val (.int (Int32.ofNat pa)), .val (.int (Int32.ofNat pb)), .val (.int (Int32.ofNat pd)), .val (.int (Int32.ofNat q)), .val (.ref b6), .val (.int ((0 : Int32) + p2))] [(.int ((0 : Int32) + p2))])) _
    refine XS.iloadN X10.here hx rfl (hb hby at_123) rfl ?_
    show Steps p.tables e below (T10.setTop (mkF m 124 #[.val (.int p1), .val (.int p2), .val (.int p3), .val (.int p4), .val (.int p5), .val (.int (Int32.ofNat n)), .val (.int (Int32.ofNat pa)), .val (.int (Int32.ofNat pb)), .val (.int (Int32.ofNat pd)), .val (.int (Int32.ofNat q)), .val (.ref b6), .val (.int ((0 : Int32) + p2))] [(.int p3), (.int ((0 : Int32) + p2))])) _
    refine XS.iadd X10.here hx rfl (hb hby at_124) rfl ?_
    show Steps p.tables e below (T10.setTop (mkF m 125 #[.val (.int p1), .val (.int p2), .val (.int p3), .val (.int p4), .val (.int p5), .val (.int (Int32.ofNat n)), .val (.int (Int32.ofNat pa)), .val (.int (Int32.ofNat pb)), .val (.int (Int32.ofNat pd)), .val (.int (Int32.ofNat q)), .val (.ref b6), .val (.int ((0 : Int32) + p2))] [(.int (((0 : Int32) + p2) + p3))])) _
    refine XS.istore X10.here hx rfl (hb hby at_125) rfl (l' := #[.val (.int p1), .val (.int p2), .val (.int p3), .val (.int p4), .val (.int p5), .val (.int (Int32.ofNat n)), .val (.int (Int32.ofNat pa)), .val (.int (Int32.ofNat pb)), .val (.int (Int32.ofNat pd)), .val (.int (Int32.ofNat q)), .val (.ref b6), .val (.int (((0 : Int32) + p2) + p3))]) rfl ?_
    show Steps p.tables e below (T10.setTop (mkF m 127 #[.val (.int p1), .val (.int p2), .val (.int p3), .val (.int p4), .val (.int p5), .val (.int (Int32.ofNat n)), .val (.int (Int32.ofNat pa)), .val (.int (Int32.ofNat pb)), .val (.int (Int32.ofNat pd)), .val (.int (Int32.ofNat q)), .val (.ref b6), .val (.int (((0 : Int32) + p2) + p3))] [])) _
    refine XS.iload X10.here hx rfl (hb hby at_127) rfl ?_
    show Steps p.tables e below (T10.setTop (mkF m 129 #[.val (.int p1), .val (.int p2), .val (.int p3), .val (.int p4), .val (.int p5), .val (.int (Int32.ofNat n)), .val (.int (Int32.ofNat pa)), .val (.int (Int32.ofNat pb)), .val (.int (Int32.ofNat pd)), .val (.int (Int32.ofNat q)), .val (.ref b6), .val (.int (((0 : Int32) + p2) + p3))] [(.int (Int32.ofNat pd))])) _
    refine XS.iload X10.here hx rfl (hb hby at_129) rfl ?_
    show Steps p.tables e below (T10.setTop (mkF m 131 #[.val (.int p1), .val (.int p2), .val (.int p3), .val (.int p4), .val (.int p5), .val (.int (Int32.ofNat n)), .val (.int (Int32.ofNat pa)), .val (.int (Int32.ofNat pb)), .val (.int (Int32.ofNat pd)), .val (.int (Int32.ofNat q)), .val (.ref b6), .val (.int (((0 : Int32) + p2) + p3))] [(.int (Int32.ofNat q)), (.int (Int32.ofNat pd))])) _
    refine XS.icmpYes X10.here hx rfl (pc0 := 131) (pc' := 140) rfl (hb hby at_131) rfl (flt hc131).2.1 (by decide) (by decide) ?_
    show Steps p.tables e below (T10.setTop (mkF m 140 #[.val (.int p1), .val (.int p2), .val (.int p3), .val (.int p4), .val (.int p5), .val (.int (Int32.ofNat n)), .val (.int (Int32.ofNat pa)), .val (.int (Int32.ofNat pb)), .val (.int (Int32.ofNat pd)), .val (.int (Int32.ofNat q)), .val (.ref b6), .val (.int (((0 : Int32) + p2) + p3))] [])) _
    refine XS.aload X10.here hx rfl (hb hby at_140) rfl rfl ?_
    show Steps p.tables e below (T10.setTop (mkF m 142 #[.val (.int p1), .val (.int p2), .val (.int p3), .val (.int p4), .val (.int p5), .val (.int (Int32.ofNat n)), .val (.int (Int32.ofNat pa)), .val (.int (Int32.ofNat pb)), .val (.int (Int32.ofNat pd)), .val (.int (Int32.ofNat q)), .val (.ref b6), .val (.int (((0 : Int32) + p2) + p3))] [(.ref b6)])) _
    refine XS.iload X10.here hx rfl (hb hby at_142) rfl ?_
    show Steps p.tables e below (T10.setTop (mkF m 144 #[.val (.int p1), .val (.int p2), .val (.int p3), .val (.int p4), .val (.int p5), .val (.int (Int32.ofNat n)), .val (.int (Int32.ofNat pa)), .val (.int (Int32.ofNat pb)), .val (.int (Int32.ofNat pd)), .val (.int (Int32.ofNat q)), .val (.ref b6), .val (.int (((0 : Int32) + p2) + p3))] [(.int (Int32.ofNat q)), (.ref b6)])) _
    refine st11.trans ?_
    show Steps p.tables e below (T11.setTop (mkF m 147 #[.val (.int p1), .val (.int p2), .val (.int p3), .val (.int p4), .val (.int p5), .val (.int (Int32.ofNat n)), .val (.int (Int32.ofNat pa)), .val (.int (Int32.ofNat pb)), .val (.int (Int32.ofNat pd)), .val (.int (Int32.ofNat q)), .val (.ref b6), .val (.int (((0 : Int32) + p2) + p3))] [(.int (own_sum (own_down 6 q) (own_adds (own_up 6 (n + 1) (pd + 1)) p4 (own_adds (own_up 6 (n + 1) (pb + 1)) p3 (own_adds (own_up 6 (n + 1) (pa + 1)) p2 (fun _ => 0)))) 0))])) _
    refine XS.iload X11.here hx rfl (hb hby at_147) rfl ?_
    show Steps p.tables e below (T11.setTop (mkF m 149 #[.val (.int p1), .val (.int p2), .val (.int p3), .val (.int p4), .val (.int p5), .val (.int (Int32.ofNat n)), .val (.int (Int32.ofNat pa)), .val (.int (Int32.ofNat pb)), .val (.int (Int32.ofNat pd)), .val (.int (Int32.ofNat q)), .val (.ref b6), .val (.int (((0 : Int32) + p2) + p3))] [(.int (((0 : Int32) + p2) + p3)), (.int (own_sum (own_down 6 q) (own_adds (own_up 6 (n + 1) (pd + 1)) p4 (own_adds (own_up 6 (n + 1) (pb + 1)) p3 (own_adds (own_up 6 (n + 1) (pa + 1)) p2 (fun _ => 0)))) 0))])) _
    refine XS.icmpNo X11.here hx rfl (hb hby at_149) rfl (teq (own_ok : (own_sum (own_down 6 q) (own_adds (own_up 6 (n + 1) (pd + 1)) p4 (own_adds (own_up 6 (n + 1) (pb + 1)) p3 (own_adds (own_up 6 (n + 1) (pa + 1)) p2 (fun _ => 0)))) 0) = (((0 : Int32) + p2) + p3))).2 ?_
    show Steps p.tables e below (T11.setTop (mkF m 152 #[.val (.int p1), .val (.int p2), .val (.int p3), .val (.int p4), .val (.int p5), .val (.int (Int32.ofNat n)), .val (.int (Int32.ofNat pa)), .val (.int (Int32.ofNat pb)), .val (.int (Int32.ofNat pd)), .val (.int (Int32.ofNat q)), .val (.ref b6), .val (.int (((0 : Int32) + p2) + p3))] [])) _
    refine XS.iconst X11.here hx rfl (hb hby at_152) ?_
    show Steps p.tables e below (T11.setTop (mkF m 153 #[.val (.int p1), .val (.int p2), .val (.int p3), .val (.int p4), .val (.int p5), .val (.int (Int32.ofNat n)), .val (.int (Int32.ofNat pa)), .val (.int (Int32.ofNat pb)), .val (.int (Int32.ofNat pd)), .val (.int (Int32.ofNat q)), .val (.ref b6), .val (.int (((0 : Int32) + p2) + p3))] [(.int (1 : Int32))])) _
    refine XS.goto X11.here hx rfl (pc0 := 153) (pc' := 157) rfl (hb hby at_153) (by decide) (by decide) ?_
    show Steps p.tables e below (T11.setTop (mkF m 157 #[.val (.int p1), .val (.int p2), .val (.int p3), .val (.int p4), .val (.int p5), .val (.int (Int32.ofNat n)), .val (.int (Int32.ofNat pa)), .val (.int (Int32.ofNat pb)), .val (.int (Int32.ofNat pd)), .val (.int (Int32.ofNat q)), .val (.ref b6), .val (.int (((0 : Int32) + p2) + p3))] [(.int (1 : Int32))])) _
    exact retN X11 hx (t := .boolean) Bd.returns (by simp) (hb hby at_157) hr
  · show Q0_fftf Z p1 p2 p3 p4 p5 h0 n0 _ T11.heap _
    exact ⟨rfl, N11⟩
def Q0_ftff (Z : State) (p1 : Int32) (p2 : Int32) (p3 : Int32) (p4 : Int32) (p5 : Int32) (h0 : Heap) (n0 : Nat) (v : Option Value) (h : Heap) (L : List Loc) : Prop := v = some (.int (1 : Int32)) ∧ Fr n0 L
set_option maxRecDepth 65536 in
set_option maxHeartbeats 40000000 in
theorem rm0_ftff (l : Launch) (Z : State) (a0 : Array Value) (hw : ∀ d ∈ tables_1, d.before a0 Z = true) (ws : List Jvm.Cond) (p1 : Int32) (p2 : Int32) (p3 : Int32) (p4 : Int32) (p5 : Int32) (n pa pb pd q : Nat) (h0 : Heap) (n0 : Nat) (Z0 : n0 ≤ h0.size) (hn : n ≤ 16) (hpa : pa < n) (hpb : pb < n) (hpd : pd < n) (hq : q ≤ n) (hp9 : (((p1 &&& (255 : Int32)) % (12 : Int32)) + (1 : Int32)) = (Int32.ofNat n)) (hp22 : ((((p1.toUInt32 >>> ((8 : Int32) &&& 31).toUInt32).toInt32) &&& (255 : Int32)) % (Int32.ofNat n)) = (Int32.ofNat pa)) (hp35 : ((((p1.toUInt32 >>> ((16 : Int32) &&& 31).toUInt32).toInt32) &&& (255 : Int32)) % (Int32.ofNat n)) = (Int32.ofNat pb)) (hp48 : ((((p1.toUInt32 >>> ((24 : Int32) &&& 31).toUInt32).toInt32) &&& (255 : Int32)) % (Int32.ofNat n)) = (Int32.ofNat pd)) (hp60 : ((p5 &&& (2147483647 : Int32)) % ((Int32.ofNat n) + (1 : Int32))) = (Int32.ofNat q)) (hc105 : (Int32.ofNat pa) < (Int32.ofNat q)) (hc118 : ¬ ((Int32.ofNat pb) < (Int32.ofNat q))) (hc131 : (Int32.ofNat pd) < (Int32.ofNat q)) :
    MetFree l x (head1 (Jvm.Cond.code x code maxLocals ret :: ws) room_1) (fun a U => a = #[(.int p1), (.int p2), (.int p3), (.int p4), (.int p5)] ∧ Z.Warmed39 U.vm ∧ U.heap = h0) (fun _ _ _ _ _ => True) (fun _ U o U' => ∃ v L, o = .returned v ∧ Q0_ftff Z p1 p2 p3 p4 p5 h0 n0 v U'.heap L ∧ FrameEnd U o U' L room_1.cells room_1.slots) := by
  refine MetFree.of_bodySF (plainFor_of_name pn_0) hisR ?_
  intro p e s m args below meth c s₁ Bd hml0 hP hK
  obtain ⟨rfl, hZ, hh⟩ := hP
  have hnz22 : Int32.ofNat n ≠ (0 : Int32) := own_nz (by omega) (by omega)
  have hnz35 := hnz22
  have hnz48 := hnz22
  have hnz60 : Int32.ofNat n + (1 : Int32) ≠ (0 : Int32) := by rw [own_one]; exact own_nz (by omega) (by omega)
  have hx := Bd.exec
  have hby := Bd.bytes
  have hml : c.maxLocals = 12 := hml0
  have hown : s.vm.findClass "com/example/tallykeep/tallykeep/core/PrefixCountsBelowPinLaw" = some m.cls := findClass_of_methodNamed Bd.named
  have hnm := (name_of_methodNamed Bd.named Bd.method).1
  have X0 : Stand p l e room_1 s m #[(.int p1), (.int p2), (.int p3), (.int p4), (.int p5)] below meth c s₁ [] 0 0 := Stand.of_body Bd
  have e0 : s₁.heap = h0 := by rw [← hh, Bd.state]; rfl
  have N0 := Fr.nil n0
  have pre0 : ∀ t, Steps p.tables e below (s₁.setTop (mkF m 0 #[.val (.int p1), .val (.int p2), .val (.int p3), .val (.int p4), .val (.int p5), .unset, .unset, .unset, .unset, .unset, .unset, .unset] [])) t → Steps p.tables e below (s₁.setTop (entryFrame m #[(.int p1), (.int p2), (.int p3), (.int p4), (.int p5)] maxLocals)) t := fun t k => castTop (ef_0 m p1 p2 p3 p4 p5) k
  obtain ⟨T6, h6, X6, e6, E6, A6, D6, -, st6⟩ := newO X0 hx hZ hown (hw _ (List.mem_of_getElem? (i := 1) rfl)) (hw _ (List.mem_of_getElem? (i := 2) rfl)) (hw _ (List.mem_of_getElem? (i := 3) rfl)) e0 (g := (mkF m 63 #[.val (.int p1), .val (.int p2), .val (.int p3), .val (.int p4), .val (.int p5), .val (.int (Int32.ofNat n)), .val (.int (Int32.ofNat pa)), .val (.int (Int32.ofNat pb)), .val (.int (Int32.ofNat pd)), .val (.int (Int32.ofNat q)), .unset, .unset] [])) rfl (hb hby at_63) (by decide) (by decide)
  obtain ⟨b6, g6⟩ : ∃ z, z = h0.size := ⟨_, rfl⟩
  rw [← g6] at A6 D6 st6
  have F_cells_b6 : Fld Z h6 b6 "com/example/tallykeep/tallykeep/core/PrefixCounts" "cells" "[I" .null := D6 (Or.inr (hw _ (List.mem_of_getElem? (i := 12) rfl))) (ty := (.array .int)) (by decide)
  have E_b6 := A6
  have g_b6 : n0 ≤ b6 := Nat.le_trans Z0 (Nat.le_of_eq g6.symm)
  have sz_b6 : h0.size ≤ b6 := (Nat.le_trans (Keep.refl h0 []).1 (Nat.le_of_eq g6.symm))
  have K6 : Keep h0 h6 [] := (Keep.refl h0 []).ext E6
  obtain ⟨_, _, ⟨T7, L7, k7, n7⟩, -, X7, ⟨Lc7, hQ7, l7, y7, z7⟩, st7⟩ := X6.specialBack hx (y := (⟨"com/example/tallykeep/tallykeep/core/PrefixCounts", "<init>", "(I)V"⟩ : MethodName)) rfl hown (mvT hZ (hw _ (List.mem_of_getElem? (i := 4) rfl))) (mvT hZ (hw _ (List.mem_of_getElem? (i := 5) rfl))) (mvT hZ (hw _ (List.mem_of_getElem? (i := 6) rfl))) (by decide) (backOf (W := 1) (rm1 l Z a0 hw [] b6 n .null h6 n0 (Nat.le_trans Z0 K6.1) E_b6 F_cells_b6 g_b6 hn) hZ (hw _ (List.mem_of_getElem? (i := 6) rfl)) (hw _ (List.mem_of_getElem? (i := 3) rfl)) (by decide) (by decide)) (g := (mkF m 69 #[.val (.int p1), .val (.int p2), .val (.int p3), .val (.int p4), .val (.int p5), .val (.int (Int32.ofNat n)), .val (.int (Int32.ofNat pa)), .val (.int (Int32.ofNat pb)), .val (.int (Int32.ofNat pd)), .val (.int (Int32.ofNat q)), .unset, .unset] [(.int (Int32.ofNat n)), (.ref b6), (.ref b6)])) rfl (by rw [hml]; rfl) (Steps.refl _) (a := b6) (argsL := [(.int (Int32.ofNat n))]) (rest := [(.ref b6)]) (lenOf pd_0_0 rfl) rfl (by show 2 * 0 + _ ≤ _; exact Nat.le_of_eq rfl) (hb hby at_69) (fun _ _ => ⟨rfl, e6, (Nat.le_of_ble_eq_true rfl), (Nat.le_of_ble_eq_true rfl)⟩)
  dsimp only [Pt.U, Pt.locs, Pt.cells, Pt.slots] at X7 l7 y7 z7 st7 hQ7
  subst l7 y7 z7
  obtain ⟨rfl, N7q, K7c, E7c, bC, szC, FC, VC⟩ := hQ7
  have g_bC : n0 ≤ bC := Nat.le_trans (Nat.le_trans Z0 K6.1) szC
  have ne_oC : b6 ≠ bC := Nat.ne_of_lt (Nat.lt_of_lt_of_le E_b6.lt szC)
  have Z7 : n0 ≤ T7.heap.size := Nat.le_trans (Nat.le_trans Z0 K6.1) K7c.1
  have N7 := Fr.app N0 N7q
  obtain ⟨cq8, kq8, q8a, q8b, q8c⟩ := isOf hZ rfl (E_b6.keep K7c)
  obtain ⟨_, _, ⟨T8, L8, k8, n8⟩, -, X8, ⟨Lc8, hQ8, l8, y8, z8⟩, st8⟩ := X7.virtualBack hx (y := (⟨"com/example/tallykeep/tallykeep/core/PrefixCounts", "add", "(II)V"⟩ : MethodName)) (z := (⟨"com/example/tallykeep/tallykeep/core/PrefixCounts", "add", "(II)V"⟩ : MethodName)) hown (mvT hZ (hw _ (List.mem_of_getElem? (i := 13) rfl))) (mvT hZ (hw _ (List.mem_of_getElem? (i := 14) rfl))) (notFace_of_selects (args := #[]) (mvT hZ (hw _ (List.mem_of_getElem? (i := 16) rfl)))) (mvT hZ (hw _ (List.mem_of_getElem? (i := 16) rfl))) (mvT hZ (hw _ (List.mem_of_getElem? (i := 15) rfl))) (by decide) (backOf (W := 0) (rm3 l Z a0 hw [] b6 pa p2 bC (n + 1) _ T7.heap n0 Z7 FC VC (by omega) (by omega) g_bC ne_oC) hZ (hw _ (List.mem_of_getElem? (i := 17) rfl)) (hw _ (List.mem_of_getElem? (i := 3) rfl)) (by decide) (by decide)) q8a q8c (g := (mkF m 79 #[.val (.int p1), .val (.int p2), .val (.int p3), .val (.int p4), .val (.int p5), .val (.int (Int32.ofNat n)), .val (.int (Int32.ofNat pa)), .val (.int (Int32.ofNat pb)), .val (.int (Int32.ofNat pd)), .val (.int (Int32.ofNat q)), .val (.ref b6), .unset] [(.int p2), (.int (Int32.ofNat pa)), (.ref b6)])) rfl (by rw [hml]; rfl) (Steps.refl _) (argsL := [(.int (Int32.ofNat pa)), (.int p2)]) (rest := []) (lenOf pd_0_2 rfl) rfl (by show 2 * 0 + _ ≤ _; exact Nat.le_of_eq rfl) (hb hby at_79) (fun _ _ => ⟨rfl, rfl, (Nat.le_of_ble_eq_true rfl), (Nat.le_of_ble_eq_true rfl)⟩)
  dsimp only [Pt.U, Pt.locs, Pt.cells, Pt.slots] at X8 l8 y8 z8 st8 hQ8
  subst l8 y8 z8
  obtain ⟨rfl, N8q, K8c, V8c⟩ := hQ8
  have F8c := FC.keep K8c (ninS ne_oC nin0)
  have Z8 : n0 ≤ T8.heap.size := Nat.le_trans Z7 K8c.1
  have N8 := Fr.app N7 N8q
  obtain ⟨cq9, kq9, q9a, q9b, q9c⟩ := isOf hZ rfl ((E_b6.keep K7c).keep K8c)
  obtain ⟨_, _, ⟨T9, L9, k9, n9⟩, -, X9, ⟨Lc9, hQ9, l9, y9, z9⟩, st9⟩ := X8.virtualBack hx (y := (⟨"com/example/tallykeep/tallykeep/core/PrefixCounts", "add", "(II)V"⟩ : MethodName)) (z := (⟨"com/example/tallykeep/tallykeep/core/PrefixCounts", "add", "(II)V"⟩ : MethodName)) hown (mvT hZ (hw _ (List.mem_of_getElem? (i := 13) rfl))) (mvT hZ (hw _ (List.mem_of_getElem? (i := 14) rfl))) (notFace_of_selects (args := #[]) (mvT hZ (hw _ (List.mem_of_getElem? (i := 16) rfl)))) (mvT hZ (hw _ (List.mem_of_getElem? (i := 16) rfl))) (mvT hZ (hw _ (List.mem_of_getElem? (i := 15) rfl))) (by decide) (backOf (W := 0) (rm3 l Z a0 hw [] b6 pb p3 bC (n + 1) _ T8.heap n0 Z8 F8c V8c (by omega) (by omega) g_bC ne_oC) hZ (hw _ (List.mem_of_getElem? (i := 17) rfl)) (hw _ (List.mem_of_getElem? (i := 3) rfl)) (by decide) (by decide)) q9a q9c (g := (mkF m 87 #[.val (.int p1), .val (.int p2), .val (.int p3), .val (.int p4), .val (.int p5), .val (.int (Int32.ofNat n)), .val (.int (Int32.ofNat pa)), .val (.int (Int32.ofNat pb)), .val (.int (Int32.ofNat pd)), .val (.int (Int32.ofNat q)), .val (.ref b6), .unset] [(.int p3), (.int (Int32.ofNat pb)), (.ref b6)])) rfl (by rw [hml]; rfl) (Steps.refl _) (argsL := [(.int (Int32.ofNat pb)), (.int p3)]) (rest := []) (lenOf pd_0_2 rfl) rfl (by show 2 * 0 + _ ≤ _; exact Nat.le_of_eq rfl) (hb hby at_87) (fun _ _ => ⟨rfl, rfl, (Nat.le_of_ble_eq_true rfl), (Nat.le_of_ble_eq_true rfl)⟩)
  dsimp only [Pt.U, Pt.locs, Pt.cells, Pt.slots] at X9 l9 y9 z9 st9 hQ9
  subst l9 y9 z9
  obtain ⟨rfl, N9q, K9c, V9c⟩ := hQ9
  have F9c := F8c.keep K9c (ninS ne_oC nin0)
  have Z9 : n0 ≤ T9.heap.size := Nat.le_trans Z8 K9c.1
  have N9 := Fr.app N8 N9q
  obtain ⟨cq10, kq10, q10a, q10b, q10c⟩ := isOf hZ rfl (((E_b6.keep K7c).keep K8c).keep K9c)
  obtain ⟨_, _, ⟨T10, L10, k10, n10⟩, -, X10, ⟨Lc10, hQ10, l10, y10, z10⟩, st10⟩ := X9.virtualBack hx (y := (⟨"com/example/tallykeep/tallykeep/core/PrefixCounts", "add", "(II)V"⟩ : MethodName)) (z := (⟨"com/example/tallykeep/tallykeep/core/PrefixCounts", "add", "(II)V"⟩ : MethodName)) hown (mvT hZ (hw _ (List.mem_of_getElem? (i := 13) rfl))) (mvT hZ (hw _ (List.mem_of_getElem? (i := 14) rfl))) (notFace_of_selects (args := #[]) (mvT hZ (hw _ (List.mem_of_getElem? (i := 16) rfl)))) (mvT hZ (hw _ (List.mem_of_getElem? (i := 16) rfl))) (mvT hZ (hw _ (List.mem_of_getElem? (i := 15) rfl))) (by decide) (backOf (W := 0) (rm3 l Z a0 hw [] b6 pd p4 bC (n + 1) _ T9.heap n0 Z9 F9c V9c (by omega) (by omega) g_bC ne_oC) hZ (hw _ (List.mem_of_getElem? (i := 17) rfl)) (hw _ (List.mem_of_getElem? (i := 3) rfl)) (by decide) (by decide)) q10a q10c (g := (mkF m 95 #[.val (.int p1), .val (.int p2), .val (.int p3), .val (.int p4), .val (.int p5), .val (.int (Int32.ofNat n)), .val (.int (Int32.ofNat pa)), .val (.int (Int32.ofNat pb)), .val (.int (Int32.ofNat pd)), .val (.int (Int32.ofNat q)), .val (.ref b6), .unset] [(.int p4), (.int (Int32.ofNat pd)), (.ref b6)])) rfl (by rw [hml]; rfl) (Steps.refl _) (argsL := [(.int (Int32.ofNat pd)), (.int p4)]) (rest := []) (lenOf pd_0_2 rfl) rfl (by show 2 * 0 + _ ≤ _; exact Nat.le_of_eq rfl) (hb hby at_95) (fun _ _ => ⟨rfl, rfl, (Nat.le_of_ble_eq_true rfl), (Nat.le_of_ble_eq_true rfl)⟩)
  dsimp only [Pt.U, Pt.locs, Pt.cells, Pt.slots] at X10 l10 y10 z10 st10 hQ10
  subst l10 y10 z10
  obtain ⟨rfl, N10q, K10c, V10c⟩ := hQ10
  have F10c := F9c.keep K10c (ninS ne_oC nin0)
  have Z10 : n0 ≤ T10.heap.size := Nat.le_trans Z9 K10c.1
  have N10 := Fr.app N9 N10q
  obtain ⟨cq11, kq11, q11a, q11b, q11c⟩ := isOf hZ rfl ((((E_b6.keep K7c).keep K8c).keep K9c).keep K10c)
  obtain ⟨_, _, ⟨T11, L11, k11, n11⟩, -, X11, ⟨Lc11, hQ11, l11, y11, z11⟩, st11⟩ := X10.virtualBack hx (y := (⟨"com/example/tallykeep/tallykeep/core/PrefixCounts", "below", "(I)I"⟩ : MethodName)) (z := (⟨"com/example/tallykeep/tallykeep/core/PrefixCounts", "below", "(I)I"⟩ : MethodName)) hown (mvT hZ (hw _ (List.mem_of_getElem? (i := 18) rfl))) (mvT hZ (hw _ (List.mem_of_getElem? (i := 19) rfl))) (notFace_of_selects (args := #[]) (mvT hZ (hw _ (List.mem_of_getElem? (i := 21) rfl)))) (mvT hZ (hw _ (List.mem_of_getElem? (i := 21) rfl))) (mvT hZ (hw _ (List.mem_of_getElem? (i := 20) rfl))) (by decide) (backOf (W := 0) (rm4 l Z a0 hw [] b6 q bC (n + 1) _ T10.heap n0 Z10 F10c V10c (by omega) (by omega)) hZ (hw _ (List.mem_of_getElem? (i := 22) rfl)) (hw _ (List.mem_of_getElem? (i := 3) rfl)) (by decide) (by decide)) q11a q11c (g := (mkF m 144 #[.val (.int p1), .val (.int p2), .val (.int p3), .val (.int p4), .val (.int p5), .val (.int (Int32.ofNat n)), .val (.int (Int32.ofNat pa)), .val (.int (Int32.ofNat pb)), .val (.int (Int32.ofNat pd)), .val (.int (Int32.ofNat q)), .val (.ref b6), .val (.int (((0 : Int32) + p2) + p4))] [(.int (Int32.ofNat q)), (.ref b6)])) rfl (by rw [hml]; rfl) (Steps.refl _) (argsL := [(.int (Int32.ofNat q))]) (rest := []) (lenOf pd_0_3 rfl) rfl (by show 2 * 0 + _ ≤ _; exact Nat.le_of_eq rfl) (hb hby at_144) (fun _ _ => ⟨rfl, rfl, (Nat.le_of_ble_eq_true rfl), (Nat.le_of_ble_eq_true rfl)⟩)
  dsimp only [Pt.U, Pt.locs, Pt.cells, Pt.slots] at X11 l11 y11 z11 st11 hQ11
  subst l11 y11 z11
  obtain ⟨rfl, N11q, e11⟩ := hQ11
  have N11 := Fr.app N10 N11q
  have own_ok : (own_sum (own_down 6 q) (own_adds (own_up 6 (n + 1) (pd + 1)) p4 (own_adds (own_up 6 (n + 1) (pb + 1)) p3 (own_adds (own_up 6 (n + 1) (pa + 1)) p2 (fun _ => 0)))) 0) = (((0 : Int32) + p2) + p4) := by
    rw [own_final3 hn hpa hpb hpd hq]
    rw [if_pos ((own_lt (by omega) (by omega)).mp hc105)]
    rw [if_neg (fun z => hc118 ((own_lt (by omega) (by omega)).mpr z))]
    rw [if_pos ((own_lt (by omega) (by omega)).mp hc131)]
    all_goals simp
  obtain ⟨fs, hr, hrun, hended, hW, hsame⟩ := X11.leave (v := some (.int (1 : Int32))) (fun h => by rw [Bd.returns] at h; cases h)
  refine ⟨_, _, pre0 _ ?_, hrun, hended, _, _, rfl, ?_, ⟨_, rfl⟩, hW, hsame.mono (by decide) (by decide)⟩
  · show Steps p.tables e below (s₁.setTop (mkF m 0 #[.val (.int p1), .val (.int p2), .val (.int p3), .val (.int p4), .val (.int p5), .unset, .unset, .unset, .unset, .unset, .unset, .unset] [])) _
    refine XS.iloadN X0.here hx rfl (hb hby at_0) rfl ?_
    show Steps p.tables e below (s₁.setTop (mkF m 1 #[.val (.int p1), .val (.int p2), .val (.int p3), .val (.int p4), .val (.int p5), .unset, .unset, .unset, .unset, .unset, .unset, .unset] [(.int p1)])) _
    refine XS.sipush X0.here hx rfl (hb hby at_1) ?_
    show Steps p.tables e below (s₁.setTop (mkF m 4 #[.val (.int p1), .val (.int p2), .val (.int p3), .val (.int p4), .val (.int p5), .unset, .unset, .unset, .unset, .unset, .unset, .unset] [(.int (255 : Int32)), (.int p1)])) _
    refine XS.iand X0.here hx rfl (hb hby at_4) rfl ?_
    show Steps p.tables e below (s₁.setTop (mkF m 5 #[.val (.int p1), .val (.int p2), .val (.int p3), .val (.int p4), .val (.int p5), .unset, .unset, .unset, .unset, .unset, .unset, .unset] [(.int (p1 &&& (255 : Int32)))])) _
    refine XS.bipush X0.here hx rfl (hb hby at_5) ?_
    show Steps p.tables e below (s₁.setTop (mkF m 7 #[.val (.int p1), .val (.int p2), .val (.int p3), .val (.int p4), .val (.int p5), .unset, .unset, .unset, .unset, .unset, .unset, .unset] [(.int (12 : Int32)), (.int (p1 &&& (255 : Int32)))])) _
    refine iremM X0 hx rfl (hb hby at_7) rfl (by decide) ?_
    show Steps p.tables e below (s₁.setTop (mkF m 8 #[.val (.int p1), .val (.int p2), .val (.int p3), .val (.int p4), .val (.int p5), .unset, .unset, .unset, .unset, .unset, .unset, .unset] [(.int ((p1 &&& (255 : Int32)) % (12 : Int32)))])) _
    refine XS.iconst X0.here hx rfl (hb hby at_8) ?_
    show Steps p.tables e below (s₁.setTop (mkF m 9 #[.val (.int p1), .val (.int p2), .val (.int p3), .val (.int p4), .val (.int p5), .unset, .unset, .unset, .unset, .unset, .unset, .unset] [(.int (1 : Int32)), (.int ((p1 &&& (255 : Int32)) % (12 : Int32)))])) _
    refine XS.iadd X0.here hx rfl (hb hby at_9) rfl ?_
    rw [hp9]
    show Steps p.tables e below (s₁.setTop (mkF m 10 #[.val (.int p1), .val (.int p2), .val (.int p3), .val (.int p4), .val (.int p5), .unset, .unset, .unset, .unset, .unset, .unset, .unset] [(.int (Int32.ofNat n))])) _
    refine XS.istore X0.here hx rfl (hb hby at_10) rfl (l' := #[.val (.int p1), .val (.int p2), .val (.int p3), .val (.int p4), .val (.int p5), .val (.int (Int32.ofNat n)), .unset, .unset, .unset, .unset, .unset, .unset]) rfl ?_
    show Steps p.tables e below (s₁.setTop (mkF m 12 #[.val (.int p1), .val (.int p2), .val (.int p3), .val (.int p4), .val (.int p5), .val (.int (Int32.ofNat n)), .unset, .unset, .unset, .unset, .unset, .unset] [])) _
    refine XS.iloadN X0.here hx rfl (hb hby at_12) rfl ?_
    show Steps p.tables e below (s₁.setTop (mkF m 13 #[.val (.int p1), .val (.int p2), .val (.int p3), .val (.int p4), .val (.int p5), .val (.int (Int32.ofNat n)), .unset, .unset, .unset, .unset, .unset, .unset] [(.int p1)])) _
    refine XS.bipush X0.here hx rfl (hb hby at_13) ?_
    show Steps p.tables e below (s₁.setTop (mkF m 15 #[.val (.int p1), .val (.int p2), .val (.int p3), .val (.int p4), .val (.int p5), .val (.int (Int32.ofNat n)), .unset, .unset, .unset, .unset, .unset, .unset] [(.int (8 : Int32)), (.int p1)])) _
    refine XS.iushr X0.here hx rfl (hb hby at_15) rfl ?_
    show Steps p.tables e below (s₁.setTop (mkF m 16 #[.val (.int p1), .val (.int p2), .val (.int p3), .val (.int p4), .val (.int p5), .val (.int (Int32.ofNat n)), .unset, .unset, .unset, .unset, .unset, .unset] [(.int ((p1.toUInt32 >>> ((8 : Int32) &&& 31).toUInt32).toInt32))])) _
    refine XS.sipush X0.here hx rfl (hb hby at_16) ?_
    show Steps p.tables e below (s₁.setTop (mkF m 19 #[.val (.int p1), .val (.int p2), .val (.int p3), .val (.int p4), .val (.int p5), .val (.int (Int32.ofNat n)), .unset, .unset, .unset, .unset, .unset, .unset] [(.int (255 : Int32)), (.int ((p1.toUInt32 >>> ((8 : Int32) &&& 31).toUInt32).toInt32))])) _
    refine XS.iand X0.here hx rfl (hb hby at_19) rfl ?_
    show Steps p.tables e below (s₁.setTop (mkF m 20 #[.val (.int p1), .val (.int p2), .val (.int p3), .val (.int p4), .val (.int p5), .val (.int (Int32.ofNat n)), .unset, .unset, .unset, .unset, .unset, .unset] [(.int (((p1.toUInt32 >>> ((8 : Int32) &&& 31).toUInt32).toInt32) &&& (255 : Int32)))])) _
    refine XS.iload X0.here hx rfl (hb hby at_20) rfl ?_
    show Steps p.tables e below (s₁.setTop (mkF m 22 #[.val (.int p1), .val (.int p2), .val (.int p3), .val (.int p4), .val (.int p5), .val (.int (Int32.ofNat n)), .unset, .unset, .unset, .unset, .unset, .unset] [(.int (Int32.ofNat n)), (.int (((p1.toUInt32 >>> ((8 : Int32) &&& 31).toUInt32).toInt32) &&& (255 : Int32)))])) _
    refine iremM X0 hx rfl (hb hby at_22) rfl hnz22 ?_
    rw [hp22]
    show Steps p.tables e below (s₁.setTop (mkF m 23 #[.val (.int p1), .val (.int p2), .val (.int p3), .val (.int p4), .val (.int p5), .val (.int (Int32.ofNat n)), .unset, .unset, .unset, .unset, .unset, .unset] [(.int (Int32.ofNat pa))])) _
    refine XS.istore X0.here hx rfl (hb hby at_23) rfl (l' := #[.val (.int p1), .val (.int p2), .val (.int p3), .val (.int p4), .val (.int p5), .val (.int (Int32.ofNat n)), .val (.int (Int32.ofNat pa)), .unset, .unset, .unset, .unset, .unset]) rfl ?_
    show Steps p.tables e below (s₁.setTop (mkF m 25 #[.val (.int p1), .val (.int p2), .val (.int p3), .val (.int p4), .val (.int p5), .val (.int (Int32.ofNat n)), .val (.int (Int32.ofNat pa)), .unset, .unset, .unset, .unset, .unset] [])) _
    refine XS.iloadN X0.here hx rfl (hb hby at_25) rfl ?_
    show Steps p.tables e below (s₁.setTop (mkF m 26 #[.val (.int p1), .val (.int p2), .val (.int p3), .val (.int p4), .val (.int p5), .val (.int (Int32.ofNat n)), .val (.int (Int32.ofNat pa)), .unset, .unset, .unset, .unset, .unset] [(.int p1)])) _
    refine XS.bipush X0.here hx rfl (hb hby at_26) ?_
    show Steps p.tables e below (s₁.setTop (mkF m 28 #[.val (.int p1), .val (.int p2), .val (.int p3), .val (.int p4), .val (.int p5), .val (.int (Int32.ofNat n)), .val (.int (Int32.ofNat pa)), .unset, .unset, .unset, .unset, .unset] [(.int (16 : Int32)), (.int p1)])) _
    refine XS.iushr X0.here hx rfl (hb hby at_28) rfl ?_
    show Steps p.tables e below (s₁.setTop (mkF m 29 #[.val (.int p1), .val (.int p2), .val (.int p3), .val (.int p4), .val (.int p5), .val (.int (Int32.ofNat n)), .val (.int (Int32.ofNat pa)), .unset, .unset, .unset, .unset, .unset] [(.int ((p1.toUInt32 >>> ((16 : Int32) &&& 31).toUInt32).toInt32))])) _
    refine XS.sipush X0.here hx rfl (hb hby at_29) ?_
    show Steps p.tables e below (s₁.setTop (mkF m 32 #[.val (.int p1), .val (.int p2), .val (.int p3), .val (.int p4), .val (.int p5), .val (.int (Int32.ofNat n)), .val (.int (Int32.ofNat pa)), .unset, .unset, .unset, .unset, .unset] [(.int (255 : Int32)), (.int ((p1.toUInt32 >>> ((16 : Int32) &&& 31).toUInt32).toInt32))])) _
    refine XS.iand X0.here hx rfl (hb hby at_32) rfl ?_
    show Steps p.tables e below (s₁.setTop (mkF m 33 #[.val (.int p1), .val (.int p2), .val (.int p3), .val (.int p4), .val (.int p5), .val (.int (Int32.ofNat n)), .val (.int (Int32.ofNat pa)), .unset, .unset, .unset, .unset, .unset] [(.int (((p1.toUInt32 >>> ((16 : Int32) &&& 31).toUInt32).toInt32) &&& (255 : Int32)))])) _
    refine XS.iload X0.here hx rfl (hb hby at_33) rfl ?_
    show Steps p.tables e below (s₁.setTop (mkF m 35 #[.val (.int p1), .val (.int p2), .val (.int p3), .val (.int p4), .val (.int p5), .val (.int (Int32.ofNat n)), .val (.int (Int32.ofNat pa)), .unset, .unset, .unset, .unset, .unset] [(.int (Int32.ofNat n)), (.int (((p1.toUInt32 >>> ((16 : Int32) &&& 31).toUInt32).toInt32) &&& (255 : Int32)))])) _
    refine iremM X0 hx rfl (hb hby at_35) rfl hnz35 ?_
    rw [hp35]
    show Steps p.tables e below (s₁.setTop (mkF m 36 #[.val (.int p1), .val (.int p2), .val (.int p3), .val (.int p4), .val (.int p5), .val (.int (Int32.ofNat n)), .val (.int (Int32.ofNat pa)), .unset, .unset, .unset, .unset, .unset] [(.int (Int32.ofNat pb))])) _
    refine XS.istore X0.here hx rfl (hb hby at_36) rfl (l' := #[.val (.int p1), .val (.int p2), .val (.int p3), .val (.int p4), .val (.int p5), .val (.int (Int32.ofNat n)), .val (.int (Int32.ofNat pa)), .val (.int (Int32.ofNat pb)), .unset, .unset, .unset, .unset]) rfl ?_
    show Steps p.tables e below (s₁.setTop (mkF m 38 #[.val (.int p1), .val (.int p2), .val (.int p3), .val (.int p4), .val (.int p5), .val (.int (Int32.ofNat n)), .val (.int (Int32.ofNat pa)), .val (.int (Int32.ofNat pb)), .unset, .unset, .unset, .unset] [])) _
    refine XS.iloadN X0.here hx rfl (hb hby at_38) rfl ?_
    show Steps p.tables e below (s₁.setTop (mkF m 39 #[.val (.int p1), .val (.int p2), .val (.int p3), .val (.int p4), .val (.int p5), .val (.int (Int32.ofNat n)), .val (.int (Int32.ofNat pa)), .val (.int (Int32.ofNat pb)), .unset, .unset, .unset, .unset] [(.int p1)])) _
    refine XS.bipush X0.here hx rfl (hb hby at_39) ?_
    show Steps p.tables e below (s₁.setTop (mkF m 41 #[.val (.int p1), .val (.int p2), .val (.int p3), .val (.int p4), .val (.int p5), .val (.int (Int32.ofNat n)), .val (.int (Int32.ofNat pa)), .val (.int (Int32.ofNat pb)), .unset, .unset, .unset, .unset] [(.int (24 : Int32)), (.int p1)])) _
    refine XS.iushr X0.here hx rfl (hb hby at_41) rfl ?_
    show Steps p.tables e below (s₁.setTop (mkF m 42 #[.val (.int p1), .val (.int p2), .val (.int p3), .val (.int p4), .val (.int p5), .val (.int (Int32.ofNat n)), .val (.int (Int32.ofNat pa)), .val (.int (Int32.ofNat pb)), .unset, .unset, .unset, .unset] [(.int ((p1.toUInt32 >>> ((24 : Int32) &&& 31).toUInt32).toInt32))])) _
    refine XS.sipush X0.here hx rfl (hb hby at_42) ?_
    show Steps p.tables e below (s₁.setTop (mkF m 45 #[.val (.int p1), .val (.int p2), .val (.int p3), .val (.int p4), .val (.int p5), .val (.int (Int32.ofNat n)), .val (.int (Int32.ofNat pa)), .val (.int (Int32.ofNat pb)), .unset, .unset, .unset, .unset] [(.int (255 : Int32)), (.int ((p1.toUInt32 >>> ((24 : Int32) &&& 31).toUInt32).toInt32))])) _
    refine XS.iand X0.here hx rfl (hb hby at_45) rfl ?_
    show Steps p.tables e below (s₁.setTop (mkF m 46 #[.val (.int p1), .val (.int p2), .val (.int p3), .val (.int p4), .val (.int p5), .val (.int (Int32.ofNat n)), .val (.int (Int32.ofNat pa)), .val (.int (Int32.ofNat pb)), .unset, .unset, .unset, .unset] [(.int (((p1.toUInt32 >>> ((24 : Int32) &&& 31).toUInt32).toInt32) &&& (255 : Int32)))])) _
    refine XS.iload X0.here hx rfl (hb hby at_46) rfl ?_
    show Steps p.tables e below (s₁.setTop (mkF m 48 #[.val (.int p1), .val (.int p2), .val (.int p3), .val (.int p4), .val (.int p5), .val (.int (Int32.ofNat n)), .val (.int (Int32.ofNat pa)), .val (.int (Int32.ofNat pb)), .unset, .unset, .unset, .unset] [(.int (Int32.ofNat n)), (.int (((p1.toUInt32 >>> ((24 : Int32) &&& 31).toUInt32).toInt32) &&& (255 : Int32)))])) _
    refine iremM X0 hx rfl (hb hby at_48) rfl hnz48 ?_
    rw [hp48]
    show Steps p.tables e below (s₁.setTop (mkF m 49 #[.val (.int p1), .val (.int p2), .val (.int p3), .val (.int p4), .val (.int p5), .val (.int (Int32.ofNat n)), .val (.int (Int32.ofNat pa)), .val (.int (Int32.ofNat pb)), .unset, .unset, .unset, .unset] [(.int (Int32.ofNat pd))])) _
    refine XS.istore X0.here hx rfl (hb hby at_49) rfl (l' := #[.val (.int p1), .val (.int p2), .val (.int p3), .val (.int p4), .val (.int p5), .val (.int (Int32.ofNat n)), .val (.int (Int32.ofNat pa)), .val (.int (Int32.ofNat pb)), .val (.int (Int32.ofNat pd)), .unset, .unset, .unset]) rfl ?_
    show Steps p.tables e below (s₁.setTop (mkF m 51 #[.val (.int p1), .val (.int p2), .val (.int p3), .val (.int p4), .val (.int p5), .val (.int (Int32.ofNat n)), .val (.int (Int32.ofNat pa)), .val (.int (Int32.ofNat pb)), .val (.int (Int32.ofNat pd)), .unset, .unset, .unset] [])) _
    refine XS.iload X0.here hx rfl (hb hby at_51) rfl ?_
    show Steps p.tables e below (s₁.setTop (mkF m 53 #[.val (.int p1), .val (.int p2), .val (.int p3), .val (.int p4), .val (.int p5), .val (.int (Int32.ofNat n)), .val (.int (Int32.ofNat pa)), .val (.int (Int32.ofNat pb)), .val (.int (Int32.ofNat pd)), .unset, .unset, .unset] [(.int p5)])) _
    refine X0.ldcInt hx hown (mvT hZ (hw _ (List.mem_of_getElem? (i := 0) rfl))) (g := (mkF m 53 #[.val (.int p1), .val (.int p2), .val (.int p3), .val (.int p4), .val (.int p5), .val (.int (Int32.ofNat n)), .val (.int (Int32.ofNat pa)), .val (.int (Int32.ofNat pb)), .val (.int (Int32.ofNat pd)), .unset, .unset, .unset] [(.int p5)])) rfl (hb hby at_53) _ ?_
    show Steps p.tables e below (s₁.setTop (mkF m 55 #[.val (.int p1), .val (.int p2), .val (.int p3), .val (.int p4), .val (.int p5), .val (.int (Int32.ofNat n)), .val (.int (Int32.ofNat pa)), .val (.int (Int32.ofNat pb)), .val (.int (Int32.ofNat pd)), .unset, .unset, .unset] [(.int (2147483647 : Int32)), (.int p5)])) _
    refine XS.iand X0.here hx rfl (hb hby at_55) rfl ?_
    show Steps p.tables e below (s₁.setTop (mkF m 56 #[.val (.int p1), .val (.int p2), .val (.int p3), .val (.int p4), .val (.int p5), .val (.int (Int32.ofNat n)), .val (.int (Int32.ofNat pa)), .val (.int (Int32.ofNat pb)), .val (.int (Int32.ofNat pd)), .unset, .unset, .unset] [(.int (p5 &&& (2147483647 : Int32)))])) _
    refine XS.iload X0.here hx rfl (hb hby at_56) rfl ?_
    show Steps p.tables e below (s₁.setTop (mkF m 58 #[.val (.int p1), .val (.int p2), .val (.int p3), .val (.int p4), .val (.int p5), .val (.int (Int32.ofNat n)), .val (.int (Int32.ofNat pa)), .val (.int (Int32.ofNat pb)), .val (.int (Int32.ofNat pd)), .unset, .unset, .unset] [(.int (Int32.ofNat n)), (.int (p5 &&& (2147483647 : Int32)))])) _
    refine XS.iconst X0.here hx rfl (hb hby at_58) ?_
    show Steps p.tables e below (s₁.setTop (mkF m 59 #[.val (.int p1), .val (.int p2), .val (.int p3), .val (.int p4), .val (.int p5), .val (.int (Int32.ofNat n)), .val (.int (Int32.ofNat pa)), .val (.int (Int32.ofNat pb)), .val (.int (Int32.ofNat pd)), .unset, .unset, .unset] [(.int (1 : Int32)), (.int (Int32.ofNat n)), (.int (p5 &&& (2147483647 : Int32)))])) _
    refine XS.iadd X0.here hx rfl (hb hby at_59) rfl ?_
    show Steps p.tables e below (s₁.setTop (mkF m 60 #[.val (.int p1), .val (.int p2), .val (.int p3), .val (.int p4), .val (.int p5), .val (.int (Int32.ofNat n)), .val (.int (Int32.ofNat pa)), .val (.int (Int32.ofNat pb)), .val (.int (Int32.ofNat pd)), .unset, .unset, .unset] [(.int ((Int32.ofNat n) + (1 : Int32))), (.int (p5 &&& (2147483647 : Int32)))])) _
    refine iremM X0 hx rfl (hb hby at_60) rfl hnz60 ?_
    rw [hp60]
    show Steps p.tables e below (s₁.setTop (mkF m 61 #[.val (.int p1), .val (.int p2), .val (.int p3), .val (.int p4), .val (.int p5), .val (.int (Int32.ofNat n)), .val (.int (Int32.ofNat pa)), .val (.int (Int32.ofNat pb)), .val (.int (Int32.ofNat pd)), .unset, .unset, .unset] [(.int (Int32.ofNat q))])) _
    refine XS.istore X0.here hx rfl (hb hby at_61) rfl (l' := #[.val (.int p1), .val (.int p2), .val (.int p3), .val (.int p4), .val (.int p5), .val (.int (Int32.ofNat n)), .val (.int (Int32.ofNat pa)), .val (.int (Int32.ofNat pb)), .val (.int (Int32.ofNat pd)), .val (.int (Int32.ofNat q)), .unset, .unset]) rfl ?_
    show Steps p.tables e below (s₁.setTop (mkF m 63 #[.val (.int p1), .val (.int p2), .val (.int p3), .val (.int p4), .val (.int p5), .val (.int (Int32.ofNat n)), .val (.int (Int32.ofNat pa)), .val (.int (Int32.ofNat pb)), .val (.int (Int32.ofNat pd)), .val (.int (Int32.ofNat q)), .unset, .unset] [])) _
    refine st6 _ ?_
    show Steps p.tables e below (T6.setTop (mkF m 66 #[.val (.int p1), .val (.int p2), .val (.int p3), .val (.int p4), .val (.int p5), .val (.int (Int32.ofNat n)), .val (.int (Int32.ofNat pa)), .val (.int (Int32.ofNat pb)), .val (.int (Int32.ofNat pd)), .val (.int (Int32.ofNat q)), .unset, .unset] [(.ref b6)])) _
    refine XS.dup X6.here hx rfl (hb hby at_66) rfl rfl ?_
    show Steps p.tables e below (T6.setTop (mkF m 67 #[.val (.int p1), .val (.int p2), .val (.int p3), .val (.int p4), .val (.int p5), .val (.int (Int32.ofNat n)), .val (.int (Int32.ofNat pa)), .val (.int (Int32.ofNat pb)), .val (.int (Int32.ofNat pd)), .val (.int (Int32.ofNat q)), .unset, .unset] [(.ref b6), (.ref b6)])) _
    refine XS.iload X6.here hx rfl (hb hby at_67) rfl ?_
    show Steps p.tables e below (T6.setTop (mkF m 69 #[.val (.int p1), .val (.int p2), .val (.int p3), .val (.int p4), .val (.int p5), .val (.int (Int32.ofNat n)), .val (.int (Int32.ofNat pa)), .val (.int (Int32.ofNat pb)), .val (.int (Int32.ofNat pd)), .val (.int (Int32.ofNat q)), .unset, .unset] [(.int (Int32.ofNat n)), (.ref b6), (.ref b6)])) _
    refine st7.trans ?_
    show Steps p.tables e below (T7.setTop (mkF m 72 #[.val (.int p1), .val (.int p2), .val (.int p3), .val (.int p4), .val (.int p5), .val (.int (Int32.ofNat n)), .val (.int (Int32.ofNat pa)), .val (.int (Int32.ofNat pb)), .val (.int (Int32.ofNat pd)), .val (.int (Int32.ofNat q)), .unset, .unset] [(.ref b6)])) _
    refine XS.astore X7.here hx rfl (hb hby at_72) rfl rfl (l' := #[.val (.int p1), .val (.int p2), .val (.int p3), .val (.int p4), .val (.int p5), .val (.int (Int32.ofNat n)), .val (.int (Int32.ofNat pa)), .val (.int (Int32.ofNat pb)), .val (.int (Int32.ofNat pd)), .val (.int (Int32.ofNat q)), .val (.ref b6), .unset]) rfl ?_
    show Steps p.tables e below (T7.setTop (mkF m 74 #[.val (.int p1), .val (.int p2), .val (.int p3), .val (.int p4), .val (.int p5), .val (.int (Int32.ofNat n)), .val (.int (Int32.ofNat pa)), .val (.int (Int32.ofNat pb)), .val (.int (Int32.ofNat pd)), .val (.int (Int32.ofNat q)), .val (.ref b6), .unset] [])) _
    refine XS.aload X7.here hx rfl (hb hby at_74) rfl rfl ?_
    show Steps p.tables e below (T7.setTop (mkF m 76 #[.val (.int p1), .val (.int p2), .val (.int p3), .val (.int p4), .val (.int p5), .val (.int (Int32.ofNat n)), .val (.int (Int32.ofNat pa)), .val (.int (Int32.ofNat pb)), .val (.int (Int32.ofNat pd)), .val (.int (Int32.ofNat q)), .val (.ref b6), .unset] [(.ref b6)])) _
    refine XS.iload X7.here hx rfl (hb hby at_76) rfl ?_
    show Steps p.tables e below (T7.setTop (mkF m 78 #[.val (.int p1), .val (.int p2), .val (.int p3), .val (.int p4), .val (.int p5), .val (.int (Int32.ofNat n)), .val (.int (Int32.ofNat pa)), .val (.int (Int32.ofNat pb)), .val (.int (Int32.ofNat pd)), .val (.int (Int32.ofNat q)), .val (.ref b6), .unset] [(.int (Int32.ofNat pa)), (.ref b6)])) _
    refine XS.iloadN X7.here hx rfl (hb hby at_78) rfl ?_
    show Steps p.tables e below (T7.setTop (mkF m 79 #[.val (.int p1), .val (.int p2), .val (.int p3), .val (.int p4), .val (.int p5), .val (.int (Int32.ofNat n)), .val (.int (Int32.ofNat pa)), .val (.int (Int32.ofNat pb)), .val (.int (Int32.ofNat pd)), .val (.int (Int32.ofNat q)), .val (.ref b6), .unset] [(.int p2), (.int (Int32.ofNat pa)), (.ref b6)])) _
    refine st8.trans ?_
    show Steps p.tables e below (T8.setTop (mkF m 82 #[.val (.int p1), .val (.int p2), .val (.int p3), .val (.int p4), .val (.int p5), .val (.int (Int32.ofNat n)), .val (.int (Int32.ofNat pa)), .val (.int (Int32.ofNat pb)), .val (.int (Int32.ofNat pd)), .val (.int (Int32.ofNat q)), .val (.ref b6), .unset] [])) _
    refine XS.aload X8.here hx rfl (hb hby at_82) rfl rfl ?_
    show Steps p.tables e below (T8.setTop (mkF m 84 #[.val (.int p1), .val (.int p2), .val (.int p3), .val (.int p4), .val (.int p5), .val (.int (Int32.ofNat n)), .val (.int (Int32.ofNat pa)), .val (.int (Int32.ofNat pb)), .val (.int (Int32.ofNat pd)), .val (.int (Int32.ofNat q)), .val (.ref b6), .unset] [(.ref b6)])) _
    refine XS.iload X8.here hx rfl (hb hby at_84) rfl ?_
    show Steps p.tables e below (T8.setTop (mkF m 86 #[.val (.int p1), .val (.int p2), .val (.int p3), .val (.int p4), .val (.int p5), .val (.int (Int32.ofNat n)), .val (.int (Int32.ofNat pa)), .val (.int (Int32.ofNat pb)), .val (.int (Int32.ofNat pd)), .val (.int (Int32.ofNat q)), .val (.ref b6), .unset] [(.int (Int32.ofNat pb)), (.ref b6)])) _
    refine XS.iloadN X8.here hx rfl (hb hby at_86) rfl ?_
    show Steps p.tables e below (T8.setTop (mkF m 87 #[.val (.int p1), .val (.int p2), .val (.int p3), .val (.int p4), .val (.int p5), .val (.int (Int32.ofNat n)), .val (.int (Int32.ofNat pa)), .val (.int (Int32.ofNat pb)), .val (.int (Int32.ofNat pd)), .val (.int (Int32.ofNat q)), .val (.ref b6), .unset] [(.int p3), (.int (Int32.ofNat pb)), (.ref b6)])) _
    refine st9.trans ?_
    show Steps p.tables e below (T9.setTop (mkF m 90 #[.val (.int p1), .val (.int p2), .val (.int p3), .val (.int p4), .val (.int p5), .val (.int (Int32.ofNat n)), .val (.int (Int32.ofNat pa)), .val (.int (Int32.ofNat pb)), .val (.int (Int32.ofNat pd)), .val (.int (Int32.ofNat q)), .val (.ref b6), .unset] [])) _
    refine XS.aload X9.here hx rfl (hb hby at_90) rfl rfl ?_
    show Steps p.tables e below (T9.setTop (mkF m 92 #[.val (.int p1), .val (.int p2), .val (.int p3), .val (.int p4), .val (.int p5), .val (.int (Int32.ofNat n)), .val (.int (Int32.ofNat pa)), .val (.int (Int32.ofNat pb)), .val (.int (Int32.ofNat pd)), .val (.int (Int32.ofNat q)), .val (.ref b6), .unset] [(.ref b6)])) _
    refine XS.iload X9.here hx rfl (hb hby at_92) rfl ?_
    show Steps p.tables e below (T9.setTop (mkF m 94 #[.val (.int p1), .val (.int p2), .val (.int p3), .val (.int p4), .val (.int p5), .val (.int (Int32.ofNat n)), .val (.int (Int32.ofNat pa)), .val (.int (Int32.ofNat pb)), .val (.int (Int32.ofNat pd)), .val (.int (Int32.ofNat q)), .val (.ref b6), .unset] [(.int (Int32.ofNat pd)), (.ref b6)])) _
    refine XS.iloadN X9.here hx rfl (hb hby at_94) rfl ?_
    show Steps p.tables e below (T9.setTop (mkF m 95 #[.val (.int p1), .val (.int p2), .val (.int p3), .val (.int p4), .val (.int p5), .val (.int (Int32.ofNat n)), .val (.int (Int32.ofNat pa)), .val (.int (Int32.ofNat pb)), .val (.int (Int32.ofNat pd)), .val (.int (Int32.ofNat q)), .val (.ref b6), .unset] [(.int p4), (.int (Int32.ofNat pd)), (.ref b6)])) _
    refine st10.trans ?_
    show Steps p.tables e below (T10.setTop (mkF m 98 #[.val (.int p1), .val (.int p2), .val (.int p3), .val (.int p4), .val (.int p5), .val (.int (Int32.ofNat n)), .val (.int (Int32.ofNat pa)), .val (.int (Int32.ofNat pb)), .val (.int (Int32.ofNat pd)), .val (.int (Int32.ofNat q)), .val (.ref b6), .unset] [])) _
    refine XS.iconst X10.here hx rfl (hb hby at_98) ?_
    show Steps p.tables e below (T10.setTop (mkF m 99 #[.val (.int p1), .val (.int p2), .val (.int p3), .val (.int p4), .val (.int p5), .val (.int (Int32.ofNat n)), .val (.int (Int32.ofNat pa)), .val (.int (Int32.ofNat pb)), .val (.int (Int32.ofNat pd)), .val (.int (Int32.ofNat q)), .val (.ref b6), .unset] [(.int (0 : Int32))])) _
    refine XS.istore X10.here hx rfl (hb hby at_99) rfl (l' := #[.val (.int p1), .val (.int p2), .val (.int p3), .val (.int p4), .val (.int p5), .val (.int (Int32.ofNat n)), .val (.int (Int32.ofNat pa)), .val (.int (Int32.ofNat pb)), .val (.int (Int32.ofNat pd)), .val (.int (Int32.ofNat q)), .val (.ref b6), .val (.int (0 : Int32))]) rfl ?_
    show Steps p.tables e below (T10.setTop (mkF m 101 #[.val (.int p1), .val (.int p2), .val (.int p3), .val (.int p4), .val (.int p5), .val (.int (Int32.ofNat n)), .val (.int (Int32.ofNat pa)), .val (.int (Int32.ofNat pb)), .val (.int (Int32.ofNat pd)), .val (.int (Int32.ofNat q)), .val (.ref b6), .val (.int (0 : Int32))] [])) _
    refine XS.iload X10.here hx rfl (hb hby at_101) rfl ?_
    show Steps p.tables e below (T10.setTop (mkF m 103 #[.val (.int p1), .val (.int p2), .val (.int p3), .val (.int p4), .val (.int p5), .val (.int (Int32.ofNat n)), .val (.int (Int32.ofNat pa)), .val (.int (Int32.ofNat pb)), .val (.int (Int32.ofNat pd)), .val (.int (Int32.ofNat q)), .val (.ref b6), .val (.int (0 : Int32))] [(.int (Int32.ofNat pa))])) _
    refine XS.iload X10.here hx rfl (hb hby at_103) rfl ?_
    show Steps p.tables e below (T10.setTop (mkF m 105 #[.val (.int p1), .val (.int p2), .val (.int p3), .val (.int p4), .val (.int p5), .val (.int (Int32.ofNat n)), .val (.int (Int32.ofNat pa)), .val (.int (Int32.ofNat pb)), .val (.int (Int32.ofNat pd)), .val (.int (Int32.ofNat q)), .val (.ref b6), .val (.int (0 : Int32))] [(.int (Int32.ofNat q)), (.int (Int32.ofNat pa))])) _
    refine XS.icmpNo X10.here hx rfl (hb hby at_105) rfl (tlt hc105).2.1 ?_
    show Steps p.tables e below (T10.setTop (mkF m 108 #[.val (.int p1), .val (.int p2), .val (.int p3), .val (.int p4), .val (.int p5), .val (.int (Int32.ofNat n)), .val (.int (Int32.ofNat pa)), .val (.int (Int32.ofNat pb)), .val (.int (Int32.ofNat pd)), .val (.int (Int32.ofNat q)), .val (.ref b6), .val (.int (0 : Int32))] [])) _
    refine XS.iload X10.here hx rfl (hb hby at_108) rfl ?_
    show Steps p.tables e below (T10.setTop (mkF m 110 #[.val (.int p1), .val (.int p2), .val (.int p3), .val (.int p4), .val (.int p5), .val (.int (Int32.ofNat n)), .val (.int (Int32.ofNat pa)), .val (.int (Int32.ofNat pb)), .val (.int (Int32.ofNat pd)), .val (.int (Int32.ofNat q)), .val (.ref b6), .val (.int (0 : Int32))] [(.int (0 : Int32))])) _
    refine XS.iloadN X10.here hx rfl (hb hby at_110) rfl ?_
    show Steps p.tables e below (T10.setTop (mkF m 111 #[.val (.int p1), .val (.int p2), .val (.int p3), .val (.int p4), .val (.int p5), .val (.int (Int32.ofNat n)), .val (.int (Int32.ofNat pa)), .val (.int (Int32.ofNat pb)), .val (.int (Int32.ofNat pd)), .val (.int (Int32.ofNat q)), .val (.ref b6), .val (.int (0 : Int32))] [(.int p2), (.int (0 : Int32))])) _
    refine XS.iadd X10.here hx rfl (hb hby at_111) rfl ?_
    show Steps p.tables e below (T10.setTop (mkF m 112 #[.val (.int p1), .val (.int p2), .val (.int p3), .val (.int p4), .val (.int p5), .val (.int (Int32.ofNat n)), .val (.int (Int32.ofNat pa)), .val (.int (Int32.ofNat pb)), .val (.int (Int32.ofNat pd)), .val (.int (Int32.ofNat q)), .val (.ref b6), .val (.int (0 : Int32))] [(.int ((0 : Int32) + p2))])) _
    refine XS.istore X10.here hx rfl (hb hby at_112) rfl (l' := #[.val (.int p1), .val (.int p2), .val (.int p3), .val (.int p4), .val (.int p5), .val (.int (Int32.ofNat n)), .val (.int (Int32.ofNat pa)), .val (.int (Int32.ofNat pb)), .val (.int (Int32.ofNat pd)), .val (.int (Int32.ofNat q)), .val (.ref b6), .val (.int ((0 : Int32) + p2))]) rfl ?_
    show Steps p.tables e below (T10.setTop (mkF m 114 #[.val (.int p1), .val (.int p2), .val (.int p3), .val (.int p4), .val (.int p5), .val (.int (Int32.ofNat n)), .val (.int (Int32.ofNat pa)), .val (.int (Int32.ofNat pb)), .val (.int (Int32.ofNat pd)), .val (.int (Int32.ofNat q)), .val (.ref b6), .val (.int ((0 : Int32) + p2))] [])) _
    refine XS.iload X10.here hx rfl (hb hby at_114) rfl ?_
    show Steps p.tables e below (T10.setTop (mkF m 116 #[.val (.int p1), .val (.int p2), .val (.int p3), .val (.int p4), .val (.int p5), .val (.int (Int32.ofNat n)), .val (.int (Int32.ofNat pa)), .val (.int (Int32.ofNat pb)), .val (.int (Int32.ofNat pd)), .val (.int (Int32.ofNat q)), .val (.ref b6), .val (.int ((0 : Int32) + p2))] [(.int (Int32.ofNat pb))])) _
    refine XS.iload X10.here hx rfl (hb hby at_116) rfl ?_
    show Steps p.tables e below (T10.setTop (mkF m 118 #[.val (.int p1), .val (.int p2), .val (.int p3), .val (.int p4), .val (.int p5), .val (.int (Int32.ofNat n)), .val (.int (Int32.ofNat pa)), .val (.int (Int32.ofNat pb)), .val (.int (Int32.ofNat pd)), .val (.int (Int32.ofNat q)), .val (.ref b6), .val (.int ((0 : Int32) + p2))] [(.int (Int32.ofNat q)), (.int (Int32.ofNat pb))])) _
    refine XS.icmpYes X10.here hx rfl (pc0 := 118) (pc' := 127) rfl (hb hby at_118) rfl (flt hc118).2.1 (by decide) (by decide) ?_
    show Steps p.tables e below (T10.setTop (mkF m 127 #[.val (.int p1), .val (.int p2), .val (.int p3), .val (.int p4), .val (.int p5), .val (.int (Int32.ofNat n)), .val (.int (Int32.ofNat pa)), .val (.int (Int32.ofNat pb)), .val (.int (Int32.ofNat pd)), .val (.int (Int32.ofNat q)), .val (.ref b6), .val (.int ((0 : Int32) + p2))] [])) _
    refine XS.iload X10.here hx rfl (hb hby at_127) rfl ?_
    show Steps p.tables e below (T10.setTop (mkF m 129 #[.val (.int p1), .val (.int p2), .val (.int p3), .val (.int p4), .val (.int p5), .val (.int (Int32.ofNat n)), .val (.int (Int32.ofNat pa)), .val (.int (Int32.ofNat pb)), .val (.int (Int32.ofNat pd)), .val (.int (Int32.ofNat q)), .val (.ref b6), .val (.int ((0 : Int32) + p2))] [(.int (Int32.ofNat pd))])) _
    refine XS.iload X10.here hx rfl (hb hby at_129) rfl ?_
    show Steps p.tables e below (T10.setTop (mkF m 131 #[.val (.int p1), .val (.int p2), .val (.int p3), .val (.int p4), .val (.int p5), .val (.int (Int32.ofNat n)), .val (.int (Int32.ofNat pa)), .val (.int (Int32.ofNat pb)), .val (.int (Int32.ofNat pd)), .val (.int (Int32.ofNat q)), .val (.ref b6), .val (.int ((0 : Int32) + p2))] [(.int (Int32.ofNat q)), (.int (Int32.ofNat pd))])) _
    refine XS.icmpNo X10.here hx rfl (hb hby at_131) rfl (tlt hc131).2.1 ?_
    show Steps p.tables e below (T10.setTop (mkF m 134 #[.val (.int p1), .val (.int p2), .val (.int p3), .val (.int p4), .val (.int p5), .val (.int (Int32.ofNat n)), .val (.int (Int32.ofNat pa)), .val (.int (Int32.ofNat pb)), .val (.int (Int32.ofNat pd)), .val (.int (Int32.ofNat q)), .val (.ref b6), .val (.int ((0 : Int32) + p2))] [])) _
    refine XS.iload X10.here hx rfl (hb hby at_134) rfl ?_
    show Steps p.tables e below (T10.setTop (mkF m 136 #[.val (.int p1), .val (.int p2), .val (.int p3), .val (.int p4), .val (.int p5), .val (.int (Int32.ofNat n)), .val (.int (Int32.ofNat pa)), .val (.int (Int32.ofNat pb)), .val (.int (Int32.ofNat pd)), .val (.int (Int32.ofNat q)), .val (.ref b6), .val (.int ((0 : Int32) + p2))] [(.int ((0 : Int32) + p2))])) _
    refine XS.iloadN X10.here hx rfl (hb hby at_136) rfl ?_
    show Steps p.tables e below (T10.setTop (mkF m 137 #[.val (.int p1), .val (.int p2), .val (.int p3), .val (.int p4), .val (.int p5), .val (.int (Int32.ofNat n)), .val (.int (Int32.ofNat pa)), .val (.int (Int32.ofNat pb)), .val (.int (Int32.ofNat pd)), .val (.int (Int32.ofNat q)), .val (.ref b6), .val (.int ((0 : Int32) + p2))] [(.int p4), (.int ((0 : Int32) + p2))])) _
    refine XS.iadd X10.here hx rfl (hb hby at_137) rfl ?_
    show Steps p.tables e below (T10.setTop (mkF m 138 #[.val (.int p1), .val (.int p2), .val (.int p3), .val (.int p4), .val (.int p5), .val (.int (Int32.ofNat n)), .val (.int (Int32.ofNat pa)), .val (.int (Int32.ofNat pb)), .val (.int (Int32.ofNat pd)), .val (.int (Int32.ofNat q)), .val (.ref b6), .val (.int ((0 : Int32) + p2))] [(.int (((0 : Int32) + p2) + p4))])) _
    refine XS.istore X10.here hx rfl (hb hby at_138) rfl (l' := #[.val (.int p1), .val (.int p2), .val (.int p3), .val (.int p4), .val (.int p5), .val (.int (Int32.ofNat n)), .val (.int (Int32.ofNat pa)), .val (.int (Int32.ofNat pb)), .val (.int (Int32.ofNat pd)), .val (.int (Int32.ofNat q)), .val (.ref b6), .val (.int (((0 : Int32) + p2) + p4))]) rfl ?_
    show Steps p.tables e below (T10.setTop (mkF m 140 #[.val (.int p1), .val (.int p2), .val (.int p3), .val (.int p4), .val (.int p5), .val (.int (Int32.ofNat n)), .val (.int (Int32.ofNat pa)), .val (.int (Int32.ofNat pb)), .val (.int (Int32.ofNat pd)), .val (.int (Int32.ofNat q)), .val (.ref b6), .val (.int (((0 : Int32) + p2) + p4))] [])) _
    refine XS.aload X10.here hx rfl (hb hby at_140) rfl rfl ?_
    show Steps p.tables e below (T10.setTop (mkF m 142 #[.val (.int p1), .val (.int p2), .val (.int p3), .val (.int p4), .val (.int p5), .val (.int (Int32.ofNat n)), .val (.int (Int32.ofNat pa)), .val (.int (Int32.ofNat pb)), .val (.int (Int32.ofNat pd)), .val (.int (Int32.ofNat q)), .val (.ref b6), .val (.int (((0 : Int32) + p2) + p4))] [(.ref b6)])) _
    refine XS.iload X10.here hx rfl (hb hby at_142) rfl ?_
    show Steps p.tables e below (T10.setTop (mkF m 144 #[.val (.int p1), .val (.int p2), .val (.int p3), .val (.int p4), .val (.int p5), .val (.int (Int32.ofNat n)), .val (.int (Int32.ofNat pa)), .val (.int (Int32.ofNat pb)), .val (.int (Int32.ofNat pd)), .val (.int (Int32.ofNat q)), .val (.ref b6), .val (.int (((0 : Int32) + p2) + p4))] [(.int (Int32.ofNat q)), (.ref b6)])) _
    refine st11.trans ?_
    show Steps p.tables e below (T11.setTop (mkF m 147 #[.val (.int p1), .val (.int p2), .val (.int p3), .val (.int p4), .val (.int p5), .val (.int (Int32.ofNat n)), .val (.int (Int32.ofNat pa)), .val (.int (Int32.ofNat pb)), .val (.int (Int32.ofNat pd)), .val (.int (Int32.ofNat q)), .val (.ref b6), .val (.int (((0 : Int32) + p2) + p4))] [(.int (own_sum (own_down 6 q) (own_adds (own_up 6 (n + 1) (pd + 1)) p4 (own_adds (own_up 6 (n + 1) (pb + 1)) p3 (own_adds (own_up 6 (n + 1) (pa + 1)) p2 (fun _ => 0)))) 0))])) _
    refine XS.iload X11.here hx rfl (hb hby at_147) rfl ?_
    show Steps p.tables e below (T11.setTop (mkF m 149 #[.val (.int p1), .val (.int p2), .val (.int p3), .val (.int p4), .val (.int p5), .val (.int (Int32.ofNat n)), .val (.int (Int32.ofNat pa)), .val (.int (Int32.ofNat pb)), .val (.int (Int32.ofNat pd)), .val (.int (Int32.ofNat q)), .val (.ref b6), .val (.int (((0 : Int32) + p2) + p4))] [(.int (((0 : Int32) + p2) + p4)), (.int (own_sum (own_down 6 q) (own_adds (own_up 6 (n + 1) (pd + 1)) p4 (own_adds (own_up 6 (n + 1) (pb + 1)) p3 (own_adds (own_up 6 (n + 1) (pa + 1)) p2 (fun _ => 0)))) 0))])) _
    refine XS.icmpNo X11.here hx rfl (hb hby at_149) rfl (teq (own_ok : (own_sum (own_down 6 q) (own_adds (own_up 6 (n + 1) (pd + 1)) p4 (own_adds (own_up 6 (n + 1) (pb + 1)) p3 (own_adds (own_up 6 (n + 1) (pa + 1)) p2 (fun _ => 0)))) 0) = (((0 : Int32) + p2) + p4))).2 ?_
    show Steps p.tables e below (T11.setTop (mkF m 152 #[.val (.int p1), .val (.int p2), .val (.int p3), .val (.int p4), .val (.int p5), .val (.int (Int32.ofNat n)), .val (.int (Int32.ofNat pa)), .val (.int (Int32.ofNat pb)), .val (.int (Int32.ofNat pd)), .val (.int (Int32.ofNat q)), .val (.ref b6), .val (.int (((0 : Int32) + p2) + p4))] [])) _
    refine XS.iconst X11.here hx rfl (hb hby at_152) ?_
    show Steps p.tables e below (T11.setTop (mkF m 153 #[.val (.int p1), .val (.int p2), .val (.int p3), .val (.int p4), .val (.int p5), .val (.int (Int32.ofNat n)), .val (.int (Int32.ofNat pa)), .val (.int (Int32.ofNat pb)), .val (.int (Int32.ofNat pd)), .val (.int (Int32.ofNat q)), .val (.ref b6), .val (.int (((0 : Int32) + p2) + p4))] [(.int (1 : Int32))])) _
    refine XS.goto X11.here hx rfl (pc0 := 153) (pc' := 157) rfl (hb hby at_153) (by decide) (by decide) ?_
    show Steps p.tables e below (T11.setTop (mkF m 157 #[.val (.int p1), .val (.int p2), .val (.int p3), .val (.int p4), .val (.int p5), .val (.int (Int32.ofNat n)), .val (.int (Int32.ofNat pa)), .val (.int (Int32.ofNat pb)), .val (.int (Int32.ofNat pd)), .val (.int (Int32.ofNat q)), .val (.ref b6), .val (.int (((0 : Int32) + p2) + p4))] [(.int (1 : Int32))])) _
    exact retN X11 hx (t := .boolean) Bd.returns (by simp) (hb hby at_157) hr
  · show Q0_ftff Z p1 p2 p3 p4 p5 h0 n0 _ T11.heap _
    exact ⟨rfl, N11⟩
def Q0_fttf (Z : State) (p1 : Int32) (p2 : Int32) (p3 : Int32) (p4 : Int32) (p5 : Int32) (h0 : Heap) (n0 : Nat) (v : Option Value) (h : Heap) (L : List Loc) : Prop := v = some (.int (1 : Int32)) ∧ Fr n0 L
set_option maxRecDepth 65536 in
set_option maxHeartbeats 40000000 in
theorem rm0_fttf (l : Launch) (Z : State) (a0 : Array Value) (hw : ∀ d ∈ tables_1, d.before a0 Z = true) (ws : List Jvm.Cond) (p1 : Int32) (p2 : Int32) (p3 : Int32) (p4 : Int32) (p5 : Int32) (n pa pb pd q : Nat) (h0 : Heap) (n0 : Nat) (Z0 : n0 ≤ h0.size) (hn : n ≤ 16) (hpa : pa < n) (hpb : pb < n) (hpd : pd < n) (hq : q ≤ n) (hp9 : (((p1 &&& (255 : Int32)) % (12 : Int32)) + (1 : Int32)) = (Int32.ofNat n)) (hp22 : ((((p1.toUInt32 >>> ((8 : Int32) &&& 31).toUInt32).toInt32) &&& (255 : Int32)) % (Int32.ofNat n)) = (Int32.ofNat pa)) (hp35 : ((((p1.toUInt32 >>> ((16 : Int32) &&& 31).toUInt32).toInt32) &&& (255 : Int32)) % (Int32.ofNat n)) = (Int32.ofNat pb)) (hp48 : ((((p1.toUInt32 >>> ((24 : Int32) &&& 31).toUInt32).toInt32) &&& (255 : Int32)) % (Int32.ofNat n)) = (Int32.ofNat pd)) (hp60 : ((p5 &&& (2147483647 : Int32)) % ((Int32.ofNat n) + (1 : Int32))) = (Int32.ofNat q)) (hc105 : (Int32.ofNat pa) < (Int32.ofNat q)) (hc118 : ¬ ((Int32.ofNat pb) < (Int32.ofNat q))) (hc131 : ¬ ((Int32.ofNat pd) < (Int32.ofNat q))) :
    MetFree l x (head1 (Jvm.Cond.code x code maxLocals ret :: ws) room_1) (fun a U => a = #[(.int p1), (.int p2), (.int p3), (.int p4), (.int p5)] ∧ Z.Warmed39 U.vm ∧ U.heap = h0) (fun _ _ _ _ _ => True) (fun _ U o U' => ∃ v L, o = .returned v ∧ Q0_fttf Z p1 p2 p3 p4 p5 h0 n0 v U'.heap L ∧ FrameEnd U o U' L room_1.cells room_1.slots) := by
  refine MetFree.of_bodySF (plainFor_of_name pn_0) hisR ?_
  intro p e s m args below meth c s₁ Bd hml0 hP hK
  obtain ⟨rfl, hZ, hh⟩ := hP
  have hnz22 : Int32.ofNat n ≠ (0 : Int32) := own_nz (by omega) (by omega)
  have hnz35 := hnz22
  have hnz48 := hnz22
  have hnz60 : Int32.ofNat n + (1 : Int32) ≠ (0 : Int32) := by rw [own_one]; exact own_nz (by omega) (by omega)
  have hx := Bd.exec
  have hby := Bd.bytes
  have hml : c.maxLocals = 12 := hml0
  have hown : s.vm.findClass "com/example/tallykeep/tallykeep/core/PrefixCountsBelowPinLaw" = some m.cls := findClass_of_methodNamed Bd.named
  have hnm := (name_of_methodNamed Bd.named Bd.method).1
  have X0 : Stand p l e room_1 s m #[(.int p1), (.int p2), (.int p3), (.int p4), (.int p5)] below meth c s₁ [] 0 0 := Stand.of_body Bd
  have e0 : s₁.heap = h0 := by rw [← hh, Bd.state]; rfl
  have N0 := Fr.nil n0
  have pre0 : ∀ t, Steps p.tables e below (s₁.setTop (mkF m 0 #[.val (.int p1), .val (.int p2), .val (.int p3), .val (.int p4), .val (.int p5), .unset, .unset, .unset, .unset, .unset, .unset, .unset] [])) t → Steps p.tables e below (s₁.setTop (entryFrame m #[(.int p1), (.int p2), (.int p3), (.int p4), (.int p5)] maxLocals)) t := fun t k => castTop (ef_0 m p1 p2 p3 p4 p5) k
  obtain ⟨T6, h6, X6, e6, E6, A6, D6, -, st6⟩ := newO X0 hx hZ hown (hw _ (List.mem_of_getElem? (i := 1) rfl)) (hw _ (List.mem_of_getElem? (i := 2) rfl)) (hw _ (List.mem_of_getElem? (i := 3) rfl)) e0 (g := (mkF m 63 #[.val (.int p1), .val (.int p2), .val (.int p3), .val (.int p4), .val (.int p5), .val (.int (Int32.ofNat n)), .val (.int (Int32.ofNat pa)), .val (.int (Int32.ofNat pb)), .val (.int (Int32.ofNat pd)), .val (.int (Int32.ofNat q)), .unset, .unset] [])) rfl (hb hby at_63) (by decide) (by decide)
  obtain ⟨b6, g6⟩ : ∃ z, z = h0.size := ⟨_, rfl⟩
  rw [← g6] at A6 D6 st6
  have F_cells_b6 : Fld Z h6 b6 "com/example/tallykeep/tallykeep/core/PrefixCounts" "cells" "[I" .null := D6 (Or.inr (hw _ (List.mem_of_getElem? (i := 12) rfl))) (ty := (.array .int)) (by decide)
  have E_b6 := A6
  have g_b6 : n0 ≤ b6 := Nat.le_trans Z0 (Nat.le_of_eq g6.symm)
  have sz_b6 : h0.size ≤ b6 := (Nat.le_trans (Keep.refl h0 []).1 (Nat.le_of_eq g6.symm))
  have K6 : Keep h0 h6 [] := (Keep.refl h0 []).ext E6
  obtain ⟨_, _, ⟨T7, L7, k7, n7⟩, -, X7, ⟨Lc7, hQ7, l7, y7, z7⟩, st7⟩ := X6.specialBack hx (y := (⟨"com/example/tallykeep/tallykeep/core/PrefixCounts", "<init>", "(I)V"⟩ : MethodName)) rfl hown (mvT hZ (hw _ (List.mem_of_getElem? (i := 4) rfl))) (mvT hZ (hw _ (List.mem_of_getElem? (i := 5) rfl))) (mvT hZ (hw _ (List.mem_of_getElem? (i := 6) rfl))) (by decide) (backOf (W := 1) (rm1 l Z a0 hw [] b6 n .null h6 n0 (Nat.le_trans Z0 K6.1) E_b6 F_cells_b6 g_b6 hn) hZ (hw _ (List.mem_of_getElem? (i := 6) rfl)) (hw _ (List.mem_of_getElem? (i := 3) rfl)) (by decide) (by decide)) (g := (mkF m 69 #[.val (.int p1), .val (.int p2), .val (.int p3), .val (.int p4), .val (.int p5), .val (.int (Int32.ofNat n)), .val (.int (Int32.ofNat pa)), .val (.int (Int32.ofNat pb)), .val (.int (Int32.ofNat pd)), .val (.int (Int32.ofNat q)), .unset, .unset] [(.int (Int32.ofNat n)), (.ref b6), (.ref b6)])) rfl (by rw [hml]; rfl) (Steps.refl _) (a := b6) (argsL := [(.int (Int32.ofNat n))]) (rest := [(.ref b6)]) (lenOf pd_0_0 rfl) rfl (by show 2 * 0 + _ ≤ _; exact Nat.le_of_eq rfl) (hb hby at_69) (fun _ _ => ⟨rfl, e6, (Nat.le_of_ble_eq_true rfl), (Nat.le_of_ble_eq_true rfl)⟩)
  dsimp only [Pt.U, Pt.locs, Pt.cells, Pt.slots] at X7 l7 y7 z7 st7 hQ7
  subst l7 y7 z7
  obtain ⟨rfl, N7q, K7c, E7c, bC, szC, FC, VC⟩ := hQ7
  have g_bC : n0 ≤ bC := Nat.le_trans (Nat.le_trans Z0 K6.1) szC
  have ne_oC : b6 ≠ bC := Nat.ne_of_lt (Nat.lt_of_lt_of_le E_b6.lt szC)
  have Z7 : n0 ≤ T7.heap.size := Nat.le_trans (Nat.le_trans Z0 K6.1) K7c.1
  have N7 := Fr.app N0 N7q
  obtain ⟨cq8, kq8, q8a, q8b, q8c⟩ := isOf hZ rfl (E_b6.keep K7c)
  obtain ⟨_, _, ⟨T8, L8, k8, n8⟩, -, X8, ⟨Lc8, hQ8, l8, y8, z8⟩, st8⟩ := X7.virtualBack hx (y := (⟨"com/example/tallykeep/tallykeep/core/PrefixCounts", "add", "(II)V"⟩ : MethodName)) (z := (⟨"com/example/tallykeep/tallykeep/core/PrefixCounts", "add", "(II)V"⟩ : MethodName)) hown (mvT hZ (hw _ (List.mem_of_getElem? (i := 13) rfl))) (mvT hZ (hw _ (List.mem_of_getElem? (i := 14) rfl))) (notFace_of_selects (args := #[]) (mvT hZ (hw _ (List.mem_of_getElem? (i := 16) rfl)))) (mvT hZ (hw _ (List.mem_of_getElem? (i := 16) rfl))) (mvT hZ (hw _ (List.mem_of_getElem? (i := 15) rfl))) (by decide) (backOf (W := 0) (rm3 l Z a0 hw [] b6 pa p2 bC (n + 1) _ T7.heap n0 Z7 FC VC (by omega) (by omega) g_bC ne_oC) hZ (hw _ (List.mem_of_getElem? (i := 17) rfl)) (hw _ (List.mem_of_getElem? (i := 3) rfl)) (by decide) (by decide)) q8a q8c (g := (mkF m 79 #[.val (.int p1), .val (.int p2), .val (.int p3), .val (.int p4), .val (.int p5), .val (.int (Int32.ofNat n)), .val (.int (Int32.ofNat pa)), .val (.int (Int32.ofNat pb)), .val (.int (Int32.ofNat pd)), .val (.int (Int32.ofNat q)), .val (.ref b6), .unset] [(.int p2), (.int (Int32.ofNat pa)), (.ref b6)])) rfl (by rw [hml]; rfl) (Steps.refl _) (argsL := [(.int (Int32.ofNat pa)), (.int p2)]) (rest := []) (lenOf pd_0_2 rfl) rfl (by show 2 * 0 + _ ≤ _; exact Nat.le_of_eq rfl) (hb hby at_79) (fun _ _ => ⟨rfl, rfl, (Nat.le_of_ble_eq_true rfl), (Nat.le_of_ble_eq_true rfl)⟩)
  dsimp only [Pt.U, Pt.locs, Pt.cells, Pt.slots] at X8 l8 y8 z8 st8 hQ8
  subst l8 y8 z8
  obtain ⟨rfl, N8q, K8c, V8c⟩ := hQ8
  have F8c := FC.keep K8c (ninS ne_oC nin0)
  have Z8 : n0 ≤ T8.heap.size := Nat.le_trans Z7 K8c.1
  have N8 := Fr.app N7 N8q
  obtain ⟨cq9, kq9, q9a, q9b, q9c⟩ := isOf hZ rfl ((E_b6.keep K7c).keep K8c)
  obtain ⟨_, _, ⟨T9, L9, k9, n9⟩, -, X9, ⟨Lc9, hQ9, l9, y9, z9⟩, st9⟩ := X8.virtualBack hx (y := (⟨"com/example/tallykeep/tallykeep/core/PrefixCounts", "add", "(II)V"⟩ : MethodName)) (z := (⟨"com/example/tallykeep/tallykeep/core/PrefixCounts", "add", "(II)V"⟩ : MethodName)) hown (mvT hZ (hw _ (List.mem_of_getElem? (i := 13) rfl))) (mvT hZ (hw _ (List.mem_of_getElem? (i := 14) rfl))) (notFace_of_selects (args := #[]) (mvT hZ (hw _ (List.mem_of_getElem? (i := 16) rfl)))) (mvT hZ (hw _ (List.mem_of_getElem? (i := 16) rfl))) (mvT hZ (hw _ (List.mem_of_getElem? (i := 15) rfl))) (by decide) (backOf (W := 0) (rm3 l Z a0 hw [] b6 pb p3 bC (n + 1) _ T8.heap n0 Z8 F8c V8c (by omega) (by omega) g_bC ne_oC) hZ (hw _ (List.mem_of_getElem? (i := 17) rfl)) (hw _ (List.mem_of_getElem? (i := 3) rfl)) (by decide) (by decide)) q9a q9c (g := (mkF m 87 #[.val (.int p1), .val (.int p2), .val (.int p3), .val (.int p4), .val (.int p5), .val (.int (Int32.ofNat n)), .val (.int (Int32.ofNat pa)), .val (.int (Int32.ofNat pb)), .val (.int (Int32.ofNat pd)), .val (.int (Int32.ofNat q)), .val (.ref b6), .unset] [(.int p3), (.int (Int32.ofNat pb)), (.ref b6)])) rfl (by rw [hml]; rfl) (Steps.refl _) (argsL := [(.int (Int32.ofNat pb)), (.int p3)]) (rest := []) (lenOf pd_0_2 rfl) rfl (by show 2 * 0 + _ ≤ _; exact Nat.le_of_eq rfl) (hb hby at_87) (fun _ _ => ⟨rfl, rfl, (Nat.le_of_ble_eq_true rfl), (Nat.le_of_ble_eq_true rfl)⟩)
  dsimp only [Pt.U, Pt.locs, Pt.cells, Pt.slots] at X9 l9 y9 z9 st9 hQ9
  subst l9 y9 z9
  obtain ⟨rfl, N9q, K9c, V9c⟩ := hQ9
  have F9c := F8c.keep K9c (ninS ne_oC nin0)
  have Z9 : n0 ≤ T9.heap.size := Nat.le_trans Z8 K9c.1
  have N9 := Fr.app N8 N9q
  obtain ⟨cq10, kq10, q10a, q10b, q10c⟩ := isOf hZ rfl (((E_b6.keep K7c).keep K8c).keep K9c)
  obtain ⟨_, _, ⟨T10, L10, k10, n10⟩, -, X10, ⟨Lc10, hQ10, l10, y10, z10⟩, st10⟩ := X9.virtualBack hx (y := (⟨"com/example/tallykeep/tallykeep/core/PrefixCounts", "add", "(II)V"⟩ : MethodName)) (z := (⟨"com/example/tallykeep/tallykeep/core/PrefixCounts", "add", "(II)V"⟩ : MethodName)) hown (mvT hZ (hw _ (List.mem_of_getElem? (i := 13) rfl))) (mvT hZ (hw _ (List.mem_of_getElem? (i := 14) rfl))) (notFace_of_selects (args := #[]) (mvT hZ (hw _ (List.mem_of_getElem? (i := 16) rfl)))) (mvT hZ (hw _ (List.mem_of_getElem? (i := 16) rfl))) (mvT hZ (hw _ (List.mem_of_getElem? (i := 15) rfl))) (by decide) (backOf (W := 0) (rm3 l Z a0 hw [] b6 pd p4 bC (n + 1) _ T9.heap n0 Z9 F9c V9c (by omega) (by omega) g_bC ne_oC) hZ (hw _ (List.mem_of_getElem? (i := 17) rfl)) (hw _ (List.mem_of_getElem? (i := 3) rfl)) (by decide) (by decide)) q10a q10c (g := (mkF m 95 #[.val (.int p1), .val (.int p2), .val (.int p3), .val (.int p4), .val (.int p5), .val (.int (Int32.ofNat n)), .val (.int (Int32.ofNat pa)), .val (.int (Int32.ofNat pb)), .val (.int (Int32.ofNat pd)), .val (.int (Int32.ofNat q)), .val (.ref b6), .unset] [(.int p4), (.int (Int32.ofNat pd)), (.ref b6)])) rfl (by rw [hml]; rfl) (Steps.refl _) (argsL := [(.int (Int32.ofNat pd)), (.int p4)]) (rest := []) (lenOf pd_0_2 rfl) rfl (by show 2 * 0 + _ ≤ _; exact Nat.le_of_eq rfl) (hb hby at_95) (fun _ _ => ⟨rfl, rfl, (Nat.le_of_ble_eq_true rfl), (Nat.le_of_ble_eq_true rfl)⟩)
  dsimp only [Pt.U, Pt.locs, Pt.cells, Pt.slots] at X10 l10 y10 z10 st10 hQ10
  subst l10 y10 z10
  obtain ⟨rfl, N10q, K10c, V10c⟩ := hQ10
  have F10c := F9c.keep K10c (ninS ne_oC nin0)
  have Z10 : n0 ≤ T10.heap.size := Nat.le_trans Z9 K10c.1
  have N10 := Fr.app N9 N10q
  obtain ⟨cq11, kq11, q11a, q11b, q11c⟩ := isOf hZ rfl ((((E_b6.keep K7c).keep K8c).keep K9c).keep K10c)
  obtain ⟨_, _, ⟨T11, L11, k11, n11⟩, -, X11, ⟨Lc11, hQ11, l11, y11, z11⟩, st11⟩ := X10.virtualBack hx (y := (⟨"com/example/tallykeep/tallykeep/core/PrefixCounts", "below", "(I)I"⟩ : MethodName)) (z := (⟨"com/example/tallykeep/tallykeep/core/PrefixCounts", "below", "(I)I"⟩ : MethodName)) hown (mvT hZ (hw _ (List.mem_of_getElem? (i := 18) rfl))) (mvT hZ (hw _ (List.mem_of_getElem? (i := 19) rfl))) (notFace_of_selects (args := #[]) (mvT hZ (hw _ (List.mem_of_getElem? (i := 21) rfl)))) (mvT hZ (hw _ (List.mem_of_getElem? (i := 21) rfl))) (mvT hZ (hw _ (List.mem_of_getElem? (i := 20) rfl))) (by decide) (backOf (W := 0) (rm4 l Z a0 hw [] b6 q bC (n + 1) _ T10.heap n0 Z10 F10c V10c (by omega) (by omega)) hZ (hw _ (List.mem_of_getElem? (i := 22) rfl)) (hw _ (List.mem_of_getElem? (i := 3) rfl)) (by decide) (by decide)) q11a q11c (g := (mkF m 144 #[.val (.int p1), .val (.int p2), .val (.int p3), .val (.int p4), .val (.int p5), .val (.int (Int32.ofNat n)), .val (.int (Int32.ofNat pa)), .val (.int (Int32.ofNat pb)), .val (.int (Int32.ofNat pd)), .val (.int (Int32.ofNat q)), .val (.ref b6), .val (.int ((0 : Int32) + p2))] [(.int (Int32.ofNat q)), (.ref b6)])) rfl (by rw [hml]; rfl) (Steps.refl _) (argsL := [(.int (Int32.ofNat q))]) (rest := []) (lenOf pd_0_3 rfl) rfl (by show 2 * 0 + _ ≤ _; exact Nat.le_of_eq rfl) (hb hby at_144) (fun _ _ => ⟨rfl, rfl, (Nat.le_of_ble_eq_true rfl), (Nat.le_of_ble_eq_true rfl)⟩)
  dsimp only [Pt.U, Pt.locs, Pt.cells, Pt.slots] at X11 l11 y11 z11 st11 hQ11
  subst l11 y11 z11
  obtain ⟨rfl, N11q, e11⟩ := hQ11
  have N11 := Fr.app N10 N11q
  have own_ok : (own_sum (own_down 6 q) (own_adds (own_up 6 (n + 1) (pd + 1)) p4 (own_adds (own_up 6 (n + 1) (pb + 1)) p3 (own_adds (own_up 6 (n + 1) (pa + 1)) p2 (fun _ => 0)))) 0) = ((0 : Int32) + p2) := by
    rw [own_final3 hn hpa hpb hpd hq]
    rw [if_pos ((own_lt (by omega) (by omega)).mp hc105)]
    rw [if_neg (fun z => hc118 ((own_lt (by omega) (by omega)).mpr z))]
    rw [if_neg (fun z => hc131 ((own_lt (by omega) (by omega)).mpr z))]
    all_goals simp
  obtain ⟨fs, hr, hrun, hended, hW, hsame⟩ := X11.leave (v := some (.int (1 : Int32))) (fun h => by rw [Bd.returns] at h; cases h)
  refine ⟨_, _, pre0 _ ?_, hrun, hended, _, _, rfl, ?_, ⟨_, rfl⟩, hW, hsame.mono (by decide) (by decide)⟩
  · show Steps p.tables e below (s₁.setTop (mkF m 0 #[.val (.int p1), .val (.int p2), .val (.int p3), .val (.int p4), .val (.int p5), .unset, .unset, .unset, .unset, .unset, .unset, .unset] [])) _
    refine XS.iloadN X0.here hx rfl (hb hby at_0) rfl ?_
    show Steps p.tables e below (s₁.setTop (mkF m 1 #[.val (.int p1), .val (.int p2), .val (.int p3), .val (.int p4), .val (.int p5), .unset, .unset, .unset, .unset, .unset, .unset, .unset] [(.int p1)])) _
    refine XS.sipush X0.here hx rfl (hb hby at_1) ?_
    show Steps p.tables e below (s₁.setTop (mkF m 4 #[.val (.int p1), .val (.int p2), .val (.int p3), .val (.int p4), .val (.int p5), .unset, .unset, .unset, .unset, .unset, .unset, .unset] [(.int (255 : Int32)), (.int p1)])) _
    refine XS.iand X0.here hx rfl (hb hby at_4) rfl ?_
    show Steps p.tables e below (s₁.setTop (mkF m 5 #[.val (.int p1), .val (.int p2), .val (.int p3), .val (.int p4), .val (.int p5), .unset, .unset, .unset, .unset, .unset, .unset, .unset] [(.int (p1 &&& (255 : Int32)))])) _
    refine XS.bipush X0.here hx rfl (hb hby at_5) ?_
    show Steps p.tables e below (s₁.setTop (mkF m 7 #[.val (.int p1), .val (.int p2), .val (.int p3), .val (.int p4), .val (.int p5), .unset, .unset, .unset, .unset, .unset, .unset, .unset] [(.int (12 : Int32)), (.int (p1 &&& (255 : Int32)))])) _
    refine iremM X0 hx rfl (hb hby at_7) rfl (by decide) ?_
    show Steps p.tables e below (s₁.setTop (mkF m 8 #[.val (.int p1), .val (.int p2), .val (.int p3), .val (.int p4), .val (.int p5), .unset, .unset, .unset, .unset, .unset, .unset, .unset] [(.int ((p1 &&& (255 : Int32)) % (12 : Int32)))])) _
    refine XS.iconst X0.here hx rfl (hb hby at_8) ?_
    show Steps p.tables e below (s₁.setTop (mkF m 9 #[.val (.int p1), .val (.int p2), .val (.int p3), .val (.int p4), .val (.int p5), .unset, .unset, .unset, .unset, .unset, .unset, .unset] [(.int (1 : Int32)), (.int ((p1 &&& (255 : Int32)) % (12 : Int32)))])) _
    refine XS.iadd X0.here hx rfl (hb hby at_9) rfl ?_
    rw [hp9]
    show Steps p.tables e below (s₁.setTop (mkF m 10 #[.val (.int p1), .val (.int p2), .val (.int p3), .val (.int p4), .val (.int p5), .unset, .unset, .unset, .unset, .unset, .unset, .unset] [(.int (Int32.ofNat n))])) _
    refine XS.istore X0.here hx rfl (hb hby at_10) rfl (l' := #[.val (.int p1), .val (.int p2), .val (.int p3), .val (.int p4), .val (.int p5), .val (.int (Int32.ofNat n)), .unset, .unset, .unset, .unset, .unset, .unset]) rfl ?_
    show Steps p.tables e below (s₁.setTop (mkF m 12 #[.val (.int p1), .val (.int p2), .val (.int p3), .val (.int p4), .val (.int p5), .val (.int (Int32.ofNat n)), .unset, .unset, .unset, .unset, .unset, .unset] [])) _
    refine XS.iloadN X0.here hx rfl (hb hby at_12) rfl ?_
    show Steps p.tables e below (s₁.setTop (mkF m 13 #[.val (.int p1), .val (.int p2), .val (.int p3), .val (.int p4), .val (.int p5), .val (.int (Int32.ofNat n)), .unset, .unset, .unset, .unset, .unset, .unset] [(.int p1)])) _
    refine XS.bipush X0.here hx rfl (hb hby at_13) ?_
    show Steps p.tables e below (s₁.setTop (mkF m 15 #[.val (.int p1), .val (.int p2), .val (.int p3), .val (.int p4), .val (.int p5), .val (.int (Int32.ofNat n)), .unset, .unset, .unset, .unset, .unset, .unset] [(.int (8 : Int32)), (.int p1)])) _
    refine XS.iushr X0.here hx rfl (hb hby at_15) rfl ?_
    show Steps p.tables e below (s₁.setTop (mkF m 16 #[.val (.int p1), .val (.int p2), .val (.int p3), .val (.int p4), .val (.int p5), .val (.int (Int32.ofNat n)), .unset, .unset, .unset, .unset, .unset, .unset] [(.int ((p1.toUInt32 >>> ((8 : Int32) &&& 31).toUInt32).toInt32))])) _
    refine XS.sipush X0.here hx rfl (hb hby at_16) ?_
    show Steps p.tables e below (s₁.setTop (mkF m 19 #[.val (.int p1), .val (.int p2), .val (.int p3), .val (.int p4), .val (.int p5), .val (.int (Int32.ofNat n)), .unset, .unset, .unset, .unset, .unset, .unset] [(.int (255 : Int32)), (.int ((p1.toUInt32 >>> ((8 : Int32) &&& 31).toUInt32).toInt32))])) _
    refine XS.iand X0.here hx rfl (hb hby at_19) rfl ?_
    show Steps p.tables e below (s₁.setTop (mkF m 20 #[.val (.int p1), .val (.int p2), .val (.int p3), .val (.int p4), .val (.int p5), .val (.int (Int32.ofNat n)), .unset, .unset, .unset, .unset, .unset, .unset] [(.int (((p1.toUInt32 >>> ((8 : Int32) &&& 31).toUInt32).toInt32) &&& (255 : Int32)))])) _
    refine XS.iload X0.here hx rfl (hb hby at_20) rfl ?_
    show Steps p.tables e below (s₁.setTop (mkF m 22 #[.val (.int p1), .val (.int p2), .val (.int p3), .val (.int p4), .val (.int p5), .val (.int (Int32.ofNat n)), .unset, .unset, .unset, .unset, .unset, .unset] [(.int (Int32.ofNat n)), (.int (((p1.toUInt32 >>> ((8 : Int32) &&& 31).toUInt32).toInt32) &&& (255 : Int32)))])) _
    refine iremM X0 hx rfl (hb hby at_22) rfl hnz22 ?_
    rw [hp22]
    show Steps p.tables e below (s₁.setTop (mkF m 23 #[.val (.int p1), .val (.int p2), .val (.int p3), .val (.int p4), .val (.int p5), .val (.int (Int32.ofNat n)), .unset, .unset, .unset, .unset, .unset, .unset] [(.int (Int32.ofNat pa))])) _
    refine XS.istore X0.here hx rfl (hb hby at_23) rfl (l' := #[.val (.int p1), .val (.int p2), .val (.int p3), .val (.int p4), .val (.int p5), .val (.int (Int32.ofNat n)), .val (.int (Int32.ofNat pa)), .unset, .unset, .unset, .unset, .unset]) rfl ?_
    show Steps p.tables e below (s₁.setTop (mkF m 25 #[.val (.int p1), .val (.int p2), .val (.int p3), .val (.int p4), .val (.int p5), .val (.int (Int32.ofNat n)), .val (.int (Int32.ofNat pa)), .unset, .unset, .unset, .unset, .unset] [])) _
    refine XS.iloadN X0.here hx rfl (hb hby at_25) rfl ?_
    show Steps p.tables e below (s₁.setTop (mkF m 26 #[.val (.int p1), .val (.int p2), .val (.int p3), .val (.int p4), .val (.int p5), .val (.int (Int32.ofNat n)), .val (.int (Int32.ofNat pa)), .unset, .unset, .unset, .unset, .unset] [(.int p1)])) _
    refine XS.bipush X0.here hx rfl (hb hby at_26) ?_
    show Steps p.tables e below (s₁.setTop (mkF m 28 #[.val (.int p1), .val (.int p2), .val (.int p3), .val (.int p4), .val (.int p5), .val (.int (Int32.ofNat n)), .val (.int (Int32.ofNat pa)), .unset, .unset, .unset, .unset, .unset] [(.int (16 : Int32)), (.int p1)])) _
    refine XS.iushr X0.here hx rfl (hb hby at_28) rfl ?_
    show Steps p.tables e below (s₁.setTop (mkF m 29 #[.val (.int p1), .val (.int p2), .val (.int p3), .val (.int p4), .val (.int p5), .val (.int (Int32.ofNat n)), .val (.int (Int32.ofNat pa)), .unset, .unset, .unset, .unset, .unset] [(.int ((p1.toUInt32 >>> ((16 : Int32) &&& 31).toUInt32).toInt32))])) _
    refine XS.sipush X0.here hx rfl (hb hby at_29) ?_
    show Steps p.tables e below (s₁.setTop (mkF m 32 #[.val (.int p1), .val (.int p2), .val (.int p3), .val (.int p4), .val (.int p5), .val (.int (Int32.ofNat n)), .val (.int (Int32.ofNat pa)), .unset, .unset, .unset, .unset, .unset] [(.int (255 : Int32)), (.int ((p1.toUInt32 >>> ((16 : Int32) &&& 31).toUInt32).toInt32))])) _
    refine XS.iand X0.here hx rfl (hb hby at_32) rfl ?_
    show Steps p.tables e below (s₁.setTop (mkF m 33 #[.val (.int p1), .val (.int p2), .val (.int p3), .val (.int p4), .val (.int p5), .val (.int (Int32.ofNat n)), .val (.int (Int32.ofNat pa)), .unset, .unset, .unset, .unset, .unset] [(.int (((p1.toUInt32 >>> ((16 : Int32) &&& 31).toUInt32).toInt32) &&& (255 : Int32)))])) _
    refine XS.iload X0.here hx rfl (hb hby at_33) rfl ?_
    show Steps p.tables e below (s₁.setTop (mkF m 35 #[.val (.int p1), .val (.int p2), .val (.int p3), .val (.int p4), .val (.int p5), .val (.int (Int32.ofNat n)), .val (.int (Int32.ofNat pa)), .unset, .unset, .unset, .unset, .unset] [(.int (Int32.ofNat n)), (.int (((p1.toUInt32 >>> ((16 : Int32) &&& 31).toUInt32).toInt32) &&& (255 : Int32)))])) _
    refine iremM X0 hx rfl (hb hby at_35) rfl hnz35 ?_
    rw [hp35]
    show Steps p.tables e below (s₁.setTop (mkF m 36 #[.val (.int p1), .val (.int p2), .val (.int p3), .val (.int p4), .val (.int p5), .val (.int (Int32.ofNat n)), .val (.int (Int32.ofNat pa)), .unset, .unset, .unset, .unset, .unset] [(.int (Int32.ofNat pb))])) _
    refine XS.istore X0.here hx rfl (hb hby at_36) rfl (l' := #[.val (.int p1), .val (.int p2), .val (.int p3), .val (.int p4), .val (.int p5), .val (.int (Int32.ofNat n)), .val (.int (Int32.ofNat pa)), .val (.int (Int32.ofNat pb)), .unset, .unset, .unset, .unset]) rfl ?_
    show Steps p.tables e below (s₁.setTop (mkF m 38 #[.val (.int p1), .val (.int p2), .val (.int p3), .val (.int p4), .val (.int p5), .val (.int (Int32.ofNat n)), .val (.int (Int32.ofNat pa)), .val (.int (Int32.ofNat pb)), .unset, .unset, .unset, .unset] [])) _
    refine XS.iloadN X0.here hx rfl (hb hby at_38) rfl ?_
    show Steps p.tables e below (s₁.setTop (mkF m 39 #[.val (.int p1), .val (.int p2), .val (.int p3), .val (.int p4), .val (.int p5), .val (.int (Int32.ofNat n)), .val (.int (Int32.ofNat pa)), .val (.int (Int32.ofNat pb)), .unset, .unset, .unset, .unset] [(.int p1)])) _
    refine XS.bipush X0.here hx rfl (hb hby at_39) ?_
    show Steps p.tables e below (s₁.setTop (mkF m 41 #[.val (.int p1), .val (.int p2), .val (.int p3), .val (.int p4), .val (.int p5), .val (.int (Int32.ofNat n)), .val (.int (Int32.ofNat pa)), .val (.int (Int32.ofNat pb)), .unset, .unset, .unset, .unset] [(.int (24 : Int32)), (.int p1)])) _
    refine XS.iushr X0.here hx rfl (hb hby at_41) rfl ?_
    show Steps p.tables e below (s₁.setTop (mkF m 42 #[.val (.int p1), .val (.int p2), .val (.int p3), .val (.int p4), .val (.int p5), .val (.int (Int32.ofNat n)), .val (.int (Int32.ofNat pa)), .val (.int (Int32.ofNat pb)), .unset, .unset, .unset, .unset] [(.int ((p1.toUInt32 >>> ((24 : Int32) &&& 31).toUInt32).toInt32))])) _
    refine XS.sipush X0.here hx rfl (hb hby at_42) ?_
    show Steps p.tables e below (s₁.setTop (mkF m 45 #[.val (.int p1), .val (.int p2), .val (.int p3), .val (.int p4), .val (.int p5), .val (.int (Int32.ofNat n)), .val (.int (Int32.ofNat pa)), .val (.int (Int32.ofNat pb)), .unset, .unset, .unset, .unset] [(.int (255 : Int32)), (.int ((p1.toUInt32 >>> ((24 : Int32) &&& 31).toUInt32).toInt32))])) _
    refine XS.iand X0.here hx rfl (hb hby at_45) rfl ?_
    show Steps p.tables e below (s₁.setTop (mkF m 46 #[.val (.int p1), .val (.int p2), .val (.int p3), .val (.int p4), .val (.int p5), .val (.int (Int32.ofNat n)), .val (.int (Int32.ofNat pa)), .val (.int (Int32.ofNat pb)), .unset, .unset, .unset, .unset] [(.int (((p1.toUInt32 >>> ((24 : Int32) &&& 31).toUInt32).toInt32) &&& (255 : Int32)))])) _
    refine XS.iload X0.here hx rfl (hb hby at_46) rfl ?_
    show Steps p.tables e below (s₁.setTop (mkF m 48 #[.val (.int p1), .val (.int p2), .val (.int p3), .val (.int p4), .val (.int p5), .val (.int (Int32.ofNat n)), .val (.int (Int32.ofNat pa)), .val (.int (Int32.ofNat pb)), .unset, .unset, .unset, .unset] [(.int (Int32.ofNat n)), (.int (((p1.toUInt32 >>> ((24 : Int32) &&& 31).toUInt32).toInt32) &&& (255 : Int32)))])) _
    refine iremM X0 hx rfl (hb hby at_48) rfl hnz48 ?_
    rw [hp48]
    show Steps p.tables e below (s₁.setTop (mkF m 49 #[.val (.int p1), .val (.int p2), .val (.int p3), .val (.int p4), .val (.int p5), .val (.int (Int32.ofNat n)), .val (.int (Int32.ofNat pa)), .val (.int (Int32.ofNat pb)), .unset, .unset, .unset, .unset] [(.int (Int32.ofNat pd))])) _
    refine XS.istore X0.here hx rfl (hb hby at_49) rfl (l' := #[.val (.int p1), .val (.int p2), .val (.int p3), .val (.int p4), .val (.int p5), .val (.int (Int32.ofNat n)), .val (.int (Int32.ofNat pa)), .val (.int (Int32.ofNat pb)), .val (.int (Int32.ofNat pd)), .unset, .unset, .unset]) rfl ?_
    show Steps p.tables e below (s₁.setTop (mkF m 51 #[.val (.int p1), .val (.int p2), .val (.int p3), .val (.int p4), .val (.int p5), .val (.int (Int32.ofNat n)), .val (.int (Int32.ofNat pa)), .val (.int (Int32.ofNat pb)), .val (.int (Int32.ofNat pd)), .unset, .unset, .unset] [])) _
    refine XS.iload X0.here hx rfl (hb hby at_51) rfl ?_
    show Steps p.tables e below (s₁.setTop (mkF m 53 #[.val (.int p1), .val (.int p2), .val (.int p3), .val (.int p4), .val (.int p5), .val (.int (Int32.ofNat n)), .val (.int (Int32.ofNat pa)), .val (.int (Int32.ofNat pb)), .val (.int (Int32.ofNat pd)), .unset, .unset, .unset] [(.int p5)])) _
    refine X0.ldcInt hx hown (mvT hZ (hw _ (List.mem_of_getElem? (i := 0) rfl))) (g := (mkF m 53 #[.val (.int p1), .val (.int p2), .val (.int p3), .val (.int p4), .val (.int p5), .val (.int (Int32.ofNat n)), .val (.int (Int32.ofNat pa)), .val (.int (Int32.ofNat pb)), .val (.int (Int32.ofNat pd)), .unset, .unset, .unset] [(.int p5)])) rfl (hb hby at_53) _ ?_
    show Steps p.tables e below (s₁.setTop (mkF m 55 #[.val (.int p1), .val (.int p2), .val (.int p3), .val (.int p4), .val (.int p5), .val (.int (Int32.ofNat n)), .val (.int (Int32.ofNat pa)), .val (.int (Int32.ofNat pb)), .val (.int (Int32.ofNat pd)), .unset, .unset, .unset] [(.int (2147483647 : Int32)), (.int p5)])) _
    refine XS.iand X0.here hx rfl (hb hby at_55) rfl ?_
    show Steps p.tables e below (s₁.setTop (mkF m 56 #[.val (.int p1), .val (.int p2), .val (.int p3), .val (.int p4), .val (.int p5), .val (.int (Int32.ofNat n)), .val (.int (Int32.ofNat pa)), .val (.int (Int32.ofNat pb)), .val (.int (Int32.ofNat pd)), .unset, .unset, .unset] [(.int (p5 &&& (2147483647 : Int32)))])) _
    refine XS.iload X0.here hx rfl (hb hby at_56) rfl ?_
    show Steps p.tables e below (s₁.setTop (mkF m 58 #[.val (.int p1), .val (.int p2), .val (.int p3), .val (.int p4), .val (.int p5), .val (.int (Int32.ofNat n)), .val (.int (Int32.ofNat pa)), .val (.int (Int32.ofNat pb)), .val (.int (Int32.ofNat pd)), .unset, .unset, .unset] [(.int (Int32.ofNat n)), (.int (p5 &&& (2147483647 : Int32)))])) _
    refine XS.iconst X0.here hx rfl (hb hby at_58) ?_
    show Steps p.tables e below (s₁.setTop (mkF m 59 #[.val (.int p1), .val (.int p2), .val (.int p3), .val (.int p4), .val (.int p5), .val (.int (Int32.ofNat n)), .val (.int (Int32.ofNat pa)), .val (.int (Int32.ofNat pb)), .val (.int (Int32.ofNat pd)), .unset, .unset, .unset] [(.int (1 : Int32)), (.int (Int32.ofNat n)), (.int (p5 &&& (2147483647 : Int32)))])) _
    refine XS.iadd X0.here hx rfl (hb hby at_59) rfl ?_
    show Steps p.tables e below (s₁.setTop (mkF m 60 #[.val (.int p1), .val (.int p2), .val (.int p3), .val (.int p4), .val (.int p5), .val (.int (Int32.ofNat n)), .val (.int (Int32.ofNat pa)), .val (.int (Int32.ofNat pb)), .val (.int (Int32.ofNat pd)), .unset, .unset, .unset] [(.int ((Int32.ofNat n) + (1 : Int32))), (.int (p5 &&& (2147483647 : Int32)))])) _
    refine iremM X0 hx rfl (hb hby at_60) rfl hnz60 ?_
    rw [hp60]
    show Steps p.tables e below (s₁.setTop (mkF m 61 #[.val (.int p1), .val (.int p2), .val (.int p3), .val (.int p4), .val (.int p5), .val (.int (Int32.ofNat n)), .val (.int (Int32.ofNat pa)), .val (.int (Int32.ofNat pb)), .val (.int (Int32.ofNat pd)), .unset, .unset, .unset] [(.int (Int32.ofNat q))])) _
    refine XS.istore X0.here hx rfl (hb hby at_61) rfl (l' := #[.val (.int p1), .val (.int p2), .val (.int p3), .val (.int p4), .val (.int p5), .val (.int (Int32.ofNat n)), .val (.int (Int32.ofNat pa)), .val (.int (Int32.ofNat pb)), .val (.int (Int32.ofNat pd)), .val (.int (Int32.ofNat q)), .unset, .unset]) rfl ?_
    show Steps p.tables e below (s₁.setTop (mkF m 63 #[.val (.int p1), .val (.int p2), .val (.int p3), .val (.int p4), .val (.int p5), .val (.int (Int32.ofNat n)), .val (.int (Int32.ofNat pa)), .val (.int (Int32.ofNat pb)), .val (.int (Int32.ofNat pd)), .val (.int (Int32.ofNat q)), .unset, .unset] [])) _
    refine st6 _ ?_
    show Steps p.tables e below (T6.setTop (mkF m 66 #[.val (.int p1), .val (.int p2), .val (.int p3), .val (.int p4), .val (.int p5), .val (.int (Int32.ofNat n)), .val (.int (Int32.ofNat pa)), .val (.int (Int32.ofNat pb)), .val (.int (Int32.ofNat pd)), .val (.int (Int32.ofNat q)), .unset, .unset] [(.ref b6)])) _
    refine XS.dup X6.here hx rfl (hb hby at_66) rfl rfl ?_
    show Steps p.tables e below (T6.setTop (mkF m 67 #[.val (.int p1), .val (.int p2), .val (.int p3), .val (.int p4), .val (.int p5), .val (.int (Int32.ofNat n)), .val (.int (Int32.ofNat pa)), .val (.int (Int32.ofNat pb)), .val (.int (Int32.ofNat pd)), .val (.int (Int32.ofNat q)), .unset, .unset] [(.ref b6), (.ref b6)])) _
    refine XS.iload X6.here hx rfl (hb hby at_67) rfl ?_
    show Steps p.tables e below (T6.setTop (mkF m 69 #[.val (.int p1), .val (.int p2), .val (.int p3), .val (.int p4), .val (.int p5), .val (.int (Int32.ofNat n)), .val (.int (Int32.ofNat pa)), .val (.int (Int32.ofNat pb)), .val (.int (Int32.ofNat pd)), .val (.int (Int32.ofNat q)), .unset, .unset] [(.int (Int32.ofNat n)), (.ref b6), (.ref b6)])) _
    refine st7.trans ?_
    show Steps p.tables e below (T7.setTop (mkF m 72 #[.val (.int p1), .val (.int p2), .val (.int p3), .val (.int p4), .val (.int p5), .val (.int (Int32.ofNat n)), .val (.int (Int32.ofNat pa)), .val (.int (Int32.ofNat pb)), .val (.int (Int32.ofNat pd)), .val (.int (Int32.ofNat q)), .unset, .unset] [(.ref b6)])) _
    refine XS.astore X7.here hx rfl (hb hby at_72) rfl rfl (l' := #[.val (.int p1), .val (.int p2), .val (.int p3), .val (.int p4), .val (.int p5), .val (.int (Int32.ofNat n)), .val (.int (Int32.ofNat pa)), .val (.int (Int32.ofNat pb)), .val (.int (Int32.ofNat pd)), .val (.int (Int32.ofNat q)), .val (.ref b6), .unset]) rfl ?_
    show Steps p.tables e below (T7.setTop (mkF m 74 #[.val (.int p1), .val (.int p2), .val (.int p3), .val (.int p4), .val (.int p5), .val (.int (Int32.ofNat n)), .val (.int (Int32.ofNat pa)), .val (.int (Int32.ofNat pb)), .val (.int (Int32.ofNat pd)), .val (.int (Int32.ofNat q)), .val (.ref b6), .unset] [])) _
    refine XS.aload X7.here hx rfl (hb hby at_74) rfl rfl ?_
    show Steps p.tables e below (T7.setTop (mkF m 76 #[.val (.int p1), .val (.int p2), .val (.int p3), .val (.int p4), .val (.int p5), .val (.int (Int32.ofNat n)), .val (.int (Int32.ofNat pa)), .val (.int (Int32.ofNat pb)), .val (.int (Int32.ofNat pd)), .val (.int (Int32.ofNat q)), .val (.ref b6), .unset] [(.ref b6)])) _
    refine XS.iload X7.here hx rfl (hb hby at_76) rfl ?_
    show Steps p.tables e below (T7.setTop (mkF m 78 #[.val (.int p1), .val (.int p2), .val (.int p3), .val (.int p4), .val (.int p5), .val (.int (Int32.ofNat n)), .val (.int (Int32.ofNat pa)), .val (.int (Int32.ofNat pb)), .val (.int (Int32.ofNat pd)), .val (.int (Int32.ofNat q)), .val (.ref b6), .unset] [(.int (Int32.ofNat pa)), (.ref b6)])) _
    refine XS.iloadN X7.here hx rfl (hb hby at_78) rfl ?_
    show Steps p.tables e below (T7.setTop (mkF m 79 #[.val (.int p1), .val (.int p2), .val (.int p3), .val (.int p4), .val (.int p5), .val (.int (Int32.ofNat n)), .val (.int (Int32.ofNat pa)), .val (.int (Int32.ofNat pb)), .val (.int (Int32.ofNat pd)), .val (.int (Int32.ofNat q)), .val (.ref b6), .unset] [(.int p2), (.int (Int32.ofNat pa)), (.ref b6)])) _
    refine st8.trans ?_
    show Steps p.tables e below (T8.setTop (mkF m 82 #[.val (.int p1), .val (.int p2), .val (.int p3), .val (.int p4), .val (.int p5), .val (.int (Int32.ofNat n)), .val (.int (Int32.ofNat pa)), .val (.int (Int32.ofNat pb)), .val (.int (Int32.ofNat pd)), .val (.int (Int32.ofNat q)), .val (.ref b6), .unset] [])) _
    refine XS.aload X8.here hx rfl (hb hby at_82) rfl rfl ?_
    show Steps p.tables e below (T8.setTop (mkF m 84 #[.val (.int p1), .val (.int p2), .val (.int p3), .val (.int p4), .val (.int p5), .val (.int (Int32.ofNat n)), .val (.int (Int32.ofNat pa)), .val (.int (Int32.ofNat pb)), .val (.int (Int32.ofNat pd)), .val (.int (Int32.ofNat q)), .val (.ref b6), .unset] [(.ref b6)])) _
    refine XS.iload X8.here hx rfl (hb hby at_84) rfl ?_
    show Steps p.tables e below (T8.setTop (mkF m 86 #[.val (.int p1), .val (.int p2), .val (.int p3), .val (.int p4), .val (.int p5), .val (.int (Int32.ofNat n)), .val (.int (Int32.ofNat pa)), .val (.int (Int32.ofNat pb)), .val (.int (Int32.ofNat pd)), .val (.int (Int32.ofNat q)), .val (.ref b6), .unset] [(.int (Int32.ofNat pb)), (.ref b6)])) _
    refine XS.iloadN X8.here hx rfl (hb hby at_86) rfl ?_
    show Steps p.tables e below (T8.setTop (mkF m 87 #[.val (.int p1), .val (.int p2), .val (.int p3), .val (.int p4), .val (.int p5), .val (.int (Int32.ofNat n)), .val (.int (Int32.ofNat pa)), .val (.int (Int32.ofNat pb)), .val (.int (Int32.ofNat pd)), .val (.int (Int32.ofNat q)), .val (.ref b6), .unset] [(.int p3), (.int (Int32.ofNat pb)), (.ref b6)])) _
    refine st9.trans ?_
    show Steps p.tables e below (T9.setTop (mkF m 90 #[.val (.int p1), .val (.int p2), .val (.int p3), .val (.int p4), .val (.int p5), .val (.int (Int32.ofNat n)), .val (.int (Int32.ofNat pa)), .val (.int (Int32.ofNat pb)), .val (.int (Int32.ofNat pd)), .val (.int (Int32.ofNat q)), .val (.ref b6), .unset] [])) _
    refine XS.aload X9.here hx rfl (hb hby at_90) rfl rfl ?_
    show Steps p.tables e below (T9.setTop (mkF m 92 #[.val (.int p1), .val (.int p2), .val (.int p3), .val (.int p4), .val (.int p5), .val (.int (Int32.ofNat n)), .val (.int (Int32.ofNat pa)), .val (.int (Int32.ofNat pb)), .val (.int (Int32.ofNat pd)), .val (.int (Int32.ofNat q)), .val (.ref b6), .unset] [(.ref b6)])) _
    refine XS.iload X9.here hx rfl (hb hby at_92) rfl ?_
    show Steps p.tables e below (T9.setTop (mkF m 94 #[.val (.int p1), .val (.int p2), .val (.int p3), .val (.int p4), .val (.int p5), .val (.int (Int32.ofNat n)), .val (.int (Int32.ofNat pa)), .val (.int (Int32.ofNat pb)), .val (.int (Int32.ofNat pd)), .val (.int (Int32.ofNat q)), .val (.ref b6), .unset] [(.int (Int32.ofNat pd)), (.ref b6)])) _
    refine XS.iloadN X9.here hx rfl (hb hby at_94) rfl ?_
    show Steps p.tables e below (T9.setTop (mkF m 95 #[.val (.int p1), .val (.int p2), .val (.int p3), .val (.int p4), .val (.int p5), .val (.int (Int32.ofNat n)), .val (.int (Int32.ofNat pa)), .val (.int (Int32.ofNat pb)), .val (.int (Int32.ofNat pd)), .val (.int (Int32.ofNat q)), .val (.ref b6), .unset] [(.int p4), (.int (Int32.ofNat pd)), (.ref b6)])) _
    refine st10.trans ?_
    show Steps p.tables e below (T10.setTop (mkF m 98 #[.val (.int p1), .val (.int p2), .val (.int p3), .val (.int p4), .val (.int p5), .val (.int (Int32.ofNat n)), .val (.int (Int32.ofNat pa)), .val (.int (Int32.ofNat pb)), .val (.int (Int32.ofNat pd)), .val (.int (Int32.ofNat q)), .val (.ref b6), .unset] [])) _
    refine XS.iconst X10.here hx rfl (hb hby at_98) ?_
    show Steps p.tables e below (T10.setTop (mkF m 99 #[.val (.int p1), .val (.int p2), .val (.int p3), .val (.int p4), .val (.int p5), .val (.int (Int32.ofNat n)), .val (.int (Int32.ofNat pa)), .val (.int (Int32.ofNat pb)), .val (.int (Int32.ofNat pd)), .val (.int (Int32.ofNat q)), .val (.ref b6), .unset] [(.int (0 : Int32))])) _
    refine XS.istore X10.here hx rfl (hb hby at_99) rfl (l' := #[.val (.int p1), .val (.int p2), .val (.int p3), .val (.int p4), .val (.int p5), .val (.int (Int32.ofNat n)), .val (.int (Int32.ofNat pa)), .val (.int (Int32.ofNat pb)), .val (.int (Int32.ofNat pd)), .val (.int (Int32.ofNat q)), .val (.ref b6), .val (.int (0 : Int32))]) rfl ?_
    show Steps p.tables e below (T10.setTop (mkF m 101 #[.val (.int p1), .val (.int p2), .val (.int p3), .val (.int p4), .val (.int p5), .val (.int (Int32.ofNat n)), .val (.int (Int32.ofNat pa)), .val (.int (Int32.ofNat pb)), .val (.int (Int32.ofNat pd)), .val (.int (Int32.ofNat q)), .val (.ref b6), .val (.int (0 : Int32))] [])) _
    refine XS.iload X10.here hx rfl (hb hby at_101) rfl ?_
    show Steps p.tables e below (T10.setTop (mkF m 103 #[.val (.int p1), .val (.int p2), .val (.int p3), .val (.int p4), .val (.int p5), .val (.int (Int32.ofNat n)), .val (.int (Int32.ofNat pa)), .val (.int (Int32.ofNat pb)), .val (.int (Int32.ofNat pd)), .val (.int (Int32.ofNat q)), .val (.ref b6), .val (.int (0 : Int32))] [(.int (Int32.ofNat pa))])) _
    refine XS.iload X10.here hx rfl (hb hby at_103) rfl ?_
    show Steps p.tables e below (T10.setTop (mkF m 105 #[.val (.int p1), .val (.int p2), .val (.int p3), .val (.int p4), .val (.int p5), .val (.int (Int32.ofNat n)), .val (.int (Int32.ofNat pa)), .val (.int (Int32.ofNat pb)), .val (.int (Int32.ofNat pd)), .val (.int (Int32.ofNat q)), .val (.ref b6), .val (.int (0 : Int32))] [(.int (Int32.ofNat q)), (.int (Int32.ofNat pa))])) _
    refine XS.icmpNo X10.here hx rfl (hb hby at_105) rfl (tlt hc105).2.1 ?_
    show Steps p.tables e below (T10.setTop (mkF m 108 #[.val (.int p1), .val (.int p2), .val (.int p3), .val (.int p4), .val (.int p5), .val (.int (Int32.ofNat n)), .val (.int (Int32.ofNat pa)), .val (.int (Int32.ofNat pb)), .val (.int (Int32.ofNat pd)), .val (.int (Int32.ofNat q)), .val (.ref b6), .val (.int (0 : Int32))] [])) _
    refine XS.iload X10.here hx rfl (hb hby at_108) rfl ?_
    show Steps p.tables e below (T10.setTop (mkF m 110 #[.val (.int p1), .val (.int p2), .val (.int p3), .val (.int p4), .val (.int p5), .val (.int (Int32.ofNat n)), .val (.int (Int32.ofNat pa)), .val (.int (Int32.ofNat pb)), .val (.int (Int32.ofNat pd)), .val (.int (Int32.ofNat q)), .val (.ref b6), .val (.int (0 : Int32))] [(.int (0 : Int32))])) _
    refine XS.iloadN X10.here hx rfl (hb hby at_110) rfl ?_
    show Steps p.tables e below (T10.setTop (mkF m 111 #[.val (.int p1), .val (.int p2), .val (.int p3), .val (.int p4), .val (.int p5), .val (.int (Int32.ofNat n)), .val (.int (Int32.ofNat pa)), .val (.int (Int32.ofNat pb)), .val (.int (Int32.ofNat pd)), .val (.int (Int32.ofNat q)), .val (.ref b6), .val (.int (0 : Int32))] [(.int p2), (.int (0 : Int32))])) _
    refine XS.iadd X10.here hx rfl (hb hby at_111) rfl ?_
    show Steps p.tables e below (T10.setTop (mkF m 112 #[.val (.int p1), .val (.int p2), .val (.int p3), .val (.int p4), .val (.int p5), .val (.int (Int32.ofNat n)), .val (.int (Int32.ofNat pa)), .val (.int (Int32.ofNat pb)), .val (.int (Int32.ofNat pd)), .val (.int (Int32.ofNat q)), .val (.ref b6), .val (.int (0 : Int32))] [(.int ((0 : Int32) + p2))])) _
    refine XS.istore X10.here hx rfl (hb hby at_112) rfl (l' := #[.val (.int p1), .val (.int p2), .val (.int p3), .val (.int p4), .val (.int p5), .val (.int (Int32.ofNat n)), .val (.int (Int32.ofNat pa)), .val (.int (Int32.ofNat pb)), .val (.int (Int32.ofNat pd)), .val (.int (Int32.ofNat q)), .val (.ref b6), .val (.int ((0 : Int32) + p2))]) rfl ?_
    show Steps p.tables e below (T10.setTop (mkF m 114 #[.val (.int p1), .val (.int p2), .val (.int p3), .val (.int p4), .val (.int p5), .val (.int (Int32.ofNat n)), .val (.int (Int32.ofNat pa)), .val (.int (Int32.ofNat pb)), .val (.int (Int32.ofNat pd)), .val (.int (Int32.ofNat q)), .val (.ref b6), .val (.int ((0 : Int32) + p2))] [])) _
    refine XS.iload X10.here hx rfl (hb hby at_114) rfl ?_
    show Steps p.tables e below (T10.setTop (mkF m 116 #[.val (.int p1), .val (.int p2), .val (.int p3), .val (.int p4), .val (.int p5), .val (.int (Int32.ofNat n)), .val (.int (Int32.ofNat pa)), .val (.int (Int32.ofNat pb)), .val (.int (Int32.ofNat pd)), .val (.int (Int32.ofNat q)), .val (.ref b6), .val (.int ((0 : Int32) + p2))] [(.int (Int32.ofNat pb))])) _
    refine XS.iload X10.here hx rfl (hb hby at_116) rfl ?_
    show Steps p.tables e below (T10.setTop (mkF m 118 #[.val (.int p1), .val (.int p2), .val (.int p3), .val (.int p4), .val (.int p5), .val (.int (Int32.ofNat n)), .val (.int (Int32.ofNat pa)), .val (.int (Int32.ofNat pb)), .val (.int (Int32.ofNat pd)), .val (.int (Int32.ofNat q)), .val (.ref b6), .val (.int ((0 : Int32) + p2))] [(.int (Int32.ofNat q)), (.int (Int32.ofNat pb))])) _
    refine XS.icmpYes X10.here hx rfl (pc0 := 118) (pc' := 127) rfl (hb hby at_118) rfl (flt hc118).2.1 (by decide) (by decide) ?_
    show Steps p.tables e below (T10.setTop (mkF m 127 #[.val (.int p1), .val (.int p2), .val (.int p3), .val (.int p4), .val (.int p5), .val (.int (Int32.ofNat n)), .val (.int (Int32.ofNat pa)), .val (.int (Int32.ofNat pb)), .val (.int (Int32.ofNat pd)), .val (.int (Int32.ofNat q)), .val (.ref b6), .val (.int ((0 : Int32) + p2))] [])) _
    refine XS.iload X10.here hx rfl (hb hby at_127) rfl ?_
    show Steps p.tables e below (T10.setTop (mkF m 129 #[.val (.int p1), .val (.int p2), .val (.int p3), .val (.int p4), .val (.int p5), .val (.int (Int32.ofNat n)), .val (.int (Int32.ofNat pa)), .val (.int (Int32.ofNat pb)), .val (.int (Int32.ofNat pd)), .val (.int (Int32.ofNat q)), .val (.ref b6), .val (.int ((0 : Int32) + p2))] [(.int (Int32.ofNat pd))])) _
    refine XS.iload X10.here hx rfl (hb hby at_129) rfl ?_
    show Steps p.tables e below (T10.setTop (mkF m 131 #[.val (.int p1), .val (.int p2), .val (.int p3), .val (.int p4), .val (.int p5), .val (.int (Int32.ofNat n)), .val (.int (Int32.ofNat pa)), .val (.int (Int32.ofNat pb)), .val (.int (Int32.ofNat pd)), .val (.int (Int32.ofNat q)), .val (.ref b6), .val (.int ((0 : Int32) + p2))] [(.int (Int32.ofNat q)), (.int (Int32.ofNat pd))])) _
    refine XS.icmpYes X10.here hx rfl (pc0 := 131) (pc' := 140) rfl (hb hby at_131) rfl (flt hc131).2.1 (by decide) (by decide) ?_
    show Steps p.tables e below (T10.setTop (mkF m 140 #[.val (.int p1), .val (.int p2), .val (.int p3), .val (.int p4), .val (.int p5), .val (.int (Int32.ofNat n)), .val (.int (Int32.ofNat pa)), .val (.int (Int32.ofNat pb)), .val (.int (Int32.ofNat pd)), .val (.int (Int32.ofNat q)), .val (.ref b6), .val (.int ((0 : Int32) + p2))] [])) _
    refine XS.aload X10.here hx rfl (hb hby at_140) rfl rfl ?_
    show Steps p.tables e below (T10.setTop (mkF m 142 #[.val (.int p1), .val (.int p2), .val (.int p3), .val (.int p4), .val (.int p5), .val (.int (Int32.ofNat n)), .val (.int (Int32.ofNat pa)), .val (.int (Int32.ofNat pb)), .val (.int (Int32.ofNat pd)), .val (.int (Int32.ofNat q)), .val (.ref b6), .val (.int ((0 : Int32) + p2))] [(.ref b6)])) _
    refine XS.iload X10.here hx rfl (hb hby at_142) rfl ?_
    show Steps p.tables e below (T10.setTop (mkF m 144 #[.val (.int p1), .val (.int p2), .val (.int p3), .val (.int p4), .val (.int p5), .val (.int (Int32.ofNat n)), .val (.int (Int32.ofNat pa)), .val (.int (Int32.ofNat pb)), .val (.int (Int32.ofNat pd)), .val (.int (Int32.ofNat q)), .val (.ref b6), .val (.int ((0 : Int32) + p2))] [(.int (Int32.ofNat q)), (.ref b6)])) _
    refine st11.trans ?_
    show Steps p.tables e below (T11.setTop (mkF m 147 #[.val (.int p1), .val (.int p2), .val (.int p3), .val (.int p4), .val (.int p5), .val (.int (Int32.ofNat n)), .val (.int (Int32.ofNat pa)), .val (.int (Int32.ofNat pb)), .val (.int (Int32.ofNat pd)), .val (.int (Int32.ofNat q)), .val (.ref b6), .val (.int ((0 : Int32) + p2))] [(.int (own_sum (own_down 6 q) (own_adds (own_up 6 (n + 1) (pd + 1)) p4 (own_adds (own_up 6 (n + 1) (pb + 1)) p3 (own_adds (own_up 6 (n + 1) (pa + 1)) p2 (fun _ => 0)))) 0))])) _
    refine XS.iload X11.here hx rfl (hb hby at_147) rfl ?_
    show Steps p.tables e below (T11.setTop (mkF m 149 #[.val (.int p1), .val (.int p2), .val (.int p3), .val (.int p4), .val (.int p5), .val (.int (Int32.ofNat n)), .val (.int (Int32.ofNat pa)), .val (.int (Int32.ofNat pb)), .val (.int (Int32.ofNat pd)), .val (.int (Int32.ofNat q)), .val (.ref b6), .val (.int ((0 : Int32) + p2))] [(.int ((0 : Int32) + p2)), (.int (own_sum (own_down 6 q) (own_adds (own_up 6 (n + 1) (pd + 1)) p4 (own_adds (own_up 6 (n + 1) (pb + 1)) p3 (own_adds (own_up 6 (n + 1) (pa + 1)) p2 (fun _ => 0)))) 0))])) _
    refine XS.icmpNo X11.here hx rfl (hb hby at_149) rfl (teq (own_ok : (own_sum (own_down 6 q) (own_adds (own_up 6 (n + 1) (pd + 1)) p4 (own_adds (own_up 6 (n + 1) (pb + 1)) p3 (own_adds (own_up 6 (n + 1) (pa + 1)) p2 (fun _ => 0)))) 0) = ((0 : Int32) + p2))).2 ?_
    show Steps p.tables e below (T11.setTop (mkF m 152 #[.val (.int p1), .val (.int p2), .val (.int p3), .val (.int p4), .val (.int p5), .val (.int (Int32.ofNat n)), .val (.int (Int32.ofNat pa)), .val (.int (Int32.ofNat pb)), .val (.int (Int32.ofNat pd)), .val (.int (Int32.ofNat q)), .val (.ref b6), .val (.int ((0 : Int32) + p2))] [])) _
    refine XS.iconst X11.here hx rfl (hb hby at_152) ?_
    show Steps p.tables e below (T11.setTop (mkF m 153 #[.val (.int p1), .val (.int p2), .val (.int p3), .val (.int p4), .val (.int p5), .val (.int (Int32.ofNat n)), .val (.int (Int32.ofNat pa)), .val (.int (Int32.ofNat pb)), .val (.int (Int32.ofNat pd)), .val (.int (Int32.ofNat q)), .val (.ref b6), .val (.int ((0 : Int32) + p2))] [(.int (1 : Int32))])) _
    refine XS.goto X11.here hx rfl (pc0 := 153) (pc' := 157) rfl (hb hby at_153) (by decide) (by decide) ?_
    show Steps p.tables e below (T11.setTop (mkF m 157 #[.val (.int p1), .val (.int p2), .val (.int p3), .val (.int p4), .val (.int p5), .val (.int (Int32.ofNat n)), .val (.int (Int32.ofNat pa)), .val (.int (Int32.ofNat pb)), .val (.int (Int32.ofNat pd)), .val (.int (Int32.ofNat q)), .val (.ref b6), .val (.int ((0 : Int32) + p2))] [(.int (1 : Int32))])) _
    exact retN X11 hx (t := .boolean) Bd.returns (by simp) (hb hby at_157) hr
  · show Q0_fttf Z p1 p2 p3 p4 p5 h0 n0 _ T11.heap _
    exact ⟨rfl, N11⟩
def Q0_tfff (Z : State) (p1 : Int32) (p2 : Int32) (p3 : Int32) (p4 : Int32) (p5 : Int32) (h0 : Heap) (n0 : Nat) (v : Option Value) (h : Heap) (L : List Loc) : Prop := v = some (.int (1 : Int32)) ∧ Fr n0 L
set_option maxRecDepth 65536 in
set_option maxHeartbeats 40000000 in
theorem rm0_tfff (l : Launch) (Z : State) (a0 : Array Value) (hw : ∀ d ∈ tables_1, d.before a0 Z = true) (ws : List Jvm.Cond) (p1 : Int32) (p2 : Int32) (p3 : Int32) (p4 : Int32) (p5 : Int32) (n pa pb pd q : Nat) (h0 : Heap) (n0 : Nat) (Z0 : n0 ≤ h0.size) (hn : n ≤ 16) (hpa : pa < n) (hpb : pb < n) (hpd : pd < n) (hq : q ≤ n) (hp9 : (((p1 &&& (255 : Int32)) % (12 : Int32)) + (1 : Int32)) = (Int32.ofNat n)) (hp22 : ((((p1.toUInt32 >>> ((8 : Int32) &&& 31).toUInt32).toInt32) &&& (255 : Int32)) % (Int32.ofNat n)) = (Int32.ofNat pa)) (hp35 : ((((p1.toUInt32 >>> ((16 : Int32) &&& 31).toUInt32).toInt32) &&& (255 : Int32)) % (Int32.ofNat n)) = (Int32.ofNat pb)) (hp48 : ((((p1.toUInt32 >>> ((24 : Int32) &&& 31).toUInt32).toInt32) &&& (255 : Int32)) % (Int32.ofNat n)) = (Int32.ofNat pd)) (hp60 : ((p5 &&& (2147483647 : Int32)) % ((Int32.ofNat n) + (1 : Int32))) = (Int32.ofNat q)) (hc105 : ¬ ((Int32.ofNat pa) < (Int32.ofNat q))) (hc118 : (Int32.ofNat pb) < (Int32.ofNat q)) (hc131 : (Int32.ofNat pd) < (Int32.ofNat q)) :
    MetFree l x (head1 (Jvm.Cond.code x code maxLocals ret :: ws) room_1) (fun a U => a = #[(.int p1), (.int p2), (.int p3), (.int p4), (.int p5)] ∧ Z.Warmed39 U.vm ∧ U.heap = h0) (fun _ _ _ _ _ => True) (fun _ U o U' => ∃ v L, o = .returned v ∧ Q0_tfff Z p1 p2 p3 p4 p5 h0 n0 v U'.heap L ∧ FrameEnd U o U' L room_1.cells room_1.slots) := by
  refine MetFree.of_bodySF (plainFor_of_name pn_0) hisR ?_
  intro p e s m args below meth c s₁ Bd hml0 hP hK
  obtain ⟨rfl, hZ, hh⟩ := hP
  have hnz22 : Int32.ofNat n ≠ (0 : Int32) := own_nz (by omega) (by omega)
  have hnz35 := hnz22
  have hnz48 := hnz22
  have hnz60 : Int32.ofNat n + (1 : Int32) ≠ (0 : Int32) := by rw [own_one]; exact own_nz (by omega) (by omega)
  have hx := Bd.exec
  have hby := Bd.bytes
  have hml : c.maxLocals = 12 := hml0
  have hown : s.vm.findClass "com/example/tallykeep/tallykeep/core/PrefixCountsBelowPinLaw" = some m.cls := findClass_of_methodNamed Bd.named
  have hnm := (name_of_methodNamed Bd.named Bd.method).1
  have X0 : Stand p l e room_1 s m #[(.int p1), (.int p2), (.int p3), (.int p4), (.int p5)] below meth c s₁ [] 0 0 := Stand.of_body Bd
  have e0 : s₁.heap = h0 := by rw [← hh, Bd.state]; rfl
  have N0 := Fr.nil n0
  have pre0 : ∀ t, Steps p.tables e below (s₁.setTop (mkF m 0 #[.val (.int p1), .val (.int p2), .val (.int p3), .val (.int p4), .val (.int p5), .unset, .unset, .unset, .unset, .unset, .unset, .unset] [])) t → Steps p.tables e below (s₁.setTop (entryFrame m #[(.int p1), (.int p2), (.int p3), (.int p4), (.int p5)] maxLocals)) t := fun t k => castTop (ef_0 m p1 p2 p3 p4 p5) k
  obtain ⟨T6, h6, X6, e6, E6, A6, D6, -, st6⟩ := newO X0 hx hZ hown (hw _ (List.mem_of_getElem? (i := 1) rfl)) (hw _ (List.mem_of_getElem? (i := 2) rfl)) (hw _ (List.mem_of_getElem? (i := 3) rfl)) e0 (g := (mkF m 63 #[.val (.int p1), .val (.int p2), .val (.int p3), .val (.int p4), .val (.int p5), .val (.int (Int32.ofNat n)), .val (.int (Int32.ofNat pa)), .val (.int (Int32.ofNat pb)), .val (.int (Int32.ofNat pd)), .val (.int (Int32.ofNat q)), .unset, .unset] [])) rfl (hb hby at_63) (by decide) (by decide)
  obtain ⟨b6, g6⟩ : ∃ z, z = h0.size := ⟨_, rfl⟩
  rw [← g6] at A6 D6 st6
  have F_cells_b6 : Fld Z h6 b6 "com/example/tallykeep/tallykeep/core/PrefixCounts" "cells" "[I" .null := D6 (Or.inr (hw _ (List.mem_of_getElem? (i := 12) rfl))) (ty := (.array .int)) (by decide)
  have E_b6 := A6
  have g_b6 : n0 ≤ b6 := Nat.le_trans Z0 (Nat.le_of_eq g6.symm)
  have sz_b6 : h0.size ≤ b6 := (Nat.le_trans (Keep.refl h0 []).1 (Nat.le_of_eq g6.symm))
  have K6 : Keep h0 h6 [] := (Keep.refl h0 []).ext E6
  obtain ⟨_, _, ⟨T7, L7, k7, n7⟩, -, X7, ⟨Lc7, hQ7, l7, y7, z7⟩, st7⟩ := X6.specialBack hx (y := (⟨"com/example/tallykeep/tallykeep/core/PrefixCounts", "<init>", "(I)V"⟩ : MethodName)) rfl hown (mvT hZ (hw _ (List.mem_of_getElem? (i := 4) rfl))) (mvT hZ (hw _ (List.mem_of_getElem? (i := 5) rfl))) (mvT hZ (hw _ (List.mem_of_getElem? (i := 6) rfl))) (by decide) (backOf (W := 1) (rm1 l Z a0 hw [] b6 n .null h6 n0 (Nat.le_trans Z0 K6.1) E_b6 F_cells_b6 g_b6 hn) hZ (hw _ (List.mem_of_getElem? (i := 6) rfl)) (hw _ (List.mem_of_getElem? (i := 3) rfl)) (by decide) (by decide)) (g := (mkF m 69 #[.val (.int p1), .val (.int p2), .val (.int p3), .val (.int p4), .val (.int p5), .val (.int (Int32.ofNat n)), .val (.int (Int32.ofNat pa)), .val (.int (Int32.ofNat pb)), .val (.int (Int32.ofNat pd)), .val (.int (Int32.ofNat q)), .unset, .unset] [(.int (Int32.ofNat n)), (.ref b6), (.ref b6)])) rfl (by rw [hml]; rfl) (Steps.refl _) (a := b6) (argsL := [(.int (Int32.ofNat n))]) (rest := [(.ref b6)]) (lenOf pd_0_0 rfl) rfl (by show 2 * 0 + _ ≤ _; exact Nat.le_of_eq rfl) (hb hby at_69) (fun _ _ => ⟨rfl, e6, (Nat.le_of_ble_eq_true rfl), (Nat.le_of_ble_eq_true rfl)⟩)
  dsimp only [Pt.U, Pt.locs, Pt.cells, Pt.slots] at X7 l7 y7 z7 st7 hQ7
  subst l7 y7 z7
  obtain ⟨rfl, N7q, K7c, E7c, bC, szC, FC, VC⟩ := hQ7
  have g_bC : n0 ≤ bC := Nat.le_trans (Nat.le_trans Z0 K6.1) szC
  have ne_oC : b6 ≠ bC := Nat.ne_of_lt (Nat.lt_of_lt_of_le E_b6.lt szC)
  have Z7 : n0 ≤ T7.heap.size := Nat.le_trans (Nat.le_trans Z0 K6.1) K7c.1
  have N7 := Fr.app N0 N7q
  obtain ⟨cq8, kq8, q8a, q8b, q8c⟩ := isOf hZ rfl (E_b6.keep K7c)
  obtain ⟨_, _, ⟨T8, L8, k8, n8⟩, -, X8, ⟨Lc8, hQ8, l8, y8, z8⟩, st8⟩ := X7.virtualBack hx (y := (⟨"com/example/tallykeep/tallykeep/core/PrefixCounts", "add", "(II)V"⟩ : MethodName)) (z := (⟨"com/example/tallykeep/tallykeep/core/PrefixCounts", "add", "(II)V"⟩ : MethodName)) hown (mvT hZ (hw _ (List.mem_of_getElem? (i := 13) rfl))) (mvT hZ (hw _ (List.mem_of_getElem? (i := 14) rfl))) (notFace_of_selects (args := #[]) (mvT hZ (hw _ (List.mem_of_getElem? (i := 16) rfl)))) (mvT hZ (hw _ (List.mem_of_getElem? (i := 16) rfl))) (mvT hZ (hw _ (List.mem_of_getElem? (i := 15) rfl))) (by decide) (backOf (W := 0) (rm3 l Z a0 hw [] b6 pa p2 bC (n + 1) _ T7.heap n0 Z7 FC VC (by omega) (by omega) g_bC ne_oC) hZ (hw _ (List.mem_of_getElem? (i := 17) rfl)) (hw _ (List.mem_of_getElem? (i := 3) rfl)) (by decide) (by decide)) q8a q8c (g := (mkF m 79 #[.val (.int p1), .val (.int p2), .val (.int p3), .val (.int p4), .val (.int p5), .val (.int (Int32.ofNat n)), .val (.int (Int32.ofNat pa)), .val (.int (Int32.ofNat pb)), .val (.int (Int32.ofNat pd)), .val (.int (Int32.ofNat q)), .val (.ref b6), .unset] [(.int p2), (.int (Int32.ofNat pa)), (.ref b6)])) rfl (by rw [hml]; rfl) (Steps.refl _) (argsL := [(.int (Int32.ofNat pa)), (.int p2)]) (rest := []) (lenOf pd_0_2 rfl) rfl (by show 2 * 0 + _ ≤ _; exact Nat.le_of_eq rfl) (hb hby at_79) (fun _ _ => ⟨rfl, rfl, (Nat.le_of_ble_eq_true rfl), (Nat.le_of_ble_eq_true rfl)⟩)
  dsimp only [Pt.U, Pt.locs, Pt.cells, Pt.slots] at X8 l8 y8 z8 st8 hQ8
  subst l8 y8 z8
  obtain ⟨rfl, N8q, K8c, V8c⟩ := hQ8
  have F8c := FC.keep K8c (ninS ne_oC nin0)
  have Z8 : n0 ≤ T8.heap.size := Nat.le_trans Z7 K8c.1
  have N8 := Fr.app N7 N8q
  obtain ⟨cq9, kq9, q9a, q9b, q9c⟩ := isOf hZ rfl ((E_b6.keep K7c).keep K8c)
  obtain ⟨_, _, ⟨T9, L9, k9, n9⟩, -, X9, ⟨Lc9, hQ9, l9, y9, z9⟩, st9⟩ := X8.virtualBack hx (y := (⟨"com/example/tallykeep/tallykeep/core/PrefixCounts", "add", "(II)V"⟩ : MethodName)) (z := (⟨"com/example/tallykeep/tallykeep/core/PrefixCounts", "add", "(II)V"⟩ : MethodName)) hown (mvT hZ (hw _ (List.mem_of_getElem? (i := 13) rfl))) (mvT hZ (hw _ (List.mem_of_getElem? (i := 14) rfl))) (notFace_of_selects (args := #[]) (mvT hZ (hw _ (List.mem_of_getElem? (i := 16) rfl)))) (mvT hZ (hw _ (List.mem_of_getElem? (i := 16) rfl))) (mvT hZ (hw _ (List.mem_of_getElem? (i := 15) rfl))) (by decide) (backOf (W := 0) (rm3 l Z a0 hw [] b6 pb p3 bC (n + 1) _ T8.heap n0 Z8 F8c V8c (by omega) (by omega) g_bC ne_oC) hZ (hw _ (List.mem_of_getElem? (i := 17) rfl)) (hw _ (List.mem_of_getElem? (i := 3) rfl)) (by decide) (by decide)) q9a q9c (g := (mkF m 87 #[.val (.int p1), .val (.int p2), .val (.int p3), .val (.int p4), .val (.int p5), .val (.int (Int32.ofNat n)), .val (.int (Int32.ofNat pa)), .val (.int (Int32.ofNat pb)), .val (.int (Int32.ofNat pd)), .val (.int (Int32.ofNat q)), .val (.ref b6), .unset] [(.int p3), (.int (Int32.ofNat pb)), (.ref b6)])) rfl (by rw [hml]; rfl) (Steps.refl _) (argsL := [(.int (Int32.ofNat pb)), (.int p3)]) (rest := []) (lenOf pd_0_2 rfl) rfl (by show 2 * 0 + _ ≤ _; exact Nat.le_of_eq rfl) (hb hby at_87) (fun _ _ => ⟨rfl, rfl, (Nat.le_of_ble_eq_true rfl), (Nat.le_of_ble_eq_true rfl)⟩)
  dsimp only [Pt.U, Pt.locs, Pt.cells, Pt.slots] at X9 l9 y9 z9 st9 hQ9
  subst l9 y9 z9
  obtain ⟨rfl, N9q, K9c, V9c⟩ := hQ9
  have F9c := F8c.keep K9c (ninS ne_oC nin0)
  have Z9 : n0 ≤ T9.heap.size := Nat.le_trans Z8 K9c.1
  have N9 := Fr.app N8 N9q
  obtain ⟨cq10, kq10, q10a, q10b, q10c⟩ := isOf hZ rfl (((E_b6.keep K7c).keep K8c).keep K9c)
  obtain ⟨_, _, ⟨T10, L10, k10, n10⟩, -, X10, ⟨Lc10, hQ10, l10, y10, z10⟩, st10⟩ := X9.virtualBack hx (y := (⟨"com/example/tallykeep/tallykeep/core/PrefixCounts", "add", "(II)V"⟩ : MethodName)) (z := (⟨"com/example/tallykeep/tallykeep/core/PrefixCounts", "add", "(II)V"⟩ : MethodName)) hown (mvT hZ (hw _ (List.mem_of_getElem? (i := 13) rfl))) (mvT hZ (hw _ (List.mem_of_getElem? (i := 14) rfl))) (notFace_of_selects (args := #[]) (mvT hZ (hw _ (List.mem_of_getElem? (i := 16) rfl)))) (mvT hZ (hw _ (List.mem_of_getElem? (i := 16) rfl))) (mvT hZ (hw _ (List.mem_of_getElem? (i := 15) rfl))) (by decide) (backOf (W := 0) (rm3 l Z a0 hw [] b6 pd p4 bC (n + 1) _ T9.heap n0 Z9 F9c V9c (by omega) (by omega) g_bC ne_oC) hZ (hw _ (List.mem_of_getElem? (i := 17) rfl)) (hw _ (List.mem_of_getElem? (i := 3) rfl)) (by decide) (by decide)) q10a q10c (g := (mkF m 95 #[.val (.int p1), .val (.int p2), .val (.int p3), .val (.int p4), .val (.int p5), .val (.int (Int32.ofNat n)), .val (.int (Int32.ofNat pa)), .val (.int (Int32.ofNat pb)), .val (.int (Int32.ofNat pd)), .val (.int (Int32.ofNat q)), .val (.ref b6), .unset] [(.int p4), (.int (Int32.ofNat pd)), (.ref b6)])) rfl (by rw [hml]; rfl) (Steps.refl _) (argsL := [(.int (Int32.ofNat pd)), (.int p4)]) (rest := []) (lenOf pd_0_2 rfl) rfl (by show 2 * 0 + _ ≤ _; exact Nat.le_of_eq rfl) (hb hby at_95) (fun _ _ => ⟨rfl, rfl, (Nat.le_of_ble_eq_true rfl), (Nat.le_of_ble_eq_true rfl)⟩)
  dsimp only [Pt.U, Pt.locs, Pt.cells, Pt.slots] at X10 l10 y10 z10 st10 hQ10
  subst l10 y10 z10
  obtain ⟨rfl, N10q, K10c, V10c⟩ := hQ10
  have F10c := F9c.keep K10c (ninS ne_oC nin0)
  have Z10 : n0 ≤ T10.heap.size := Nat.le_trans Z9 K10c.1
  have N10 := Fr.app N9 N10q
  obtain ⟨cq11, kq11, q11a, q11b, q11c⟩ := isOf hZ rfl ((((E_b6.keep K7c).keep K8c).keep K9c).keep K10c)
  obtain ⟨_, _, ⟨T11, L11, k11, n11⟩, -, X11, ⟨Lc11, hQ11, l11, y11, z11⟩, st11⟩ := X10.virtualBack hx (y := (⟨"com/example/tallykeep/tallykeep/core/PrefixCounts", "below", "(I)I"⟩ : MethodName)) (z := (⟨"com/example/tallykeep/tallykeep/core/PrefixCounts", "below", "(I)I"⟩ : MethodName)) hown (mvT hZ (hw _ (List.mem_of_getElem? (i := 18) rfl))) (mvT hZ (hw _ (List.mem_of_getElem? (i := 19) rfl))) (notFace_of_selects (args := #[]) (mvT hZ (hw _ (List.mem_of_getElem? (i := 21) rfl)))) (mvT hZ (hw _ (List.mem_of_getElem? (i := 21) rfl))) (mvT hZ (hw _ (List.mem_of_getElem? (i := 20) rfl))) (by decide) (backOf (W := 0) (rm4 l Z a0 hw [] b6 q bC (n + 1) _ T10.heap n0 Z10 F10c V10c (by omega) (by omega)) hZ (hw _ (List.mem_of_getElem? (i := 22) rfl)) (hw _ (List.mem_of_getElem? (i := 3) rfl)) (by decide) (by decide)) q11a q11c (g := (mkF m 144 #[.val (.int p1), .val (.int p2), .val (.int p3), .val (.int p4), .val (.int p5), .val (.int (Int32.ofNat n)), .val (.int (Int32.ofNat pa)), .val (.int (Int32.ofNat pb)), .val (.int (Int32.ofNat pd)), .val (.int (Int32.ofNat q)), .val (.ref b6), .val (.int (((0 : Int32) + p3) + p4))] [(.int (Int32.ofNat q)), (.ref b6)])) rfl (by rw [hml]; rfl) (Steps.refl _) (argsL := [(.int (Int32.ofNat q))]) (rest := []) (lenOf pd_0_3 rfl) rfl (by show 2 * 0 + _ ≤ _; exact Nat.le_of_eq rfl) (hb hby at_144) (fun _ _ => ⟨rfl, rfl, (Nat.le_of_ble_eq_true rfl), (Nat.le_of_ble_eq_true rfl)⟩)
  dsimp only [Pt.U, Pt.locs, Pt.cells, Pt.slots] at X11 l11 y11 z11 st11 hQ11
  subst l11 y11 z11
  obtain ⟨rfl, N11q, e11⟩ := hQ11
  have N11 := Fr.app N10 N11q
  have own_ok : (own_sum (own_down 6 q) (own_adds (own_up 6 (n + 1) (pd + 1)) p4 (own_adds (own_up 6 (n + 1) (pb + 1)) p3 (own_adds (own_up 6 (n + 1) (pa + 1)) p2 (fun _ => 0)))) 0) = (((0 : Int32) + p3) + p4) := by
    rw [own_final3 hn hpa hpb hpd hq]
    rw [if_neg (fun z => hc105 ((own_lt (by omega) (by omega)).mpr z))]
    rw [if_pos ((own_lt (by omega) (by omega)).mp hc118)]
    rw [if_pos ((own_lt (by omega) (by omega)).mp hc131)]
    all_goals simp
  obtain ⟨fs, hr, hrun, hended, hW, hsame⟩ := X11.leave (v := some (.int (1 : Int32))) (fun h => by rw [Bd.returns] at h; cases h)
  refine ⟨_, _, pre0 _ ?_, hrun, hended, _, _, rfl, ?_, ⟨_, rfl⟩, hW, hsame.mono (by decide) (by decide)⟩
  · show Steps p.tables e below (s₁.setTop (mkF m 0 #[.val (.int p1), .val (.int p2), .val (.int p3), .val (.int p4), .val (.int p5), .unset, .unset, .unset, .unset, .unset, .unset, .unset] [])) _
    refine XS.iloadN X0.here hx rfl (hb hby at_0) rfl ?_
    show Steps p.tables e below (s₁.setTop (mkF m 1 #[.val (.int p1), .val (.int p2), .val (.int p3), .val (.int p4), .val (.int p5), .unset, .unset, .unset, .unset, .unset, .unset, .unset] [(.int p1)])) _
    refine XS.sipush X0.here hx rfl (hb hby at_1) ?_
    show Steps p.tables e below (s₁.setTop (mkF m 4 #[.val (.int p1), .val (.int p2), .val (.int p3), .val (.int p4), .val (.int p5), .unset, .unset, .unset, .unset, .unset, .unset, .unset] [(.int (255 : Int32)), (.int p1)])) _
    refine XS.iand X0.here hx rfl (hb hby at_4) rfl ?_
    show Steps p.tables e below (s₁.setTop (mkF m 5 #[.val (.int p1), .val (.int p2), .val (.int p3), .val (.int p4), .val (.int p5), .unset, .unset, .unset, .unset, .unset, .unset, .unset] [(.int (p1 &&& (255 : Int32)))])) _
    refine XS.bipush X0.here hx rfl (hb hby at_5) ?_
    show Steps p.tables e below (s₁.setTop (mkF m 7 #[.val (.int p1), .val (.int p2), .val (.int p3), .val (.int p4), .val (.int p5), .unset, .unset, .unset, .unset, .unset, .unset, .unset] [(.int (12 : Int32)), (.int (p1 &&& (255 : Int32)))])) _
    refine iremM X0 hx rfl (hb hby at_7) rfl (by decide) ?_
    show Steps p.tables e below (s₁.setTop (mkF m 8 #[.val (.int p1), .val (.int p2), .val (.int p3), .val (.int p4), .val (.int p5), .unset, .unset, .unset, .unset, .unset, .unset, .unset] [(.int ((p1 &&& (255 : Int32)) % (12 : Int32)))])) _
    refine XS.iconst X0.here hx rfl (hb hby at_8) ?_
    show Steps p.tables e below (s₁.setTop (mkF m 9 #[.val (.int p1), .val (.int p2), .val (.int p3), .val (.int p4), .val (.int p5), .unset, .unset, .unset, .unset, .unset, .unset, .unset] [(.int (1 : Int32)), (.int ((p1 &&& (255 : Int32)) % (12 : Int32)))])) _
    refine XS.iadd X0.here hx rfl (hb hby at_9) rfl ?_
    rw [hp9]
    show Steps p.tables e below (s₁.setTop (mkF m 10 #[.val (.int p1), .val (.int p2), .val (.int p3), .val (.int p4), .val (.int p5), .unset, .unset, .unset, .unset, .unset, .unset, .unset] [(.int (Int32.ofNat n))])) _
    refine XS.istore X0.here hx rfl (hb hby at_10) rfl (l' := #[.val (.int p1), .val (.int p2), .val (.int p3), .val (.int p4), .val (.int p5), .val (.int (Int32.ofNat n)), .unset, .unset, .unset, .unset, .unset, .unset]) rfl ?_
    show Steps p.tables e below (s₁.setTop (mkF m 12 #[.val (.int p1), .val (.int p2), .val (.int p3), .val (.int p4), .val (.int p5), .val (.int (Int32.ofNat n)), .unset, .unset, .unset, .unset, .unset, .unset] [])) _
    refine XS.iloadN X0.here hx rfl (hb hby at_12) rfl ?_
    show Steps p.tables e below (s₁.setTop (mkF m 13 #[.val (.int p1), .val (.int p2), .val (.int p3), .val (.int p4), .val (.int p5), .val (.int (Int32.ofNat n)), .unset, .unset, .unset, .unset, .unset, .unset] [(.int p1)])) _
    refine XS.bipush X0.here hx rfl (hb hby at_13) ?_
    show Steps p.tables e below (s₁.setTop (mkF m 15 #[.val (.int p1), .val (.int p2), .val (.int p3), .val (.int p4), .val (.int p5), .val (.int (Int32.ofNat n)), .unset, .unset, .unset, .unset, .unset, .unset] [(.int (8 : Int32)), (.int p1)])) _
    refine XS.iushr X0.here hx rfl (hb hby at_15) rfl ?_
    show Steps p.tables e below (s₁.setTop (mkF m 16 #[.val (.int p1), .val (.int p2), .val (.int p3), .val (.int p4), .val (.int p5), .val (.int (Int32.ofNat n)), .unset, .unset, .unset, .unset, .unset, .unset] [(.int ((p1.toUInt32 >>> ((8 : Int32) &&& 31).toUInt32).toInt32))])) _
    refine XS.sipush X0.here hx rfl (hb hby at_16) ?_
    show Steps p.tables e below (s₁.setTop (mkF m 19 #[.val (.int p1), .val (.int p2), .val (.int p3), .val (.int p4), .val (.int p5), .val (.int (Int32.ofNat n)), .unset, .unset, .unset, .unset, .unset, .unset] [(.int (255 : Int32)), (.int ((p1.toUInt32 >>> ((8 : Int32) &&& 31).toUInt32).toInt32))])) _
    refine XS.iand X0.here hx rfl (hb hby at_19) rfl ?_
    show Steps p.tables e below (s₁.setTop (mkF m 20 #[.val (.int p1), .val (.int p2), .val (.int p3), .val (.int p4), .val (.int p5), .val (.int (Int32.ofNat n)), .unset, .unset, .unset, .unset, .unset, .unset] [(.int (((p1.toUInt32 >>> ((8 : Int32) &&& 31).toUInt32).toInt32) &&& (255 : Int32)))])) _
    refine XS.iload X0.here hx rfl (hb hby at_20) rfl ?_
    show Steps p.tables e below (s₁.setTop (mkF m 22 #[.val (.int p1), .val (.int p2), .val (.int p3), .val (.int p4), .val (.int p5), .val (.int (Int32.ofNat n)), .unset, .unset, .unset, .unset, .unset, .unset] [(.int (Int32.ofNat n)), (.int (((p1.toUInt32 >>> ((8 : Int32) &&& 31).toUInt32).toInt32) &&& (255 : Int32)))])) _
    refine iremM X0 hx rfl (hb hby at_22) rfl hnz22 ?_
    rw [hp22]
    show Steps p.tables e below (s₁.setTop (mkF m 23 #[.val (.int p1), .val (.int p2), .val (.int p3), .val (.int p4), .val (.int p5), .val (.int (Int32.ofNat n)), .unset, .unset, .unset, .unset, .unset, .unset] [(.int (Int32.ofNat pa))])) _
    refine XS.istore X0.here hx rfl (hb hby at_23) rfl (l' := #[.val (.int p1), .val (.int p2), .val (.int p3), .val (.int p4), .val (.int p5), .val (.int (Int32.ofNat n)), .val (.int (Int32.ofNat pa)), .unset, .unset, .unset, .unset, .unset]) rfl ?_
    show Steps p.tables e below (s₁.setTop (mkF m 25 #[.val (.int p1), .val (.int p2), .val (.int p3), .val (.int p4), .val (.int p5), .val (.int (Int32.ofNat n)), .val (.int (Int32.ofNat pa)), .unset, .unset, .unset, .unset, .unset] [])) _
    refine XS.iloadN X0.here hx rfl (hb hby at_25) rfl ?_
    show Steps p.tables e below (s₁.setTop (mkF m 26 #[.val (.int p1), .val (.int p2), .val (.int p3), .val (.int p4), .val (.int p5), .val (.int (Int32.ofNat n)), .val (.int (Int32.ofNat pa)), .unset, .unset, .unset, .unset, .unset] [(.int p1)])) _
    refine XS.bipush X0.here hx rfl (hb hby at_26) ?_
    show Steps p.tables e below (s₁.setTop (mkF m 28 #[.val (.int p1), .val (.int p2), .val (.int p3), .val (.int p4), .val (.int p5), .val (.int (Int32.ofNat n)), .val (.int (Int32.ofNat pa)), .unset, .unset, .unset, .unset, .unset] [(.int (16 : Int32)), (.int p1)])) _
    refine XS.iushr X0.here hx rfl (hb hby at_28) rfl ?_
    show Steps p.tables e below (s₁.setTop (mkF m 29 #[.val (.int p1), .val (.int p2), .val (.int p3), .val (.int p4), .val (.int p5), .val (.int (Int32.ofNat n)), .val (.int (Int32.ofNat pa)), .unset, .unset, .unset, .unset, .unset] [(.int ((p1.toUInt32 >>> ((16 : Int32) &&& 31).toUInt32).toInt32))])) _
    refine XS.sipush X0.here hx rfl (hb hby at_29) ?_
    show Steps p.tables e below (s₁.setTop (mkF m 32 #[.val (.int p1), .val (.int p2), .val (.int p3), .val (.int p4), .val (.int p5), .val (.int (Int32.ofNat n)), .val (.int (Int32.ofNat pa)), .unset, .unset, .unset, .unset, .unset] [(.int (255 : Int32)), (.int ((p1.toUInt32 >>> ((16 : Int32) &&& 31).toUInt32).toInt32))])) _
    refine XS.iand X0.here hx rfl (hb hby at_32) rfl ?_
    show Steps p.tables e below (s₁.setTop (mkF m 33 #[.val (.int p1), .val (.int p2), .val (.int p3), .val (.int p4), .val (.int p5), .val (.int (Int32.ofNat n)), .val (.int (Int32.ofNat pa)), .unset, .unset, .unset, .unset, .unset] [(.int (((p1.toUInt32 >>> ((16 : Int32) &&& 31).toUInt32).toInt32) &&& (255 : Int32)))])) _
    refine XS.iload X0.here hx rfl (hb hby at_33) rfl ?_
    show Steps p.tables e below (s₁.setTop (mkF m 35 #[.val (.int p1), .val (.int p2), .val (.int p3), .val (.int p4), .val (.int p5), .val (.int (Int32.ofNat n)), .val (.int (Int32.ofNat pa)), .unset, .unset, .unset, .unset, .unset] [(.int (Int32.ofNat n)), (.int (((p1.toUInt32 >>> ((16 : Int32) &&& 31).toUInt32).toInt32) &&& (255 : Int32)))])) _
    refine iremM X0 hx rfl (hb hby at_35) rfl hnz35 ?_
    rw [hp35]
    show Steps p.tables e below (s₁.setTop (mkF m 36 #[.val (.int p1), .val (.int p2), .val (.int p3), .val (.int p4), .val (.int p5), .val (.int (Int32.ofNat n)), .val (.int (Int32.ofNat pa)), .unset, .unset, .unset, .unset, .unset] [(.int (Int32.ofNat pb))])) _
    refine XS.istore X0.here hx rfl (hb hby at_36) rfl (l' := #[.val (.int p1), .val (.int p2), .val (.int p3), .val (.int p4), .val (.int p5), .val (.int (Int32.ofNat n)), .val (.int (Int32.ofNat pa)), .val (.int (Int32.ofNat pb)), .unset, .unset, .unset, .unset]) rfl ?_
    show Steps p.tables e below (s₁.setTop (mkF m 38 #[.val (.int p1), .val (.int p2), .val (.int p3), .val (.int p4), .val (.int p5), .val (.int (Int32.ofNat n)), .val (.int (Int32.ofNat pa)), .val (.int (Int32.ofNat pb)), .unset, .unset, .unset, .unset] [])) _
    refine XS.iloadN X0.here hx rfl (hb hby at_38) rfl ?_
    show Steps p.tables e below (s₁.setTop (mkF m 39 #[.val (.int p1), .val (.int p2), .val (.int p3), .val (.int p4), .val (.int p5), .val (.int (Int32.ofNat n)), .val (.int (Int32.ofNat pa)), .val (.int (Int32.ofNat pb)), .unset, .unset, .unset, .unset] [(.int p1)])) _
    refine XS.bipush X0.here hx rfl (hb hby at_39) ?_
    show Steps p.tables e below (s₁.setTop (mkF m 41 #[.val (.int p1), .val (.int p2), .val (.int p3), .val (.int p4), .val (.int p5), .val (.int (Int32.ofNat n)), .val (.int (Int32.ofNat pa)), .val (.int (Int32.ofNat pb)), .unset, .unset, .unset, .unset] [(.int (24 : Int32)), (.int p1)])) _
    refine XS.iushr X0.here hx rfl (hb hby at_41) rfl ?_
    show Steps p.tables e below (s₁.setTop (mkF m 42 #[.val (.int p1), .val (.int p2), .val (.int p3), .val (.int p4), .val (.int p5), .val (.int (Int32.ofNat n)), .val (.int (Int32.ofNat pa)), .val (.int (Int32.ofNat pb)), .unset, .unset, .unset, .unset] [(.int ((p1.toUInt32 >>> ((24 : Int32) &&& 31).toUInt32).toInt32))])) _
    refine XS.sipush X0.here hx rfl (hb hby at_42) ?_
    show Steps p.tables e below (s₁.setTop (mkF m 45 #[.val (.int p1), .val (.int p2), .val (.int p3), .val (.int p4), .val (.int p5), .val (.int (Int32.ofNat n)), .val (.int (Int32.ofNat pa)), .val (.int (Int32.ofNat pb)), .unset, .unset, .unset, .unset] [(.int (255 : Int32)), (.int ((p1.toUInt32 >>> ((24 : Int32) &&& 31).toUInt32).toInt32))])) _
    refine XS.iand X0.here hx rfl (hb hby at_45) rfl ?_
    show Steps p.tables e below (s₁.setTop (mkF m 46 #[.val (.int p1), .val (.int p2), .val (.int p3), .val (.int p4), .val (.int p5), .val (.int (Int32.ofNat n)), .val (.int (Int32.ofNat pa)), .val (.int (Int32.ofNat pb)), .unset, .unset, .unset, .unset] [(.int (((p1.toUInt32 >>> ((24 : Int32) &&& 31).toUInt32).toInt32) &&& (255 : Int32)))])) _
    refine XS.iload X0.here hx rfl (hb hby at_46) rfl ?_
    show Steps p.tables e below (s₁.setTop (mkF m 48 #[.val (.int p1), .val (.int p2), .val (.int p3), .val (.int p4), .val (.int p5), .val (.int (Int32.ofNat n)), .val (.int (Int32.ofNat pa)), .val (.int (Int32.ofNat pb)), .unset, .unset, .unset, .unset] [(.int (Int32.ofNat n)), (.int (((p1.toUInt32 >>> ((24 : Int32) &&& 31).toUInt32).toInt32) &&& (255 : Int32)))])) _
    refine iremM X0 hx rfl (hb hby at_48) rfl hnz48 ?_
    rw [hp48]
    show Steps p.tables e below (s₁.setTop (mkF m 49 #[.val (.int p1), .val (.int p2), .val (.int p3), .val (.int p4), .val (.int p5), .val (.int (Int32.ofNat n)), .val (.int (Int32.ofNat pa)), .val (.int (Int32.ofNat pb)), .unset, .unset, .unset, .unset] [(.int (Int32.ofNat pd))])) _
    refine XS.istore X0.here hx rfl (hb hby at_49) rfl (l' := #[.val (.int p1), .val (.int p2), .val (.int p3), .val (.int p4), .val (.int p5), .val (.int (Int32.ofNat n)), .val (.int (Int32.ofNat pa)), .val (.int (Int32.ofNat pb)), .val (.int (Int32.ofNat pd)), .unset, .unset, .unset]) rfl ?_
    show Steps p.tables e below (s₁.setTop (mkF m 51 #[.val (.int p1), .val (.int p2), .val (.int p3), .val (.int p4), .val (.int p5), .val (.int (Int32.ofNat n)), .val (.int (Int32.ofNat pa)), .val (.int (Int32.ofNat pb)), .val (.int (Int32.ofNat pd)), .unset, .unset, .unset] [])) _
    refine XS.iload X0.here hx rfl (hb hby at_51) rfl ?_
    show Steps p.tables e below (s₁.setTop (mkF m 53 #[.val (.int p1), .val (.int p2), .val (.int p3), .val (.int p4), .val (.int p5), .val (.int (Int32.ofNat n)), .val (.int (Int32.ofNat pa)), .val (.int (Int32.ofNat pb)), .val (.int (Int32.ofNat pd)), .unset, .unset, .unset] [(.int p5)])) _
    refine X0.ldcInt hx hown (mvT hZ (hw _ (List.mem_of_getElem? (i := 0) rfl))) (g := (mkF m 53 #[.val (.int p1), .val (.int p2), .val (.int p3), .val (.int p4), .val (.int p5), .val (.int (Int32.ofNat n)), .val (.int (Int32.ofNat pa)), .val (.int (Int32.ofNat pb)), .val (.int (Int32.ofNat pd)), .unset, .unset, .unset] [(.int p5)])) rfl (hb hby at_53) _ ?_
    show Steps p.tables e below (s₁.setTop (mkF m 55 #[.val (.int p1), .val (.int p2), .val (.int p3), .val (.int p4), .val (.int p5), .val (.int (Int32.ofNat n)), .val (.int (Int32.ofNat pa)), .val (.int (Int32.ofNat pb)), .val (.int (Int32.ofNat pd)), .unset, .unset, .unset] [(.int (2147483647 : Int32)), (.int p5)])) _
    refine XS.iand X0.here hx rfl (hb hby at_55) rfl ?_
    show Steps p.tables e below (s₁.setTop (mkF m 56 #[.val (.int p1), .val (.int p2), .val (.int p3), .val (.int p4), .val (.int p5), .val (.int (Int32.ofNat n)), .val (.int (Int32.ofNat pa)), .val (.int (Int32.ofNat pb)), .val (.int (Int32.ofNat pd)), .unset, .unset, .unset] [(.int (p5 &&& (2147483647 : Int32)))])) _
    refine XS.iload X0.here hx rfl (hb hby at_56) rfl ?_
    show Steps p.tables e below (s₁.setTop (mkF m 58 #[.val (.int p1), .val (.int p2), .val (.int p3), .val (.int p4), .val (.int p5), .val (.int (Int32.ofNat n)), .val (.int (Int32.ofNat pa)), .val (.int (Int32.ofNat pb)), .val (.int (Int32.ofNat pd)), .unset, .unset, .unset] [(.int (Int32.ofNat n)), (.int (p5 &&& (2147483647 : Int32)))])) _
    refine XS.iconst X0.here hx rfl (hb hby at_58) ?_
    show Steps p.tables e below (s₁.setTop (mkF m 59 #[.val (.int p1), .val (.int p2), .val (.int p3), .val (.int p4), .val (.int p5), .val (.int (Int32.ofNat n)), .val (.int (Int32.ofNat pa)), .val (.int (Int32.ofNat pb)), .val (.int (Int32.ofNat pd)), .unset, .unset, .unset] [(.int (1 : Int32)), (.int (Int32.ofNat n)), (.int (p5 &&& (2147483647 : Int32)))])) _
    refine XS.iadd X0.here hx rfl (hb hby at_59) rfl ?_
    show Steps p.tables e below (s₁.setTop (mkF m 60 #[.val (.int p1), .val (.int p2), .val (.int p3), .val (.int p4), .val (.int p5), .val (.int (Int32.ofNat n)), .val (.int (Int32.ofNat pa)), .val (.int (Int32.ofNat pb)), .val (.int (Int32.ofNat pd)), .unset, .unset, .unset] [(.int ((Int32.ofNat n) + (1 : Int32))), (.int (p5 &&& (2147483647 : Int32)))])) _
    refine iremM X0 hx rfl (hb hby at_60) rfl hnz60 ?_
    rw [hp60]
    show Steps p.tables e below (s₁.setTop (mkF m 61 #[.val (.int p1), .val (.int p2), .val (.int p3), .val (.int p4), .val (.int p5), .val (.int (Int32.ofNat n)), .val (.int (Int32.ofNat pa)), .val (.int (Int32.ofNat pb)), .val (.int (Int32.ofNat pd)), .unset, .unset, .unset] [(.int (Int32.ofNat q))])) _
    refine XS.istore X0.here hx rfl (hb hby at_61) rfl (l' := #[.val (.int p1), .val (.int p2), .val (.int p3), .val (.int p4), .val (.int p5), .val (.int (Int32.ofNat n)), .val (.int (Int32.ofNat pa)), .val (.int (Int32.ofNat pb)), .val (.int (Int32.ofNat pd)), .val (.int (Int32.ofNat q)), .unset, .unset]) rfl ?_
    show Steps p.tables e below (s₁.setTop (mkF m 63 #[.val (.int p1), .val (.int p2), .val (.int p3), .val (.int p4), .val (.int p5), .val (.int (Int32.ofNat n)), .val (.int (Int32.ofNat pa)), .val (.int (Int32.ofNat pb)), .val (.int (Int32.ofNat pd)), .val (.int (Int32.ofNat q)), .unset, .unset] [])) _
    refine st6 _ ?_
    show Steps p.tables e below (T6.setTop (mkF m 66 #[.val (.int p1), .val (.int p2), .val (.int p3), .val (.int p4), .val (.int p5), .val (.int (Int32.ofNat n)), .val (.int (Int32.ofNat pa)), .val (.int (Int32.ofNat pb)), .val (.int (Int32.ofNat pd)), .val (.int (Int32.ofNat q)), .unset, .unset] [(.ref b6)])) _
    refine XS.dup X6.here hx rfl (hb hby at_66) rfl rfl ?_
    show Steps p.tables e below (T6.setTop (mkF m 67 #[.val (.int p1), .val (.int p2), .val (.int p3), .val (.int p4), .val (.int p5), .val (.int (Int32.ofNat n)), .val (.int (Int32.ofNat pa)), .val (.int (Int32.ofNat pb)), .val (.int (Int32.ofNat pd)), .val (.int (Int32.ofNat q)), .unset, .unset] [(.ref b6), (.ref b6)])) _
    refine XS.iload X6.here hx rfl (hb hby at_67) rfl ?_
    show Steps p.tables e below (T6.setTop (mkF m 69 #[.val (.int p1), .val (.int p2), .val (.int p3), .val (.int p4), .val (.int p5), .val (.int (Int32.ofNat n)), .val (.int (Int32.ofNat pa)), .val (.int (Int32.ofNat pb)), .val (.int (Int32.ofNat pd)), .val (.int (Int32.ofNat q)), .unset, .unset] [(.int (Int32.ofNat n)), (.ref b6), (.ref b6)])) _
    refine st7.trans ?_
    show Steps p.tables e below (T7.setTop (mkF m 72 #[.val (.int p1), .val (.int p2), .val (.int p3), .val (.int p4), .val (.int p5), .val (.int (Int32.ofNat n)), .val (.int (Int32.ofNat pa)), .val (.int (Int32.ofNat pb)), .val (.int (Int32.ofNat pd)), .val (.int (Int32.ofNat q)), .unset, .unset] [(.ref b6)])) _
    refine XS.astore X7.here hx rfl (hb hby at_72) rfl rfl (l' := #[.val (.int p1), .val (.int p2), .val (.int p3), .val (.int p4), .val (.int p5), .val (.int (Int32.ofNat n)), .val (.int (Int32.ofNat pa)), .val (.int (Int32.ofNat pb)), .val (.int (Int32.ofNat pd)), .val (.int (Int32.ofNat q)), .val (.ref b6), .unset]) rfl ?_
    show Steps p.tables e below (T7.setTop (mkF m 74 #[.val (.int p1), .val (.int p2), .val (.int p3), .val (.int p4), .val (.int p5), .val (.int (Int32.ofNat n)), .val (.int (Int32.ofNat pa)), .val (.int (Int32.ofNat pb)), .val (.int (Int32.ofNat pd)), .val (.int (Int32.ofNat q)), .val (.ref b6), .unset] [])) _
    refine XS.aload X7.here hx rfl (hb hby at_74) rfl rfl ?_
    show Steps p.tables e below (T7.setTop (mkF m 76 #[.val (.int p1), .val (.int p2), .val (.int p3), .val (.int p4), .val (.int p5), .val (.int (Int32.ofNat n)), .val (.int (Int32.ofNat pa)), .val (.int (Int32.ofNat pb)), .val (.int (Int32.ofNat pd)), .val (.int (Int32.ofNat q)), .val (.ref b6), .unset] [(.ref b6)])) _
    refine XS.iload X7.here hx rfl (hb hby at_76) rfl ?_
    show Steps p.tables e below (T7.setTop (mkF m 78 #[.val (.int p1), .val (.int p2), .val (.int p3), .val (.int p4), .val (.int p5), .val (.int (Int32.ofNat n)), .val (.int (Int32.ofNat pa)), .val (.int (Int32.ofNat pb)), .val (.int (Int32.ofNat pd)), .val (.int (Int32.ofNat q)), .val (.ref b6), .unset] [(.int (Int32.ofNat pa)), (.ref b6)])) _
    refine XS.iloadN X7.here hx rfl (hb hby at_78) rfl ?_
    show Steps p.tables e below (T7.setTop (mkF m 79 #[.val (.int p1), .val (.int p2), .val (.int p3), .val (.int p4), .val (.int p5), .val (.int (Int32.ofNat n)), .val (.int (Int32.ofNat pa)), .val (.int (Int32.ofNat pb)), .val (.int (Int32.ofNat pd)), .val (.int (Int32.ofNat q)), .val (.ref b6), .unset] [(.int p2), (.int (Int32.ofNat pa)), (.ref b6)])) _
    refine st8.trans ?_
    show Steps p.tables e below (T8.setTop (mkF m 82 #[.val (.int p1), .val (.int p2), .val (.int p3), .val (.int p4), .val (.int p5), .val (.int (Int32.ofNat n)), .val (.int (Int32.ofNat pa)), .val (.int (Int32.ofNat pb)), .val (.int (Int32.ofNat pd)), .val (.int (Int32.ofNat q)), .val (.ref b6), .unset] [])) _
    refine XS.aload X8.here hx rfl (hb hby at_82) rfl rfl ?_
    show Steps p.tables e below (T8.setTop (mkF m 84 #[.val (.int p1), .val (.int p2), .val (.int p3), .val (.int p4), .val (.int p5), .val (.int (Int32.ofNat n)), .val (.int (Int32.ofNat pa)), .val (.int (Int32.ofNat pb)), .val (.int (Int32.ofNat pd)), .val (.int (Int32.ofNat q)), .val (.ref b6), .unset] [(.ref b6)])) _
    refine XS.iload X8.here hx rfl (hb hby at_84) rfl ?_
    show Steps p.tables e below (T8.setTop (mkF m 86 #[.val (.int p1), .val (.int p2), .val (.int p3), .val (.int p4), .val (.int p5), .val (.int (Int32.ofNat n)), .val (.int (Int32.ofNat pa)), .val (.int (Int32.ofNat pb)), .val (.int (Int32.ofNat pd)), .val (.int (Int32.ofNat q)), .val (.ref b6), .unset] [(.int (Int32.ofNat pb)), (.ref b6)])) _
    refine XS.iloadN X8.here hx rfl (hb hby at_86) rfl ?_
    show Steps p.tables e below (T8.setTop (mkF m 87 #[.val (.int p1), .val (.int p2), .val (.int p3), .val (.int p4), .val (.int p5), .val (.int (Int32.ofNat n)), .val (.int (Int32.ofNat pa)), .val (.int (Int32.ofNat pb)), .val (.int (Int32.ofNat pd)), .val (.int (Int32.ofNat q)), .val (.ref b6), .unset] [(.int p3), (.int (Int32.ofNat pb)), (.ref b6)])) _
    refine st9.trans ?_
    show Steps p.tables e below (T9.setTop (mkF m 90 #[.val (.int p1), .val (.int p2), .val (.int p3), .val (.int p4), .val (.int p5), .val (.int (Int32.ofNat n)), .val (.int (Int32.ofNat pa)), .val (.int (Int32.ofNat pb)), .val (.int (Int32.ofNat pd)), .val (.int (Int32.ofNat q)), .val (.ref b6), .unset] [])) _
    refine XS.aload X9.here hx rfl (hb hby at_90) rfl rfl ?_
    show Steps p.tables e below (T9.setTop (mkF m 92 #[.val (.int p1), .val (.int p2), .val (.int p3), .val (.int p4), .val (.int p5), .val (.int (Int32.ofNat n)), .val (.int (Int32.ofNat pa)), .val (.int (Int32.ofNat pb)), .val (.int (Int32.ofNat pd)), .val (.int (Int32.ofNat q)), .val (.ref b6), .unset] [(.ref b6)])) _
    refine XS.iload X9.here hx rfl (hb hby at_92) rfl ?_
    show Steps p.tables e below (T9.setTop (mkF m 94 #[.val (.int p1), .val (.int p2), .val (.int p3), .val (.int p4), .val (.int p5), .val (.int (Int32.ofNat n)), .val (.int (Int32.ofNat pa)), .val (.int (Int32.ofNat pb)), .val (.int (Int32.ofNat pd)), .val (.int (Int32.ofNat q)), .val (.ref b6), .unset] [(.int (Int32.ofNat pd)), (.ref b6)])) _
    refine XS.iloadN X9.here hx rfl (hb hby at_94) rfl ?_
    show Steps p.tables e below (T9.setTop (mkF m 95 #[.val (.int p1), .val (.int p2), .val (.int p3), .val (.int p4), .val (.int p5), .val (.int (Int32.ofNat n)), .val (.int (Int32.ofNat pa)), .val (.int (Int32.ofNat pb)), .val (.int (Int32.ofNat pd)), .val (.int (Int32.ofNat q)), .val (.ref b6), .unset] [(.int p4), (.int (Int32.ofNat pd)), (.ref b6)])) _
    refine st10.trans ?_
    show Steps p.tables e below (T10.setTop (mkF m 98 #[.val (.int p1), .val (.int p2), .val (.int p3), .val (.int p4), .val (.int p5), .val (.int (Int32.ofNat n)), .val (.int (Int32.ofNat pa)), .val (.int (Int32.ofNat pb)), .val (.int (Int32.ofNat pd)), .val (.int (Int32.ofNat q)), .val (.ref b6), .unset] [])) _
    refine XS.iconst X10.here hx rfl (hb hby at_98) ?_
    show Steps p.tables e below (T10.setTop (mkF m 99 #[.val (.int p1), .val (.int p2), .val (.int p3), .val (.int p4), .val (.int p5), .val (.int (Int32.ofNat n)), .val (.int (Int32.ofNat pa)), .val (.int (Int32.ofNat pb)), .val (.int (Int32.ofNat pd)), .val (.int (Int32.ofNat q)), .val (.ref b6), .unset] [(.int (0 : Int32))])) _
    refine XS.istore X10.here hx rfl (hb hby at_99) rfl (l' := #[.val (.int p1), .val (.int p2), .val (.int p3), .val (.int p4), .val (.int p5), .val (.int (Int32.ofNat n)), .val (.int (Int32.ofNat pa)), .val (.int (Int32.ofNat pb)), .val (.int (Int32.ofNat pd)), .val (.int (Int32.ofNat q)), .val (.ref b6), .val (.int (0 : Int32))]) rfl ?_
    show Steps p.tables e below (T10.setTop (mkF m 101 #[.val (.int p1), .val (.int p2), .val (.int p3), .val (.int p4), .val (.int p5), .val (.int (Int32.ofNat n)), .val (.int (Int32.ofNat pa)), .val (.int (Int32.ofNat pb)), .val (.int (Int32.ofNat pd)), .val (.int (Int32.ofNat q)), .val (.ref b6), .val (.int (0 : Int32))] [])) _
    refine XS.iload X10.here hx rfl (hb hby at_101) rfl ?_
    show Steps p.tables e below (T10.setTop (mkF m 103 #[.val (.int p1), .val (.int p2), .val (.int p3), .val (.int p4), .val (.int p5), .val (.int (Int32.ofNat n)), .val (.int (Int32.ofNat pa)), .val (.int (Int32.ofNat pb)), .val (.int (Int32.ofNat pd)), .val (.int (Int32.ofNat q)), .val (.ref b6), .val (.int (0 : Int32))] [(.int (Int32.ofNat pa))])) _
    refine XS.iload X10.here hx rfl (hb hby at_103) rfl ?_
    show Steps p.tables e below (T10.setTop (mkF m 105 #[.val (.int p1), .val (.int p2), .val (.int p3), .val (.int p4), .val (.int p5), .val (.int (Int32.ofNat n)), .val (.int (Int32.ofNat pa)), .val (.int (Int32.ofNat pb)), .val (.int (Int32.ofNat pd)), .val (.int (Int32.ofNat q)), .val (.ref b6), .val (.int (0 : Int32))] [(.int (Int32.ofNat q)), (.int (Int32.ofNat pa))])) _
    refine XS.icmpYes X10.here hx rfl (pc0 := 105) (pc' := 114) rfl (hb hby at_105) rfl (flt hc105).2.1 (by decide) (by decide) ?_
    show Steps p.tables e below (T10.setTop (mkF m 114 #[.val (.int p1), .val (.int p2), .val (.int p3), .val (.int p4), .val (.int p5), .val (.int (Int32.ofNat n)), .val (.int (Int32.ofNat pa)), .val (.int (Int32.ofNat pb)), .val (.int (Int32.ofNat pd)), .val (.int (Int32.ofNat q)), .val (.ref b6), .val (.int (0 : Int32))] [])) _
    refine XS.iload X10.here hx rfl (hb hby at_114) rfl ?_
    show Steps p.tables e below (T10.setTop (mkF m 116 #[.val (.int p1), .val (.int p2), .val (.int p3), .val (.int p4), .val (.int p5), .val (.int (Int32.ofNat n)), .val (.int (Int32.ofNat pa)), .val (.int (Int32.ofNat pb)), .val (.int (Int32.ofNat pd)), .val (.int (Int32.ofNat q)), .val (.ref b6), .val (.int (0 : Int32))] [(.int (Int32.ofNat pb))])) _
    refine XS.iload X10.here hx rfl (hb hby at_116) rfl ?_
    show Steps p.tables e below (T10.setTop (mkF m 118 #[.val (.int p1), .val (.int p2), .val (.int p3), .val (.int p4), .val (.int p5), .val (.int (Int32.ofNat n)), .val (.int (Int32.ofNat pa)), .val (.int (Int32.ofNat pb)), .val (.int (Int32.ofNat pd)), .val (.int (Int32.ofNat q)), .val (.ref b6), .val (.int (0 : Int32))] [(.int (Int32.ofNat q)), (.int (Int32.ofNat pb))])) _
    refine XS.icmpNo X10.here hx rfl (hb hby at_118) rfl (tlt hc118).2.1 ?_
    show Steps p.tables e below (T10.setTop (mkF m 121 #[.val (.int p1), .val (.int p2), .val (.int p3), .val (.int p4), .val (.int p5), .val (.int (Int32.ofNat n)), .val (.int (Int32.ofNat pa)), .val (.int (Int32.ofNat pb)), .val (.int (Int32.ofNat pd)), .val (.int (Int32.ofNat q)), .val (.ref b6), .val (.int (0 : Int32))] [])) _
    refine XS.iload X10.here hx rfl (hb hby at_121) rfl ?_
    show Steps p.tables e below (T10.setTop (mkF m 123 #[.val (.int p1), .val (.int p2), .val (.int p3), .val (.int p4), .val (.int p5), .val (.int (Int32.ofNat n)), .val (.int (Int32.ofNat pa)), .val (.int (Int32.ofNat pb)), .val (.int (Int32.ofNat pd)), .val (.int (Int32.ofNat q)), .val (.ref b6), .val (.int (0 : Int32))] [(.int (0 : Int32))])) _
    refine XS.iloadN X10.here hx rfl (hb hby at_123) rfl ?_
    show Steps p.tables e below (T10.setTop (mkF m 124 #[.val (.int p1), .val (.int p2), .val (.int p3), .val (.int p4), .val (.int p5), .val (.int (Int32.ofNat n)), .val (.int (Int32.ofNat pa)), .val (.int (Int32.ofNat pb)), .val (.int (Int32.ofNat pd)), .val (.int (Int32.ofNat q)), .val (.ref b6), .val (.int (0 : Int32))] [(.int p3), (.int (0 : Int32))])) _
    refine XS.iadd X10.here hx rfl (hb hby at_124) rfl ?_
    show Steps p.tables e below (T10.setTop (mkF m 125 #[.val (.int p1), .val (.int p2), .val (.int p3), .val (.int p4), .val (.int p5), .val (.int (Int32.ofNat n)), .val (.int (Int32.ofNat pa)), .val (.int (Int32.ofNat pb)), .val (.int (Int32.ofNat pd)), .val (.int (Int32.ofNat q)), .val (.ref b6), .val (.int (0 : Int32))] [(.int ((0 : Int32) + p3))])) _
    refine XS.istore X10.here hx rfl (hb hby at_125) rfl (l' := #[.val (.int p1), .val (.int p2), .val (.int p3), .val (.int p4), .val (.int p5), .val (.int (Int32.ofNat n)), .val (.int (Int32.ofNat pa)), .val (.int (Int32.ofNat pb)), .val (.int (Int32.ofNat pd)), .val (.int (Int32.ofNat q)), .val (.ref b6), .val (.int ((0 : Int32) + p3))]) rfl ?_
    show Steps p.tables e below (T10.setTop (mkF m 127 #[.val (.int p1), .val (.int p2), .val (.int p3), .val (.int p4), .val (.int p5), .val (.int (Int32.ofNat n)), .val (.int (Int32.ofNat pa)), .val (.int (Int32.ofNat pb)), .val (.int (Int32.ofNat pd)), .val (.int (Int32.ofNat q)), .val (.ref b6), .val (.int ((0 : Int32) + p3))] [])) _
    refine XS.iload X10.here hx rfl (hb hby at_127) rfl ?_
    show Steps p.tables e below (T10.setTop (mkF m 129 #[.val (.int p1), .val (.int p2), .val (.int p3), .val (.int p4), .val (.int p5), .val (.int (Int32.ofNat n)), .val (.int (Int32.ofNat pa)), .val (.int (Int32.ofNat pb)), .val (.int (Int32.ofNat pd)), .val (.int (Int32.ofNat q)), .val (.ref b6), .val (.int ((0 : Int32) + p3))] [(.int (Int32.ofNat pd))])) _
    refine XS.iload X10.here hx rfl (hb hby at_129) rfl ?_
    show Steps p.tables e below (T10.setTop (mkF m 131 #[.val (.int p1), .val (.int p2), .val (.int p3), .val (.int p4), .val (.int p5), .val (.int (Int32.ofNat n)), .val (.int (Int32.ofNat pa)), .val (.int (Int32.ofNat pb)), .val (.int (Int32.ofNat pd)), .val (.int (Int32.ofNat q)), .val (.ref b6), .val (.int ((0 : Int32) + p3))] [(.int (Int32.ofNat q)), (.int (Int32.ofNat pd))])) _
    refine XS.icmpNo X10.here hx rfl (hb hby at_131) rfl (tlt hc131).2.1 ?_
    show Steps p.tables e below (T10.setTop (mkF m 134 #[.val (.int p1), .val (.int p2), .val (.int p3), .val (.int p4), .val (.int p5), .val (.int (Int32.ofNat n)), .val (.int (Int32.ofNat pa)), .val (.int (Int32.ofNat pb)), .val (.int (Int32.ofNat pd)), .val (.int (Int32.ofNat q)), .val (.ref b6), .val (.int ((0 : Int32) + p3))] [])) _
    refine XS.iload X10.here hx rfl (hb hby at_134) rfl ?_
    show Steps p.tables e below (T10.setTop (mkF m 136 #[.val (.int p1), .val (.int p2), .val (.int p3), .val (.int p4), .val (.int p5), .val (.int (Int32.ofNat n)), .val (.int (Int32.ofNat pa)), .val (.int (Int32.ofNat pb)), .val (.int (Int32.ofNat pd)), .val (.int (Int32.ofNat q)), .val (.ref b6), .val (.int ((0 : Int32) + p3))] [(.int ((0 : Int32) + p3))])) _
    refine XS.iloadN X10.here hx rfl (hb hby at_136) rfl ?_
    show Steps p.tables e below (T10.setTop (mkF m 137 #[.val (.int p1), .val (.int p2), .val (.int p3), .val (.int p4), .val (.int p5), .val (.int (Int32.ofNat n)), .val (.int (Int32.ofNat pa)), .val (.int (Int32.ofNat pb)), .val (.int (Int32.ofNat pd)), .val (.int (Int32.ofNat q)), .val (.ref b6), .val (.int ((0 : Int32) + p3))] [(.int p4), (.int ((0 : Int32) + p3))])) _
    refine XS.iadd X10.here hx rfl (hb hby at_137) rfl ?_
    show Steps p.tables e below (T10.setTop (mkF m 138 #[.val (.int p1), .val (.int p2), .val (.int p3), .val (.int p4), .val (.int p5), .val (.int (Int32.ofNat n)), .val (.int (Int32.ofNat pa)), .val (.int (Int32.ofNat pb)), .val (.int (Int32.ofNat pd)), .val (.int (Int32.ofNat q)), .val (.ref b6), .val (.int ((0 : Int32) + p3))] [(.int (((0 : Int32) + p3) + p4))])) _
    refine XS.istore X10.here hx rfl (hb hby at_138) rfl (l' := #[.val (.int p1), .val (.int p2), .val (.int p3), .val (.int p4), .val (.int p5), .val (.int (Int32.ofNat n)), .val (.int (Int32.ofNat pa)), .val (.int (Int32.ofNat pb)), .val (.int (Int32.ofNat pd)), .val (.int (Int32.ofNat q)), .val (.ref b6), .val (.int (((0 : Int32) + p3) + p4))]) rfl ?_
    show Steps p.tables e below (T10.setTop (mkF m 140 #[.val (.int p1), .val (.int p2), .val (.int p3), .val (.int p4), .val (.int p5), .val (.int (Int32.ofNat n)), .val (.int (Int32.ofNat pa)), .val (.int (Int32.ofNat pb)), .val (.int (Int32.ofNat pd)), .val (.int (Int32.ofNat q)), .val (.ref b6), .val (.int (((0 : Int32) + p3) + p4))] [])) _
    refine XS.aload X10.here hx rfl (hb hby at_140) rfl rfl ?_
    show Steps p.tables e below (T10.setTop (mkF m 142 #[.val (.int p1), .val (.int p2), .val (.int p3), .val (.int p4), .val (.int p5), .val (.int (Int32.ofNat n)), .val (.int (Int32.ofNat pa)), .val (.int (Int32.ofNat pb)), .val (.int (Int32.ofNat pd)), .val (.int (Int32.ofNat q)), .val (.ref b6), .val (.int (((0 : Int32) + p3) + p4))] [(.ref b6)])) _
    refine XS.iload X10.here hx rfl (hb hby at_142) rfl ?_
    show Steps p.tables e below (T10.setTop (mkF m 144 #[.val (.int p1), .val (.int p2), .val (.int p3), .val (.int p4), .val (.int p5), .val (.int (Int32.ofNat n)), .val (.int (Int32.ofNat pa)), .val (.int (Int32.ofNat pb)), .val (.int (Int32.ofNat pd)), .val (.int (Int32.ofNat q)), .val (.ref b6), .val (.int (((0 : Int32) + p3) + p4))] [(.int (Int32.ofNat q)), (.ref b6)])) _
    refine st11.trans ?_
    show Steps p.tables e below (T11.setTop (mkF m 147 #[.val (.int p1), .val (.int p2), .val (.int p3), .val (.int p4), .val (.int p5), .val (.int (Int32.ofNat n)), .val (.int (Int32.ofNat pa)), .val (.int (Int32.ofNat pb)), .val (.int (Int32.ofNat pd)), .val (.int (Int32.ofNat q)), .val (.ref b6), .val (.int (((0 : Int32) + p3) + p4))] [(.int (own_sum (own_down 6 q) (own_adds (own_up 6 (n + 1) (pd + 1)) p4 (own_adds (own_up 6 (n + 1) (pb + 1)) p3 (own_adds (own_up 6 (n + 1) (pa + 1)) p2 (fun _ => 0)))) 0))])) _
    refine XS.iload X11.here hx rfl (hb hby at_147) rfl ?_
    show Steps p.tables e below (T11.setTop (mkF m 149 #[.val (.int p1), .val (.int p2), .val (.int p3), .val (.int p4), .val (.int p5), .val (.int (Int32.ofNat n)), .val (.int (Int32.ofNat pa)), .val (.int (Int32.ofNat pb)), .val (.int (Int32.ofNat pd)), .val (.int (Int32.ofNat q)), .val (.ref b6), .val (.int (((0 : Int32) + p3) + p4))] [(.int (((0 : Int32) + p3) + p4)), (.int (own_sum (own_down 6 q) (own_adds (own_up 6 (n + 1) (pd + 1)) p4 (own_adds (own_up 6 (n + 1) (pb + 1)) p3 (own_adds (own_up 6 (n + 1) (pa + 1)) p2 (fun _ => 0)))) 0))])) _
    refine XS.icmpNo X11.here hx rfl (hb hby at_149) rfl (teq (own_ok : (own_sum (own_down 6 q) (own_adds (own_up 6 (n + 1) (pd + 1)) p4 (own_adds (own_up 6 (n + 1) (pb + 1)) p3 (own_adds (own_up 6 (n + 1) (pa + 1)) p2 (fun _ => 0)))) 0) = (((0 : Int32) + p3) + p4))).2 ?_
    show Steps p.tables e below (T11.setTop (mkF m 152 #[.val (.int p1), .val (.int p2), .val (.int p3), .val (.int p4), .val (.int p5), .val (.int (Int32.ofNat n)), .val (.int (Int32.ofNat pa)), .val (.int (Int32.ofNat pb)), .val (.int (Int32.ofNat pd)), .val (.int (Int32.ofNat q)), .val (.ref b6), .val (.int (((0 : Int32) + p3) + p4))] [])) _
    refine XS.iconst X11.here hx rfl (hb hby at_152) ?_
    show Steps p.tables e below (T11.setTop (mkF m 153 #[.val (.int p1), .val (.int p2), .val (.int p3), .val (.int p4), .val (.int p5), .val (.int (Int32.ofNat n)), .val (.int (Int32.ofNat pa)), .val (.int (Int32.ofNat pb)), .val (.int (Int32.ofNat pd)), .val (.int (Int32.ofNat q)), .val (.ref b6), .val (.int (((0 : Int32) + p3) + p4))] [(.int (1 : Int32))])) _
    refine XS.goto X11.here hx rfl (pc0 := 153) (pc' := 157) rfl (hb hby at_153) (by decide) (by decide) ?_
    show Steps p.tables e below (T11.setTop (mkF m 157 #[.val (.int p1), .val (.int p2), .val (.int p3), .val (.int p4), .val (.int p5), .val (.int (Int32.ofNat n)), .val (.int (Int32.ofNat pa)), .val (.int (Int32.ofNat pb)), .val (.int (Int32.ofNat pd)), .val (.int (Int32.ofNat q)), .val (.ref b6), .val (.int (((0 : Int32) + p3) + p4))] [(.int (1 : Int32))])) _
    exact retN X11 hx (t := .boolean) Bd.returns (by simp) (hb hby at_157) hr
  · show Q0_tfff Z p1 p2 p3 p4 p5 h0 n0 _ T11.heap _
    exact ⟨rfl, N11⟩
def Q0_tftf (Z : State) (p1 : Int32) (p2 : Int32) (p3 : Int32) (p4 : Int32) (p5 : Int32) (h0 : Heap) (n0 : Nat) (v : Option Value) (h : Heap) (L : List Loc) : Prop := v = some (.int (1 : Int32)) ∧ Fr n0 L
set_option maxRecDepth 65536 in
set_option maxHeartbeats 40000000 in
theorem rm0_tftf (l : Launch) (Z : State) (a0 : Array Value) (hw : ∀ d ∈ tables_1, d.before a0 Z = true) (ws : List Jvm.Cond) (p1 : Int32) (p2 : Int32) (p3 : Int32) (p4 : Int32) (p5 : Int32) (n pa pb pd q : Nat) (h0 : Heap) (n0 : Nat) (Z0 : n0 ≤ h0.size) (hn : n ≤ 16) (hpa : pa < n) (hpb : pb < n) (hpd : pd < n) (hq : q ≤ n) (hp9 : (((p1 &&& (255 : Int32)) % (12 : Int32)) + (1 : Int32)) = (Int32.ofNat n)) (hp22 : ((((p1.toUInt32 >>> ((8 : Int32) &&& 31).toUInt32).toInt32) &&& (255 : Int32)) % (Int32.ofNat n)) = (Int32.ofNat pa)) (hp35 : ((((p1.toUInt32 >>> ((16 : Int32) &&& 31).toUInt32).toInt32) &&& (255 : Int32)) % (Int32.ofNat n)) = (Int32.ofNat pb)) (hp48 : ((((p1.toUInt32 >>> ((24 : Int32) &&& 31).toUInt32).toInt32) &&& (255 : Int32)) % (Int32.ofNat n)) = (Int32.ofNat pd)) (hp60 : ((p5 &&& (2147483647 : Int32)) % ((Int32.ofNat n) + (1 : Int32))) = (Int32.ofNat q)) (hc105 : ¬ ((Int32.ofNat pa) < (Int32.ofNat q))) (hc118 : (Int32.ofNat pb) < (Int32.ofNat q)) (hc131 : ¬ ((Int32.ofNat pd) < (Int32.ofNat q))) :
    MetFree l x (head1 (Jvm.Cond.code x code maxLocals ret :: ws) room_1) (fun a U => a = #[(.int p1), (.int p2), (.int p3), (.int p4), (.int p5)] ∧ Z.Warmed39 U.vm ∧ U.heap = h0) (fun _ _ _ _ _ => True) (fun _ U o U' => ∃ v L, o = .returned v ∧ Q0_tftf Z p1 p2 p3 p4 p5 h0 n0 v U'.heap L ∧ FrameEnd U o U' L room_1.cells room_1.slots) := by
  refine MetFree.of_bodySF (plainFor_of_name pn_0) hisR ?_
  intro p e s m args below meth c s₁ Bd hml0 hP hK
  obtain ⟨rfl, hZ, hh⟩ := hP
  have hnz22 : Int32.ofNat n ≠ (0 : Int32) := own_nz (by omega) (by omega)
  have hnz35 := hnz22
  have hnz48 := hnz22
  have hnz60 : Int32.ofNat n + (1 : Int32) ≠ (0 : Int32) := by rw [own_one]; exact own_nz (by omega) (by omega)
  have hx := Bd.exec
  have hby := Bd.bytes
  have hml : c.maxLocals = 12 := hml0
  have hown : s.vm.findClass "com/example/tallykeep/tallykeep/core/PrefixCountsBelowPinLaw" = some m.cls := findClass_of_methodNamed Bd.named
  have hnm := (name_of_methodNamed Bd.named Bd.method).1
  have X0 : Stand p l e room_1 s m #[(.int p1), (.int p2), (.int p3), (.int p4), (.int p5)] below meth c s₁ [] 0 0 := Stand.of_body Bd
  have e0 : s₁.heap = h0 := by rw [← hh, Bd.state]; rfl
  have N0 := Fr.nil n0
  have pre0 : ∀ t, Steps p.tables e below (s₁.setTop (mkF m 0 #[.val (.int p1), .val (.int p2), .val (.int p3), .val (.int p4), .val (.int p5), .unset, .unset, .unset, .unset, .unset, .unset, .unset] [])) t → Steps p.tables e below (s₁.setTop (entryFrame m #[(.int p1), (.int p2), (.int p3), (.int p4), (.int p5)] maxLocals)) t := fun t k => castTop (ef_0 m p1 p2 p3 p4 p5) k
  obtain ⟨T6, h6, X6, e6, E6, A6, D6, -, st6⟩ := newO X0 hx hZ hown (hw _ (List.mem_of_getElem? (i := 1) rfl)) (hw _ (List.mem_of_getElem? (i := 2) rfl)) (hw _ (List.mem_of_getElem? (i := 3) rfl)) e0 (g := (mkF m 63 #[.val (.int p1), .val (.int p2), .val (.int p3), .val (.int p4), .val (.int p5), .val (.int (Int32.ofNat n)), .val (.int (Int32.ofNat pa)), .val (.int (Int32.ofNat pb)), .val (.int (Int32.ofNat pd)), .val (.int (Int32.ofNat q)), .unset, .unset] [])) rfl (hb hby at_63) (by decide) (by decide)
  obtain ⟨b6, g6⟩ : ∃ z, z = h0.size := ⟨_, rfl⟩
  rw [← g6] at A6 D6 st6
  have F_cells_b6 : Fld Z h6 b6 "com/example/tallykeep/tallykeep/core/PrefixCounts" "cells" "[I" .null := D6 (Or.inr (hw _ (List.mem_of_getElem? (i := 12) rfl))) (ty := (.array .int)) (by decide)
  have E_b6 := A6
  have g_b6 : n0 ≤ b6 := Nat.le_trans Z0 (Nat.le_of_eq g6.symm)
  have sz_b6 : h0.size ≤ b6 := (Nat.le_trans (Keep.refl h0 []).1 (Nat.le_of_eq g6.symm))
  have K6 : Keep h0 h6 [] := (Keep.refl h0 []).ext E6
  obtain ⟨_, _, ⟨T7, L7, k7, n7⟩, -, X7, ⟨Lc7, hQ7, l7, y7, z7⟩, st7⟩ := X6.specialBack hx (y := (⟨"com/example/tallykeep/tallykeep/core/PrefixCounts", "<init>", "(I)V"⟩ : MethodName)) rfl hown (mvT hZ (hw _ (List.mem_of_getElem? (i := 4) rfl))) (mvT hZ (hw _ (List.mem_of_getElem? (i := 5) rfl))) (mvT hZ (hw _ (List.mem_of_getElem? (i := 6) rfl))) (by decide) (backOf (W := 1) (rm1 l Z a0 hw [] b6 n .null h6 n0 (Nat.le_trans Z0 K6.1) E_b6 F_cells_b6 g_b6 hn) hZ (hw _ (List.mem_of_getElem? (i := 6) rfl)) (hw _ (List.mem_of_getElem? (i := 3) rfl)) (by decide) (by decide)) (g := (mkF m 69 #[.val (.int p1), .val (.int p2), .val (.int p3), .val (.int p4), .val (.int p5), .val (.int (Int32.ofNat n)), .val (.int (Int32.ofNat pa)), .val (.int (Int32.ofNat pb)), .val (.int (Int32.ofNat pd)), .val (.int (Int32.ofNat q)), .unset, .unset] [(.int (Int32.ofNat n)), (.ref b6), (.ref b6)])) rfl (by rw [hml]; rfl) (Steps.refl _) (a := b6) (argsL := [(.int (Int32.ofNat n))]) (rest := [(.ref b6)]) (lenOf pd_0_0 rfl) rfl (by show 2 * 0 + _ ≤ _; exact Nat.le_of_eq rfl) (hb hby at_69) (fun _ _ => ⟨rfl, e6, (Nat.le_of_ble_eq_true rfl), (Nat.le_of_ble_eq_true rfl)⟩)
  dsimp only [Pt.U, Pt.locs, Pt.cells, Pt.slots] at X7 l7 y7 z7 st7 hQ7
  subst l7 y7 z7
  obtain ⟨rfl, N7q, K7c, E7c, bC, szC, FC, VC⟩ := hQ7
  have g_bC : n0 ≤ bC := Nat.le_trans (Nat.le_trans Z0 K6.1) szC
  have ne_oC : b6 ≠ bC := Nat.ne_of_lt (Nat.lt_of_lt_of_le E_b6.lt szC)
  have Z7 : n0 ≤ T7.heap.size := Nat.le_trans (Nat.le_trans Z0 K6.1) K7c.1
  have N7 := Fr.app N0 N7q
  obtain ⟨cq8, kq8, q8a, q8b, q8c⟩ := isOf hZ rfl (E_b6.keep K7c)
  obtain ⟨_, _, ⟨T8, L8, k8, n8⟩, -, X8, ⟨Lc8, hQ8, l8, y8, z8⟩, st8⟩ := X7.virtualBack hx (y := (⟨"com/example/tallykeep/tallykeep/core/PrefixCounts", "add", "(II)V"⟩ : MethodName)) (z := (⟨"com/example/tallykeep/tallykeep/core/PrefixCounts", "add", "(II)V"⟩ : MethodName)) hown (mvT hZ (hw _ (List.mem_of_getElem? (i := 13) rfl))) (mvT hZ (hw _ (List.mem_of_getElem? (i := 14) rfl))) (notFace_of_selects (args := #[]) (mvT hZ (hw _ (List.mem_of_getElem? (i := 16) rfl)))) (mvT hZ (hw _ (List.mem_of_getElem? (i := 16) rfl))) (mvT hZ (hw _ (List.mem_of_getElem? (i := 15) rfl))) (by decide) (backOf (W := 0) (rm3 l Z a0 hw [] b6 pa p2 bC (n + 1) _ T7.heap n0 Z7 FC VC (by omega) (by omega) g_bC ne_oC) hZ (hw _ (List.mem_of_getElem? (i := 17) rfl)) (hw _ (List.mem_of_getElem? (i := 3) rfl)) (by decide) (by decide)) q8a q8c (g := (mkF m 79 #[.val (.int p1), .val (.int p2), .val (.int p3), .val (.int p4), .val (.int p5), .val (.int (Int32.ofNat n)), .val (.int (Int32.ofNat pa)), .val (.int (Int32.ofNat pb)), .val (.int (Int32.ofNat pd)), .val (.int (Int32.ofNat q)), .val (.ref b6), .unset] [(.int p2), (.int (Int32.ofNat pa)), (.ref b6)])) rfl (by rw [hml]; rfl) (Steps.refl _) (argsL := [(.int (Int32.ofNat pa)), (.int p2)]) (rest := []) (lenOf pd_0_2 rfl) rfl (by show 2 * 0 + _ ≤ _; exact Nat.le_of_eq rfl) (hb hby at_79) (fun _ _ => ⟨rfl, rfl, (Nat.le_of_ble_eq_true rfl), (Nat.le_of_ble_eq_true rfl)⟩)
  dsimp only [Pt.U, Pt.locs, Pt.cells, Pt.slots] at X8 l8 y8 z8 st8 hQ8
  subst l8 y8 z8
  obtain ⟨rfl, N8q, K8c, V8c⟩ := hQ8
  have F8c := FC.keep K8c (ninS ne_oC nin0)
  have Z8 : n0 ≤ T8.heap.size := Nat.le_trans Z7 K8c.1
  have N8 := Fr.app N7 N8q
  obtain ⟨cq9, kq9, q9a, q9b, q9c⟩ := isOf hZ rfl ((E_b6.keep K7c).keep K8c)
  obtain ⟨_, _, ⟨T9, L9, k9, n9⟩, -, X9, ⟨Lc9, hQ9, l9, y9, z9⟩, st9⟩ := X8.virtualBack hx (y := (⟨"com/example/tallykeep/tallykeep/core/PrefixCounts", "add", "(II)V"⟩ : MethodName)) (z := (⟨"com/example/tallykeep/tallykeep/core/PrefixCounts", "add", "(II)V"⟩ : MethodName)) hown (mvT hZ (hw _ (List.mem_of_getElem? (i := 13) rfl))) (mvT hZ (hw _ (List.mem_of_getElem? (i := 14) rfl))) (notFace_of_selects (args := #[]) (mvT hZ (hw _ (List.mem_of_getElem? (i := 16) rfl)))) (mvT hZ (hw _ (List.mem_of_getElem? (i := 16) rfl))) (mvT hZ (hw _ (List.mem_of_getElem? (i := 15) rfl))) (by decide) (backOf (W := 0) (rm3 l Z a0 hw [] b6 pb p3 bC (n + 1) _ T8.heap n0 Z8 F8c V8c (by omega) (by omega) g_bC ne_oC) hZ (hw _ (List.mem_of_getElem? (i := 17) rfl)) (hw _ (List.mem_of_getElem? (i := 3) rfl)) (by decide) (by decide)) q9a q9c (g := (mkF m 87 #[.val (.int p1), .val (.int p2), .val (.int p3), .val (.int p4), .val (.int p5), .val (.int (Int32.ofNat n)), .val (.int (Int32.ofNat pa)), .val (.int (Int32.ofNat pb)), .val (.int (Int32.ofNat pd)), .val (.int (Int32.ofNat q)), .val (.ref b6), .unset] [(.int p3), (.int (Int32.ofNat pb)), (.ref b6)])) rfl (by rw [hml]; rfl) (Steps.refl _) (argsL := [(.int (Int32.ofNat pb)), (.int p3)]) (rest := []) (lenOf pd_0_2 rfl) rfl (by show 2 * 0 + _ ≤ _; exact Nat.le_of_eq rfl) (hb hby at_87) (fun _ _ => ⟨rfl, rfl, (Nat.le_of_ble_eq_true rfl), (Nat.le_of_ble_eq_true rfl)⟩)
  dsimp only [Pt.U, Pt.locs, Pt.cells, Pt.slots] at X9 l9 y9 z9 st9 hQ9
  subst l9 y9 z9
  obtain ⟨rfl, N9q, K9c, V9c⟩ := hQ9
  have F9c := F8c.keep K9c (ninS ne_oC nin0)
  have Z9 : n0 ≤ T9.heap.size := Nat.le_trans Z8 K9c.1
  have N9 := Fr.app N8 N9q
  obtain ⟨cq10, kq10, q10a, q10b, q10c⟩ := isOf hZ rfl (((E_b6.keep K7c).keep K8c).keep K9c)
  obtain ⟨_, _, ⟨T10, L10, k10, n10⟩, -, X10, ⟨Lc10, hQ10, l10, y10, z10⟩, st10⟩ := X9.virtualBack hx (y := (⟨"com/example/tallykeep/tallykeep/core/PrefixCounts", "add", "(II)V"⟩ : MethodName)) (z := (⟨"com/example/tallykeep/tallykeep/core/PrefixCounts", "add", "(II)V"⟩ : MethodName)) hown (mvT hZ (hw _ (List.mem_of_getElem? (i := 13) rfl))) (mvT hZ (hw _ (List.mem_of_getElem? (i := 14) rfl))) (notFace_of_selects (args := #[]) (mvT hZ (hw _ (List.mem_of_getElem? (i := 16) rfl)))) (mvT hZ (hw _ (List.mem_of_getElem? (i := 16) rfl))) (mvT hZ (hw _ (List.mem_of_getElem? (i := 15) rfl))) (by decide) (backOf (W := 0) (rm3 l Z a0 hw [] b6 pd p4 bC (n + 1) _ T9.heap n0 Z9 F9c V9c (by omega) (by omega) g_bC ne_oC) hZ (hw _ (List.mem_of_getElem? (i := 17) rfl)) (hw _ (List.mem_of_getElem? (i := 3) rfl)) (by decide) (by decide)) q10a q10c (g := (mkF m 95 #[.val (.int p1), .val (.int p2), .val (.int p3), .val (.int p4), .val (.int p5), .val (.int (Int32.ofNat n)), .val (.int (Int32.ofNat pa)), .val (.int (Int32.ofNat pb)), .val (.int (Int32.ofNat pd)), .val (.int (Int32.ofNat q)), .val (.ref b6), .unset] [(.int p4), (.int (Int32.ofNat pd)), (.ref b6)])) rfl (by rw [hml]; rfl) (Steps.refl _) (argsL := [(.int (Int32.ofNat pd)), (.int p4)]) (rest := []) (lenOf pd_0_2 rfl) rfl (by show 2 * 0 + _ ≤ _; exact Nat.le_of_eq rfl) (hb hby at_95) (fun _ _ => ⟨rfl, rfl, (Nat.le_of_ble_eq_true rfl), (Nat.le_of_ble_eq_true rfl)⟩)
  dsimp only [Pt.U, Pt.locs, Pt.cells, Pt.slots] at X10 l10 y10 z10 st10 hQ10
  subst l10 y10 z10
  obtain ⟨rfl, N10q, K10c, V10c⟩ := hQ10
  have F10c := F9c.keep K10c (ninS ne_oC nin0)
  have Z10 : n0 ≤ T10.heap.size := Nat.le_trans Z9 K10c.1
  have N10 := Fr.app N9 N10q
  obtain ⟨cq11, kq11, q11a, q11b, q11c⟩ := isOf hZ rfl ((((E_b6.keep K7c).keep K8c).keep K9c).keep K10c)
  obtain ⟨_, _, ⟨T11, L11, k11, n11⟩, -, X11, ⟨Lc11, hQ11, l11, y11, z11⟩, st11⟩ := X10.virtualBack hx (y := (⟨"com/example/tallykeep/tallykeep/core/PrefixCounts", "below", "(I)I"⟩ : MethodName)) (z := (⟨"com/example/tallykeep/tallykeep/core/PrefixCounts", "below", "(I)I"⟩ : MethodName)) hown (mvT hZ (hw _ (List.mem_of_getElem? (i := 18) rfl))) (mvT hZ (hw _ (List.mem_of_getElem? (i := 19) rfl))) (notFace_of_selects (args := #[]) (mvT hZ (hw _ (List.mem_of_getElem? (i := 21) rfl)))) (mvT hZ (hw _ (List.mem_of_getElem? (i := 21) rfl))) (mvT hZ (hw _ (List.mem_of_getElem? (i := 20) rfl))) (by decide) (backOf (W := 0) (rm4 l Z a0 hw [] b6 q bC (n + 1) _ T10.heap n0 Z10 F10c V10c (by omega) (by omega)) hZ (hw _ (List.mem_of_getElem? (i := 22) rfl)) (hw _ (List.mem_of_getElem? (i := 3) rfl)) (by decide) (by decide)) q11a q11c (g := (mkF m 144 #[.val (.int p1), .val (.int p2), .val (.int p3), .val (.int p4), .val (.int p5), .val (.int (Int32.ofNat n)), .val (.int (Int32.ofNat pa)), .val (.int (Int32.ofNat pb)), .val (.int (Int32.ofNat pd)), .val (.int (Int32.ofNat q)), .val (.ref b6), .val (.int ((0 : Int32) + p3))] [(.int (Int32.ofNat q)), (.ref b6)])) rfl (by rw [hml]; rfl) (Steps.refl _) (argsL := [(.int (Int32.ofNat q))]) (rest := []) (lenOf pd_0_3 rfl) rfl (by show 2 * 0 + _ ≤ _; exact Nat.le_of_eq rfl) (hb hby at_144) (fun _ _ => ⟨rfl, rfl, (Nat.le_of_ble_eq_true rfl), (Nat.le_of_ble_eq_true rfl)⟩)
  dsimp only [Pt.U, Pt.locs, Pt.cells, Pt.slots] at X11 l11 y11 z11 st11 hQ11
  subst l11 y11 z11
  obtain ⟨rfl, N11q, e11⟩ := hQ11
  have N11 := Fr.app N10 N11q
  have own_ok : (own_sum (own_down 6 q) (own_adds (own_up 6 (n + 1) (pd + 1)) p4 (own_adds (own_up 6 (n + 1) (pb + 1)) p3 (own_adds (own_up 6 (n + 1) (pa + 1)) p2 (fun _ => 0)))) 0) = ((0 : Int32) + p3) := by
    rw [own_final3 hn hpa hpb hpd hq]
    rw [if_neg (fun z => hc105 ((own_lt (by omega) (by omega)).mpr z))]
    rw [if_pos ((own_lt (by omega) (by omega)).mp hc118)]
    rw [if_neg (fun z => hc131 ((own_lt (by omega) (by omega)).mpr z))]
    all_goals simp
  obtain ⟨fs, hr, hrun, hended, hW, hsame⟩ := X11.leave (v := some (.int (1 : Int32))) (fun h => by rw [Bd.returns] at h; cases h)
  refine ⟨_, _, pre0 _ ?_, hrun, hended, _, _, rfl, ?_, ⟨_, rfl⟩, hW, hsame.mono (by decide) (by decide)⟩
  · show Steps p.tables e below (s₁.setTop (mkF m 0 #[.val (.int p1), .val (.int p2), .val (.int p3), .val (.int p4), .val (.int p5), .unset, .unset, .unset, .unset, .unset, .unset, .unset] [])) _
    refine XS.iloadN X0.here hx rfl (hb hby at_0) rfl ?_
    show Steps p.tables e below (s₁.setTop (mkF m 1 #[.val (.int p1), .val (.int p2), .val (.int p3), .val (.int p4), .val (.int p5), .unset, .unset, .unset, .unset, .unset, .unset, .unset] [(.int p1)])) _
    refine XS.sipush X0.here hx rfl (hb hby at_1) ?_
    show Steps p.tables e below (s₁.setTop (mkF m 4 #[.val (.int p1), .val (.int p2), .val (.int p3), .val (.int p4), .val (.int p5), .unset, .unset, .unset, .unset, .unset, .unset, .unset] [(.int (255 : Int32)), (.int p1)])) _
    refine XS.iand X0.here hx rfl (hb hby at_4) rfl ?_
    show Steps p.tables e below (s₁.setTop (mkF m 5 #[.val (.int p1), .val (.int p2), .val (.int p3), .val (.int p4), .val (.int p5), .unset, .unset, .unset, .unset, .unset, .unset, .unset] [(.int (p1 &&& (255 : Int32)))])) _
    refine XS.bipush X0.here hx rfl (hb hby at_5) ?_
    show Steps p.tables e below (s₁.setTop (mkF m 7 #[.val (.int p1), .val (.int p2), .val (.int p3), .val (.int p4), .val (.int p5), .unset, .unset, .unset, .unset, .unset, .unset, .unset] [(.int (12 : Int32)), (.int (p1 &&& (255 : Int32)))])) _
    refine iremM X0 hx rfl (hb hby at_7) rfl (by decide) ?_
    show Steps p.tables e below (s₁.setTop (mkF m 8 #[.val (.int p1), .val (.int p2), .val (.int p3), .val (.int p4), .val (.int p5), .unset, .unset, .unset, .unset, .unset, .unset, .unset] [(.int ((p1 &&& (255 : Int32)) % (12 : Int32)))])) _
    refine XS.iconst X0.here hx rfl (hb hby at_8) ?_
    show Steps p.tables e below (s₁.setTop (mkF m 9 #[.val (.int p1), .val (.int p2), .val (.int p3), .val (.int p4), .val (.int p5), .unset, .unset, .unset, .unset, .unset, .unset, .unset] [(.int (1 : Int32)), (.int ((p1 &&& (255 : Int32)) % (12 : Int32)))])) _
    refine XS.iadd X0.here hx rfl (hb hby at_9) rfl ?_
    rw [hp9]
    show Steps p.tables e below (s₁.setTop (mkF m 10 #[.val (.int p1), .val (.int p2), .val (.int p3), .val (.int p4), .val (.int p5), .unset, .unset, .unset, .unset, .unset, .unset, .unset] [(.int (Int32.ofNat n))])) _
    refine XS.istore X0.here hx rfl (hb hby at_10) rfl (l' := #[.val (.int p1), .val (.int p2), .val (.int p3), .val (.int p4), .val (.int p5), .val (.int (Int32.ofNat n)), .unset, .unset, .unset, .unset, .unset, .unset]) rfl ?_
    show Steps p.tables e below (s₁.setTop (mkF m 12 #[.val (.int p1), .val (.int p2), .val (.int p3), .val (.int p4), .val (.int p5), .val (.int (Int32.ofNat n)), .unset, .unset, .unset, .unset, .unset, .unset] [])) _
    refine XS.iloadN X0.here hx rfl (hb hby at_12) rfl ?_
    show Steps p.tables e below (s₁.setTop (mkF m 13 #[.val (.int p1), .val (.int p2), .val (.int p3), .val (.int p4), .val (.int p5), .val (.int (Int32.ofNat n)), .unset, .unset, .unset, .unset, .unset, .unset] [(.int p1)])) _
    refine XS.bipush X0.here hx rfl (hb hby at_13) ?_
    show Steps p.tables e below (s₁.setTop (mkF m 15 #[.val (.int p1), .val (.int p2), .val (.int p3), .val (.int p4), .val (.int p5), .val (.int (Int32.ofNat n)), .unset, .unset, .unset, .unset, .unset, .unset] [(.int (8 : Int32)), (.int p1)])) _
    refine XS.iushr X0.here hx rfl (hb hby at_15) rfl ?_
    show Steps p.tables e below (s₁.setTop (mkF m 16 #[.val (.int p1), .val (.int p2), .val (.int p3), .val (.int p4), .val (.int p5), .val (.int (Int32.ofNat n)), .unset, .unset, .unset, .unset, .unset, .unset] [(.int ((p1.toUInt32 >>> ((8 : Int32) &&& 31).toUInt32).toInt32))])) _
    refine XS.sipush X0.here hx rfl (hb hby at_16) ?_
    show Steps p.tables e below (s₁.setTop (mkF m 19 #[.val (.int p1), .val (.int p2), .val (.int p3), .val (.int p4), .val (.int p5), .val (.int (Int32.ofNat n)), .unset, .unset, .unset, .unset, .unset, .unset] [(.int (255 : Int32)), (.int ((p1.toUInt32 >>> ((8 : Int32) &&& 31).toUInt32).toInt32))])) _
    refine XS.iand X0.here hx rfl (hb hby at_19) rfl ?_
    show Steps p.tables e below (s₁.setTop (mkF m 20 #[.val (.int p1), .val (.int p2), .val (.int p3), .val (.int p4), .val (.int p5), .val (.int (Int32.ofNat n)), .unset, .unset, .unset, .unset, .unset, .unset] [(.int (((p1.toUInt32 >>> ((8 : Int32) &&& 31).toUInt32).toInt32) &&& (255 : Int32)))])) _
    refine XS.iload X0.here hx rfl (hb hby at_20) rfl ?_
    show Steps p.tables e below (s₁.setTop (mkF m 22 #[.val (.int p1), .val (.int p2), .val (.int p3), .val (.int p4), .val (.int p5), .val (.int (Int32.ofNat n)), .unset, .unset, .unset, .unset, .unset, .unset] [(.int (Int32.ofNat n)), (.int (((p1.toUInt32 >>> ((8 : Int32) &&& 31).toUInt32).toInt32) &&& (255 : Int32)))])) _
    refine iremM X0 hx rfl (hb hby at_22) rfl hnz22 ?_
    rw [hp22]
    show Steps p.tables e below (s₁.setTop (mkF m 23 #[.val (.int p1), .val (.int p2), .val (.int p3), .val (.int p4), .val (.int p5), .val (.int (Int32.ofNat n)), .unset, .unset, .unset, .unset, .unset, .unset] [(.int (Int32.ofNat pa))])) _
    refine XS.istore X0.here hx rfl (hb hby at_23) rfl (l' := #[.val (.int p1), .val (.int p2), .val (.int p3), .val (.int p4), .val (.int p5), .val (.int (Int32.ofNat n)), .val (.int (Int32.ofNat pa)), .unset, .unset, .unset, .unset, .unset]) rfl ?_
    show Steps p.tables e below (s₁.setTop (mkF m 25 #[.val (.int p1), .val (.int p2), .val (.int p3), .val (.int p4), .val (.int p5), .val (.int (Int32.ofNat n)), .val (.int (Int32.ofNat pa)), .unset, .unset, .unset, .unset, .unset] [])) _
    refine XS.iloadN X0.here hx rfl (hb hby at_25) rfl ?_
    show Steps p.tables e below (s₁.setTop (mkF m 26 #[.val (.int p1), .val (.int p2), .val (.int p3), .val (.int p4), .val (.int p5), .val (.int (Int32.ofNat n)), .val (.int (Int32.ofNat pa)), .unset, .unset, .unset, .unset, .unset] [(.int p1)])) _
    refine XS.bipush X0.here hx rfl (hb hby at_26) ?_
    show Steps p.tables e below (s₁.setTop (mkF m 28 #[.val (.int p1), .val (.int p2), .val (.int p3), .val (.int p4), .val (.int p5), .val (.int (Int32.ofNat n)), .val (.int (Int32.ofNat pa)), .unset, .unset, .unset, .unset, .unset] [(.int (16 : Int32)), (.int p1)])) _
    refine XS.iushr X0.here hx rfl (hb hby at_28) rfl ?_
    show Steps p.tables e below (s₁.setTop (mkF m 29 #[.val (.int p1), .val (.int p2), .val (.int p3), .val (.int p4), .val (.int p5), .val (.int (Int32.ofNat n)), .val (.int (Int32.ofNat pa)), .unset, .unset, .unset, .unset, .unset] [(.int ((p1.toUInt32 >>> ((16 : Int32) &&& 31).toUInt32).toInt32))])) _
    refine XS.sipush X0.here hx rfl (hb hby at_29) ?_
    show Steps p.tables e below (s₁.setTop (mkF m 32 #[.val (.int p1), .val (.int p2), .val (.int p3), .val (.int p4), .val (.int p5), .val (.int (Int32.ofNat n)), .val (.int (Int32.ofNat pa)), .unset, .unset, .unset, .unset, .unset] [(.int (255 : Int32)), (.int ((p1.toUInt32 >>> ((16 : Int32) &&& 31).toUInt32).toInt32))])) _
    refine XS.iand X0.here hx rfl (hb hby at_32) rfl ?_
    show Steps p.tables e below (s₁.setTop (mkF m 33 #[.val (.int p1), .val (.int p2), .val (.int p3), .val (.int p4), .val (.int p5), .val (.int (Int32.ofNat n)), .val (.int (Int32.ofNat pa)), .unset, .unset, .unset, .unset, .unset] [(.int (((p1.toUInt32 >>> ((16 : Int32) &&& 31).toUInt32).toInt32) &&& (255 : Int32)))])) _
    refine XS.iload X0.here hx rfl (hb hby at_33) rfl ?_
    show Steps p.tables e below (s₁.setTop (mkF m 35 #[.val (.int p1), .val (.int p2), .val (.int p3), .val (.int p4), .val (.int p5), .val (.int (Int32.ofNat n)), .val (.int (Int32.ofNat pa)), .unset, .unset, .unset, .unset, .unset] [(.int (Int32.ofNat n)), (.int (((p1.toUInt32 >>> ((16 : Int32) &&& 31).toUInt32).toInt32) &&& (255 : Int32)))])) _
    refine iremM X0 hx rfl (hb hby at_35) rfl hnz35 ?_
    rw [hp35]
    show Steps p.tables e below (s₁.setTop (mkF m 36 #[.val (.int p1), .val (.int p2), .val (.int p3), .val (.int p4), .val (.int p5), .val (.int (Int32.ofNat n)), .val (.int (Int32.ofNat pa)), .unset, .unset, .unset, .unset, .unset] [(.int (Int32.ofNat pb))])) _
    refine XS.istore X0.here hx rfl (hb hby at_36) rfl (l' := #[.val (.int p1), .val (.int p2), .val (.int p3), .val (.int p4), .val (.int p5), .val (.int (Int32.ofNat n)), .val (.int (Int32.ofNat pa)), .val (.int (Int32.ofNat pb)), .unset, .unset, .unset, .unset]) rfl ?_
    show Steps p.tables e below (s₁.setTop (mkF m 38 #[.val (.int p1), .val (.int p2), .val (.int p3), .val (.int p4), .val (.int p5), .val (.int (Int32.ofNat n)), .val (.int (Int32.ofNat pa)), .val (.int (Int32.ofNat pb)), .unset, .unset, .unset, .unset] [])) _
    refine XS.iloadN X0.here hx rfl (hb hby at_38) rfl ?_
    show Steps p.tables e below (s₁.setTop (mkF m 39 #[.val (.int p1), .val (.int p2), .val (.int p3), .val (.int p4), .val (.int p5), .val (.int (Int32.ofNat n)), .val (.int (Int32.ofNat pa)), .val (.int (Int32.ofNat pb)), .unset, .unset, .unset, .unset] [(.int p1)])) _
    refine XS.bipush X0.here hx rfl (hb hby at_39) ?_
    show Steps p.tables e below (s₁.setTop (mkF m 41 #[.val (.int p1), .val (.int p2), .val (.int p3), .val (.int p4), .val (.int p5), .val (.int (Int32.ofNat n)), .val (.int (Int32.ofNat pa)), .val (.int (Int32.ofNat pb)), .unset, .unset, .unset, .unset] [(.int (24 : Int32)), (.int p1)])) _
    refine XS.iushr X0.here hx rfl (hb hby at_41) rfl ?_
    show Steps p.tables e below (s₁.setTop (mkF m 42 #[.val (.int p1), .val (.int p2), .val (.int p3), .val (.int p4), .val (.int p5), .val (.int (Int32.ofNat n)), .val (.int (Int32.ofNat pa)), .val (.int (Int32.ofNat pb)), .unset, .unset, .unset, .unset] [(.int ((p1.toUInt32 >>> ((24 : Int32) &&& 31).toUInt32).toInt32))])) _
    refine XS.sipush X0.here hx rfl (hb hby at_42) ?_
    show Steps p.tables e below (s₁.setTop (mkF m 45 #[.val (.int p1), .val (.int p2), .val (.int p3), .val (.int p4), .val (.int p5), .val (.int (Int32.ofNat n)), .val (.int (Int32.ofNat pa)), .val (.int (Int32.ofNat pb)), .unset, .unset, .unset, .unset] [(.int (255 : Int32)), (.int ((p1.toUInt32 >>> ((24 : Int32) &&& 31).toUInt32).toInt32))])) _
    refine XS.iand X0.here hx rfl (hb hby at_45) rfl ?_
    show Steps p.tables e below (s₁.setTop (mkF m 46 #[.val (.int p1), .val (.int p2), .val (.int p3), .val (.int p4), .val (.int p5), .val (.int (Int32.ofNat n)), .val (.int (Int32.ofNat pa)), .val (.int (Int32.ofNat pb)), .unset, .unset, .unset, .unset] [(.int (((p1.toUInt32 >>> ((24 : Int32) &&& 31).toUInt32).toInt32) &&& (255 : Int32)))])) _
    refine XS.iload X0.here hx rfl (hb hby at_46) rfl ?_
    show Steps p.tables e below (s₁.setTop (mkF m 48 #[.val (.int p1), .val (.int p2), .val (.int p3), .val (.int p4), .val (.int p5), .val (.int (Int32.ofNat n)), .val (.int (Int32.ofNat pa)), .val (.int (Int32.ofNat pb)), .unset, .unset, .unset, .unset] [(.int (Int32.ofNat n)), (.int (((p1.toUInt32 >>> ((24 : Int32) &&& 31).toUInt32).toInt32) &&& (255 : Int32)))])) _
    refine iremM X0 hx rfl (hb hby at_48) rfl hnz48 ?_
    rw [hp48]
    show Steps p.tables e below (s₁.setTop (mkF m 49 #[.val (.int p1), .val (.int p2), .val (.int p3), .val (.int p4), .val (.int p5), .val (.int (Int32.ofNat n)), .val (.int (Int32.ofNat pa)), .val (.int (Int32.ofNat pb)), .unset, .unset, .unset, .unset] [(.int (Int32.ofNat pd))])) _
    refine XS.istore X0.here hx rfl (hb hby at_49) rfl (l' := #[.val (.int p1), .val (.int p2), .val (.int p3), .val (.int p4), .val (.int p5), .val (.int (Int32.ofNat n)), .val (.int (Int32.ofNat pa)), .val (.int (Int32.ofNat pb)), .val (.int (Int32.ofNat pd)), .unset, .unset, .unset]) rfl ?_
    show Steps p.tables e below (s₁.setTop (mkF m 51 #[.val (.int p1), .val (.int p2), .val (.int p3), .val (.int p4), .val (.int p5), .val (.int (Int32.ofNat n)), .val (.int (Int32.ofNat pa)), .val (.int (Int32.ofNat pb)), .val (.int (Int32.ofNat pd)), .unset, .unset, .unset] [])) _
    refine XS.iload X0.here hx rfl (hb hby at_51) rfl ?_
    show Steps p.tables e below (s₁.setTop (mkF m 53 #[.val (.int p1), .val (.int p2), .val (.int p3), .val (.int p4), .val (.int p5), .val (.int (Int32.ofNat n)), .val (.int (Int32.ofNat pa)), .val (.int (Int32.ofNat pb)), .val (.int (Int32.ofNat pd)), .unset, .unset, .unset] [(.int p5)])) _
    refine X0.ldcInt hx hown (mvT hZ (hw _ (List.mem_of_getElem? (i := 0) rfl))) (g := (mkF m 53 #[.val (.int p1), .val (.int p2), .val (.int p3), .val (.int p4), .val (.int p5), .val (.int (Int32.ofNat n)), .val (.int (Int32.ofNat pa)), .val (.int (Int32.ofNat pb)), .val (.int (Int32.ofNat pd)), .unset, .unset, .unset] [(.int p5)])) rfl (hb hby at_53) _ ?_
    show Steps p.tables e below (s₁.setTop (mkF m 55 #[.val (.int p1), .val (.int p2), .val (.int p3), .val (.int p4), .val (.int p5), .val (.int (Int32.ofNat n)), .val (.int (Int32.ofNat pa)), .val (.int (Int32.ofNat pb)), .val (.int (Int32.ofNat pd)), .unset, .unset, .unset] [(.int (2147483647 : Int32)), (.int p5)])) _
    refine XS.iand X0.here hx rfl (hb hby at_55) rfl ?_
    show Steps p.tables e below (s₁.setTop (mkF m 56 #[.val (.int p1), .val (.int p2), .val (.int p3), .val (.int p4), .val (.int p5), .val (.int (Int32.ofNat n)), .val (.int (Int32.ofNat pa)), .val (.int (Int32.ofNat pb)), .val (.int (Int32.ofNat pd)), .unset, .unset, .unset] [(.int (p5 &&& (2147483647 : Int32)))])) _
    refine XS.iload X0.here hx rfl (hb hby at_56) rfl ?_
    show Steps p.tables e below (s₁.setTop (mkF m 58 #[.val (.int p1), .val (.int p2), .val (.int p3), .val (.int p4), .val (.int p5), .val (.int (Int32.ofNat n)), .val (.int (Int32.ofNat pa)), .val (.int (Int32.ofNat pb)), .val (.int (Int32.ofNat pd)), .unset, .unset, .unset] [(.int (Int32.ofNat n)), (.int (p5 &&& (2147483647 : Int32)))])) _
    refine XS.iconst X0.here hx rfl (hb hby at_58) ?_
    show Steps p.tables e below (s₁.setTop (mkF m 59 #[.val (.int p1), .val (.int p2), .val (.int p3), .val (.int p4), .val (.int p5), .val (.int (Int32.ofNat n)), .val (.int (Int32.ofNat pa)), .val (.int (Int32.ofNat pb)), .val (.int (Int32.ofNat pd)), .unset, .unset, .unset] [(.int (1 : Int32)), (.int (Int32.ofNat n)), (.int (p5 &&& (2147483647 : Int32)))])) _
    refine XS.iadd X0.here hx rfl (hb hby at_59) rfl ?_
    show Steps p.tables e below (s₁.setTop (mkF m 60 #[.val (.int p1), .val (.int p2), .val (.int p3), .val (.int p4), .val (.int p5), .val (.int (Int32.ofNat n)), .val (.int (Int32.ofNat pa)), .val (.int (Int32.ofNat pb)), .val (.int (Int32.ofNat pd)), .unset, .unset, .unset] [(.int ((Int32.ofNat n) + (1 : Int32))), (.int (p5 &&& (2147483647 : Int32)))])) _
    refine iremM X0 hx rfl (hb hby at_60) rfl hnz60 ?_
    rw [hp60]
    show Steps p.tables e below (s₁.setTop (mkF m 61 #[.val (.int p1), .val (.int p2), .val (.int p3), .val (.int p4), .val (.int p5), .val (.int (Int32.ofNat n)), .val (.int (Int32.ofNat pa)), .val (.int (Int32.ofNat pb)), .val (.int (Int32.ofNat pd)), .unset, .unset, .unset] [(.int (Int32.ofNat q))])) _
    refine XS.istore X0.here hx rfl (hb hby at_61) rfl (l' := #[.val (.int p1), .val (.int p2), .val (.int p3), .val (.int p4), .val (.int p5), .val (.int (Int32.ofNat n)), .val (.int (Int32.ofNat pa)), .val (.int (Int32.ofNat pb)), .val (.int (Int32.ofNat pd)), .val (.int (Int32.ofNat q)), .unset, .unset]) rfl ?_
    show Steps p.tables e below (s₁.setTop (mkF m 63 #[.val (.int p1), .val (.int p2), .val (.int p3), .val (.int p4), .val (.int p5), .val (.int (Int32.ofNat n)), .val (.int (Int32.ofNat pa)), .val (.int (Int32.ofNat pb)), .val (.int (Int32.ofNat pd)), .val (.int (Int32.ofNat q)), .unset, .unset] [])) _
    refine st6 _ ?_
    show Steps p.tables e below (T6.setTop (mkF m 66 #[.val (.int p1), .val (.int p2), .val (.int p3), .val (.int p4), .val (.int p5), .val (.int (Int32.ofNat n)), .val (.int (Int32.ofNat pa)), .val (.int (Int32.ofNat pb)), .val (.int (Int32.ofNat pd)), .val (.int (Int32.ofNat q)), .unset, .unset] [(.ref b6)])) _
    refine XS.dup X6.here hx rfl (hb hby at_66) rfl rfl ?_
    show Steps p.tables e below (T6.setTop (mkF m 67 #[.val (.int p1), .val (.int p2), .val (.int p3), .val (.int p4), .val (.int p5), .val (.int (Int32.ofNat n)), .val (.int (Int32.ofNat pa)), .val (.int (Int32.ofNat pb)), .val (.int (Int32.ofNat pd)), .val (.int (Int32.ofNat q)), .unset, .unset] [(.ref b6), (.ref b6)])) _
    refine XS.iload X6.here hx rfl (hb hby at_67) rfl ?_
    show Steps p.tables e below (T6.setTop (mkF m 69 #[.val (.int p1), .val (.int p2), .val (.int p3), .val (.int p4), .val (.int p5), .val (.int (Int32.ofNat n)), .val (.int (Int32.ofNat pa)), .val (.int (Int32.ofNat pb)), .val (.int (Int32.ofNat pd)), .val (.int (Int32.ofNat q)), .unset, .unset] [(.int (Int32.ofNat n)), (.ref b6), (.ref b6)])) _
    refine st7.trans ?_
    show Steps p.tables e below (T7.setTop (mkF m 72 #[.val (.int p1), .val (.int p2), .val (.int p3), .val (.int p4), .val (.int p5), .val (.int (Int32.ofNat n)), .val (.int (Int32.ofNat pa)), .val (.int (Int32.ofNat pb)), .val (.int (Int32.ofNat pd)), .val (.int (Int32.ofNat q)), .unset, .unset] [(.ref b6)])) _
    refine XS.astore X7.here hx rfl (hb hby at_72) rfl rfl (l' := #[.val (.int p1), .val (.int p2), .val (.int p3), .val (.int p4), .val (.int p5), .val (.int (Int32.ofNat n)), .val (.int (Int32.ofNat pa)), .val (.int (Int32.ofNat pb)), .val (.int (Int32.ofNat pd)), .val (.int (Int32.ofNat q)), .val (.ref b6), .unset]) rfl ?_
    show Steps p.tables e below (T7.setTop (mkF m 74 #[.val (.int p1), .val (.int p2), .val (.int p3), .val (.int p4), .val (.int p5), .val (.int (Int32.ofNat n)), .val (.int (Int32.ofNat pa)), .val (.int (Int32.ofNat pb)), .val (.int (Int32.ofNat pd)), .val (.int (Int32.ofNat q)), .val (.ref b6), .unset] [])) _
    refine XS.aload X7.here hx rfl (hb hby at_74) rfl rfl ?_
    show Steps p.tables e below (T7.setTop (mkF m 76 #[.val (.int p1), .val (.int p2), .val (.int p3), .val (.int p4), .val (.int p5), .val (.int (Int32.ofNat n)), .val (.int (Int32.ofNat pa)), .val (.int (Int32.ofNat pb)), .val (.int (Int32.ofNat pd)), .val (.int (Int32.ofNat q)), .val (.ref b6), .unset] [(.ref b6)])) _
    refine XS.iload X7.here hx rfl (hb hby at_76) rfl ?_
    show Steps p.tables e below (T7.setTop (mkF m 78 #[.val (.int p1), .val (.int p2), .val (.int p3), .val (.int p4), .val (.int p5), .val (.int (Int32.ofNat n)), .val (.int (Int32.ofNat pa)), .val (.int (Int32.ofNat pb)), .val (.int (Int32.ofNat pd)), .val (.int (Int32.ofNat q)), .val (.ref b6), .unset] [(.int (Int32.ofNat pa)), (.ref b6)])) _
    refine XS.iloadN X7.here hx rfl (hb hby at_78) rfl ?_
    show Steps p.tables e below (T7.setTop (mkF m 79 #[.val (.int p1), .val (.int p2), .val (.int p3), .val (.int p4), .val (.int p5), .val (.int (Int32.ofNat n)), .val (.int (Int32.ofNat pa)), .val (.int (Int32.ofNat pb)), .val (.int (Int32.ofNat pd)), .val (.int (Int32.ofNat q)), .val (.ref b6), .unset] [(.int p2), (.int (Int32.ofNat pa)), (.ref b6)])) _
    refine st8.trans ?_
    show Steps p.tables e below (T8.setTop (mkF m 82 #[.val (.int p1), .val (.int p2), .val (.int p3), .val (.int p4), .val (.int p5), .val (.int (Int32.ofNat n)), .val (.int (Int32.ofNat pa)), .val (.int (Int32.ofNat pb)), .val (.int (Int32.ofNat pd)), .val (.int (Int32.ofNat q)), .val (.ref b6), .unset] [])) _
    refine XS.aload X8.here hx rfl (hb hby at_82) rfl rfl ?_
    show Steps p.tables e below (T8.setTop (mkF m 84 #[.val (.int p1), .val (.int p2), .val (.int p3), .val (.int p4), .val (.int p5), .val (.int (Int32.ofNat n)), .val (.int (Int32.ofNat pa)), .val (.int (Int32.ofNat pb)), .val (.int (Int32.ofNat pd)), .val (.int (Int32.ofNat q)), .val (.ref b6), .unset] [(.ref b6)])) _
    refine XS.iload X8.here hx rfl (hb hby at_84) rfl ?_
    show Steps p.tables e below (T8.setTop (mkF m 86 #[.val (.int p1), .val (.int p2), .val (.int p3), .val (.int p4), .val (.int p5), .val (.int (Int32.ofNat n)), .val (.int (Int32.ofNat pa)), .val (.int (Int32.ofNat pb)), .val (.int (Int32.ofNat pd)), .val (.int (Int32.ofNat q)), .val (.ref b6), .unset] [(.int (Int32.ofNat pb)), (.ref b6)])) _
    refine XS.iloadN X8.here hx rfl (hb hby at_86) rfl ?_
    show Steps p.tables e below (T8.setTop (mkF m 87 #[.val (.int p1), .val (.int p2), .val (.int p3), .val (.int p4), .val (.int p5), .val (.int (Int32.ofNat n)), .val (.int (Int32.ofNat pa)), .val (.int (Int32.ofNat pb)), .val (.int (Int32.ofNat pd)), .val (.int (Int32.ofNat q)), .val (.ref b6), .unset] [(.int p3), (.int (Int32.ofNat pb)), (.ref b6)])) _
    refine st9.trans ?_
    show Steps p.tables e below (T9.setTop (mkF m 90 #[.val (.int p1), .val (.int p2), .val (.int p3), .val (.int p4), .val (.int p5), .val (.int (Int32.ofNat n)), .val (.int (Int32.ofNat pa)), .val (.int (Int32.ofNat pb)), .val (.int (Int32.ofNat pd)), .val (.int (Int32.ofNat q)), .val (.ref b6), .unset] [])) _
    refine XS.aload X9.here hx rfl (hb hby at_90) rfl rfl ?_
    show Steps p.tables e below (T9.setTop (mkF m 92 #[.val (.int p1), .val (.int p2), .val (.int p3), .val (.int p4), .val (.int p5), .val (.int (Int32.ofNat n)), .val (.int (Int32.ofNat pa)), .val (.int (Int32.ofNat pb)), .val (.int (Int32.ofNat pd)), .val (.int (Int32.ofNat q)), .val (.ref b6), .unset] [(.ref b6)])) _
    refine XS.iload X9.here hx rfl (hb hby at_92) rfl ?_
    show Steps p.tables e below (T9.setTop (mkF m 94 #[.val (.int p1), .val (.int p2), .val (.int p3), .val (.int p4), .val (.int p5), .val (.int (Int32.ofNat n)), .val (.int (Int32.ofNat pa)), .val (.int (Int32.ofNat pb)), .val (.int (Int32.ofNat pd)), .val (.int (Int32.ofNat q)), .val (.ref b6), .unset] [(.int (Int32.ofNat pd)), (.ref b6)])) _
    refine XS.iloadN X9.here hx rfl (hb hby at_94) rfl ?_
    show Steps p.tables e below (T9.setTop (mkF m 95 #[.val (.int p1), .val (.int p2), .val (.int p3), .val (.int p4), .val (.int p5), .val (.int (Int32.ofNat n)), .val (.int (Int32.ofNat pa)), .val (.int (Int32.ofNat pb)), .val (.int (Int32.ofNat pd)), .val (.int (Int32.ofNat q)), .val (.ref b6), .unset] [(.int p4), (.int (Int32.ofNat pd)), (.ref b6)])) _
    refine st10.trans ?_
    show Steps p.tables e below (T10.setTop (mkF m 98 #[.val (.int p1), .val (.int p2), .val (.int p3), .val (.int p4), .val (.int p5), .val (.int (Int32.ofNat n)), .val (.int (Int32.ofNat pa)), .val (.int (Int32.ofNat pb)), .val (.int (Int32.ofNat pd)), .val (.int (Int32.ofNat q)), .val (.ref b6), .unset] [])) _
    refine XS.iconst X10.here hx rfl (hb hby at_98) ?_
    show Steps p.tables e below (T10.setTop (mkF m 99 #[.val (.int p1), .val (.int p2), .val (.int p3), .val (.int p4), .val (.int p5), .val (.int (Int32.ofNat n)), .val (.int (Int32.ofNat pa)), .val (.int (Int32.ofNat pb)), .val (.int (Int32.ofNat pd)), .val (.int (Int32.ofNat q)), .val (.ref b6), .unset] [(.int (0 : Int32))])) _
    refine XS.istore X10.here hx rfl (hb hby at_99) rfl (l' := #[.val (.int p1), .val (.int p2), .val (.int p3), .val (.int p4), .val (.int p5), .val (.int (Int32.ofNat n)), .val (.int (Int32.ofNat pa)), .val (.int (Int32.ofNat pb)), .val (.int (Int32.ofNat pd)), .val (.int (Int32.ofNat q)), .val (.ref b6), .val (.int (0 : Int32))]) rfl ?_
    show Steps p.tables e below (T10.setTop (mkF m 101 #[.val (.int p1), .val (.int p2), .val (.int p3), .val (.int p4), .val (.int p5), .val (.int (Int32.ofNat n)), .val (.int (Int32.ofNat pa)), .val (.int (Int32.ofNat pb)), .val (.int (Int32.ofNat pd)), .val (.int (Int32.ofNat q)), .val (.ref b6), .val (.int (0 : Int32))] [])) _
    refine XS.iload X10.here hx rfl (hb hby at_101) rfl ?_
    show Steps p.tables e below (T10.setTop (mkF m 103 #[.val (.int p1), .val (.int p2), .val (.int p3), .val (.int p4), .val (.int p5), .val (.int (Int32.ofNat n)), .val (.int (Int32.ofNat pa)), .val (.int (Int32.ofNat pb)), .val (.int (Int32.ofNat pd)), .val (.int (Int32.ofNat q)), .val (.ref b6), .val (.int (0 : Int32))] [(.int (Int32.ofNat pa))])) _
    refine XS.iload X10.here hx rfl (hb hby at_103) rfl ?_
    show Steps p.tables e below (T10.setTop (mkF m 105 #[.val (.int p1), .val (.int p2), .val (.int p3), .val (.int p4), .val (.int p5), .val (.int (Int32.ofNat n)), .val (.int (Int32.ofNat pa)), .val (.int (Int32.ofNat pb)), .val (.int (Int32.ofNat pd)), .val (.int (Int32.ofNat q)), .val (.ref b6), .val (.int (0 : Int32))] [(.int (Int32.ofNat q)), (.int (Int32.ofNat pa))])) _
    refine XS.icmpYes X10.here hx rfl (pc0 := 105) (pc' := 114) rfl (hb hby at_105) rfl (flt hc105).2.1 (by decide) (by decide) ?_
    show Steps p.tables e below (T10.setTop (mkF m 114 #[.val (.int p1), .val (.int p2), .val (.int p3), .val (.int p4), .val (.int p5), .val (.int (Int32.ofNat n)), .val (.int (Int32.ofNat pa)), .val (.int (Int32.ofNat pb)), .val (.int (Int32.ofNat pd)), .val (.int (Int32.ofNat q)), .val (.ref b6), .val (.int (0 : Int32))] [])) _
    refine XS.iload X10.here hx rfl (hb hby at_114) rfl ?_
    show Steps p.tables e below (T10.setTop (mkF m 116 #[.val (.int p1), .val (.int p2), .val (.int p3), .val (.int p4), .val (.int p5), .val (.int (Int32.ofNat n)), .val (.int (Int32.ofNat pa)), .val (.int (Int32.ofNat pb)), .val (.int (Int32.ofNat pd)), .val (.int (Int32.ofNat q)), .val (.ref b6), .val (.int (0 : Int32))] [(.int (Int32.ofNat pb))])) _
    refine XS.iload X10.here hx rfl (hb hby at_116) rfl ?_
    show Steps p.tables e below (T10.setTop (mkF m 118 #[.val (.int p1), .val (.int p2), .val (.int p3), .val (.int p4), .val (.int p5), .val (.int (Int32.ofNat n)), .val (.int (Int32.ofNat pa)), .val (.int (Int32.ofNat pb)), .val (.int (Int32.ofNat pd)), .val (.int (Int32.ofNat q)), .val (.ref b6), .val (.int (0 : Int32))] [(.int (Int32.ofNat q)), (.int (Int32.ofNat pb))])) _
    refine XS.icmpNo X10.here hx rfl (hb hby at_118) rfl (tlt hc118).2.1 ?_
    show Steps p.tables e below (T10.setTop (mkF m 121 #[.val (.int p1), .val (.int p2), .val (.int p3), .val (.int p4), .val (.int p5), .val (.int (Int32.ofNat n)), .val (.int (Int32.ofNat pa)), .val (.int (Int32.ofNat pb)), .val (.int (Int32.ofNat pd)), .val (.int (Int32.ofNat q)), .val (.ref b6), .val (.int (0 : Int32))] [])) _
    refine XS.iload X10.here hx rfl (hb hby at_121) rfl ?_
    show Steps p.tables e below (T10.setTop (mkF m 123 #[.val (.int p1), .val (.int p2), .val (.int p3), .val (.int p4), .val (.int p5), .val (.int (Int32.ofNat n)), .val (.int (Int32.ofNat pa)), .val (.int (Int32.ofNat pb)), .val (.int (Int32.ofNat pd)), .val (.int (Int32.ofNat q)), .val (.ref b6), .val (.int (0 : Int32))] [(.int (0 : Int32))])) _
    refine XS.iloadN X10.here hx rfl (hb hby at_123) rfl ?_
    show Steps p.tables e below (T10.setTop (mkF m 124 #[.val (.int p1), .val (.int p2), .val (.int p3), .val (.int p4), .val (.int p5), .val (.int (Int32.ofNat n)), .val (.int (Int32.ofNat pa)), .val (.int (Int32.ofNat pb)), .val (.int (Int32.ofNat pd)), .val (.int (Int32.ofNat q)), .val (.ref b6), .val (.int (0 : Int32))] [(.int p3), (.int (0 : Int32))])) _
    refine XS.iadd X10.here hx rfl (hb hby at_124) rfl ?_
    show Steps p.tables e below (T10.setTop (mkF m 125 #[.val (.int p1), .val (.int p2), .val (.int p3), .val (.int p4), .val (.int p5), .val (.int (Int32.ofNat n)), .val (.int (Int32.ofNat pa)), .val (.int (Int32.ofNat pb)), .val (.int (Int32.ofNat pd)), .val (.int (Int32.ofNat q)), .val (.ref b6), .val (.int (0 : Int32))] [(.int ((0 : Int32) + p3))])) _
    refine XS.istore X10.here hx rfl (hb hby at_125) rfl (l' := #[.val (.int p1), .val (.int p2), .val (.int p3), .val (.int p4), .val (.int p5), .val (.int (Int32.ofNat n)), .val (.int (Int32.ofNat pa)), .val (.int (Int32.ofNat pb)), .val (.int (Int32.ofNat pd)), .val (.int (Int32.ofNat q)), .val (.ref b6), .val (.int ((0 : Int32) + p3))]) rfl ?_
    show Steps p.tables e below (T10.setTop (mkF m 127 #[.val (.int p1), .val (.int p2), .val (.int p3), .val (.int p4), .val (.int p5), .val (.int (Int32.ofNat n)), .val (.int (Int32.ofNat pa)), .val (.int (Int32.ofNat pb)), .val (.int (Int32.ofNat pd)), .val (.int (Int32.ofNat q)), .val (.ref b6), .val (.int ((0 : Int32) + p3))] [])) _
    refine XS.iload X10.here hx rfl (hb hby at_127) rfl ?_
    show Steps p.tables e below (T10.setTop (mkF m 129 #[.val (.int p1), .val (.int p2), .val (.int p3), .val (.int p4), .val (.int p5), .val (.int (Int32.ofNat n)), .val (.int (Int32.ofNat pa)), .val (.int (Int32.ofNat pb)), .val (.int (Int32.ofNat pd)), .val (.int (Int32.ofNat q)), .val (.ref b6), .val (.int ((0 : Int32) + p3))] [(.int (Int32.ofNat pd))])) _
    refine XS.iload X10.here hx rfl (hb hby at_129) rfl ?_
    show Steps p.tables e below (T10.setTop (mkF m 131 #[.val (.int p1), .val (.int p2), .val (.int p3), .val (.int p4), .val (.int p5), .val (.int (Int32.ofNat n)), .val (.int (Int32.ofNat pa)), .val (.int (Int32.ofNat pb)), .val (.int (Int32.ofNat pd)), .val (.int (Int32.ofNat q)), .val (.ref b6), .val (.int ((0 : Int32) + p3))] [(.int (Int32.ofNat q)), (.int (Int32.ofNat pd))])) _
    refine XS.icmpYes X10.here hx rfl (pc0 := 131) (pc' := 140) rfl (hb hby at_131) rfl (flt hc131).2.1 (by decide) (by decide) ?_
    show Steps p.tables e below (T10.setTop (mkF m 140 #[.val (.int p1), .val (.int p2), .val (.int p3), .val (.int p4), .val (.int p5), .val (.int (Int32.ofNat n)), .val (.int (Int32.ofNat pa)), .val (.int (Int32.ofNat pb)), .val (.int (Int32.ofNat pd)), .val (.int (Int32.ofNat q)), .val (.ref b6), .val (.int ((0 : Int32) + p3))] [])) _
    refine XS.aload X10.here hx rfl (hb hby at_140) rfl rfl ?_
    show Steps p.tables e below (T10.setTop (mkF m 142 #[.val (.int p1), .val (.int p2), .val (.int p3), .val (.int p4), .val (.int p5), .val (.int (Int32.ofNat n)), .val (.int (Int32.ofNat pa)), .val (.int (Int32.ofNat pb)), .val (.int (Int32.ofNat pd)), .val (.int (Int32.ofNat q)), .val (.ref b6), .val (.int ((0 : Int32) + p3))] [(.ref b6)])) _
    refine XS.iload X10.here hx rfl (hb hby at_142) rfl ?_
    show Steps p.tables e below (T10.setTop (mkF m 144 #[.val (.int p1), .val (.int p2), .val (.int p3), .val (.int p4), .val (.int p5), .val (.int (Int32.ofNat n)), .val (.int (Int32.ofNat pa)), .val (.int (Int32.ofNat pb)), .val (.int (Int32.ofNat pd)), .val (.int (Int32.ofNat q)), .val (.ref b6), .val (.int ((0 : Int32) + p3))] [(.int (Int32.ofNat q)), (.ref b6)])) _
    refine st11.trans ?_
    show Steps p.tables e below (T11.setTop (mkF m 147 #[.val (.int p1), .val (.int p2), .val (.int p3), .val (.int p4), .val (.int p5), .val (.int (Int32.ofNat n)), .val (.int (Int32.ofNat pa)), .val (.int (Int32.ofNat pb)), .val (.int (Int32.ofNat pd)), .val (.int (Int32.ofNat q)), .val (.ref b6), .val (.int ((0 : Int32) + p3))] [(.int (own_sum (own_down 6 q) (own_adds (own_up 6 (n + 1) (pd + 1)) p4 (own_adds (own_up 6 (n + 1) (pb + 1)) p3 (own_adds (own_up 6 (n + 1) (pa + 1)) p2 (fun _ => 0)))) 0))])) _
    refine XS.iload X11.here hx rfl (hb hby at_147) rfl ?_
    show Steps p.tables e below (T11.setTop (mkF m 149 #[.val (.int p1), .val (.int p2), .val (.int p3), .val (.int p4), .val (.int p5), .val (.int (Int32.ofNat n)), .val (.int (Int32.ofNat pa)), .val (.int (Int32.ofNat pb)), .val (.int (Int32.ofNat pd)), .val (.int (Int32.ofNat q)), .val (.ref b6), .val (.int ((0 : Int32) + p3))] [(.int ((0 : Int32) + p3)), (.int (own_sum (own_down 6 q) (own_adds (own_up 6 (n + 1) (pd + 1)) p4 (own_adds (own_up 6 (n + 1) (pb + 1)) p3 (own_adds (own_up 6 (n + 1) (pa + 1)) p2 (fun _ => 0)))) 0))])) _
    refine XS.icmpNo X11.here hx rfl (hb hby at_149) rfl (teq (own_ok : (own_sum (own_down 6 q) (own_adds (own_up 6 (n + 1) (pd + 1)) p4 (own_adds (own_up 6 (n + 1) (pb + 1)) p3 (own_adds (own_up 6 (n + 1) (pa + 1)) p2 (fun _ => 0)))) 0) = ((0 : Int32) + p3))).2 ?_
    show Steps p.tables e below (T11.setTop (mkF m 152 #[.val (.int p1), .val (.int p2), .val (.int p3), .val (.int p4), .val (.int p5), .val (.int (Int32.ofNat n)), .val (.int (Int32.ofNat pa)), .val (.int (Int32.ofNat pb)), .val (.int (Int32.ofNat pd)), .val (.int (Int32.ofNat q)), .val (.ref b6), .val (.int ((0 : Int32) + p3))] [])) _
    refine XS.iconst X11.here hx rfl (hb hby at_152) ?_
    show Steps p.tables e below (T11.setTop (mkF m 153 #[.val (.int p1), .val (.int p2), .val (.int p3), .val (.int p4), .val (.int p5), .val (.int (Int32.ofNat n)), .val (.int (Int32.ofNat pa)), .val (.int (Int32.ofNat pb)), .val (.int (Int32.ofNat pd)), .val (.int (Int32.ofNat q)), .val (.ref b6), .val (.int ((0 : Int32) + p3))] [(.int (1 : Int32))])) _
    refine XS.goto X11.here hx rfl (pc0 := 153) (pc' := 157) rfl (hb hby at_153) (by decide) (by decide) ?_
    show Steps p.tables e below (T11.setTop (mkF m 157 #[.val (.int p1), .val (.int p2), .val (.int p3), .val (.int p4), .val (.int p5), .val (.int (Int32.ofNat n)), .val (.int (Int32.ofNat pa)), .val (.int (Int32.ofNat pb)), .val (.int (Int32.ofNat pd)), .val (.int (Int32.ofNat q)), .val (.ref b6), .val (.int ((0 : Int32) + p3))] [(.int (1 : Int32))])) _
    exact retN X11 hx (t := .boolean) Bd.returns (by simp) (hb hby at_157) hr
  · show Q0_tftf Z p1 p2 p3 p4 p5 h0 n0 _ T11.heap _
    exact ⟨rfl, N11⟩
def Q0_ttff (Z : State) (p1 : Int32) (p2 : Int32) (p3 : Int32) (p4 : Int32) (p5 : Int32) (h0 : Heap) (n0 : Nat) (v : Option Value) (h : Heap) (L : List Loc) : Prop := v = some (.int (1 : Int32)) ∧ Fr n0 L
set_option maxRecDepth 65536 in
set_option maxHeartbeats 40000000 in
theorem rm0_ttff (l : Launch) (Z : State) (a0 : Array Value) (hw : ∀ d ∈ tables_1, d.before a0 Z = true) (ws : List Jvm.Cond) (p1 : Int32) (p2 : Int32) (p3 : Int32) (p4 : Int32) (p5 : Int32) (n pa pb pd q : Nat) (h0 : Heap) (n0 : Nat) (Z0 : n0 ≤ h0.size) (hn : n ≤ 16) (hpa : pa < n) (hpb : pb < n) (hpd : pd < n) (hq : q ≤ n) (hp9 : (((p1 &&& (255 : Int32)) % (12 : Int32)) + (1 : Int32)) = (Int32.ofNat n)) (hp22 : ((((p1.toUInt32 >>> ((8 : Int32) &&& 31).toUInt32).toInt32) &&& (255 : Int32)) % (Int32.ofNat n)) = (Int32.ofNat pa)) (hp35 : ((((p1.toUInt32 >>> ((16 : Int32) &&& 31).toUInt32).toInt32) &&& (255 : Int32)) % (Int32.ofNat n)) = (Int32.ofNat pb)) (hp48 : ((((p1.toUInt32 >>> ((24 : Int32) &&& 31).toUInt32).toInt32) &&& (255 : Int32)) % (Int32.ofNat n)) = (Int32.ofNat pd)) (hp60 : ((p5 &&& (2147483647 : Int32)) % ((Int32.ofNat n) + (1 : Int32))) = (Int32.ofNat q)) (hc105 : ¬ ((Int32.ofNat pa) < (Int32.ofNat q))) (hc118 : ¬ ((Int32.ofNat pb) < (Int32.ofNat q))) (hc131 : (Int32.ofNat pd) < (Int32.ofNat q)) :
    MetFree l x (head1 (Jvm.Cond.code x code maxLocals ret :: ws) room_1) (fun a U => a = #[(.int p1), (.int p2), (.int p3), (.int p4), (.int p5)] ∧ Z.Warmed39 U.vm ∧ U.heap = h0) (fun _ _ _ _ _ => True) (fun _ U o U' => ∃ v L, o = .returned v ∧ Q0_ttff Z p1 p2 p3 p4 p5 h0 n0 v U'.heap L ∧ FrameEnd U o U' L room_1.cells room_1.slots) := by
  refine MetFree.of_bodySF (plainFor_of_name pn_0) hisR ?_
  intro p e s m args below meth c s₁ Bd hml0 hP hK
  obtain ⟨rfl, hZ, hh⟩ := hP
  have hnz22 : Int32.ofNat n ≠ (0 : Int32) := own_nz (by omega) (by omega)
  have hnz35 := hnz22
  have hnz48 := hnz22
  have hnz60 : Int32.ofNat n + (1 : Int32) ≠ (0 : Int32) := by rw [own_one]; exact own_nz (by omega) (by omega)
  have hx := Bd.exec
  have hby := Bd.bytes
  have hml : c.maxLocals = 12 := hml0
  have hown : s.vm.findClass "com/example/tallykeep/tallykeep/core/PrefixCountsBelowPinLaw" = some m.cls := findClass_of_methodNamed Bd.named
  have hnm := (name_of_methodNamed Bd.named Bd.method).1
  have X0 : Stand p l e room_1 s m #[(.int p1), (.int p2), (.int p3), (.int p4), (.int p5)] below meth c s₁ [] 0 0 := Stand.of_body Bd
  have e0 : s₁.heap = h0 := by rw [← hh, Bd.state]; rfl
  have N0 := Fr.nil n0
  have pre0 : ∀ t, Steps p.tables e below (s₁.setTop (mkF m 0 #[.val (.int p1), .val (.int p2), .val (.int p3), .val (.int p4), .val (.int p5), .unset, .unset, .unset, .unset, .unset, .unset, .unset] [])) t → Steps p.tables e below (s₁.setTop (entryFrame m #[(.int p1), (.int p2), (.int p3), (.int p4), (.int p5)] maxLocals)) t := fun t k => castTop (ef_0 m p1 p2 p3 p4 p5) k
  obtain ⟨T6, h6, X6, e6, E6, A6, D6, -, st6⟩ := newO X0 hx hZ hown (hw _ (List.mem_of_getElem? (i := 1) rfl)) (hw _ (List.mem_of_getElem? (i := 2) rfl)) (hw _ (List.mem_of_getElem? (i := 3) rfl)) e0 (g := (mkF m 63 #[.val (.int p1), .val (.int p2), .val (.int p3), .val (.int p4), .val (.int p5), .val (.int (Int32.ofNat n)), .val (.int (Int32.ofNat pa)), .val (.int (Int32.ofNat pb)), .val (.int (Int32.ofNat pd)), .val (.int (Int32.ofNat q)), .unset, .unset] [])) rfl (hb hby at_63) (by decide) (by decide)
  obtain ⟨b6, g6⟩ : ∃ z, z = h0.size := ⟨_, rfl⟩
  rw [← g6] at A6 D6 st6
  have F_cells_b6 : Fld Z h6 b6 "com/example/tallykeep/tallykeep/core/PrefixCounts" "cells" "[I" .null := D6 (Or.inr (hw _ (List.mem_of_getElem? (i := 12) rfl))) (ty := (.array .int)) (by decide)
  have E_b6 := A6
  have g_b6 : n0 ≤ b6 := Nat.le_trans Z0 (Nat.le_of_eq g6.symm)
  have sz_b6 : h0.size ≤ b6 := (Nat.le_trans (Keep.refl h0 []).1 (Nat.le_of_eq g6.symm))
  have K6 : Keep h0 h6 [] := (Keep.refl h0 []).ext E6
  obtain ⟨_, _, ⟨T7, L7, k7, n7⟩, -, X7, ⟨Lc7, hQ7, l7, y7, z7⟩, st7⟩ := X6.specialBack hx (y := (⟨"com/example/tallykeep/tallykeep/core/PrefixCounts", "<init>", "(I)V"⟩ : MethodName)) rfl hown (mvT hZ (hw _ (List.mem_of_getElem? (i := 4) rfl))) (mvT hZ (hw _ (List.mem_of_getElem? (i := 5) rfl))) (mvT hZ (hw _ (List.mem_of_getElem? (i := 6) rfl))) (by decide) (backOf (W := 1) (rm1 l Z a0 hw [] b6 n .null h6 n0 (Nat.le_trans Z0 K6.1) E_b6 F_cells_b6 g_b6 hn) hZ (hw _ (List.mem_of_getElem? (i := 6) rfl)) (hw _ (List.mem_of_getElem? (i := 3) rfl)) (by decide) (by decide)) (g := (mkF m 69 #[.val (.int p1), .val (.int p2), .val (.int p3), .val (.int p4), .val (.int p5), .val (.int (Int32.ofNat n)), .val (.int (Int32.ofNat pa)), .val (.int (Int32.ofNat pb)), .val (.int (Int32.ofNat pd)), .val (.int (Int32.ofNat q)), .unset, .unset] [(.int (Int32.ofNat n)), (.ref b6), (.ref b6)])) rfl (by rw [hml]; rfl) (Steps.refl _) (a := b6) (argsL := [(.int (Int32.ofNat n))]) (rest := [(.ref b6)]) (lenOf pd_0_0 rfl) rfl (by show 2 * 0 + _ ≤ _; exact Nat.le_of_eq rfl) (hb hby at_69) (fun _ _ => ⟨rfl, e6, (Nat.le_of_ble_eq_true rfl), (Nat.le_of_ble_eq_true rfl)⟩)
  dsimp only [Pt.U, Pt.locs, Pt.cells, Pt.slots] at X7 l7 y7 z7 st7 hQ7
  subst l7 y7 z7
  obtain ⟨rfl, N7q, K7c, E7c, bC, szC, FC, VC⟩ := hQ7
  have g_bC : n0 ≤ bC := Nat.le_trans (Nat.le_trans Z0 K6.1) szC
  have ne_oC : b6 ≠ bC := Nat.ne_of_lt (Nat.lt_of_lt_of_le E_b6.lt szC)
  have Z7 : n0 ≤ T7.heap.size := Nat.le_trans (Nat.le_trans Z0 K6.1) K7c.1
  have N7 := Fr.app N0 N7q
  obtain ⟨cq8, kq8, q8a, q8b, q8c⟩ := isOf hZ rfl (E_b6.keep K7c)
  obtain ⟨_, _, ⟨T8, L8, k8, n8⟩, -, X8, ⟨Lc8, hQ8, l8, y8, z8⟩, st8⟩ := X7.virtualBack hx (y := (⟨"com/example/tallykeep/tallykeep/core/PrefixCounts", "add", "(II)V"⟩ : MethodName)) (z := (⟨"com/example/tallykeep/tallykeep/core/PrefixCounts", "add", "(II)V"⟩ : MethodName)) hown (mvT hZ (hw _ (List.mem_of_getElem? (i := 13) rfl))) (mvT hZ (hw _ (List.mem_of_getElem? (i := 14) rfl))) (notFace_of_selects (args := #[]) (mvT hZ (hw _ (List.mem_of_getElem? (i := 16) rfl)))) (mvT hZ (hw _ (List.mem_of_getElem? (i := 16) rfl))) (mvT hZ (hw _ (List.mem_of_getElem? (i := 15) rfl))) (by decide) (backOf (W := 0) (rm3 l Z a0 hw [] b6 pa p2 bC (n + 1) _ T7.heap n0 Z7 FC VC (by omega) (by omega) g_bC ne_oC) hZ (hw _ (List.mem_of_getElem? (i := 17) rfl)) (hw _ (List.mem_of_getElem? (i := 3) rfl)) (by decide) (by decide)) q8a q8c (g := (mkF m 79 #[.val (.int p1), .val (.int p2), .val (.int p3), .val (.int p4), .val (.int p5), .val (.int (Int32.ofNat n)), .val (.int (Int32.ofNat pa)), .val (.int (Int32.ofNat pb)), .val (.int (Int32.ofNat pd)), .val (.int (Int32.ofNat q)), .val (.ref b6), .unset] [(.int p2), (.int (Int32.ofNat pa)), (.ref b6)])) rfl (by rw [hml]; rfl) (Steps.refl _) (argsL := [(.int (Int32.ofNat pa)), (.int p2)]) (rest := []) (lenOf pd_0_2 rfl) rfl (by show 2 * 0 + _ ≤ _; exact Nat.le_of_eq rfl) (hb hby at_79) (fun _ _ => ⟨rfl, rfl, (Nat.le_of_ble_eq_true rfl), (Nat.le_of_ble_eq_true rfl)⟩)
  dsimp only [Pt.U, Pt.locs, Pt.cells, Pt.slots] at X8 l8 y8 z8 st8 hQ8
  subst l8 y8 z8
  obtain ⟨rfl, N8q, K8c, V8c⟩ := hQ8
  have F8c := FC.keep K8c (ninS ne_oC nin0)
  have Z8 : n0 ≤ T8.heap.size := Nat.le_trans Z7 K8c.1
  have N8 := Fr.app N7 N8q
  obtain ⟨cq9, kq9, q9a, q9b, q9c⟩ := isOf hZ rfl ((E_b6.keep K7c).keep K8c)
  obtain ⟨_, _, ⟨T9, L9, k9, n9⟩, -, X9, ⟨Lc9, hQ9, l9, y9, z9⟩, st9⟩ := X8.virtualBack hx (y := (⟨"com/example/tallykeep/tallykeep/core/PrefixCounts", "add", "(II)V"⟩ : MethodName)) (z := (⟨"com/example/tallykeep/tallykeep/core/PrefixCounts", "add", "(II)V"⟩ : MethodName)) hown (mvT hZ (hw _ (List.mem_of_getElem? (i := 13) rfl))) (mvT hZ (hw _ (List.mem_of_getElem? (i := 14) rfl))) (notFace_of_selects (args := #[]) (mvT hZ (hw _ (List.mem_of_getElem? (i := 16) rfl)))) (mvT hZ (hw _ (List.mem_of_getElem? (i := 16) rfl))) (mvT hZ (hw _ (List.mem_of_getElem? (i := 15) rfl))) (by decide) (backOf (W := 0) (rm3 l Z a0 hw [] b6 pb p3 bC (n + 1) _ T8.heap n0 Z8 F8c V8c (by omega) (by omega) g_bC ne_oC) hZ (hw _ (List.mem_of_getElem? (i := 17) rfl)) (hw _ (List.mem_of_getElem? (i := 3) rfl)) (by decide) (by decide)) q9a q9c (g := (mkF m 87 #[.val (.int p1), .val (.int p2), .val (.int p3), .val (.int p4), .val (.int p5), .val (.int (Int32.ofNat n)), .val (.int (Int32.ofNat pa)), .val (.int (Int32.ofNat pb)), .val (.int (Int32.ofNat pd)), .val (.int (Int32.ofNat q)), .val (.ref b6), .unset] [(.int p3), (.int (Int32.ofNat pb)), (.ref b6)])) rfl (by rw [hml]; rfl) (Steps.refl _) (argsL := [(.int (Int32.ofNat pb)), (.int p3)]) (rest := []) (lenOf pd_0_2 rfl) rfl (by show 2 * 0 + _ ≤ _; exact Nat.le_of_eq rfl) (hb hby at_87) (fun _ _ => ⟨rfl, rfl, (Nat.le_of_ble_eq_true rfl), (Nat.le_of_ble_eq_true rfl)⟩)
  dsimp only [Pt.U, Pt.locs, Pt.cells, Pt.slots] at X9 l9 y9 z9 st9 hQ9
  subst l9 y9 z9
  obtain ⟨rfl, N9q, K9c, V9c⟩ := hQ9
  have F9c := F8c.keep K9c (ninS ne_oC nin0)
  have Z9 : n0 ≤ T9.heap.size := Nat.le_trans Z8 K9c.1
  have N9 := Fr.app N8 N9q
  obtain ⟨cq10, kq10, q10a, q10b, q10c⟩ := isOf hZ rfl (((E_b6.keep K7c).keep K8c).keep K9c)
  obtain ⟨_, _, ⟨T10, L10, k10, n10⟩, -, X10, ⟨Lc10, hQ10, l10, y10, z10⟩, st10⟩ := X9.virtualBack hx (y := (⟨"com/example/tallykeep/tallykeep/core/PrefixCounts", "add", "(II)V"⟩ : MethodName)) (z := (⟨"com/example/tallykeep/tallykeep/core/PrefixCounts", "add", "(II)V"⟩ : MethodName)) hown (mvT hZ (hw _ (List.mem_of_getElem? (i := 13) rfl))) (mvT hZ (hw _ (List.mem_of_getElem? (i := 14) rfl))) (notFace_of_selects (args := #[]) (mvT hZ (hw _ (List.mem_of_getElem? (i := 16) rfl)))) (mvT hZ (hw _ (List.mem_of_getElem? (i := 16) rfl))) (mvT hZ (hw _ (List.mem_of_getElem? (i := 15) rfl))) (by decide) (backOf (W := 0) (rm3 l Z a0 hw [] b6 pd p4 bC (n + 1) _ T9.heap n0 Z9 F9c V9c (by omega) (by omega) g_bC ne_oC) hZ (hw _ (List.mem_of_getElem? (i := 17) rfl)) (hw _ (List.mem_of_getElem? (i := 3) rfl)) (by decide) (by decide)) q10a q10c (g := (mkF m 95 #[.val (.int p1), .val (.int p2), .val (.int p3), .val (.int p4), .val (.int p5), .val (.int (Int32.ofNat n)), .val (.int (Int32.ofNat pa)), .val (.int (Int32.ofNat pb)), .val (.int (Int32.ofNat pd)), .val (.int (Int32.ofNat q)), .val (.ref b6), .unset] [(.int p4), (.int (Int32.ofNat pd)), (.ref b6)])) rfl (by rw [hml]; rfl) (Steps.refl _) (argsL := [(.int (Int32.ofNat pd)), (.int p4)]) (rest := []) (lenOf pd_0_2 rfl) rfl (by show 2 * 0 + _ ≤ _; exact Nat.le_of_eq rfl) (hb hby at_95) (fun _ _ => ⟨rfl, rfl, (Nat.le_of_ble_eq_true rfl), (Nat.le_of_ble_eq_true rfl)⟩)
  dsimp only [Pt.U, Pt.locs, Pt.cells, Pt.slots] at X10 l10 y10 z10 st10 hQ10
  subst l10 y10 z10
  obtain ⟨rfl, N10q, K10c, V10c⟩ := hQ10
  have F10c := F9c.keep K10c (ninS ne_oC nin0)
  have Z10 : n0 ≤ T10.heap.size := Nat.le_trans Z9 K10c.1
  have N10 := Fr.app N9 N10q
  obtain ⟨cq11, kq11, q11a, q11b, q11c⟩ := isOf hZ rfl ((((E_b6.keep K7c).keep K8c).keep K9c).keep K10c)
  obtain ⟨_, _, ⟨T11, L11, k11, n11⟩, -, X11, ⟨Lc11, hQ11, l11, y11, z11⟩, st11⟩ := X10.virtualBack hx (y := (⟨"com/example/tallykeep/tallykeep/core/PrefixCounts", "below", "(I)I"⟩ : MethodName)) (z := (⟨"com/example/tallykeep/tallykeep/core/PrefixCounts", "below", "(I)I"⟩ : MethodName)) hown (mvT hZ (hw _ (List.mem_of_getElem? (i := 18) rfl))) (mvT hZ (hw _ (List.mem_of_getElem? (i := 19) rfl))) (notFace_of_selects (args := #[]) (mvT hZ (hw _ (List.mem_of_getElem? (i := 21) rfl)))) (mvT hZ (hw _ (List.mem_of_getElem? (i := 21) rfl))) (mvT hZ (hw _ (List.mem_of_getElem? (i := 20) rfl))) (by decide) (backOf (W := 0) (rm4 l Z a0 hw [] b6 q bC (n + 1) _ T10.heap n0 Z10 F10c V10c (by omega) (by omega)) hZ (hw _ (List.mem_of_getElem? (i := 22) rfl)) (hw _ (List.mem_of_getElem? (i := 3) rfl)) (by decide) (by decide)) q11a q11c (g := (mkF m 144 #[.val (.int p1), .val (.int p2), .val (.int p3), .val (.int p4), .val (.int p5), .val (.int (Int32.ofNat n)), .val (.int (Int32.ofNat pa)), .val (.int (Int32.ofNat pb)), .val (.int (Int32.ofNat pd)), .val (.int (Int32.ofNat q)), .val (.ref b6), .val (.int ((0 : Int32) + p4))] [(.int (Int32.ofNat q)), (.ref b6)])) rfl (by rw [hml]; rfl) (Steps.refl _) (argsL := [(.int (Int32.ofNat q))]) (rest := []) (lenOf pd_0_3 rfl) rfl (by show 2 * 0 + _ ≤ _; exact Nat.le_of_eq rfl) (hb hby at_144) (fun _ _ => ⟨rfl, rfl, (Nat.le_of_ble_eq_true rfl), (Nat.le_of_ble_eq_true rfl)⟩)
  dsimp only [Pt.U, Pt.locs, Pt.cells, Pt.slots] at X11 l11 y11 z11 st11 hQ11
  subst l11 y11 z11
  obtain ⟨rfl, N11q, e11⟩ := hQ11
  have N11 := Fr.app N10 N11q
  have own_ok : (own_sum (own_down 6 q) (own_adds (own_up 6 (n + 1) (pd + 1)) p4 (own_adds (own_up 6 (n + 1) (pb + 1)) p3 (own_adds (own_up 6 (n + 1) (pa + 1)) p2 (fun _ => 0)))) 0) = ((0 : Int32) + p4) := by
    rw [own_final3 hn hpa hpb hpd hq]
    rw [if_neg (fun z => hc105 ((own_lt (by omega) (by omega)).mpr z))]
    rw [if_neg (fun z => hc118 ((own_lt (by omega) (by omega)).mpr z))]
    rw [if_pos ((own_lt (by omega) (by omega)).mp hc131)]
    all_goals simp
  obtain ⟨fs, hr, hrun, hended, hW, hsame⟩ := X11.leave (v := some (.int (1 : Int32))) (fun h => by rw [Bd.returns] at h; cases h)
  refine ⟨_, _, pre0 _ ?_, hrun, hended, _, _, rfl, ?_, ⟨_, rfl⟩, hW, hsame.mono (by decide) (by decide)⟩
  · show Steps p.tables e below (s₁.setTop (mkF m 0 #[.val (.int p1), .val (.int p2), .val (.int p3), .val (.int p4), .val (.int p5), .unset, .unset, .unset, .unset, .unset, .unset, .unset] [])) _
    refine XS.iloadN X0.here hx rfl (hb hby at_0) rfl ?_
    show Steps p.tables e below (s₁.setTop (mkF m 1 #[.val (.int p1), .val (.int p2), .val (.int p3), .val (.int p4), .val (.int p5), .unset, .unset, .unset, .unset, .unset, .unset, .unset] [(.int p1)])) _
    refine XS.sipush X0.here hx rfl (hb hby at_1) ?_
    show Steps p.tables e below (s₁.setTop (mkF m 4 #[.val (.int p1), .val (.int p2), .val (.int p3), .val (.int p4), .val (.int p5), .unset, .unset, .unset, .unset, .unset, .unset, .unset] [(.int (255 : Int32)), (.int p1)])) _
    refine XS.iand X0.here hx rfl (hb hby at_4) rfl ?_
    show Steps p.tables e below (s₁.setTop (mkF m 5 #[.val (.int p1), .val (.int p2), .val (.int p3), .val (.int p4), .val (.int p5), .unset, .unset, .unset, .unset, .unset, .unset, .unset] [(.int (p1 &&& (255 : Int32)))])) _
    refine XS.bipush X0.here hx rfl (hb hby at_5) ?_
    show Steps p.tables e below (s₁.setTop (mkF m 7 #[.val (.int p1), .val (.int p2), .val (.int p3), .val (.int p4), .val (.int p5), .unset, .unset, .unset, .unset, .unset, .unset, .unset] [(.int (12 : Int32)), (.int (p1 &&& (255 : Int32)))])) _
    refine iremM X0 hx rfl (hb hby at_7) rfl (by decide) ?_
    show Steps p.tables e below (s₁.setTop (mkF m 8 #[.val (.int p1), .val (.int p2), .val (.int p3), .val (.int p4), .val (.int p5), .unset, .unset, .unset, .unset, .unset, .unset, .unset] [(.int ((p1 &&& (255 : Int32)) % (12 : Int32)))])) _
    refine XS.iconst X0.here hx rfl (hb hby at_8) ?_
    show Steps p.tables e below (s₁.setTop (mkF m 9 #[.val (.int p1), .val (.int p2), .val (.int p3), .val (.int p4), .val (.int p5), .unset, .unset, .unset, .unset, .unset, .unset, .unset] [(.int (1 : Int32)), (.int ((p1 &&& (255 : Int32)) % (12 : Int32)))])) _
    refine XS.iadd X0.here hx rfl (hb hby at_9) rfl ?_
    rw [hp9]
    show Steps p.tables e below (s₁.setTop (mkF m 10 #[.val (.int p1), .val (.int p2), .val (.int p3), .val (.int p4), .val (.int p5), .unset, .unset, .unset, .unset, .unset, .unset, .unset] [(.int (Int32.ofNat n))])) _
    refine XS.istore X0.here hx rfl (hb hby at_10) rfl (l' := #[.val (.int p1), .val (.int p2), .val (.int p3), .val (.int p4), .val (.int p5), .val (.int (Int32.ofNat n)), .unset, .unset, .unset, .unset, .unset, .unset]) rfl ?_
    show Steps p.tables e below (s₁.setTop (mkF m 12 #[.val (.int p1), .val (.int p2), .val (.int p3), .val (.int p4), .val (.int p5), .val (.int (Int32.ofNat n)), .unset, .unset, .unset, .unset, .unset, .unset] [])) _
    refine XS.iloadN X0.here hx rfl (hb hby at_12) rfl ?_
    show Steps p.tables e below (s₁.setTop (mkF m 13 #[.val (.int p1), .val (.int p2), .val (.int p3), .val (.int p4), .val (.int p5), .val (.int (Int32.ofNat n)), .unset, .unset, .unset, .unset, .unset, .unset] [(.int p1)])) _
    refine XS.bipush X0.here hx rfl (hb hby at_13) ?_
    show Steps p.tables e below (s₁.setTop (mkF m 15 #[.val (.int p1), .val (.int p2), .val (.int p3), .val (.int p4), .val (.int p5), .val (.int (Int32.ofNat n)), .unset, .unset, .unset, .unset, .unset, .unset] [(.int (8 : Int32)), (.int p1)])) _
    refine XS.iushr X0.here hx rfl (hb hby at_15) rfl ?_
    show Steps p.tables e below (s₁.setTop (mkF m 16 #[.val (.int p1), .val (.int p2), .val (.int p3), .val (.int p4), .val (.int p5), .val (.int (Int32.ofNat n)), .unset, .unset, .unset, .unset, .unset, .unset] [(.int ((p1.toUInt32 >>> ((8 : Int32) &&& 31).toUInt32).toInt32))])) _
    refine XS.sipush X0.here hx rfl (hb hby at_16) ?_
    show Steps p.tables e below (s₁.setTop (mkF m 19 #[.val (.int p1), .val (.int p2), .val (.int p3), .val (.int p4), .val (.int p5), .val (.int (Int32.ofNat n)), .unset, .unset, .unset, .unset, .unset, .unset] [(.int (255 : Int32)), (.int ((p1.toUInt32 >>> ((8 : Int32) &&& 31).toUInt32).toInt32))])) _
    refine XS.iand X0.here hx rfl (hb hby at_19) rfl ?_
    show Steps p.tables e below (s₁.setTop (mkF m 20 #[.val (.int p1), .val (.int p2), .val (.int p3), .val (.int p4), .val (.int p5), .val (.int (Int32.ofNat n)), .unset, .unset, .unset, .unset, .unset, .unset] [(.int (((p1.toUInt32 >>> ((8 : Int32) &&& 31).toUInt32).toInt32) &&& (255 : Int32)))])) _
    refine XS.iload X0.here hx rfl (hb hby at_20) rfl ?_
    show Steps p.tables e below (s₁.setTop (mkF m 22 #[.val (.int p1), .val (.int p2), .val (.int p3), .val (.int p4), .val (.int p5), .val (.int (Int32.ofNat n)), .unset, .unset, .unset, .unset, .unset, .unset] [(.int (Int32.ofNat n)), (.int (((p1.toUInt32 >>> ((8 : Int32) &&& 31).toUInt32).toInt32) &&& (255 : Int32)))])) _
    refine iremM X0 hx rfl (hb hby at_22) rfl hnz22 ?_
    rw [hp22]
    show Steps p.tables e below (s₁.setTop (mkF m 23 #[.val (.int p1), .val (.int p2), .val (.int p3), .val (.int p4), .val (.int p5), .val (.int (Int32.ofNat n)), .unset, .unset, .unset, .unset, .unset, .unset] [(.int (Int32.ofNat pa))])) _
    refine XS.istore X0.here hx rfl (hb hby at_23) rfl (l' := #[.val (.int p1), .val (.int p2), .val (.int p3), .val (.int p4), .val (.int p5), .val (.int (Int32.ofNat n)), .val (.int (Int32.ofNat pa)), .unset, .unset, .unset, .unset, .unset]) rfl ?_
    show Steps p.tables e below (s₁.setTop (mkF m 25 #[.val (.int p1), .val (.int p2), .val (.int p3), .val (.int p4), .val (.int p5), .val (.int (Int32.ofNat n)), .val (.int (Int32.ofNat pa)), .unset, .unset, .unset, .unset, .unset] [])) _
    refine XS.iloadN X0.here hx rfl (hb hby at_25) rfl ?_
    show Steps p.tables e below (s₁.setTop (mkF m 26 #[.val (.int p1), .val (.int p2), .val (.int p3), .val (.int p4), .val (.int p5), .val (.int (Int32.ofNat n)), .val (.int (Int32.ofNat pa)), .unset, .unset, .unset, .unset, .unset] [(.int p1)])) _
    refine XS.bipush X0.here hx rfl (hb hby at_26) ?_
    show Steps p.tables e below (s₁.setTop (mkF m 28 #[.val (.int p1), .val (.int p2), .val (.int p3), .val (.int p4), .val (.int p5), .val (.int (Int32.ofNat n)), .val (.int (Int32.ofNat pa)), .unset, .unset, .unset, .unset, .unset] [(.int (16 : Int32)), (.int p1)])) _
    refine XS.iushr X0.here hx rfl (hb hby at_28) rfl ?_
    show Steps p.tables e below (s₁.setTop (mkF m 29 #[.val (.int p1), .val (.int p2), .val (.int p3), .val (.int p4), .val (.int p5), .val (.int (Int32.ofNat n)), .val (.int (Int32.ofNat pa)), .unset, .unset, .unset, .unset, .unset] [(.int ((p1.toUInt32 >>> ((16 : Int32) &&& 31).toUInt32).toInt32))])) _
    refine XS.sipush X0.here hx rfl (hb hby at_29) ?_
    show Steps p.tables e below (s₁.setTop (mkF m 32 #[.val (.int p1), .val (.int p2), .val (.int p3), .val (.int p4), .val (.int p5), .val (.int (Int32.ofNat n)), .val (.int (Int32.ofNat pa)), .unset, .unset, .unset, .unset, .unset] [(.int (255 : Int32)), (.int ((p1.toUInt32 >>> ((16 : Int32) &&& 31).toUInt32).toInt32))])) _
    refine XS.iand X0.here hx rfl (hb hby at_32) rfl ?_
    show Steps p.tables e below (s₁.setTop (mkF m 33 #[.val (.int p1), .val (.int p2), .val (.int p3), .val (.int p4), .val (.int p5), .val (.int (Int32.ofNat n)), .val (.int (Int32.ofNat pa)), .unset, .unset, .unset, .unset, .unset] [(.int (((p1.toUInt32 >>> ((16 : Int32) &&& 31).toUInt32).toInt32) &&& (255 : Int32)))])) _
    refine XS.iload X0.here hx rfl (hb hby at_33) rfl ?_
    show Steps p.tables e below (s₁.setTop (mkF m 35 #[.val (.int p1), .val (.int p2), .val (.int p3), .val (.int p4), .val (.int p5), .val (.int (Int32.ofNat n)), .val (.int (Int32.ofNat pa)), .unset, .unset, .unset, .unset, .unset] [(.int (Int32.ofNat n)), (.int (((p1.toUInt32 >>> ((16 : Int32) &&& 31).toUInt32).toInt32) &&& (255 : Int32)))])) _
    refine iremM X0 hx rfl (hb hby at_35) rfl hnz35 ?_
    rw [hp35]
    show Steps p.tables e below (s₁.setTop (mkF m 36 #[.val (.int p1), .val (.int p2), .val (.int p3), .val (.int p4), .val (.int p5), .val (.int (Int32.ofNat n)), .val (.int (Int32.ofNat pa)), .unset, .unset, .unset, .unset, .unset] [(.int (Int32.ofNat pb))])) _
    refine XS.istore X0.here hx rfl (hb hby at_36) rfl (l' := #[.val (.int p1), .val (.int p2), .val (.int p3), .val (.int p4), .val (.int p5), .val (.int (Int32.ofNat n)), .val (.int (Int32.ofNat pa)), .val (.int (Int32.ofNat pb)), .unset, .unset, .unset, .unset]) rfl ?_
    show Steps p.tables e below (s₁.setTop (mkF m 38 #[.val (.int p1), .val (.int p2), .val (.int p3), .val (.int p4), .val (.int p5), .val (.int (Int32.ofNat n)), .val (.int (Int32.ofNat pa)), .val (.int (Int32.ofNat pb)), .unset, .unset, .unset, .unset] [])) _
    refine XS.iloadN X0.here hx rfl (hb hby at_38) rfl ?_
    show Steps p.tables e below (s₁.setTop (mkF m 39 #[.val (.int p1), .val (.int p2), .val (.int p3), .val (.int p4), .val (.int p5), .val (.int (Int32.ofNat n)), .val (.int (Int32.ofNat pa)), .val (.int (Int32.ofNat pb)), .unset, .unset, .unset, .unset] [(.int p1)])) _
    refine XS.bipush X0.here hx rfl (hb hby at_39) ?_
    show Steps p.tables e below (s₁.setTop (mkF m 41 #[.val (.int p1), .val (.int p2), .val (.int p3), .val (.int p4), .val (.int p5), .val (.int (Int32.ofNat n)), .val (.int (Int32.ofNat pa)), .val (.int (Int32.ofNat pb)), .unset, .unset, .unset, .unset] [(.int (24 : Int32)), (.int p1)])) _
    refine XS.iushr X0.here hx rfl (hb hby at_41) rfl ?_
    show Steps p.tables e below (s₁.setTop (mkF m 42 #[.val (.int p1), .val (.int p2), .val (.int p3), .val (.int p4), .val (.int p5), .val (.int (Int32.ofNat n)), .val (.int (Int32.ofNat pa)), .val (.int (Int32.ofNat pb)), .unset, .unset, .unset, .unset] [(.int ((p1.toUInt32 >>> ((24 : Int32) &&& 31).toUInt32).toInt32))])) _
    refine XS.sipush X0.here hx rfl (hb hby at_42) ?_
    show Steps p.tables e below (s₁.setTop (mkF m 45 #[.val (.int p1), .val (.int p2), .val (.int p3), .val (.int p4), .val (.int p5), .val (.int (Int32.ofNat n)), .val (.int (Int32.ofNat pa)), .val (.int (Int32.ofNat pb)), .unset, .unset, .unset, .unset] [(.int (255 : Int32)), (.int ((p1.toUInt32 >>> ((24 : Int32) &&& 31).toUInt32).toInt32))])) _
    refine XS.iand X0.here hx rfl (hb hby at_45) rfl ?_
    show Steps p.tables e below (s₁.setTop (mkF m 46 #[.val (.int p1), .val (.int p2), .val (.int p3), .val (.int p4), .val (.int p5), .val (.int (Int32.ofNat n)), .val (.int (Int32.ofNat pa)), .val (.int (Int32.ofNat pb)), .unset, .unset, .unset, .unset] [(.int (((p1.toUInt32 >>> ((24 : Int32) &&& 31).toUInt32).toInt32) &&& (255 : Int32)))])) _
    refine XS.iload X0.here hx rfl (hb hby at_46) rfl ?_
    show Steps p.tables e below (s₁.setTop (mkF m 48 #[.val (.int p1), .val (.int p2), .val (.int p3), .val (.int p4), .val (.int p5), .val (.int (Int32.ofNat n)), .val (.int (Int32.ofNat pa)), .val (.int (Int32.ofNat pb)), .unset, .unset, .unset, .unset] [(.int (Int32.ofNat n)), (.int (((p1.toUInt32 >>> ((24 : Int32) &&& 31).toUInt32).toInt32) &&& (255 : Int32)))])) _
    refine iremM X0 hx rfl (hb hby at_48) rfl hnz48 ?_
    rw [hp48]
    show Steps p.tables e below (s₁.setTop (mkF m 49 #[.val (.int p1), .val (.int p2), .val (.int p3), .val (.int p4), .val (.int p5), .val (.int (Int32.ofNat n)), .val (.int (Int32.ofNat pa)), .val (.int (Int32.ofNat pb)), .unset, .unset, .unset, .unset] [(.int (Int32.ofNat pd))])) _
    refine XS.istore X0.here hx rfl (hb hby at_49) rfl (l' := #[.val (.int p1), .val (.int p2), .val (.int p3), .val (.int p4), .val (.int p5), .val (.int (Int32.ofNat n)), .val (.int (Int32.ofNat pa)), .val (.int (Int32.ofNat pb)), .val (.int (Int32.ofNat pd)), .unset, .unset, .unset]) rfl ?_
    show Steps p.tables e below (s₁.setTop (mkF m 51 #[.val (.int p1), .val (.int p2), .val (.int p3), .val (.int p4), .val (.int p5), .val (.int (Int32.ofNat n)), .val (.int (Int32.ofNat pa)), .val (.int (Int32.ofNat pb)), .val (.int (Int32.ofNat pd)), .unset, .unset, .unset] [])) _
    refine XS.iload X0.here hx rfl (hb hby at_51) rfl ?_
    show Steps p.tables e below (s₁.setTop (mkF m 53 #[.val (.int p1), .val (.int p2), .val (.int p3), .val (.int p4), .val (.int p5), .val (.int (Int32.ofNat n)), .val (.int (Int32.ofNat pa)), .val (.int (Int32.ofNat pb)), .val (.int (Int32.ofNat pd)), .unset, .unset, .unset] [(.int p5)])) _
    refine X0.ldcInt hx hown (mvT hZ (hw _ (List.mem_of_getElem? (i := 0) rfl))) (g := (mkF m 53 #[.val (.int p1), .val (.int p2), .val (.int p3), .val (.int p4), .val (.int p5), .val (.int (Int32.ofNat n)), .val (.int (Int32.ofNat pa)), .val (.int (Int32.ofNat pb)), .val (.int (Int32.ofNat pd)), .unset, .unset, .unset] [(.int p5)])) rfl (hb hby at_53) _ ?_
    show Steps p.tables e below (s₁.setTop (mkF m 55 #[.val (.int p1), .val (.int p2), .val (.int p3), .val (.int p4), .val (.int p5), .val (.int (Int32.ofNat n)), .val (.int (Int32.ofNat pa)), .val (.int (Int32.ofNat pb)), .val (.int (Int32.ofNat pd)), .unset, .unset, .unset] [(.int (2147483647 : Int32)), (.int p5)])) _
    refine XS.iand X0.here hx rfl (hb hby at_55) rfl ?_
    show Steps p.tables e below (s₁.setTop (mkF m 56 #[.val (.int p1), .val (.int p2), .val (.int p3), .val (.int p4), .val (.int p5), .val (.int (Int32.ofNat n)), .val (.int (Int32.ofNat pa)), .val (.int (Int32.ofNat pb)), .val (.int (Int32.ofNat pd)), .unset, .unset, .unset] [(.int (p5 &&& (2147483647 : Int32)))])) _
    refine XS.iload X0.here hx rfl (hb hby at_56) rfl ?_
    show Steps p.tables e below (s₁.setTop (mkF m 58 #[.val (.int p1), .val (.int p2), .val (.int p3), .val (.int p4), .val (.int p5), .val (.int (Int32.ofNat n)), .val (.int (Int32.ofNat pa)), .val (.int (Int32.ofNat pb)), .val (.int (Int32.ofNat pd)), .unset, .unset, .unset] [(.int (Int32.ofNat n)), (.int (p5 &&& (2147483647 : Int32)))])) _
    refine XS.iconst X0.here hx rfl (hb hby at_58) ?_
    show Steps p.tables e below (s₁.setTop (mkF m 59 #[.val (.int p1), .val (.int p2), .val (.int p3), .val (.int p4), .val (.int p5), .val (.int (Int32.ofNat n)), .val (.int (Int32.ofNat pa)), .val (.int (Int32.ofNat pb)), .val (.int (Int32.ofNat pd)), .unset, .unset, .unset] [(.int (1 : Int32)), (.int (Int32.ofNat n)), (.int (p5 &&& (2147483647 : Int32)))])) _
    refine XS.iadd X0.here hx rfl (hb hby at_59) rfl ?_
    show Steps p.tables e below (s₁.setTop (mkF m 60 #[.val (.int p1), .val (.int p2), .val (.int p3), .val (.int p4), .val (.int p5), .val (.int (Int32.ofNat n)), .val (.int (Int32.ofNat pa)), .val (.int (Int32.ofNat pb)), .val (.int (Int32.ofNat pd)), .unset, .unset, .unset] [(.int ((Int32.ofNat n) + (1 : Int32))), (.int (p5 &&& (2147483647 : Int32)))])) _
    refine iremM X0 hx rfl (hb hby at_60) rfl hnz60 ?_
    rw [hp60]
    show Steps p.tables e below (s₁.setTop (mkF m 61 #[.val (.int p1), .val (.int p2), .val (.int p3), .val (.int p4), .val (.int p5), .val (.int (Int32.ofNat n)), .val (.int (Int32.ofNat pa)), .val (.int (Int32.ofNat pb)), .val (.int (Int32.ofNat pd)), .unset, .unset, .unset] [(.int (Int32.ofNat q))])) _
    refine XS.istore X0.here hx rfl (hb hby at_61) rfl (l' := #[.val (.int p1), .val (.int p2), .val (.int p3), .val (.int p4), .val (.int p5), .val (.int (Int32.ofNat n)), .val (.int (Int32.ofNat pa)), .val (.int (Int32.ofNat pb)), .val (.int (Int32.ofNat pd)), .val (.int (Int32.ofNat q)), .unset, .unset]) rfl ?_
    show Steps p.tables e below (s₁.setTop (mkF m 63 #[.val (.int p1), .val (.int p2), .val (.int p3), .val (.int p4), .val (.int p5), .val (.int (Int32.ofNat n)), .val (.int (Int32.ofNat pa)), .val (.int (Int32.ofNat pb)), .val (.int (Int32.ofNat pd)), .val (.int (Int32.ofNat q)), .unset, .unset] [])) _
    refine st6 _ ?_
    show Steps p.tables e below (T6.setTop (mkF m 66 #[.val (.int p1), .val (.int p2), .val (.int p3), .val (.int p4), .val (.int p5), .val (.int (Int32.ofNat n)), .val (.int (Int32.ofNat pa)), .val (.int (Int32.ofNat pb)), .val (.int (Int32.ofNat pd)), .val (.int (Int32.ofNat q)), .unset, .unset] [(.ref b6)])) _
    refine XS.dup X6.here hx rfl (hb hby at_66) rfl rfl ?_
    show Steps p.tables e below (T6.setTop (mkF m 67 #[.val (.int p1), .val (.int p2), .val (.int p3), .val (.int p4), .val (.int p5), .val (.int (Int32.ofNat n)), .val (.int (Int32.ofNat pa)), .val (.int (Int32.ofNat pb)), .val (.int (Int32.ofNat pd)), .val (.int (Int32.ofNat q)), .unset, .unset] [(.ref b6), (.ref b6)])) _
    refine XS.iload X6.here hx rfl (hb hby at_67) rfl ?_
    show Steps p.tables e below (T6.setTop (mkF m 69 #[.val (.int p1), .val (.int p2), .val (.int p3), .val (.int p4), .val (.int p5), .val (.int (Int32.ofNat n)), .val (.int (Int32.ofNat pa)), .val (.int (Int32.ofNat pb)), .val (.int (Int32.ofNat pd)), .val (.int (Int32.ofNat q)), .unset, .unset] [(.int (Int32.ofNat n)), (.ref b6), (.ref b6)])) _
    refine st7.trans ?_
    show Steps p.tables e below (T7.setTop (mkF m 72 #[.val (.int p1), .val (.int p2), .val (.int p3), .val (.int p4), .val (.int p5), .val (.int (Int32.ofNat n)), .val (.int (Int32.ofNat pa)), .val (.int (Int32.ofNat pb)), .val (.int (Int32.ofNat pd)), .val (.int (Int32.ofNat q)), .unset, .unset] [(.ref b6)])) _
    refine XS.astore X7.here hx rfl (hb hby at_72) rfl rfl (l' := #[.val (.int p1), .val (.int p2), .val (.int p3), .val (.int p4), .val (.int p5), .val (.int (Int32.ofNat n)), .val (.int (Int32.ofNat pa)), .val (.int (Int32.ofNat pb)), .val (.int (Int32.ofNat pd)), .val (.int (Int32.ofNat q)), .val (.ref b6), .unset]) rfl ?_
    show Steps p.tables e below (T7.setTop (mkF m 74 #[.val (.int p1), .val (.int p2), .val (.int p3), .val (.int p4), .val (.int p5), .val (.int (Int32.ofNat n)), .val (.int (Int32.ofNat pa)), .val (.int (Int32.ofNat pb)), .val (.int (Int32.ofNat pd)), .val (.int (Int32.ofNat q)), .val (.ref b6), .unset] [])) _
    refine XS.aload X7.here hx rfl (hb hby at_74) rfl rfl ?_
    show Steps p.tables e below (T7.setTop (mkF m 76 #[.val (.int p1), .val (.int p2), .val (.int p3), .val (.int p4), .val (.int p5), .val (.int (Int32.ofNat n)), .val (.int (Int32.ofNat pa)), .val (.int (Int32.ofNat pb)), .val (.int (Int32.ofNat pd)), .val (.int (Int32.ofNat q)), .val (.ref b6), .unset] [(.ref b6)])) _
    refine XS.iload X7.here hx rfl (hb hby at_76) rfl ?_
    show Steps p.tables e below (T7.setTop (mkF m 78 #[.val (.int p1), .val (.int p2), .val (.int p3), .val (.int p4), .val (.int p5), .val (.int (Int32.ofNat n)), .val (.int (Int32.ofNat pa)), .val (.int (Int32.ofNat pb)), .val (.int (Int32.ofNat pd)), .val (.int (Int32.ofNat q)), .val (.ref b6), .unset] [(.int (Int32.ofNat pa)), (.ref b6)])) _
    refine XS.iloadN X7.here hx rfl (hb hby at_78) rfl ?_
    show Steps p.tables e below (T7.setTop (mkF m 79 #[.val (.int p1), .val (.int p2), .val (.int p3), .val (.int p4), .val (.int p5), .val (.int (Int32.ofNat n)), .val (.int (Int32.ofNat pa)), .val (.int (Int32.ofNat pb)), .val (.int (Int32.ofNat pd)), .val (.int (Int32.ofNat q)), .val (.ref b6), .unset] [(.int p2), (.int (Int32.ofNat pa)), (.ref b6)])) _
    refine st8.trans ?_
    show Steps p.tables e below (T8.setTop (mkF m 82 #[.val (.int p1), .val (.int p2), .val (.int p3), .val (.int p4), .val (.int p5), .val (.int (Int32.ofNat n)), .val (.int (Int32.ofNat pa)), .val (.int (Int32.ofNat pb)), .val (.int (Int32.ofNat pd)), .val (.int (Int32.ofNat q)), .val (.ref b6), .unset] [])) _
    refine XS.aload X8.here hx rfl (hb hby at_82) rfl rfl ?_
    show Steps p.tables e below (T8.setTop (mkF m 84 #[.val (.int p1), .val (.int p2), .val (.int p3), .val (.int p4), .val (.int p5), .val (.int (Int32.ofNat n)), .val (.int (Int32.ofNat pa)), .val (.int (Int32.ofNat pb)), .val (.int (Int32.ofNat pd)), .val (.int (Int32.ofNat q)), .val (.ref b6), .unset] [(.ref b6)])) _
    refine XS.iload X8.here hx rfl (hb hby at_84) rfl ?_
    show Steps p.tables e below (T8.setTop (mkF m 86 #[.val (.int p1), .val (.int p2), .val (.int p3), .val (.int p4), .val (.int p5), .val (.int (Int32.ofNat n)), .val (.int (Int32.ofNat pa)), .val (.int (Int32.ofNat pb)), .val (.int (Int32.ofNat pd)), .val (.int (Int32.ofNat q)), .val (.ref b6), .unset] [(.int (Int32.ofNat pb)), (.ref b6)])) _
    refine XS.iloadN X8.here hx rfl (hb hby at_86) rfl ?_
    show Steps p.tables e below (T8.setTop (mkF m 87 #[.val (.int p1), .val (.int p2), .val (.int p3), .val (.int p4), .val (.int p5), .val (.int (Int32.ofNat n)), .val (.int (Int32.ofNat pa)), .val (.int (Int32.ofNat pb)), .val (.int (Int32.ofNat pd)), .val (.int (Int32.ofNat q)), .val (.ref b6), .unset] [(.int p3), (.int (Int32.ofNat pb)), (.ref b6)])) _
    refine st9.trans ?_
    show Steps p.tables e below (T9.setTop (mkF m 90 #[.val (.int p1), .val (.int p2), .val (.int p3), .val (.int p4), .val (.int p5), .val (.int (Int32.ofNat n)), .val (.int (Int32.ofNat pa)), .val (.int (Int32.ofNat pb)), .val (.int (Int32.ofNat pd)), .val (.int (Int32.ofNat q)), .val (.ref b6), .unset] [])) _
    refine XS.aload X9.here hx rfl (hb hby at_90) rfl rfl ?_
    show Steps p.tables e below (T9.setTop (mkF m 92 #[.val (.int p1), .val (.int p2), .val (.int p3), .val (.int p4), .val (.int p5), .val (.int (Int32.ofNat n)), .val (.int (Int32.ofNat pa)), .val (.int (Int32.ofNat pb)), .val (.int (Int32.ofNat pd)), .val (.int (Int32.ofNat q)), .val (.ref b6), .unset] [(.ref b6)])) _
    refine XS.iload X9.here hx rfl (hb hby at_92) rfl ?_
    show Steps p.tables e below (T9.setTop (mkF m 94 #[.val (.int p1), .val (.int p2), .val (.int p3), .val (.int p4), .val (.int p5), .val (.int (Int32.ofNat n)), .val (.int (Int32.ofNat pa)), .val (.int (Int32.ofNat pb)), .val (.int (Int32.ofNat pd)), .val (.int (Int32.ofNat q)), .val (.ref b6), .unset] [(.int (Int32.ofNat pd)), (.ref b6)])) _
    refine XS.iloadN X9.here hx rfl (hb hby at_94) rfl ?_
    show Steps p.tables e below (T9.setTop (mkF m 95 #[.val (.int p1), .val (.int p2), .val (.int p3), .val (.int p4), .val (.int p5), .val (.int (Int32.ofNat n)), .val (.int (Int32.ofNat pa)), .val (.int (Int32.ofNat pb)), .val (.int (Int32.ofNat pd)), .val (.int (Int32.ofNat q)), .val (.ref b6), .unset] [(.int p4), (.int (Int32.ofNat pd)), (.ref b6)])) _
    refine st10.trans ?_
    show Steps p.tables e below (T10.setTop (mkF m 98 #[.val (.int p1), .val (.int p2), .val (.int p3), .val (.int p4), .val (.int p5), .val (.int (Int32.ofNat n)), .val (.int (Int32.ofNat pa)), .val (.int (Int32.ofNat pb)), .val (.int (Int32.ofNat pd)), .val (.int (Int32.ofNat q)), .val (.ref b6), .unset] [])) _
    refine XS.iconst X10.here hx rfl (hb hby at_98) ?_
    show Steps p.tables e below (T10.setTop (mkF m 99 #[.val (.int p1), .val (.int p2), .val (.int p3), .val (.int p4), .val (.int p5), .val (.int (Int32.ofNat n)), .val (.int (Int32.ofNat pa)), .val (.int (Int32.ofNat pb)), .val (.int (Int32.ofNat pd)), .val (.int (Int32.ofNat q)), .val (.ref b6), .unset] [(.int (0 : Int32))])) _
    refine XS.istore X10.here hx rfl (hb hby at_99) rfl (l' := #[.val (.int p1), .val (.int p2), .val (.int p3), .val (.int p4), .val (.int p5), .val (.int (Int32.ofNat n)), .val (.int (Int32.ofNat pa)), .val (.int (Int32.ofNat pb)), .val (.int (Int32.ofNat pd)), .val (.int (Int32.ofNat q)), .val (.ref b6), .val (.int (0 : Int32))]) rfl ?_
    show Steps p.tables e below (T10.setTop (mkF m 101 #[.val (.int p1), .val (.int p2), .val (.int p3), .val (.int p4), .val (.int p5), .val (.int (Int32.ofNat n)), .val (.int (Int32.ofNat pa)), .val (.int (Int32.ofNat pb)), .val (.int (Int32.ofNat pd)), .val (.int (Int32.ofNat q)), .val (.ref b6), .val (.int (0 : Int32))] [])) _
    refine XS.iload X10.here hx rfl (hb hby at_101) rfl ?_
    show Steps p.tables e below (T10.setTop (mkF m 103 #[.val (.int p1), .val (.int p2), .val (.int p3), .val (.int p4), .val (.int p5), .val (.int (Int32.ofNat n)), .val (.int (Int32.ofNat pa)), .val (.int (Int32.ofNat pb)), .val (.int (Int32.ofNat pd)), .val (.int (Int32.ofNat q)), .val (.ref b6), .val (.int (0 : Int32))] [(.int (Int32.ofNat pa))])) _
    refine XS.iload X10.here hx rfl (hb hby at_103) rfl ?_
    show Steps p.tables e below (T10.setTop (mkF m 105 #[.val (.int p1), .val (.int p2), .val (.int p3), .val (.int p4), .val (.int p5), .val (.int (Int32.ofNat n)), .val (.int (Int32.ofNat pa)), .val (.int (Int32.ofNat pb)), .val (.int (Int32.ofNat pd)), .val (.int (Int32.ofNat q)), .val (.ref b6), .val (.int (0 : Int32))] [(.int (Int32.ofNat q)), (.int (Int32.ofNat pa))])) _
    refine XS.icmpYes X10.here hx rfl (pc0 := 105) (pc' := 114) rfl (hb hby at_105) rfl (flt hc105).2.1 (by decide) (by decide) ?_
    show Steps p.tables e below (T10.setTop (mkF m 114 #[.val (.int p1), .val (.int p2), .val (.int p3), .val (.int p4), .val (.int p5), .val (.int (Int32.ofNat n)), .val (.int (Int32.ofNat pa)), .val (.int (Int32.ofNat pb)), .val (.int (Int32.ofNat pd)), .val (.int (Int32.ofNat q)), .val (.ref b6), .val (.int (0 : Int32))] [])) _
    refine XS.iload X10.here hx rfl (hb hby at_114) rfl ?_
    show Steps p.tables e below (T10.setTop (mkF m 116 #[.val (.int p1), .val (.int p2), .val (.int p3), .val (.int p4), .val (.int p5), .val (.int (Int32.ofNat n)), .val (.int (Int32.ofNat pa)), .val (.int (Int32.ofNat pb)), .val (.int (Int32.ofNat pd)), .val (.int (Int32.ofNat q)), .val (.ref b6), .val (.int (0 : Int32))] [(.int (Int32.ofNat pb))])) _
    refine XS.iload X10.here hx rfl (hb hby at_116) rfl ?_
    show Steps p.tables e below (T10.setTop (mkF m 118 #[.val (.int p1), .val (.int p2), .val (.int p3), .val (.int p4), .val (.int p5), .val (.int (Int32.ofNat n)), .val (.int (Int32.ofNat pa)), .val (.int (Int32.ofNat pb)), .val (.int (Int32.ofNat pd)), .val (.int (Int32.ofNat q)), .val (.ref b6), .val (.int (0 : Int32))] [(.int (Int32.ofNat q)), (.int (Int32.ofNat pb))])) _
    refine XS.icmpYes X10.here hx rfl (pc0 := 118) (pc' := 127) rfl (hb hby at_118) rfl (flt hc118).2.1 (by decide) (by decide) ?_
    show Steps p.tables e below (T10.setTop (mkF m 127 #[.val (.int p1), .val (.int p2), .val (.int p3), .val (.int p4), .val (.int p5), .val (.int (Int32.ofNat n)), .val (.int (Int32.ofNat pa)), .val (.int (Int32.ofNat pb)), .val (.int (Int32.ofNat pd)), .val (.int (Int32.ofNat q)), .val (.ref b6), .val (.int (0 : Int32))] [])) _
    refine XS.iload X10.here hx rfl (hb hby at_127) rfl ?_
    show Steps p.tables e below (T10.setTop (mkF m 129 #[.val (.int p1), .val (.int p2), .val (.int p3), .val (.int p4), .val (.int p5), .val (.int (Int32.ofNat n)), .val (.int (Int32.ofNat pa)), .val (.int (Int32.ofNat pb)), .val (.int (Int32.ofNat pd)), .val (.int (Int32.ofNat q)), .val (.ref b6), .val (.int (0 : Int32))] [(.int (Int32.ofNat pd))])) _
    refine XS.iload X10.here hx rfl (hb hby at_129) rfl ?_
    show Steps p.tables e below (T10.setTop (mkF m 131 #[.val (.int p1), .val (.int p2), .val (.int p3), .val (.int p4), .val (.int p5), .val (.int (Int32.ofNat n)), .val (.int (Int32.ofNat pa)), .val (.int (Int32.ofNat pb)), .val (.int (Int32.ofNat pd)), .val (.int (Int32.ofNat q)), .val (.ref b6), .val (.int (0 : Int32))] [(.int (Int32.ofNat q)), (.int (Int32.ofNat pd))])) _
    refine XS.icmpNo X10.here hx rfl (hb hby at_131) rfl (tlt hc131).2.1 ?_
    show Steps p.tables e below (T10.setTop (mkF m 134 #[.val (.int p1), .val (.int p2), .val (.int p3), .val (.int p4), .val (.int p5), .val (.int (Int32.ofNat n)), .val (.int (Int32.ofNat pa)), .val (.int (Int32.ofNat pb)), .val (.int (Int32.ofNat pd)), .val (.int (Int32.ofNat q)), .val (.ref b6), .val (.int (0 : Int32))] [])) _
    refine XS.iload X10.here hx rfl (hb hby at_134) rfl ?_
    show Steps p.tables e below (T10.setTop (mkF m 136 #[.val (.int p1), .val (.int p2), .val (.int p3), .val (.int p4), .val (.int p5), .val (.int (Int32.ofNat n)), .val (.int (Int32.ofNat pa)), .val (.int (Int32.ofNat pb)), .val (.int (Int32.ofNat pd)), .val (.int (Int32.ofNat q)), .val (.ref b6), .val (.int (0 : Int32))] [(.int (0 : Int32))])) _
    refine XS.iloadN X10.here hx rfl (hb hby at_136) rfl ?_
    show Steps p.tables e below (T10.setTop (mkF m 137 #[.val (.int p1), .val (.int p2), .val (.int p3), .val (.int p4), .val (.int p5), .val (.int (Int32.ofNat n)), .val (.int (Int32.ofNat pa)), .val (.int (Int32.ofNat pb)), .val (.int (Int32.ofNat pd)), .val (.int (Int32.ofNat q)), .val (.ref b6), .val (.int (0 : Int32))] [(.int p4), (.int (0 : Int32))])) _
    refine XS.iadd X10.here hx rfl (hb hby at_137) rfl ?_
    show Steps p.tables e below (T10.setTop (mkF m 138 #[.val (.int p1), .val (.int p2), .val (.int p3), .val (.int p4), .val (.int p5), .val (.int (Int32.ofNat n)), .val (.int (Int32.ofNat pa)), .val (.int (Int32.ofNat pb)), .val (.int (Int32.ofNat pd)), .val (.int (Int32.ofNat q)), .val (.ref b6), .val (.int (0 : Int32))] [(.int ((0 : Int32) + p4))])) _
    refine XS.istore X10.here hx rfl (hb hby at_138) rfl (l' := #[.val (.int p1), .val (.int p2), .val (.int p3), .val (.int p4), .val (.int p5), .val (.int (Int32.ofNat n)), .val (.int (Int32.ofNat pa)), .val (.int (Int32.ofNat pb)), .val (.int (Int32.ofNat pd)), .val (.int (Int32.ofNat q)), .val (.ref b6), .val (.int ((0 : Int32) + p4))]) rfl ?_
    show Steps p.tables e below (T10.setTop (mkF m 140 #[.val (.int p1), .val (.int p2), .val (.int p3), .val (.int p4), .val (.int p5), .val (.int (Int32.ofNat n)), .val (.int (Int32.ofNat pa)), .val (.int (Int32.ofNat pb)), .val (.int (Int32.ofNat pd)), .val (.int (Int32.ofNat q)), .val (.ref b6), .val (.int ((0 : Int32) + p4))] [])) _
    refine XS.aload X10.here hx rfl (hb hby at_140) rfl rfl ?_
    show Steps p.tables e below (T10.setTop (mkF m 142 #[.val (.int p1), .val (.int p2), .val (.int p3), .val (.int p4), .val (.int p5), .val (.int (Int32.ofNat n)), .val (.int (Int32.ofNat pa)), .val (.int (Int32.ofNat pb)), .val (.int (Int32.ofNat pd)), .val (.int (Int32.ofNat q)), .val (.ref b6), .val (.int ((0 : Int32) + p4))] [(.ref b6)])) _
    refine XS.iload X10.here hx rfl (hb hby at_142) rfl ?_
    show Steps p.tables e below (T10.setTop (mkF m 144 #[.val (.int p1), .val (.int p2), .val (.int p3), .val (.int p4), .val (.int p5), .val (.int (Int32.ofNat n)), .val (.int (Int32.ofNat pa)), .val (.int (Int32.ofNat pb)), .val (.int (Int32.ofNat pd)), .val (.int (Int32.ofNat q)), .val (.ref b6), .val (.int ((0 : Int32) + p4))] [(.int (Int32.ofNat q)), (.ref b6)])) _
    refine st11.trans ?_
    show Steps p.tables e below (T11.setTop (mkF m 147 #[.val (.int p1), .val (.int p2), .val (.int p3), .val (.int p4), .val (.int p5), .val (.int (Int32.ofNat n)), .val (.int (Int32.ofNat pa)), .val (.int (Int32.ofNat pb)), .val (.int (Int32.ofNat pd)), .val (.int (Int32.ofNat q)), .val (.ref b6), .val (.int ((0 : Int32) + p4))] [(.int (own_sum (own_down 6 q) (own_adds (own_up 6 (n + 1) (pd + 1)) p4 (own_adds (own_up 6 (n + 1) (pb + 1)) p3 (own_adds (own_up 6 (n + 1) (pa + 1)) p2 (fun _ => 0)))) 0))])) _
    refine XS.iload X11.here hx rfl (hb hby at_147) rfl ?_
    show Steps p.tables e below (T11.setTop (mkF m 149 #[.val (.int p1), .val (.int p2), .val (.int p3), .val (.int p4), .val (.int p5), .val (.int (Int32.ofNat n)), .val (.int (Int32.ofNat pa)), .val (.int (Int32.ofNat pb)), .val (.int (Int32.ofNat pd)), .val (.int (Int32.ofNat q)), .val (.ref b6), .val (.int ((0 : Int32) + p4))] [(.int ((0 : Int32) + p4)), (.int (own_sum (own_down 6 q) (own_adds (own_up 6 (n + 1) (pd + 1)) p4 (own_adds (own_up 6 (n + 1) (pb + 1)) p3 (own_adds (own_up 6 (n + 1) (pa + 1)) p2 (fun _ => 0)))) 0))])) _
    refine XS.icmpNo X11.here hx rfl (hb hby at_149) rfl (teq (own_ok : (own_sum (own_down 6 q) (own_adds (own_up 6 (n + 1) (pd + 1)) p4 (own_adds (own_up 6 (n + 1) (pb + 1)) p3 (own_adds (own_up 6 (n + 1) (pa + 1)) p2 (fun _ => 0)))) 0) = ((0 : Int32) + p4))).2 ?_
    show Steps p.tables e below (T11.setTop (mkF m 152 #[.val (.int p1), .val (.int p2), .val (.int p3), .val (.int p4), .val (.int p5), .val (.int (Int32.ofNat n)), .val (.int (Int32.ofNat pa)), .val (.int (Int32.ofNat pb)), .val (.int (Int32.ofNat pd)), .val (.int (Int32.ofNat q)), .val (.ref b6), .val (.int ((0 : Int32) + p4))] [])) _
    refine XS.iconst X11.here hx rfl (hb hby at_152) ?_
    show Steps p.tables e below (T11.setTop (mkF m 153 #[.val (.int p1), .val (.int p2), .val (.int p3), .val (.int p4), .val (.int p5), .val (.int (Int32.ofNat n)), .val (.int (Int32.ofNat pa)), .val (.int (Int32.ofNat pb)), .val (.int (Int32.ofNat pd)), .val (.int (Int32.ofNat q)), .val (.ref b6), .val (.int ((0 : Int32) + p4))] [(.int (1 : Int32))])) _
    refine XS.goto X11.here hx rfl (pc0 := 153) (pc' := 157) rfl (hb hby at_153) (by decide) (by decide) ?_
    show Steps p.tables e below (T11.setTop (mkF m 157 #[.val (.int p1), .val (.int p2), .val (.int p3), .val (.int p4), .val (.int p5), .val (.int (Int32.ofNat n)), .val (.int (Int32.ofNat pa)), .val (.int (Int32.ofNat pb)), .val (.int (Int32.ofNat pd)), .val (.int (Int32.ofNat q)), .val (.ref b6), .val (.int ((0 : Int32) + p4))] [(.int (1 : Int32))])) _
    exact retN X11 hx (t := .boolean) Bd.returns (by simp) (hb hby at_157) hr
  · show Q0_ttff Z p1 p2 p3 p4 p5 h0 n0 _ T11.heap _
    exact ⟨rfl, N11⟩
def Q0_tttf (Z : State) (p1 : Int32) (p2 : Int32) (p3 : Int32) (p4 : Int32) (p5 : Int32) (h0 : Heap) (n0 : Nat) (v : Option Value) (h : Heap) (L : List Loc) : Prop := v = some (.int (1 : Int32)) ∧ Fr n0 L
set_option maxRecDepth 65536 in
set_option maxHeartbeats 40000000 in
theorem rm0_tttf (l : Launch) (Z : State) (a0 : Array Value) (hw : ∀ d ∈ tables_1, d.before a0 Z = true) (ws : List Jvm.Cond) (p1 : Int32) (p2 : Int32) (p3 : Int32) (p4 : Int32) (p5 : Int32) (n pa pb pd q : Nat) (h0 : Heap) (n0 : Nat) (Z0 : n0 ≤ h0.size) (hn : n ≤ 16) (hpa : pa < n) (hpb : pb < n) (hpd : pd < n) (hq : q ≤ n) (hp9 : (((p1 &&& (255 : Int32)) % (12 : Int32)) + (1 : Int32)) = (Int32.ofNat n)) (hp22 : ((((p1.toUInt32 >>> ((8 : Int32) &&& 31).toUInt32).toInt32) &&& (255 : Int32)) % (Int32.ofNat n)) = (Int32.ofNat pa)) (hp35 : ((((p1.toUInt32 >>> ((16 : Int32) &&& 31).toUInt32).toInt32) &&& (255 : Int32)) % (Int32.ofNat n)) = (Int32.ofNat pb)) (hp48 : ((((p1.toUInt32 >>> ((24 : Int32) &&& 31).toUInt32).toInt32) &&& (255 : Int32)) % (Int32.ofNat n)) = (Int32.ofNat pd)) (hp60 : ((p5 &&& (2147483647 : Int32)) % ((Int32.ofNat n) + (1 : Int32))) = (Int32.ofNat q)) (hc105 : ¬ ((Int32.ofNat pa) < (Int32.ofNat q))) (hc118 : ¬ ((Int32.ofNat pb) < (Int32.ofNat q))) (hc131 : ¬ ((Int32.ofNat pd) < (Int32.ofNat q))) :
    MetFree l x (head1 (Jvm.Cond.code x code maxLocals ret :: ws) room_1) (fun a U => a = #[(.int p1), (.int p2), (.int p3), (.int p4), (.int p5)] ∧ Z.Warmed39 U.vm ∧ U.heap = h0) (fun _ _ _ _ _ => True) (fun _ U o U' => ∃ v L, o = .returned v ∧ Q0_tttf Z p1 p2 p3 p4 p5 h0 n0 v U'.heap L ∧ FrameEnd U o U' L room_1.cells room_1.slots) := by
  refine MetFree.of_bodySF (plainFor_of_name pn_0) hisR ?_
  intro p e s m args below meth c s₁ Bd hml0 hP hK
  obtain ⟨rfl, hZ, hh⟩ := hP
  have hnz22 : Int32.ofNat n ≠ (0 : Int32) := own_nz (by omega) (by omega)
  have hnz35 := hnz22
  have hnz48 := hnz22
  have hnz60 : Int32.ofNat n + (1 : Int32) ≠ (0 : Int32) := by rw [own_one]; exact own_nz (by omega) (by omega)
  have hx := Bd.exec
  have hby := Bd.bytes
  have hml : c.maxLocals = 12 := hml0
  have hown : s.vm.findClass "com/example/tallykeep/tallykeep/core/PrefixCountsBelowPinLaw" = some m.cls := findClass_of_methodNamed Bd.named
  have hnm := (name_of_methodNamed Bd.named Bd.method).1
  have X0 : Stand p l e room_1 s m #[(.int p1), (.int p2), (.int p3), (.int p4), (.int p5)] below meth c s₁ [] 0 0 := Stand.of_body Bd
  have e0 : s₁.heap = h0 := by rw [← hh, Bd.state]; rfl
  have N0 := Fr.nil n0
  have pre0 : ∀ t, Steps p.tables e below (s₁.setTop (mkF m 0 #[.val (.int p1), .val (.int p2), .val (.int p3), .val (.int p4), .val (.int p5), .unset, .unset, .unset, .unset, .unset, .unset, .unset] [])) t → Steps p.tables e below (s₁.setTop (entryFrame m #[(.int p1), (.int p2), (.int p3), (.int p4), (.int p5)] maxLocals)) t := fun t k => castTop (ef_0 m p1 p2 p3 p4 p5) k
  obtain ⟨T6, h6, X6, e6, E6, A6, D6, -, st6⟩ := newO X0 hx hZ hown (hw _ (List.mem_of_getElem? (i := 1) rfl)) (hw _ (List.mem_of_getElem? (i := 2) rfl)) (hw _ (List.mem_of_getElem? (i := 3) rfl)) e0 (g := (mkF m 63 #[.val (.int p1), .val (.int p2), .val (.int p3), .val (.int p4), .val (.int p5), .val (.int (Int32.ofNat n)), .val (.int (Int32.ofNat pa)), .val (.int (Int32.ofNat pb)), .val (.int (Int32.ofNat pd)), .val (.int (Int32.ofNat q)), .unset, .unset] [])) rfl (hb hby at_63) (by decide) (by decide)
  obtain ⟨b6, g6⟩ : ∃ z, z = h0.size := ⟨_, rfl⟩
  rw [← g6] at A6 D6 st6
  have F_cells_b6 : Fld Z h6 b6 "com/example/tallykeep/tallykeep/core/PrefixCounts" "cells" "[I" .null := D6 (Or.inr (hw _ (List.mem_of_getElem? (i := 12) rfl))) (ty := (.array .int)) (by decide)
  have E_b6 := A6
  have g_b6 : n0 ≤ b6 := Nat.le_trans Z0 (Nat.le_of_eq g6.symm)
  have sz_b6 : h0.size ≤ b6 := (Nat.le_trans (Keep.refl h0 []).1 (Nat.le_of_eq g6.symm))
  have K6 : Keep h0 h6 [] := (Keep.refl h0 []).ext E6
  obtain ⟨_, _, ⟨T7, L7, k7, n7⟩, -, X7, ⟨Lc7, hQ7, l7, y7, z7⟩, st7⟩ := X6.specialBack hx (y := (⟨"com/example/tallykeep/tallykeep/core/PrefixCounts", "<init>", "(I)V"⟩ : MethodName)) rfl hown (mvT hZ (hw _ (List.mem_of_getElem? (i := 4) rfl))) (mvT hZ (hw _ (List.mem_of_getElem? (i := 5) rfl))) (mvT hZ (hw _ (List.mem_of_getElem? (i := 6) rfl))) (by decide) (backOf (W := 1) (rm1 l Z a0 hw [] b6 n .null h6 n0 (Nat.le_trans Z0 K6.1) E_b6 F_cells_b6 g_b6 hn) hZ (hw _ (List.mem_of_getElem? (i := 6) rfl)) (hw _ (List.mem_of_getElem? (i := 3) rfl)) (by decide) (by decide)) (g := (mkF m 69 #[.val (.int p1), .val (.int p2), .val (.int p3), .val (.int p4), .val (.int p5), .val (.int (Int32.ofNat n)), .val (.int (Int32.ofNat pa)), .val (.int (Int32.ofNat pb)), .val (.int (Int32.ofNat pd)), .val (.int (Int32.ofNat q)), .unset, .unset] [(.int (Int32.ofNat n)), (.ref b6), (.ref b6)])) rfl (by rw [hml]; rfl) (Steps.refl _) (a := b6) (argsL := [(.int (Int32.ofNat n))]) (rest := [(.ref b6)]) (lenOf pd_0_0 rfl) rfl (by show 2 * 0 + _ ≤ _; exact Nat.le_of_eq rfl) (hb hby at_69) (fun _ _ => ⟨rfl, e6, (Nat.le_of_ble_eq_true rfl), (Nat.le_of_ble_eq_true rfl)⟩)
  dsimp only [Pt.U, Pt.locs, Pt.cells, Pt.slots] at X7 l7 y7 z7 st7 hQ7
  subst l7 y7 z7
  obtain ⟨rfl, N7q, K7c, E7c, bC, szC, FC, VC⟩ := hQ7
  have g_bC : n0 ≤ bC := Nat.le_trans (Nat.le_trans Z0 K6.1) szC
  have ne_oC : b6 ≠ bC := Nat.ne_of_lt (Nat.lt_of_lt_of_le E_b6.lt szC)
  have Z7 : n0 ≤ T7.heap.size := Nat.le_trans (Nat.le_trans Z0 K6.1) K7c.1
  have N7 := Fr.app N0 N7q
  obtain ⟨cq8, kq8, q8a, q8b, q8c⟩ := isOf hZ rfl (E_b6.keep K7c)
  obtain ⟨_, _, ⟨T8, L8, k8, n8⟩, -, X8, ⟨Lc8, hQ8, l8, y8, z8⟩, st8⟩ := X7.virtualBack hx (y := (⟨"com/example/tallykeep/tallykeep/core/PrefixCounts", "add", "(II)V"⟩ : MethodName)) (z := (⟨"com/example/tallykeep/tallykeep/core/PrefixCounts", "add", "(II)V"⟩ : MethodName)) hown (mvT hZ (hw _ (List.mem_of_getElem? (i := 13) rfl))) (mvT hZ (hw _ (List.mem_of_getElem? (i := 14) rfl))) (notFace_of_selects (args := #[]) (mvT hZ (hw _ (List.mem_of_getElem? (i := 16) rfl)))) (mvT hZ (hw _ (List.mem_of_getElem? (i := 16) rfl))) (mvT hZ (hw _ (List.mem_of_getElem? (i := 15) rfl))) (by decide) (backOf (W := 0) (rm3 l Z a0 hw [] b6 pa p2 bC (n + 1) _ T7.heap n0 Z7 FC VC (by omega) (by omega) g_bC ne_oC) hZ (hw _ (List.mem_of_getElem? (i := 17) rfl)) (hw _ (List.mem_of_getElem? (i := 3) rfl)) (by decide) (by decide)) q8a q8c (g := (mkF m 79 #[.val (.int p1), .val (.int p2), .val (.int p3), .val (.int p4), .val (.int p5), .val (.int (Int32.ofNat n)), .val (.int (Int32.ofNat pa)), .val (.int (Int32.ofNat pb)), .val (.int (Int32.ofNat pd)), .val (.int (Int32.ofNat q)), .val (.ref b6), .unset] [(.int p2), (.int (Int32.ofNat pa)), (.ref b6)])) rfl (by rw [hml]; rfl) (Steps.refl _) (argsL := [(.int (Int32.ofNat pa)), (.int p2)]) (rest := []) (lenOf pd_0_2 rfl) rfl (by show 2 * 0 + _ ≤ _; exact Nat.le_of_eq rfl) (hb hby at_79) (fun _ _ => ⟨rfl, rfl, (Nat.le_of_ble_eq_true rfl), (Nat.le_of_ble_eq_true rfl)⟩)
  dsimp only [Pt.U, Pt.locs, Pt.cells, Pt.slots] at X8 l8 y8 z8 st8 hQ8
  subst l8 y8 z8
  obtain ⟨rfl, N8q, K8c, V8c⟩ := hQ8
  have F8c := FC.keep K8c (ninS ne_oC nin0)
  have Z8 : n0 ≤ T8.heap.size := Nat.le_trans Z7 K8c.1
  have N8 := Fr.app N7 N8q
  obtain ⟨cq9, kq9, q9a, q9b, q9c⟩ := isOf hZ rfl ((E_b6.keep K7c).keep K8c)
  obtain ⟨_, _, ⟨T9, L9, k9, n9⟩, -, X9, ⟨Lc9, hQ9, l9, y9, z9⟩, st9⟩ := X8.virtualBack hx (y := (⟨"com/example/tallykeep/tallykeep/core/PrefixCounts", "add", "(II)V"⟩ : MethodName)) (z := (⟨"com/example/tallykeep/tallykeep/core/PrefixCounts", "add", "(II)V"⟩ : MethodName)) hown (mvT hZ (hw _ (List.mem_of_getElem? (i := 13) rfl))) (mvT hZ (hw _ (List.mem_of_getElem? (i := 14) rfl))) (notFace_of_selects (args := #[]) (mvT hZ (hw _ (List.mem_of_getElem? (i := 16) rfl)))) (mvT hZ (hw _ (List.mem_of_getElem? (i := 16) rfl))) (mvT hZ (hw _ (List.mem_of_getElem? (i := 15) rfl))) (by decide) (backOf (W := 0) (rm3 l Z a0 hw [] b6 pb p3 bC (n + 1) _ T8.heap n0 Z8 F8c V8c (by omega) (by omega) g_bC ne_oC) hZ (hw _ (List.mem_of_getElem? (i := 17) rfl)) (hw _ (List.mem_of_getElem? (i := 3) rfl)) (by decide) (by decide)) q9a q9c (g := (mkF m 87 #[.val (.int p1), .val (.int p2), .val (.int p3), .val (.int p4), .val (.int p5), .val (.int (Int32.ofNat n)), .val (.int (Int32.ofNat pa)), .val (.int (Int32.ofNat pb)), .val (.int (Int32.ofNat pd)), .val (.int (Int32.ofNat q)), .val (.ref b6), .unset] [(.int p3), (.int (Int32.ofNat pb)), (.ref b6)])) rfl (by rw [hml]; rfl) (Steps.refl _) (argsL := [(.int (Int32.ofNat pb)), (.int p3)]) (rest := []) (lenOf pd_0_2 rfl) rfl (by show 2 * 0 + _ ≤ _; exact Nat.le_of_eq rfl) (hb hby at_87) (fun _ _ => ⟨rfl, rfl, (Nat.le_of_ble_eq_true rfl), (Nat.le_of_ble_eq_true rfl)⟩)
  dsimp only [Pt.U, Pt.locs, Pt.cells, Pt.slots] at X9 l9 y9 z9 st9 hQ9
  subst l9 y9 z9
  obtain ⟨rfl, N9q, K9c, V9c⟩ := hQ9
  have F9c := F8c.keep K9c (ninS ne_oC nin0)
  have Z9 : n0 ≤ T9.heap.size := Nat.le_trans Z8 K9c.1
  have N9 := Fr.app N8 N9q
  obtain ⟨cq10, kq10, q10a, q10b, q10c⟩ := isOf hZ rfl (((E_b6.keep K7c).keep K8c).keep K9c)
  obtain ⟨_, _, ⟨T10, L10, k10, n10⟩, -, X10, ⟨Lc10, hQ10, l10, y10, z10⟩, st10⟩ := X9.virtualBack hx (y := (⟨"com/example/tallykeep/tallykeep/core/PrefixCounts", "add", "(II)V"⟩ : MethodName)) (z := (⟨"com/example/tallykeep/tallykeep/core/PrefixCounts", "add", "(II)V"⟩ : MethodName)) hown (mvT hZ (hw _ (List.mem_of_getElem? (i := 13) rfl))) (mvT hZ (hw _ (List.mem_of_getElem? (i := 14) rfl))) (notFace_of_selects (args := #[]) (mvT hZ (hw _ (List.mem_of_getElem? (i := 16) rfl)))) (mvT hZ (hw _ (List.mem_of_getElem? (i := 16) rfl))) (mvT hZ (hw _ (List.mem_of_getElem? (i := 15) rfl))) (by decide) (backOf (W := 0) (rm3 l Z a0 hw [] b6 pd p4 bC (n + 1) _ T9.heap n0 Z9 F9c V9c (by omega) (by omega) g_bC ne_oC) hZ (hw _ (List.mem_of_getElem? (i := 17) rfl)) (hw _ (List.mem_of_getElem? (i := 3) rfl)) (by decide) (by decide)) q10a q10c (g := (mkF m 95 #[.val (.int p1), .val (.int p2), .val (.int p3), .val (.int p4), .val (.int p5), .val (.int (Int32.ofNat n)), .val (.int (Int32.ofNat pa)), .val (.int (Int32.ofNat pb)), .val (.int (Int32.ofNat pd)), .val (.int (Int32.ofNat q)), .val (.ref b6), .unset] [(.int p4), (.int (Int32.ofNat pd)), (.ref b6)])) rfl (by rw [hml]; rfl) (Steps.refl _) (argsL := [(.int (Int32.ofNat pd)), (.int p4)]) (rest := []) (lenOf pd_0_2 rfl) rfl (by show 2 * 0 + _ ≤ _; exact Nat.le_of_eq rfl) (hb hby at_95) (fun _ _ => ⟨rfl, rfl, (Nat.le_of_ble_eq_true rfl), (Nat.le_of_ble_eq_true rfl)⟩)
  dsimp only [Pt.U, Pt.locs, Pt.cells, Pt.slots] at X10 l10 y10 z10 st10 hQ10
  subst l10 y10 z10
  obtain ⟨rfl, N10q, K10c, V10c⟩ := hQ10
  have F10c := F9c.keep K10c (ninS ne_oC nin0)
  have Z10 : n0 ≤ T10.heap.size := Nat.le_trans Z9 K10c.1
  have N10 := Fr.app N9 N10q
  obtain ⟨cq11, kq11, q11a, q11b, q11c⟩ := isOf hZ rfl ((((E_b6.keep K7c).keep K8c).keep K9c).keep K10c)
  obtain ⟨_, _, ⟨T11, L11, k11, n11⟩, -, X11, ⟨Lc11, hQ11, l11, y11, z11⟩, st11⟩ := X10.virtualBack hx (y := (⟨"com/example/tallykeep/tallykeep/core/PrefixCounts", "below", "(I)I"⟩ : MethodName)) (z := (⟨"com/example/tallykeep/tallykeep/core/PrefixCounts", "below", "(I)I"⟩ : MethodName)) hown (mvT hZ (hw _ (List.mem_of_getElem? (i := 18) rfl))) (mvT hZ (hw _ (List.mem_of_getElem? (i := 19) rfl))) (notFace_of_selects (args := #[]) (mvT hZ (hw _ (List.mem_of_getElem? (i := 21) rfl)))) (mvT hZ (hw _ (List.mem_of_getElem? (i := 21) rfl))) (mvT hZ (hw _ (List.mem_of_getElem? (i := 20) rfl))) (by decide) (backOf (W := 0) (rm4 l Z a0 hw [] b6 q bC (n + 1) _ T10.heap n0 Z10 F10c V10c (by omega) (by omega)) hZ (hw _ (List.mem_of_getElem? (i := 22) rfl)) (hw _ (List.mem_of_getElem? (i := 3) rfl)) (by decide) (by decide)) q11a q11c (g := (mkF m 144 #[.val (.int p1), .val (.int p2), .val (.int p3), .val (.int p4), .val (.int p5), .val (.int (Int32.ofNat n)), .val (.int (Int32.ofNat pa)), .val (.int (Int32.ofNat pb)), .val (.int (Int32.ofNat pd)), .val (.int (Int32.ofNat q)), .val (.ref b6), .val (.int (0 : Int32))] [(.int (Int32.ofNat q)), (.ref b6)])) rfl (by rw [hml]; rfl) (Steps.refl _) (argsL := [(.int (Int32.ofNat q))]) (rest := []) (lenOf pd_0_3 rfl) rfl (by show 2 * 0 + _ ≤ _; exact Nat.le_of_eq rfl) (hb hby at_144) (fun _ _ => ⟨rfl, rfl, (Nat.le_of_ble_eq_true rfl), (Nat.le_of_ble_eq_true rfl)⟩)
  dsimp only [Pt.U, Pt.locs, Pt.cells, Pt.slots] at X11 l11 y11 z11 st11 hQ11
  subst l11 y11 z11
  obtain ⟨rfl, N11q, e11⟩ := hQ11
  have N11 := Fr.app N10 N11q
  have own_ok : (own_sum (own_down 6 q) (own_adds (own_up 6 (n + 1) (pd + 1)) p4 (own_adds (own_up 6 (n + 1) (pb + 1)) p3 (own_adds (own_up 6 (n + 1) (pa + 1)) p2 (fun _ => 0)))) 0) = (0 : Int32) := by
    rw [own_final3 hn hpa hpb hpd hq]
    rw [if_neg (fun z => hc105 ((own_lt (by omega) (by omega)).mpr z))]
    rw [if_neg (fun z => hc118 ((own_lt (by omega) (by omega)).mpr z))]
    rw [if_neg (fun z => hc131 ((own_lt (by omega) (by omega)).mpr z))]
    all_goals simp
  obtain ⟨fs, hr, hrun, hended, hW, hsame⟩ := X11.leave (v := some (.int (1 : Int32))) (fun h => by rw [Bd.returns] at h; cases h)
  refine ⟨_, _, pre0 _ ?_, hrun, hended, _, _, rfl, ?_, ⟨_, rfl⟩, hW, hsame.mono (by decide) (by decide)⟩
  · show Steps p.tables e below (s₁.setTop (mkF m 0 #[.val (.int p1), .val (.int p2), .val (.int p3), .val (.int p4), .val (.int p5), .unset, .unset, .unset, .unset, .unset, .unset, .unset] [])) _
    refine XS.iloadN X0.here hx rfl (hb hby at_0) rfl ?_
    show Steps p.tables e below (s₁.setTop (mkF m 1 #[.val (.int p1), .val (.int p2), .val (.int p3), .val (.int p4), .val (.int p5), .unset, .unset, .unset, .unset, .unset, .unset, .unset] [(.int p1)])) _
    refine XS.sipush X0.here hx rfl (hb hby at_1) ?_
    show Steps p.tables e below (s₁.setTop (mkF m 4 #[.val (.int p1), .val (.int p2), .val (.int p3), .val (.int p4), .val (.int p5), .unset, .unset, .unset, .unset, .unset, .unset, .unset] [(.int (255 : Int32)), (.int p1)])) _
    refine XS.iand X0.here hx rfl (hb hby at_4) rfl ?_
    show Steps p.tables e below (s₁.setTop (mkF m 5 #[.val (.int p1), .val (.int p2), .val (.int p3), .val (.int p4), .val (.int p5), .unset, .unset, .unset, .unset, .unset, .unset, .unset] [(.int (p1 &&& (255 : Int32)))])) _
    refine XS.bipush X0.here hx rfl (hb hby at_5) ?_
    show Steps p.tables e below (s₁.setTop (mkF m 7 #[.val (.int p1), .val (.int p2), .val (.int p3), .val (.int p4), .val (.int p5), .unset, .unset, .unset, .unset, .unset, .unset, .unset] [(.int (12 : Int32)), (.int (p1 &&& (255 : Int32)))])) _
    refine iremM X0 hx rfl (hb hby at_7) rfl (by decide) ?_
    show Steps p.tables e below (s₁.setTop (mkF m 8 #[.val (.int p1), .val (.int p2), .val (.int p3), .val (.int p4), .val (.int p5), .unset, .unset, .unset, .unset, .unset, .unset, .unset] [(.int ((p1 &&& (255 : Int32)) % (12 : Int32)))])) _
    refine XS.iconst X0.here hx rfl (hb hby at_8) ?_
    show Steps p.tables e below (s₁.setTop (mkF m 9 #[.val (.int p1), .val (.int p2), .val (.int p3), .val (.int p4), .val (.int p5), .unset, .unset, .unset, .unset, .unset, .unset, .unset] [(.int (1 : Int32)), (.int ((p1 &&& (255 : Int32)) % (12 : Int32)))])) _
    refine XS.iadd X0.here hx rfl (hb hby at_9) rfl ?_
    rw [hp9]
    show Steps p.tables e below (s₁.setTop (mkF m 10 #[.val (.int p1), .val (.int p2), .val (.int p3), .val (.int p4), .val (.int p5), .unset, .unset, .unset, .unset, .unset, .unset, .unset] [(.int (Int32.ofNat n))])) _
    refine XS.istore X0.here hx rfl (hb hby at_10) rfl (l' := #[.val (.int p1), .val (.int p2), .val (.int p3), .val (.int p4), .val (.int p5), .val (.int (Int32.ofNat n)), .unset, .unset, .unset, .unset, .unset, .unset]) rfl ?_
    show Steps p.tables e below (s₁.setTop (mkF m 12 #[.val (.int p1), .val (.int p2), .val (.int p3), .val (.int p4), .val (.int p5), .val (.int (Int32.ofNat n)), .unset, .unset, .unset, .unset, .unset, .unset] [])) _
    refine XS.iloadN X0.here hx rfl (hb hby at_12) rfl ?_
    show Steps p.tables e below (s₁.setTop (mkF m 13 #[.val (.int p1), .val (.int p2), .val (.int p3), .val (.int p4), .val (.int p5), .val (.int (Int32.ofNat n)), .unset, .unset, .unset, .unset, .unset, .unset] [(.int p1)])) _
    refine XS.bipush X0.here hx rfl (hb hby at_13) ?_
    show Steps p.tables e below (s₁.setTop (mkF m 15 #[.val (.int p1), .val (.int p2), .val (.int p3), .val (.int p4), .val (.int p5), .val (.int (Int32.ofNat n)), .unset, .unset, .unset, .unset, .unset, .unset] [(.int (8 : Int32)), (.int p1)])) _
    refine XS.iushr X0.here hx rfl (hb hby at_15) rfl ?_
    show Steps p.tables e below (s₁.setTop (mkF m 16 #[.val (.int p1), .val (.int p2), .val (.int p3), .val (.int p4), .val (.int p5), .val (.int (Int32.ofNat n)), .unset, .unset, .unset, .unset, .unset, .unset] [(.int ((p1.toUInt32 >>> ((8 : Int32) &&& 31).toUInt32).toInt32))])) _
    refine XS.sipush X0.here hx rfl (hb hby at_16) ?_
    show Steps p.tables e below (s₁.setTop (mkF m 19 #[.val (.int p1), .val (.int p2), .val (.int p3), .val (.int p4), .val (.int p5), .val (.int (Int32.ofNat n)), .unset, .unset, .unset, .unset, .unset, .unset] [(.int (255 : Int32)), (.int ((p1.toUInt32 >>> ((8 : Int32) &&& 31).toUInt32).toInt32))])) _
    refine XS.iand X0.here hx rfl (hb hby at_19) rfl ?_
    show Steps p.tables e below (s₁.setTop (mkF m 20 #[.val (.int p1), .val (.int p2), .val (.int p3), .val (.int p4), .val (.int p5), .val (.int (Int32.ofNat n)), .unset, .unset, .unset, .unset, .unset, .unset] [(.int (((p1.toUInt32 >>> ((8 : Int32) &&& 31).toUInt32).toInt32) &&& (255 : Int32)))])) _
    refine XS.iload X0.here hx rfl (hb hby at_20) rfl ?_
    show Steps p.tables e below (s₁.setTop (mkF m 22 #[.val (.int p1), .val (.int p2), .val (.int p3), .val (.int p4), .val (.int p5), .val (.int (Int32.ofNat n)), .unset, .unset, .unset, .unset, .unset, .unset] [(.int (Int32.ofNat n)), (.int (((p1.toUInt32 >>> ((8 : Int32) &&& 31).toUInt32).toInt32) &&& (255 : Int32)))])) _
    refine iremM X0 hx rfl (hb hby at_22) rfl hnz22 ?_
    rw [hp22]
    show Steps p.tables e below (s₁.setTop (mkF m 23 #[.val (.int p1), .val (.int p2), .val (.int p3), .val (.int p4), .val (.int p5), .val (.int (Int32.ofNat n)), .unset, .unset, .unset, .unset, .unset, .unset] [(.int (Int32.ofNat pa))])) _
    refine XS.istore X0.here hx rfl (hb hby at_23) rfl (l' := #[.val (.int p1), .val (.int p2), .val (.int p3), .val (.int p4), .val (.int p5), .val (.int (Int32.ofNat n)), .val (.int (Int32.ofNat pa)), .unset, .unset, .unset, .unset, .unset]) rfl ?_
    show Steps p.tables e below (s₁.setTop (mkF m 25 #[.val (.int p1), .val (.int p2), .val (.int p3), .val (.int p4), .val (.int p5), .val (.int (Int32.ofNat n)), .val (.int (Int32.ofNat pa)), .unset, .unset, .unset, .unset, .unset] [])) _
    refine XS.iloadN X0.here hx rfl (hb hby at_25) rfl ?_
    show Steps p.tables e below (s₁.setTop (mkF m 26 #[.val (.int p1), .val (.int p2), .val (.int p3), .val (.int p4), .val (.int p5), .val (.int (Int32.ofNat n)), .val (.int (Int32.ofNat pa)), .unset, .unset, .unset, .unset, .unset] [(.int p1)])) _
    refine XS.bipush X0.here hx rfl (hb hby at_26) ?_
    show Steps p.tables e below (s₁.setTop (mkF m 28 #[.val (.int p1), .val (.int p2), .val (.int p3), .val (.int p4), .val (.int p5), .val (.int (Int32.ofNat n)), .val (.int (Int32.ofNat pa)), .unset, .unset, .unset, .unset, .unset] [(.int (16 : Int32)), (.int p1)])) _
    refine XS.iushr X0.here hx rfl (hb hby at_28) rfl ?_
    show Steps p.tables e below (s₁.setTop (mkF m 29 #[.val (.int p1), .val (.int p2), .val (.int p3), .val (.int p4), .val (.int p5), .val (.int (Int32.ofNat n)), .val (.int (Int32.ofNat pa)), .unset, .unset, .unset, .unset, .unset] [(.int ((p1.toUInt32 >>> ((16 : Int32) &&& 31).toUInt32).toInt32))])) _
    refine XS.sipush X0.here hx rfl (hb hby at_29) ?_
    show Steps p.tables e below (s₁.setTop (mkF m 32 #[.val (.int p1), .val (.int p2), .val (.int p3), .val (.int p4), .val (.int p5), .val (.int (Int32.ofNat n)), .val (.int (Int32.ofNat pa)), .unset, .unset, .unset, .unset, .unset] [(.int (255 : Int32)), (.int ((p1.toUInt32 >>> ((16 : Int32) &&& 31).toUInt32).toInt32))])) _
    refine XS.iand X0.here hx rfl (hb hby at_32) rfl ?_
    show Steps p.tables e below (s₁.setTop (mkF m 33 #[.val (.int p1), .val (.int p2), .val (.int p3), .val (.int p4), .val (.int p5), .val (.int (Int32.ofNat n)), .val (.int (Int32.ofNat pa)), .unset, .unset, .unset, .unset, .unset] [(.int (((p1.toUInt32 >>> ((16 : Int32) &&& 31).toUInt32).toInt32) &&& (255 : Int32)))])) _
    refine XS.iload X0.here hx rfl (hb hby at_33) rfl ?_
    show Steps p.tables e below (s₁.setTop (mkF m 35 #[.val (.int p1), .val (.int p2), .val (.int p3), .val (.int p4), .val (.int p5), .val (.int (Int32.ofNat n)), .val (.int (Int32.ofNat pa)), .unset, .unset, .unset, .unset, .unset] [(.int (Int32.ofNat n)), (.int (((p1.toUInt32 >>> ((16 : Int32) &&& 31).toUInt32).toInt32) &&& (255 : Int32)))])) _
    refine iremM X0 hx rfl (hb hby at_35) rfl hnz35 ?_
    rw [hp35]
    show Steps p.tables e below (s₁.setTop (mkF m 36 #[.val (.int p1), .val (.int p2), .val (.int p3), .val (.int p4), .val (.int p5), .val (.int (Int32.ofNat n)), .val (.int (Int32.ofNat pa)), .unset, .unset, .unset, .unset, .unset] [(.int (Int32.ofNat pb))])) _
    refine XS.istore X0.here hx rfl (hb hby at_36) rfl (l' := #[.val (.int p1), .val (.int p2), .val (.int p3), .val (.int p4), .val (.int p5), .val (.int (Int32.ofNat n)), .val (.int (Int32.ofNat pa)), .val (.int (Int32.ofNat pb)), .unset, .unset, .unset, .unset]) rfl ?_
    show Steps p.tables e below (s₁.setTop (mkF m 38 #[.val (.int p1), .val (.int p2), .val (.int p3), .val (.int p4), .val (.int p5), .val (.int (Int32.ofNat n)), .val (.int (Int32.ofNat pa)), .val (.int (Int32.ofNat pb)), .unset, .unset, .unset, .unset] [])) _
    refine XS.iloadN X0.here hx rfl (hb hby at_38) rfl ?_
    show Steps p.tables e below (s₁.setTop (mkF m 39 #[.val (.int p1), .val (.int p2), .val (.int p3), .val (.int p4), .val (.int p5), .val (.int (Int32.ofNat n)), .val (.int (Int32.ofNat pa)), .val (.int (Int32.ofNat pb)), .unset, .unset, .unset, .unset] [(.int p1)])) _
    refine XS.bipush X0.here hx rfl (hb hby at_39) ?_
    show Steps p.tables e below (s₁.setTop (mkF m 41 #[.val (.int p1), .val (.int p2), .val (.int p3), .val (.int p4), .val (.int p5), .val (.int (Int32.ofNat n)), .val (.int (Int32.ofNat pa)), .val (.int (Int32.ofNat pb)), .unset, .unset, .unset, .unset] [(.int (24 : Int32)), (.int p1)])) _
    refine XS.iushr X0.here hx rfl (hb hby at_41) rfl ?_
    show Steps p.tables e below (s₁.setTop (mkF m 42 #[.val (.int p1), .val (.int p2), .val (.int p3), .val (.int p4), .val (.int p5), .val (.int (Int32.ofNat n)), .val (.int (Int32.ofNat pa)), .val (.int (Int32.ofNat pb)), .unset, .unset, .unset, .unset] [(.int ((p1.toUInt32 >>> ((24 : Int32) &&& 31).toUInt32).toInt32))])) _
    refine XS.sipush X0.here hx rfl (hb hby at_42) ?_
    show Steps p.tables e below (s₁.setTop (mkF m 45 #[.val (.int p1), .val (.int p2), .val (.int p3), .val (.int p4), .val (.int p5), .val (.int (Int32.ofNat n)), .val (.int (Int32.ofNat pa)), .val (.int (Int32.ofNat pb)), .unset, .unset, .unset, .unset] [(.int (255 : Int32)), (.int ((p1.toUInt32 >>> ((24 : Int32) &&& 31).toUInt32).toInt32))])) _
    refine XS.iand X0.here hx rfl (hb hby at_45) rfl ?_
    show Steps p.tables e below (s₁.setTop (mkF m 46 #[.val (.int p1), .val (.int p2), .val (.int p3), .val (.int p4), .val (.int p5), .val (.int (Int32.ofNat n)), .val (.int (Int32.ofNat pa)), .val (.int (Int32.ofNat pb)), .unset, .unset, .unset, .unset] [(.int (((p1.toUInt32 >>> ((24 : Int32) &&& 31).toUInt32).toInt32) &&& (255 : Int32)))])) _
    refine XS.iload X0.here hx rfl (hb hby at_46) rfl ?_
    show Steps p.tables e below (s₁.setTop (mkF m 48 #[.val (.int p1), .val (.int p2), .val (.int p3), .val (.int p4), .val (.int p5), .val (.int (Int32.ofNat n)), .val (.int (Int32.ofNat pa)), .val (.int (Int32.ofNat pb)), .unset, .unset, .unset, .unset] [(.int (Int32.ofNat n)), (.int (((p1.toUInt32 >>> ((24 : Int32) &&& 31).toUInt32).toInt32) &&& (255 : Int32)))])) _
    refine iremM X0 hx rfl (hb hby at_48) rfl hnz48 ?_
    rw [hp48]
    show Steps p.tables e below (s₁.setTop (mkF m 49 #[.val (.int p1), .val (.int p2), .val (.int p3), .val (.int p4), .val (.int p5), .val (.int (Int32.ofNat n)), .val (.int (Int32.ofNat pa)), .val (.int (Int32.ofNat pb)), .unset, .unset, .unset, .unset] [(.int (Int32.ofNat pd))])) _
    refine XS.istore X0.here hx rfl (hb hby at_49) rfl (l' := #[.val (.int p1), .val (.int p2), .val (.int p3), .val (.int p4), .val (.int p5), .val (.int (Int32.ofNat n)), .val (.int (Int32.ofNat pa)), .val (.int (Int32.ofNat pb)), .val (.int (Int32.ofNat pd)), .unset, .unset, .unset]) rfl ?_
    show Steps p.tables e below (s₁.setTop (mkF m 51 #[.val (.int p1), .val (.int p2), .val (.int p3), .val (.int p4), .val (.int p5), .val (.int (Int32.ofNat n)), .val (.int (Int32.ofNat pa)), .val (.int (Int32.ofNat pb)), .val (.int (Int32.ofNat pd)), .unset, .unset, .unset] [])) _
    refine XS.iload X0.here hx rfl (hb hby at_51) rfl ?_
    show Steps p.tables e below (s₁.setTop (mkF m 53 #[.val (.int p1), .val (.int p2), .val (.int p3), .val (.int p4), .val (.int p5), .val (.int (Int32.ofNat n)), .val (.int (Int32.ofNat pa)), .val (.int (Int32.ofNat pb)), .val (.int (Int32.ofNat pd)), .unset, .unset, .unset] [(.int p5)])) _
    refine X0.ldcInt hx hown (mvT hZ (hw _ (List.mem_of_getElem? (i := 0) rfl))) (g := (mkF m 53 #[.val (.int p1), .val (.int p2), .val (.int p3), .val (.int p4), .val (.int p5), .val (.int (Int32.ofNat n)), .val (.int (Int32.ofNat pa)), .val (.int (Int32.ofNat pb)), .val (.int (Int32.ofNat pd)), .unset, .unset, .unset] [(.int p5)])) rfl (hb hby at_53) _ ?_
    show Steps p.tables e below (s₁.setTop (mkF m 55 #[.val (.int p1), .val (.int p2), .val (.int p3), .val (.int p4), .val (.int p5), .val (.int (Int32.ofNat n)), .val (.int (Int32.ofNat pa)), .val (.int (Int32.ofNat pb)), .val (.int (Int32.ofNat pd)), .unset, .unset, .unset] [(.int (2147483647 : Int32)), (.int p5)])) _
    refine XS.iand X0.here hx rfl (hb hby at_55) rfl ?_
    show Steps p.tables e below (s₁.setTop (mkF m 56 #[.val (.int p1), .val (.int p2), .val (.int p3), .val (.int p4), .val (.int p5), .val (.int (Int32.ofNat n)), .val (.int (Int32.ofNat pa)), .val (.int (Int32.ofNat pb)), .val (.int (Int32.ofNat pd)), .unset, .unset, .unset] [(.int (p5 &&& (2147483647 : Int32)))])) _
    refine XS.iload X0.here hx rfl (hb hby at_56) rfl ?_
    show Steps p.tables e below (s₁.setTop (mkF m 58 #[.val (.int p1), .val (.int p2), .val (.int p3), .val (.int p4), .val (.int p5), .val (.int (Int32.ofNat n)), .val (.int (Int32.ofNat pa)), .val (.int (Int32.ofNat pb)), .val (.int (Int32.ofNat pd)), .unset, .unset, .unset] [(.int (Int32.ofNat n)), (.int (p5 &&& (2147483647 : Int32)))])) _
    refine XS.iconst X0.here hx rfl (hb hby at_58) ?_
    show Steps p.tables e below (s₁.setTop (mkF m 59 #[.val (.int p1), .val (.int p2), .val (.int p3), .val (.int p4), .val (.int p5), .val (.int (Int32.ofNat n)), .val (.int (Int32.ofNat pa)), .val (.int (Int32.ofNat pb)), .val (.int (Int32.ofNat pd)), .unset, .unset, .unset] [(.int (1 : Int32)), (.int (Int32.ofNat n)), (.int (p5 &&& (2147483647 : Int32)))])) _
    refine XS.iadd X0.here hx rfl (hb hby at_59) rfl ?_
    show Steps p.tables e below (s₁.setTop (mkF m 60 #[.val (.int p1), .val (.int p2), .val (.int p3), .val (.int p4), .val (.int p5), .val (.int (Int32.ofNat n)), .val (.int (Int32.ofNat pa)), .val (.int (Int32.ofNat pb)), .val (.int (Int32.ofNat pd)), .unset, .unset, .unset] [(.int ((Int32.ofNat n) + (1 : Int32))), (.int (p5 &&& (2147483647 : Int32)))])) _
    refine iremM X0 hx rfl (hb hby at_60) rfl hnz60 ?_
    rw [hp60]
    show Steps p.tables e below (s₁.setTop (mkF m 61 #[.val (.int p1), .val (.int p2), .val (.int p3), .val (.int p4), .val (.int p5), .val (.int (Int32.ofNat n)), .val (.int (Int32.ofNat pa)), .val (.int (Int32.ofNat pb)), .val (.int (Int32.ofNat pd)), .unset, .unset, .unset] [(.int (Int32.ofNat q))])) _
    refine XS.istore X0.here hx rfl (hb hby at_61) rfl (l' := #[.val (.int p1), .val (.int p2), .val (.int p3), .val (.int p4), .val (.int p5), .val (.int (Int32.ofNat n)), .val (.int (Int32.ofNat pa)), .val (.int (Int32.ofNat pb)), .val (.int (Int32.ofNat pd)), .val (.int (Int32.ofNat q)), .unset, .unset]) rfl ?_
    show Steps p.tables e below (s₁.setTop (mkF m 63 #[.val (.int p1), .val (.int p2), .val (.int p3), .val (.int p4), .val (.int p5), .val (.int (Int32.ofNat n)), .val (.int (Int32.ofNat pa)), .val (.int (Int32.ofNat pb)), .val (.int (Int32.ofNat pd)), .val (.int (Int32.ofNat q)), .unset, .unset] [])) _
    refine st6 _ ?_
    show Steps p.tables e below (T6.setTop (mkF m 66 #[.val (.int p1), .val (.int p2), .val (.int p3), .val (.int p4), .val (.int p5), .val (.int (Int32.ofNat n)), .val (.int (Int32.ofNat pa)), .val (.int (Int32.ofNat pb)), .val (.int (Int32.ofNat pd)), .val (.int (Int32.ofNat q)), .unset, .unset] [(.ref b6)])) _
    refine XS.dup X6.here hx rfl (hb hby at_66) rfl rfl ?_
    show Steps p.tables e below (T6.setTop (mkF m 67 #[.val (.int p1), .val (.int p2), .val (.int p3), .val (.int p4), .val (.int p5), .val (.int (Int32.ofNat n)), .val (.int (Int32.ofNat pa)), .val (.int (Int32.ofNat pb)), .val (.int (Int32.ofNat pd)), .val (.int (Int32.ofNat q)), .unset, .unset] [(.ref b6), (.ref b6)])) _
    refine XS.iload X6.here hx rfl (hb hby at_67) rfl ?_
    show Steps p.tables e below (T6.setTop (mkF m 69 #[.val (.int p1), .val (.int p2), .val (.int p3), .val (.int p4), .val (.int p5), .val (.int (Int32.ofNat n)), .val (.int (Int32.ofNat pa)), .val (.int (Int32.ofNat pb)), .val (.int (Int32.ofNat pd)), .val (.int (Int32.ofNat q)), .unset, .unset] [(.int (Int32.ofNat n)), (.ref b6), (.ref b6)])) _
    refine st7.trans ?_
    show Steps p.tables e below (T7.setTop (mkF m 72 #[.val (.int p1), .val (.int p2), .val (.int p3), .val (.int p4), .val (.int p5), .val (.int (Int32.ofNat n)), .val (.int (Int32.ofNat pa)), .val (.int (Int32.ofNat pb)), .val (.int (Int32.ofNat pd)), .val (.int (Int32.ofNat q)), .unset, .unset] [(.ref b6)])) _
    refine XS.astore X7.here hx rfl (hb hby at_72) rfl rfl (l' := #[.val (.int p1), .val (.int p2), .val (.int p3), .val (.int p4), .val (.int p5), .val (.int (Int32.ofNat n)), .val (.int (Int32.ofNat pa)), .val (.int (Int32.ofNat pb)), .val (.int (Int32.ofNat pd)), .val (.int (Int32.ofNat q)), .val (.ref b6), .unset]) rfl ?_
    show Steps p.tables e below (T7.setTop (mkF m 74 #[.val (.int p1), .val (.int p2), .val (.int p3), .val (.int p4), .val (.int p5), .val (.int (Int32.ofNat n)), .val (.int (Int32.ofNat pa)), .val (.int (Int32.ofNat pb)), .val (.int (Int32.ofNat pd)), .val (.int (Int32.ofNat q)), .val (.ref b6), .unset] [])) _
    refine XS.aload X7.here hx rfl (hb hby at_74) rfl rfl ?_
    show Steps p.tables e below (T7.setTop (mkF m 76 #[.val (.int p1), .val (.int p2), .val (.int p3), .val (.int p4), .val (.int p5), .val (.int (Int32.ofNat n)), .val (.int (Int32.ofNat pa)), .val (.int (Int32.ofNat pb)), .val (.int (Int32.ofNat pd)), .val (.int (Int32.ofNat q)), .val (.ref b6), .unset] [(.ref b6)])) _
    refine XS.iload X7.here hx rfl (hb hby at_76) rfl ?_
    show Steps p.tables e below (T7.setTop (mkF m 78 #[.val (.int p1), .val (.int p2), .val (.int p3), .val (.int p4), .val (.int p5), .val (.int (Int32.ofNat n)), .val (.int (Int32.ofNat pa)), .val (.int (Int32.ofNat pb)), .val (.int (Int32.ofNat pd)), .val (.int (Int32.ofNat q)), .val (.ref b6), .unset] [(.int (Int32.ofNat pa)), (.ref b6)])) _
    refine XS.iloadN X7.here hx rfl (hb hby at_78) rfl ?_
    show Steps p.tables e below (T7.setTop (mkF m 79 #[.val (.int p1), .val (.int p2), .val (.int p3), .val (.int p4), .val (.int p5), .val (.int (Int32.ofNat n)), .val (.int (Int32.ofNat pa)), .val (.int (Int32.ofNat pb)), .val (.int (Int32.ofNat pd)), .val (.int (Int32.ofNat q)), .val (.ref b6), .unset] [(.int p2), (.int (Int32.ofNat pa)), (.ref b6)])) _
    refine st8.trans ?_
    show Steps p.tables e below (T8.setTop (mkF m 82 #[.val (.int p1), .val (.int p2), .val (.int p3), .val (.int p4), .val (.int p5), .val (.int (Int32.ofNat n)), .val (.int (Int32.ofNat pa)), .val (.int (Int32.ofNat pb)), .val (.int (Int32.ofNat pd)), .val (.int (Int32.ofNat q)), .val (.ref b6), .unset] [])) _
    refine XS.aload X8.here hx rfl (hb hby at_82) rfl rfl ?_
    show Steps p.tables e below (T8.setTop (mkF m 84 #[.val (.int p1), .val (.int p2), .val (.int p3), .val (.int p4), .val (.int p5), .val (.int (Int32.ofNat n)), .val (.int (Int32.ofNat pa)), .val (.int (Int32.ofNat pb)), .val (.int (Int32.ofNat pd)), .val (.int (Int32.ofNat q)), .val (.ref b6), .unset] [(.ref b6)])) _
    refine XS.iload X8.here hx rfl (hb hby at_84) rfl ?_
    show Steps p.tables e below (T8.setTop (mkF m 86 #[.val (.int p1), .val (.int p2), .val (.int p3), .val (.int p4), .val (.int p5), .val (.int (Int32.ofNat n)), .val (.int (Int32.ofNat pa)), .val (.int (Int32.ofNat pb)), .val (.int (Int32.ofNat pd)), .val (.int (Int32.ofNat q)), .val (.ref b6), .unset] [(.int (Int32.ofNat pb)), (.ref b6)])) _
    refine XS.iloadN X8.here hx rfl (hb hby at_86) rfl ?_
    show Steps p.tables e below (T8.setTop (mkF m 87 #[.val (.int p1), .val (.int p2), .val (.int p3), .val (.int p4), .val (.int p5), .val (.int (Int32.ofNat n)), .val (.int (Int32.ofNat pa)), .val (.int (Int32.ofNat pb)), .val (.int (Int32.ofNat pd)), .val (.int (Int32.ofNat q)), .val (.ref b6), .unset] [(.int p3), (.int (Int32.ofNat pb)), (.ref b6)])) _
    refine st9.trans ?_
    show Steps p.tables e below (T9.setTop (mkF m 90 #[.val (.int p1), .val (.int p2), .val (.int p3), .val (.int p4), .val (.int p5), .val (.int (Int32.ofNat n)), .val (.int (Int32.ofNat pa)), .val (.int (Int32.ofNat pb)), .val (.int (Int32.ofNat pd)), .val (.int (Int32.ofNat q)), .val (.ref b6), .unset] [])) _
    refine XS.aload X9.here hx rfl (hb hby at_90) rfl rfl ?_
    show Steps p.tables e below (T9.setTop (mkF m 92 #[.val (.int p1), .val (.int p2), .val (.int p3), .val (.int p4), .val (.int p5), .val (.int (Int32.ofNat n)), .val (.int (Int32.ofNat pa)), .val (.int (Int32.ofNat pb)), .val (.int (Int32.ofNat pd)), .val (.int (Int32.ofNat q)), .val (.ref b6), .unset] [(.ref b6)])) _
    refine XS.iload X9.here hx rfl (hb hby at_92) rfl ?_
    show Steps p.tables e below (T9.setTop (mkF m 94 #[.val (.int p1), .val (.int p2), .val (.int p3), .val (.int p4), .val (.int p5), .val (.int (Int32.ofNat n)), .val (.int (Int32.ofNat pa)), .val (.int (Int32.ofNat pb)), .val (.int (Int32.ofNat pd)), .val (.int (Int32.ofNat q)), .val (.ref b6), .unset] [(.int (Int32.ofNat pd)), (.ref b6)])) _
    refine XS.iloadN X9.here hx rfl (hb hby at_94) rfl ?_
    show Steps p.tables e below (T9.setTop (mkF m 95 #[.val (.int p1), .val (.int p2), .val (.int p3), .val (.int p4), .val (.int p5), .val (.int (Int32.ofNat n)), .val (.int (Int32.ofNat pa)), .val (.int (Int32.ofNat pb)), .val (.int (Int32.ofNat pd)), .val (.int (Int32.ofNat q)), .val (.ref b6), .unset] [(.int p4), (.int (Int32.ofNat pd)), (.ref b6)])) _
    refine st10.trans ?_
    show Steps p.tables e below (T10.setTop (mkF m 98 #[.val (.int p1), .val (.int p2), .val (.int p3), .val (.int p4), .val (.int p5), .val (.int (Int32.ofNat n)), .val (.int (Int32.ofNat pa)), .val (.int (Int32.ofNat pb)), .val (.int (Int32.ofNat pd)), .val (.int (Int32.ofNat q)), .val (.ref b6), .unset] [])) _
    refine XS.iconst X10.here hx rfl (hb hby at_98) ?_
    show Steps p.tables e below (T10.setTop (mkF m 99 #[.val (.int p1), .val (.int p2), .val (.int p3), .val (.int p4), .val (.int p5), .val (.int (Int32.ofNat n)), .val (.int (Int32.ofNat pa)), .val (.int (Int32.ofNat pb)), .val (.int (Int32.ofNat pd)), .val (.int (Int32.ofNat q)), .val (.ref b6), .unset] [(.int (0 : Int32))])) _
    refine XS.istore X10.here hx rfl (hb hby at_99) rfl (l' := #[.val (.int p1), .val (.int p2), .val (.int p3), .val (.int p4), .val (.int p5), .val (.int (Int32.ofNat n)), .val (.int (Int32.ofNat pa)), .val (.int (Int32.ofNat pb)), .val (.int (Int32.ofNat pd)), .val (.int (Int32.ofNat q)), .val (.ref b6), .val (.int (0 : Int32))]) rfl ?_
    show Steps p.tables e below (T10.setTop (mkF m 101 #[.val (.int p1), .val (.int p2), .val (.int p3), .val (.int p4), .val (.int p5), .val (.int (Int32.ofNat n)), .val (.int (Int32.ofNat pa)), .val (.int (Int32.ofNat pb)), .val (.int (Int32.ofNat pd)), .val (.int (Int32.ofNat q)), .val (.ref b6), .val (.int (0 : Int32))] [])) _
    refine XS.iload X10.here hx rfl (hb hby at_101) rfl ?_
    show Steps p.tables e below (T10.setTop (mkF m 103 #[.val (.int p1), .val (.int p2), .val (.int p3), .val (.int p4), .val (.int p5), .val (.int (Int32.ofNat n)), .val (.int (Int32.ofNat pa)), .val (.int (Int32.ofNat pb)), .val (.int (Int32.ofNat pd)), .val (.int (Int32.ofNat q)), .val (.ref b6), .val (.int (0 : Int32))] [(.int (Int32.ofNat pa))])) _
    refine XS.iload X10.here hx rfl (hb hby at_103) rfl ?_
    show Steps p.tables e below (T10.setTop (mkF m 105 #[.val (.int p1), .val (.int p2), .val (.int p3), .val (.int p4), .val (.int p5), .val (.int (Int32.ofNat n)), .val (.int (Int32.ofNat pa)), .val (.int (Int32.ofNat pb)), .val (.int (Int32.ofNat pd)), .val (.int (Int32.ofNat q)), .val (.ref b6), .val (.int (0 : Int32))] [(.int (Int32.ofNat q)), (.int (Int32.ofNat pa))])) _
    refine XS.icmpYes X10.here hx rfl (pc0 := 105) (pc' := 114) rfl (hb hby at_105) rfl (flt hc105).2.1 (by decide) (by decide) ?_
    show Steps p.tables e below (T10.setTop (mkF m 114 #[.val (.int p1), .val (.int p2), .val (.int p3), .val (.int p4), .val (.int p5), .val (.int (Int32.ofNat n)), .val (.int (Int32.ofNat pa)), .val (.int (Int32.ofNat pb)), .val (.int (Int32.ofNat pd)), .val (.int (Int32.ofNat q)), .val (.ref b6), .val (.int (0 : Int32))] [])) _
    refine XS.iload X10.here hx rfl (hb hby at_114) rfl ?_
    show Steps p.tables e below (T10.setTop (mkF m 116 #[.val (.int p1), .val (.int p2), .val (.int p3), .val (.int p4), .val (.int p5), .val (.int (Int32.ofNat n)), .val (.int (Int32.ofNat pa)), .val (.int (Int32.ofNat pb)), .val (.int (Int32.ofNat pd)), .val (.int (Int32.ofNat q)), .val (.ref b6), .val (.int (0 : Int32))] [(.int (Int32.ofNat pb))])) _
    refine XS.iload X10.here hx rfl (hb hby at_116) rfl ?_
    show Steps p.tables e below (T10.setTop (mkF m 118 #[.val (.int p1), .val (.int p2), .val (.int p3), .val (.int p4), .val (.int p5), .val (.int (Int32.ofNat n)), .val (.int (Int32.ofNat pa)), .val (.int (Int32.ofNat pb)), .val (.int (Int32.ofNat pd)), .val (.int (Int32.ofNat q)), .val (.ref b6), .val (.int (0 : Int32))] [(.int (Int32.ofNat q)), (.int (Int32.ofNat pb))])) _
    refine XS.icmpYes X10.here hx rfl (pc0 := 118) (pc' := 127) rfl (hb hby at_118) rfl (flt hc118).2.1 (by decide) (by decide) ?_
    show Steps p.tables e below (T10.setTop (mkF m 127 #[.val (.int p1), .val (.int p2), .val (.int p3), .val (.int p4), .val (.int p5), .val (.int (Int32.ofNat n)), .val (.int (Int32.ofNat pa)), .val (.int (Int32.ofNat pb)), .val (.int (Int32.ofNat pd)), .val (.int (Int32.ofNat q)), .val (.ref b6), .val (.int (0 : Int32))] [])) _
    refine XS.iload X10.here hx rfl (hb hby at_127) rfl ?_
    show Steps p.tables e below (T10.setTop (mkF m 129 #[.val (.int p1), .val (.int p2), .val (.int p3), .val (.int p4), .val (.int p5), .val (.int (Int32.ofNat n)), .val (.int (Int32.ofNat pa)), .val (.int (Int32.ofNat pb)), .val (.int (Int32.ofNat pd)), .val (.int (Int32.ofNat q)), .val (.ref b6), .val (.int (0 : Int32))] [(.int (Int32.ofNat pd))])) _
    refine XS.iload X10.here hx rfl (hb hby at_129) rfl ?_
    show Steps p.tables e below (T10.setTop (mkF m 131 #[.val (.int p1), .val (.int p2), .val (.int p3), .val (.int p4), .val (.int p5), .val (.int (Int32.ofNat n)), .val (.int (Int32.ofNat pa)), .val (.int (Int32.ofNat pb)), .val (.int (Int32.ofNat pd)), .val (.int (Int32.ofNat q)), .val (.ref b6), .val (.int (0 : Int32))] [(.int (Int32.ofNat q)), (.int (Int32.ofNat pd))])) _
    refine XS.icmpYes X10.here hx rfl (pc0 := 131) (pc' := 140) rfl (hb hby at_131) rfl (flt hc131).2.1 (by decide) (by decide) ?_
    show Steps p.tables e below (T10.setTop (mkF m 140 #[.val (.int p1), .val (.int p2), .val (.int p3), .val (.int p4), .val (.int p5), .val (.int (Int32.ofNat n)), .val (.int (Int32.ofNat pa)), .val (.int (Int32.ofNat pb)), .val (.int (Int32.ofNat pd)), .val (.int (Int32.ofNat q)), .val (.ref b6), .val (.int (0 : Int32))] [])) _
    refine XS.aload X10.here hx rfl (hb hby at_140) rfl rfl ?_
    show Steps p.tables e below (T10.setTop (mkF m 142 #[.val (.int p1), .val (.int p2), .val (.int p3), .val (.int p4), .val (.int p5), .val (.int (Int32.ofNat n)), .val (.int (Int32.ofNat pa)), .val (.int (Int32.ofNat pb)), .val (.int (Int32.ofNat pd)), .val (.int (Int32.ofNat q)), .val (.ref b6), .val (.int (0 : Int32))] [(.ref b6)])) _
    refine XS.iload X10.here hx rfl (hb hby at_142) rfl ?_
    show Steps p.tables e below (T10.setTop (mkF m 144 #[.val (.int p1), .val (.int p2), .val (.int p3), .val (.int p4), .val (.int p5), .val (.int (Int32.ofNat n)), .val (.int (Int32.ofNat pa)), .val (.int (Int32.ofNat pb)), .val (.int (Int32.ofNat pd)), .val (.int (Int32.ofNat q)), .val (.ref b6), .val (.int (0 : Int32))] [(.int (Int32.ofNat q)), (.ref b6)])) _
    refine st11.trans ?_
    show Steps p.tables e below (T11.setTop (mkF m 147 #[.val (.int p1), .val (.int p2), .val (.int p3), .val (.int p4), .val (.int p5), .val (.int (Int32.ofNat n)), .val (.int (Int32.ofNat pa)), .val (.int (Int32.ofNat pb)), .val (.int (Int32.ofNat pd)), .val (.int (Int32.ofNat q)), .val (.ref b6), .val (.int (0 : Int32))] [(.int (own_sum (own_down 6 q) (own_adds (own_up 6 (n + 1) (pd + 1)) p4 (own_adds (own_up 6 (n + 1) (pb + 1)) p3 (own_adds (own_up 6 (n + 1) (pa + 1)) p2 (fun _ => 0)))) 0))])) _
    refine XS.iload X11.here hx rfl (hb hby at_147) rfl ?_
    show Steps p.tables e below (T11.setTop (mkF m 149 #[.val (.int p1), .val (.int p2), .val (.int p3), .val (.int p4), .val (.int p5), .val (.int (Int32.ofNat n)), .val (.int (Int32.ofNat pa)), .val (.int (Int32.ofNat pb)), .val (.int (Int32.ofNat pd)), .val (.int (Int32.ofNat q)), .val (.ref b6), .val (.int (0 : Int32))] [(.int (0 : Int32)), (.int (own_sum (own_down 6 q) (own_adds (own_up 6 (n + 1) (pd + 1)) p4 (own_adds (own_up 6 (n + 1) (pb + 1)) p3 (own_adds (own_up 6 (n + 1) (pa + 1)) p2 (fun _ => 0)))) 0))])) _
    refine XS.icmpNo X11.here hx rfl (hb hby at_149) rfl (teq (own_ok : (own_sum (own_down 6 q) (own_adds (own_up 6 (n + 1) (pd + 1)) p4 (own_adds (own_up 6 (n + 1) (pb + 1)) p3 (own_adds (own_up 6 (n + 1) (pa + 1)) p2 (fun _ => 0)))) 0) = (0 : Int32))).2 ?_
    show Steps p.tables e below (T11.setTop (mkF m 152 #[.val (.int p1), .val (.int p2), .val (.int p3), .val (.int p4), .val (.int p5), .val (.int (Int32.ofNat n)), .val (.int (Int32.ofNat pa)), .val (.int (Int32.ofNat pb)), .val (.int (Int32.ofNat pd)), .val (.int (Int32.ofNat q)), .val (.ref b6), .val (.int (0 : Int32))] [])) _
    refine XS.iconst X11.here hx rfl (hb hby at_152) ?_
    show Steps p.tables e below (T11.setTop (mkF m 153 #[.val (.int p1), .val (.int p2), .val (.int p3), .val (.int p4), .val (.int p5), .val (.int (Int32.ofNat n)), .val (.int (Int32.ofNat pa)), .val (.int (Int32.ofNat pb)), .val (.int (Int32.ofNat pd)), .val (.int (Int32.ofNat q)), .val (.ref b6), .val (.int (0 : Int32))] [(.int (1 : Int32))])) _
    refine XS.goto X11.here hx rfl (pc0 := 153) (pc' := 157) rfl (hb hby at_153) (by decide) (by decide) ?_
    show Steps p.tables e below (T11.setTop (mkF m 157 #[.val (.int p1), .val (.int p2), .val (.int p3), .val (.int p4), .val (.int p5), .val (.int (Int32.ofNat n)), .val (.int (Int32.ofNat pa)), .val (.int (Int32.ofNat pb)), .val (.int (Int32.ofNat pd)), .val (.int (Int32.ofNat q)), .val (.ref b6), .val (.int (0 : Int32))] [(.int (1 : Int32))])) _
    exact retN X11 hx (t := .boolean) Bd.returns (by simp) (hb hby at_157) hr
  · show Q0_tttf Z p1 p2 p3 p4 p5 h0 n0 _ T11.heap _
    exact ⟨rfl, N11⟩
theorem own_len (x : Int32) : ∃ n : Nat, 1 ≤ n ∧ n ≤ 12 ∧ ((x &&& (255 : Int32)) % (12 : Int32)) + (1 : Int32) = Int32.ofNat n := by
  obtain ⟨t, ht, e⟩ := own_maskrem x 255 12 (by decide) (by decide) (by decide)
  have e' : (x &&& (255 : Int32)) % (12 : Int32) = Int32.ofNat t := e
  exact ⟨t + 1, by omega, by omega, by rw [e', own_one]⟩
set_option maxRecDepth 65536 in
set_option maxHeartbeats 40000000 in
theorem comes_1 {Post : Tables → Env → Array Value → State → Outcome → State → Prop} (hpost : ∀ tb e args s v u, (limb_1_1.after args s (.returned v) u = true ∧ limb_1_2.after args s (.returned v) u = true ∧ True) → FrameEnd s (.returned v) u (Jvm.fieldLocs frame_1_writes args s ++ Jvm.arrayLocs frame_1_arrays args s ++ Jvm.staticLocs frame_1_statics s) 16 128 → Post tb e args s (.returned v) u) :
    ArmFor flags0 classFile x code maxLocals ret World_1 tables_1 room_1 Calls_1 rest_1 Pre_1 Post := by
  intro l hfl _ _ p e ha hc hk s m args below hf hA hF happ hP
  obtain ⟨hcalls, hrest, hpre⟩ := hP
  obtain ⟨-, -, -, hnamed, -, -, -, hat⟩ := (Spec.applies_iff hf).mp happ
  obtain ⟨hg, hn⟩ := and_e (Cond.before_iff.mp (show (Jvm.Cond.and given_1 narrow_1).before args s = true from hpre))
  obtain ⟨g12, g13⟩ := and_e hg
  obtain ⟨g14, g15⟩ := and_e g13
  obtain ⟨g16, g17⟩ := and_e g15
  obtain ⟨g18, g19⟩ := and_e g17
  obtain ⟨g20, g21⟩ := and_e g19
  obtain ⟨w0, w1, w2, w3, w4, rfl⟩ : ∃ w0 w1 w2 w3 w4 : Value, args = #[w0, w1, w2, w3, w4] := by
    have hs : args.size = 5 := by simpa [Cond.value, given_1] using g12
    obtain ⟨L⟩ := args
    match L, hs with
    | [w0, w1, w2, w3, w4], _ => exact ⟨w0, w1, w2, w3, w4, rfl⟩
  have hw := fun d (hd : d ∈ tables_1) => atoms_spec (ws := Jvm.Cond.code x code maxLocals ret :: tables_1) hat d (List.mem_cons_of_mem _ hd)
  have hfit : Fit s := fun {y c} hc i hi => by
    obtain ⟨ha, rfl⟩ := Array.getElem?_eq_some_iff.mp hc
    have q := List.all_eq_true.mp ((Array.all_eq_true_iff_forall_mem.mp hF) _ (Array.getElem_mem ha)) i (List.mem_range.mpr hi)
    simpa [Array.getElem?_eq_getElem hi] using q
  obtain ⟨i0, ei0⟩ := is_v g14
  obtain rfl : w0 = (.int i0) := Option.some.inj ei0
  obtain ⟨i1, ei1⟩ := is_v g16
  obtain rfl : w1 = (.int i1) := Option.some.inj ei1
  obtain ⟨i2, ei2⟩ := is_v g18
  obtain rfl : w2 = (.int i2) := Option.some.inj ei2
  obtain ⟨i3, ei3⟩ := is_v g20
  obtain rfl : w3 = (.int i3) := Option.some.inj ei3
  obtain ⟨i4, ei4⟩ := is_v g21
  obtain rfl : w4 = (.int i4) := Option.some.inj ei4
  obtain ⟨n, n1, n12, en⟩ := own_len i0
  obtain ⟨pa, hpa, ea⟩ := own_maskrem ((i0.toUInt32 >>> ((8 : Int32) &&& 31).toUInt32).toInt32) 255 n (by decide) (by omega) (by omega)
  obtain ⟨pb, hpb, eb⟩ := own_maskrem ((i0.toUInt32 >>> ((16 : Int32) &&& 31).toUInt32).toInt32) 255 n (by decide) (by omega) (by omega)
  obtain ⟨pd, hpd, ed⟩ := own_maskrem ((i0.toUInt32 >>> ((24 : Int32) &&& 31).toUInt32).toInt32) 255 n (by decide) (by omega) (by omega)
  obtain ⟨q, hq1, eq⟩ := own_maskrem i4 2147483647 (n + 1) (by decide) (by omega) (by omega)
  have hq : q ≤ n := by omega
  have eq' : (i4 &&& (2147483647 : Int32)) % (Int32.ofNat n + (1 : Int32)) = Int32.ofNat q := by rw [own_one]; exact eq
  have go : MetFree l x (head1 (Jvm.Cond.code x code maxLocals ret :: tables_1) room_1) (fun a U => a = #[(.int i0), (.int i1), (.int i2), (.int i3), (.int i4)] ∧ s.Warmed39 U.vm ∧ U.heap = s.heap) (fun _ _ _ _ _ => True) (fun _ U o U' => ∃ v L, o = .returned v ∧ (v = some (.int (1 : Int32)) ∧ Fr s.heap.size L) ∧ FrameEnd U o U' L room_1.cells room_1.slots) := by
    by_cases c1 : Int32.ofNat pa < Int32.ofNat q
    · by_cases c2 : Int32.ofNat pb < Int32.ofNat q
      · by_cases c3 : Int32.ofNat pd < Int32.ofNat q
        · exact rm0_ffff l s _ hw tables_1 i0 i1 i2 i3 i4 n pa pb pd q s.heap s.heap.size (Nat.le_refl _) (by omega) hpa hpb hpd hq en ea eb ed eq' c1 c2 c3
        · exact rm0_fftf l s _ hw tables_1 i0 i1 i2 i3 i4 n pa pb pd q s.heap s.heap.size (Nat.le_refl _) (by omega) hpa hpb hpd hq en ea eb ed eq' c1 c2 c3
      · by_cases c3 : Int32.ofNat pd < Int32.ofNat q
        · exact rm0_ftff l s _ hw tables_1 i0 i1 i2 i3 i4 n pa pb pd q s.heap s.heap.size (Nat.le_refl _) (by omega) hpa hpb hpd hq en ea eb ed eq' c1 c2 c3
        · exact rm0_fttf l s _ hw tables_1 i0 i1 i2 i3 i4 n pa pb pd q s.heap s.heap.size (Nat.le_refl _) (by omega) hpa hpb hpd hq en ea eb ed eq' c1 c2 c3
    · by_cases c2 : Int32.ofNat pb < Int32.ofNat q
      · by_cases c3 : Int32.ofNat pd < Int32.ofNat q
        · exact rm0_tfff l s _ hw tables_1 i0 i1 i2 i3 i4 n pa pb pd q s.heap s.heap.size (Nat.le_refl _) (by omega) hpa hpb hpd hq en ea eb ed eq' c1 c2 c3
        · exact rm0_tftf l s _ hw tables_1 i0 i1 i2 i3 i4 n pa pb pd q s.heap s.heap.size (Nat.le_refl _) (by omega) hpa hpb hpd hq en ea eb ed eq' c1 c2 c3
      · by_cases c3 : Int32.ofNat pd < Int32.ofNat q
        · exact rm0_ttff l s _ hw tables_1 i0 i1 i2 i3 i4 n pa pb pd q s.heap s.heap.size (Nat.le_refl _) (by omega) hpa hpb hpd hq en ea eb ed eq' c1 c2 c3
        · exact rm0_tttf l s _ hw tables_1 i0 i1 i2 i3 i4 n pa pb pd q s.heap s.heap.size (Nat.le_refl _) (by omega) hpa hpb hpd hq en ea eb ed eq' c1 c2 c3
  obtain ⟨n, o, h1, h2, h3, _, L, rfl, ⟨rfl, N⟩, hq⟩ := go p e ha hc hk s m _ below hf ((Spec.applies_iff_loose hf).mp happ).1 ⟨rfl, State.Warmed39.refl s, rfl⟩ trivial
  refine ⟨n, _, h1, h2, h3, hpost _ _ _ _ _ _ ⟨Cond.after_iff.mpr rfl, Cond.after_iff.mpr (eq_i res_at (Term.int_eval (1)) rfl), trivial⟩ ⟨hq.1, hq.2.1, (hq.2.2.sift fun y hy => Or.inr (N y hy)).mono (by decide) (by decide)⟩⟩
theorem main_1_1 : Claimed_1_1 := comes_1 fun _ _ _ _ _ _ h hF => ⟨h.1, hF⟩
theorem main_1_2 : Claimed_1_2 := comes_1 fun _ _ _ _ _ _ h hF => ⟨h.2.1, hF⟩
end Jvm.Pilot.@@N@@
namespace Jvm.Pilot.@@N@@
open Jvm Jvm.ClassFile Sem Op Lib Jvm.Free Jvm.Stand Jvm.Pilot.@@N@@.Jvm.D
/-! MADE BY PROGRAM (witnessworld.py) out of the Statement's table words and the real class files: 9 classes; the members and pool entries that the words name. The judged class is class 1, her method 1. -/
namespace start1
open Jvm.ClassFile
def u (s : String) : CpInfo := .utf8 (stringToUtf16 s)
/-- a pool by its gaps: so many unusable entries, then the entry; so many at the end -/
def gap : Nat → List CpInfo → List CpInfo
  | 0, r => r
  | n + 1, r => .unusable :: gap n r
def poolList (es : List (Nat × CpInfo)) (last : Nat) : List CpInfo := es.foldr (fun e r => gap e.1 (e.2 :: r)) (gap last [])
def pool (es : List (Nat × CpInfo)) (last : Nat) : Array CpInfo := ⟨poolList es last⟩
def fileOf (pool : Array CpInfo) (this : Nat) (attrs : Array Attribute := #[]) (ms : Array MethodInfo := #[]) (fl : Nat := 33) (sup : Nat := 0) (ifs : Array Nat := #[]) (fds : Array FieldInfo := #[]) : ClassFile where
  minorVersion := 0
  majorVersion := 65
  constantPool := pool
  accessFlags := fl
  thisClass := this
  superClass := sup
  interfaces := ifs
  fields := fds
  methods := ms
  attributes := attrs
def plain (name : String) (sup : Option ClassId) : Class where
  name := name
  kind := .ordinary
  loader := none
  accessFlags := 33
  super := sup
  interfaces := #[]
  cf := none
  fields := #[]
  methods := #[]
  instanceTypes := #[]
  staticTypes := #[]
  resolved := #[]
  callSites := []
  init := .initialized
  statics := none
  mirror := none

def pool0 : Array CpInfo := pool [(5, u "<init>"), (0, u "()V"), (1, .class_ 10), (1, u "java/lang/Object")] 113

def k0c0 : Code := { maxStack := 0, maxLocals := 1, code := object_method_1_code, exceptionTable := #[], attributes := #[] }
def k0m0 : Method := { name := "<init>", desc := "()V", sig := { parameters := [], returnType := none }, accessFlags := 1, code := some k0c0 }
/-- java/lang/Object -/
def k0 : Class := { plain "java/lang/Object" none with
  accessFlags := 33
  interfaces := #[]
  cf := some (fileOf pool0 8 #[] #[{ accessFlags := 1, nameIndex := 5, descriptorIndex := 6, attributes := #[] }] 33 0 #[] #[])
  fields := #[]
  methods := #[k0m0]
  instanceTypes := #[]
  staticTypes := #[]
  resolved := Array.replicate 124 none
  statics := none }

def pool1 : Array CpInfo := pool [(2, .class_ 4), (1, u "java/lang/Object"), (0, u "<init>"), (0, u "()V"), (0, .integer 2147483647), (0, .class_ 9), (0, u "com/example/tallykeep/tallykeep/core/PrefixCounts"), (0, .methodref 8 11), (0, .nameAndType 5 12), (0, u "(I)V"), (0, .methodref 8 14), (0, .nameAndType 15 16), (0, u "add"), (0, u "(II)V"), (0, .methodref 8 18), (0, .nameAndType 19 20), (0, u "below"), (0, u "(I)I"), (0, .class_ 22), (0, u "com/example/tallykeep/tallykeep/core/PrefixCountsBelowPinLaw"), (2, u "law"), (0, u "(IIIII)Z")] 3

def k1m0 : Method := { name := "<init>", desc := "()V", sig := { parameters := [], returnType := none }, accessFlags := 1, code := none }
def k1c1 : Code := { maxStack := 3, maxLocals := 12, code := code, exceptionTable := #[], attributes := #[] }
def k1m1 : Method := { name := "law", desc := "(IIIII)Z", sig := { parameters := [.int, .int, .int, .int, .int], returnType := some .boolean }, accessFlags := 9, code := some k1c1 }
/-- com/example/tallykeep/tallykeep/core/PrefixCountsBelowPinLaw -/
def k1 : Class := { plain "com/example/tallykeep/tallykeep/core/PrefixCountsBelowPinLaw" (some 0) with
  accessFlags := 49
  interfaces := #[]
  cf := some (fileOf pool1 21 #[] #[{ accessFlags := 1, nameIndex := 5, descriptorIndex := 6, attributes := #[] }, { accessFlags := 9, nameIndex := 25, descriptorIndex := 26, attributes := #[] }] 49 2 #[] #[])
  fields := #[]
  methods := #[k1m0, k1m1]
  instanceTypes := #[]
  staticTypes := #[]
  resolved := Array.replicate 30 none
  statics := none }

def pool2 : Array CpInfo := pool [(1, .methodref 2 3), (0, .class_ 4), (0, .nameAndType 5 6), (0, u "java/lang/Object"), (0, u "<init>"), (0, u "()V"), (0, .fieldref 8 9), (0, .class_ 10), (0, .nameAndType 11 12), (0, u "com/example/tallykeep/tallykeep/core/PrefixCounts"), (0, u "cells"), (0, u "[I"), (2, u "(I)V"), (12, u "add"), (0, u "(II)V"), (0, u "below"), (0, u "(I)I")] 2

def k2c0 : Code := { maxStack := 3, maxLocals := 2, code := prog_146_method_1_code, exceptionTable := #[], attributes := #[] }
def k2m0 : Method := { name := "<init>", desc := "(I)V", sig := { parameters := [.int], returnType := none }, accessFlags := 0, code := some k2c0 }
def k2c1 : Code := { maxStack := 4, maxLocals := 4, code := prog_146_method_3_code, exceptionTable := #[], attributes := #[] }
def k2m1 : Method := { name := "add", desc := "(II)V", sig := { parameters := [.int, .int], returnType := none }, accessFlags := 0, code := some k2c1 }
def k2c2 : Code := { maxStack := 3, maxLocals := 4, code := prog_146_method_4_code, exceptionTable := #[], attributes := #[] }
def k2m2 : Method := { name := "below", desc := "(I)I", sig := { parameters := [.int], returnType := some .int }, accessFlags := 0, code := some k2c2 }
/-- com/example/tallykeep/tallykeep/core/PrefixCounts -/
def k2 : Class := { plain "com/example/tallykeep/tallykeep/core/PrefixCounts" (some 0) with
  accessFlags := 48
  interfaces := #[]
  cf := some (fileOf pool2 8 #[] #[{ accessFlags := 0, nameIndex := 5, descriptorIndex := 15, attributes := #[] }, { accessFlags := 0, nameIndex := 28, descriptorIndex := 29, attributes := #[] }, { accessFlags := 0, nameIndex := 30, descriptorIndex := 31, attributes := #[] }] 48 2 #[] #[{ accessFlags := 18, nameIndex := 11, descriptorIndex := 12, attributes := #[] }])
  fields := #[{ name := "cells", type := (.array .int), accessFlags := 18, slot := 0, constantValue := 0 }]
  methods := #[k2m0, k2m1, k2m2]
  instanceTypes := #[(.array .int)]
  staticTypes := #[]
  resolved := Array.replicate 34 none
  statics := none }

def pool3 : Array CpInfo := pool [(1, u "java/lang/Cloneable"), (0, .class_ 1), (0, u "java/lang/Object"), (0, .class_ 3)] 3

/-- java/lang/Cloneable -/
def k3 : Class := { plain "java/lang/Cloneable" (some 0) with
  accessFlags := 1537
  interfaces := #[]
  cf := some (fileOf pool3 2 #[] #[] 1537 4 #[] #[])
  fields := #[]
  methods := #[]
  instanceTypes := #[]
  staticTypes := #[]
  resolved := Array.replicate 8 none
  statics := none }

def pool4 : Array CpInfo := pool [(1, u "java/io/Serializable"), (0, .class_ 1), (0, u "java/lang/Object"), (0, .class_ 3)] 3

/-- java/io/Serializable -/
def k4 : Class := { plain "java/io/Serializable" (some 0) with
  accessFlags := 1537
  interfaces := #[]
  cf := some (fileOf pool4 2 #[] #[] 1537 4 #[] #[])
  fields := #[]
  methods := #[]
  instanceTypes := #[]
  staticTypes := #[]
  resolved := Array.replicate 8 none
  statics := none }

/-- the primitive byte -/
def k5 : Class := { plain "byte" none with kind := .primitive 'B', accessFlags := 0x411 }
/-- [B -/
def k6 : Class := { plain "[B" (some 0) with kind := .array 5 .byte, interfaces := #[3, 4], accessFlags := 1041 }

/-- the primitive int -/
def k7 : Class := { plain "int" none with kind := .primitive 'I', accessFlags := 0x411 }
/-- [I -/
def k8 : Class := { plain "[I" (some 0) with kind := .array 7 .int, interfaces := #[3, 4], accessFlags := 1041 }

def heap : Heap := #[]
def classes : Array Class := #[k0, k1, k2, k3, k4, k5, k6, k7, k8]
def interned : List (Array UInt16 × Addr) := []
def slotsUsed : Nat := 0
def theMethod : MethodId := ⟨1, 1⟩
def args0 : Array Value := #[.int 66051, .int 7, .int 1, .int 5, .int 4]
def aboutOver (below : List Frame) : State where
  vm := { classes := classes, interned := interned.toArray }
  heap := heap
  slotsUsed := slotsUsed
  threads := #[{ frames := .invoking theMethod args0 :: below }]
def below0 : List Frame := [.native { method := ⟨0, 0⟩, args := #[] }]
def about1 : State := aboutOver below0
def p0 : Program := .bare "" "" ""
def e0 : Env := launch0.env 0 0 0
theorem w_frames : about1.frames = Frame.invoking theMethod args0 :: below0 := rfl
set_option maxRecDepth 65536 in
theorem w_args : argsFit about1.vm theMethod args0 = true := by decide +kernel
set_option maxRecDepth 65536 in
theorem w_heap : heapFits about1 = true := by decide +kernel
set_option maxRecDepth 65536 in
theorem w_runnable : about1.curStatus? = some .runnable := by decide +kernel
set_option maxRecDepth 65536 in
theorem w_alone : about1.alone = true := by decide +kernel
set_option maxRecDepth 65536 in
theorem w_named : about1.methodNamed? x = some theMethod := by decide +kernel
set_option maxRecDepth 65536 in
theorem w_hears : about1.hears theMethod below0 = true := by decide +kernel
set_option maxRecDepth 65536 in
theorem w_ripe : about1.ripe theMethod args0 below0 = true := by decide +kernel
theorem w_running : about1.status = .running := rfl
set_option maxRecDepth 65536 in
theorem w_room : about1.hasRoom e0.platform room_1 = true :=
  launch0.hasRoom_least _ room_1 (by decide +kernel) (by decide +kernel) (by decide +kernel) (by decide +kernel) (by decide +kernel) (by decide +kernel)
theorem allAtoms_all (ts : List Jvm.Cond) (a : Array Jvm.Value) (st : Jvm.State) : (allAtoms ts).before a st = ts.all (fun c => c.before a st) := by
  induction ts with
  | nil => rfl
  | cons c t ih =>
    show (Jvm.Cond.and c (allAtoms t)).before a st = _
    rw [Jvm.Cond.before_and, ih, List.all_cons]
def words1 : List Jvm.Cond := Jvm.Cond.code x code maxLocals ret :: tables_1
/-- a 'code' word, met by the world's own term for the bytes: nothing is compared byte by byte -/
theorem code_word {y : MethodName} {bytes : ByteArray} {mx : Nat} {rt : Option FieldType} {a : Array Value} {s : State} {m : MethodId} {meth : Method} {c : Code} (h1 : s.methodNamed? y = some m) (h2 : s.vm.method? m = some meth) (h3 : meth.code = some c) (h4 : c.code = bytes)
    (h5 : (c.maxLocals == mx && c.exceptionTable.isEmpty && decide (c.maxStack ≤ mostOperands) && decide (meth.sig.returnType = rt) && !meth.locks && decide (parseMethodDescriptor y.desc = some meth.sig)) = true) : (Jvm.Cond.code y bytes mx rt).before a s = true := by
  simp only [Bool.and_eq_true, beq_iff_eq, Bool.not_eq_true', decide_eq_true_eq] at h5
  obtain ⟨⟨⟨⟨⟨g1, g2⟩, g3⟩, g4⟩, g5⟩, g6⟩ := h5
  simp [Cond.before, Cond.holds, Cond.value, h1, h2, h3, h4, g1, g2, g3, g4, g5, g6]
def isCode : Jvm.Cond → Bool
  | .code _ _ _ _ => true
  | _ => false
theorem all_split {L : List Jvm.Cond} {P : Jvm.Cond → Bool} (h1 : L.all (fun c => isCode c || P c) = true) (h2 : ∀ c ∈ L.filter isCode, P c = true) : L.all P = true := by
  refine List.all_eq_true.mpr fun c hc => ?_
  have h := List.all_eq_true.mp h1 c hc
  rcases Bool.eq_false_or_eq_true (isCode c) with hi | hi
  · exact h2 c (List.mem_filter.mpr ⟨hc, hi⟩)
  · simpa [hi] using h
set_option maxRecDepth 65536 in
theorem w_c0 : (Jvm.Cond.code x code maxLocals ret).before args0 about1 = true := code_word (m := ⟨1, 1⟩) (meth := k1m1) (c := k1c1) (by decide +kernel) rfl rfl rfl (by decide +kernel)
set_option maxRecDepth 65536 in
theorem w_c1 : (Jvm.Cond.code ({ cls := "com/example/tallykeep/tallykeep/core/PrefixCounts", name := "<init>", desc := "(I)V" } : Jvm.MethodName) prog_146_method_1_code (2 : Nat) (Option.none : Option Jvm.ClassFile.FieldType)).before args0 about1 = true := code_word (m := ⟨2, 0⟩) (meth := k2m0) (c := k2c0) (by decide +kernel) rfl rfl rfl (by decide +kernel)
set_option maxRecDepth 65536 in
theorem w_c2 : (Jvm.Cond.code ({ cls := "java/lang/Object", name := "<init>", desc := "()V" } : Jvm.MethodName) object_method_1_code (1 : Nat) (Option.none : Option Jvm.ClassFile.FieldType)).before args0 about1 = true := code_word (m := ⟨0, 0⟩) (meth := k0m0) (c := k0c0) (by decide +kernel) rfl rfl rfl (by decide +kernel)
set_option maxRecDepth 65536 in
theorem w_c3 : (Jvm.Cond.code ({ cls := "com/example/tallykeep/tallykeep/core/PrefixCounts", name := "add", desc := "(II)V" } : Jvm.MethodName) prog_146_method_3_code (4 : Nat) (Option.none : Option Jvm.ClassFile.FieldType)).before args0 about1 = true := code_word (m := ⟨2, 1⟩) (meth := k2m1) (c := k2c1) (by decide +kernel) rfl rfl rfl (by decide +kernel)
set_option maxRecDepth 65536 in
theorem w_c4 : (Jvm.Cond.code ({ cls := "com/example/tallykeep/tallykeep/core/PrefixCounts", name := "below", desc := "(I)I" } : Jvm.MethodName) prog_146_method_4_code (4 : Nat) (Option.some Jvm.ClassFile.FieldType.int)).before args0 about1 = true := code_word (m := ⟨2, 2⟩) (meth := k2m2) (c := k2c2) (by decide +kernel) rfl rfl rfl (by decide +kernel)
def codes1 : List Jvm.Cond := [Jvm.Cond.code x code maxLocals ret, Jvm.Cond.code ({ cls := "com/example/tallykeep/tallykeep/core/PrefixCounts", name := "<init>", desc := "(I)V" } : Jvm.MethodName) prog_146_method_1_code (2 : Nat) (Option.none : Option Jvm.ClassFile.FieldType), Jvm.Cond.code ({ cls := "java/lang/Object", name := "<init>", desc := "()V" } : Jvm.MethodName) object_method_1_code (1 : Nat) (Option.none : Option Jvm.ClassFile.FieldType), Jvm.Cond.code ({ cls := "com/example/tallykeep/tallykeep/core/PrefixCounts", name := "add", desc := "(II)V" } : Jvm.MethodName) prog_146_method_3_code (4 : Nat) (Option.none : Option Jvm.ClassFile.FieldType), Jvm.Cond.code ({ cls := "com/example/tallykeep/tallykeep/core/PrefixCounts", name := "below", desc := "(I)I" } : Jvm.MethodName) prog_146_method_4_code (4 : Nat) (Option.some Jvm.ClassFile.FieldType.int)]
set_option maxRecDepth 65536 in
theorem codes_eq : words1.filter isCode = codes1 := rfl
theorem w_codes : ∀ c ∈ words1.filter isCode, c.before args0 about1 = true := by
  rw [codes_eq]
  intro c hc
  simp only [codes1, List.mem_cons, List.not_mem_nil, or_false] at hc
  rcases hc with rfl | rfl | rfl | rfl | rfl
  · exact w_c0
  · exact w_c1
  · exact w_c2
  · exact w_c3
  · exact w_c4
set_option maxRecDepth 65536 in
theorem w_t1 : words1.all (fun c => isCode c || c.before args0 about1) = true := by decide +kernel
theorem w_tables : (allAtoms (Jvm.Cond.code x code maxLocals ret :: tables_1)).before args0 about1 = true := by
  rw [allAtoms_all]
  show words1.all (fun c => c.before args0 about1) = true
  refine all_split ?_ w_codes
  rw [w_t1]
set_option maxRecDepth 65536 in
theorem w_case : (Jvm.Cond.and given_1 narrow_1).before args0 about1 = true := by decide +kernel
theorem w_applies : (headSpec (Jvm.Cond.code x code maxLocals ret :: tables_1) room_1).applies x e0.platform about1 = true :=
  (Spec.applies_iff w_frames).mpr ⟨w_running, w_runnable, w_alone, w_named, w_hears, w_ripe, w_room, w_tables⟩
theorem atStart : AtStart classFile x code maxLocals ret World_1 tables_1 room_1 Calls_1 rest_1 Pre_1 launch0 p0 e0 about1 theMethod args0 below0 :=
  ⟨lists_1, trivial, launch0.admits_env _ _ _, launch0.least_env, fairChoices_fair.cas, fairChoices_fair.clock, w_frames, w_args, w_heap, w_applies, trivial, trivial, w_case⟩
end start1
theorem witness_1 : WitnessClaimed_1 := ⟨start1.p0, start1.e0, start1.about1, start1.theMethod, start1.args0, start1.below0, start1.atStart⟩
end Jvm.Pilot.@@N@@
