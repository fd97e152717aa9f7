import JvmDerived
import JvmDerived.Pilot.@@N@@Statement
import JvmDerived.Pilot.@@N@@Code
set_option linter.unusedVariables false
set_option linter.unusedSimpArgs false
namespace Jvm.RoadKit
open Sem ClassFile Op Lib Jvm.Stand Jvm.Free Jvm.LawKit
section New
variable {p : Program} {l : Launch} {e : Env} {R : Room} {s : State} {m : MethodId} {args : Array Value} {below : List Frame} {meth : Method} {c : Code} {T : State} {locs : List Loc} {cells slots : Nat}
theorem retI (X : Stand p l e R s m args below meth c T locs cells slots) (hx : p.tables.exec = Jvm.exec) {pc : Nat} {Ls : Array Slot} {z : Int32} {rest : List Value} (hret : meth.sig.returnType = some .int) (hd : decode c.code pc = .ok (.ireturn, 1)) {fs : List Frame}
    (hl : ∀ (f : JFrame) (acts : List Action), f.method = m → f.locked = none → f.entered = [] → (doReturn e (T.setTop f) acts (some (.int z))).1 = T.setFrames fs) : Steps p.tables e below (T.setTop (mkF m pc Ls (.int z :: rest))) (T.setFrames fs) := by
  have hm' : T.vm.method? m = some meth := X.method'
  have hn : narrow .int (.int z) = .int z := rfl
  show Steps p.tables e below (T.setTop { method := m, pc := pc, locals := Ls, stack := _ :: rest, locked := none }) _
  jvm_step X.here [X.here.top, hx, hd, hm', hret, hn]
  first | (intro acts; rw [hl _ acts rfl rfl rfl]) | rw [hl _ _ rfl rfl rfl]
  exact Steps.refl _
end New
end Jvm.RoadKit
namespace Jvm.Pilot.@@N@@
open Jvm Jvm.ClassFile Sem Op Lib Jvm.Free Jvm.Stand Jvm.LawKit Jvm.RoadKit Bundle Jvm.Pilot.@@N@@.Jvm.D
def QR (r : Option Value) (h0 : Heap) (n0 : Nat) (v : Option Value) (h : Heap) (L : List Loc) : Prop := v = r ∧ Fr n0 L ∧ h = h0
def QL (n0 : Nat) (v : Option Value) (h : Heap) (L : List Loc) : Prop := v = some (.int (1 : Int32)) ∧ Fr n0 L
def own_l (k x : Int32) : Int32 := x ^^^ (x <<< (k &&& 31))
def own_r (k x : Int32) : Int32 := x ^^^ ((x.toUInt32 >>> (k &&& 31).toUInt32).toInt32)
def own_xs (x : Int32) : Int32 := own_l 5 (own_r 17 (own_l 13 x))
def own_un (q : Int32) : Int32 := own_l 26 (own_l 13 (own_r 17 (own_l 20 (own_l 10 (own_l 5 q)))))
def own_next (x : Int32) : Int32 := if own_xs x = 0 then (-1640531527 : Int32) else own_xs x
/-! the plain law: the shifts undone -/
theorem own_l_bv (k x : Int32) (n : Nat) (h : ((k &&& 31).toBitVec.smod 32).toNat = n) : (own_l k x).toBitVec = x.toBitVec ^^^ (x.toBitVec <<< n) := by
  unfold own_l
  rw [Int32.toBitVec_xor, Int32.toBitVec_shiftLeft, BitVec.shiftLeft_eq', h]
theorem own_r_bv (x : Int32) : (own_r 17 x).toBitVec = x.toBitVec ^^^ (x.toBitVec >>> 17) := by
  unfold own_r
  rw [Int32.toBitVec_xor]
  rfl
theorem own_sq (n : Nat) (x : BitVec 32) : (x ^^^ (x <<< n)) ^^^ ((x ^^^ (x <<< n)) <<< n) = x ^^^ (x <<< (n + n)) := by
  rw [BitVec.shiftLeft_xor_distrib, ← BitVec.shiftLeft_add, BitVec.xor_assoc, ← BitVec.xor_assoc (x <<< n), BitVec.xor_self, BitVec.zero_xor]
theorem own_big (n : Nat) (h : 32 ≤ n) (x : BitVec 32) : x ^^^ (x <<< n) = x := by
  rw [BitVec.shiftLeft_eq_zero h, BitVec.xor_zero]
theorem own_sqr (x : BitVec 32) : (x ^^^ (x >>> 17)) ^^^ ((x ^^^ (x >>> 17)) >>> 17) = x := by
  rw [BitVec.ushiftRight_xor_distrib, ← BitVec.shiftRight_add, BitVec.xor_assoc, ← BitVec.xor_assoc (x >>> 17), BitVec.xor_self, BitVec.zero_xor, BitVec.ushiftRight_eq_zero (by decide), BitVec.xor_zero]
theorem own_undo (x : Int32) : own_un (own_xs x) = x := by
  apply Int32.toBitVec_inj.mp
  unfold own_un own_xs
  rw [own_l_bv 26 _ 26 (by decide), own_l_bv 13 _ 13 (by decide), own_r_bv, own_l_bv 20 _ 20 (by decide), own_l_bv 10 _ 10 (by decide), own_l_bv 5 _ 5 (by decide), own_l_bv 5 _ 5 (by decide)]
  rw [own_sq 5, own_sq 10, own_sq 20, own_big 40 (by decide), own_r_bv, own_sqr, own_l_bv 13 _ 13 (by decide), own_sq 13, own_sq 26, own_big 52 (by decide)]
theorem own_xs0 (x : Int32) (h : ¬ x = 0) : ¬ own_xs x = 0 := fun q => h (by rw [← own_undo x, q]; decide)
theorem own_next_ne (x : Int32) : ¬ own_next x = 0 := by
  unfold own_next; split
  · decide
  · assumption
theorem own_next_z : own_next 0 = (-1640531527 : Int32) := by decide
theorem own_next_un (x : Int32) (h : ¬ x = 0) : own_un (own_next x) = x := by
  unfold own_next; rw [if_neg (own_xs0 x h)]; exact own_undo x
theorem d1_0 : decode prog_15_method_3_code 0 = .ok (.iload_n 0, 1) := by decide +kernel
theorem d1_1 : decode prog_15_method_3_code 1 = .ok (.istore_n 1, 1) := by decide +kernel
theorem d1_2 : decode prog_15_method_3_code 2 = .ok (.iload_n 1, 1) := by decide +kernel
theorem d1_3 : decode prog_15_method_3_code 3 = .ok (.iload_n 1, 1) := by decide +kernel
theorem d1_4 : decode prog_15_method_3_code 4 = .ok (.bipush 13, 2) := by decide +kernel
theorem d1_6 : decode prog_15_method_3_code 6 = .ok (.ishl, 1) := by decide +kernel
theorem d1_7 : decode prog_15_method_3_code 7 = .ok (.ixor, 1) := by decide +kernel
theorem d1_8 : decode prog_15_method_3_code 8 = .ok (.istore_n 1, 1) := by decide +kernel
theorem d1_9 : decode prog_15_method_3_code 9 = .ok (.iload_n 1, 1) := by decide +kernel
theorem d1_10 : decode prog_15_method_3_code 10 = .ok (.iload_n 1, 1) := by decide +kernel
theorem d1_11 : decode prog_15_method_3_code 11 = .ok (.bipush 17, 2) := by decide +kernel
theorem d1_13 : decode prog_15_method_3_code 13 = .ok (.iushr, 1) := by decide +kernel
theorem d1_14 : decode prog_15_method_3_code 14 = .ok (.ixor, 1) := by decide +kernel
theorem d1_15 : decode prog_15_method_3_code 15 = .ok (.istore_n 1, 1) := by decide +kernel
theorem d1_16 : decode prog_15_method_3_code 16 = .ok (.iload_n 1, 1) := by decide +kernel
theorem d1_17 : decode prog_15_method_3_code 17 = .ok (.iload_n 1, 1) := by decide +kernel
theorem d1_18 : decode prog_15_method_3_code 18 = .ok (.iconst 5, 1) := by decide +kernel
theorem d1_19 : decode prog_15_method_3_code 19 = .ok (.ishl, 1) := by decide +kernel
theorem d1_20 : decode prog_15_method_3_code 20 = .ok (.ixor, 1) := by decide +kernel
theorem d1_21 : decode prog_15_method_3_code 21 = .ok (.istore_n 1, 1) := by decide +kernel
theorem d1_22 : decode prog_15_method_3_code 22 = .ok (.iload_n 1, 1) := by decide +kernel
theorem d1_23 : decode prog_15_method_3_code 23 = .ok (.ifCond .eq 7, 3) := by decide +kernel
theorem d1_30 : decode prog_15_method_3_code 30 = .ok (.ldc 21, 2) := by decide +kernel
theorem d1_32 : decode prog_15_method_3_code 32 = .ok (.ireturn, 1) := by decide +kernel
theorem pn_1 : plainName "com/example/latchwork/latchwork/locks/SpreadCount" = true := by first | (simp [plainName, overriddenIn]; done) | decide +kernel
theorem ef_1 (m : MethodId) (x0 : Int32) : entryFrame m #[(.int x0)] 2 = mkF m 0 #[.val (.int x0), .unset] [] := by first | (simp [entryFrame, mkF, argsToLocals, Value.category]; done) | rfl
set_option maxRecDepth 65536 in
set_option maxHeartbeats 40000000 in
theorem rm1t (l : Launch) (Z : State) (a0 : Array Value) (hw : ∀ d ∈ tables_1, d.before a0 Z = true) (ws : List Jvm.Cond) (p1 : Int32) (h0 : Heap) (n0 : Nat) (Z0 : n0 ≤ h0.size) (hc23 : (own_l 5 (own_r 17 (own_l 13 p1))) = (0 : Int32)) :
    MetFree l (⟨"com/example/latchwork/latchwork/locks/SpreadCount", "nextProbe", "(I)I"⟩ : MethodName) (head1 (Jvm.Cond.code (⟨"com/example/latchwork/latchwork/locks/SpreadCount", "nextProbe", "(I)I"⟩ : MethodName) prog_15_method_3_code 2 (some .int) :: ws) ({ frames := 0, cells := 0, slots := 0, locals := 0 } : Room)) (fun a U => a = #[(.int p1)] ∧ Z.Warmed39 U.vm ∧ U.heap = h0) (fun _ _ _ _ _ => True) (fun _ U o U' => ∃ v L, o = .returned v ∧ QR (some (.int (-1640531527 : Int32))) h0 n0 v U'.heap L ∧ FrameEnd U o U' L ({ frames := 0, cells := 0, slots := 0, locals := 0 } : Room).cells ({ frames := 0, cells := 0, slots := 0, locals := 0 } : Room).slots) := by
  refine MetFree.of_bodySF (plainFor_of_name pn_1) hisR ?_
  intro p e s m args below meth c s₁ Bd hml0 hP hK
  obtain ⟨rfl, hZ, hh⟩ := hP
  have hx := Bd.exec
  have hby := Bd.bytes
  have hml : c.maxLocals = 2 := hml0
  have hown : s.vm.findClass "com/example/latchwork/latchwork/locks/SpreadCount" = some m.cls := findClass_of_methodNamed Bd.named
  have hnm := (name_of_methodNamed Bd.named Bd.method).1
  have X0 : Stand p l e ({ frames := 0, cells := 0, slots := 0, locals := 0 } : Room) s m #[(.int p1)] below meth c s₁ [] 0 0 := Stand.of_body Bd
  have e0 : s₁.heap = h0 := by rw [← hh, Bd.state]; rfl
  have N0 := Fr.nil n0
  have pre0 : ∀ t, Steps p.tables e below (s₁.setTop (mkF m 0 #[.val (.int p1), .unset] [])) t → Steps p.tables e below (s₁.setTop (entryFrame m #[(.int p1)] 2)) t := fun t k => castTop (ef_1 m p1) k

  obtain ⟨fs, hr, hrun, hended, hW, hsame⟩ := X0.leave (v := some (.int (-1640531527 : Int32))) (fun h => by rw [Bd.returns] at h; cases h)
  refine ⟨_, _, pre0 _ ?_, hrun, hended, _, _, rfl, ?_, ⟨_, rfl⟩, hW, hsame.mono (by decide) (by decide)⟩
  · show Steps p.tables e below (s₁.setTop (mkF m 0 #[.val (.int p1), .unset] [])) _
    refine XS.iloadN X0.here hx rfl (hb hby d1_0) rfl ?_
    show Steps p.tables e below (s₁.setTop (mkF m 1 #[.val (.int p1), .unset] [(.int p1)])) _
    refine XS.istoreN X0.here hx rfl (hb hby d1_1) rfl (l' := #[.val (.int p1), .val (.int p1)]) rfl ?_
    show Steps p.tables e below (s₁.setTop (mkF m 2 #[.val (.int p1), .val (.int p1)] [])) _
    refine XS.iloadN X0.here hx rfl (hb hby d1_2) rfl ?_
    show Steps p.tables e below (s₁.setTop (mkF m 3 #[.val (.int p1), .val (.int p1)] [(.int p1)])) _
    refine XS.iloadN X0.here hx rfl (hb hby d1_3) rfl ?_
    show Steps p.tables e below (s₁.setTop (mkF m 4 #[.val (.int p1), .val (.int p1)] [(.int p1), (.int p1)])) _
    refine XS.bipush X0.here hx rfl (hb hby d1_4) ?_
    show Steps p.tables e below (s₁.setTop (mkF m 6 #[.val (.int p1), .val (.int p1)] [(.int (13 : Int32)), (.int p1), (.int p1)])) _
    refine XS.ishl X0.here hx rfl (hb hby d1_6) rfl ?_
    show Steps p.tables e below (s₁.setTop (mkF m 7 #[.val (.int p1), .val (.int p1)] [(.int (p1 <<< ((13 : Int32) &&& 31))), (.int p1)])) _
    refine XS.ixor X0.here hx rfl (hb hby d1_7) rfl ?_
    show Steps p.tables e below (s₁.setTop (mkF m 8 #[.val (.int p1), .val (.int p1)] [(.int (own_l 13 p1))])) _
    refine XS.istoreN X0.here hx rfl (hb hby d1_8) rfl (l' := #[.val (.int p1), .val (.int (own_l 13 p1))]) rfl ?_
    show Steps p.tables e below (s₁.setTop (mkF m 9 #[.val (.int p1), .val (.int (own_l 13 p1))] [])) _
    refine XS.iloadN X0.here hx rfl (hb hby d1_9) rfl ?_
    show Steps p.tables e below (s₁.setTop (mkF m 10 #[.val (.int p1), .val (.int (own_l 13 p1))] [(.int (own_l 13 p1))])) _
    refine XS.iloadN X0.here hx rfl (hb hby d1_10) rfl ?_
    show Steps p.tables e below (s₁.setTop (mkF m 11 #[.val (.int p1), .val (.int (own_l 13 p1))] [(.int (own_l 13 p1)), (.int (own_l 13 p1))])) _
    refine XS.bipush X0.here hx rfl (hb hby d1_11) ?_
    show Steps p.tables e below (s₁.setTop (mkF m 13 #[.val (.int p1), .val (.int (own_l 13 p1))] [(.int (17 : Int32)), (.int (own_l 13 p1)), (.int (own_l 13 p1))])) _
    refine XS.iushr X0.here hx rfl (hb hby d1_13) rfl ?_
    show Steps p.tables e below (s₁.setTop (mkF m 14 #[.val (.int p1), .val (.int (own_l 13 p1))] [(.int (((own_l 13 p1).toUInt32 >>> ((17 : Int32) &&& 31).toUInt32).toInt32)), (.int (own_l 13 p1))])) _
    refine XS.ixor X0.here hx rfl (hb hby d1_14) rfl ?_
    show Steps p.tables e below (s₁.setTop (mkF m 15 #[.val (.int p1), .val (.int (own_l 13 p1))] [(.int (own_r 17 (own_l 13 p1)))])) _
    refine XS.istoreN X0.here hx rfl (hb hby d1_15) rfl (l' := #[.val (.int p1), .val (.int (own_r 17 (own_l 13 p1)))]) rfl ?_
    show Steps p.tables e below (s₁.setTop (mkF m 16 #[.val (.int p1), .val (.int (own_r 17 (own_l 13 p1)))] [])) _
    refine XS.iloadN X0.here hx rfl (hb hby d1_16) rfl ?_
    show Steps p.tables e below (s₁.setTop (mkF m 17 #[.val (.int p1), .val (.int (own_r 17 (own_l 13 p1)))] [(.int (own_r 17 (own_l 13 p1)))])) _
    refine XS.iloadN X0.here hx rfl (hb hby d1_17) rfl ?_
    show Steps p.tables e below (s₁.setTop (mkF m 18 #[.val (.int p1), .val (.int (own_r 17 (own_l 13 p1)))] [(.int (own_r 17 (own_l 13 p1))), (.int (own_r 17 (own_l 13 p1)))])) _
    refine XS.iconst X0.here hx rfl (hb hby d1_18) ?_
    show Steps p.tables e below (s₁.setTop (mkF m 19 #[.val (.int p1), .val (.int (own_r 17 (own_l 13 p1)))] [(.int (5 : Int32)), (.int (own_r 17 (own_l 13 p1))), (.int (own_r 17 (own_l 13 p1)))])) _
    refine XS.ishl X0.here hx rfl (hb hby d1_19) rfl ?_
    show Steps p.tables e below (s₁.setTop (mkF m 20 #[.val (.int p1), .val (.int (own_r 17 (own_l 13 p1)))] [(.int ((own_r 17 (own_l 13 p1)) <<< ((5 : Int32) &&& 31))), (.int (own_r 17 (own_l 13 p1)))])) _
    refine XS.ixor X0.here hx rfl (hb hby d1_20) rfl ?_
    show Steps p.tables e below (s₁.setTop (mkF m 21 #[.val (.int p1), .val (.int (own_r 17 (own_l 13 p1)))] [(.int (own_l 5 (own_r 17 (own_l 13 p1))))])) _
    refine XS.istoreN X0.here hx rfl (hb hby d1_21) rfl (l' := #[.val (.int p1), .val (.int (own_l 5 (own_r 17 (own_l 13 p1))))]) rfl ?_
    show Steps p.tables e below (s₁.setTop (mkF m 22 #[.val (.int p1), .val (.int (own_l 5 (own_r 17 (own_l 13 p1))))] [])) _
    refine XS.iloadN X0.here hx rfl (hb hby d1_22) rfl ?_
    show Steps p.tables e below (s₁.setTop (mkF m 23 #[.val (.int p1), .val (.int (own_l 5 (own_r 17 (own_l 13 p1))))] [(.int (own_l 5 (own_r 17 (own_l 13 p1))))])) _
    refine XS.ifYes X0.here hx rfl (pc0 := 23) (pc' := 30) rfl (hb hby d1_23) rfl ((if0 _ _).trans (teq hc23).1) (by decide) (by decide) ?_
    show Steps p.tables e below (s₁.setTop (mkF m 30 #[.val (.int p1), .val (.int (own_l 5 (own_r 17 (own_l 13 p1))))] [])) _
    refine X0.ldcInt hx hown (mvT hZ (hw _ (List.mem_of_getElem? (i := 4) rfl))) (g := (mkF m 30 #[.val (.int p1), .val (.int (own_l 5 (own_r 17 (own_l 13 p1))))] [])) rfl (hb hby d1_30) _ ?_
    show Steps p.tables e below (s₁.setTop (mkF m 32 #[.val (.int p1), .val (.int (own_l 5 (own_r 17 (own_l 13 p1))))] [(.int (-1640531527 : Int32))])) _
    exact retI X0 hx Bd.returns (hb hby d1_32) hr
  · show QR (some (.int (-1640531527 : Int32))) h0 n0 _ s₁.heap _
    rw [e0]
    exact ⟨rfl, N0, rfl⟩
theorem d1_26 : decode prog_15_method_3_code 26 = .ok (.iload_n 1, 1) := by decide +kernel
theorem d1_27 : decode prog_15_method_3_code 27 = .ok (.goto 5, 3) := by decide +kernel
set_option maxRecDepth 65536 in
set_option maxHeartbeats 40000000 in
theorem rm1f (l : Launch) (Z : State) (a0 : Array Value) (hw : ∀ d ∈ tables_1, d.before a0 Z = true) (ws : List Jvm.Cond) (p1 : Int32) (h0 : Heap) (n0 : Nat) (Z0 : n0 ≤ h0.size) (hc23 : ¬ ((own_l 5 (own_r 17 (own_l 13 p1))) = (0 : Int32))) :
    MetFree l (⟨"com/example/latchwork/latchwork/locks/SpreadCount", "nextProbe", "(I)I"⟩ : MethodName) (head1 (Jvm.Cond.code (⟨"com/example/latchwork/latchwork/locks/SpreadCount", "nextProbe", "(I)I"⟩ : MethodName) prog_15_method_3_code 2 (some .int) :: ws) ({ frames := 0, cells := 0, slots := 0, locals := 0 } : Room)) (fun a U => a = #[(.int p1)] ∧ Z.Warmed39 U.vm ∧ U.heap = h0) (fun _ _ _ _ _ => True) (fun _ U o U' => ∃ v L, o = .returned v ∧ QR (some (.int (own_l 5 (own_r 17 (own_l 13 p1))))) h0 n0 v U'.heap L ∧ FrameEnd U o U' L ({ frames := 0, cells := 0, slots := 0, locals := 0 } : Room).cells ({ frames := 0, cells := 0, slots := 0, locals := 0 } : Room).slots) := by
  refine MetFree.of_bodySF (plainFor_of_name pn_1) hisR ?_
  intro p e s m args below meth c s₁ Bd hml0 hP hK
  obtain ⟨rfl, hZ, hh⟩ := hP
  have hx := Bd.exec
  have hby := Bd.bytes
  have hml : c.maxLocals = 2 := hml0
  have hown : s.vm.findClass "com/example/latchwork/latchwork/locks/SpreadCount" = some m.cls := findClass_of_methodNamed Bd.named
  have hnm := (name_of_methodNamed Bd.named Bd.method).1
  have X0 : Stand p l e ({ frames := 0, cells := 0, slots := 0, locals := 0 } : Room) s m #[(.int p1)] below meth c s₁ [] 0 0 := Stand.of_body Bd
  have e0 : s₁.heap = h0 := by rw [← hh, Bd.state]; rfl
  have N0 := Fr.nil n0
  have pre0 : ∀ t, Steps p.tables e below (s₁.setTop (mkF m 0 #[.val (.int p1), .unset] [])) t → Steps p.tables e below (s₁.setTop (entryFrame m #[(.int p1)] 2)) t := fun t k => castTop (ef_1 m p1) k

  obtain ⟨fs, hr, hrun, hended, hW, hsame⟩ := X0.leave (v := some (.int (own_l 5 (own_r 17 (own_l 13 p1))))) (fun h => by rw [Bd.returns] at h; cases h)
  refine ⟨_, _, pre0 _ ?_, hrun, hended, _, _, rfl, ?_, ⟨_, rfl⟩, hW, hsame.mono (by decide) (by decide)⟩
  · show Steps p.tables e below (s₁.setTop (mkF m 0 #[.val (.int p1), .unset] [])) _
    refine XS.iloadN X0.here hx rfl (hb hby d1_0) rfl ?_
    show Steps p.tables e below (s₁.setTop (mkF m 1 #[.val (.int p1), .unset] [(.int p1)])) _
    refine XS.istoreN X0.here hx rfl (hb hby d1_1) rfl (l' := #[.val (.int p1), .val (.int p1)]) rfl ?_
    show Steps p.tables e below (s₁.setTop (mkF m 2 #[.val (.int p1), .val (.int p1)] [])) _
    refine XS.iloadN X0.here hx rfl (hb hby d1_2) rfl ?_
    show Steps p.tables e below (s₁.setTop (mkF m 3 #[.val (.int p1), .val (.int p1)] [(.int p1)])) _
    refine XS.iloadN X0.here hx rfl (hb hby d1_3) rfl ?_
    show Steps p.tables e below (s₁.setTop (mkF m 4 #[.val (.int p1), .val (.int p1)] [(.int p1), (.int p1)])) _
    refine XS.bipush X0.here hx rfl (hb hby d1_4) ?_
    show Steps p.tables e below (s₁.setTop (mkF m 6 #[.val (.int p1), .val (.int p1)] [(.int (13 : Int32)), (.int p1), (.int p1)])) _
    refine XS.ishl X0.here hx rfl (hb hby d1_6) rfl ?_
    show Steps p.tables e below (s₁.setTop (mkF m 7 #[.val (.int p1), .val (.int p1)] [(.int (p1 <<< ((13 : Int32) &&& 31))), (.int p1)])) _
    refine XS.ixor X0.here hx rfl (hb hby d1_7) rfl ?_
    show Steps p.tables e below (s₁.setTop (mkF m 8 #[.val (.int p1), .val (.int p1)] [(.int (own_l 13 p1))])) _
    refine XS.istoreN X0.here hx rfl (hb hby d1_8) rfl (l' := #[.val (.int p1), .val (.int (own_l 13 p1))]) rfl ?_
    show Steps p.tables e below (s₁.setTop (mkF m 9 #[.val (.int p1), .val (.int (own_l 13 p1))] [])) _
    refine XS.iloadN X0.here hx rfl (hb hby d1_9) rfl ?_
    show Steps p.tables e below (s₁.setTop (mkF m 10 #[.val (.int p1), .val (.int (own_l 13 p1))] [(.int (own_l 13 p1))])) _
    refine XS.iloadN X0.here hx rfl (hb hby d1_10) rfl ?_
    show Steps p.tables e below (s₁.setTop (mkF m 11 #[.val (.int p1), .val (.int (own_l 13 p1))] [(.int (own_l 13 p1)), (.int (own_l 13 p1))])) _
    refine XS.bipush X0.here hx rfl (hb hby d1_11) ?_
    show Steps p.tables e below (s₁.setTop (mkF m 13 #[.val (.int p1), .val (.int (own_l 13 p1))] [(.int (17 : Int32)), (.int (own_l 13 p1)), (.int (own_l 13 p1))])) _
    refine XS.iushr X0.here hx rfl (hb hby d1_13) rfl ?_
    show Steps p.tables e below (s₁.setTop (mkF m 14 #[.val (.int p1), .val (.int (own_l 13 p1))] [(.int (((own_l 13 p1).toUInt32 >>> ((17 : Int32) &&& 31).toUInt32).toInt32)), (.int (own_l 13 p1))])) _
    refine XS.ixor X0.here hx rfl (hb hby d1_14) rfl ?_
    show Steps p.tables e below (s₁.setTop (mkF m 15 #[.val (.int p1), .val (.int (own_l 13 p1))] [(.int (own_r 17 (own_l 13 p1)))])) _
    refine XS.istoreN X0.here hx rfl (hb hby d1_15) rfl (l' := #[.val (.int p1), .val (.int (own_r 17 (own_l 13 p1)))]) rfl ?_
    show Steps p.tables e below (s₁.setTop (mkF m 16 #[.val (.int p1), .val (.int (own_r 17 (own_l 13 p1)))] [])) _
    refine XS.iloadN X0.here hx rfl (hb hby d1_16) rfl ?_
    show Steps p.tables e below (s₁.setTop (mkF m 17 #[.val (.int p1), .val (.int (own_r 17 (own_l 13 p1)))] [(.int (own_r 17 (own_l 13 p1)))])) _
    refine XS.iloadN X0.here hx rfl (hb hby d1_17) rfl ?_
    show Steps p.tables e below (s₁.setTop (mkF m 18 #[.val (.int p1), .val (.int (own_r 17 (own_l 13 p1)))] [(.int (own_r 17 (own_l 13 p1))), (.int (own_r 17 (own_l 13 p1)))])) _
    refine XS.iconst X0.here hx rfl (hb hby d1_18) ?_
    show Steps p.tables e below (s₁.setTop (mkF m 19 #[.val (.int p1), .val (.int (own_r 17 (own_l 13 p1)))] [(.int (5 : Int32)), (.int (own_r 17 (own_l 13 p1))), (.int (own_r 17 (own_l 13 p1)))])) _
    refine XS.ishl X0.here hx rfl (hb hby d1_19) rfl ?_
    show Steps p.tables e below (s₁.setTop (mkF m 20 #[.val (.int p1), .val (.int (own_r 17 (own_l 13 p1)))] [(.int ((own_r 17 (own_l 13 p1)) <<< ((5 : Int32) &&& 31))), (.int (own_r 17 (own_l 13 p1)))])) _
    refine XS.ixor X0.here hx rfl (hb hby d1_20) rfl ?_
    show Steps p.tables e below (s₁.setTop (mkF m 21 #[.val (.int p1), .val (.int (own_r 17 (own_l 13 p1)))] [(.int (own_l 5 (own_r 17 (own_l 13 p1))))])) _
    refine XS.istoreN X0.here hx rfl (hb hby d1_21) rfl (l' := #[.val (.int p1), .val (.int (own_l 5 (own_r 17 (own_l 13 p1))))]) rfl ?_
    show Steps p.tables e below (s₁.setTop (mkF m 22 #[.val (.int p1), .val (.int (own_l 5 (own_r 17 (own_l 13 p1))))] [])) _
    refine XS.iloadN X0.here hx rfl (hb hby d1_22) rfl ?_
    show Steps p.tables e below (s₁.setTop (mkF m 23 #[.val (.int p1), .val (.int (own_l 5 (own_r 17 (own_l 13 p1))))] [(.int (own_l 5 (own_r 17 (own_l 13 p1))))])) _
    refine XS.ifNo X0.here hx rfl (hb hby d1_23) rfl ((if0 _ _).trans (feq hc23).1) ?_
    show Steps p.tables e below (s₁.setTop (mkF m 26 #[.val (.int p1), .val (.int (own_l 5 (own_r 17 (own_l 13 p1))))] [])) _
    refine XS.iloadN X0.here hx rfl (hb hby d1_26) rfl ?_
    show Steps p.tables e below (s₁.setTop (mkF m 27 #[.val (.int p1), .val (.int (own_l 5 (own_r 17 (own_l 13 p1))))] [(.int (own_l 5 (own_r 17 (own_l 13 p1))))])) _
    refine XS.goto X0.here hx rfl (pc0 := 27) (pc' := 32) rfl (hb hby d1_27) (by decide) (by decide) ?_
    show Steps p.tables e below (s₁.setTop (mkF m 32 #[.val (.int p1), .val (.int (own_l 5 (own_r 17 (own_l 13 p1))))] [(.int (own_l 5 (own_r 17 (own_l 13 p1))))])) _
    exact retI X0 hx Bd.returns (hb hby d1_32) hr
  · show QR (some (.int (own_l 5 (own_r 17 (own_l 13 p1))))) h0 n0 _ s₁.heap _
    rw [e0]
    exact ⟨rfl, N0, rfl⟩
theorem rm1 (l : Launch) (Z : State) (a0 : Array Value) (hw : ∀ d ∈ tables_1, d.before a0 Z = true) (ws : List Jvm.Cond) (p1 : Int32) (h0 : Heap) (n0 : Nat) (Z0 : n0 ≤ h0.size) :
    MetFree l (⟨"com/example/latchwork/latchwork/locks/SpreadCount", "nextProbe", "(I)I"⟩ : MethodName) (head1 (Jvm.Cond.code (⟨"com/example/latchwork/latchwork/locks/SpreadCount", "nextProbe", "(I)I"⟩ : MethodName) prog_15_method_3_code 2 (some .int) :: ws) ({ frames := 0, cells := 0, slots := 0, locals := 0 } : Room)) (fun a U => a = #[(.int p1)] ∧ Z.Warmed39 U.vm ∧ U.heap = h0) (fun _ _ _ _ _ => True) (fun _ U o U' => ∃ v L, o = .returned v ∧ QR (some (.int (own_next p1))) h0 n0 v U'.heap L ∧ FrameEnd U o U' L ({ frames := 0, cells := 0, slots := 0, locals := 0 } : Room).cells ({ frames := 0, cells := 0, slots := 0, locals := 0 } : Room).slots) := by
  by_cases h : own_xs p1 = 0
  · rw [show own_next p1 = (-1640531527 : Int32) from if_pos h]; exact rm1t l Z a0 hw ws p1 h0 n0 Z0 h
  · rw [show own_next p1 = own_xs p1 from if_neg h]; exact rm1f l Z a0 hw ws p1 h0 n0 Z0 h
theorem pn_0 : plainName "com/example/latchwork/latchwork/locks/SpreadCountNextProbePinLaw" = true := by first | (simp [plainName, overriddenIn]; done) | decide +kernel
theorem pd0 : parseMethodDescriptor "(I)I" = some ⟨[.int], some .int⟩ := by decide +kernel
theorem ef_0 (m : MethodId) (x0 : Int32) : entryFrame m #[(.int x0)] maxLocals = mkF m 0 #[.val (.int x0), .unset, .unset] [] := by first | (simp [entryFrame, mkF, argsToLocals, Value.category, maxLocals]; done) | rfl
set_option maxRecDepth 65536 in
set_option maxHeartbeats 40000000 in
theorem rm0z (l : Launch) (Z : State) (a0 : Array Value) (hw : ∀ d ∈ tables_1, d.before a0 Z = true) (ws : List Jvm.Cond) (p1 : Int32) (h0 : Heap) (n0 : Nat) (Z0 : n0 ≤ h0.size) (hc12 : p1 = (0 : Int32)) :
    MetFree l x (head1 (Jvm.Cond.code x code maxLocals ret :: ws) room_1) (fun a U => a = #[(.int p1)] ∧ Z.Warmed39 U.vm ∧ U.heap = h0) (fun _ _ _ _ _ => True) (fun _ U o U' => ∃ v L, o = .returned v ∧ QL n0 v U'.heap L ∧ FrameEnd U o U' L room_1.cells room_1.slots) := by
  refine MetFree.of_bodySF (plainFor_of_name pn_0) hisR ?_
  intro p e s m args below meth c s₁ Bd hml0 hP hK
  obtain ⟨rfl, hZ, hh⟩ := hP
  have hx := Bd.exec
  have hby := Bd.bytes
  have hml : c.maxLocals = 3 := hml0
  have hown : s.vm.findClass "com/example/latchwork/latchwork/locks/SpreadCountNextProbePinLaw" = some m.cls := findClass_of_methodNamed Bd.named
  have hnm := (name_of_methodNamed Bd.named Bd.method).1
  have X0 : Stand p l e room_1 s m #[(.int p1)] below meth c s₁ [] 0 0 := Stand.of_body Bd
  have e0 : s₁.heap = h0 := by rw [← hh, Bd.state]; rfl
  have N0 := Fr.nil n0
  have pre0 : ∀ t, Steps p.tables e below (s₁.setTop (mkF m 0 #[.val (.int p1), .unset, .unset] [])) t → Steps p.tables e below (s₁.setTop (entryFrame m #[(.int p1)] maxLocals)) t := fun t k => castTop (ef_0 m p1) k
  obtain ⟨_, _, ⟨T2, L2, k2, n2⟩, -, X2, ⟨Lc2, hQ2, l2, y2, z2⟩, st2⟩ := Jvm.LawKit.callS X0 hx (y := (⟨"com/example/latchwork/latchwork/locks/SpreadCount", "nextProbe", "(I)I"⟩ : MethodName)) hown (mvT hZ (hw _ (List.mem_of_getElem? (i := 0) rfl))) (mvT hZ (hw _ (List.mem_of_getElem? (i := 1) rfl))) (mvT hZ (hw _ (List.mem_of_getElem? (i := 2) rfl))) (mvT hZ (hw _ (List.mem_of_getElem? (i := 3) rfl))) (by decide) (backOf (W := 0) (rm1 l Z a0 hw [] p1 h0 n0 Z0) hZ (hw _ (List.mem_of_getElem? (i := 3) rfl)) (hw _ (List.mem_of_getElem? (i := 2) rfl)) (by decide) (by decide)) (g := (mkF m 1 #[.val (.int p1), .unset, .unset] [(.int p1)])) rfl (by rw [hml]; rfl) (argsL := [(.int p1)]) (rest := []) (lenOf pd0 rfl) rfl (by show 2 * 0 + _ ≤ _; exact Nat.le_of_eq rfl) (hb hby at_1) (fun _ _ => ⟨rfl, e0, (by decide : 0 + 0 ≤ _), (by decide : 0 + 0 ≤ _)⟩)
  dsimp only [Pt.U, Pt.locs, Pt.cells, Pt.slots] at X2 l2 y2 z2 st2 hQ2
  subst l2 y2 z2
  obtain ⟨rfl, N2q, eQ2⟩ := hQ2
  obtain ⟨qq, hqq⟩ : ∃ z, z = own_next p1 := ⟨_, rfl⟩
  rw [← hqq] at st2
  have N2 := Fr.app N0 N2q
  obtain ⟨fs, hr, hrun, hended, hW, hsame⟩ := X2.leave (v := some (.int (1 : Int32))) (fun h => by rw [Bd.returns] at h; cases h)
  refine ⟨_, _, pre0 _ ?_, hrun, hended, _, _, rfl, ?_, ⟨_, rfl⟩, hW, hsame.mono (by decide) (by decide)⟩
  · show Steps p.tables e below (s₁.setTop (mkF m 0 #[.val (.int p1), .unset, .unset] [])) _
    refine XS.iloadN X0.here hx rfl (hb hby at_0) rfl ?_
    show Steps p.tables e below (s₁.setTop (mkF m 1 #[.val (.int p1), .unset, .unset] [(.int p1)])) _
    refine st2 _ ?_
    show Steps p.tables e below (T2.setTop (mkF m 4 #[.val (.int p1), .unset, .unset] [(.int qq)])) _
    refine XS.istoreN X2.here hx rfl (hb hby at_4) rfl (l' := #[.val (.int p1), .val (.int qq), .unset]) rfl ?_
    show Steps p.tables e below (T2.setTop (mkF m 5 #[.val (.int p1), .val (.int qq), .unset] [])) _
    refine XS.iloadN X2.here hx rfl (hb hby at_5) rfl ?_
    show Steps p.tables e below (T2.setTop (mkF m 6 #[.val (.int p1), .val (.int qq), .unset] [(.int qq)])) _
    refine XS.ifYes X2.here hx rfl (pc0 := 6) (pc' := 11) rfl (hb hby at_6) rfl ((if0 _ _).trans (feq ((by rw [hqq]; exact own_next_ne p1) : ¬ (qq = (0 : Int32)))).2) (by decide) (by decide) ?_
    show Steps p.tables e below (T2.setTop (mkF m 11 #[.val (.int p1), .val (.int qq), .unset] [])) _
    refine XS.iloadN X2.here hx rfl (hb hby at_11) rfl ?_
    show Steps p.tables e below (T2.setTop (mkF m 12 #[.val (.int p1), .val (.int qq), .unset] [(.int p1)])) _
    refine XS.ifNo X2.here hx rfl (hb hby at_12) rfl ((if0 _ _).trans (teq hc12).2) ?_
    show Steps p.tables e below (T2.setTop (mkF m 15 #[.val (.int p1), .val (.int qq), .unset] [])) _
    refine XS.iloadN X2.here hx rfl (hb hby at_15) rfl ?_
    show Steps p.tables e below (T2.setTop (mkF m 16 #[.val (.int p1), .val (.int qq), .unset] [(.int qq)])) _
    refine X2.ldcInt hx hown (mvT hZ (hw _ (List.mem_of_getElem? (i := 5) rfl))) (g := (mkF m 16 #[.val (.int p1), .val (.int qq), .unset] [(.int qq)])) rfl (hb hby at_16) _ ?_
    show Steps p.tables e below (T2.setTop (mkF m 18 #[.val (.int p1), .val (.int qq), .unset] [(.int (-1640531527 : Int32)), (.int qq)])) _
    refine XS.icmpNo X2.here hx rfl (hb hby at_18) rfl (teq ((by rw [hqq, hc12]; exact own_next_z) : qq = (-1640531527 : Int32))).2 ?_
    show Steps p.tables e below (T2.setTop (mkF m 21 #[.val (.int p1), .val (.int qq), .unset] [])) _
    refine XS.iconst X2.here hx rfl (hb hby at_21) ?_
    show Steps p.tables e below (T2.setTop (mkF m 22 #[.val (.int p1), .val (.int qq), .unset] [(.int (1 : Int32))])) _
    refine XS.goto X2.here hx rfl (pc0 := 22) (pc' := 26) rfl (hb hby at_22) (by decide) (by decide) ?_
    show Steps p.tables e below (T2.setTop (mkF m 26 #[.val (.int p1), .val (.int qq), .unset] [(.int (1 : Int32))])) _
    exact retN X2 hx (t := .boolean) Bd.returns (by simp) (hb hby at_26) hr
  · show QL n0 _ T2.heap _
    exact ⟨rfl, N2⟩
set_option maxRecDepth 65536 in
set_option maxHeartbeats 40000000 in
theorem rm0n (l : Launch) (Z : State) (a0 : Array Value) (hw : ∀ d ∈ tables_1, d.before a0 Z = true) (ws : List Jvm.Cond) (p1 : Int32) (h0 : Heap) (n0 : Nat) (Z0 : n0 ≤ h0.size) (hc12 : ¬ (p1 = (0 : Int32))) :
    MetFree l x (head1 (Jvm.Cond.code x code maxLocals ret :: ws) room_1) (fun a U => a = #[(.int p1)] ∧ Z.Warmed39 U.vm ∧ U.heap = h0) (fun _ _ _ _ _ => True) (fun _ U o U' => ∃ v L, o = .returned v ∧ QL n0 v U'.heap L ∧ FrameEnd U o U' L room_1.cells room_1.slots) := by
  refine MetFree.of_bodySF (plainFor_of_name pn_0) hisR ?_
  intro p e s m args below meth c s₁ Bd hml0 hP hK
  obtain ⟨rfl, hZ, hh⟩ := hP
  have hx := Bd.exec
  have hby := Bd.bytes
  have hml : c.maxLocals = 3 := hml0
  have hown : s.vm.findClass "com/example/latchwork/latchwork/locks/SpreadCountNextProbePinLaw" = some m.cls := findClass_of_methodNamed Bd.named
  have hnm := (name_of_methodNamed Bd.named Bd.method).1
  have X0 : Stand p l e room_1 s m #[(.int p1)] below meth c s₁ [] 0 0 := Stand.of_body Bd
  have e0 : s₁.heap = h0 := by rw [← hh, Bd.state]; rfl
  have N0 := Fr.nil n0
  have pre0 : ∀ t, Steps p.tables e below (s₁.setTop (mkF m 0 #[.val (.int p1), .unset, .unset] [])) t → Steps p.tables e below (s₁.setTop (entryFrame m #[(.int p1)] maxLocals)) t := fun t k => castTop (ef_0 m p1) k
  obtain ⟨_, _, ⟨T2, L2, k2, n2⟩, -, X2, ⟨Lc2, hQ2, l2, y2, z2⟩, st2⟩ := Jvm.LawKit.callS X0 hx (y := (⟨"com/example/latchwork/latchwork/locks/SpreadCount", "nextProbe", "(I)I"⟩ : MethodName)) hown (mvT hZ (hw _ (List.mem_of_getElem? (i := 0) rfl))) (mvT hZ (hw _ (List.mem_of_getElem? (i := 1) rfl))) (mvT hZ (hw _ (List.mem_of_getElem? (i := 2) rfl))) (mvT hZ (hw _ (List.mem_of_getElem? (i := 3) rfl))) (by decide) (backOf (W := 0) (rm1 l Z a0 hw [] p1 h0 n0 Z0) hZ (hw _ (List.mem_of_getElem? (i := 3) rfl)) (hw _ (List.mem_of_getElem? (i := 2) rfl)) (by decide) (by decide)) (g := (mkF m 1 #[.val (.int p1), .unset, .unset] [(.int p1)])) rfl (by rw [hml]; rfl) (argsL := [(.int p1)]) (rest := []) (lenOf pd0 rfl) rfl (by show 2 * 0 + _ ≤ _; exact Nat.le_of_eq rfl) (hb hby at_1) (fun _ _ => ⟨rfl, e0, (by decide : 0 + 0 ≤ _), (by decide : 0 + 0 ≤ _)⟩)
  dsimp only [Pt.U, Pt.locs, Pt.cells, Pt.slots] at X2 l2 y2 z2 st2 hQ2
  subst l2 y2 z2
  obtain ⟨rfl, N2q, eQ2⟩ := hQ2
  obtain ⟨qq, hqq⟩ : ∃ z, z = own_next p1 := ⟨_, rfl⟩
  rw [← hqq] at st2
  have N2 := Fr.app N0 N2q
  obtain ⟨fs, hr, hrun, hended, hW, hsame⟩ := X2.leave (v := some (.int (1 : Int32))) (fun h => by rw [Bd.returns] at h; cases h)
  refine ⟨_, _, pre0 _ ?_, hrun, hended, _, _, rfl, ?_, ⟨_, rfl⟩, hW, hsame.mono (by decide) (by decide)⟩
  · show Steps p.tables e below (s₁.setTop (mkF m 0 #[.val (.int p1), .unset, .unset] [])) _
    refine XS.iloadN X0.here hx rfl (hb hby at_0) rfl ?_
    show Steps p.tables e below (s₁.setTop (mkF m 1 #[.val (.int p1), .unset, .unset] [(.int p1)])) _
    refine st2 _ ?_
    show Steps p.tables e below (T2.setTop (mkF m 4 #[.val (.int p1), .unset, .unset] [(.int qq)])) _
    refine XS.istoreN X2.here hx rfl (hb hby at_4) rfl (l' := #[.val (.int p1), .val (.int qq), .unset]) rfl ?_
    show Steps p.tables e below (T2.setTop (mkF m 5 #[.val (.int p1), .val (.int qq), .unset] [])) _
    refine XS.iloadN X2.here hx rfl (hb hby at_5) rfl ?_
    show Steps p.tables e below (T2.setTop (mkF m 6 #[.val (.int p1), .val (.int qq), .unset] [(.int qq)])) _
    refine XS.ifYes X2.here hx rfl (pc0 := 6) (pc' := 11) rfl (hb hby at_6) rfl ((if0 _ _).trans (feq ((by rw [hqq]; exact own_next_ne p1) : ¬ (qq = (0 : Int32)))).2) (by decide) (by decide) ?_
    show Steps p.tables e below (T2.setTop (mkF m 11 #[.val (.int p1), .val (.int qq), .unset] [])) _
    refine XS.iloadN X2.here hx rfl (hb hby at_11) rfl ?_
    show Steps p.tables e below (T2.setTop (mkF m 12 #[.val (.int p1), .val (.int qq), .unset] [(.int p1)])) _
    refine XS.ifYes X2.here hx rfl (pc0 := 12) (pc' := 27) rfl (hb hby at_12) rfl ((if0 _ _).trans (feq hc12).2) (by decide) (by decide) ?_
    show Steps p.tables e below (T2.setTop (mkF m 27 #[.val (.int p1), .val (.int qq), .unset] [])) _
    refine XS.iloadN X2.here hx rfl (hb hby at_27) rfl ?_
    show Steps p.tables e below (T2.setTop (mkF m 28 #[.val (.int p1), .val (.int qq), .unset] [(.int qq)])) _
    refine XS.istoreN X2.here hx rfl (hb hby at_28) rfl (l' := #[.val (.int p1), .val (.int qq), .val (.int qq)]) rfl ?_
    show Steps p.tables e below (T2.setTop (mkF m 29 #[.val (.int p1), .val (.int qq), .val (.int qq)] [])) _
    refine XS.iloadN X2.here hx rfl (hb hby at_29) rfl ?_
    show Steps p.tables e below (T2.setTop (mkF m 30 #[.val (.int p1), .val (.int qq), .val (.int qq)] [(.int qq)])) _
    refine XS.iloadN X2.here hx rfl (hb hby at_30) rfl ?_
    show Steps p.tables e below (T2.setTop (mkF m 31 #[.val (.int p1), .val (.int qq), .val (.int qq)] [(.int qq), (.int qq)])) _
    refine XS.iconst X2.here hx rfl (hb hby at_31) ?_
    show Steps p.tables e below (T2.setTop (mkF m 32 #[.val (.int p1), .val (.int qq), .val (.int qq)] [(.int (5 : Int32)), (.int qq), (.int qq)])) _
    refine XS.ishl X2.here hx rfl (hb hby at_32) rfl ?_
    show Steps p.tables e below (T2.setTop (mkF m 33 #[.val (.int p1), .val (.int qq), .val (.int qq)] [(.int (qq <<< ((5 : Int32) &&& 31))), (.int qq)])) _
    refine XS.ixor X2.here hx rfl (hb hby at_33) rfl ?_
    show Steps p.tables e below (T2.setTop (mkF m 34 #[.val (.int p1), .val (.int qq), .val (.int qq)] [(.int (own_l 5 qq))])) _
    refine XS.istoreN X2.here hx rfl (hb hby at_34) rfl (l' := #[.val (.int p1), .val (.int qq), .val (.int (own_l 5 qq))]) rfl ?_
    show Steps p.tables e below (T2.setTop (mkF m 35 #[.val (.int p1), .val (.int qq), .val (.int (own_l 5 qq))] [])) _
    refine XS.iloadN X2.here hx rfl (hb hby at_35) rfl ?_
    show Steps p.tables e below (T2.setTop (mkF m 36 #[.val (.int p1), .val (.int qq), .val (.int (own_l 5 qq))] [(.int (own_l 5 qq))])) _
    refine XS.iloadN X2.here hx rfl (hb hby at_36) rfl ?_
    show Steps p.tables e below (T2.setTop (mkF m 37 #[.val (.int p1), .val (.int qq), .val (.int (own_l 5 qq))] [(.int (own_l 5 qq)), (.int (own_l 5 qq))])) _
    refine XS.bipush X2.here hx rfl (hb hby at_37) ?_
    show Steps p.tables e below (T2.setTop (mkF m 39 #[.val (.int p1), .val (.int qq), .val (.int (own_l 5 qq))] [(.int (10 : Int32)), (.int (own_l 5 qq)), (.int (own_l 5 qq))])) _
    refine XS.ishl X2.here hx rfl (hb hby at_39) rfl ?_
    show Steps p.tables e below (T2.setTop (mkF m 40 #[.val (.int p1), .val (.int qq), .val (.int (own_l 5 qq))] [(.int ((own_l 5 qq) <<< ((10 : Int32) &&& 31))), (.int (own_l 5 qq))])) _
    refine XS.ixor X2.here hx rfl (hb hby at_40) rfl ?_
    show Steps p.tables e below (T2.setTop (mkF m 41 #[.val (.int p1), .val (.int qq), .val (.int (own_l 5 qq))] [(.int (own_l 10 (own_l 5 qq)))])) _
    refine XS.istoreN X2.here hx rfl (hb hby at_41) rfl (l' := #[.val (.int p1), .val (.int qq), .val (.int (own_l 10 (own_l 5 qq)))]) rfl ?_
    show Steps p.tables e below (T2.setTop (mkF m 42 #[.val (.int p1), .val (.int qq), .val (.int (own_l 10 (own_l 5 qq)))] [])) _
    refine XS.iloadN X2.here hx rfl (hb hby at_42) rfl ?_
    show Steps p.tables e below (T2.setTop (mkF m 43 #[.val (.int p1), .val (.int qq), .val (.int (own_l 10 (own_l 5 qq)))] [(.int (own_l 10 (own_l 5 qq)))])) _
    refine XS.iloadN X2.here hx rfl (hb hby at_43) rfl ?_
    show Steps p.tables e below (T2.setTop (mkF m 44 #[.val (.int p1), .val (.int qq), .val (.int (own_l 10 (own_l 5 qq)))] [(.int (own_l 10 (own_l 5 qq))), (.int (own_l 10 (own_l 5 qq)))])) _
    refine XS.bipush X2.here hx rfl (hb hby at_44) ?_
    show Steps p.tables e below (T2.setTop (mkF m 46 #[.val (.int p1), .val (.int qq), .val (.int (own_l 10 (own_l 5 qq)))] [(.int (20 : Int32)), (.int (own_l 10 (own_l 5 qq))), (.int (own_l 10 (own_l 5 qq)))])) _
    refine XS.ishl X2.here hx rfl (hb hby at_46) rfl ?_
    show Steps p.tables e below (T2.setTop (mkF m 47 #[.val (.int p1), .val (.int qq), .val (.int (own_l 10 (own_l 5 qq)))] [(.int ((own_l 10 (own_l 5 qq)) <<< ((20 : Int32) &&& 31))), (.int (own_l 10 (own_l 5 qq)))])) _
    refine XS.ixor X2.here hx rfl (hb hby at_47) rfl ?_
    show Steps p.tables e below (T2.setTop (mkF m 48 #[.val (.int p1), .val (.int qq), .val (.int (own_l 10 (own_l 5 qq)))] [(.int (own_l 20 (own_l 10 (own_l 5 qq))))])) _
    refine XS.istoreN X2.here hx rfl (hb hby at_48) rfl (l' := #[.val (.int p1), .val (.int qq), .val (.int (own_l 20 (own_l 10 (own_l 5 qq))))]) rfl ?_
    show Steps p.tables e below (T2.setTop (mkF m 49 #[.val (.int p1), .val (.int qq), .val (.int (own_l 20 (own_l 10 (own_l 5 qq))))] [])) _
    refine XS.iloadN X2.here hx rfl (hb hby at_49) rfl ?_
    show Steps p.tables e below (T2.setTop (mkF m 50 #[.val (.int p1), .val (.int qq), .val (.int (own_l 20 (own_l 10 (own_l 5 qq))))] [(.int (own_l 20 (own_l 10 (own_l 5 qq))))])) _
    refine XS.iloadN X2.here hx rfl (hb hby at_50) rfl ?_
    show Steps p.tables e below (T2.setTop (mkF m 51 #[.val (.int p1), .val (.int qq), .val (.int (own_l 20 (own_l 10 (own_l 5 qq))))] [(.int (own_l 20 (own_l 10 (own_l 5 qq)))), (.int (own_l 20 (own_l 10 (own_l 5 qq))))])) _
    refine XS.bipush X2.here hx rfl (hb hby at_51) ?_
    show Steps p.tables e below (T2.setTop (mkF m 53 #[.val (.int p1), .val (.int qq), .val (.int (own_l 20 (own_l 10 (own_l 5 qq))))] [(.int (17 : Int32)), (.int (own_l 20 (own_l 10 (own_l 5 qq)))), (.int (own_l 20 (own_l 10 (own_l 5 qq))))])) _
    refine XS.iushr X2.here hx rfl (hb hby at_53) rfl ?_
    show Steps p.tables e below (T2.setTop (mkF m 54 #[.val (.int p1), .val (.int qq), .val (.int (own_l 20 (own_l 10 (own_l 5 qq))))] [(.int (((own_l 20 (own_l 10 (own_l 5 qq))).toUInt32 >>> ((17 : Int32) &&& 31).toUInt32).toInt32)), (.int (own_l 20 (own_l 10 (own_l 5 qq))))])) _
    refine XS.ixor X2.here hx rfl (hb hby at_54) rfl ?_
    show Steps p.tables e below (T2.setTop (mkF m 55 #[.val (.int p1), .val (.int qq), .val (.int (own_l 20 (own_l 10 (own_l 5 qq))))] [(.int (own_r 17 (own_l 20 (own_l 10 (own_l 5 qq)))))])) _
    refine XS.istoreN X2.here hx rfl (hb hby at_55) rfl (l' := #[.val (.int p1), .val (.int qq), .val (.int (own_r 17 (own_l 20 (own_l 10 (own_l 5 qq)))))]) rfl ?_
    show Steps p.tables e below (T2.setTop (mkF m 56 #[.val (.int p1), .val (.int qq), .val (.int (own_r 17 (own_l 20 (own_l 10 (own_l 5 qq)))))] [])) _
    refine XS.iloadN X2.here hx rfl (hb hby at_56) rfl ?_
    show Steps p.tables e below (T2.setTop (mkF m 57 #[.val (.int p1), .val (.int qq), .val (.int (own_r 17 (own_l 20 (own_l 10 (own_l 5 qq)))))] [(.int (own_r 17 (own_l 20 (own_l 10 (own_l 5 qq)))))])) _
    refine XS.iloadN X2.here hx rfl (hb hby at_57) rfl ?_
    show Steps p.tables e below (T2.setTop (mkF m 58 #[.val (.int p1), .val (.int qq), .val (.int (own_r 17 (own_l 20 (own_l 10 (own_l 5 qq)))))] [(.int (own_r 17 (own_l 20 (own_l 10 (own_l 5 qq))))), (.int (own_r 17 (own_l 20 (own_l 10 (own_l 5 qq)))))])) _
    refine XS.bipush X2.here hx rfl (hb hby at_58) ?_
    show Steps p.tables e below (T2.setTop (mkF m 60 #[.val (.int p1), .val (.int qq), .val (.int (own_r 17 (own_l 20 (own_l 10 (own_l 5 qq)))))] [(.int (13 : Int32)), (.int (own_r 17 (own_l 20 (own_l 10 (own_l 5 qq))))), (.int (own_r 17 (own_l 20 (own_l 10 (own_l 5 qq)))))])) _
    refine XS.ishl X2.here hx rfl (hb hby at_60) rfl ?_
    show Steps p.tables e below (T2.setTop (mkF m 61 #[.val (.int p1), .val (.int qq), .val (.int (own_r 17 (own_l 20 (own_l 10 (own_l 5 qq)))))] [(.int ((own_r 17 (own_l 20 (own_l 10 (own_l 5 qq)))) <<< ((13 : Int32) &&& 31))), (.int (own_r 17 (own_l 20 (own_l 10 (own_l 5 qq)))))])) _
    refine XS.ixor X2.here hx rfl (hb hby at_61) rfl ?_
    show Steps p.tables e below (T2.setTop (mkF m 62 #[.val (.int p1), .val (.int qq), .val (.int (own_r 17 (own_l 20 (own_l 10 (own_l 5 qq)))))] [(.int (own_l 13 (own_r 17 (own_l 20 (own_l 10 (own_l 5 qq))))))])) _
    refine XS.istoreN X2.here hx rfl (hb hby at_62) rfl (l' := #[.val (.int p1), .val (.int qq), .val (.int (own_l 13 (own_r 17 (own_l 20 (own_l 10 (own_l 5 qq))))))]) rfl ?_
    show Steps p.tables e below (T2.setTop (mkF m 63 #[.val (.int p1), .val (.int qq), .val (.int (own_l 13 (own_r 17 (own_l 20 (own_l 10 (own_l 5 qq))))))] [])) _
    refine XS.iloadN X2.here hx rfl (hb hby at_63) rfl ?_
    show Steps p.tables e below (T2.setTop (mkF m 64 #[.val (.int p1), .val (.int qq), .val (.int (own_l 13 (own_r 17 (own_l 20 (own_l 10 (own_l 5 qq))))))] [(.int (own_l 13 (own_r 17 (own_l 20 (own_l 10 (own_l 5 qq))))))])) _
    refine XS.iloadN X2.here hx rfl (hb hby at_64) rfl ?_
    show Steps p.tables e below (T2.setTop (mkF m 65 #[.val (.int p1), .val (.int qq), .val (.int (own_l 13 (own_r 17 (own_l 20 (own_l 10 (own_l 5 qq))))))] [(.int (own_l 13 (own_r 17 (own_l 20 (own_l 10 (own_l 5 qq)))))), (.int (own_l 13 (own_r 17 (own_l 20 (own_l 10 (own_l 5 qq))))))])) _
    refine XS.bipush X2.here hx rfl (hb hby at_65) ?_
    show Steps p.tables e below (T2.setTop (mkF m 67 #[.val (.int p1), .val (.int qq), .val (.int (own_l 13 (own_r 17 (own_l 20 (own_l 10 (own_l 5 qq))))))] [(.int (26 : Int32)), (.int (own_l 13 (own_r 17 (own_l 20 (own_l 10 (own_l 5 qq)))))), (.int (own_l 13 (own_r 17 (own_l 20 (own_l 10 (own_l 5 qq))))))])) _
    refine XS.ishl X2.here hx rfl (hb hby at_67) rfl ?_
    show Steps p.tables e below (T2.setTop (mkF m 68 #[.val (.int p1), .val (.int qq), .val (.int (own_l 13 (own_r 17 (own_l 20 (own_l 10 (own_l 5 qq))))))] [(.int ((own_l 13 (own_r 17 (own_l 20 (own_l 10 (own_l 5 qq))))) <<< ((26 : Int32) &&& 31))), (.int (own_l 13 (own_r 17 (own_l 20 (own_l 10 (own_l 5 qq))))))])) _
    refine XS.ixor X2.here hx rfl (hb hby at_68) rfl ?_
    show Steps p.tables e below (T2.setTop (mkF m 69 #[.val (.int p1), .val (.int qq), .val (.int (own_l 13 (own_r 17 (own_l 20 (own_l 10 (own_l 5 qq))))))] [(.int (own_l 26 (own_l 13 (own_r 17 (own_l 20 (own_l 10 (own_l 5 qq)))))))])) _
    refine XS.istoreN X2.here hx rfl (hb hby at_69) rfl (l' := #[.val (.int p1), .val (.int qq), .val (.int (own_l 26 (own_l 13 (own_r 17 (own_l 20 (own_l 10 (own_l 5 qq)))))))]) rfl ?_
    show Steps p.tables e below (T2.setTop (mkF m 70 #[.val (.int p1), .val (.int qq), .val (.int (own_l 26 (own_l 13 (own_r 17 (own_l 20 (own_l 10 (own_l 5 qq)))))))] [])) _
    refine XS.iloadN X2.here hx rfl (hb hby at_70) rfl ?_
    show Steps p.tables e below (T2.setTop (mkF m 71 #[.val (.int p1), .val (.int qq), .val (.int (own_l 26 (own_l 13 (own_r 17 (own_l 20 (own_l 10 (own_l 5 qq)))))))] [(.int (own_l 26 (own_l 13 (own_r 17 (own_l 20 (own_l 10 (own_l 5 qq)))))))])) _
    refine XS.iloadN X2.here hx rfl (hb hby at_71) rfl ?_
    show Steps p.tables e below (T2.setTop (mkF m 72 #[.val (.int p1), .val (.int qq), .val (.int (own_l 26 (own_l 13 (own_r 17 (own_l 20 (own_l 10 (own_l 5 qq)))))))] [(.int p1), (.int (own_l 26 (own_l 13 (own_r 17 (own_l 20 (own_l 10 (own_l 5 qq)))))))])) _
    refine XS.icmpNo X2.here hx rfl (hb hby at_72) rfl (teq ((by rw [hqq]; exact own_next_un p1 hc12) : (own_l 26 (own_l 13 (own_r 17 (own_l 20 (own_l 10 (own_l 5 qq)))))) = p1)).2 ?_
    show Steps p.tables e below (T2.setTop (mkF m 75 #[.val (.int p1), .val (.int qq), .val (.int (own_l 26 (own_l 13 (own_r 17 (own_l 20 (own_l 10 (own_l 5 qq)))))))] [])) _
    refine XS.iconst X2.here hx rfl (hb hby at_75) ?_
    show Steps p.tables e below (T2.setTop (mkF m 76 #[.val (.int p1), .val (.int qq), .val (.int (own_l 26 (own_l 13 (own_r 17 (own_l 20 (own_l 10 (own_l 5 qq)))))))] [(.int (1 : Int32))])) _
    refine XS.goto X2.here hx rfl (pc0 := 76) (pc' := 80) rfl (hb hby at_76) (by decide) (by decide) ?_
    show Steps p.tables e below (T2.setTop (mkF m 80 #[.val (.int p1), .val (.int qq), .val (.int (own_l 26 (own_l 13 (own_r 17 (own_l 20 (own_l 10 (own_l 5 qq)))))))] [(.int (1 : Int32))])) _
    exact retN X2 hx (t := .boolean) Bd.returns (by simp) (hb hby at_80) hr
  · show QL n0 _ T2.heap _
    exact ⟨rfl, N2⟩
theorem rm0 (l : Launch) (Z : State) (a0 : Array Value) (hw : ∀ d ∈ tables_1, d.before a0 Z = true) (ws : List Jvm.Cond) (p1 : Int32) (h0 : Heap) (n0 : Nat) (Z0 : n0 ≤ h0.size) :
    MetFree l x (head1 (Jvm.Cond.code x code maxLocals ret :: ws) room_1) (fun a U => a = #[(.int p1)] ∧ Z.Warmed39 U.vm ∧ U.heap = h0) (fun _ _ _ _ _ => True) (fun _ U o U' => ∃ v L, o = .returned v ∧ QL n0 v U'.heap L ∧ FrameEnd U o U' L room_1.cells room_1.slots) := by
  by_cases h : p1 = 0
  · exact rm0z l Z a0 hw ws p1 h0 n0 Z0 h
  · exact rm0n l Z a0 hw ws p1 h0 n0 Z0 h
set_option maxRecDepth 65536 in
set_option maxHeartbeats 40000000 in
theorem comes_1 {Post : Tables → Env → Array Value → State → Outcome → State → Prop} (hpost : ∀ tb e args s v u, (limb_1_1.after args s (.returned v) u = true ∧ limb_1_2.after args s (.returned v) u = true ∧ True) → FrameEnd s (.returned v) u (Jvm.fieldLocs frame_1_writes args s ++ Jvm.arrayLocs frame_1_arrays args s ++ Jvm.staticLocs frame_1_statics s) 0 0 → Post tb e args s (.returned v) u) :
    ArmFor flags0 classFile x code maxLocals ret World_1 tables_1 room_1 Calls_1 rest_1 Pre_1 Post := by
  intro l hfl _ _ p e ha hc hk s m args below hf hA hF happ hP
  obtain ⟨hcalls, hrest, hpre⟩ := hP
  obtain ⟨-, -, -, hnamed, -, -, -, hat⟩ := (Spec.applies_iff hf).mp happ
  obtain ⟨hg, hn⟩ := and_e (Cond.before_iff.mp (show (Jvm.Cond.and given_1 narrow_1).before args s = true from hpre))
  obtain ⟨g3, g4⟩ := and_e hg
  obtain ⟨w0, rfl⟩ : ∃ w0 : Value, args = #[w0] := by
    have hs : args.size = 1 := by simpa [Cond.value, given_1] using g3
    obtain ⟨L⟩ := args
    match L, hs with
    | [w0], _ => exact ⟨w0, rfl⟩
  have hw := fun d (hd : d ∈ tables_1) => atoms_spec (ws := Jvm.Cond.code x code maxLocals ret :: tables_1) hat d (List.mem_cons_of_mem _ hd)
  have hfit : Fit s := fun {y c} hc i hi => by
    obtain ⟨ha, rfl⟩ := Array.getElem?_eq_some_iff.mp hc
    have q := List.all_eq_true.mp ((Array.all_eq_true_iff_forall_mem.mp hF) _ (Array.getElem_mem ha)) i (List.mem_range.mpr hi)
    simpa [Array.getElem?_eq_getElem hi] using q
  obtain ⟨i0, ei0⟩ := is_v g4
  obtain rfl : w0 = (.int i0) := Option.some.inj ei0
  obtain ⟨n, o, h1, h2, h3, _, L, rfl, ⟨rfl, N⟩, hq⟩ := rm0 l s _ hw tables_1 i0 s.heap s.heap.size (Nat.le_refl _) p e ha hc hk s m _ below hf ((Spec.applies_iff_loose hf).mp happ).1 ⟨rfl, State.Warmed39.refl s, rfl⟩ trivial
  refine ⟨n, _, h1, h2, h3, hpost _ _ _ _ _ _ ⟨Cond.after_iff.mpr rfl, Cond.after_iff.mpr (eq_i res_at (Term.int_eval (1)) rfl), trivial⟩ ⟨hq.1, hq.2.1, (hq.2.2.sift fun y hy => Or.inr (N y hy)).mono (by decide) (by decide)⟩⟩
theorem main_1_1 : Claimed_1_1 := comes_1 fun _ _ _ _ _ _ h hF => ⟨h.1, hF⟩
theorem main_1_2 : Claimed_1_2 := comes_1 fun _ _ _ _ _ _ h hF => ⟨h.2.1, hF⟩
end Jvm.Pilot.@@N@@
namespace Jvm.Pilot.@@N@@
open Jvm Jvm.ClassFile Sem Op Lib Jvm.Free Jvm.Stand Jvm.Pilot.@@N@@.Jvm.D
/-! MADE BY PROGRAM (witnessworld.py) out of the Statement's table words and the real class files: 7 classes; the members and pool entries that the words name. The judged class is class 1, her method 1. -/
namespace start1
open Jvm.ClassFile
def u (s : String) : CpInfo := .utf8 (stringToUtf16 s)
/-- a pool by its gaps: so many unusable entries, then the entry; so many at the end -/
def gap : Nat → List CpInfo → List CpInfo
  | 0, r => r
  | n + 1, r => .unusable :: gap n r
def poolList (es : List (Nat × CpInfo)) (last : Nat) : List CpInfo := es.foldr (fun e r => gap e.1 (e.2 :: r)) (gap last [])
def pool (es : List (Nat × CpInfo)) (last : Nat) : Array CpInfo := ⟨poolList es last⟩
def fileOf (pool : Array CpInfo) (this : Nat) (attrs : Array Attribute := #[]) (ms : Array MethodInfo := #[]) (fl : Nat := 33) (sup : Nat := 0) (ifs : Array Nat := #[]) (fds : Array FieldInfo := #[]) : ClassFile where
  minorVersion := 0
  majorVersion := 65
  constantPool := pool
  accessFlags := fl
  thisClass := this
  superClass := sup
  interfaces := ifs
  fields := fds
  methods := ms
  attributes := attrs
def plain (name : String) (sup : Option ClassId) : Class where
  name := name
  kind := .ordinary
  loader := none
  accessFlags := 33
  super := sup
  interfaces := #[]
  cf := none
  fields := #[]
  methods := #[]
  instanceTypes := #[]
  staticTypes := #[]
  resolved := #[]
  callSites := []
  init := .initialized
  statics := none
  mirror := none

def pool0 : Array CpInfo := pool [(5, u "<init>"), (0, u "()V"), (1, .class_ 10), (1, u "java/lang/Object")] 113

def k0m0 : Method := { name := "<init>", desc := "()V", sig := { parameters := [], returnType := none }, accessFlags := 1, code := none }
/-- java/lang/Object -/
def k0 : Class := { plain "java/lang/Object" none with
  accessFlags := 33
  interfaces := #[]
  cf := some (fileOf pool0 8 #[] #[{ accessFlags := 1, nameIndex := 5, descriptorIndex := 6, attributes := #[] }] 33 0 #[] #[])
  fields := #[]
  methods := #[k0m0]
  instanceTypes := #[]
  staticTypes := #[]
  resolved := Array.replicate 124 none
  statics := none }

def pool1 : Array CpInfo := pool [(2, .class_ 4), (1, u "java/lang/Object"), (0, u "<init>"), (0, u "()V"), (0, .methodref 8 9), (0, .class_ 10), (0, .nameAndType 11 12), (0, u "com/example/latchwork/latchwork/locks/SpreadCount"), (0, u "nextProbe"), (0, u "(I)I"), (0, .integer 2654435769), (0, .class_ 15), (0, u "com/example/latchwork/latchwork/locks/SpreadCountNextProbePinLaw"), (2, u "law"), (0, u "(I)Z")] 3

def k1m0 : Method := { name := "<init>", desc := "()V", sig := { parameters := [], returnType := none }, accessFlags := 1, code := none }
def k1c1 : Code := { maxStack := 3, maxLocals := 3, code := code, exceptionTable := #[], attributes := #[] }
def k1m1 : Method := { name := "law", desc := "(I)Z", sig := { parameters := [.int], returnType := some .boolean }, accessFlags := 9, code := some k1c1 }
/-- com/example/latchwork/latchwork/locks/SpreadCountNextProbePinLaw -/
def k1 : Class := { plain "com/example/latchwork/latchwork/locks/SpreadCountNextProbePinLaw" (some 0) with
  accessFlags := 49
  interfaces := #[]
  cf := some (fileOf pool1 14 #[] #[{ accessFlags := 1, nameIndex := 5, descriptorIndex := 6, attributes := #[] }, { accessFlags := 9, nameIndex := 18, descriptorIndex := 19, attributes := #[] }] 49 2 #[] #[])
  fields := #[]
  methods := #[k1m0, k1m1]
  instanceTypes := #[]
  staticTypes := #[]
  resolved := Array.replicate 23 none
  statics := none }

def pool2 : Array CpInfo := pool [(2, .class_ 4), (1, u "java/lang/Object"), (0, u "<init>"), (0, u "()V"), (0, .class_ 8), (0, u "com/example/latchwork/latchwork/locks/SpreadCount"), (2, u "SLOTS"), (0, u "I"), (2, u "slots"), (0, u "[J"), (2, u "PROBES"), (0, u "Ljava/util/concurrent/atomic/AtomicInteger;"), (0, .integer 2654435769), (5, u "(I)I"), (2, u "SLOT"), (0, u "Ljava/lang/invoke/VarHandle;"), (39, u "MAX_SLOTS"), (2, u "STRIDE"), (0, u "PROBE_STEP"), (3, u "nextProbe")] 9

def k2m0 : Method := { name := "<init>", desc := "()V", sig := { parameters := [], returnType := none }, accessFlags := 0, code := none }
def k2c1 : Code := { maxStack := 3, maxLocals := 2, code := prog_15_method_3_code, exceptionTable := #[], attributes := #[] }
def k2m1 : Method := { name := "nextProbe", desc := "(I)I", sig := { parameters := [.int], returnType := some .int }, accessFlags := 8, code := some k2c1 }
/-- com/example/latchwork/latchwork/locks/SpreadCount -/
def k2 : Class := { plain "com/example/latchwork/latchwork/locks/SpreadCount" (some 0) with
  accessFlags := 48
  interfaces := #[]
  cf := some (fileOf pool2 7 #[] #[{ accessFlags := 0, nameIndex := 5, descriptorIndex := 6, attributes := #[] }, { accessFlags := 8, nameIndex := 79, descriptorIndex := 27, attributes := #[] }] 48 2 #[] #[{ accessFlags := 24, nameIndex := 71, descriptorIndex := 12, attributes := #[] }, { accessFlags := 26, nameIndex := 11, descriptorIndex := 12, attributes := #[] }, { accessFlags := 26, nameIndex := 74, descriptorIndex := 12, attributes := #[] }, { accessFlags := 26, nameIndex := 75, descriptorIndex := 12, attributes := #[] }, { accessFlags := 26, nameIndex := 30, descriptorIndex := 31, attributes := #[] }, { accessFlags := 26, nameIndex := 19, descriptorIndex := 20, attributes := #[] }, { accessFlags := 18, nameIndex := 15, descriptorIndex := 16, attributes := #[] }])
  fields := #[{ name := "MAX_SLOTS", type := .int, accessFlags := 24, slot := 0, constantValue := 0 }, { name := "SLOTS", type := .int, accessFlags := 26, slot := 1, constantValue := 0 }, { name := "STRIDE", type := .int, accessFlags := 26, slot := 2, constantValue := 0 }, { name := "PROBE_STEP", type := .int, accessFlags := 26, slot := 3, constantValue := 0 }, { name := "SLOT", type := (.object "java/lang/invoke/VarHandle"), accessFlags := 26, slot := 4, constantValue := 0 }, { name := "PROBES", type := (.object "java/util/concurrent/atomic/AtomicInteger"), accessFlags := 26, slot := 5, constantValue := 0 }, { name := "slots", type := (.array .long), accessFlags := 18, slot := 0, constantValue := 0 }]
  methods := #[k2m0, k2m1]
  instanceTypes := #[(.array .long)]
  staticTypes := #[.int, .int, .int, .int, (.object "java/lang/invoke/VarHandle"), (.object "java/util/concurrent/atomic/AtomicInteger")]
  resolved := Array.replicate 89 none
  statics := none }

def pool3 : Array CpInfo := pool [(1, u "java/lang/Cloneable"), (0, .class_ 1), (0, u "java/lang/Object"), (0, .class_ 3)] 3

/-- java/lang/Cloneable -/
def k3 : Class := { plain "java/lang/Cloneable" (some 0) with
  accessFlags := 1537
  interfaces := #[]
  cf := some (fileOf pool3 2 #[] #[] 1537 4 #[] #[])
  fields := #[]
  methods := #[]
  instanceTypes := #[]
  staticTypes := #[]
  resolved := Array.replicate 8 none
  statics := none }

def pool4 : Array CpInfo := pool [(1, u "java/io/Serializable"), (0, .class_ 1), (0, u "java/lang/Object"), (0, .class_ 3)] 3

/-- java/io/Serializable -/
def k4 : Class := { plain "java/io/Serializable" (some 0) with
  accessFlags := 1537
  interfaces := #[]
  cf := some (fileOf pool4 2 #[] #[] 1537 4 #[] #[])
  fields := #[]
  methods := #[]
  instanceTypes := #[]
  staticTypes := #[]
  resolved := Array.replicate 8 none
  statics := none }

/-- the primitive byte -/
def k5 : Class := { plain "byte" none with kind := .primitive 'B', accessFlags := 0x411 }
/-- [B -/
def k6 : Class := { plain "[B" (some 0) with kind := .array 5 .byte, interfaces := #[3, 4], accessFlags := 1041 }

def heap : Heap := #[]
def classes : Array Class := #[k0, k1, k2, k3, k4, k5, k6]
def interned : List (Array UInt16 × Addr) := []
def slotsUsed : Nat := 0
def theMethod : MethodId := ⟨1, 1⟩
def args0 : Array Value := #[.int 5]
def aboutOver (below : List Frame) : State where
  vm := { classes := classes, interned := interned.toArray }
  heap := heap
  slotsUsed := slotsUsed
  threads := #[{ frames := .invoking theMethod args0 :: below }]
def below0 : List Frame := [.native { method := ⟨0, 0⟩, args := #[] }]
def about1 : State := aboutOver below0
def p0 : Program := .bare "" "" ""
def e0 : Env := launch0.env 0 0 0
theorem w_frames : about1.frames = Frame.invoking theMethod args0 :: below0 := rfl
set_option maxRecDepth 65536 in
theorem w_args : argsFit about1.vm theMethod args0 = true := by decide +kernel
set_option maxRecDepth 65536 in
theorem w_heap : heapFits about1 = true := by decide +kernel
set_option maxRecDepth 65536 in
theorem w_runnable : about1.curStatus? = some .runnable := by decide +kernel
set_option maxRecDepth 65536 in
theorem w_alone : about1.alone = true := by decide +kernel
set_option maxRecDepth 65536 in
theorem w_named : about1.methodNamed? x = some theMethod := by decide +kernel
set_option maxRecDepth 65536 in
theorem w_hears : about1.hears theMethod below0 = true := by decide +kernel
set_option maxRecDepth 65536 in
theorem w_ripe : about1.ripe theMethod args0 below0 = true := by decide +kernel
theorem w_running : about1.status = .running := rfl
set_option maxRecDepth 65536 in
theorem w_room : about1.hasRoom e0.platform room_1 = true :=
  launch0.hasRoom_least _ room_1 (by decide +kernel) (by decide +kernel) (by decide +kernel) (by decide +kernel) (by decide +kernel) (by decide +kernel)
theorem allAtoms_all (ts : List Jvm.Cond) (a : Array Jvm.Value) (st : Jvm.State) : (allAtoms ts).before a st = ts.all (fun c => c.before a st) := by
  induction ts with
  | nil => rfl
  | cons c t ih =>
    show (Jvm.Cond.and c (allAtoms t)).before a st = _
    rw [Jvm.Cond.before_and, ih, List.all_cons]
def words1 : List Jvm.Cond := Jvm.Cond.code x code maxLocals ret :: tables_1
/-- a 'code' word, met by the world's own term for the bytes: nothing is compared byte by byte -/
theorem code_word {y : MethodName} {bytes : ByteArray} {mx : Nat} {rt : Option FieldType} {a : Array Value} {s : State} {m : MethodId} {meth : Method} {c : Code} (h1 : s.methodNamed? y = some m) (h2 : s.vm.method? m = some meth) (h3 : meth.code = some c) (h4 : c.code = bytes)
    (h5 : (c.maxLocals == mx && c.exceptionTable.isEmpty && decide (c.maxStack ≤ mostOperands) && decide (meth.sig.returnType = rt) && !meth.locks && decide (parseMethodDescriptor y.desc = some meth.sig)) = true) : (Jvm.Cond.code y bytes mx rt).before a s = true := by
  simp only [Bool.and_eq_true, beq_iff_eq, Bool.not_eq_true', decide_eq_true_eq] at h5
  obtain ⟨⟨⟨⟨⟨g1, g2⟩, g3⟩, g4⟩, g5⟩, g6⟩ := h5
  simp [Cond.before, Cond.holds, Cond.value, h1, h2, h3, h4, g1, g2, g3, g4, g5, g6]
def isCode : Jvm.Cond → Bool
  | .code _ _ _ _ => true
  | _ => false
theorem all_split {L : List Jvm.Cond} {P : Jvm.Cond → Bool} (h1 : L.all (fun c => isCode c || P c) = true) (h2 : ∀ c ∈ L.filter isCode, P c = true) : L.all P = true := by
  refine List.all_eq_true.mpr fun c hc => ?_
  have h := List.all_eq_true.mp h1 c hc
  rcases Bool.eq_false_or_eq_true (isCode c) with hi | hi
  · exact h2 c (List.mem_filter.mpr ⟨hc, hi⟩)
  · simpa [hi] using h
set_option maxRecDepth 65536 in
theorem w_c0 : (Jvm.Cond.code x code maxLocals ret).before args0 about1 = true := code_word (m := ⟨1, 1⟩) (meth := k1m1) (c := k1c1) (by decide +kernel) rfl rfl rfl (by decide +kernel)
set_option maxRecDepth 65536 in
theorem w_c1 : (Jvm.Cond.code ({ cls := "com/example/latchwork/latchwork/locks/SpreadCount", name := "nextProbe", desc := "(I)I" } : Jvm.MethodName) prog_15_method_3_code (2 : Nat) (Option.some Jvm.ClassFile.FieldType.int)).before args0 about1 = true := code_word (m := ⟨2, 1⟩) (meth := k2m1) (c := k2c1) (by decide +kernel) rfl rfl rfl (by decide +kernel)
def codes1 : List Jvm.Cond := [Jvm.Cond.code x code maxLocals ret, Jvm.Cond.code ({ cls := "com/example/latchwork/latchwork/locks/SpreadCount", name := "nextProbe", desc := "(I)I" } : Jvm.MethodName) prog_15_method_3_code (2 : Nat) (Option.some Jvm.ClassFile.FieldType.int)]
set_option maxRecDepth 65536 in
theorem codes_eq : words1.filter isCode = codes1 := rfl
theorem w_codes : ∀ c ∈ words1.filter isCode, c.before args0 about1 = true := by
  rw [codes_eq]
  intro c hc
  simp only [codes1, List.mem_cons, List.not_mem_nil, or_false] at hc
  rcases hc with rfl | rfl
  · exact w_c0
  · exact w_c1
set_option maxRecDepth 65536 in
theorem w_t1 : words1.all (fun c => isCode c || c.before args0 about1) = true := by decide +kernel
theorem w_tables : (allAtoms (Jvm.Cond.code x code maxLocals ret :: tables_1)).before args0 about1 = true := by
  rw [allAtoms_all]
  show words1.all (fun c => c.before args0 about1) = true
  refine all_split ?_ w_codes
  rw [w_t1]
set_option maxRecDepth 65536 in
theorem w_case : (Jvm.Cond.and given_1 narrow_1).before args0 about1 = true := by decide +kernel
theorem w_applies : (headSpec (Jvm.Cond.code x code maxLocals ret :: tables_1) room_1).applies x e0.platform about1 = true :=
  (Spec.applies_iff w_frames).mpr ⟨w_running, w_runnable, w_alone, w_named, w_hears, w_ripe, w_room, w_tables⟩
theorem atStart : AtStart classFile x code maxLocals ret World_1 tables_1 room_1 Calls_1 rest_1 Pre_1 launch0 p0 e0 about1 theMethod args0 below0 :=
  ⟨lists_1, trivial, launch0.admits_env _ _ _, launch0.least_env, fairChoices_fair.cas, fairChoices_fair.clock, w_frames, w_args, w_heap, w_applies, trivial, trivial, w_case⟩
end start1
theorem witness_1 : WitnessClaimed_1 := ⟨start1.p0, start1.e0, start1.about1, start1.theMethod, start1.args0, start1.below0, start1.atStart⟩
end Jvm.Pilot.@@N@@
